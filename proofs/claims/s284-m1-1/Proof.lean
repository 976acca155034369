import JvmDerived
import JvmDerived.Pilot.@@N@@Statement
import JvmDerived.Pilot.@@N@@Code
set_option linter.unusedVariables false
set_option linter.unusedSimpArgs false
namespace Jvm.RoadKit
open Sem ClassFile Op Lib Jvm.Stand Jvm.Free Jvm.LawKit
section New
variable {p : Program} {l : Launch} {e : Env} {R : Room} {s : State} {m : MethodId} {args : Array Value} {below : List Frame} {meth : Method} {c : Code} {T : State} {locs : List Loc} {cells slots : Nat}
theorem retI (X : Stand p l e R s m args below meth c T locs cells slots) (hx : p.tables.exec = Jvm.exec) {pc : Nat} {Ls : Array Slot} {z : Int32} {rest : List Value} (hret : meth.sig.returnType = some .int) (hd : decode c.code pc = .ok (.ireturn, 1)) {fs : List Frame}
    (hl : ∀ (f : JFrame) (acts : List Action), f.method = m → f.locked = none → f.entered = [] → (doReturn e (T.setTop f) acts (some (.int z))).1 = T.setFrames fs) : Steps p.tables e below (T.setTop (mkF m pc Ls (.int z :: rest))) (T.setFrames fs) := by
  have hm' : T.vm.method? m = some meth := X.method'
  have hn : narrow .int (.int z) = .int z := rfl
  show Steps p.tables e below (T.setTop { method := m, pc := pc, locals := Ls, stack := _ :: rest, locked := none }) _
  jvm_step X.here [X.here.top, hx, hd, hm', hret, hn]
  first | (intro acts; rw [hl _ acts rfl rfl rfl]) | rw [hl _ _ rfl rfl rfl]
  exact Steps.refl _
end New
end Jvm.RoadKit
namespace Jvm.Pilot.@@N@@
open Jvm Jvm.ClassFile Sem Op Lib Jvm.Free Jvm.Stand Jvm.LawKit Jvm.RoadKit Bundle Jvm.Pilot.@@N@@.Jvm.D

theorem pn_0 : plainName "com/example/ringward/ringward/Utf8" = true := by first | (simp [plainName, overriddenIn]; done) | decide +kernel
theorem d1_0 : decode prog_14_method_5_code 0 = .ok (.iload_n 0, 1) := by decide +kernel
theorem d1_1 : decode prog_14_method_5_code 1 = .ok (.sipush 128, 3) := by decide +kernel
theorem d1_4 : decode prog_14_method_5_code 4 = .ok (.if_icmp .ge 8, 3) := by decide +kernel
theorem d1_7 : decode prog_14_method_5_code 7 = .ok (.iload_n 0, 1) := by decide +kernel
theorem d1_8 : decode prog_14_method_5_code 8 = .ok (.istore_n 1, 1) := by decide +kernel
theorem d1_9 : decode prog_14_method_5_code 9 = .ok (.goto 130, 3) := by decide +kernel
theorem d1_12 : decode prog_14_method_5_code 12 = .ok (.iload_n 0, 1) := by decide +kernel
theorem d1_13 : decode prog_14_method_5_code 13 = .ok (.sipush 2048, 3) := by decide +kernel
theorem d1_16 : decode prog_14_method_5_code 16 = .ok (.if_icmp .ge 27, 3) := by decide +kernel
theorem d1_19 : decode prog_14_method_5_code 19 = .ok (.sipush 192, 3) := by decide +kernel
theorem d1_22 : decode prog_14_method_5_code 22 = .ok (.iload_n 0, 1) := by decide +kernel
theorem d1_23 : decode prog_14_method_5_code 23 = .ok (.bipush 6, 2) := by decide +kernel
theorem d1_25 : decode prog_14_method_5_code 25 = .ok (.iushr, 1) := by decide +kernel
theorem d1_26 : decode prog_14_method_5_code 26 = .ok (.ior, 1) := by decide +kernel
theorem d1_27 : decode prog_14_method_5_code 27 = .ok (.sipush 128, 3) := by decide +kernel
theorem d1_30 : decode prog_14_method_5_code 30 = .ok (.iload_n 0, 1) := by decide +kernel
theorem d1_31 : decode prog_14_method_5_code 31 = .ok (.bipush 63, 2) := by decide +kernel
theorem d1_33 : decode prog_14_method_5_code 33 = .ok (.iand, 1) := by decide +kernel
theorem d1_34 : decode prog_14_method_5_code 34 = .ok (.ior, 1) := by decide +kernel
theorem d1_35 : decode prog_14_method_5_code 35 = .ok (.bipush 8, 2) := by decide +kernel
theorem d1_37 : decode prog_14_method_5_code 37 = .ok (.ishl, 1) := by decide +kernel
theorem d1_38 : decode prog_14_method_5_code 38 = .ok (.ior, 1) := by decide +kernel
theorem d1_39 : decode prog_14_method_5_code 39 = .ok (.istore_n 1, 1) := by decide +kernel
theorem d1_40 : decode prog_14_method_5_code 40 = .ok (.goto 99, 3) := by decide +kernel
theorem d1_43 : decode prog_14_method_5_code 43 = .ok (.iload_n 0, 1) := by decide +kernel
theorem d1_44 : decode prog_14_method_5_code 44 = .ok (.ldc 47, 2) := by decide +kernel
theorem d1_46 : decode prog_14_method_5_code 46 = .ok (.if_icmp .ge 42, 3) := by decide +kernel
theorem d1_49 : decode prog_14_method_5_code 49 = .ok (.sipush 224, 3) := by decide +kernel
theorem d1_52 : decode prog_14_method_5_code 52 = .ok (.iload_n 0, 1) := by decide +kernel
theorem d1_53 : decode prog_14_method_5_code 53 = .ok (.bipush 12, 2) := by decide +kernel
theorem d1_55 : decode prog_14_method_5_code 55 = .ok (.iushr, 1) := by decide +kernel
theorem d1_56 : decode prog_14_method_5_code 56 = .ok (.ior, 1) := by decide +kernel
theorem d1_57 : decode prog_14_method_5_code 57 = .ok (.sipush 128, 3) := by decide +kernel
theorem d1_60 : decode prog_14_method_5_code 60 = .ok (.iload_n 0, 1) := by decide +kernel
theorem d1_61 : decode prog_14_method_5_code 61 = .ok (.bipush 6, 2) := by decide +kernel
theorem d1_63 : decode prog_14_method_5_code 63 = .ok (.iushr, 1) := by decide +kernel
theorem d1_64 : decode prog_14_method_5_code 64 = .ok (.bipush 63, 2) := by decide +kernel
theorem d1_66 : decode prog_14_method_5_code 66 = .ok (.iand, 1) := by decide +kernel
theorem d1_67 : decode prog_14_method_5_code 67 = .ok (.ior, 1) := by decide +kernel
theorem d1_68 : decode prog_14_method_5_code 68 = .ok (.bipush 8, 2) := by decide +kernel
theorem d1_70 : decode prog_14_method_5_code 70 = .ok (.ishl, 1) := by decide +kernel
theorem d1_71 : decode prog_14_method_5_code 71 = .ok (.ior, 1) := by decide +kernel
theorem d1_72 : decode prog_14_method_5_code 72 = .ok (.sipush 128, 3) := by decide +kernel
theorem d1_75 : decode prog_14_method_5_code 75 = .ok (.iload_n 0, 1) := by decide +kernel
theorem d1_76 : decode prog_14_method_5_code 76 = .ok (.bipush 63, 2) := by decide +kernel
theorem d1_78 : decode prog_14_method_5_code 78 = .ok (.iand, 1) := by decide +kernel
theorem d1_79 : decode prog_14_method_5_code 79 = .ok (.ior, 1) := by decide +kernel
theorem d1_80 : decode prog_14_method_5_code 80 = .ok (.bipush 16, 2) := by decide +kernel
theorem d1_82 : decode prog_14_method_5_code 82 = .ok (.ishl, 1) := by decide +kernel
theorem d1_83 : decode prog_14_method_5_code 83 = .ok (.ior, 1) := by decide +kernel
theorem d1_84 : decode prog_14_method_5_code 84 = .ok (.istore_n 1, 1) := by decide +kernel
theorem d1_85 : decode prog_14_method_5_code 85 = .ok (.goto 54, 3) := by decide +kernel
theorem d1_88 : decode prog_14_method_5_code 88 = .ok (.sipush 240, 3) := by decide +kernel
theorem d1_91 : decode prog_14_method_5_code 91 = .ok (.iload_n 0, 1) := by decide +kernel
theorem d1_92 : decode prog_14_method_5_code 92 = .ok (.bipush 18, 2) := by decide +kernel
theorem d1_94 : decode prog_14_method_5_code 94 = .ok (.iushr, 1) := by decide +kernel
theorem d1_95 : decode prog_14_method_5_code 95 = .ok (.ior, 1) := by decide +kernel
theorem d1_96 : decode prog_14_method_5_code 96 = .ok (.sipush 128, 3) := by decide +kernel
theorem d1_99 : decode prog_14_method_5_code 99 = .ok (.iload_n 0, 1) := by decide +kernel
theorem d1_100 : decode prog_14_method_5_code 100 = .ok (.bipush 12, 2) := by decide +kernel
theorem d1_102 : decode prog_14_method_5_code 102 = .ok (.iushr, 1) := by decide +kernel
theorem d1_103 : decode prog_14_method_5_code 103 = .ok (.bipush 63, 2) := by decide +kernel
theorem d1_105 : decode prog_14_method_5_code 105 = .ok (.iand, 1) := by decide +kernel
theorem d1_106 : decode prog_14_method_5_code 106 = .ok (.ior, 1) := by decide +kernel
theorem d1_107 : decode prog_14_method_5_code 107 = .ok (.bipush 8, 2) := by decide +kernel
theorem d1_109 : decode prog_14_method_5_code 109 = .ok (.ishl, 1) := by decide +kernel
theorem d1_110 : decode prog_14_method_5_code 110 = .ok (.ior, 1) := by decide +kernel
theorem d1_111 : decode prog_14_method_5_code 111 = .ok (.sipush 128, 3) := by decide +kernel
theorem d1_114 : decode prog_14_method_5_code 114 = .ok (.iload_n 0, 1) := by decide +kernel
theorem d1_115 : decode prog_14_method_5_code 115 = .ok (.bipush 6, 2) := by decide +kernel
theorem d1_117 : decode prog_14_method_5_code 117 = .ok (.iushr, 1) := by decide +kernel
theorem d1_118 : decode prog_14_method_5_code 118 = .ok (.bipush 63, 2) := by decide +kernel
theorem d1_120 : decode prog_14_method_5_code 120 = .ok (.iand, 1) := by decide +kernel
theorem d1_121 : decode prog_14_method_5_code 121 = .ok (.ior, 1) := by decide +kernel
theorem d1_122 : decode prog_14_method_5_code 122 = .ok (.bipush 16, 2) := by decide +kernel
theorem d1_124 : decode prog_14_method_5_code 124 = .ok (.ishl, 1) := by decide +kernel
theorem d1_125 : decode prog_14_method_5_code 125 = .ok (.ior, 1) := by decide +kernel
theorem d1_126 : decode prog_14_method_5_code 126 = .ok (.sipush 128, 3) := by decide +kernel
theorem d1_129 : decode prog_14_method_5_code 129 = .ok (.iload_n 0, 1) := by decide +kernel
theorem d1_130 : decode prog_14_method_5_code 130 = .ok (.bipush 63, 2) := by decide +kernel
theorem d1_132 : decode prog_14_method_5_code 132 = .ok (.iand, 1) := by decide +kernel
theorem d1_133 : decode prog_14_method_5_code 133 = .ok (.ior, 1) := by decide +kernel
theorem d1_134 : decode prog_14_method_5_code 134 = .ok (.bipush 24, 2) := by decide +kernel
theorem d1_136 : decode prog_14_method_5_code 136 = .ok (.ishl, 1) := by decide +kernel
theorem d1_137 : decode prog_14_method_5_code 137 = .ok (.ior, 1) := by decide +kernel
theorem d1_138 : decode prog_14_method_5_code 138 = .ok (.istore_n 1, 1) := by decide +kernel
theorem d1_139 : decode prog_14_method_5_code 139 = .ok (.iload_n 1, 1) := by decide +kernel
theorem d1_140 : decode prog_14_method_5_code 140 = .ok (.ireturn, 1) := by decide +kernel
theorem ef_1 (m : MethodId) (x0 : Int32) : entryFrame m #[(.int x0)] 2 = mkF m 0 #[.val (.int x0), .unset] [] := by first | (simp [entryFrame, mkF, argsToLocals, Value.category]; done) | rfl
def f1_v39 (p1 : Int32) : Int32 := (((192 : Int32) ||| ((p1.toUInt32 >>> ((6 : Int32) &&& 31).toUInt32).toInt32)) ||| (((128 : Int32) ||| (p1 &&& (63 : Int32))) <<< ((8 : Int32) &&& 31)))
def f1_v84 (p1 : Int32) : Int32 := ((((224 : Int32) ||| ((p1.toUInt32 >>> ((12 : Int32) &&& 31).toUInt32).toInt32)) ||| (((128 : Int32) ||| (((p1.toUInt32 >>> ((6 : Int32) &&& 31).toUInt32).toInt32) &&& (63 : Int32))) <<< ((8 : Int32) &&& 31))) ||| (((128 : Int32) ||| (p1 &&& (63 : Int32))) <<< ((16 : Int32) &&& 31)))
def f1_v138 (p1 : Int32) : Int32 := (((((240 : Int32) ||| ((p1.toUInt32 >>> ((18 : Int32) &&& 31).toUInt32).toInt32)) ||| (((128 : Int32) ||| (((p1.toUInt32 >>> ((12 : Int32) &&& 31).toUInt32).toInt32) &&& (63 : Int32))) <<< ((8 : Int32) &&& 31))) ||| (((128 : Int32) ||| (((p1.toUInt32 >>> ((6 : Int32) &&& 31).toUInt32).toInt32) &&& (63 : Int32))) <<< ((16 : Int32) &&& 31))) ||| (((128 : Int32) ||| (p1 &&& (63 : Int32))) <<< ((24 : Int32) &&& 31)))
def f1 (p1 : Int32) : Int32 := (if p1 < (128 : Int32) then p1 else (if p1 < (2048 : Int32) then (f1_v39 p1) else (if p1 < (65536 : Int32) then (f1_v84 p1) else (f1_v138 p1))))
def Q1 (Z : State) (p1 : Int32) (h0 : Heap) (n0 : Nat) (v : Option Value) (h : Heap) (L : List Loc) : Prop := v = some (.int (f1 p1)) ∧ Fr n0 L ∧ h = h0
set_option maxRecDepth 65536 in
set_option maxHeartbeats 40000000 in
theorem rm1 (l : Launch) (Z : State) (a0 : Array Value) (hw : ∀ d ∈ tables_1, d.before a0 Z = true) (ws : List Jvm.Cond) (p1 : Int32) (h0 : Heap) (n0 : Nat) (Z0 : n0 ≤ h0.size) :
    MetFree l (⟨"com/example/ringward/ringward/Utf8", "encode", "(I)I"⟩ : MethodName) (head1 (Jvm.Cond.code (⟨"com/example/ringward/ringward/Utf8", "encode", "(I)I"⟩ : MethodName) prog_14_method_5_code 2 (some .int) :: ws) ({ frames := 0, cells := 0, slots := 0, locals := 0 } : Room)) (fun a U => a = #[(.int p1)] ∧ Z.Warmed39 U.vm ∧ U.heap = h0) (fun _ _ _ _ _ => True) (fun _ U o U' => ∃ v L, o = .returned v ∧ Q1 Z p1 h0 n0 v U'.heap L ∧ FrameEnd U o U' L ({ frames := 0, cells := 0, slots := 0, locals := 0 } : Room).cells ({ frames := 0, cells := 0, slots := 0, locals := 0 } : Room).slots) := by
  refine MetFree.of_bodySF (plainFor_of_name pn_0) hisR ?_
  intro p e s m args below meth c s₁ Bd hml0 hP hK
  obtain ⟨rfl, hZ, hh⟩ := hP
  have hx := Bd.exec
  have hby := Bd.bytes
  have hml : c.maxLocals = 2 := hml0
  have hown : s.vm.findClass "com/example/ringward/ringward/Utf8" = some m.cls := findClass_of_methodNamed Bd.named
  have hnm := (name_of_methodNamed Bd.named Bd.method).1
  have X0 : Stand p l e ({ frames := 0, cells := 0, slots := 0, locals := 0 } : Room) s m #[(.int p1)] below meth c s₁ [] 0 0 := Stand.of_body Bd
  have e0 : s₁.heap = h0 := by rw [← hh, Bd.state]; rfl
  have N0 := Fr.nil n0
  have pre0 : ∀ t, Steps p.tables e below (s₁.setTop (mkF m 0 #[.val (.int p1), .unset] [])) t → Steps p.tables e below (s₁.setTop (entryFrame m #[(.int p1)] 2)) t := fun t k => castTop (ef_1 m p1) k
  have pre1 : ∀ t, Steps p.tables e below (s₁.setTop (mkF m 4 #[.val (.int p1), .unset] [(.int (128 : Int32)), (.int p1)])) t → Steps p.tables e below (s₁.setTop (entryFrame m #[(.int p1)] 2)) t := by
    intro t k
    refine pre0 t ?_
    show Steps p.tables e below (s₁.setTop (mkF m 0 #[.val (.int p1), .unset] [])) _
    refine XS.iloadN X0.here hx rfl (hb hby d1_0) rfl ?_
    show Steps p.tables e below (s₁.setTop (mkF m 1 #[.val (.int p1), .unset] [(.int p1)])) _
    refine XS.sipush X0.here hx rfl (hb hby d1_1) ?_
    exact k
  by_cases hc4 : p1 < (128 : Int32)
  · have eq2 : (f1 p1) = p1 := by unfold f1; simp only [if_pos hc4]
    obtain ⟨fs, hr, hrun, hended, hW, hsame⟩ := X0.leave (v := some (.int p1)) (fun h => by rw [Bd.returns] at h; cases h)
    refine ⟨_, _, pre1 _ ?_, hrun, hended, _, _, rfl, ?_, ⟨_, rfl⟩, hW, hsame.mono (by decide) (by decide)⟩
    · show Steps p.tables e below (s₁.setTop (mkF m 4 #[.val (.int p1), .unset] [(.int (128 : Int32)), (.int p1)])) _
      refine XS.icmpNo X0.here hx rfl (hb hby d1_4) rfl (tlt hc4).2.1 ?_
      show Steps p.tables e below (s₁.setTop (mkF m 7 #[.val (.int p1), .unset] [])) _
      refine XS.iloadN X0.here hx rfl (hb hby d1_7) rfl ?_
      show Steps p.tables e below (s₁.setTop (mkF m 8 #[.val (.int p1), .unset] [(.int p1)])) _
      refine XS.istoreN X0.here hx rfl (hb hby d1_8) rfl (l' := #[.val (.int p1), .val (.int p1)]) rfl ?_
      show Steps p.tables e below (s₁.setTop (mkF m 9 #[.val (.int p1), .val (.int p1)] [])) _
      refine XS.goto X0.here hx rfl (pc0 := 9) (pc' := 139) rfl (hb hby d1_9) (by decide) (by decide) ?_
      show Steps p.tables e below (s₁.setTop (mkF m 139 #[.val (.int p1), .val (.int p1)] [])) _
      refine XS.iloadN X0.here hx rfl (hb hby d1_139) rfl ?_
      show Steps p.tables e below (s₁.setTop (mkF m 140 #[.val (.int p1), .val (.int p1)] [(.int p1)])) _
      exact retI X0 hx Bd.returns (hb hby d1_140) hr
    · show Q1 Z p1 h0 n0 _ s₁.heap _
      rw [e0]
      exact ⟨by rw [eq2], N0, rfl⟩
  · have pre3 : ∀ t, Steps p.tables e below (s₁.setTop (mkF m 16 #[.val (.int p1), .unset] [(.int (2048 : Int32)), (.int p1)])) t → Steps p.tables e below (s₁.setTop (entryFrame m #[(.int p1)] 2)) t := by
      intro t k
      refine pre1 t ?_
      show Steps p.tables e below (s₁.setTop (mkF m 4 #[.val (.int p1), .unset] [(.int (128 : Int32)), (.int p1)])) _
      refine XS.icmpYes X0.here hx rfl (pc0 := 4) (pc' := 12) rfl (hb hby d1_4) rfl (flt hc4).2.1 (by decide) (by decide) ?_
      show Steps p.tables e below (s₁.setTop (mkF m 12 #[.val (.int p1), .unset] [])) _
      refine XS.iloadN X0.here hx rfl (hb hby d1_12) rfl ?_
      show Steps p.tables e below (s₁.setTop (mkF m 13 #[.val (.int p1), .unset] [(.int p1)])) _
      refine XS.sipush X0.here hx rfl (hb hby d1_13) ?_
      exact k
    by_cases hc16 : p1 < (2048 : Int32)
    · have eq4 : (f1 p1) = (f1_v39 p1) := by unfold f1; simp only [if_neg hc4, if_pos hc16]
      obtain ⟨fs, hr, hrun, hended, hW, hsame⟩ := X0.leave (v := some (.int (f1_v39 p1))) (fun h => by rw [Bd.returns] at h; cases h)
      refine ⟨_, _, pre3 _ ?_, hrun, hended, _, _, rfl, ?_, ⟨_, rfl⟩, hW, hsame.mono (by decide) (by decide)⟩
      · show Steps p.tables e below (s₁.setTop (mkF m 16 #[.val (.int p1), .unset] [(.int (2048 : Int32)), (.int p1)])) _
        refine XS.icmpNo X0.here hx rfl (hb hby d1_16) rfl (tlt hc16).2.1 ?_
        show Steps p.tables e below (s₁.setTop (mkF m 19 #[.val (.int p1), .unset] [])) _
        refine XS.sipush X0.here hx rfl (hb hby d1_19) ?_
        show Steps p.tables e below (s₁.setTop (mkF m 22 #[.val (.int p1), .unset] [(.int (192 : Int32))])) _
        refine XS.iloadN X0.here hx rfl (hb hby d1_22) rfl ?_
        show Steps p.tables e below (s₁.setTop (mkF m 23 #[.val (.int p1), .unset] [(.int p1), (.int (192 : Int32))])) _
        refine XS.bipush X0.here hx rfl (hb hby d1_23) ?_
        show Steps p.tables e below (s₁.setTop (mkF m 25 #[.val (.int p1), .unset] [(.int (6 : Int32)), (.int p1), (.int (192 : Int32))])) _
        refine XS.iushr X0.here hx rfl (hb hby d1_25) rfl ?_
        show Steps p.tables e below (s₁.setTop (mkF m 26 #[.val (.int p1), .unset] [(.int ((p1.toUInt32 >>> ((6 : Int32) &&& 31).toUInt32).toInt32)), (.int (192 : Int32))])) _
        refine XS.ior X0.here hx rfl (hb hby d1_26) rfl ?_
        show Steps p.tables e below (s₁.setTop (mkF m 27 #[.val (.int p1), .unset] [(.int ((192 : Int32) ||| ((p1.toUInt32 >>> ((6 : Int32) &&& 31).toUInt32).toInt32)))])) _
        refine XS.sipush X0.here hx rfl (hb hby d1_27) ?_
        show Steps p.tables e below (s₁.setTop (mkF m 30 #[.val (.int p1), .unset] [(.int (128 : Int32)), (.int ((192 : Int32) ||| ((p1.toUInt32 >>> ((6 : Int32) &&& 31).toUInt32).toInt32)))])) _
        refine XS.iloadN X0.here hx rfl (hb hby d1_30) rfl ?_
        show Steps p.tables e below (s₁.setTop (mkF m 31 #[.val (.int p1), .unset] [(.int p1), (.int (128 : Int32)), (.int ((192 : Int32) ||| ((p1.toUInt32 >>> ((6 : Int32) &&& 31).toUInt32).toInt32)))])) _
        refine XS.bipush X0.here hx rfl (hb hby d1_31) ?_
        show Steps p.tables e below (s₁.setTop (mkF m 33 #[.val (.int p1), .unset] [(.int (63 : Int32)), (.int p1), (.int (128 : Int32)), (.int ((192 : Int32) ||| ((p1.toUInt32 >>> ((6 : Int32) &&& 31).toUInt32).toInt32)))])) _
        refine XS.iand X0.here hx rfl (hb hby d1_33) rfl ?_
        show Steps p.tables e below (s₁.setTop (mkF m 34 #[.val (.int p1), .unset] [(.int (p1 &&& (63 : Int32))), (.int (128 : Int32)), (.int ((192 : Int32) ||| ((p1.toUInt32 >>> ((6 : Int32) &&& 31).toUInt32).toInt32)))])) _
        refine XS.ior X0.here hx rfl (hb hby d1_34) rfl ?_
        show Steps p.tables e below (s₁.setTop (mkF m 35 #[.val (.int p1), .unset] [(.int ((128 : Int32) ||| (p1 &&& (63 : Int32)))), (.int ((192 : Int32) ||| ((p1.toUInt32 >>> ((6 : Int32) &&& 31).toUInt32).toInt32)))])) _
        refine XS.bipush X0.here hx rfl (hb hby d1_35) ?_
        show Steps p.tables e below (s₁.setTop (mkF m 37 #[.val (.int p1), .unset] [(.int (8 : Int32)), (.int ((128 : Int32) ||| (p1 &&& (63 : Int32)))), (.int ((192 : Int32) ||| ((p1.toUInt32 >>> ((6 : Int32) &&& 31).toUInt32).toInt32)))])) _
        refine XS.ishl X0.here hx rfl (hb hby d1_37) rfl ?_
        show Steps p.tables e below (s₁.setTop (mkF m 38 #[.val (.int p1), .unset] [(.int (((128 : Int32) ||| (p1 &&& (63 : Int32))) <<< ((8 : Int32) &&& 31))), (.int ((192 : Int32) ||| ((p1.toUInt32 >>> ((6 : Int32) &&& 31).toUInt32).toInt32)))])) _
        refine XS.ior X0.here hx rfl (hb hby d1_38) rfl ?_
        show Steps p.tables e below (s₁.setTop (mkF m 39 #[.val (.int p1), .unset] [(.int (((192 : Int32) ||| ((p1.toUInt32 >>> ((6 : Int32) &&& 31).toUInt32).toInt32)) ||| (((128 : Int32) ||| (p1 &&& (63 : Int32))) <<< ((8 : Int32) &&& 31))))])) _
        refine XS.istoreN X0.here hx rfl (hb hby d1_39) rfl (l' := #[.val (.int p1), .val (.int (f1_v39 p1))]) rfl ?_
        show Steps p.tables e below (s₁.setTop (mkF m 40 #[.val (.int p1), .val (.int (f1_v39 p1))] [])) _
        refine XS.goto X0.here hx rfl (pc0 := 40) (pc' := 139) rfl (hb hby d1_40) (by decide) (by decide) ?_
        show Steps p.tables e below (s₁.setTop (mkF m 139 #[.val (.int p1), .val (.int (f1_v39 p1))] [])) _
        refine XS.iloadN X0.here hx rfl (hb hby d1_139) rfl ?_
        show Steps p.tables e below (s₁.setTop (mkF m 140 #[.val (.int p1), .val (.int (f1_v39 p1))] [(.int (f1_v39 p1))])) _
        exact retI X0 hx Bd.returns (hb hby d1_140) hr
      · show Q1 Z p1 h0 n0 _ s₁.heap _
        rw [e0]
        exact ⟨by rw [eq4], N0, rfl⟩
    · have pre5 : ∀ t, Steps p.tables e below (s₁.setTop (mkF m 46 #[.val (.int p1), .unset] [(.int (65536 : Int32)), (.int p1)])) t → Steps p.tables e below (s₁.setTop (entryFrame m #[(.int p1)] 2)) t := by
        intro t k
        refine pre3 t ?_
        show Steps p.tables e below (s₁.setTop (mkF m 16 #[.val (.int p1), .unset] [(.int (2048 : Int32)), (.int p1)])) _
        refine XS.icmpYes X0.here hx rfl (pc0 := 16) (pc' := 43) rfl (hb hby d1_16) rfl (flt hc16).2.1 (by decide) (by decide) ?_
        show Steps p.tables e below (s₁.setTop (mkF m 43 #[.val (.int p1), .unset] [])) _
        refine XS.iloadN X0.here hx rfl (hb hby d1_43) rfl ?_
        show Steps p.tables e below (s₁.setTop (mkF m 44 #[.val (.int p1), .unset] [(.int p1)])) _
        refine X0.ldcInt hx hown (mvT hZ (hw _ (List.mem_of_getElem? (i := 10) rfl))) (g := (mkF m 44 #[.val (.int p1), .unset] [(.int p1)])) rfl (hb hby d1_44) _ ?_
        exact k
      by_cases hc46 : p1 < (65536 : Int32)
      · have eq6 : (f1 p1) = (f1_v84 p1) := by unfold f1; simp only [if_neg hc4, if_neg hc16, if_pos hc46]
        obtain ⟨fs, hr, hrun, hended, hW, hsame⟩ := X0.leave (v := some (.int (f1_v84 p1))) (fun h => by rw [Bd.returns] at h; cases h)
        refine ⟨_, _, pre5 _ ?_, hrun, hended, _, _, rfl, ?_, ⟨_, rfl⟩, hW, hsame.mono (by decide) (by decide)⟩
        · show Steps p.tables e below (s₁.setTop (mkF m 46 #[.val (.int p1), .unset] [(.int (65536 : Int32)), (.int p1)])) _
          refine XS.icmpNo X0.here hx rfl (hb hby d1_46) rfl (tlt hc46).2.1 ?_
          show Steps p.tables e below (s₁.setTop (mkF m 49 #[.val (.int p1), .unset] [])) _
          refine XS.sipush X0.here hx rfl (hb hby d1_49) ?_
          show Steps p.tables e below (s₁.setTop (mkF m 52 #[.val (.int p1), .unset] [(.int (224 : Int32))])) _
          refine XS.iloadN X0.here hx rfl (hb hby d1_52) rfl ?_
          show Steps p.tables e below (s₁.setTop (mkF m 53 #[.val (.int p1), .unset] [(.int p1), (.int (224 : Int32))])) _
          refine XS.bipush X0.here hx rfl (hb hby d1_53) ?_
          show Steps p.tables e below (s₁.setTop (mkF m 55 #[.val (.int p1), .unset] [(.int (12 : Int32)), (.int p1), (.int (224 : Int32))])) _
          refine XS.iushr X0.here hx rfl (hb hby d1_55) rfl ?_
          show Steps p.tables e below (s₁.setTop (mkF m 56 #[.val (.int p1), .unset] [(.int ((p1.toUInt32 >>> ((12 : Int32) &&& 31).toUInt32).toInt32)), (.int (224 : Int32))])) _
          refine XS.ior X0.here hx rfl (hb hby d1_56) rfl ?_
          show Steps p.tables e below (s₁.setTop (mkF m 57 #[.val (.int p1), .unset] [(.int ((224 : Int32) ||| ((p1.toUInt32 >>> ((12 : Int32) &&& 31).toUInt32).toInt32)))])) _
          refine XS.sipush X0.here hx rfl (hb hby d1_57) ?_
          show Steps p.tables e below (s₁.setTop (mkF m 60 #[.val (.int p1), .unset] [(.int (128 : Int32)), (.int ((224 : Int32) ||| ((p1.toUInt32 >>> ((12 : Int32) &&& 31).toUInt32).toInt32)))])) _
          refine XS.iloadN X0.here hx rfl (hb hby d1_60) rfl ?_
          show Steps p.tables e below (s₁.setTop (mkF m 61 #[.val (.int p1), .unset] [(.int p1), (.int (128 : Int32)), (.int ((224 : Int32) ||| ((p1.toUInt32 >>> ((12 : Int32) &&& 31).toUInt32).toInt32)))])) _
          refine XS.bipush X0.here hx rfl (hb hby d1_61) ?_
          show Steps p.tables e below (s₁.setTop (mkF m 63 #[.val (.int p1), .unset] [(.int (6 : Int32)), (.int p1), (.int (128 : Int32)), (.int ((224 : Int32) ||| ((p1.toUInt32 >>> ((12 : Int32) &&& 31).toUInt32).toInt32)))])) _
          refine XS.iushr X0.here hx rfl (hb hby d1_63) rfl ?_
          show Steps p.tables e below (s₁.setTop (mkF m 64 #[.val (.int p1), .unset] [(.int ((p1.toUInt32 >>> ((6 : Int32) &&& 31).toUInt32).toInt32)), (.int (128 : Int32)), (.int ((224 : Int32) ||| ((p1.toUInt32 >>> ((12 : Int32) &&& 31).toUInt32).toInt32)))])) _
          refine XS.bipush X0.here hx rfl (hb hby d1_64) ?_
          show Steps p.tables e below (s₁.setTop (mkF m 66 #[.val (.int p1), .unset] [(.int (63 : Int32)), (.int ((p1.toUInt32 >>> ((6 : Int32) &&& 31).toUInt32).toInt32)), (.int (128 : Int32)), (.int ((224 : Int32) ||| ((p1.toUInt32 >>> ((12 : Int32) &&& 31).toUInt32).toInt32)))])) _
          refine XS.iand X0.here hx rfl (hb hby d1_66) rfl ?_
          show Steps p.tables e below (s₁.setTop (mkF m 67 #[.val (.int p1), .unset] [(.int (((p1.toUInt32 >>> ((6 : Int32) &&& 31).toUInt32).toInt32) &&& (63 : Int32))), (.int (128 : Int32)), (.int ((224 : Int32) ||| ((p1.toUInt32 >>> ((12 : Int32) &&& 31).toUInt32).toInt32)))])) _
          refine XS.ior X0.here hx rfl (hb hby d1_67) rfl ?_
          show Steps p.tables e below (s₁.setTop (mkF m 68 #[.val (.int p1), .unset] [(.int ((128 : Int32) ||| (((p1.toUInt32 >>> ((6 : Int32) &&& 31).toUInt32).toInt32) &&& (63 : Int32)))), (.int ((224 : Int32) ||| ((p1.toUInt32 >>> ((12 : Int32) &&& 31).toUInt32).toInt32)))])) _
          refine XS.bipush X0.here hx rfl (hb hby d1_68) ?_
          show Steps p.tables e below (s₁.setTop (mkF m 70 #[.val (.int p1), .unset] [(.int (8 : Int32)), (.int ((128 : Int32) ||| (((p1.toUInt32 >>> ((6 : Int32) &&& 31).toUInt32).toInt32) &&& (63 : Int32)))), (.int ((224 : Int32) ||| ((p1.toUInt32 >>> ((12 : Int32) &&& 31).toUInt32).toInt32)))])) _
          refine XS.ishl X0.here hx rfl (hb hby d1_70) rfl ?_
          show Steps p.tables e below (s₁.setTop (mkF m 71 #[.val (.int p1), .unset] [(.int (((128 : Int32) ||| (((p1.toUInt32 >>> ((6 : Int32) &&& 31).toUInt32).toInt32) &&& (63 : Int32))) <<< ((8 : Int32) &&& 31))), (.int ((224 : Int32) ||| ((p1.toUInt32 >>> ((12 : Int32) &&& 31).toUInt32).toInt32)))])) _
          refine XS.ior X0.here hx rfl (hb hby d1_71) rfl ?_
          show Steps p.tables e below (s₁.setTop (mkF m 72 #[.val (.int p1), .unset] [(.int (((224 : Int32) ||| ((p1.toUInt32 >>> ((12 : Int32) &&& 31).toUInt32).toInt32)) ||| (((128 : Int32) ||| (((p1.toUInt32 >>> ((6 : Int32) &&& 31).toUInt32).toInt32) &&& (63 : Int32))) <<< ((8 : Int32) &&& 31))))])) _
          refine XS.sipush X0.here hx rfl (hb hby d1_72) ?_
          show Steps p.tables e below (s₁.setTop (mkF m 75 #[.val (.int p1), .unset] [(.int (128 : Int32)), (.int (((224 : Int32) ||| ((p1.toUInt32 >>> ((12 : Int32) &&& 31).toUInt32).toInt32)) ||| (((128 : Int32) ||| (((p1.toUInt32 >>> ((6 : Int32) &&& 31).toUInt32).toInt32) &&& (63 : Int32))) <<< ((8 : Int32) &&& 31))))])) _
          refine XS.iloadN X0.here hx rfl (hb hby d1_75) rfl ?_
          show Steps p.tables e below (s₁.setTop (mkF m 76 #[.val (.int p1), .unset] [(.int p1), (.int (128 : Int32)), (.int (((224 : Int32) ||| ((p1.toUInt32 >>> ((12 : Int32) &&& 31).toUInt32).toInt32)) ||| (((128 : Int32) ||| (((p1.toUInt32 >>> ((6 : Int32) &&& 31).toUInt32).toInt32) &&& (63 : Int32))) <<< ((8 : Int32) &&& 31))))])) _
          refine XS.bipush X0.here hx rfl (hb hby d1_76) ?_
          show Steps p.tables e below (s₁.setTop (mkF m 78 #[.val (.int p1), .unset] [(.int (63 : Int32)), (.int p1), (.int (128 : Int32)), (.int (((224 : Int32) ||| ((p1.toUInt32 >>> ((12 : Int32) &&& 31).toUInt32).toInt32)) ||| (((128 : Int32) ||| (((p1.toUInt32 >>> ((6 : Int32) &&& 31).toUInt32).toInt32) &&& (63 : Int32))) <<< ((8 : Int32) &&& 31))))])) _
          refine XS.iand X0.here hx rfl (hb hby d1_78) rfl ?_
          show Steps p.tables e below (s₁.setTop (mkF m 79 #[.val (.int p1), .unset] [(.int (p1 &&& (63 : Int32))), (.int (128 : Int32)), (.int (((224 : Int32) ||| ((p1.toUInt32 >>> ((12 : Int32) &&& 31).toUInt32).toInt32)) ||| (((128 : Int32) ||| (((p1.toUInt32 >>> ((6 : Int32) &&& 31).toUInt32).toInt32) &&& (63 : Int32))) <<< ((8 : Int32) &&& 31))))])) _
          refine XS.ior X0.here hx rfl (hb hby d1_79) rfl ?_
          show Steps p.tables e below (s₁.setTop (mkF m 80 #[.val (.int p1), .unset] [(.int ((128 : Int32) ||| (p1 &&& (63 : Int32)))), (.int (((224 : Int32) ||| ((p1.toUInt32 >>> ((12 : Int32) &&& 31).toUInt32).toInt32)) ||| (((128 : Int32) ||| (((p1.toUInt32 >>> ((6 : Int32) &&& 31).toUInt32).toInt32) &&& (63 : Int32))) <<< ((8 : Int32) &&& 31))))])) _
          refine XS.bipush X0.here hx rfl (hb hby d1_80) ?_
          show Steps p.tables e below (s₁.setTop (mkF m 82 #[.val (.int p1), .unset] [(.int (16 : Int32)), (.int ((128 : Int32) ||| (p1 &&& (63 : Int32)))), (.int (((224 : Int32) ||| ((p1.toUInt32 >>> ((12 : Int32) &&& 31).toUInt32).toInt32)) ||| (((128 : Int32) ||| (((p1.toUInt32 >>> ((6 : Int32) &&& 31).toUInt32).toInt32) &&& (63 : Int32))) <<< ((8 : Int32) &&& 31))))])) _
          refine XS.ishl X0.here hx rfl (hb hby d1_82) rfl ?_
          show Steps p.tables e below (s₁.setTop (mkF m 83 #[.val (.int p1), .unset] [(.int (((128 : Int32) ||| (p1 &&& (63 : Int32))) <<< ((16 : Int32) &&& 31))), (.int (((224 : Int32) ||| ((p1.toUInt32 >>> ((12 : Int32) &&& 31).toUInt32).toInt32)) ||| (((128 : Int32) ||| (((p1.toUInt32 >>> ((6 : Int32) &&& 31).toUInt32).toInt32) &&& (63 : Int32))) <<< ((8 : Int32) &&& 31))))])) _
          refine XS.ior X0.here hx rfl (hb hby d1_83) rfl ?_
          show Steps p.tables e below (s₁.setTop (mkF m 84 #[.val (.int p1), .unset] [(.int ((((224 : Int32) ||| ((p1.toUInt32 >>> ((12 : Int32) &&& 31).toUInt32).toInt32)) ||| (((128 : Int32) ||| (((p1.toUInt32 >>> ((6 : Int32) &&& 31).toUInt32).toInt32) &&& (63 : Int32))) <<< ((8 : Int32) &&& 31))) ||| (((128 : Int32) ||| (p1 &&& (63 : Int32))) <<< ((16 : Int32) &&& 31))))])) _
          refine XS.istoreN X0.here hx rfl (hb hby d1_84) rfl (l' := #[.val (.int p1), .val (.int (f1_v84 p1))]) rfl ?_
          show Steps p.tables e below (s₁.setTop (mkF m 85 #[.val (.int p1), .val (.int (f1_v84 p1))] [])) _
          refine XS.goto X0.here hx rfl (pc0 := 85) (pc' := 139) rfl (hb hby d1_85) (by decide) (by decide) ?_
          show Steps p.tables e below (s₁.setTop (mkF m 139 #[.val (.int p1), .val (.int (f1_v84 p1))] [])) _
          refine XS.iloadN X0.here hx rfl (hb hby d1_139) rfl ?_
          show Steps p.tables e below (s₁.setTop (mkF m 140 #[.val (.int p1), .val (.int (f1_v84 p1))] [(.int (f1_v84 p1))])) _
          exact retI X0 hx Bd.returns (hb hby d1_140) hr
        · show Q1 Z p1 h0 n0 _ s₁.heap _
          rw [e0]
          exact ⟨by rw [eq6], N0, rfl⟩
      · have eq7 : (f1 p1) = (f1_v138 p1) := by unfold f1; simp only [if_neg hc4, if_neg hc16, if_neg hc46]
        obtain ⟨fs, hr, hrun, hended, hW, hsame⟩ := X0.leave (v := some (.int (f1_v138 p1))) (fun h => by rw [Bd.returns] at h; cases h)
        refine ⟨_, _, pre5 _ ?_, hrun, hended, _, _, rfl, ?_, ⟨_, rfl⟩, hW, hsame.mono (by decide) (by decide)⟩
        · show Steps p.tables e below (s₁.setTop (mkF m 46 #[.val (.int p1), .unset] [(.int (65536 : Int32)), (.int p1)])) _
          refine XS.icmpYes X0.here hx rfl (pc0 := 46) (pc' := 88) rfl (hb hby d1_46) rfl (flt hc46).2.1 (by decide) (by decide) ?_
          show Steps p.tables e below (s₁.setTop (mkF m 88 #[.val (.int p1), .unset] [])) _
          refine XS.sipush X0.here hx rfl (hb hby d1_88) ?_
          show Steps p.tables e below (s₁.setTop (mkF m 91 #[.val (.int p1), .unset] [(.int (240 : Int32))])) _
          refine XS.iloadN X0.here hx rfl (hb hby d1_91) rfl ?_
          show Steps p.tables e below (s₁.setTop (mkF m 92 #[.val (.int p1), .unset] [(.int p1), (.int (240 : Int32))])) _
          refine XS.bipush X0.here hx rfl (hb hby d1_92) ?_
          show Steps p.tables e below (s₁.setTop (mkF m 94 #[.val (.int p1), .unset] [(.int (18 : Int32)), (.int p1), (.int (240 : Int32))])) _
          refine XS.iushr X0.here hx rfl (hb hby d1_94) rfl ?_
          show Steps p.tables e below (s₁.setTop (mkF m 95 #[.val (.int p1), .unset] [(.int ((p1.toUInt32 >>> ((18 : Int32) &&& 31).toUInt32).toInt32)), (.int (240 : Int32))])) _
          refine XS.ior X0.here hx rfl (hb hby d1_95) rfl ?_
          show Steps p.tables e below (s₁.setTop (mkF m 96 #[.val (.int p1), .unset] [(.int ((240 : Int32) ||| ((p1.toUInt32 >>> ((18 : Int32) &&& 31).toUInt32).toInt32)))])) _
          refine XS.sipush X0.here hx rfl (hb hby d1_96) ?_
          show Steps p.tables e below (s₁.setTop (mkF m 99 #[.val (.int p1), .unset] [(.int (128 : Int32)), (.int ((240 : Int32) ||| ((p1.toUInt32 >>> ((18 : Int32) &&& 31).toUInt32).toInt32)))])) _
          refine XS.iloadN X0.here hx rfl (hb hby d1_99) rfl ?_
          show Steps p.tables e below (s₁.setTop (mkF m 100 #[.val (.int p1), .unset] [(.int p1), (.int (128 : Int32)), (.int ((240 : Int32) ||| ((p1.toUInt32 >>> ((18 : Int32) &&& 31).toUInt32).toInt32)))])) _
          refine XS.bipush X0.here hx rfl (hb hby d1_100) ?_
          show Steps p.tables e below (s₁.setTop (mkF m 102 #[.val (.int p1), .unset] [(.int (12 : Int32)), (.int p1), (.int (128 : Int32)), (.int ((240 : Int32) ||| ((p1.toUInt32 >>> ((18 : Int32) &&& 31).toUInt32).toInt32)))])) _
          refine XS.iushr X0.here hx rfl (hb hby d1_102) rfl ?_
          show Steps p.tables e below (s₁.setTop (mkF m 103 #[.val (.int p1), .unset] [(.int ((p1.toUInt32 >>> ((12 : Int32) &&& 31).toUInt32).toInt32)), (.int (128 : Int32)), (.int ((240 : Int32) ||| ((p1.toUInt32 >>> ((18 : Int32) &&& 31).toUInt32).toInt32)))])) _
          refine XS.bipush X0.here hx rfl (hb hby d1_103) ?_
          show Steps p.tables e below (s₁.setTop (mkF m 105 #[.val (.int p1), .unset] [(.int (63 : Int32)), (.int ((p1.toUInt32 >>> ((12 : Int32) &&& 31).toUInt32).toInt32)), (.int (128 : Int32)), (.int ((240 : Int32) ||| ((p1.toUInt32 >>> ((18 : Int32) &&& 31).toUInt32).toInt32)))])) _
          refine XS.iand X0.here hx rfl (hb hby d1_105) rfl ?_
          show Steps p.tables e below (s₁.setTop (mkF m 106 #[.val (.int p1), .unset] [(.int (((p1.toUInt32 >>> ((12 : Int32) &&& 31).toUInt32).toInt32) &&& (63 : Int32))), (.int (128 : Int32)), (.int ((240 : Int32) ||| ((p1.toUInt32 >>> ((18 : Int32) &&& 31).toUInt32).toInt32)))])) _
          refine XS.ior X0.here hx rfl (hb hby d1_106) rfl ?_
          show Steps p.tables e below (s₁.setTop (mkF m 107 #[.val (.int p1), .unset] [(.int ((128 : Int32) ||| (((p1.toUInt32 >>> ((12 : Int32) &&& 31).toUInt32).toInt32) &&& (63 : Int32)))), (.int ((240 : Int32) ||| ((p1.toUInt32 >>> ((18 : Int32) &&& 31).toUInt32).toInt32)))])) _
          refine XS.bipush X0.here hx rfl (hb hby d1_107) ?_
          show Steps p.tables e below (s₁.setTop (mkF m 109 #[.val (.int p1), .unset] [(.int (8 : Int32)), (.int ((128 : Int32) ||| (((p1.toUInt32 >>> ((12 : Int32) &&& 31).toUInt32).toInt32) &&& (63 : Int32)))), (.int ((240 : Int32) ||| ((p1.toUInt32 >>> ((18 : Int32) &&& 31).toUInt32).toInt32)))])) _
          refine XS.ishl X0.here hx rfl (hb hby d1_109) rfl ?_
          show Steps p.tables e below (s₁.setTop (mkF m 110 #[.val (.int p1), .unset] [(.int (((128 : Int32) ||| (((p1.toUInt32 >>> ((12 : Int32) &&& 31).toUInt32).toInt32) &&& (63 : Int32))) <<< ((8 : Int32) &&& 31))), (.int ((240 : Int32) ||| ((p1.toUInt32 >>> ((18 : Int32) &&& 31).toUInt32).toInt32)))])) _
          refine XS.ior X0.here hx rfl (hb hby d1_110) rfl ?_
          show Steps p.tables e below (s₁.setTop (mkF m 111 #[.val (.int p1), .unset] [(.int (((240 : Int32) ||| ((p1.toUInt32 >>> ((18 : Int32) &&& 31).toUInt32).toInt32)) ||| (((128 : Int32) ||| (((p1.toUInt32 >>> ((12 : Int32) &&& 31).toUInt32).toInt32) &&& (63 : Int32))) <<< ((8 : Int32) &&& 31))))])) _
          refine XS.sipush X0.here hx rfl (hb hby d1_111) ?_
          show Steps p.tables e below (s₁.setTop (mkF m 114 #[.val (.int p1), .unset] [(.int (128 : Int32)), (.int (((240 : Int32) ||| ((p1.toUInt32 >>> ((18 : Int32) &&& 31).toUInt32).toInt32)) ||| (((128 : Int32) ||| (((p1.toUInt32 >>> ((12 : Int32) &&& 31).toUInt32).toInt32) &&& (63 : Int32))) <<< ((8 : Int32) &&& 31))))])) _
          refine XS.iloadN X0.here hx rfl (hb hby d1_114) rfl ?_
          show Steps p.tables e below (s₁.setTop (mkF m 115 #[.val (.int p1), .unset] [(.int p1), (.int (128 : Int32)), (.int (((240 : Int32) ||| ((p1.toUInt32 >>> ((18 : Int32) &&& 31).toUInt32).toInt32)) ||| (((128 : Int32) ||| (((p1.toUInt32 >>> ((12 : Int32) &&& 31).toUInt32).toInt32) &&& (63 : Int32))) <<< ((8 : Int32) &&& 31))))])) _
          refine XS.bipush X0.here hx rfl (hb hby d1_115) ?_
          show Steps p.tables e below (s₁.setTop (mkF m 117 #[.val (.int p1), .unset] [(.int (6 : Int32)), (.int p1), (.int (128 : Int32)), (.int (((240 : Int32) ||| ((p1.toUInt32 >>> ((18 : Int32) &&& 31).toUInt32).toInt32)) ||| (((128 : Int32) ||| (((p1.toUInt32 >>> ((12 : Int32) &&& 31).toUInt32).toInt32) &&& (63 : Int32))) <<< ((8 : Int32) &&& 31))))])) _
          refine XS.iushr X0.here hx rfl (hb hby d1_117) rfl ?_
          show Steps p.tables e below (s₁.setTop (mkF m 118 #[.val (.int p1), .unset] [(.int ((p1.toUInt32 >>> ((6 : Int32) &&& 31).toUInt32).toInt32)), (.int (128 : Int32)), (.int (((240 : Int32) ||| ((p1.toUInt32 >>> ((18 : Int32) &&& 31).toUInt32).toInt32)) ||| (((128 : Int32) ||| (((p1.toUInt32 >>> ((12 : Int32) &&& 31).toUInt32).toInt32) &&& (63 : Int32))) <<< ((8 : Int32) &&& 31))))])) _
          refine XS.bipush X0.here hx rfl (hb hby d1_118) ?_
          show Steps p.tables e below (s₁.setTop (mkF m 120 #[.val (.int p1), .unset] [(.int (63 : Int32)), (.int ((p1.toUInt32 >>> ((6 : Int32) &&& 31).toUInt32).toInt32)), (.int (128 : Int32)), (.int (((240 : Int32) ||| ((p1.toUInt32 >>> ((18 : Int32) &&& 31).toUInt32).toInt32)) ||| (((128 : Int32) ||| (((p1.toUInt32 >>> ((12 : Int32) &&& 31).toUInt32).toInt32) &&& (63 : Int32))) <<< ((8 : Int32) &&& 31))))])) _
          refine XS.iand X0.here hx rfl (hb hby d1_120) rfl ?_
          show Steps p.tables e below (s₁.setTop (mkF m 121 #[.val (.int p1), .unset] [(.int (((p1.toUInt32 >>> ((6 : Int32) &&& 31).toUInt32).toInt32) &&& (63 : Int32))), (.int (128 : Int32)), (.int (((240 : Int32) ||| ((p1.toUInt32 >>> ((18 : Int32) &&& 31).toUInt32).toInt32)) ||| (((128 : Int32) ||| (((p1.toUInt32 >>> ((12 : Int32) &&& 31).toUInt32).toInt32) &&& (63 : Int32))) <<< ((8 : Int32) &&& 31))))])) _
          refine XS.ior X0.here hx rfl (hb hby d1_121) rfl ?_
          show Steps p.tables e below (s₁.setTop (mkF m 122 #[.val (.int p1), .unset] [(.int ((128 : Int32) ||| (((p1.toUInt32 >>> ((6 : Int32) &&& 31).toUInt32).toInt32) &&& (63 : Int32)))), (.int (((240 : Int32) ||| ((p1.toUInt32 >>> ((18 : Int32) &&& 31).toUInt32).toInt32)) ||| (((128 : Int32) ||| (((p1.toUInt32 >>> ((12 : Int32) &&& 31).toUInt32).toInt32) &&& (63 : Int32))) <<< ((8 : Int32) &&& 31))))])) _
          refine XS.bipush X0.here hx rfl (hb hby d1_122) ?_
          show Steps p.tables e below (s₁.setTop (mkF m 124 #[.val (.int p1), .unset] [(.int (16 : Int32)), (.int ((128 : Int32) ||| (((p1.toUInt32 >>> ((6 : Int32) &&& 31).toUInt32).toInt32) &&& (63 : Int32)))), (.int (((240 : Int32) ||| ((p1.toUInt32 >>> ((18 : Int32) &&& 31).toUInt32).toInt32)) ||| (((128 : Int32) ||| (((p1.toUInt32 >>> ((12 : Int32) &&& 31).toUInt32).toInt32) &&& (63 : Int32))) <<< ((8 : Int32) &&& 31))))])) _
          refine XS.ishl X0.here hx rfl (hb hby d1_124) rfl ?_
          show Steps p.tables e below (s₁.setTop (mkF m 125 #[.val (.int p1), .unset] [(.int (((128 : Int32) ||| (((p1.toUInt32 >>> ((6 : Int32) &&& 31).toUInt32).toInt32) &&& (63 : Int32))) <<< ((16 : Int32) &&& 31))), (.int (((240 : Int32) ||| ((p1.toUInt32 >>> ((18 : Int32) &&& 31).toUInt32).toInt32)) ||| (((128 : Int32) ||| (((p1.toUInt32 >>> ((12 : Int32) &&& 31).toUInt32).toInt32) &&& (63 : Int32))) <<< ((8 : Int32) &&& 31))))])) _
          refine XS.ior X0.here hx rfl (hb hby d1_125) rfl ?_
          show Steps p.tables e below (s₁.setTop (mkF m 126 #[.val (.int p1), .unset] [(.int ((((240 : Int32) ||| ((p1.toUInt32 >>> ((18 : Int32) &&& 31).toUInt32).toInt32)) ||| (((128 : Int32) ||| (((p1.toUInt32 >>> ((12 : Int32) &&& 31).toUInt32).toInt32) &&& (63 : Int32))) <<< ((8 : Int32) &&& 31))) ||| (((128 : Int32) ||| (((p1.toUInt32 >>> ((6 : Int32) &&& 31).toUInt32).toInt32) &&& (63 : Int32))) <<< ((16 : Int32) &&& 31))))])) _
          refine XS.sipush X0.here hx rfl (hb hby d1_126) ?_
          show Steps p.tables e below (s₁.setTop (mkF m 129 #[.val (.int p1), .unset] [(.int (128 : Int32)), (.int ((((240 : Int32) ||| ((p1.toUInt32 >>> ((18 : Int32) &&& 31).toUInt32).toInt32)) ||| (((128 : Int32) ||| (((p1.toUInt32 >>> ((12 : Int32) &&& 31).toUInt32).toInt32) &&& (63 : Int32))) <<< ((8 : Int32) &&& 31))) ||| (((128 : Int32) ||| (((p1.toUInt32 >>> ((6 : Int32) &&& 31).toUInt32).toInt32) &&& (63 : Int32))) <<< ((16 : Int32) &&& 31))))])) _
          refine XS.iloadN X0.here hx rfl (hb hby d1_129) rfl ?_
          show Steps p.tables e below (s₁.setTop (mkF m 130 #[.val (.int p1), .unset] [(.int p1), (.int (128 : Int32)), (.int ((((240 : Int32) ||| ((p1.toUInt32 >>> ((18 : Int32) &&& 31).toUInt32).toInt32)) ||| (((128 : Int32) ||| (((p1.toUInt32 >>> ((12 : Int32) &&& 31).toUInt32).toInt32) &&& (63 : Int32))) <<< ((8 : Int32) &&& 31))) ||| (((128 : Int32) ||| (((p1.toUInt32 >>> ((6 : Int32) &&& 31).toUInt32).toInt32) &&& (63 : Int32))) <<< ((16 : Int32) &&& 31))))])) _
          refine XS.bipush X0.here hx rfl (hb hby d1_130) ?_
          show Steps p.tables e below (s₁.setTop (mkF m 132 #[.val (.int p1), .unset] [(.int (63 : Int32)), (.int p1), (.int (128 : Int32)), (.int ((((240 : Int32) ||| ((p1.toUInt32 >>> ((18 : Int32) &&& 31).toUInt32).toInt32)) ||| (((128 : Int32) ||| (((p1.toUInt32 >>> ((12 : Int32) &&& 31).toUInt32).toInt32) &&& (63 : Int32))) <<< ((8 : Int32) &&& 31))) ||| (((128 : Int32) ||| (((p1.toUInt32 >>> ((6 : Int32) &&& 31).toUInt32).toInt32) &&& (63 : Int32))) <<< ((16 : Int32) &&& 31))))])) _
          refine XS.iand X0.here hx rfl (hb hby d1_132) rfl ?_
          show Steps p.tables e below (s₁.setTop (mkF m 133 #[.val (.int p1), .unset] [(.int (p1 &&& (63 : Int32))), (.int (128 : Int32)), (.int ((((240 : Int32) ||| ((p1.toUInt32 >>> ((18 : Int32) &&& 31).toUInt32).toInt32)) ||| (((128 : Int32) ||| (((p1.toUInt32 >>> ((12 : Int32) &&& 31).toUInt32).toInt32) &&& (63 : Int32))) <<< ((8 : Int32) &&& 31))) ||| (((128 : Int32) ||| (((p1.toUInt32 >>> ((6 : Int32) &&& 31).toUInt32).toInt32) &&& (63 : Int32))) <<< ((16 : Int32) &&& 31))))])) _
          refine XS.ior X0.here hx rfl (hb hby d1_133) rfl ?_
          show Steps p.tables e below (s₁.setTop (mkF m 134 #[.val (.int p1), .unset] [(.int ((128 : Int32) ||| (p1 &&& (63 : Int32)))), (.int ((((240 : Int32) ||| ((p1.toUInt32 >>> ((18 : Int32) &&& 31).toUInt32).toInt32)) ||| (((128 : Int32) ||| (((p1.toUInt32 >>> ((12 : Int32) &&& 31).toUInt32).toInt32) &&& (63 : Int32))) <<< ((8 : Int32) &&& 31))) ||| (((128 : Int32) ||| (((p1.toUInt32 >>> ((6 : Int32) &&& 31).toUInt32).toInt32) &&& (63 : Int32))) <<< ((16 : Int32) &&& 31))))])) _
          refine XS.bipush X0.here hx rfl (hb hby d1_134) ?_
          show Steps p.tables e below (s₁.setTop (mkF m 136 #[.val (.int p1), .unset] [(.int (24 : Int32)), (.int ((128 : Int32) ||| (p1 &&& (63 : Int32)))), (.int ((((240 : Int32) ||| ((p1.toUInt32 >>> ((18 : Int32) &&& 31).toUInt32).toInt32)) ||| (((128 : Int32) ||| (((p1.toUInt32 >>> ((12 : Int32) &&& 31).toUInt32).toInt32) &&& (63 : Int32))) <<< ((8 : Int32) &&& 31))) ||| (((128 : Int32) ||| (((p1.toUInt32 >>> ((6 : Int32) &&& 31).toUInt32).toInt32) &&& (63 : Int32))) <<< ((16 : Int32) &&& 31))))])) _
          refine XS.ishl X0.here hx rfl (hb hby d1_136) rfl ?_
          show Steps p.tables e below (s₁.setTop (mkF m 137 #[.val (.int p1), .unset] [(.int (((128 : Int32) ||| (p1 &&& (63 : Int32))) <<< ((24 : Int32) &&& 31))), (.int ((((240 : Int32) ||| ((p1.toUInt32 >>> ((18 : Int32) &&& 31).toUInt32).toInt32)) ||| (((128 : Int32) ||| (((p1.toUInt32 >>> ((12 : Int32) &&& 31).toUInt32).toInt32) &&& (63 : Int32))) <<< ((8 : Int32) &&& 31))) ||| (((128 : Int32) ||| (((p1.toUInt32 >>> ((6 : Int32) &&& 31).toUInt32).toInt32) &&& (63 : Int32))) <<< ((16 : Int32) &&& 31))))])) _
          refine XS.ior X0.here hx rfl (hb hby d1_137) rfl ?_
          show Steps p.tables e below (s₁.setTop (mkF m 138 #[.val (.int p1), .unset] [(.int (((((240 : Int32) ||| ((p1.toUInt32 >>> ((18 : Int32) &&& 31).toUInt32).toInt32)) ||| (((128 : Int32) ||| (((p1.toUInt32 >>> ((12 : Int32) &&& 31).toUInt32).toInt32) &&& (63 : Int32))) <<< ((8 : Int32) &&& 31))) ||| (((128 : Int32) ||| (((p1.toUInt32 >>> ((6 : Int32) &&& 31).toUInt32).toInt32) &&& (63 : Int32))) <<< ((16 : Int32) &&& 31))) ||| (((128 : Int32) ||| (p1 &&& (63 : Int32))) <<< ((24 : Int32) &&& 31))))])) _
          refine XS.istoreN X0.here hx rfl (hb hby d1_138) rfl (l' := #[.val (.int p1), .val (.int (f1_v138 p1))]) rfl ?_
          show Steps p.tables e below (s₁.setTop (mkF m 139 #[.val (.int p1), .val (.int (f1_v138 p1))] [])) _
          refine XS.iloadN X0.here hx rfl (hb hby d1_139) rfl ?_
          show Steps p.tables e below (s₁.setTop (mkF m 140 #[.val (.int p1), .val (.int (f1_v138 p1))] [(.int (f1_v138 p1))])) _
          exact retI X0 hx Bd.returns (hb hby d1_140) hr
        · show Q1 Z p1 h0 n0 _ s₁.heap _
          rw [e0]
          exact ⟨by rw [eq7], N0, rfl⟩
theorem d2_0 : decode prog_14_method_6_code 0 = .ok (.iload_n 0, 1) := by decide +kernel
theorem d2_1 : decode prog_14_method_6_code 1 = .ok (.sipush 128, 3) := by decide +kernel
theorem d2_4 : decode prog_14_method_6_code 4 = .ok (.if_icmp .ge 8, 3) := by decide +kernel
theorem d2_7 : decode prog_14_method_6_code 7 = .ok (.iconst 1, 1) := by decide +kernel
theorem d2_8 : decode prog_14_method_6_code 8 = .ok (.istore_n 1, 1) := by decide +kernel
theorem d2_9 : decode prog_14_method_6_code 9 = .ok (.goto 28, 3) := by decide +kernel
theorem d2_12 : decode prog_14_method_6_code 12 = .ok (.iload_n 0, 1) := by decide +kernel
theorem d2_13 : decode prog_14_method_6_code 13 = .ok (.sipush 2048, 3) := by decide +kernel
theorem d2_16 : decode prog_14_method_6_code 16 = .ok (.if_icmp .ge 8, 3) := by decide +kernel
theorem d2_19 : decode prog_14_method_6_code 19 = .ok (.iconst 2, 1) := by decide +kernel
theorem d2_20 : decode prog_14_method_6_code 20 = .ok (.istore_n 1, 1) := by decide +kernel
theorem d2_21 : decode prog_14_method_6_code 21 = .ok (.goto 16, 3) := by decide +kernel
theorem d2_24 : decode prog_14_method_6_code 24 = .ok (.iload_n 0, 1) := by decide +kernel
theorem d2_25 : decode prog_14_method_6_code 25 = .ok (.ldc 47, 2) := by decide +kernel
theorem d2_27 : decode prog_14_method_6_code 27 = .ok (.if_icmp .ge 8, 3) := by decide +kernel
theorem d2_30 : decode prog_14_method_6_code 30 = .ok (.iconst 3, 1) := by decide +kernel
theorem d2_31 : decode prog_14_method_6_code 31 = .ok (.istore_n 1, 1) := by decide +kernel
theorem d2_32 : decode prog_14_method_6_code 32 = .ok (.goto 5, 3) := by decide +kernel
theorem d2_35 : decode prog_14_method_6_code 35 = .ok (.iconst 4, 1) := by decide +kernel
theorem d2_36 : decode prog_14_method_6_code 36 = .ok (.istore_n 1, 1) := by decide +kernel
theorem d2_37 : decode prog_14_method_6_code 37 = .ok (.iload_n 1, 1) := by decide +kernel
theorem d2_38 : decode prog_14_method_6_code 38 = .ok (.ireturn, 1) := by decide +kernel
theorem ef_2 (m : MethodId) (x0 : Int32) : entryFrame m #[(.int x0)] 2 = mkF m 0 #[.val (.int x0), .unset] [] := by first | (simp [entryFrame, mkF, argsToLocals, Value.category]; done) | rfl
def f2 (p1 : Int32) : Int32 := (if p1 < (128 : Int32) then (1 : Int32) else (if p1 < (2048 : Int32) then (2 : Int32) else (if p1 < (65536 : Int32) then (3 : Int32) else (4 : Int32))))
def Q2 (Z : State) (p1 : Int32) (h0 : Heap) (n0 : Nat) (v : Option Value) (h : Heap) (L : List Loc) : Prop := v = some (.int (f2 p1)) ∧ Fr n0 L ∧ h = h0
set_option maxRecDepth 65536 in
set_option maxHeartbeats 40000000 in
theorem rm2 (l : Launch) (Z : State) (a0 : Array Value) (hw : ∀ d ∈ tables_1, d.before a0 Z = true) (ws : List Jvm.Cond) (p1 : Int32) (h0 : Heap) (n0 : Nat) (Z0 : n0 ≤ h0.size) :
    MetFree l (⟨"com/example/ringward/ringward/Utf8", "length", "(I)I"⟩ : MethodName) (head1 (Jvm.Cond.code (⟨"com/example/ringward/ringward/Utf8", "length", "(I)I"⟩ : MethodName) prog_14_method_6_code 2 (some .int) :: ws) ({ frames := 0, cells := 0, slots := 0, locals := 0 } : Room)) (fun a U => a = #[(.int p1)] ∧ Z.Warmed39 U.vm ∧ U.heap = h0) (fun _ _ _ _ _ => True) (fun _ U o U' => ∃ v L, o = .returned v ∧ Q2 Z p1 h0 n0 v U'.heap L ∧ FrameEnd U o U' L ({ frames := 0, cells := 0, slots := 0, locals := 0 } : Room).cells ({ frames := 0, cells := 0, slots := 0, locals := 0 } : Room).slots) := by
  refine MetFree.of_bodySF (plainFor_of_name pn_0) hisR ?_
  intro p e s m args below meth c s₁ Bd hml0 hP hK
  obtain ⟨rfl, hZ, hh⟩ := hP
  have hx := Bd.exec
  have hby := Bd.bytes
  have hml : c.maxLocals = 2 := hml0
  have hown : s.vm.findClass "com/example/ringward/ringward/Utf8" = some m.cls := findClass_of_methodNamed Bd.named
  have hnm := (name_of_methodNamed Bd.named Bd.method).1
  have X0 : Stand p l e ({ frames := 0, cells := 0, slots := 0, locals := 0 } : Room) s m #[(.int p1)] below meth c s₁ [] 0 0 := Stand.of_body Bd
  have e0 : s₁.heap = h0 := by rw [← hh, Bd.state]; rfl
  have N0 := Fr.nil n0
  have pre0 : ∀ t, Steps p.tables e below (s₁.setTop (mkF m 0 #[.val (.int p1), .unset] [])) t → Steps p.tables e below (s₁.setTop (entryFrame m #[(.int p1)] 2)) t := fun t k => castTop (ef_2 m p1) k
  have pre1 : ∀ t, Steps p.tables e below (s₁.setTop (mkF m 4 #[.val (.int p1), .unset] [(.int (128 : Int32)), (.int p1)])) t → Steps p.tables e below (s₁.setTop (entryFrame m #[(.int p1)] 2)) t := by
    intro t k
    refine pre0 t ?_
    show Steps p.tables e below (s₁.setTop (mkF m 0 #[.val (.int p1), .unset] [])) _
    refine XS.iloadN X0.here hx rfl (hb hby d2_0) rfl ?_
    show Steps p.tables e below (s₁.setTop (mkF m 1 #[.val (.int p1), .unset] [(.int p1)])) _
    refine XS.sipush X0.here hx rfl (hb hby d2_1) ?_
    exact k
  by_cases hc4 : p1 < (128 : Int32)
  · have eq2 : (f2 p1) = (1 : Int32) := by unfold f2; simp only [if_pos hc4]
    obtain ⟨fs, hr, hrun, hended, hW, hsame⟩ := X0.leave (v := some (.int (1 : Int32))) (fun h => by rw [Bd.returns] at h; cases h)
    refine ⟨_, _, pre1 _ ?_, hrun, hended, _, _, rfl, ?_, ⟨_, rfl⟩, hW, hsame.mono (by decide) (by decide)⟩
    · show Steps p.tables e below (s₁.setTop (mkF m 4 #[.val (.int p1), .unset] [(.int (128 : Int32)), (.int p1)])) _
      refine XS.icmpNo X0.here hx rfl (hb hby d2_4) rfl (tlt hc4).2.1 ?_
      show Steps p.tables e below (s₁.setTop (mkF m 7 #[.val (.int p1), .unset] [])) _
      refine XS.iconst X0.here hx rfl (hb hby d2_7) ?_
      show Steps p.tables e below (s₁.setTop (mkF m 8 #[.val (.int p1), .unset] [(.int (1 : Int32))])) _
      refine XS.istoreN X0.here hx rfl (hb hby d2_8) rfl (l' := #[.val (.int p1), .val (.int (1 : Int32))]) rfl ?_
      show Steps p.tables e below (s₁.setTop (mkF m 9 #[.val (.int p1), .val (.int (1 : Int32))] [])) _
      refine XS.goto X0.here hx rfl (pc0 := 9) (pc' := 37) rfl (hb hby d2_9) (by decide) (by decide) ?_
      show Steps p.tables e below (s₁.setTop (mkF m 37 #[.val (.int p1), .val (.int (1 : Int32))] [])) _
      refine XS.iloadN X0.here hx rfl (hb hby d2_37) rfl ?_
      show Steps p.tables e below (s₁.setTop (mkF m 38 #[.val (.int p1), .val (.int (1 : Int32))] [(.int (1 : Int32))])) _
      exact retI X0 hx Bd.returns (hb hby d2_38) hr
    · show Q2 Z p1 h0 n0 _ s₁.heap _
      rw [e0]
      exact ⟨by rw [eq2], N0, rfl⟩
  · have pre3 : ∀ t, Steps p.tables e below (s₁.setTop (mkF m 16 #[.val (.int p1), .unset] [(.int (2048 : Int32)), (.int p1)])) t → Steps p.tables e below (s₁.setTop (entryFrame m #[(.int p1)] 2)) t := by
      intro t k
      refine pre1 t ?_
      show Steps p.tables e below (s₁.setTop (mkF m 4 #[.val (.int p1), .unset] [(.int (128 : Int32)), (.int p1)])) _
      refine XS.icmpYes X0.here hx rfl (pc0 := 4) (pc' := 12) rfl (hb hby d2_4) rfl (flt hc4).2.1 (by decide) (by decide) ?_
      show Steps p.tables e below (s₁.setTop (mkF m 12 #[.val (.int p1), .unset] [])) _
      refine XS.iloadN X0.here hx rfl (hb hby d2_12) rfl ?_
      show Steps p.tables e below (s₁.setTop (mkF m 13 #[.val (.int p1), .unset] [(.int p1)])) _
      refine XS.sipush X0.here hx rfl (hb hby d2_13) ?_
      exact k
    by_cases hc16 : p1 < (2048 : Int32)
    · have eq4 : (f2 p1) = (2 : Int32) := by unfold f2; simp only [if_neg hc4, if_pos hc16]
      obtain ⟨fs, hr, hrun, hended, hW, hsame⟩ := X0.leave (v := some (.int (2 : Int32))) (fun h => by rw [Bd.returns] at h; cases h)
      refine ⟨_, _, pre3 _ ?_, hrun, hended, _, _, rfl, ?_, ⟨_, rfl⟩, hW, hsame.mono (by decide) (by decide)⟩
      · show Steps p.tables e below (s₁.setTop (mkF m 16 #[.val (.int p1), .unset] [(.int (2048 : Int32)), (.int p1)])) _
        refine XS.icmpNo X0.here hx rfl (hb hby d2_16) rfl (tlt hc16).2.1 ?_
        show Steps p.tables e below (s₁.setTop (mkF m 19 #[.val (.int p1), .unset] [])) _
        refine XS.iconst X0.here hx rfl (hb hby d2_19) ?_
        show Steps p.tables e below (s₁.setTop (mkF m 20 #[.val (.int p1), .unset] [(.int (2 : Int32))])) _
        refine XS.istoreN X0.here hx rfl (hb hby d2_20) rfl (l' := #[.val (.int p1), .val (.int (2 : Int32))]) rfl ?_
        show Steps p.tables e below (s₁.setTop (mkF m 21 #[.val (.int p1), .val (.int (2 : Int32))] [])) _
        refine XS.goto X0.here hx rfl (pc0 := 21) (pc' := 37) rfl (hb hby d2_21) (by decide) (by decide) ?_
        show Steps p.tables e below (s₁.setTop (mkF m 37 #[.val (.int p1), .val (.int (2 : Int32))] [])) _
        refine XS.iloadN X0.here hx rfl (hb hby d2_37) rfl ?_
        show Steps p.tables e below (s₁.setTop (mkF m 38 #[.val (.int p1), .val (.int (2 : Int32))] [(.int (2 : Int32))])) _
        exact retI X0 hx Bd.returns (hb hby d2_38) hr
      · show Q2 Z p1 h0 n0 _ s₁.heap _
        rw [e0]
        exact ⟨by rw [eq4], N0, rfl⟩
    · have pre5 : ∀ t, Steps p.tables e below (s₁.setTop (mkF m 27 #[.val (.int p1), .unset] [(.int (65536 : Int32)), (.int p1)])) t → Steps p.tables e below (s₁.setTop (entryFrame m #[(.int p1)] 2)) t := by
        intro t k
        refine pre3 t ?_
        show Steps p.tables e below (s₁.setTop (mkF m 16 #[.val (.int p1), .unset] [(.int (2048 : Int32)), (.int p1)])) _
        refine XS.icmpYes X0.here hx rfl (pc0 := 16) (pc' := 24) rfl (hb hby d2_16) rfl (flt hc16).2.1 (by decide) (by decide) ?_
        show Steps p.tables e below (s₁.setTop (mkF m 24 #[.val (.int p1), .unset] [])) _
        refine XS.iloadN X0.here hx rfl (hb hby d2_24) rfl ?_
        show Steps p.tables e below (s₁.setTop (mkF m 25 #[.val (.int p1), .unset] [(.int p1)])) _
        refine X0.ldcInt hx hown (mvT hZ (hw _ (List.mem_of_getElem? (i := 10) rfl))) (g := (mkF m 25 #[.val (.int p1), .unset] [(.int p1)])) rfl (hb hby d2_25) _ ?_
        exact k
      by_cases hc27 : p1 < (65536 : Int32)
      · have eq6 : (f2 p1) = (3 : Int32) := by unfold f2; simp only [if_neg hc4, if_neg hc16, if_pos hc27]
        obtain ⟨fs, hr, hrun, hended, hW, hsame⟩ := X0.leave (v := some (.int (3 : Int32))) (fun h => by rw [Bd.returns] at h; cases h)
        refine ⟨_, _, pre5 _ ?_, hrun, hended, _, _, rfl, ?_, ⟨_, rfl⟩, hW, hsame.mono (by decide) (by decide)⟩
        · show Steps p.tables e below (s₁.setTop (mkF m 27 #[.val (.int p1), .unset] [(.int (65536 : Int32)), (.int p1)])) _
          refine XS.icmpNo X0.here hx rfl (hb hby d2_27) rfl (tlt hc27).2.1 ?_
          show Steps p.tables e below (s₁.setTop (mkF m 30 #[.val (.int p1), .unset] [])) _
          refine XS.iconst X0.here hx rfl (hb hby d2_30) ?_
          show Steps p.tables e below (s₁.setTop (mkF m 31 #[.val (.int p1), .unset] [(.int (3 : Int32))])) _
          refine XS.istoreN X0.here hx rfl (hb hby d2_31) rfl (l' := #[.val (.int p1), .val (.int (3 : Int32))]) rfl ?_
          show Steps p.tables e below (s₁.setTop (mkF m 32 #[.val (.int p1), .val (.int (3 : Int32))] [])) _
          refine XS.goto X0.here hx rfl (pc0 := 32) (pc' := 37) rfl (hb hby d2_32) (by decide) (by decide) ?_
          show Steps p.tables e below (s₁.setTop (mkF m 37 #[.val (.int p1), .val (.int (3 : Int32))] [])) _
          refine XS.iloadN X0.here hx rfl (hb hby d2_37) rfl ?_
          show Steps p.tables e below (s₁.setTop (mkF m 38 #[.val (.int p1), .val (.int (3 : Int32))] [(.int (3 : Int32))])) _
          exact retI X0 hx Bd.returns (hb hby d2_38) hr
        · show Q2 Z p1 h0 n0 _ s₁.heap _
          rw [e0]
          exact ⟨by rw [eq6], N0, rfl⟩
      · have eq7 : (f2 p1) = (4 : Int32) := by unfold f2; simp only [if_neg hc4, if_neg hc16, if_neg hc27]
        obtain ⟨fs, hr, hrun, hended, hW, hsame⟩ := X0.leave (v := some (.int (4 : Int32))) (fun h => by rw [Bd.returns] at h; cases h)
        refine ⟨_, _, pre5 _ ?_, hrun, hended, _, _, rfl, ?_, ⟨_, rfl⟩, hW, hsame.mono (by decide) (by decide)⟩
        · show Steps p.tables e below (s₁.setTop (mkF m 27 #[.val (.int p1), .unset] [(.int (65536 : Int32)), (.int p1)])) _
          refine XS.icmpYes X0.here hx rfl (pc0 := 27) (pc' := 35) rfl (hb hby d2_27) rfl (flt hc27).2.1 (by decide) (by decide) ?_
          show Steps p.tables e below (s₁.setTop (mkF m 35 #[.val (.int p1), .unset] [])) _
          refine XS.iconst X0.here hx rfl (hb hby d2_35) ?_
          show Steps p.tables e below (s₁.setTop (mkF m 36 #[.val (.int p1), .unset] [(.int (4 : Int32))])) _
          refine XS.istoreN X0.here hx rfl (hb hby d2_36) rfl (l' := #[.val (.int p1), .val (.int (4 : Int32))]) rfl ?_
          show Steps p.tables e below (s₁.setTop (mkF m 37 #[.val (.int p1), .val (.int (4 : Int32))] [])) _
          refine XS.iloadN X0.here hx rfl (hb hby d2_37) rfl ?_
          show Steps p.tables e below (s₁.setTop (mkF m 38 #[.val (.int p1), .val (.int (4 : Int32))] [(.int (4 : Int32))])) _
          exact retI X0 hx Bd.returns (hb hby d2_38) hr
        · show Q2 Z p1 h0 n0 _ s₁.heap _
          rw [e0]
          exact ⟨by rw [eq7], N0, rfl⟩
theorem pn_1 : plainName "com/example/ringward/ringward/Utf8EncodePinLaw" = true := by first | (simp [plainName, overriddenIn]; done) | decide +kernel
theorem d3_0 : decode method_2_code 0 = .ok (.iload_n 0, 1) := by decide +kernel
theorem d3_1 : decode method_2_code 1 = .ok (.sipush 192, 3) := by decide +kernel
theorem d3_4 : decode method_2_code 4 = .ok (.iand, 1) := by decide +kernel
theorem d3_5 : decode method_2_code 5 = .ok (.sipush 128, 3) := by decide +kernel
theorem d3_8 : decode method_2_code 8 = .ok (.if_icmp .ne 7, 3) := by decide +kernel
theorem d3_11 : decode method_2_code 11 = .ok (.iconst 1, 1) := by decide +kernel
theorem d3_12 : decode method_2_code 12 = .ok (.goto 4, 3) := by decide +kernel
theorem d3_15 : decode method_2_code 15 = .ok (.iconst 0, 1) := by decide +kernel
theorem d3_16 : decode method_2_code 16 = .ok (.ireturn, 1) := by decide +kernel
theorem ef_3 (m : MethodId) (x0 : Int32) : entryFrame m #[(.int x0)] 1 = mkF m 0 #[.val (.int x0)] [] := by first | (simp [entryFrame, mkF, argsToLocals, Value.category]; done) | rfl
def f3 (p1 : Int32) : Int32 := (if (p1 &&& (192 : Int32)) = (128 : Int32) then (1 : Int32) else (0 : Int32))
def Q3 (Z : State) (p1 : Int32) (h0 : Heap) (n0 : Nat) (v : Option Value) (h : Heap) (L : List Loc) : Prop := v = some (.int (f3 p1)) ∧ Fr n0 L ∧ h = h0
set_option maxRecDepth 65536 in
set_option maxHeartbeats 40000000 in
theorem rm3 (l : Launch) (Z : State) (a0 : Array Value) (hw : ∀ d ∈ tables_1, d.before a0 Z = true) (ws : List Jvm.Cond) (p1 : Int32) (h0 : Heap) (n0 : Nat) (Z0 : n0 ≤ h0.size) :
    MetFree l (⟨"com/example/ringward/ringward/Utf8EncodePinLaw", "cont", "(I)Z"⟩ : MethodName) (head1 (Jvm.Cond.code (⟨"com/example/ringward/ringward/Utf8EncodePinLaw", "cont", "(I)Z"⟩ : MethodName) method_2_code 1 (some .boolean) :: ws) ({ frames := 0, cells := 0, slots := 0, locals := 0 } : Room)) (fun a U => a = #[(.int p1)] ∧ Z.Warmed39 U.vm ∧ U.heap = h0) (fun _ _ _ _ _ => True) (fun _ U o U' => ∃ v L, o = .returned v ∧ Q3 Z p1 h0 n0 v U'.heap L ∧ FrameEnd U o U' L ({ frames := 0, cells := 0, slots := 0, locals := 0 } : Room).cells ({ frames := 0, cells := 0, slots := 0, locals := 0 } : Room).slots) := by
  refine MetFree.of_bodySF (plainFor_of_name pn_1) hisR ?_
  intro p e s m args below meth c s₁ Bd hml0 hP hK
  obtain ⟨rfl, hZ, hh⟩ := hP
  have hx := Bd.exec
  have hby := Bd.bytes
  have hml : c.maxLocals = 1 := hml0
  have hown : s.vm.findClass "com/example/ringward/ringward/Utf8EncodePinLaw" = some m.cls := findClass_of_methodNamed Bd.named
  have hnm := (name_of_methodNamed Bd.named Bd.method).1
  have X0 : Stand p l e ({ frames := 0, cells := 0, slots := 0, locals := 0 } : Room) s m #[(.int p1)] below meth c s₁ [] 0 0 := Stand.of_body Bd
  have e0 : s₁.heap = h0 := by rw [← hh, Bd.state]; rfl
  have N0 := Fr.nil n0
  have pre0 : ∀ t, Steps p.tables e below (s₁.setTop (mkF m 0 #[.val (.int p1)] [])) t → Steps p.tables e below (s₁.setTop (entryFrame m #[(.int p1)] 1)) t := fun t k => castTop (ef_3 m p1) k
  have pre1 : ∀ t, Steps p.tables e below (s₁.setTop (mkF m 8 #[.val (.int p1)] [(.int (128 : Int32)), (.int (p1 &&& (192 : Int32)))])) t → Steps p.tables e below (s₁.setTop (entryFrame m #[(.int p1)] 1)) t := by
    intro t k
    refine pre0 t ?_
    show Steps p.tables e below (s₁.setTop (mkF m 0 #[.val (.int p1)] [])) _
    refine XS.iloadN X0.here hx rfl (hb hby d3_0) rfl ?_
    show Steps p.tables e below (s₁.setTop (mkF m 1 #[.val (.int p1)] [(.int p1)])) _
    refine XS.sipush X0.here hx rfl (hb hby d3_1) ?_
    show Steps p.tables e below (s₁.setTop (mkF m 4 #[.val (.int p1)] [(.int (192 : Int32)), (.int p1)])) _
    refine XS.iand X0.here hx rfl (hb hby d3_4) rfl ?_
    show Steps p.tables e below (s₁.setTop (mkF m 5 #[.val (.int p1)] [(.int (p1 &&& (192 : Int32)))])) _
    refine XS.sipush X0.here hx rfl (hb hby d3_5) ?_
    exact k
  by_cases hc8 : (p1 &&& (192 : Int32)) = (128 : Int32)
  · have eq2 : (f3 p1) = (1 : Int32) := by unfold f3; simp only [if_pos hc8]
    obtain ⟨fs, hr, hrun, hended, hW, hsame⟩ := X0.leave (v := some (.int (1 : Int32))) (fun h => by rw [Bd.returns] at h; cases h)
    refine ⟨_, _, pre1 _ ?_, hrun, hended, _, _, rfl, ?_, ⟨_, rfl⟩, hW, hsame.mono (by decide) (by decide)⟩
    · show Steps p.tables e below (s₁.setTop (mkF m 8 #[.val (.int p1)] [(.int (128 : Int32)), (.int (p1 &&& (192 : Int32)))])) _
      refine XS.icmpNo X0.here hx rfl (hb hby d3_8) rfl (teq hc8).2 ?_
      show Steps p.tables e below (s₁.setTop (mkF m 11 #[.val (.int p1)] [])) _
      refine XS.iconst X0.here hx rfl (hb hby d3_11) ?_
      show Steps p.tables e below (s₁.setTop (mkF m 12 #[.val (.int p1)] [(.int (1 : Int32))])) _
      refine XS.goto X0.here hx rfl (pc0 := 12) (pc' := 16) rfl (hb hby d3_12) (by decide) (by decide) ?_
      show Steps p.tables e below (s₁.setTop (mkF m 16 #[.val (.int p1)] [(.int (1 : Int32))])) _
      exact retN X0 hx (t := .boolean) Bd.returns (by simp) (hb hby d3_16) hr
    · show Q3 Z p1 h0 n0 _ s₁.heap _
      rw [e0]
      exact ⟨by rw [eq2], N0, rfl⟩
  · have eq3 : (f3 p1) = (0 : Int32) := by unfold f3; simp only [if_neg hc8]
    obtain ⟨fs, hr, hrun, hended, hW, hsame⟩ := X0.leave (v := some (.int (0 : Int32))) (fun h => by rw [Bd.returns] at h; cases h)
    refine ⟨_, _, pre1 _ ?_, hrun, hended, _, _, rfl, ?_, ⟨_, rfl⟩, hW, hsame.mono (by decide) (by decide)⟩
    · show Steps p.tables e below (s₁.setTop (mkF m 8 #[.val (.int p1)] [(.int (128 : Int32)), (.int (p1 &&& (192 : Int32)))])) _
      refine XS.icmpYes X0.here hx rfl (pc0 := 8) (pc' := 15) rfl (hb hby d3_8) rfl (feq hc8).2 (by decide) (by decide) ?_
      show Steps p.tables e below (s₁.setTop (mkF m 15 #[.val (.int p1)] [])) _
      refine XS.iconst X0.here hx rfl (hb hby d3_15) ?_
      show Steps p.tables e below (s₁.setTop (mkF m 16 #[.val (.int p1)] [(.int (0 : Int32))])) _
      exact retN X0 hx (t := .boolean) Bd.returns (by simp) (hb hby d3_16) hr
    · show Q3 Z p1 h0 n0 _ s₁.heap _
      rw [e0]
      exact ⟨by rw [eq3], N0, rfl⟩
theorem pd_0 : parseMethodDescriptor "(I)I" = some ⟨[.int], some .int⟩ := by decide +kernel
theorem pd_1 : parseMethodDescriptor "(I)Z" = some ⟨[.int], some .boolean⟩ := by decide +kernel
theorem ef_0 (m : MethodId) (x0 : Int32) (x1 : Int32) : entryFrame m #[(.int x0), (.int x1)] maxLocals = mkF m 0 #[.val (.int x0), .val (.int x1), .unset, .unset, .unset, .unset, .unset, .unset, .unset, .unset, .unset] [] := by first | (simp [entryFrame, mkF, argsToLocals, Value.category, maxLocals]; done) | rfl
def f0_v34 (p1 : Int32) (p2 : Int32) : Int32 := ((p2 &&& (2147483647 : Int32)) - ((p2 &&& (2147483647 : Int32)) / (1920 : Int32)) * (1920 : Int32))
def f0_v52 (p1 : Int32) (p2 : Int32) : Int32 := ((p2 &&& (2147483647 : Int32)) - ((p2 &&& (2147483647 : Int32)) / (63488 : Int32)) * (63488 : Int32))
def f0_v86 (p1 : Int32) (p2 : Int32) : Int32 := ((p2 &&& (2147483647 : Int32)) - ((p2 &&& (2147483647 : Int32)) / (1048576 : Int32)) * (1048576 : Int32))
def f0_l4_90 (p1 : Int32) (p2 : Int32) : Int32 := (if (p1 &&& (3 : Int32)) = (0 : Int32) then (p2 &&& (127 : Int32)) else (if (p1 &&& (3 : Int32)) = (1 : Int32) then ((128 : Int32) + (f0_v34 p1 p2)) else (if (p1 &&& (3 : Int32)) = (2 : Int32) then (if ((2048 : Int32) + (f0_v52 p1 p2)) < (55296 : Int32) then ((2048 : Int32) + (f0_v52 p1 p2)) else (if (57343 : Int32) < ((2048 : Int32) + (f0_v52 p1 p2)) then ((2048 : Int32) + (f0_v52 p1 p2)) else (((2048 : Int32) + (f0_v52 p1 p2)) + (2048 : Int32)))) else ((65536 : Int32) + (f0_v86 p1 p2)))))
def f0_v131 (p1 : Int32) (p2 : Int32) : Int32 := ((((f1 (f0_l4_90 p1 p2)).toUInt32 >>> ((8 : Int32) &&& 31).toUInt32).toInt32) &&& (255 : Int32))
def f0_v142 (p1 : Int32) (p2 : Int32) : Int32 := ((((f1 (f0_l4_90 p1 p2)).toUInt32 >>> ((16 : Int32) &&& 31).toUInt32).toInt32) &&& (255 : Int32))
def f0_v153 (p1 : Int32) (p2 : Int32) : Int32 := ((((f1 (f0_l4_90 p1 p2)).toUInt32 >>> ((24 : Int32) &&& 31).toUInt32).toInt32) &&& (255 : Int32))
def f0 (p1 : Int32) (p2 : Int32) : Int32 := (if (f2 (f0_l4_90 p1 p2)) = ((p1 &&& (3 : Int32)) + (1 : Int32)) then (if ((p1 &&& (3 : Int32)) + (1 : Int32)) = (1 : Int32) then (if ((f1 (f0_l4_90 p1 p2)) &&& (255 : Int32)) < (128 : Int32) then (if (f0_v131 p1 p2) = (0 : Int32) then (if (f0_v142 p1 p2) = (0 : Int32) then (if (f0_v153 p1 p2) = (0 : Int32) then (if ((f1 (f0_l4_90 p1 p2)) &&& (255 : Int32)) = (f0_l4_90 p1 p2) then (1 : Int32) else (0 : Int32)) else (0 : Int32)) else (0 : Int32)) else (0 : Int32)) else (0 : Int32)) else (if ((p1 &&& (3 : Int32)) + (1 : Int32)) = (2 : Int32) then (if (((f1 (f0_l4_90 p1 p2)) &&& (255 : Int32)) &&& (224 : Int32)) = (192 : Int32) then (if (f3 (f0_v131 p1 p2)) = (0 : Int32) then (0 : Int32) else (if (f0_v142 p1 p2) = (0 : Int32) then (if (f0_v153 p1 p2) = (0 : Int32) then (if (((((f1 (f0_l4_90 p1 p2)) &&& (255 : Int32)) &&& (31 : Int32)) <<< ((6 : Int32) &&& 31)) ||| ((f0_v131 p1 p2) &&& (63 : Int32))) = (f0_l4_90 p1 p2) then (1 : Int32) else (0 : Int32)) else (0 : Int32)) else (0 : Int32))) else (0 : Int32)) else (if ((p1 &&& (3 : Int32)) + (1 : Int32)) = (3 : Int32) then (if (((f1 (f0_l4_90 p1 p2)) &&& (255 : Int32)) &&& (240 : Int32)) = (224 : Int32) then (if (f3 (f0_v131 p1 p2)) = (0 : Int32) then (0 : Int32) else (if (f3 (f0_v142 p1 p2)) = (0 : Int32) then (0 : Int32) else (if (f0_v153 p1 p2) = (0 : Int32) then (if ((((((f1 (f0_l4_90 p1 p2)) &&& (255 : Int32)) &&& (15 : Int32)) <<< ((12 : Int32) &&& 31)) ||| (((f0_v131 p1 p2) &&& (63 : Int32)) <<< ((6 : Int32) &&& 31))) ||| ((f0_v142 p1 p2) &&& (63 : Int32))) = (f0_l4_90 p1 p2) then (1 : Int32) else (0 : Int32)) else (0 : Int32)))) else (0 : Int32)) else (if (((f1 (f0_l4_90 p1 p2)) &&& (255 : Int32)) &&& (248 : Int32)) = (240 : Int32) then (if (f3 (f0_v131 p1 p2)) = (0 : Int32) then (0 : Int32) else (if (f3 (f0_v142 p1 p2)) = (0 : Int32) then (0 : Int32) else (if (f3 (f0_v153 p1 p2)) = (0 : Int32) then (0 : Int32) else (if (((((((f1 (f0_l4_90 p1 p2)) &&& (255 : Int32)) &&& (7 : Int32)) <<< ((18 : Int32) &&& 31)) ||| (((f0_v131 p1 p2) &&& (63 : Int32)) <<< ((12 : Int32) &&& 31))) ||| (((f0_v142 p1 p2) &&& (63 : Int32)) <<< ((6 : Int32) &&& 31))) ||| ((f0_v153 p1 p2) &&& (63 : Int32))) = (f0_l4_90 p1 p2) then (1 : Int32) else (0 : Int32))))) else (0 : Int32))))) else (0 : Int32))
def Q0 (Z : State) (p1 : Int32) (p2 : Int32) (h0 : Heap) (n0 : Nat) (v : Option Value) (h : Heap) (L : List Loc) : Prop := v = some (.int (f0 p1 p2)) ∧ Fr n0 L ∧ True
set_option maxRecDepth 65536 in
set_option maxHeartbeats 40000000 in
theorem rm0 (l : Launch) (Z : State) (a0 : Array Value) (hw : ∀ d ∈ tables_1, d.before a0 Z = true) (ws : List Jvm.Cond) (p1 : Int32) (p2 : Int32) (h0 : Heap) (n0 : Nat) (Z0 : n0 ≤ h0.size) :
    MetFree l x (head1 (Jvm.Cond.code x code maxLocals ret :: ws) room_1) (fun a U => a = #[(.int p1), (.int p2)] ∧ Z.Warmed39 U.vm ∧ U.heap = h0) (fun _ _ _ _ _ => True) (fun _ U o U' => ∃ v L, o = .returned v ∧ Q0 Z p1 p2 h0 n0 v U'.heap L ∧ FrameEnd U o U' L room_1.cells room_1.slots) := by
  refine MetFree.of_bodySF (plainFor_of_name pn_1) hisR ?_
  intro p e s m args below meth c s₁ Bd hml0 hP hK
  obtain ⟨rfl, hZ, hh⟩ := hP
  have hx := Bd.exec
  have hby := Bd.bytes
  have hml : c.maxLocals = 11 := hml0
  have hown : s.vm.findClass "com/example/ringward/ringward/Utf8EncodePinLaw" = some m.cls := findClass_of_methodNamed Bd.named
  have hnm := (name_of_methodNamed Bd.named Bd.method).1
  have X0 : Stand p l e room_1 s m #[(.int p1), (.int p2)] below meth c s₁ [] 0 0 := Stand.of_body Bd
  have e0 : s₁.heap = h0 := by rw [← hh, Bd.state]; rfl
  have N0 := Fr.nil n0
  have pre0 : ∀ t, Steps p.tables e below (s₁.setTop (mkF m 0 #[.val (.int p1), .val (.int p2), .unset, .unset, .unset, .unset, .unset, .unset, .unset, .unset, .unset] [])) t → Steps p.tables e below (s₁.setTop (entryFrame m #[(.int p1), (.int p2)] maxLocals)) t := fun t k => castTop (ef_0 m p1 p2) k
  have pre1 : ∀ t, Steps p.tables e below (s₁.setTop (mkF m 10 #[.val (.int p1), .val (.int p2), .val (.int (p2 &&& (2147483647 : Int32))), .val (.int (p1 &&& (3 : Int32))), .unset, .unset, .unset, .unset, .unset, .unset, .unset] [(.int (p1 &&& (3 : Int32)))])) t → Steps p.tables e below (s₁.setTop (entryFrame m #[(.int p1), (.int p2)] maxLocals)) t := by
    intro t k
    refine pre0 t ?_
    show Steps p.tables e below (s₁.setTop (mkF m 0 #[.val (.int p1), .val (.int p2), .unset, .unset, .unset, .unset, .unset, .unset, .unset, .unset, .unset] [])) _
    refine XS.iloadN X0.here hx rfl (hb hby at_0) rfl ?_
    show Steps p.tables e below (s₁.setTop (mkF m 1 #[.val (.int p1), .val (.int p2), .unset, .unset, .unset, .unset, .unset, .unset, .unset, .unset, .unset] [(.int p2)])) _
    refine X0.ldcInt hx hown (mvT hZ (hw _ (List.mem_of_getElem? (i := 0) rfl))) (g := (mkF m 1 #[.val (.int p1), .val (.int p2), .unset, .unset, .unset, .unset, .unset, .unset, .unset, .unset, .unset] [(.int p2)])) rfl (hb hby at_1) _ ?_
    show Steps p.tables e below (s₁.setTop (mkF m 3 #[.val (.int p1), .val (.int p2), .unset, .unset, .unset, .unset, .unset, .unset, .unset, .unset, .unset] [(.int (2147483647 : Int32)), (.int p2)])) _
    refine XS.iand X0.here hx rfl (hb hby at_3) rfl ?_
    show Steps p.tables e below (s₁.setTop (mkF m 4 #[.val (.int p1), .val (.int p2), .unset, .unset, .unset, .unset, .unset, .unset, .unset, .unset, .unset] [(.int (p2 &&& (2147483647 : Int32)))])) _
    refine XS.istoreN X0.here hx rfl (hb hby at_4) rfl (l' := #[.val (.int p1), .val (.int p2), .val (.int (p2 &&& (2147483647 : Int32))), .unset, .unset, .unset, .unset, .unset, .unset, .unset, .unset]) rfl ?_
    show Steps p.tables e below (s₁.setTop (mkF m 5 #[.val (.int p1), .val (.int p2), .val (.int (p2 &&& (2147483647 : Int32))), .unset, .unset, .unset, .unset, .unset, .unset, .unset, .unset] [])) _
    refine XS.iloadN X0.here hx rfl (hb hby at_5) rfl ?_
    show Steps p.tables e below (s₁.setTop (mkF m 6 #[.val (.int p1), .val (.int p2), .val (.int (p2 &&& (2147483647 : Int32))), .unset, .unset, .unset, .unset, .unset, .unset, .unset, .unset] [(.int p1)])) _
    refine XS.iconst X0.here hx rfl (hb hby at_6) ?_
    show Steps p.tables e below (s₁.setTop (mkF m 7 #[.val (.int p1), .val (.int p2), .val (.int (p2 &&& (2147483647 : Int32))), .unset, .unset, .unset, .unset, .unset, .unset, .unset, .unset] [(.int (3 : Int32)), (.int p1)])) _
    refine XS.iand X0.here hx rfl (hb hby at_7) rfl ?_
    show Steps p.tables e below (s₁.setTop (mkF m 8 #[.val (.int p1), .val (.int p2), .val (.int (p2 &&& (2147483647 : Int32))), .unset, .unset, .unset, .unset, .unset, .unset, .unset, .unset] [(.int (p1 &&& (3 : Int32)))])) _
    refine XS.istoreN X0.here hx rfl (hb hby at_8) rfl (l' := #[.val (.int p1), .val (.int p2), .val (.int (p2 &&& (2147483647 : Int32))), .val (.int (p1 &&& (3 : Int32))), .unset, .unset, .unset, .unset, .unset, .unset, .unset]) rfl ?_
    show Steps p.tables e below (s₁.setTop (mkF m 9 #[.val (.int p1), .val (.int p2), .val (.int (p2 &&& (2147483647 : Int32))), .val (.int (p1 &&& (3 : Int32))), .unset, .unset, .unset, .unset, .unset, .unset, .unset] [])) _
    refine XS.iloadN X0.here hx rfl (hb hby at_9) rfl ?_
    exact k
  have pre2 : ∀ t, Steps p.tables e below (s₁.setTop (mkF m 90 #[.val (.int p1), .val (.int p2), .val (.int (p2 &&& (2147483647 : Int32))), .val (.int (p1 &&& (3 : Int32))), .val (.int (f0_l4_90 p1 p2)), .unset, .unset, .unset, .unset, .unset, .unset] [])) t → Steps p.tables e below (s₁.setTop (entryFrame m #[(.int p1), (.int p2)] maxLocals)) t := by
    intro t k
    by_cases hc10 : (p1 &&& (3 : Int32)) = (0 : Int32)
    · have eq3 := (show (f0_l4_90 p1 p2) = (p2 &&& (127 : Int32)) from by unfold f0_l4_90; simp only [if_pos hc10])
      try rw [eq3] at k
      refine pre1 t ?_
      show Steps p.tables e below (s₁.setTop (mkF m 10 #[.val (.int p1), .val (.int p2), .val (.int (p2 &&& (2147483647 : Int32))), .val (.int (p1 &&& (3 : Int32))), .unset, .unset, .unset, .unset, .unset, .unset, .unset] [(.int (p1 &&& (3 : Int32)))])) _
      refine XS.ifNo X0.here hx rfl (hb hby at_10) rfl ((if0 _ _).trans (teq hc10).2) ?_
      show Steps p.tables e below (s₁.setTop (mkF m 13 #[.val (.int p1), .val (.int p2), .val (.int (p2 &&& (2147483647 : Int32))), .val (.int (p1 &&& (3 : Int32))), .unset, .unset, .unset, .unset, .unset, .unset, .unset] [])) _
      refine XS.iloadN X0.here hx rfl (hb hby at_13) rfl ?_
      show Steps p.tables e below (s₁.setTop (mkF m 14 #[.val (.int p1), .val (.int p2), .val (.int (p2 &&& (2147483647 : Int32))), .val (.int (p1 &&& (3 : Int32))), .unset, .unset, .unset, .unset, .unset, .unset, .unset] [(.int p2)])) _
      refine XS.bipush X0.here hx rfl (hb hby at_14) ?_
      show Steps p.tables e below (s₁.setTop (mkF m 16 #[.val (.int p1), .val (.int p2), .val (.int (p2 &&& (2147483647 : Int32))), .val (.int (p1 &&& (3 : Int32))), .unset, .unset, .unset, .unset, .unset, .unset, .unset] [(.int (127 : Int32)), (.int p2)])) _
      refine XS.iand X0.here hx rfl (hb hby at_16) rfl ?_
      show Steps p.tables e below (s₁.setTop (mkF m 17 #[.val (.int p1), .val (.int p2), .val (.int (p2 &&& (2147483647 : Int32))), .val (.int (p1 &&& (3 : Int32))), .unset, .unset, .unset, .unset, .unset, .unset, .unset] [(.int (p2 &&& (127 : Int32)))])) _
      refine XS.istore X0.here hx rfl (hb hby at_17) rfl (l' := #[.val (.int p1), .val (.int p2), .val (.int (p2 &&& (2147483647 : Int32))), .val (.int (p1 &&& (3 : Int32))), .val (.int (p2 &&& (127 : Int32))), .unset, .unset, .unset, .unset, .unset, .unset]) rfl ?_
      show Steps p.tables e below (s₁.setTop (mkF m 19 #[.val (.int p1), .val (.int p2), .val (.int (p2 &&& (2147483647 : Int32))), .val (.int (p1 &&& (3 : Int32))), .val (.int (p2 &&& (127 : Int32))), .unset, .unset, .unset, .unset, .unset, .unset] [])) _
      refine XS.goto X0.here hx rfl (pc0 := 19) (pc' := 90) rfl (hb hby at_19) (by decide) (by decide) ?_
      exact k
    · have pre4 : ∀ t, Steps p.tables e below (s₁.setTop (mkF m 24 #[.val (.int p1), .val (.int p2), .val (.int (p2 &&& (2147483647 : Int32))), .val (.int (p1 &&& (3 : Int32))), .unset, .unset, .unset, .unset, .unset, .unset, .unset] [(.int (1 : Int32)), (.int (p1 &&& (3 : Int32)))])) t → Steps p.tables e below (s₁.setTop (entryFrame m #[(.int p1), (.int p2)] maxLocals)) t := by
        intro t k
        refine pre1 t ?_
        show Steps p.tables e below (s₁.setTop (mkF m 10 #[.val (.int p1), .val (.int p2), .val (.int (p2 &&& (2147483647 : Int32))), .val (.int (p1 &&& (3 : Int32))), .unset, .unset, .unset, .unset, .unset, .unset, .unset] [(.int (p1 &&& (3 : Int32)))])) _
        refine XS.ifYes X0.here hx rfl (pc0 := 10) (pc' := 22) rfl (hb hby at_10) rfl ((if0 _ _).trans (feq hc10).2) (by decide) (by decide) ?_
        show Steps p.tables e below (s₁.setTop (mkF m 22 #[.val (.int p1), .val (.int p2), .val (.int (p2 &&& (2147483647 : Int32))), .val (.int (p1 &&& (3 : Int32))), .unset, .unset, .unset, .unset, .unset, .unset, .unset] [])) _
        refine XS.iloadN X0.here hx rfl (hb hby at_22) rfl ?_
        show Steps p.tables e below (s₁.setTop (mkF m 23 #[.val (.int p1), .val (.int p2), .val (.int (p2 &&& (2147483647 : Int32))), .val (.int (p1 &&& (3 : Int32))), .unset, .unset, .unset, .unset, .unset, .unset, .unset] [(.int (p1 &&& (3 : Int32)))])) _
        refine XS.iconst X0.here hx rfl (hb hby at_23) ?_
        exact k
      by_cases hc24 : (p1 &&& (3 : Int32)) = (1 : Int32)
      · have eq5 := (show (f0_l4_90 p1 p2) = ((128 : Int32) + (f0_v34 p1 p2)) from by unfold f0_l4_90; simp only [if_neg hc10, if_pos hc24])
        try rw [eq5] at k
        refine pre4 t ?_
        show Steps p.tables e below (s₁.setTop (mkF m 24 #[.val (.int p1), .val (.int p2), .val (.int (p2 &&& (2147483647 : Int32))), .val (.int (p1 &&& (3 : Int32))), .unset, .unset, .unset, .unset, .unset, .unset, .unset] [(.int (1 : Int32)), (.int (p1 &&& (3 : Int32)))])) _
        refine XS.icmpNo X0.here hx rfl (hb hby at_24) rfl (teq hc24).2 ?_
        show Steps p.tables e below (s₁.setTop (mkF m 27 #[.val (.int p1), .val (.int p2), .val (.int (p2 &&& (2147483647 : Int32))), .val (.int (p1 &&& (3 : Int32))), .unset, .unset, .unset, .unset, .unset, .unset, .unset] [])) _
        refine XS.sipush X0.here hx rfl (hb hby at_27) ?_
        show Steps p.tables e below (s₁.setTop (mkF m 30 #[.val (.int p1), .val (.int p2), .val (.int (p2 &&& (2147483647 : Int32))), .val (.int (p1 &&& (3 : Int32))), .unset, .unset, .unset, .unset, .unset, .unset, .unset] [(.int (128 : Int32))])) _
        refine XS.iloadN X0.here hx rfl (hb hby at_30) rfl ?_
        show Steps p.tables e below (s₁.setTop (mkF m 31 #[.val (.int p1), .val (.int p2), .val (.int (p2 &&& (2147483647 : Int32))), .val (.int (p1 &&& (3 : Int32))), .unset, .unset, .unset, .unset, .unset, .unset, .unset] [(.int (p2 &&& (2147483647 : Int32))), (.int (128 : Int32))])) _
        refine XS.sipush X0.here hx rfl (hb hby at_31) ?_
        show Steps p.tables e below (s₁.setTop (mkF m 34 #[.val (.int p1), .val (.int p2), .val (.int (p2 &&& (2147483647 : Int32))), .val (.int (p1 &&& (3 : Int32))), .unset, .unset, .unset, .unset, .unset, .unset, .unset] [(.int (1920 : Int32)), (.int (p2 &&& (2147483647 : Int32))), (.int (128 : Int32))])) _
        refine XS.irem X0.here hx rfl (hb hby at_34) rfl (by decide) ?_
        show Steps p.tables e below (s₁.setTop (mkF m 35 #[.val (.int p1), .val (.int p2), .val (.int (p2 &&& (2147483647 : Int32))), .val (.int (p1 &&& (3 : Int32))), .unset, .unset, .unset, .unset, .unset, .unset, .unset] [(.int (f0_v34 p1 p2)), (.int (128 : Int32))])) _
        refine XS.iadd X0.here hx rfl (hb hby at_35) rfl ?_
        show Steps p.tables e below (s₁.setTop (mkF m 36 #[.val (.int p1), .val (.int p2), .val (.int (p2 &&& (2147483647 : Int32))), .val (.int (p1 &&& (3 : Int32))), .unset, .unset, .unset, .unset, .unset, .unset, .unset] [(.int ((128 : Int32) + (f0_v34 p1 p2)))])) _
        refine XS.istore X0.here hx rfl (hb hby at_36) rfl (l' := #[.val (.int p1), .val (.int p2), .val (.int (p2 &&& (2147483647 : Int32))), .val (.int (p1 &&& (3 : Int32))), .val (.int ((128 : Int32) + (f0_v34 p1 p2))), .unset, .unset, .unset, .unset, .unset, .unset]) rfl ?_
        show Steps p.tables e below (s₁.setTop (mkF m 38 #[.val (.int p1), .val (.int p2), .val (.int (p2 &&& (2147483647 : Int32))), .val (.int (p1 &&& (3 : Int32))), .val (.int ((128 : Int32) + (f0_v34 p1 p2))), .unset, .unset, .unset, .unset, .unset, .unset] [])) _
        refine XS.goto X0.here hx rfl (pc0 := 38) (pc' := 90) rfl (hb hby at_38) (by decide) (by decide) ?_
        exact k
      · have pre6 : ∀ t, Steps p.tables e below (s₁.setTop (mkF m 43 #[.val (.int p1), .val (.int p2), .val (.int (p2 &&& (2147483647 : Int32))), .val (.int (p1 &&& (3 : Int32))), .unset, .unset, .unset, .unset, .unset, .unset, .unset] [(.int (2 : Int32)), (.int (p1 &&& (3 : Int32)))])) t → Steps p.tables e below (s₁.setTop (entryFrame m #[(.int p1), (.int p2)] maxLocals)) t := by
          intro t k
          refine pre4 t ?_
          show Steps p.tables e below (s₁.setTop (mkF m 24 #[.val (.int p1), .val (.int p2), .val (.int (p2 &&& (2147483647 : Int32))), .val (.int (p1 &&& (3 : Int32))), .unset, .unset, .unset, .unset, .unset, .unset, .unset] [(.int (1 : Int32)), (.int (p1 &&& (3 : Int32)))])) _
          refine XS.icmpYes X0.here hx rfl (pc0 := 24) (pc' := 41) rfl (hb hby at_24) rfl (feq hc24).2 (by decide) (by decide) ?_
          show Steps p.tables e below (s₁.setTop (mkF m 41 #[.val (.int p1), .val (.int p2), .val (.int (p2 &&& (2147483647 : Int32))), .val (.int (p1 &&& (3 : Int32))), .unset, .unset, .unset, .unset, .unset, .unset, .unset] [])) _
          refine XS.iloadN X0.here hx rfl (hb hby at_41) rfl ?_
          show Steps p.tables e below (s₁.setTop (mkF m 42 #[.val (.int p1), .val (.int p2), .val (.int (p2 &&& (2147483647 : Int32))), .val (.int (p1 &&& (3 : Int32))), .unset, .unset, .unset, .unset, .unset, .unset, .unset] [(.int (p1 &&& (3 : Int32)))])) _
          refine XS.iconst X0.here hx rfl (hb hby at_42) ?_
          exact k
        by_cases hc43 : (p1 &&& (3 : Int32)) = (2 : Int32)
        · have pre7 : ∀ t, Steps p.tables e below (s₁.setTop (mkF m 60 #[.val (.int p1), .val (.int p2), .val (.int (p2 &&& (2147483647 : Int32))), .val (.int (p1 &&& (3 : Int32))), .val (.int ((2048 : Int32) + (f0_v52 p1 p2))), .unset, .unset, .unset, .unset, .unset, .unset] [(.int (55296 : Int32)), (.int ((2048 : Int32) + (f0_v52 p1 p2)))])) t → Steps p.tables e below (s₁.setTop (entryFrame m #[(.int p1), (.int p2)] maxLocals)) t := by
            intro t k
            refine pre6 t ?_
            show Steps p.tables e below (s₁.setTop (mkF m 43 #[.val (.int p1), .val (.int p2), .val (.int (p2 &&& (2147483647 : Int32))), .val (.int (p1 &&& (3 : Int32))), .unset, .unset, .unset, .unset, .unset, .unset, .unset] [(.int (2 : Int32)), (.int (p1 &&& (3 : Int32)))])) _
            refine XS.icmpNo X0.here hx rfl (hb hby at_43) rfl (teq hc43).2 ?_
            show Steps p.tables e below (s₁.setTop (mkF m 46 #[.val (.int p1), .val (.int p2), .val (.int (p2 &&& (2147483647 : Int32))), .val (.int (p1 &&& (3 : Int32))), .unset, .unset, .unset, .unset, .unset, .unset, .unset] [])) _
            refine XS.sipush X0.here hx rfl (hb hby at_46) ?_
            show Steps p.tables e below (s₁.setTop (mkF m 49 #[.val (.int p1), .val (.int p2), .val (.int (p2 &&& (2147483647 : Int32))), .val (.int (p1 &&& (3 : Int32))), .unset, .unset, .unset, .unset, .unset, .unset, .unset] [(.int (2048 : Int32))])) _
            refine XS.iloadN X0.here hx rfl (hb hby at_49) rfl ?_
            show Steps p.tables e below (s₁.setTop (mkF m 50 #[.val (.int p1), .val (.int p2), .val (.int (p2 &&& (2147483647 : Int32))), .val (.int (p1 &&& (3 : Int32))), .unset, .unset, .unset, .unset, .unset, .unset, .unset] [(.int (p2 &&& (2147483647 : Int32))), (.int (2048 : Int32))])) _
            refine X0.ldcInt hx hown (mvT hZ (hw _ (List.mem_of_getElem? (i := 8) rfl))) (g := (mkF m 50 #[.val (.int p1), .val (.int p2), .val (.int (p2 &&& (2147483647 : Int32))), .val (.int (p1 &&& (3 : Int32))), .unset, .unset, .unset, .unset, .unset, .unset, .unset] [(.int (p2 &&& (2147483647 : Int32))), (.int (2048 : Int32))])) rfl (hb hby at_50) _ ?_
            show Steps p.tables e below (s₁.setTop (mkF m 52 #[.val (.int p1), .val (.int p2), .val (.int (p2 &&& (2147483647 : Int32))), .val (.int (p1 &&& (3 : Int32))), .unset, .unset, .unset, .unset, .unset, .unset, .unset] [(.int (63488 : Int32)), (.int (p2 &&& (2147483647 : Int32))), (.int (2048 : Int32))])) _
            refine XS.irem X0.here hx rfl (hb hby at_52) rfl (by decide) ?_
            show Steps p.tables e below (s₁.setTop (mkF m 53 #[.val (.int p1), .val (.int p2), .val (.int (p2 &&& (2147483647 : Int32))), .val (.int (p1 &&& (3 : Int32))), .unset, .unset, .unset, .unset, .unset, .unset, .unset] [(.int (f0_v52 p1 p2)), (.int (2048 : Int32))])) _
            refine XS.iadd X0.here hx rfl (hb hby at_53) rfl ?_
            show Steps p.tables e below (s₁.setTop (mkF m 54 #[.val (.int p1), .val (.int p2), .val (.int (p2 &&& (2147483647 : Int32))), .val (.int (p1 &&& (3 : Int32))), .unset, .unset, .unset, .unset, .unset, .unset, .unset] [(.int ((2048 : Int32) + (f0_v52 p1 p2)))])) _
            refine XS.istore X0.here hx rfl (hb hby at_54) rfl (l' := #[.val (.int p1), .val (.int p2), .val (.int (p2 &&& (2147483647 : Int32))), .val (.int (p1 &&& (3 : Int32))), .val (.int ((2048 : Int32) + (f0_v52 p1 p2))), .unset, .unset, .unset, .unset, .unset, .unset]) rfl ?_
            show Steps p.tables e below (s₁.setTop (mkF m 56 #[.val (.int p1), .val (.int p2), .val (.int (p2 &&& (2147483647 : Int32))), .val (.int (p1 &&& (3 : Int32))), .val (.int ((2048 : Int32) + (f0_v52 p1 p2))), .unset, .unset, .unset, .unset, .unset, .unset] [])) _
            refine XS.iload X0.here hx rfl (hb hby at_56) rfl ?_
            show Steps p.tables e below (s₁.setTop (mkF m 58 #[.val (.int p1), .val (.int p2), .val (.int (p2 &&& (2147483647 : Int32))), .val (.int (p1 &&& (3 : Int32))), .val (.int ((2048 : Int32) + (f0_v52 p1 p2))), .unset, .unset, .unset, .unset, .unset, .unset] [(.int ((2048 : Int32) + (f0_v52 p1 p2)))])) _
            refine X0.ldcInt hx hown (mvT hZ (hw _ (List.mem_of_getElem? (i := 9) rfl))) (g := (mkF m 58 #[.val (.int p1), .val (.int p2), .val (.int (p2 &&& (2147483647 : Int32))), .val (.int (p1 &&& (3 : Int32))), .val (.int ((2048 : Int32) + (f0_v52 p1 p2))), .unset, .unset, .unset, .unset, .unset, .unset] [(.int ((2048 : Int32) + (f0_v52 p1 p2)))])) rfl (hb hby at_58) _ ?_
            exact k
          by_cases hc60 : ((2048 : Int32) + (f0_v52 p1 p2)) < (55296 : Int32)
          · have eq8 := (show (f0_l4_90 p1 p2) = ((2048 : Int32) + (f0_v52 p1 p2)) from by unfold f0_l4_90; simp only [if_neg hc10, if_neg hc24, if_pos hc43, if_pos hc60])
            try rw [eq8] at k
            refine pre7 t ?_
            show Steps p.tables e below (s₁.setTop (mkF m 60 #[.val (.int p1), .val (.int p2), .val (.int (p2 &&& (2147483647 : Int32))), .val (.int (p1 &&& (3 : Int32))), .val (.int ((2048 : Int32) + (f0_v52 p1 p2))), .unset, .unset, .unset, .unset, .unset, .unset] [(.int (55296 : Int32)), (.int ((2048 : Int32) + (f0_v52 p1 p2)))])) _
            refine XS.icmpYes X0.here hx rfl (pc0 := 60) (pc' := 90) rfl (hb hby at_60) rfl (tlt hc60).1 (by decide) (by decide) ?_
            exact k
          · have pre9 : ∀ t, Steps p.tables e below (s₁.setTop (mkF m 67 #[.val (.int p1), .val (.int p2), .val (.int (p2 &&& (2147483647 : Int32))), .val (.int (p1 &&& (3 : Int32))), .val (.int ((2048 : Int32) + (f0_v52 p1 p2))), .unset, .unset, .unset, .unset, .unset, .unset] [(.int (57343 : Int32)), (.int ((2048 : Int32) + (f0_v52 p1 p2)))])) t → Steps p.tables e below (s₁.setTop (entryFrame m #[(.int p1), (.int p2)] maxLocals)) t := by
              intro t k
              refine pre7 t ?_
              show Steps p.tables e below (s₁.setTop (mkF m 60 #[.val (.int p1), .val (.int p2), .val (.int (p2 &&& (2147483647 : Int32))), .val (.int (p1 &&& (3 : Int32))), .val (.int ((2048 : Int32) + (f0_v52 p1 p2))), .unset, .unset, .unset, .unset, .unset, .unset] [(.int (55296 : Int32)), (.int ((2048 : Int32) + (f0_v52 p1 p2)))])) _
              refine XS.icmpNo X0.here hx rfl (hb hby at_60) rfl (flt hc60).1 ?_
              show Steps p.tables e below (s₁.setTop (mkF m 63 #[.val (.int p1), .val (.int p2), .val (.int (p2 &&& (2147483647 : Int32))), .val (.int (p1 &&& (3 : Int32))), .val (.int ((2048 : Int32) + (f0_v52 p1 p2))), .unset, .unset, .unset, .unset, .unset, .unset] [])) _
              refine XS.iload X0.here hx rfl (hb hby at_63) rfl ?_
              show Steps p.tables e below (s₁.setTop (mkF m 65 #[.val (.int p1), .val (.int p2), .val (.int (p2 &&& (2147483647 : Int32))), .val (.int (p1 &&& (3 : Int32))), .val (.int ((2048 : Int32) + (f0_v52 p1 p2))), .unset, .unset, .unset, .unset, .unset, .unset] [(.int ((2048 : Int32) + (f0_v52 p1 p2)))])) _
              refine X0.ldcInt hx hown (mvT hZ (hw _ (List.mem_of_getElem? (i := 17) rfl))) (g := (mkF m 65 #[.val (.int p1), .val (.int p2), .val (.int (p2 &&& (2147483647 : Int32))), .val (.int (p1 &&& (3 : Int32))), .val (.int ((2048 : Int32) + (f0_v52 p1 p2))), .unset, .unset, .unset, .unset, .unset, .unset] [(.int ((2048 : Int32) + (f0_v52 p1 p2)))])) rfl (hb hby at_65) _ ?_
              exact k
            by_cases hc67 : (57343 : Int32) < ((2048 : Int32) + (f0_v52 p1 p2))
            · have eq10 := (show (f0_l4_90 p1 p2) = ((2048 : Int32) + (f0_v52 p1 p2)) from by unfold f0_l4_90; simp only [if_neg hc10, if_neg hc24, if_pos hc43, if_neg hc60, if_pos hc67])
              try rw [eq10] at k
              refine pre9 t ?_
              show Steps p.tables e below (s₁.setTop (mkF m 67 #[.val (.int p1), .val (.int p2), .val (.int (p2 &&& (2147483647 : Int32))), .val (.int (p1 &&& (3 : Int32))), .val (.int ((2048 : Int32) + (f0_v52 p1 p2))), .unset, .unset, .unset, .unset, .unset, .unset] [(.int (57343 : Int32)), (.int ((2048 : Int32) + (f0_v52 p1 p2)))])) _
              refine XS.icmpYes X0.here hx rfl (pc0 := 67) (pc' := 90) rfl (hb hby at_67) rfl (tlt hc67).2.2.1 (by decide) (by decide) ?_
              exact k
            · have eq11 := (show (f0_l4_90 p1 p2) = (((2048 : Int32) + (f0_v52 p1 p2)) + (2048 : Int32)) from by unfold f0_l4_90; simp only [if_neg hc10, if_neg hc24, if_pos hc43, if_neg hc60, if_neg hc67])
              try rw [eq11] at k
              refine pre9 t ?_
              show Steps p.tables e below (s₁.setTop (mkF m 67 #[.val (.int p1), .val (.int p2), .val (.int (p2 &&& (2147483647 : Int32))), .val (.int (p1 &&& (3 : Int32))), .val (.int ((2048 : Int32) + (f0_v52 p1 p2))), .unset, .unset, .unset, .unset, .unset, .unset] [(.int (57343 : Int32)), (.int ((2048 : Int32) + (f0_v52 p1 p2)))])) _
              refine XS.icmpNo X0.here hx rfl (hb hby at_67) rfl (flt hc67).2.2.1 ?_
              show Steps p.tables e below (s₁.setTop (mkF m 70 #[.val (.int p1), .val (.int p2), .val (.int (p2 &&& (2147483647 : Int32))), .val (.int (p1 &&& (3 : Int32))), .val (.int ((2048 : Int32) + (f0_v52 p1 p2))), .unset, .unset, .unset, .unset, .unset, .unset] [])) _
              refine XS.iload X0.here hx rfl (hb hby at_70) rfl ?_
              show Steps p.tables e below (s₁.setTop (mkF m 72 #[.val (.int p1), .val (.int p2), .val (.int (p2 &&& (2147483647 : Int32))), .val (.int (p1 &&& (3 : Int32))), .val (.int ((2048 : Int32) + (f0_v52 p1 p2))), .unset, .unset, .unset, .unset, .unset, .unset] [(.int ((2048 : Int32) + (f0_v52 p1 p2)))])) _
              refine XS.sipush X0.here hx rfl (hb hby at_72) ?_
              show Steps p.tables e below (s₁.setTop (mkF m 75 #[.val (.int p1), .val (.int p2), .val (.int (p2 &&& (2147483647 : Int32))), .val (.int (p1 &&& (3 : Int32))), .val (.int ((2048 : Int32) + (f0_v52 p1 p2))), .unset, .unset, .unset, .unset, .unset, .unset] [(.int (2048 : Int32)), (.int ((2048 : Int32) + (f0_v52 p1 p2)))])) _
              refine XS.iadd X0.here hx rfl (hb hby at_75) rfl ?_
              show Steps p.tables e below (s₁.setTop (mkF m 76 #[.val (.int p1), .val (.int p2), .val (.int (p2 &&& (2147483647 : Int32))), .val (.int (p1 &&& (3 : Int32))), .val (.int ((2048 : Int32) + (f0_v52 p1 p2))), .unset, .unset, .unset, .unset, .unset, .unset] [(.int (((2048 : Int32) + (f0_v52 p1 p2)) + (2048 : Int32)))])) _
              refine XS.istore X0.here hx rfl (hb hby at_76) rfl (l' := #[.val (.int p1), .val (.int p2), .val (.int (p2 &&& (2147483647 : Int32))), .val (.int (p1 &&& (3 : Int32))), .val (.int (((2048 : Int32) + (f0_v52 p1 p2)) + (2048 : Int32))), .unset, .unset, .unset, .unset, .unset, .unset]) rfl ?_
              show Steps p.tables e below (s₁.setTop (mkF m 78 #[.val (.int p1), .val (.int p2), .val (.int (p2 &&& (2147483647 : Int32))), .val (.int (p1 &&& (3 : Int32))), .val (.int (((2048 : Int32) + (f0_v52 p1 p2)) + (2048 : Int32))), .unset, .unset, .unset, .unset, .unset, .unset] [])) _
              refine XS.goto X0.here hx rfl (pc0 := 78) (pc' := 90) rfl (hb hby at_78) (by decide) (by decide) ?_
              exact k
        · have eq12 := (show (f0_l4_90 p1 p2) = ((65536 : Int32) + (f0_v86 p1 p2)) from by unfold f0_l4_90; simp only [if_neg hc10, if_neg hc24, if_neg hc43])
          try rw [eq12] at k
          refine pre6 t ?_
          show Steps p.tables e below (s₁.setTop (mkF m 43 #[.val (.int p1), .val (.int p2), .val (.int (p2 &&& (2147483647 : Int32))), .val (.int (p1 &&& (3 : Int32))), .unset, .unset, .unset, .unset, .unset, .unset, .unset] [(.int (2 : Int32)), (.int (p1 &&& (3 : Int32)))])) _
          refine XS.icmpYes X0.here hx rfl (pc0 := 43) (pc' := 81) rfl (hb hby at_43) rfl (feq hc43).2 (by decide) (by decide) ?_
          show Steps p.tables e below (s₁.setTop (mkF m 81 #[.val (.int p1), .val (.int p2), .val (.int (p2 &&& (2147483647 : Int32))), .val (.int (p1 &&& (3 : Int32))), .unset, .unset, .unset, .unset, .unset, .unset, .unset] [])) _
          refine X0.ldcInt hx hown (mvT hZ (hw _ (List.mem_of_getElem? (i := 15) rfl))) (g := (mkF m 81 #[.val (.int p1), .val (.int p2), .val (.int (p2 &&& (2147483647 : Int32))), .val (.int (p1 &&& (3 : Int32))), .unset, .unset, .unset, .unset, .unset, .unset, .unset] [])) rfl (hb hby at_81) _ ?_
          show Steps p.tables e below (s₁.setTop (mkF m 83 #[.val (.int p1), .val (.int p2), .val (.int (p2 &&& (2147483647 : Int32))), .val (.int (p1 &&& (3 : Int32))), .unset, .unset, .unset, .unset, .unset, .unset, .unset] [(.int (65536 : Int32))])) _
          refine XS.iloadN X0.here hx rfl (hb hby at_83) rfl ?_
          show Steps p.tables e below (s₁.setTop (mkF m 84 #[.val (.int p1), .val (.int p2), .val (.int (p2 &&& (2147483647 : Int32))), .val (.int (p1 &&& (3 : Int32))), .unset, .unset, .unset, .unset, .unset, .unset, .unset] [(.int (p2 &&& (2147483647 : Int32))), (.int (65536 : Int32))])) _
          refine X0.ldcInt hx hown (mvT hZ (hw _ (List.mem_of_getElem? (i := 16) rfl))) (g := (mkF m 84 #[.val (.int p1), .val (.int p2), .val (.int (p2 &&& (2147483647 : Int32))), .val (.int (p1 &&& (3 : Int32))), .unset, .unset, .unset, .unset, .unset, .unset, .unset] [(.int (p2 &&& (2147483647 : Int32))), (.int (65536 : Int32))])) rfl (hb hby at_84) _ ?_
          show Steps p.tables e below (s₁.setTop (mkF m 86 #[.val (.int p1), .val (.int p2), .val (.int (p2 &&& (2147483647 : Int32))), .val (.int (p1 &&& (3 : Int32))), .unset, .unset, .unset, .unset, .unset, .unset, .unset] [(.int (1048576 : Int32)), (.int (p2 &&& (2147483647 : Int32))), (.int (65536 : Int32))])) _
          refine XS.irem X0.here hx rfl (hb hby at_86) rfl (by decide) ?_
          show Steps p.tables e below (s₁.setTop (mkF m 87 #[.val (.int p1), .val (.int p2), .val (.int (p2 &&& (2147483647 : Int32))), .val (.int (p1 &&& (3 : Int32))), .unset, .unset, .unset, .unset, .unset, .unset, .unset] [(.int (f0_v86 p1 p2)), (.int (65536 : Int32))])) _
          refine XS.iadd X0.here hx rfl (hb hby at_87) rfl ?_
          show Steps p.tables e below (s₁.setTop (mkF m 88 #[.val (.int p1), .val (.int p2), .val (.int (p2 &&& (2147483647 : Int32))), .val (.int (p1 &&& (3 : Int32))), .unset, .unset, .unset, .unset, .unset, .unset, .unset] [(.int ((65536 : Int32) + (f0_v86 p1 p2)))])) _
          refine XS.istore X0.here hx rfl (hb hby at_88) rfl (l' := #[.val (.int p1), .val (.int p2), .val (.int (p2 &&& (2147483647 : Int32))), .val (.int (p1 &&& (3 : Int32))), .val (.int ((65536 : Int32) + (f0_v86 p1 p2))), .unset, .unset, .unset, .unset, .unset, .unset]) rfl ?_
          exact k
  obtain ⟨_, _, ⟨T3, L3, k3, n3⟩, -, X3, ⟨Lc3, hQ3, l3, y3, z3⟩, st3⟩ := Jvm.LawKit.callS X0 hx (y := (⟨"com/example/ringward/ringward/Utf8", "encode", "(I)I"⟩ : MethodName)) hown (mvT hZ (hw _ (List.mem_of_getElem? (i := 1) rfl))) (mvT hZ (hw _ (List.mem_of_getElem? (i := 2) rfl))) (mvT hZ (hw _ (List.mem_of_getElem? (i := 3) rfl))) (mvT hZ (hw _ (List.mem_of_getElem? (i := 4) rfl))) (by decide) (backOf (W := 0) (rm1 l Z a0 hw [] (f0_l4_90 p1 p2) h0 n0 Z0 ) hZ (hw _ (List.mem_of_getElem? (i := 4) rfl)) (hw _ (List.mem_of_getElem? (i := 3) rfl)) (by decide) (by decide)) (g := (mkF m 97 #[.val (.int p1), .val (.int p2), .val (.int (p2 &&& (2147483647 : Int32))), .val (.int (p1 &&& (3 : Int32))), .val (.int (f0_l4_90 p1 p2)), .val (.int ((p1 &&& (3 : Int32)) + (1 : Int32))), .unset, .unset, .unset, .unset, .unset] [(.int (f0_l4_90 p1 p2))])) rfl (by rw [hml]; rfl) (argsL := [(.int (f0_l4_90 p1 p2))]) (rest := []) (lenOf pd_0 rfl) rfl (by show 2 * 0 + _ ≤ _; exact Nat.le_of_eq rfl) (hb hby at_97) (fun _ _ => ⟨rfl, e0, (by decide : 0 + 0 ≤ _), (by decide : 0 + 0 ≤ _)⟩)
  dsimp only [Pt.U, Pt.locs, Pt.cells, Pt.slots] at X3 l3 y3 z3 st3 hQ3
  subst l3 y3 z3
  obtain ⟨rfl, N3q, e3⟩ := hQ3
  have N3 := Fr.app N0 N3q
  obtain ⟨_, _, ⟨T4, L4, k4, n4⟩, -, X4, ⟨Lc4, hQ4, l4, y4, z4⟩, st4⟩ := Jvm.LawKit.callS X3 hx (y := (⟨"com/example/ringward/ringward/Utf8", "length", "(I)I"⟩ : MethodName)) hown (mvT hZ (hw _ (List.mem_of_getElem? (i := 5) rfl))) (mvT hZ (hw _ (List.mem_of_getElem? (i := 6) rfl))) (mvT hZ (hw _ (List.mem_of_getElem? (i := 3) rfl))) (mvT hZ (hw _ (List.mem_of_getElem? (i := 7) rfl))) (by decide) (backOf (W := 0) (rm2 l Z a0 hw [] (f0_l4_90 p1 p2) h0 n0 Z0 ) hZ (hw _ (List.mem_of_getElem? (i := 7) rfl)) (hw _ (List.mem_of_getElem? (i := 3) rfl)) (by decide) (by decide)) (g := (mkF m 104 #[.val (.int p1), .val (.int p2), .val (.int (p2 &&& (2147483647 : Int32))), .val (.int (p1 &&& (3 : Int32))), .val (.int (f0_l4_90 p1 p2)), .val (.int ((p1 &&& (3 : Int32)) + (1 : Int32))), .val (.int (f1 (f0_l4_90 p1 p2))), .unset, .unset, .unset, .unset] [(.int (f0_l4_90 p1 p2))])) rfl (by rw [hml]; rfl) (argsL := [(.int (f0_l4_90 p1 p2))]) (rest := []) (lenOf pd_0 rfl) rfl (by show 2 * 0 + _ ≤ _; exact Nat.le_of_eq rfl) (hb hby at_104) (fun _ _ => ⟨rfl, e3, (by decide : 0 + 0 ≤ _), (by decide : 0 + 0 ≤ _)⟩)
  dsimp only [Pt.U, Pt.locs, Pt.cells, Pt.slots] at X4 l4 y4 z4 st4 hQ4
  subst l4 y4 z4
  obtain ⟨rfl, N4q, e4⟩ := hQ4
  have N4 := Fr.app N3 N4q
  have pre13 : ∀ t, Steps p.tables e below (T4.setTop (mkF m 109 #[.val (.int p1), .val (.int p2), .val (.int (p2 &&& (2147483647 : Int32))), .val (.int (p1 &&& (3 : Int32))), .val (.int (f0_l4_90 p1 p2)), .val (.int ((p1 &&& (3 : Int32)) + (1 : Int32))), .val (.int (f1 (f0_l4_90 p1 p2))), .unset, .unset, .unset, .unset] [(.int ((p1 &&& (3 : Int32)) + (1 : Int32))), (.int (f2 (f0_l4_90 p1 p2)))])) t → Steps p.tables e below (s₁.setTop (entryFrame m #[(.int p1), (.int p2)] maxLocals)) t := by
    intro t k
    refine pre2 t ?_
    show Steps p.tables e below (s₁.setTop (mkF m 90 #[.val (.int p1), .val (.int p2), .val (.int (p2 &&& (2147483647 : Int32))), .val (.int (p1 &&& (3 : Int32))), .val (.int (f0_l4_90 p1 p2)), .unset, .unset, .unset, .unset, .unset, .unset] [])) _
    refine XS.iloadN X0.here hx rfl (hb hby at_90) rfl ?_
    show Steps p.tables e below (s₁.setTop (mkF m 91 #[.val (.int p1), .val (.int p2), .val (.int (p2 &&& (2147483647 : Int32))), .val (.int (p1 &&& (3 : Int32))), .val (.int (f0_l4_90 p1 p2)), .unset, .unset, .unset, .unset, .unset, .unset] [(.int (p1 &&& (3 : Int32)))])) _
    refine XS.iconst X0.here hx rfl (hb hby at_91) ?_
    show Steps p.tables e below (s₁.setTop (mkF m 92 #[.val (.int p1), .val (.int p2), .val (.int (p2 &&& (2147483647 : Int32))), .val (.int (p1 &&& (3 : Int32))), .val (.int (f0_l4_90 p1 p2)), .unset, .unset, .unset, .unset, .unset, .unset] [(.int (1 : Int32)), (.int (p1 &&& (3 : Int32)))])) _
    refine XS.iadd X0.here hx rfl (hb hby at_92) rfl ?_
    show Steps p.tables e below (s₁.setTop (mkF m 93 #[.val (.int p1), .val (.int p2), .val (.int (p2 &&& (2147483647 : Int32))), .val (.int (p1 &&& (3 : Int32))), .val (.int (f0_l4_90 p1 p2)), .unset, .unset, .unset, .unset, .unset, .unset] [(.int ((p1 &&& (3 : Int32)) + (1 : Int32)))])) _
    refine XS.istore X0.here hx rfl (hb hby at_93) rfl (l' := #[.val (.int p1), .val (.int p2), .val (.int (p2 &&& (2147483647 : Int32))), .val (.int (p1 &&& (3 : Int32))), .val (.int (f0_l4_90 p1 p2)), .val (.int ((p1 &&& (3 : Int32)) + (1 : Int32))), .unset, .unset, .unset, .unset, .unset]) rfl ?_
    show Steps p.tables e below (s₁.setTop (mkF m 95 #[.val (.int p1), .val (.int p2), .val (.int (p2 &&& (2147483647 : Int32))), .val (.int (p1 &&& (3 : Int32))), .val (.int (f0_l4_90 p1 p2)), .val (.int ((p1 &&& (3 : Int32)) + (1 : Int32))), .unset, .unset, .unset, .unset, .unset] [])) _
    refine XS.iload X0.here hx rfl (hb hby at_95) rfl ?_
    show Steps p.tables e below (s₁.setTop (mkF m 97 #[.val (.int p1), .val (.int p2), .val (.int (p2 &&& (2147483647 : Int32))), .val (.int (p1 &&& (3 : Int32))), .val (.int (f0_l4_90 p1 p2)), .val (.int ((p1 &&& (3 : Int32)) + (1 : Int32))), .unset, .unset, .unset, .unset, .unset] [(.int (f0_l4_90 p1 p2))])) _
    refine st3 _ ?_
    show Steps p.tables e below (T3.setTop (mkF m 100 #[.val (.int p1), .val (.int p2), .val (.int (p2 &&& (2147483647 : Int32))), .val (.int (p1 &&& (3 : Int32))), .val (.int (f0_l4_90 p1 p2)), .val (.int ((p1 &&& (3 : Int32)) + (1 : Int32))), .unset, .unset, .unset, .unset, .unset] [(.int (f1 (f0_l4_90 p1 p2)))])) _
    refine XS.istore X3.here hx rfl (hb hby at_100) rfl (l' := #[.val (.int p1), .val (.int p2), .val (.int (p2 &&& (2147483647 : Int32))), .val (.int (p1 &&& (3 : Int32))), .val (.int (f0_l4_90 p1 p2)), .val (.int ((p1 &&& (3 : Int32)) + (1 : Int32))), .val (.int (f1 (f0_l4_90 p1 p2))), .unset, .unset, .unset, .unset]) rfl ?_
    show Steps p.tables e below (T3.setTop (mkF m 102 #[.val (.int p1), .val (.int p2), .val (.int (p2 &&& (2147483647 : Int32))), .val (.int (p1 &&& (3 : Int32))), .val (.int (f0_l4_90 p1 p2)), .val (.int ((p1 &&& (3 : Int32)) + (1 : Int32))), .val (.int (f1 (f0_l4_90 p1 p2))), .unset, .unset, .unset, .unset] [])) _
    refine XS.iload X3.here hx rfl (hb hby at_102) rfl ?_
    show Steps p.tables e below (T3.setTop (mkF m 104 #[.val (.int p1), .val (.int p2), .val (.int (p2 &&& (2147483647 : Int32))), .val (.int (p1 &&& (3 : Int32))), .val (.int (f0_l4_90 p1 p2)), .val (.int ((p1 &&& (3 : Int32)) + (1 : Int32))), .val (.int (f1 (f0_l4_90 p1 p2))), .unset, .unset, .unset, .unset] [(.int (f0_l4_90 p1 p2))])) _
    refine st4 _ ?_
    show Steps p.tables e below (T4.setTop (mkF m 107 #[.val (.int p1), .val (.int p2), .val (.int (p2 &&& (2147483647 : Int32))), .val (.int (p1 &&& (3 : Int32))), .val (.int (f0_l4_90 p1 p2)), .val (.int ((p1 &&& (3 : Int32)) + (1 : Int32))), .val (.int (f1 (f0_l4_90 p1 p2))), .unset, .unset, .unset, .unset] [(.int (f2 (f0_l4_90 p1 p2)))])) _
    refine XS.iload X4.here hx rfl (hb hby at_107) rfl ?_
    exact k
  by_cases hc109 : (f2 (f0_l4_90 p1 p2)) = ((p1 &&& (3 : Int32)) + (1 : Int32))
  · have pre14 : ∀ t, Steps p.tables e below (T4.setTop (mkF m 158 #[.val (.int p1), .val (.int p2), .val (.int (p2 &&& (2147483647 : Int32))), .val (.int (p1 &&& (3 : Int32))), .val (.int (f0_l4_90 p1 p2)), .val (.int ((p1 &&& (3 : Int32)) + (1 : Int32))), .val (.int (f1 (f0_l4_90 p1 p2))), .val (.int ((f1 (f0_l4_90 p1 p2)) &&& (255 : Int32))), .val (.int (f0_v131 p1 p2)), .val (.int (f0_v142 p1 p2)), .val (.int (f0_v153 p1 p2))] [(.int (1 : Int32)), (.int ((p1 &&& (3 : Int32)) + (1 : Int32)))])) t → Steps p.tables e below (s₁.setTop (entryFrame m #[(.int p1), (.int p2)] maxLocals)) t := by
      intro t k
      refine pre13 t ?_
      show Steps p.tables e below (T4.setTop (mkF m 109 #[.val (.int p1), .val (.int p2), .val (.int (p2 &&& (2147483647 : Int32))), .val (.int (p1 &&& (3 : Int32))), .val (.int (f0_l4_90 p1 p2)), .val (.int ((p1 &&& (3 : Int32)) + (1 : Int32))), .val (.int (f1 (f0_l4_90 p1 p2))), .unset, .unset, .unset, .unset] [(.int ((p1 &&& (3 : Int32)) + (1 : Int32))), (.int (f2 (f0_l4_90 p1 p2)))])) _
      refine XS.icmpYes X4.here hx rfl (pc0 := 109) (pc' := 114) rfl (hb hby at_109) rfl (teq hc109).1 (by decide) (by decide) ?_
      show Steps p.tables e below (T4.setTop (mkF m 114 #[.val (.int p1), .val (.int p2), .val (.int (p2 &&& (2147483647 : Int32))), .val (.int (p1 &&& (3 : Int32))), .val (.int (f0_l4_90 p1 p2)), .val (.int ((p1 &&& (3 : Int32)) + (1 : Int32))), .val (.int (f1 (f0_l4_90 p1 p2))), .unset, .unset, .unset, .unset] [])) _
      refine XS.iload X4.here hx rfl (hb hby at_114) rfl ?_
      show Steps p.tables e below (T4.setTop (mkF m 116 #[.val (.int p1), .val (.int p2), .val (.int (p2 &&& (2147483647 : Int32))), .val (.int (p1 &&& (3 : Int32))), .val (.int (f0_l4_90 p1 p2)), .val (.int ((p1 &&& (3 : Int32)) + (1 : Int32))), .val (.int (f1 (f0_l4_90 p1 p2))), .unset, .unset, .unset, .unset] [(.int (f1 (f0_l4_90 p1 p2)))])) _
      refine XS.sipush X4.here hx rfl (hb hby at_116) ?_
      show Steps p.tables e below (T4.setTop (mkF m 119 #[.val (.int p1), .val (.int p2), .val (.int (p2 &&& (2147483647 : Int32))), .val (.int (p1 &&& (3 : Int32))), .val (.int (f0_l4_90 p1 p2)), .val (.int ((p1 &&& (3 : Int32)) + (1 : Int32))), .val (.int (f1 (f0_l4_90 p1 p2))), .unset, .unset, .unset, .unset] [(.int (255 : Int32)), (.int (f1 (f0_l4_90 p1 p2)))])) _
      refine XS.iand X4.here hx rfl (hb hby at_119) rfl ?_
      show Steps p.tables e below (T4.setTop (mkF m 120 #[.val (.int p1), .val (.int p2), .val (.int (p2 &&& (2147483647 : Int32))), .val (.int (p1 &&& (3 : Int32))), .val (.int (f0_l4_90 p1 p2)), .val (.int ((p1 &&& (3 : Int32)) + (1 : Int32))), .val (.int (f1 (f0_l4_90 p1 p2))), .unset, .unset, .unset, .unset] [(.int ((f1 (f0_l4_90 p1 p2)) &&& (255 : Int32)))])) _
      refine XS.istore X4.here hx rfl (hb hby at_120) rfl (l' := #[.val (.int p1), .val (.int p2), .val (.int (p2 &&& (2147483647 : Int32))), .val (.int (p1 &&& (3 : Int32))), .val (.int (f0_l4_90 p1 p2)), .val (.int ((p1 &&& (3 : Int32)) + (1 : Int32))), .val (.int (f1 (f0_l4_90 p1 p2))), .val (.int ((f1 (f0_l4_90 p1 p2)) &&& (255 : Int32))), .unset, .unset, .unset]) rfl ?_
      show Steps p.tables e below (T4.setTop (mkF m 122 #[.val (.int p1), .val (.int p2), .val (.int (p2 &&& (2147483647 : Int32))), .val (.int (p1 &&& (3 : Int32))), .val (.int (f0_l4_90 p1 p2)), .val (.int ((p1 &&& (3 : Int32)) + (1 : Int32))), .val (.int (f1 (f0_l4_90 p1 p2))), .val (.int ((f1 (f0_l4_90 p1 p2)) &&& (255 : Int32))), .unset, .unset, .unset] [])) _
      refine XS.iload X4.here hx rfl (hb hby at_122) rfl ?_
      show Steps p.tables e below (T4.setTop (mkF m 124 #[.val (.int p1), .val (.int p2), .val (.int (p2 &&& (2147483647 : Int32))), .val (.int (p1 &&& (3 : Int32))), .val (.int (f0_l4_90 p1 p2)), .val (.int ((p1 &&& (3 : Int32)) + (1 : Int32))), .val (.int (f1 (f0_l4_90 p1 p2))), .val (.int ((f1 (f0_l4_90 p1 p2)) &&& (255 : Int32))), .unset, .unset, .unset] [(.int (f1 (f0_l4_90 p1 p2)))])) _
      refine XS.bipush X4.here hx rfl (hb hby at_124) ?_
      show Steps p.tables e below (T4.setTop (mkF m 126 #[.val (.int p1), .val (.int p2), .val (.int (p2 &&& (2147483647 : Int32))), .val (.int (p1 &&& (3 : Int32))), .val (.int (f0_l4_90 p1 p2)), .val (.int ((p1 &&& (3 : Int32)) + (1 : Int32))), .val (.int (f1 (f0_l4_90 p1 p2))), .val (.int ((f1 (f0_l4_90 p1 p2)) &&& (255 : Int32))), .unset, .unset, .unset] [(.int (8 : Int32)), (.int (f1 (f0_l4_90 p1 p2)))])) _
      refine XS.iushr X4.here hx rfl (hb hby at_126) rfl ?_
      show Steps p.tables e below (T4.setTop (mkF m 127 #[.val (.int p1), .val (.int p2), .val (.int (p2 &&& (2147483647 : Int32))), .val (.int (p1 &&& (3 : Int32))), .val (.int (f0_l4_90 p1 p2)), .val (.int ((p1 &&& (3 : Int32)) + (1 : Int32))), .val (.int (f1 (f0_l4_90 p1 p2))), .val (.int ((f1 (f0_l4_90 p1 p2)) &&& (255 : Int32))), .unset, .unset, .unset] [(.int (((f1 (f0_l4_90 p1 p2)).toUInt32 >>> ((8 : Int32) &&& 31).toUInt32).toInt32))])) _
      refine XS.sipush X4.here hx rfl (hb hby at_127) ?_
      show Steps p.tables e below (T4.setTop (mkF m 130 #[.val (.int p1), .val (.int p2), .val (.int (p2 &&& (2147483647 : Int32))), .val (.int (p1 &&& (3 : Int32))), .val (.int (f0_l4_90 p1 p2)), .val (.int ((p1 &&& (3 : Int32)) + (1 : Int32))), .val (.int (f1 (f0_l4_90 p1 p2))), .val (.int ((f1 (f0_l4_90 p1 p2)) &&& (255 : Int32))), .unset, .unset, .unset] [(.int (255 : Int32)), (.int (((f1 (f0_l4_90 p1 p2)).toUInt32 >>> ((8 : Int32) &&& 31).toUInt32).toInt32))])) _
      refine XS.iand X4.here hx rfl (hb hby at_130) rfl ?_
      show Steps p.tables e below (T4.setTop (mkF m 131 #[.val (.int p1), .val (.int p2), .val (.int (p2 &&& (2147483647 : Int32))), .val (.int (p1 &&& (3 : Int32))), .val (.int (f0_l4_90 p1 p2)), .val (.int ((p1 &&& (3 : Int32)) + (1 : Int32))), .val (.int (f1 (f0_l4_90 p1 p2))), .val (.int ((f1 (f0_l4_90 p1 p2)) &&& (255 : Int32))), .unset, .unset, .unset] [(.int ((((f1 (f0_l4_90 p1 p2)).toUInt32 >>> ((8 : Int32) &&& 31).toUInt32).toInt32) &&& (255 : Int32)))])) _
      refine XS.istore X4.here hx rfl (hb hby at_131) rfl (l' := #[.val (.int p1), .val (.int p2), .val (.int (p2 &&& (2147483647 : Int32))), .val (.int (p1 &&& (3 : Int32))), .val (.int (f0_l4_90 p1 p2)), .val (.int ((p1 &&& (3 : Int32)) + (1 : Int32))), .val (.int (f1 (f0_l4_90 p1 p2))), .val (.int ((f1 (f0_l4_90 p1 p2)) &&& (255 : Int32))), .val (.int (f0_v131 p1 p2)), .unset, .unset]) rfl ?_
      show Steps p.tables e below (T4.setTop (mkF m 133 #[.val (.int p1), .val (.int p2), .val (.int (p2 &&& (2147483647 : Int32))), .val (.int (p1 &&& (3 : Int32))), .val (.int (f0_l4_90 p1 p2)), .val (.int ((p1 &&& (3 : Int32)) + (1 : Int32))), .val (.int (f1 (f0_l4_90 p1 p2))), .val (.int ((f1 (f0_l4_90 p1 p2)) &&& (255 : Int32))), .val (.int (f0_v131 p1 p2)), .unset, .unset] [])) _
      refine XS.iload X4.here hx rfl (hb hby at_133) rfl ?_
      show Steps p.tables e below (T4.setTop (mkF m 135 #[.val (.int p1), .val (.int p2), .val (.int (p2 &&& (2147483647 : Int32))), .val (.int (p1 &&& (3 : Int32))), .val (.int (f0_l4_90 p1 p2)), .val (.int ((p1 &&& (3 : Int32)) + (1 : Int32))), .val (.int (f1 (f0_l4_90 p1 p2))), .val (.int ((f1 (f0_l4_90 p1 p2)) &&& (255 : Int32))), .val (.int (f0_v131 p1 p2)), .unset, .unset] [(.int (f1 (f0_l4_90 p1 p2)))])) _
      refine XS.bipush X4.here hx rfl (hb hby at_135) ?_
      show Steps p.tables e below (T4.setTop (mkF m 137 #[.val (.int p1), .val (.int p2), .val (.int (p2 &&& (2147483647 : Int32))), .val (.int (p1 &&& (3 : Int32))), .val (.int (f0_l4_90 p1 p2)), .val (.int ((p1 &&& (3 : Int32)) + (1 : Int32))), .val (.int (f1 (f0_l4_90 p1 p2))), .val (.int ((f1 (f0_l4_90 p1 p2)) &&& (255 : Int32))), .val (.int (f0_v131 p1 p2)), .unset, .unset] [(.int (16 : Int32)), (.int (f1 (f0_l4_90 p1 p2)))])) _
      refine XS.iushr X4.here hx rfl (hb hby at_137) rfl ?_
      show Steps p.tables e below (T4.setTop (mkF m 138 #[.val (.int p1), .val (.int p2), .val (.int (p2 &&& (2147483647 : Int32))), .val (.int (p1 &&& (3 : Int32))), .val (.int (f0_l4_90 p1 p2)), .val (.int ((p1 &&& (3 : Int32)) + (1 : Int32))), .val (.int (f1 (f0_l4_90 p1 p2))), .val (.int ((f1 (f0_l4_90 p1 p2)) &&& (255 : Int32))), .val (.int (f0_v131 p1 p2)), .unset, .unset] [(.int (((f1 (f0_l4_90 p1 p2)).toUInt32 >>> ((16 : Int32) &&& 31).toUInt32).toInt32))])) _
      refine XS.sipush X4.here hx rfl (hb hby at_138) ?_
      show Steps p.tables e below (T4.setTop (mkF m 141 #[.val (.int p1), .val (.int p2), .val (.int (p2 &&& (2147483647 : Int32))), .val (.int (p1 &&& (3 : Int32))), .val (.int (f0_l4_90 p1 p2)), .val (.int ((p1 &&& (3 : Int32)) + (1 : Int32))), .val (.int (f1 (f0_l4_90 p1 p2))), .val (.int ((f1 (f0_l4_90 p1 p2)) &&& (255 : Int32))), .val (.int (f0_v131 p1 p2)), .unset, .unset] [(.int (255 : Int32)), (.int (((f1 (f0_l4_90 p1 p2)).toUInt32 >>> ((16 : Int32) &&& 31).toUInt32).toInt32))])) _
      refine XS.iand X4.here hx rfl (hb hby at_141) rfl ?_
      show Steps p.tables e below (T4.setTop (mkF m 142 #[.val (.int p1), .val (.int p2), .val (.int (p2 &&& (2147483647 : Int32))), .val (.int (p1 &&& (3 : Int32))), .val (.int (f0_l4_90 p1 p2)), .val (.int ((p1 &&& (3 : Int32)) + (1 : Int32))), .val (.int (f1 (f0_l4_90 p1 p2))), .val (.int ((f1 (f0_l4_90 p1 p2)) &&& (255 : Int32))), .val (.int (f0_v131 p1 p2)), .unset, .unset] [(.int ((((f1 (f0_l4_90 p1 p2)).toUInt32 >>> ((16 : Int32) &&& 31).toUInt32).toInt32) &&& (255 : Int32)))])) _
      refine XS.istore X4.here hx rfl (hb hby at_142) rfl (l' := #[.val (.int p1), .val (.int p2), .val (.int (p2 &&& (2147483647 : Int32))), .val (.int (p1 &&& (3 : Int32))), .val (.int (f0_l4_90 p1 p2)), .val (.int ((p1 &&& (3 : Int32)) + (1 : Int32))), .val (.int (f1 (f0_l4_90 p1 p2))), .val (.int ((f1 (f0_l4_90 p1 p2)) &&& (255 : Int32))), .val (.int (f0_v131 p1 p2)), .val (.int (f0_v142 p1 p2)), .unset]) rfl ?_
      show Steps p.tables e below (T4.setTop (mkF m 144 #[.val (.int p1), .val (.int p2), .val (.int (p2 &&& (2147483647 : Int32))), .val (.int (p1 &&& (3 : Int32))), .val (.int (f0_l4_90 p1 p2)), .val (.int ((p1 &&& (3 : Int32)) + (1 : Int32))), .val (.int (f1 (f0_l4_90 p1 p2))), .val (.int ((f1 (f0_l4_90 p1 p2)) &&& (255 : Int32))), .val (.int (f0_v131 p1 p2)), .val (.int (f0_v142 p1 p2)), .unset] [])) _
      refine XS.iload X4.here hx rfl (hb hby at_144) rfl ?_
      show Steps p.tables e below (T4.setTop (mkF m 146 #[.val (.int p1), .val (.int p2), .val (.int (p2 &&& (2147483647 : Int32))), .val (.int (p1 &&& (3 : Int32))), .val (.int (f0_l4_90 p1 p2)), .val (.int ((p1 &&& (3 : Int32)) + (1 : Int32))), .val (.int (f1 (f0_l4_90 p1 p2))), .val (.int ((f1 (f0_l4_90 p1 p2)) &&& (255 : Int32))), .val (.int (f0_v131 p1 p2)), .val (.int (f0_v142 p1 p2)), .unset] [(.int (f1 (f0_l4_90 p1 p2)))])) _
      refine XS.bipush X4.here hx rfl (hb hby at_146) ?_
      show Steps p.tables e below (T4.setTop (mkF m 148 #[.val (.int p1), .val (.int p2), .val (.int (p2 &&& (2147483647 : Int32))), .val (.int (p1 &&& (3 : Int32))), .val (.int (f0_l4_90 p1 p2)), .val (.int ((p1 &&& (3 : Int32)) + (1 : Int32))), .val (.int (f1 (f0_l4_90 p1 p2))), .val (.int ((f1 (f0_l4_90 p1 p2)) &&& (255 : Int32))), .val (.int (f0_v131 p1 p2)), .val (.int (f0_v142 p1 p2)), .unset] [(.int (24 : Int32)), (.int (f1 (f0_l4_90 p1 p2)))])) _
      refine XS.iushr X4.here hx rfl (hb hby at_148) rfl ?_
      show Steps p.tables e below (T4.setTop (mkF m 149 #[.val (.int p1), .val (.int p2), .val (.int (p2 &&& (2147483647 : Int32))), .val (.int (p1 &&& (3 : Int32))), .val (.int (f0_l4_90 p1 p2)), .val (.int ((p1 &&& (3 : Int32)) + (1 : Int32))), .val (.int (f1 (f0_l4_90 p1 p2))), .val (.int ((f1 (f0_l4_90 p1 p2)) &&& (255 : Int32))), .val (.int (f0_v131 p1 p2)), .val (.int (f0_v142 p1 p2)), .unset] [(.int (((f1 (f0_l4_90 p1 p2)).toUInt32 >>> ((24 : Int32) &&& 31).toUInt32).toInt32))])) _
      refine XS.sipush X4.here hx rfl (hb hby at_149) ?_
      show Steps p.tables e below (T4.setTop (mkF m 152 #[.val (.int p1), .val (.int p2), .val (.int (p2 &&& (2147483647 : Int32))), .val (.int (p1 &&& (3 : Int32))), .val (.int (f0_l4_90 p1 p2)), .val (.int ((p1 &&& (3 : Int32)) + (1 : Int32))), .val (.int (f1 (f0_l4_90 p1 p2))), .val (.int ((f1 (f0_l4_90 p1 p2)) &&& (255 : Int32))), .val (.int (f0_v131 p1 p2)), .val (.int (f0_v142 p1 p2)), .unset] [(.int (255 : Int32)), (.int (((f1 (f0_l4_90 p1 p2)).toUInt32 >>> ((24 : Int32) &&& 31).toUInt32).toInt32))])) _
      refine XS.iand X4.here hx rfl (hb hby at_152) rfl ?_
      show Steps p.tables e below (T4.setTop (mkF m 153 #[.val (.int p1), .val (.int p2), .val (.int (p2 &&& (2147483647 : Int32))), .val (.int (p1 &&& (3 : Int32))), .val (.int (f0_l4_90 p1 p2)), .val (.int ((p1 &&& (3 : Int32)) + (1 : Int32))), .val (.int (f1 (f0_l4_90 p1 p2))), .val (.int ((f1 (f0_l4_90 p1 p2)) &&& (255 : Int32))), .val (.int (f0_v131 p1 p2)), .val (.int (f0_v142 p1 p2)), .unset] [(.int ((((f1 (f0_l4_90 p1 p2)).toUInt32 >>> ((24 : Int32) &&& 31).toUInt32).toInt32) &&& (255 : Int32)))])) _
      refine XS.istore X4.here hx rfl (hb hby at_153) rfl (l' := #[.val (.int p1), .val (.int p2), .val (.int (p2 &&& (2147483647 : Int32))), .val (.int (p1 &&& (3 : Int32))), .val (.int (f0_l4_90 p1 p2)), .val (.int ((p1 &&& (3 : Int32)) + (1 : Int32))), .val (.int (f1 (f0_l4_90 p1 p2))), .val (.int ((f1 (f0_l4_90 p1 p2)) &&& (255 : Int32))), .val (.int (f0_v131 p1 p2)), .val (.int (f0_v142 p1 p2)), .val (.int (f0_v153 p1 p2))]) rfl ?_
      show Steps p.tables e below (T4.setTop (mkF m 155 #[.val (.int p1), .val (.int p2), .val (.int (p2 &&& (2147483647 : Int32))), .val (.int (p1 &&& (3 : Int32))), .val (.int (f0_l4_90 p1 p2)), .val (.int ((p1 &&& (3 : Int32)) + (1 : Int32))), .val (.int (f1 (f0_l4_90 p1 p2))), .val (.int ((f1 (f0_l4_90 p1 p2)) &&& (255 : Int32))), .val (.int (f0_v131 p1 p2)), .val (.int (f0_v142 p1 p2)), .val (.int (f0_v153 p1 p2))] [])) _
      refine XS.iload X4.here hx rfl (hb hby at_155) rfl ?_
      show Steps p.tables e below (T4.setTop (mkF m 157 #[.val (.int p1), .val (.int p2), .val (.int (p2 &&& (2147483647 : Int32))), .val (.int (p1 &&& (3 : Int32))), .val (.int (f0_l4_90 p1 p2)), .val (.int ((p1 &&& (3 : Int32)) + (1 : Int32))), .val (.int (f1 (f0_l4_90 p1 p2))), .val (.int ((f1 (f0_l4_90 p1 p2)) &&& (255 : Int32))), .val (.int (f0_v131 p1 p2)), .val (.int (f0_v142 p1 p2)), .val (.int (f0_v153 p1 p2))] [(.int ((p1 &&& (3 : Int32)) + (1 : Int32)))])) _
      refine XS.iconst X4.here hx rfl (hb hby at_157) ?_
      exact k
    by_cases hc158 : ((p1 &&& (3 : Int32)) + (1 : Int32)) = (1 : Int32)
    · have pre15 : ∀ t, Steps p.tables e below (T4.setTop (mkF m 166 #[.val (.int p1), .val (.int p2), .val (.int (p2 &&& (2147483647 : Int32))), .val (.int (p1 &&& (3 : Int32))), .val (.int (f0_l4_90 p1 p2)), .val (.int ((p1 &&& (3 : Int32)) + (1 : Int32))), .val (.int (f1 (f0_l4_90 p1 p2))), .val (.int ((f1 (f0_l4_90 p1 p2)) &&& (255 : Int32))), .val (.int (f0_v131 p1 p2)), .val (.int (f0_v142 p1 p2)), .val (.int (f0_v153 p1 p2))] [(.int (128 : Int32)), (.int ((f1 (f0_l4_90 p1 p2)) &&& (255 : Int32)))])) t → Steps p.tables e below (s₁.setTop (entryFrame m #[(.int p1), (.int p2)] maxLocals)) t := by
        intro t k
        refine pre14 t ?_
        show Steps p.tables e below (T4.setTop (mkF m 158 #[.val (.int p1), .val (.int p2), .val (.int (p2 &&& (2147483647 : Int32))), .val (.int (p1 &&& (3 : Int32))), .val (.int (f0_l4_90 p1 p2)), .val (.int ((p1 &&& (3 : Int32)) + (1 : Int32))), .val (.int (f1 (f0_l4_90 p1 p2))), .val (.int ((f1 (f0_l4_90 p1 p2)) &&& (255 : Int32))), .val (.int (f0_v131 p1 p2)), .val (.int (f0_v142 p1 p2)), .val (.int (f0_v153 p1 p2))] [(.int (1 : Int32)), (.int ((p1 &&& (3 : Int32)) + (1 : Int32)))])) _
        refine XS.icmpNo X4.here hx rfl (hb hby at_158) rfl (teq hc158).2 ?_
        show Steps p.tables e below (T4.setTop (mkF m 161 #[.val (.int p1), .val (.int p2), .val (.int (p2 &&& (2147483647 : Int32))), .val (.int (p1 &&& (3 : Int32))), .val (.int (f0_l4_90 p1 p2)), .val (.int ((p1 &&& (3 : Int32)) + (1 : Int32))), .val (.int (f1 (f0_l4_90 p1 p2))), .val (.int ((f1 (f0_l4_90 p1 p2)) &&& (255 : Int32))), .val (.int (f0_v131 p1 p2)), .val (.int (f0_v142 p1 p2)), .val (.int (f0_v153 p1 p2))] [])) _
        refine XS.iload X4.here hx rfl (hb hby at_161) rfl ?_
        show Steps p.tables e below (T4.setTop (mkF m 163 #[.val (.int p1), .val (.int p2), .val (.int (p2 &&& (2147483647 : Int32))), .val (.int (p1 &&& (3 : Int32))), .val (.int (f0_l4_90 p1 p2)), .val (.int ((p1 &&& (3 : Int32)) + (1 : Int32))), .val (.int (f1 (f0_l4_90 p1 p2))), .val (.int ((f1 (f0_l4_90 p1 p2)) &&& (255 : Int32))), .val (.int (f0_v131 p1 p2)), .val (.int (f0_v142 p1 p2)), .val (.int (f0_v153 p1 p2))] [(.int ((f1 (f0_l4_90 p1 p2)) &&& (255 : Int32)))])) _
        refine XS.sipush X4.here hx rfl (hb hby at_163) ?_
        exact k
      by_cases hc166 : ((f1 (f0_l4_90 p1 p2)) &&& (255 : Int32)) < (128 : Int32)
      · have pre16 : ∀ t, Steps p.tables e below (T4.setTop (mkF m 171 #[.val (.int p1), .val (.int p2), .val (.int (p2 &&& (2147483647 : Int32))), .val (.int (p1 &&& (3 : Int32))), .val (.int (f0_l4_90 p1 p2)), .val (.int ((p1 &&& (3 : Int32)) + (1 : Int32))), .val (.int (f1 (f0_l4_90 p1 p2))), .val (.int ((f1 (f0_l4_90 p1 p2)) &&& (255 : Int32))), .val (.int (f0_v131 p1 p2)), .val (.int (f0_v142 p1 p2)), .val (.int (f0_v153 p1 p2))] [(.int (f0_v131 p1 p2))])) t → Steps p.tables e below (s₁.setTop (entryFrame m #[(.int p1), (.int p2)] maxLocals)) t := by
          intro t k
          refine pre15 t ?_
          show Steps p.tables e below (T4.setTop (mkF m 166 #[.val (.int p1), .val (.int p2), .val (.int (p2 &&& (2147483647 : Int32))), .val (.int (p1 &&& (3 : Int32))), .val (.int (f0_l4_90 p1 p2)), .val (.int ((p1 &&& (3 : Int32)) + (1 : Int32))), .val (.int (f1 (f0_l4_90 p1 p2))), .val (.int ((f1 (f0_l4_90 p1 p2)) &&& (255 : Int32))), .val (.int (f0_v131 p1 p2)), .val (.int (f0_v142 p1 p2)), .val (.int (f0_v153 p1 p2))] [(.int (128 : Int32)), (.int ((f1 (f0_l4_90 p1 p2)) &&& (255 : Int32)))])) _
          refine XS.icmpNo X4.here hx rfl (hb hby at_166) rfl (tlt hc166).2.1 ?_
          show Steps p.tables e below (T4.setTop (mkF m 169 #[.val (.int p1), .val (.int p2), .val (.int (p2 &&& (2147483647 : Int32))), .val (.int (p1 &&& (3 : Int32))), .val (.int (f0_l4_90 p1 p2)), .val (.int ((p1 &&& (3 : Int32)) + (1 : Int32))), .val (.int (f1 (f0_l4_90 p1 p2))), .val (.int ((f1 (f0_l4_90 p1 p2)) &&& (255 : Int32))), .val (.int (f0_v131 p1 p2)), .val (.int (f0_v142 p1 p2)), .val (.int (f0_v153 p1 p2))] [])) _
          refine XS.iload X4.here hx rfl (hb hby at_169) rfl ?_
          exact k
        by_cases hc171 : (f0_v131 p1 p2) = (0 : Int32)
        · have pre17 : ∀ t, Steps p.tables e below (T4.setTop (mkF m 176 #[.val (.int p1), .val (.int p2), .val (.int (p2 &&& (2147483647 : Int32))), .val (.int (p1 &&& (3 : Int32))), .val (.int (f0_l4_90 p1 p2)), .val (.int ((p1 &&& (3 : Int32)) + (1 : Int32))), .val (.int (f1 (f0_l4_90 p1 p2))), .val (.int ((f1 (f0_l4_90 p1 p2)) &&& (255 : Int32))), .val (.int (f0_v131 p1 p2)), .val (.int (f0_v142 p1 p2)), .val (.int (f0_v153 p1 p2))] [(.int (f0_v142 p1 p2))])) t → Steps p.tables e below (s₁.setTop (entryFrame m #[(.int p1), (.int p2)] maxLocals)) t := by
            intro t k
            refine pre16 t ?_
            show Steps p.tables e below (T4.setTop (mkF m 171 #[.val (.int p1), .val (.int p2), .val (.int (p2 &&& (2147483647 : Int32))), .val (.int (p1 &&& (3 : Int32))), .val (.int (f0_l4_90 p1 p2)), .val (.int ((p1 &&& (3 : Int32)) + (1 : Int32))), .val (.int (f1 (f0_l4_90 p1 p2))), .val (.int ((f1 (f0_l4_90 p1 p2)) &&& (255 : Int32))), .val (.int (f0_v131 p1 p2)), .val (.int (f0_v142 p1 p2)), .val (.int (f0_v153 p1 p2))] [(.int (f0_v131 p1 p2))])) _
            refine XS.ifNo X4.here hx rfl (hb hby at_171) rfl ((if0 _ _).trans (teq hc171).2) ?_
            show Steps p.tables e below (T4.setTop (mkF m 174 #[.val (.int p1), .val (.int p2), .val (.int (p2 &&& (2147483647 : Int32))), .val (.int (p1 &&& (3 : Int32))), .val (.int (f0_l4_90 p1 p2)), .val (.int ((p1 &&& (3 : Int32)) + (1 : Int32))), .val (.int (f1 (f0_l4_90 p1 p2))), .val (.int ((f1 (f0_l4_90 p1 p2)) &&& (255 : Int32))), .val (.int (f0_v131 p1 p2)), .val (.int (f0_v142 p1 p2)), .val (.int (f0_v153 p1 p2))] [])) _
            refine XS.iload X4.here hx rfl (hb hby at_174) rfl ?_
            exact k
          by_cases hc176 : (f0_v142 p1 p2) = (0 : Int32)
          · have pre18 : ∀ t, Steps p.tables e below (T4.setTop (mkF m 181 #[.val (.int p1), .val (.int p2), .val (.int (p2 &&& (2147483647 : Int32))), .val (.int (p1 &&& (3 : Int32))), .val (.int (f0_l4_90 p1 p2)), .val (.int ((p1 &&& (3 : Int32)) + (1 : Int32))), .val (.int (f1 (f0_l4_90 p1 p2))), .val (.int ((f1 (f0_l4_90 p1 p2)) &&& (255 : Int32))), .val (.int (f0_v131 p1 p2)), .val (.int (f0_v142 p1 p2)), .val (.int (f0_v153 p1 p2))] [(.int (f0_v153 p1 p2))])) t → Steps p.tables e below (s₁.setTop (entryFrame m #[(.int p1), (.int p2)] maxLocals)) t := by
              intro t k
              refine pre17 t ?_
              show Steps p.tables e below (T4.setTop (mkF m 176 #[.val (.int p1), .val (.int p2), .val (.int (p2 &&& (2147483647 : Int32))), .val (.int (p1 &&& (3 : Int32))), .val (.int (f0_l4_90 p1 p2)), .val (.int ((p1 &&& (3 : Int32)) + (1 : Int32))), .val (.int (f1 (f0_l4_90 p1 p2))), .val (.int ((f1 (f0_l4_90 p1 p2)) &&& (255 : Int32))), .val (.int (f0_v131 p1 p2)), .val (.int (f0_v142 p1 p2)), .val (.int (f0_v153 p1 p2))] [(.int (f0_v142 p1 p2))])) _
              refine XS.ifNo X4.here hx rfl (hb hby at_176) rfl ((if0 _ _).trans (teq hc176).2) ?_
              show Steps p.tables e below (T4.setTop (mkF m 179 #[.val (.int p1), .val (.int p2), .val (.int (p2 &&& (2147483647 : Int32))), .val (.int (p1 &&& (3 : Int32))), .val (.int (f0_l4_90 p1 p2)), .val (.int ((p1 &&& (3 : Int32)) + (1 : Int32))), .val (.int (f1 (f0_l4_90 p1 p2))), .val (.int ((f1 (f0_l4_90 p1 p2)) &&& (255 : Int32))), .val (.int (f0_v131 p1 p2)), .val (.int (f0_v142 p1 p2)), .val (.int (f0_v153 p1 p2))] [])) _
              refine XS.iload X4.here hx rfl (hb hby at_179) rfl ?_
              exact k
            by_cases hc181 : (f0_v153 p1 p2) = (0 : Int32)
            · have pre19 : ∀ t, Steps p.tables e below (T4.setTop (mkF m 188 #[.val (.int p1), .val (.int p2), .val (.int (p2 &&& (2147483647 : Int32))), .val (.int (p1 &&& (3 : Int32))), .val (.int (f0_l4_90 p1 p2)), .val (.int ((p1 &&& (3 : Int32)) + (1 : Int32))), .val (.int (f1 (f0_l4_90 p1 p2))), .val (.int ((f1 (f0_l4_90 p1 p2)) &&& (255 : Int32))), .val (.int (f0_v131 p1 p2)), .val (.int (f0_v142 p1 p2)), .val (.int (f0_v153 p1 p2))] [(.int (f0_l4_90 p1 p2)), (.int ((f1 (f0_l4_90 p1 p2)) &&& (255 : Int32)))])) t → Steps p.tables e below (s₁.setTop (entryFrame m #[(.int p1), (.int p2)] maxLocals)) t := by
                intro t k
                refine pre18 t ?_
                show Steps p.tables e below (T4.setTop (mkF m 181 #[.val (.int p1), .val (.int p2), .val (.int (p2 &&& (2147483647 : Int32))), .val (.int (p1 &&& (3 : Int32))), .val (.int (f0_l4_90 p1 p2)), .val (.int ((p1 &&& (3 : Int32)) + (1 : Int32))), .val (.int (f1 (f0_l4_90 p1 p2))), .val (.int ((f1 (f0_l4_90 p1 p2)) &&& (255 : Int32))), .val (.int (f0_v131 p1 p2)), .val (.int (f0_v142 p1 p2)), .val (.int (f0_v153 p1 p2))] [(.int (f0_v153 p1 p2))])) _
                refine XS.ifNo X4.here hx rfl (hb hby at_181) rfl ((if0 _ _).trans (teq hc181).2) ?_
                show Steps p.tables e below (T4.setTop (mkF m 184 #[.val (.int p1), .val (.int p2), .val (.int (p2 &&& (2147483647 : Int32))), .val (.int (p1 &&& (3 : Int32))), .val (.int (f0_l4_90 p1 p2)), .val (.int ((p1 &&& (3 : Int32)) + (1 : Int32))), .val (.int (f1 (f0_l4_90 p1 p2))), .val (.int ((f1 (f0_l4_90 p1 p2)) &&& (255 : Int32))), .val (.int (f0_v131 p1 p2)), .val (.int (f0_v142 p1 p2)), .val (.int (f0_v153 p1 p2))] [])) _
                refine XS.iload X4.here hx rfl (hb hby at_184) rfl ?_
                show Steps p.tables e below (T4.setTop (mkF m 186 #[.val (.int p1), .val (.int p2), .val (.int (p2 &&& (2147483647 : Int32))), .val (.int (p1 &&& (3 : Int32))), .val (.int (f0_l4_90 p1 p2)), .val (.int ((p1 &&& (3 : Int32)) + (1 : Int32))), .val (.int (f1 (f0_l4_90 p1 p2))), .val (.int ((f1 (f0_l4_90 p1 p2)) &&& (255 : Int32))), .val (.int (f0_v131 p1 p2)), .val (.int (f0_v142 p1 p2)), .val (.int (f0_v153 p1 p2))] [(.int ((f1 (f0_l4_90 p1 p2)) &&& (255 : Int32)))])) _
                refine XS.iload X4.here hx rfl (hb hby at_186) rfl ?_
                exact k
              by_cases hc188 : ((f1 (f0_l4_90 p1 p2)) &&& (255 : Int32)) = (f0_l4_90 p1 p2)
              · have eq20 : (f0 p1 p2) = (1 : Int32) := by unfold f0; simp only [if_pos hc109, if_pos hc158, if_pos hc166, if_pos hc171, if_pos hc176, if_pos hc181, if_pos hc188]
                obtain ⟨fs, hr, hrun, hended, hW, hsame⟩ := X4.leave (v := some (.int (1 : Int32))) (fun h => by rw [Bd.returns] at h; cases h)
                refine ⟨_, _, pre19 _ ?_, hrun, hended, _, _, rfl, ?_, ⟨_, rfl⟩, hW, hsame.mono (by decide) (by decide)⟩
                · show Steps p.tables e below (T4.setTop (mkF m 188 #[.val (.int p1), .val (.int p2), .val (.int (p2 &&& (2147483647 : Int32))), .val (.int (p1 &&& (3 : Int32))), .val (.int (f0_l4_90 p1 p2)), .val (.int ((p1 &&& (3 : Int32)) + (1 : Int32))), .val (.int (f1 (f0_l4_90 p1 p2))), .val (.int ((f1 (f0_l4_90 p1 p2)) &&& (255 : Int32))), .val (.int (f0_v131 p1 p2)), .val (.int (f0_v142 p1 p2)), .val (.int (f0_v153 p1 p2))] [(.int (f0_l4_90 p1 p2)), (.int ((f1 (f0_l4_90 p1 p2)) &&& (255 : Int32)))])) _
                  refine XS.icmpNo X4.here hx rfl (hb hby at_188) rfl (teq hc188).2 ?_
                  show Steps p.tables e below (T4.setTop (mkF m 191 #[.val (.int p1), .val (.int p2), .val (.int (p2 &&& (2147483647 : Int32))), .val (.int (p1 &&& (3 : Int32))), .val (.int (f0_l4_90 p1 p2)), .val (.int ((p1 &&& (3 : Int32)) + (1 : Int32))), .val (.int (f1 (f0_l4_90 p1 p2))), .val (.int ((f1 (f0_l4_90 p1 p2)) &&& (255 : Int32))), .val (.int (f0_v131 p1 p2)), .val (.int (f0_v142 p1 p2)), .val (.int (f0_v153 p1 p2))] [])) _
                  refine XS.iconst X4.here hx rfl (hb hby at_191) ?_
                  show Steps p.tables e below (T4.setTop (mkF m 192 #[.val (.int p1), .val (.int p2), .val (.int (p2 &&& (2147483647 : Int32))), .val (.int (p1 &&& (3 : Int32))), .val (.int (f0_l4_90 p1 p2)), .val (.int ((p1 &&& (3 : Int32)) + (1 : Int32))), .val (.int (f1 (f0_l4_90 p1 p2))), .val (.int ((f1 (f0_l4_90 p1 p2)) &&& (255 : Int32))), .val (.int (f0_v131 p1 p2)), .val (.int (f0_v142 p1 p2)), .val (.int (f0_v153 p1 p2))] [(.int (1 : Int32))])) _
                  refine XS.goto X4.here hx rfl (pc0 := 192) (pc' := 196) rfl (hb hby at_192) (by decide) (by decide) ?_
                  show Steps p.tables e below (T4.setTop (mkF m 196 #[.val (.int p1), .val (.int p2), .val (.int (p2 &&& (2147483647 : Int32))), .val (.int (p1 &&& (3 : Int32))), .val (.int (f0_l4_90 p1 p2)), .val (.int ((p1 &&& (3 : Int32)) + (1 : Int32))), .val (.int (f1 (f0_l4_90 p1 p2))), .val (.int ((f1 (f0_l4_90 p1 p2)) &&& (255 : Int32))), .val (.int (f0_v131 p1 p2)), .val (.int (f0_v142 p1 p2)), .val (.int (f0_v153 p1 p2))] [(.int (1 : Int32))])) _
                  exact retN X4 hx (t := .boolean) Bd.returns (by simp) (hb hby at_196) hr
                · show Q0 Z p1 p2 h0 n0 _ T4.heap _
                  rw [e4]
                  exact ⟨by rw [eq20], N4, trivial⟩
              · have eq21 : (f0 p1 p2) = (0 : Int32) := by unfold f0; simp only [if_pos hc109, if_pos hc158, if_pos hc166, if_pos hc171, if_pos hc176, if_pos hc181, if_neg hc188]
                obtain ⟨fs, hr, hrun, hended, hW, hsame⟩ := X4.leave (v := some (.int (0 : Int32))) (fun h => by rw [Bd.returns] at h; cases h)
                refine ⟨_, _, pre19 _ ?_, hrun, hended, _, _, rfl, ?_, ⟨_, rfl⟩, hW, hsame.mono (by decide) (by decide)⟩
                · show Steps p.tables e below (T4.setTop (mkF m 188 #[.val (.int p1), .val (.int p2), .val (.int (p2 &&& (2147483647 : Int32))), .val (.int (p1 &&& (3 : Int32))), .val (.int (f0_l4_90 p1 p2)), .val (.int ((p1 &&& (3 : Int32)) + (1 : Int32))), .val (.int (f1 (f0_l4_90 p1 p2))), .val (.int ((f1 (f0_l4_90 p1 p2)) &&& (255 : Int32))), .val (.int (f0_v131 p1 p2)), .val (.int (f0_v142 p1 p2)), .val (.int (f0_v153 p1 p2))] [(.int (f0_l4_90 p1 p2)), (.int ((f1 (f0_l4_90 p1 p2)) &&& (255 : Int32)))])) _
                  refine XS.icmpYes X4.here hx rfl (pc0 := 188) (pc' := 195) rfl (hb hby at_188) rfl (feq hc188).2 (by decide) (by decide) ?_
                  show Steps p.tables e below (T4.setTop (mkF m 195 #[.val (.int p1), .val (.int p2), .val (.int (p2 &&& (2147483647 : Int32))), .val (.int (p1 &&& (3 : Int32))), .val (.int (f0_l4_90 p1 p2)), .val (.int ((p1 &&& (3 : Int32)) + (1 : Int32))), .val (.int (f1 (f0_l4_90 p1 p2))), .val (.int ((f1 (f0_l4_90 p1 p2)) &&& (255 : Int32))), .val (.int (f0_v131 p1 p2)), .val (.int (f0_v142 p1 p2)), .val (.int (f0_v153 p1 p2))] [])) _
                  refine XS.iconst X4.here hx rfl (hb hby at_195) ?_
                  show Steps p.tables e below (T4.setTop (mkF m 196 #[.val (.int p1), .val (.int p2), .val (.int (p2 &&& (2147483647 : Int32))), .val (.int (p1 &&& (3 : Int32))), .val (.int (f0_l4_90 p1 p2)), .val (.int ((p1 &&& (3 : Int32)) + (1 : Int32))), .val (.int (f1 (f0_l4_90 p1 p2))), .val (.int ((f1 (f0_l4_90 p1 p2)) &&& (255 : Int32))), .val (.int (f0_v131 p1 p2)), .val (.int (f0_v142 p1 p2)), .val (.int (f0_v153 p1 p2))] [(.int (0 : Int32))])) _
                  exact retN X4 hx (t := .boolean) Bd.returns (by simp) (hb hby at_196) hr
                · show Q0 Z p1 p2 h0 n0 _ T4.heap _
                  rw [e4]
                  exact ⟨by rw [eq21], N4, trivial⟩
            · have eq22 : (f0 p1 p2) = (0 : Int32) := by unfold f0; simp only [if_pos hc109, if_pos hc158, if_pos hc166, if_pos hc171, if_pos hc176, if_neg hc181]
              obtain ⟨fs, hr, hrun, hended, hW, hsame⟩ := X4.leave (v := some (.int (0 : Int32))) (fun h => by rw [Bd.returns] at h; cases h)
              refine ⟨_, _, pre18 _ ?_, hrun, hended, _, _, rfl, ?_, ⟨_, rfl⟩, hW, hsame.mono (by decide) (by decide)⟩
              · show Steps p.tables e below (T4.setTop (mkF m 181 #[.val (.int p1), .val (.int p2), .val (.int (p2 &&& (2147483647 : Int32))), .val (.int (p1 &&& (3 : Int32))), .val (.int (f0_l4_90 p1 p2)), .val (.int ((p1 &&& (3 : Int32)) + (1 : Int32))), .val (.int (f1 (f0_l4_90 p1 p2))), .val (.int ((f1 (f0_l4_90 p1 p2)) &&& (255 : Int32))), .val (.int (f0_v131 p1 p2)), .val (.int (f0_v142 p1 p2)), .val (.int (f0_v153 p1 p2))] [(.int (f0_v153 p1 p2))])) _
                refine XS.ifYes X4.here hx rfl (pc0 := 181) (pc' := 195) rfl (hb hby at_181) rfl ((if0 _ _).trans (feq hc181).2) (by decide) (by decide) ?_
                show Steps p.tables e below (T4.setTop (mkF m 195 #[.val (.int p1), .val (.int p2), .val (.int (p2 &&& (2147483647 : Int32))), .val (.int (p1 &&& (3 : Int32))), .val (.int (f0_l4_90 p1 p2)), .val (.int ((p1 &&& (3 : Int32)) + (1 : Int32))), .val (.int (f1 (f0_l4_90 p1 p2))), .val (.int ((f1 (f0_l4_90 p1 p2)) &&& (255 : Int32))), .val (.int (f0_v131 p1 p2)), .val (.int (f0_v142 p1 p2)), .val (.int (f0_v153 p1 p2))] [])) _
                refine XS.iconst X4.here hx rfl (hb hby at_195) ?_
                show Steps p.tables e below (T4.setTop (mkF m 196 #[.val (.int p1), .val (.int p2), .val (.int (p2 &&& (2147483647 : Int32))), .val (.int (p1 &&& (3 : Int32))), .val (.int (f0_l4_90 p1 p2)), .val (.int ((p1 &&& (3 : Int32)) + (1 : Int32))), .val (.int (f1 (f0_l4_90 p1 p2))), .val (.int ((f1 (f0_l4_90 p1 p2)) &&& (255 : Int32))), .val (.int (f0_v131 p1 p2)), .val (.int (f0_v142 p1 p2)), .val (.int (f0_v153 p1 p2))] [(.int (0 : Int32))])) _
                exact retN X4 hx (t := .boolean) Bd.returns (by simp) (hb hby at_196) hr
              · show Q0 Z p1 p2 h0 n0 _ T4.heap _
                rw [e4]
                exact ⟨by rw [eq22], N4, trivial⟩
          · have eq23 : (f0 p1 p2) = (0 : Int32) := by unfold f0; simp only [if_pos hc109, if_pos hc158, if_pos hc166, if_pos hc171, if_neg hc176]
            obtain ⟨fs, hr, hrun, hended, hW, hsame⟩ := X4.leave (v := some (.int (0 : Int32))) (fun h => by rw [Bd.returns] at h; cases h)
            refine ⟨_, _, pre17 _ ?_, hrun, hended, _, _, rfl, ?_, ⟨_, rfl⟩, hW, hsame.mono (by decide) (by decide)⟩
            · show Steps p.tables e below (T4.setTop (mkF m 176 #[.val (.int p1), .val (.int p2), .val (.int (p2 &&& (2147483647 : Int32))), .val (.int (p1 &&& (3 : Int32))), .val (.int (f0_l4_90 p1 p2)), .val (.int ((p1 &&& (3 : Int32)) + (1 : Int32))), .val (.int (f1 (f0_l4_90 p1 p2))), .val (.int ((f1 (f0_l4_90 p1 p2)) &&& (255 : Int32))), .val (.int (f0_v131 p1 p2)), .val (.int (f0_v142 p1 p2)), .val (.int (f0_v153 p1 p2))] [(.int (f0_v142 p1 p2))])) _
              refine XS.ifYes X4.here hx rfl (pc0 := 176) (pc' := 195) rfl (hb hby at_176) rfl ((if0 _ _).trans (feq hc176).2) (by decide) (by decide) ?_
              show Steps p.tables e below (T4.setTop (mkF m 195 #[.val (.int p1), .val (.int p2), .val (.int (p2 &&& (2147483647 : Int32))), .val (.int (p1 &&& (3 : Int32))), .val (.int (f0_l4_90 p1 p2)), .val (.int ((p1 &&& (3 : Int32)) + (1 : Int32))), .val (.int (f1 (f0_l4_90 p1 p2))), .val (.int ((f1 (f0_l4_90 p1 p2)) &&& (255 : Int32))), .val (.int (f0_v131 p1 p2)), .val (.int (f0_v142 p1 p2)), .val (.int (f0_v153 p1 p2))] [])) _
              refine XS.iconst X4.here hx rfl (hb hby at_195) ?_
              show Steps p.tables e below (T4.setTop (mkF m 196 #[.val (.int p1), .val (.int p2), .val (.int (p2 &&& (2147483647 : Int32))), .val (.int (p1 &&& (3 : Int32))), .val (.int (f0_l4_90 p1 p2)), .val (.int ((p1 &&& (3 : Int32)) + (1 : Int32))), .val (.int (f1 (f0_l4_90 p1 p2))), .val (.int ((f1 (f0_l4_90 p1 p2)) &&& (255 : Int32))), .val (.int (f0_v131 p1 p2)), .val (.int (f0_v142 p1 p2)), .val (.int (f0_v153 p1 p2))] [(.int (0 : Int32))])) _
              exact retN X4 hx (t := .boolean) Bd.returns (by simp) (hb hby at_196) hr
            · show Q0 Z p1 p2 h0 n0 _ T4.heap _
              rw [e4]
              exact ⟨by rw [eq23], N4, trivial⟩
        · have eq24 : (f0 p1 p2) = (0 : Int32) := by unfold f0; simp only [if_pos hc109, if_pos hc158, if_pos hc166, if_neg hc171]
          obtain ⟨fs, hr, hrun, hended, hW, hsame⟩ := X4.leave (v := some (.int (0 : Int32))) (fun h => by rw [Bd.returns] at h; cases h)
          refine ⟨_, _, pre16 _ ?_, hrun, hended, _, _, rfl, ?_, ⟨_, rfl⟩, hW, hsame.mono (by decide) (by decide)⟩
          · show Steps p.tables e below (T4.setTop (mkF m 171 #[.val (.int p1), .val (.int p2), .val (.int (p2 &&& (2147483647 : Int32))), .val (.int (p1 &&& (3 : Int32))), .val (.int (f0_l4_90 p1 p2)), .val (.int ((p1 &&& (3 : Int32)) + (1 : Int32))), .val (.int (f1 (f0_l4_90 p1 p2))), .val (.int ((f1 (f0_l4_90 p1 p2)) &&& (255 : Int32))), .val (.int (f0_v131 p1 p2)), .val (.int (f0_v142 p1 p2)), .val (.int (f0_v153 p1 p2))] [(.int (f0_v131 p1 p2))])) _
            refine XS.ifYes X4.here hx rfl (pc0 := 171) (pc' := 195) rfl (hb hby at_171) rfl ((if0 _ _).trans (feq hc171).2) (by decide) (by decide) ?_
            show Steps p.tables e below (T4.setTop (mkF m 195 #[.val (.int p1), .val (.int p2), .val (.int (p2 &&& (2147483647 : Int32))), .val (.int (p1 &&& (3 : Int32))), .val (.int (f0_l4_90 p1 p2)), .val (.int ((p1 &&& (3 : Int32)) + (1 : Int32))), .val (.int (f1 (f0_l4_90 p1 p2))), .val (.int ((f1 (f0_l4_90 p1 p2)) &&& (255 : Int32))), .val (.int (f0_v131 p1 p2)), .val (.int (f0_v142 p1 p2)), .val (.int (f0_v153 p1 p2))] [])) _
            refine XS.iconst X4.here hx rfl (hb hby at_195) ?_
            show Steps p.tables e below (T4.setTop (mkF m 196 #[.val (.int p1), .val (.int p2), .val (.int (p2 &&& (2147483647 : Int32))), .val (.int (p1 &&& (3 : Int32))), .val (.int (f0_l4_90 p1 p2)), .val (.int ((p1 &&& (3 : Int32)) + (1 : Int32))), .val (.int (f1 (f0_l4_90 p1 p2))), .val (.int ((f1 (f0_l4_90 p1 p2)) &&& (255 : Int32))), .val (.int (f0_v131 p1 p2)), .val (.int (f0_v142 p1 p2)), .val (.int (f0_v153 p1 p2))] [(.int (0 : Int32))])) _
            exact retN X4 hx (t := .boolean) Bd.returns (by simp) (hb hby at_196) hr
          · show Q0 Z p1 p2 h0 n0 _ T4.heap _
            rw [e4]
            exact ⟨by rw [eq24], N4, trivial⟩
      · have eq25 : (f0 p1 p2) = (0 : Int32) := by unfold f0; simp only [if_pos hc109, if_pos hc158, if_neg hc166]
        obtain ⟨fs, hr, hrun, hended, hW, hsame⟩ := X4.leave (v := some (.int (0 : Int32))) (fun h => by rw [Bd.returns] at h; cases h)
        refine ⟨_, _, pre15 _ ?_, hrun, hended, _, _, rfl, ?_, ⟨_, rfl⟩, hW, hsame.mono (by decide) (by decide)⟩
        · show Steps p.tables e below (T4.setTop (mkF m 166 #[.val (.int p1), .val (.int p2), .val (.int (p2 &&& (2147483647 : Int32))), .val (.int (p1 &&& (3 : Int32))), .val (.int (f0_l4_90 p1 p2)), .val (.int ((p1 &&& (3 : Int32)) + (1 : Int32))), .val (.int (f1 (f0_l4_90 p1 p2))), .val (.int ((f1 (f0_l4_90 p1 p2)) &&& (255 : Int32))), .val (.int (f0_v131 p1 p2)), .val (.int (f0_v142 p1 p2)), .val (.int (f0_v153 p1 p2))] [(.int (128 : Int32)), (.int ((f1 (f0_l4_90 p1 p2)) &&& (255 : Int32)))])) _
          refine XS.icmpYes X4.here hx rfl (pc0 := 166) (pc' := 195) rfl (hb hby at_166) rfl (flt hc166).2.1 (by decide) (by decide) ?_
          show Steps p.tables e below (T4.setTop (mkF m 195 #[.val (.int p1), .val (.int p2), .val (.int (p2 &&& (2147483647 : Int32))), .val (.int (p1 &&& (3 : Int32))), .val (.int (f0_l4_90 p1 p2)), .val (.int ((p1 &&& (3 : Int32)) + (1 : Int32))), .val (.int (f1 (f0_l4_90 p1 p2))), .val (.int ((f1 (f0_l4_90 p1 p2)) &&& (255 : Int32))), .val (.int (f0_v131 p1 p2)), .val (.int (f0_v142 p1 p2)), .val (.int (f0_v153 p1 p2))] [])) _
          refine XS.iconst X4.here hx rfl (hb hby at_195) ?_
          show Steps p.tables e below (T4.setTop (mkF m 196 #[.val (.int p1), .val (.int p2), .val (.int (p2 &&& (2147483647 : Int32))), .val (.int (p1 &&& (3 : Int32))), .val (.int (f0_l4_90 p1 p2)), .val (.int ((p1 &&& (3 : Int32)) + (1 : Int32))), .val (.int (f1 (f0_l4_90 p1 p2))), .val (.int ((f1 (f0_l4_90 p1 p2)) &&& (255 : Int32))), .val (.int (f0_v131 p1 p2)), .val (.int (f0_v142 p1 p2)), .val (.int (f0_v153 p1 p2))] [(.int (0 : Int32))])) _
          exact retN X4 hx (t := .boolean) Bd.returns (by simp) (hb hby at_196) hr
        · show Q0 Z p1 p2 h0 n0 _ T4.heap _
          rw [e4]
          exact ⟨by rw [eq25], N4, trivial⟩
    · have pre26 : ∀ t, Steps p.tables e below (T4.setTop (mkF m 200 #[.val (.int p1), .val (.int p2), .val (.int (p2 &&& (2147483647 : Int32))), .val (.int (p1 &&& (3 : Int32))), .val (.int (f0_l4_90 p1 p2)), .val (.int ((p1 &&& (3 : Int32)) + (1 : Int32))), .val (.int (f1 (f0_l4_90 p1 p2))), .val (.int ((f1 (f0_l4_90 p1 p2)) &&& (255 : Int32))), .val (.int (f0_v131 p1 p2)), .val (.int (f0_v142 p1 p2)), .val (.int (f0_v153 p1 p2))] [(.int (2 : Int32)), (.int ((p1 &&& (3 : Int32)) + (1 : Int32)))])) t → Steps p.tables e below (s₁.setTop (entryFrame m #[(.int p1), (.int p2)] maxLocals)) t := by
        intro t k
        refine pre14 t ?_
        show Steps p.tables e below (T4.setTop (mkF m 158 #[.val (.int p1), .val (.int p2), .val (.int (p2 &&& (2147483647 : Int32))), .val (.int (p1 &&& (3 : Int32))), .val (.int (f0_l4_90 p1 p2)), .val (.int ((p1 &&& (3 : Int32)) + (1 : Int32))), .val (.int (f1 (f0_l4_90 p1 p2))), .val (.int ((f1 (f0_l4_90 p1 p2)) &&& (255 : Int32))), .val (.int (f0_v131 p1 p2)), .val (.int (f0_v142 p1 p2)), .val (.int (f0_v153 p1 p2))] [(.int (1 : Int32)), (.int ((p1 &&& (3 : Int32)) + (1 : Int32)))])) _
        refine XS.icmpYes X4.here hx rfl (pc0 := 158) (pc' := 197) rfl (hb hby at_158) rfl (feq hc158).2 (by decide) (by decide) ?_
        show Steps p.tables e below (T4.setTop (mkF m 197 #[.val (.int p1), .val (.int p2), .val (.int (p2 &&& (2147483647 : Int32))), .val (.int (p1 &&& (3 : Int32))), .val (.int (f0_l4_90 p1 p2)), .val (.int ((p1 &&& (3 : Int32)) + (1 : Int32))), .val (.int (f1 (f0_l4_90 p1 p2))), .val (.int ((f1 (f0_l4_90 p1 p2)) &&& (255 : Int32))), .val (.int (f0_v131 p1 p2)), .val (.int (f0_v142 p1 p2)), .val (.int (f0_v153 p1 p2))] [])) _
        refine XS.iload X4.here hx rfl (hb hby at_197) rfl ?_
        show Steps p.tables e below (T4.setTop (mkF m 199 #[.val (.int p1), .val (.int p2), .val (.int (p2 &&& (2147483647 : Int32))), .val (.int (p1 &&& (3 : Int32))), .val (.int (f0_l4_90 p1 p2)), .val (.int ((p1 &&& (3 : Int32)) + (1 : Int32))), .val (.int (f1 (f0_l4_90 p1 p2))), .val (.int ((f1 (f0_l4_90 p1 p2)) &&& (255 : Int32))), .val (.int (f0_v131 p1 p2)), .val (.int (f0_v142 p1 p2)), .val (.int (f0_v153 p1 p2))] [(.int ((p1 &&& (3 : Int32)) + (1 : Int32)))])) _
        refine XS.iconst X4.here hx rfl (hb hby at_199) ?_
        exact k
      by_cases hc200 : ((p1 &&& (3 : Int32)) + (1 : Int32)) = (2 : Int32)
      · have pre27 : ∀ t, Steps p.tables e below (T4.setTop (mkF m 212 #[.val (.int p1), .val (.int p2), .val (.int (p2 &&& (2147483647 : Int32))), .val (.int (p1 &&& (3 : Int32))), .val (.int (f0_l4_90 p1 p2)), .val (.int ((p1 &&& (3 : Int32)) + (1 : Int32))), .val (.int (f1 (f0_l4_90 p1 p2))), .val (.int ((f1 (f0_l4_90 p1 p2)) &&& (255 : Int32))), .val (.int (f0_v131 p1 p2)), .val (.int (f0_v142 p1 p2)), .val (.int (f0_v153 p1 p2))] [(.int (192 : Int32)), (.int (((f1 (f0_l4_90 p1 p2)) &&& (255 : Int32)) &&& (224 : Int32)))])) t → Steps p.tables e below (s₁.setTop (entryFrame m #[(.int p1), (.int p2)] maxLocals)) t := by
          intro t k
          refine pre26 t ?_
          show Steps p.tables e below (T4.setTop (mkF m 200 #[.val (.int p1), .val (.int p2), .val (.int (p2 &&& (2147483647 : Int32))), .val (.int (p1 &&& (3 : Int32))), .val (.int (f0_l4_90 p1 p2)), .val (.int ((p1 &&& (3 : Int32)) + (1 : Int32))), .val (.int (f1 (f0_l4_90 p1 p2))), .val (.int ((f1 (f0_l4_90 p1 p2)) &&& (255 : Int32))), .val (.int (f0_v131 p1 p2)), .val (.int (f0_v142 p1 p2)), .val (.int (f0_v153 p1 p2))] [(.int (2 : Int32)), (.int ((p1 &&& (3 : Int32)) + (1 : Int32)))])) _
          refine XS.icmpNo X4.here hx rfl (hb hby at_200) rfl (teq hc200).2 ?_
          show Steps p.tables e below (T4.setTop (mkF m 203 #[.val (.int p1), .val (.int p2), .val (.int (p2 &&& (2147483647 : Int32))), .val (.int (p1 &&& (3 : Int32))), .val (.int (f0_l4_90 p1 p2)), .val (.int ((p1 &&& (3 : Int32)) + (1 : Int32))), .val (.int (f1 (f0_l4_90 p1 p2))), .val (.int ((f1 (f0_l4_90 p1 p2)) &&& (255 : Int32))), .val (.int (f0_v131 p1 p2)), .val (.int (f0_v142 p1 p2)), .val (.int (f0_v153 p1 p2))] [])) _
          refine XS.iload X4.here hx rfl (hb hby at_203) rfl ?_
          show Steps p.tables e below (T4.setTop (mkF m 205 #[.val (.int p1), .val (.int p2), .val (.int (p2 &&& (2147483647 : Int32))), .val (.int (p1 &&& (3 : Int32))), .val (.int (f0_l4_90 p1 p2)), .val (.int ((p1 &&& (3 : Int32)) + (1 : Int32))), .val (.int (f1 (f0_l4_90 p1 p2))), .val (.int ((f1 (f0_l4_90 p1 p2)) &&& (255 : Int32))), .val (.int (f0_v131 p1 p2)), .val (.int (f0_v142 p1 p2)), .val (.int (f0_v153 p1 p2))] [(.int ((f1 (f0_l4_90 p1 p2)) &&& (255 : Int32)))])) _
          refine XS.sipush X4.here hx rfl (hb hby at_205) ?_
          show Steps p.tables e below (T4.setTop (mkF m 208 #[.val (.int p1), .val (.int p2), .val (.int (p2 &&& (2147483647 : Int32))), .val (.int (p1 &&& (3 : Int32))), .val (.int (f0_l4_90 p1 p2)), .val (.int ((p1 &&& (3 : Int32)) + (1 : Int32))), .val (.int (f1 (f0_l4_90 p1 p2))), .val (.int ((f1 (f0_l4_90 p1 p2)) &&& (255 : Int32))), .val (.int (f0_v131 p1 p2)), .val (.int (f0_v142 p1 p2)), .val (.int (f0_v153 p1 p2))] [(.int (224 : Int32)), (.int ((f1 (f0_l4_90 p1 p2)) &&& (255 : Int32)))])) _
          refine XS.iand X4.here hx rfl (hb hby at_208) rfl ?_
          show Steps p.tables e below (T4.setTop (mkF m 209 #[.val (.int p1), .val (.int p2), .val (.int (p2 &&& (2147483647 : Int32))), .val (.int (p1 &&& (3 : Int32))), .val (.int (f0_l4_90 p1 p2)), .val (.int ((p1 &&& (3 : Int32)) + (1 : Int32))), .val (.int (f1 (f0_l4_90 p1 p2))), .val (.int ((f1 (f0_l4_90 p1 p2)) &&& (255 : Int32))), .val (.int (f0_v131 p1 p2)), .val (.int (f0_v142 p1 p2)), .val (.int (f0_v153 p1 p2))] [(.int (((f1 (f0_l4_90 p1 p2)) &&& (255 : Int32)) &&& (224 : Int32)))])) _
          refine XS.sipush X4.here hx rfl (hb hby at_209) ?_
          exact k
        by_cases hc212 : (((f1 (f0_l4_90 p1 p2)) &&& (255 : Int32)) &&& (224 : Int32)) = (192 : Int32)
        · obtain ⟨_, _, ⟨T5, L5, k5, n5⟩, -, X5, ⟨Lc5, hQ5, l5, y5, z5⟩, st5⟩ := Jvm.LawKit.callS X4 hx (y := (⟨"com/example/ringward/ringward/Utf8EncodePinLaw", "cont", "(I)Z"⟩ : MethodName)) hown (mvT hZ (hw _ (List.mem_of_getElem? (i := 11) rfl))) (mvT hZ (hw _ (List.mem_of_getElem? (i := 12) rfl))) (mvT hZ (hw _ (List.mem_of_getElem? (i := 13) rfl))) (mvT hZ (hw _ (List.mem_of_getElem? (i := 14) rfl))) (by decide) (backOf (W := 0) (rm3 l Z a0 hw [] (f0_v131 p1 p2) h0 n0 Z0 ) hZ (hw _ (List.mem_of_getElem? (i := 14) rfl)) (hw _ (List.mem_of_getElem? (i := 13) rfl)) (by decide) (by decide)) (g := (mkF m 217 #[.val (.int p1), .val (.int p2), .val (.int (p2 &&& (2147483647 : Int32))), .val (.int (p1 &&& (3 : Int32))), .val (.int (f0_l4_90 p1 p2)), .val (.int ((p1 &&& (3 : Int32)) + (1 : Int32))), .val (.int (f1 (f0_l4_90 p1 p2))), .val (.int ((f1 (f0_l4_90 p1 p2)) &&& (255 : Int32))), .val (.int (f0_v131 p1 p2)), .val (.int (f0_v142 p1 p2)), .val (.int (f0_v153 p1 p2))] [(.int (f0_v131 p1 p2))])) rfl (by rw [hml]; rfl) (argsL := [(.int (f0_v131 p1 p2))]) (rest := []) (lenOf pd_1 rfl) rfl (by show 2 * 0 + _ ≤ _; exact Nat.le_of_eq rfl) (hb hby at_217) (fun _ _ => ⟨rfl, e4, (by decide : 0 + 0 ≤ _), (by decide : 0 + 0 ≤ _)⟩)
          dsimp only [Pt.U, Pt.locs, Pt.cells, Pt.slots] at X5 l5 y5 z5 st5 hQ5
          subst l5 y5 z5
          obtain ⟨rfl, N5q, e5⟩ := hQ5
          have N5 := Fr.app N4 N5q
          have pre28 : ∀ t, Steps p.tables e below (T5.setTop (mkF m 220 #[.val (.int p1), .val (.int p2), .val (.int (p2 &&& (2147483647 : Int32))), .val (.int (p1 &&& (3 : Int32))), .val (.int (f0_l4_90 p1 p2)), .val (.int ((p1 &&& (3 : Int32)) + (1 : Int32))), .val (.int (f1 (f0_l4_90 p1 p2))), .val (.int ((f1 (f0_l4_90 p1 p2)) &&& (255 : Int32))), .val (.int (f0_v131 p1 p2)), .val (.int (f0_v142 p1 p2)), .val (.int (f0_v153 p1 p2))] [(.int (f3 (f0_v131 p1 p2)))])) t → Steps p.tables e below (s₁.setTop (entryFrame m #[(.int p1), (.int p2)] maxLocals)) t := by
            intro t k
            refine pre27 t ?_
            show Steps p.tables e below (T4.setTop (mkF m 212 #[.val (.int p1), .val (.int p2), .val (.int (p2 &&& (2147483647 : Int32))), .val (.int (p1 &&& (3 : Int32))), .val (.int (f0_l4_90 p1 p2)), .val (.int ((p1 &&& (3 : Int32)) + (1 : Int32))), .val (.int (f1 (f0_l4_90 p1 p2))), .val (.int ((f1 (f0_l4_90 p1 p2)) &&& (255 : Int32))), .val (.int (f0_v131 p1 p2)), .val (.int (f0_v142 p1 p2)), .val (.int (f0_v153 p1 p2))] [(.int (192 : Int32)), (.int (((f1 (f0_l4_90 p1 p2)) &&& (255 : Int32)) &&& (224 : Int32)))])) _
            refine XS.icmpNo X4.here hx rfl (hb hby at_212) rfl (teq hc212).2 ?_
            show Steps p.tables e below (T4.setTop (mkF m 215 #[.val (.int p1), .val (.int p2), .val (.int (p2 &&& (2147483647 : Int32))), .val (.int (p1 &&& (3 : Int32))), .val (.int (f0_l4_90 p1 p2)), .val (.int ((p1 &&& (3 : Int32)) + (1 : Int32))), .val (.int (f1 (f0_l4_90 p1 p2))), .val (.int ((f1 (f0_l4_90 p1 p2)) &&& (255 : Int32))), .val (.int (f0_v131 p1 p2)), .val (.int (f0_v142 p1 p2)), .val (.int (f0_v153 p1 p2))] [])) _
            refine XS.iload X4.here hx rfl (hb hby at_215) rfl ?_
            show Steps p.tables e below (T4.setTop (mkF m 217 #[.val (.int p1), .val (.int p2), .val (.int (p2 &&& (2147483647 : Int32))), .val (.int (p1 &&& (3 : Int32))), .val (.int (f0_l4_90 p1 p2)), .val (.int ((p1 &&& (3 : Int32)) + (1 : Int32))), .val (.int (f1 (f0_l4_90 p1 p2))), .val (.int ((f1 (f0_l4_90 p1 p2)) &&& (255 : Int32))), .val (.int (f0_v131 p1 p2)), .val (.int (f0_v142 p1 p2)), .val (.int (f0_v153 p1 p2))] [(.int (f0_v131 p1 p2))])) _
            refine st5 _ ?_
            exact k
          by_cases hc220 : (f3 (f0_v131 p1 p2)) = (0 : Int32)
          · have eq29 : (f0 p1 p2) = (0 : Int32) := by unfold f0; simp only [if_pos hc109, if_neg hc158, if_pos hc200, if_pos hc212, if_pos hc220]
            obtain ⟨fs, hr, hrun, hended, hW, hsame⟩ := X5.leave (v := some (.int (0 : Int32))) (fun h => by rw [Bd.returns] at h; cases h)
            refine ⟨_, _, pre28 _ ?_, hrun, hended, _, _, rfl, ?_, ⟨_, rfl⟩, hW, hsame.mono (by decide) (by decide)⟩
            · show Steps p.tables e below (T5.setTop (mkF m 220 #[.val (.int p1), .val (.int p2), .val (.int (p2 &&& (2147483647 : Int32))), .val (.int (p1 &&& (3 : Int32))), .val (.int (f0_l4_90 p1 p2)), .val (.int ((p1 &&& (3 : Int32)) + (1 : Int32))), .val (.int (f1 (f0_l4_90 p1 p2))), .val (.int ((f1 (f0_l4_90 p1 p2)) &&& (255 : Int32))), .val (.int (f0_v131 p1 p2)), .val (.int (f0_v142 p1 p2)), .val (.int (f0_v153 p1 p2))] [(.int (f3 (f0_v131 p1 p2)))])) _
              refine XS.ifYes X5.here hx rfl (pc0 := 220) (pc' := 256) rfl (hb hby at_220) rfl ((if0 _ _).trans (teq hc220).1) (by decide) (by decide) ?_
              show Steps p.tables e below (T5.setTop (mkF m 256 #[.val (.int p1), .val (.int p2), .val (.int (p2 &&& (2147483647 : Int32))), .val (.int (p1 &&& (3 : Int32))), .val (.int (f0_l4_90 p1 p2)), .val (.int ((p1 &&& (3 : Int32)) + (1 : Int32))), .val (.int (f1 (f0_l4_90 p1 p2))), .val (.int ((f1 (f0_l4_90 p1 p2)) &&& (255 : Int32))), .val (.int (f0_v131 p1 p2)), .val (.int (f0_v142 p1 p2)), .val (.int (f0_v153 p1 p2))] [])) _
              refine XS.iconst X5.here hx rfl (hb hby at_256) ?_
              show Steps p.tables e below (T5.setTop (mkF m 257 #[.val (.int p1), .val (.int p2), .val (.int (p2 &&& (2147483647 : Int32))), .val (.int (p1 &&& (3 : Int32))), .val (.int (f0_l4_90 p1 p2)), .val (.int ((p1 &&& (3 : Int32)) + (1 : Int32))), .val (.int (f1 (f0_l4_90 p1 p2))), .val (.int ((f1 (f0_l4_90 p1 p2)) &&& (255 : Int32))), .val (.int (f0_v131 p1 p2)), .val (.int (f0_v142 p1 p2)), .val (.int (f0_v153 p1 p2))] [(.int (0 : Int32))])) _
              exact retN X5 hx (t := .boolean) Bd.returns (by simp) (hb hby at_257) hr
            · show Q0 Z p1 p2 h0 n0 _ T5.heap _
              rw [e5]
              exact ⟨by rw [eq29], N5, trivial⟩
          · have pre30 : ∀ t, Steps p.tables e below (T5.setTop (mkF m 225 #[.val (.int p1), .val (.int p2), .val (.int (p2 &&& (2147483647 : Int32))), .val (.int (p1 &&& (3 : Int32))), .val (.int (f0_l4_90 p1 p2)), .val (.int ((p1 &&& (3 : Int32)) + (1 : Int32))), .val (.int (f1 (f0_l4_90 p1 p2))), .val (.int ((f1 (f0_l4_90 p1 p2)) &&& (255 : Int32))), .val (.int (f0_v131 p1 p2)), .val (.int (f0_v142 p1 p2)), .val (.int (f0_v153 p1 p2))] [(.int (f0_v142 p1 p2))])) t → Steps p.tables e below (s₁.setTop (entryFrame m #[(.int p1), (.int p2)] maxLocals)) t := by
              intro t k
              refine pre28 t ?_
              show Steps p.tables e below (T5.setTop (mkF m 220 #[.val (.int p1), .val (.int p2), .val (.int (p2 &&& (2147483647 : Int32))), .val (.int (p1 &&& (3 : Int32))), .val (.int (f0_l4_90 p1 p2)), .val (.int ((p1 &&& (3 : Int32)) + (1 : Int32))), .val (.int (f1 (f0_l4_90 p1 p2))), .val (.int ((f1 (f0_l4_90 p1 p2)) &&& (255 : Int32))), .val (.int (f0_v131 p1 p2)), .val (.int (f0_v142 p1 p2)), .val (.int (f0_v153 p1 p2))] [(.int (f3 (f0_v131 p1 p2)))])) _
              refine XS.ifNo X5.here hx rfl (hb hby at_220) rfl ((if0 _ _).trans (feq hc220).1) ?_
              show Steps p.tables e below (T5.setTop (mkF m 223 #[.val (.int p1), .val (.int p2), .val (.int (p2 &&& (2147483647 : Int32))), .val (.int (p1 &&& (3 : Int32))), .val (.int (f0_l4_90 p1 p2)), .val (.int ((p1 &&& (3 : Int32)) + (1 : Int32))), .val (.int (f1 (f0_l4_90 p1 p2))), .val (.int ((f1 (f0_l4_90 p1 p2)) &&& (255 : Int32))), .val (.int (f0_v131 p1 p2)), .val (.int (f0_v142 p1 p2)), .val (.int (f0_v153 p1 p2))] [])) _
              refine XS.iload X5.here hx rfl (hb hby at_223) rfl ?_
              exact k
            by_cases hc225 : (f0_v142 p1 p2) = (0 : Int32)
            · have pre31 : ∀ t, Steps p.tables e below (T5.setTop (mkF m 230 #[.val (.int p1), .val (.int p2), .val (.int (p2 &&& (2147483647 : Int32))), .val (.int (p1 &&& (3 : Int32))), .val (.int (f0_l4_90 p1 p2)), .val (.int ((p1 &&& (3 : Int32)) + (1 : Int32))), .val (.int (f1 (f0_l4_90 p1 p2))), .val (.int ((f1 (f0_l4_90 p1 p2)) &&& (255 : Int32))), .val (.int (f0_v131 p1 p2)), .val (.int (f0_v142 p1 p2)), .val (.int (f0_v153 p1 p2))] [(.int (f0_v153 p1 p2))])) t → Steps p.tables e below (s₁.setTop (entryFrame m #[(.int p1), (.int p2)] maxLocals)) t := by
                intro t k
                refine pre30 t ?_
                show Steps p.tables e below (T5.setTop (mkF m 225 #[.val (.int p1), .val (.int p2), .val (.int (p2 &&& (2147483647 : Int32))), .val (.int (p1 &&& (3 : Int32))), .val (.int (f0_l4_90 p1 p2)), .val (.int ((p1 &&& (3 : Int32)) + (1 : Int32))), .val (.int (f1 (f0_l4_90 p1 p2))), .val (.int ((f1 (f0_l4_90 p1 p2)) &&& (255 : Int32))), .val (.int (f0_v131 p1 p2)), .val (.int (f0_v142 p1 p2)), .val (.int (f0_v153 p1 p2))] [(.int (f0_v142 p1 p2))])) _
                refine XS.ifNo X5.here hx rfl (hb hby at_225) rfl ((if0 _ _).trans (teq hc225).2) ?_
                show Steps p.tables e below (T5.setTop (mkF m 228 #[.val (.int p1), .val (.int p2), .val (.int (p2 &&& (2147483647 : Int32))), .val (.int (p1 &&& (3 : Int32))), .val (.int (f0_l4_90 p1 p2)), .val (.int ((p1 &&& (3 : Int32)) + (1 : Int32))), .val (.int (f1 (f0_l4_90 p1 p2))), .val (.int ((f1 (f0_l4_90 p1 p2)) &&& (255 : Int32))), .val (.int (f0_v131 p1 p2)), .val (.int (f0_v142 p1 p2)), .val (.int (f0_v153 p1 p2))] [])) _
                refine XS.iload X5.here hx rfl (hb hby at_228) rfl ?_
                exact k
              by_cases hc230 : (f0_v153 p1 p2) = (0 : Int32)
              · have pre32 : ∀ t, Steps p.tables e below (T5.setTop (mkF m 249 #[.val (.int p1), .val (.int p2), .val (.int (p2 &&& (2147483647 : Int32))), .val (.int (p1 &&& (3 : Int32))), .val (.int (f0_l4_90 p1 p2)), .val (.int ((p1 &&& (3 : Int32)) + (1 : Int32))), .val (.int (f1 (f0_l4_90 p1 p2))), .val (.int ((f1 (f0_l4_90 p1 p2)) &&& (255 : Int32))), .val (.int (f0_v131 p1 p2)), .val (.int (f0_v142 p1 p2)), .val (.int (f0_v153 p1 p2))] [(.int (f0_l4_90 p1 p2)), (.int (((((f1 (f0_l4_90 p1 p2)) &&& (255 : Int32)) &&& (31 : Int32)) <<< ((6 : Int32) &&& 31)) ||| ((f0_v131 p1 p2) &&& (63 : Int32))))])) t → Steps p.tables e below (s₁.setTop (entryFrame m #[(.int p1), (.int p2)] maxLocals)) t := by
                  intro t k
                  refine pre31 t ?_
                  show Steps p.tables e below (T5.setTop (mkF m 230 #[.val (.int p1), .val (.int p2), .val (.int (p2 &&& (2147483647 : Int32))), .val (.int (p1 &&& (3 : Int32))), .val (.int (f0_l4_90 p1 p2)), .val (.int ((p1 &&& (3 : Int32)) + (1 : Int32))), .val (.int (f1 (f0_l4_90 p1 p2))), .val (.int ((f1 (f0_l4_90 p1 p2)) &&& (255 : Int32))), .val (.int (f0_v131 p1 p2)), .val (.int (f0_v142 p1 p2)), .val (.int (f0_v153 p1 p2))] [(.int (f0_v153 p1 p2))])) _
                  refine XS.ifNo X5.here hx rfl (hb hby at_230) rfl ((if0 _ _).trans (teq hc230).2) ?_
                  show Steps p.tables e below (T5.setTop (mkF m 233 #[.val (.int p1), .val (.int p2), .val (.int (p2 &&& (2147483647 : Int32))), .val (.int (p1 &&& (3 : Int32))), .val (.int (f0_l4_90 p1 p2)), .val (.int ((p1 &&& (3 : Int32)) + (1 : Int32))), .val (.int (f1 (f0_l4_90 p1 p2))), .val (.int ((f1 (f0_l4_90 p1 p2)) &&& (255 : Int32))), .val (.int (f0_v131 p1 p2)), .val (.int (f0_v142 p1 p2)), .val (.int (f0_v153 p1 p2))] [])) _
                  refine XS.iload X5.here hx rfl (hb hby at_233) rfl ?_
                  show Steps p.tables e below (T5.setTop (mkF m 235 #[.val (.int p1), .val (.int p2), .val (.int (p2 &&& (2147483647 : Int32))), .val (.int (p1 &&& (3 : Int32))), .val (.int (f0_l4_90 p1 p2)), .val (.int ((p1 &&& (3 : Int32)) + (1 : Int32))), .val (.int (f1 (f0_l4_90 p1 p2))), .val (.int ((f1 (f0_l4_90 p1 p2)) &&& (255 : Int32))), .val (.int (f0_v131 p1 p2)), .val (.int (f0_v142 p1 p2)), .val (.int (f0_v153 p1 p2))] [(.int ((f1 (f0_l4_90 p1 p2)) &&& (255 : Int32)))])) _
                  refine XS.bipush X5.here hx rfl (hb hby at_235) ?_
                  show Steps p.tables e below (T5.setTop (mkF m 237 #[.val (.int p1), .val (.int p2), .val (.int (p2 &&& (2147483647 : Int32))), .val (.int (p1 &&& (3 : Int32))), .val (.int (f0_l4_90 p1 p2)), .val (.int ((p1 &&& (3 : Int32)) + (1 : Int32))), .val (.int (f1 (f0_l4_90 p1 p2))), .val (.int ((f1 (f0_l4_90 p1 p2)) &&& (255 : Int32))), .val (.int (f0_v131 p1 p2)), .val (.int (f0_v142 p1 p2)), .val (.int (f0_v153 p1 p2))] [(.int (31 : Int32)), (.int ((f1 (f0_l4_90 p1 p2)) &&& (255 : Int32)))])) _
                  refine XS.iand X5.here hx rfl (hb hby at_237) rfl ?_
                  show Steps p.tables e below (T5.setTop (mkF m 238 #[.val (.int p1), .val (.int p2), .val (.int (p2 &&& (2147483647 : Int32))), .val (.int (p1 &&& (3 : Int32))), .val (.int (f0_l4_90 p1 p2)), .val (.int ((p1 &&& (3 : Int32)) + (1 : Int32))), .val (.int (f1 (f0_l4_90 p1 p2))), .val (.int ((f1 (f0_l4_90 p1 p2)) &&& (255 : Int32))), .val (.int (f0_v131 p1 p2)), .val (.int (f0_v142 p1 p2)), .val (.int (f0_v153 p1 p2))] [(.int (((f1 (f0_l4_90 p1 p2)) &&& (255 : Int32)) &&& (31 : Int32)))])) _
                  refine XS.bipush X5.here hx rfl (hb hby at_238) ?_
                  show Steps p.tables e below (T5.setTop (mkF m 240 #[.val (.int p1), .val (.int p2), .val (.int (p2 &&& (2147483647 : Int32))), .val (.int (p1 &&& (3 : Int32))), .val (.int (f0_l4_90 p1 p2)), .val (.int ((p1 &&& (3 : Int32)) + (1 : Int32))), .val (.int (f1 (f0_l4_90 p1 p2))), .val (.int ((f1 (f0_l4_90 p1 p2)) &&& (255 : Int32))), .val (.int (f0_v131 p1 p2)), .val (.int (f0_v142 p1 p2)), .val (.int (f0_v153 p1 p2))] [(.int (6 : Int32)), (.int (((f1 (f0_l4_90 p1 p2)) &&& (255 : Int32)) &&& (31 : Int32)))])) _
                  refine XS.ishl X5.here hx rfl (hb hby at_240) rfl ?_
                  show Steps p.tables e below (T5.setTop (mkF m 241 #[.val (.int p1), .val (.int p2), .val (.int (p2 &&& (2147483647 : Int32))), .val (.int (p1 &&& (3 : Int32))), .val (.int (f0_l4_90 p1 p2)), .val (.int ((p1 &&& (3 : Int32)) + (1 : Int32))), .val (.int (f1 (f0_l4_90 p1 p2))), .val (.int ((f1 (f0_l4_90 p1 p2)) &&& (255 : Int32))), .val (.int (f0_v131 p1 p2)), .val (.int (f0_v142 p1 p2)), .val (.int (f0_v153 p1 p2))] [(.int ((((f1 (f0_l4_90 p1 p2)) &&& (255 : Int32)) &&& (31 : Int32)) <<< ((6 : Int32) &&& 31)))])) _
                  refine XS.iload X5.here hx rfl (hb hby at_241) rfl ?_
                  show Steps p.tables e below (T5.setTop (mkF m 243 #[.val (.int p1), .val (.int p2), .val (.int (p2 &&& (2147483647 : Int32))), .val (.int (p1 &&& (3 : Int32))), .val (.int (f0_l4_90 p1 p2)), .val (.int ((p1 &&& (3 : Int32)) + (1 : Int32))), .val (.int (f1 (f0_l4_90 p1 p2))), .val (.int ((f1 (f0_l4_90 p1 p2)) &&& (255 : Int32))), .val (.int (f0_v131 p1 p2)), .val (.int (f0_v142 p1 p2)), .val (.int (f0_v153 p1 p2))] [(.int (f0_v131 p1 p2)), (.int ((((f1 (f0_l4_90 p1 p2)) &&& (255 : Int32)) &&& (31 : Int32)) <<< ((6 : Int32) &&& 31)))])) _
                  refine XS.bipush X5.here hx rfl (hb hby at_243) ?_
                  show Steps p.tables e below (T5.setTop (mkF m 245 #[.val (.int p1), .val (.int p2), .val (.int (p2 &&& (2147483647 : Int32))), .val (.int (p1 &&& (3 : Int32))), .val (.int (f0_l4_90 p1 p2)), .val (.int ((p1 &&& (3 : Int32)) + (1 : Int32))), .val (.int (f1 (f0_l4_90 p1 p2))), .val (.int ((f1 (f0_l4_90 p1 p2)) &&& (255 : Int32))), .val (.int (f0_v131 p1 p2)), .val (.int (f0_v142 p1 p2)), .val (.int (f0_v153 p1 p2))] [(.int (63 : Int32)), (.int (f0_v131 p1 p2)), (.int ((((f1 (f0_l4_90 p1 p2)) &&& (255 : Int32)) &&& (31 : Int32)) <<< ((6 : Int32) &&& 31)))])) _
                  refine XS.iand X5.here hx rfl (hb hby at_245) rfl ?_
                  show Steps p.tables e below (T5.setTop (mkF m 246 #[.val (.int p1), .val (.int p2), .val (.int (p2 &&& (2147483647 : Int32))), .val (.int (p1 &&& (3 : Int32))), .val (.int (f0_l4_90 p1 p2)), .val (.int ((p1 &&& (3 : Int32)) + (1 : Int32))), .val (.int (f1 (f0_l4_90 p1 p2))), .val (.int ((f1 (f0_l4_90 p1 p2)) &&& (255 : Int32))), .val (.int (f0_v131 p1 p2)), .val (.int (f0_v142 p1 p2)), .val (.int (f0_v153 p1 p2))] [(.int ((f0_v131 p1 p2) &&& (63 : Int32))), (.int ((((f1 (f0_l4_90 p1 p2)) &&& (255 : Int32)) &&& (31 : Int32)) <<< ((6 : Int32) &&& 31)))])) _
                  refine XS.ior X5.here hx rfl (hb hby at_246) rfl ?_
                  show Steps p.tables e below (T5.setTop (mkF m 247 #[.val (.int p1), .val (.int p2), .val (.int (p2 &&& (2147483647 : Int32))), .val (.int (p1 &&& (3 : Int32))), .val (.int (f0_l4_90 p1 p2)), .val (.int ((p1 &&& (3 : Int32)) + (1 : Int32))), .val (.int (f1 (f0_l4_90 p1 p2))), .val (.int ((f1 (f0_l4_90 p1 p2)) &&& (255 : Int32))), .val (.int (f0_v131 p1 p2)), .val (.int (f0_v142 p1 p2)), .val (.int (f0_v153 p1 p2))] [(.int (((((f1 (f0_l4_90 p1 p2)) &&& (255 : Int32)) &&& (31 : Int32)) <<< ((6 : Int32) &&& 31)) ||| ((f0_v131 p1 p2) &&& (63 : Int32))))])) _
                  refine XS.iload X5.here hx rfl (hb hby at_247) rfl ?_
                  exact k
                by_cases hc249 : (((((f1 (f0_l4_90 p1 p2)) &&& (255 : Int32)) &&& (31 : Int32)) <<< ((6 : Int32) &&& 31)) ||| ((f0_v131 p1 p2) &&& (63 : Int32))) = (f0_l4_90 p1 p2)
                · have eq33 : (f0 p1 p2) = (1 : Int32) := by unfold f0; simp only [if_pos hc109, if_neg hc158, if_pos hc200, if_pos hc212, if_neg hc220, if_pos hc225, if_pos hc230, if_pos hc249]
                  obtain ⟨fs, hr, hrun, hended, hW, hsame⟩ := X5.leave (v := some (.int (1 : Int32))) (fun h => by rw [Bd.returns] at h; cases h)
                  refine ⟨_, _, pre32 _ ?_, hrun, hended, _, _, rfl, ?_, ⟨_, rfl⟩, hW, hsame.mono (by decide) (by decide)⟩
                  · show Steps p.tables e below (T5.setTop (mkF m 249 #[.val (.int p1), .val (.int p2), .val (.int (p2 &&& (2147483647 : Int32))), .val (.int (p1 &&& (3 : Int32))), .val (.int (f0_l4_90 p1 p2)), .val (.int ((p1 &&& (3 : Int32)) + (1 : Int32))), .val (.int (f1 (f0_l4_90 p1 p2))), .val (.int ((f1 (f0_l4_90 p1 p2)) &&& (255 : Int32))), .val (.int (f0_v131 p1 p2)), .val (.int (f0_v142 p1 p2)), .val (.int (f0_v153 p1 p2))] [(.int (f0_l4_90 p1 p2)), (.int (((((f1 (f0_l4_90 p1 p2)) &&& (255 : Int32)) &&& (31 : Int32)) <<< ((6 : Int32) &&& 31)) ||| ((f0_v131 p1 p2) &&& (63 : Int32))))])) _
                    refine XS.icmpNo X5.here hx rfl (hb hby at_249) rfl (teq hc249).2 ?_
                    show Steps p.tables e below (T5.setTop (mkF m 252 #[.val (.int p1), .val (.int p2), .val (.int (p2 &&& (2147483647 : Int32))), .val (.int (p1 &&& (3 : Int32))), .val (.int (f0_l4_90 p1 p2)), .val (.int ((p1 &&& (3 : Int32)) + (1 : Int32))), .val (.int (f1 (f0_l4_90 p1 p2))), .val (.int ((f1 (f0_l4_90 p1 p2)) &&& (255 : Int32))), .val (.int (f0_v131 p1 p2)), .val (.int (f0_v142 p1 p2)), .val (.int (f0_v153 p1 p2))] [])) _
                    refine XS.iconst X5.here hx rfl (hb hby at_252) ?_
                    show Steps p.tables e below (T5.setTop (mkF m 253 #[.val (.int p1), .val (.int p2), .val (.int (p2 &&& (2147483647 : Int32))), .val (.int (p1 &&& (3 : Int32))), .val (.int (f0_l4_90 p1 p2)), .val (.int ((p1 &&& (3 : Int32)) + (1 : Int32))), .val (.int (f1 (f0_l4_90 p1 p2))), .val (.int ((f1 (f0_l4_90 p1 p2)) &&& (255 : Int32))), .val (.int (f0_v131 p1 p2)), .val (.int (f0_v142 p1 p2)), .val (.int (f0_v153 p1 p2))] [(.int (1 : Int32))])) _
                    refine XS.goto X5.here hx rfl (pc0 := 253) (pc' := 257) rfl (hb hby at_253) (by decide) (by decide) ?_
                    show Steps p.tables e below (T5.setTop (mkF m 257 #[.val (.int p1), .val (.int p2), .val (.int (p2 &&& (2147483647 : Int32))), .val (.int (p1 &&& (3 : Int32))), .val (.int (f0_l4_90 p1 p2)), .val (.int ((p1 &&& (3 : Int32)) + (1 : Int32))), .val (.int (f1 (f0_l4_90 p1 p2))), .val (.int ((f1 (f0_l4_90 p1 p2)) &&& (255 : Int32))), .val (.int (f0_v131 p1 p2)), .val (.int (f0_v142 p1 p2)), .val (.int (f0_v153 p1 p2))] [(.int (1 : Int32))])) _
                    exact retN X5 hx (t := .boolean) Bd.returns (by simp) (hb hby at_257) hr
                  · show Q0 Z p1 p2 h0 n0 _ T5.heap _
                    rw [e5]
                    exact ⟨by rw [eq33], N5, trivial⟩
                · have eq34 : (f0 p1 p2) = (0 : Int32) := by unfold f0; simp only [if_pos hc109, if_neg hc158, if_pos hc200, if_pos hc212, if_neg hc220, if_pos hc225, if_pos hc230, if_neg hc249]
                  obtain ⟨fs, hr, hrun, hended, hW, hsame⟩ := X5.leave (v := some (.int (0 : Int32))) (fun h => by rw [Bd.returns] at h; cases h)
                  refine ⟨_, _, pre32 _ ?_, hrun, hended, _, _, rfl, ?_, ⟨_, rfl⟩, hW, hsame.mono (by decide) (by decide)⟩
                  · show Steps p.tables e below (T5.setTop (mkF m 249 #[.val (.int p1), .val (.int p2), .val (.int (p2 &&& (2147483647 : Int32))), .val (.int (p1 &&& (3 : Int32))), .val (.int (f0_l4_90 p1 p2)), .val (.int ((p1 &&& (3 : Int32)) + (1 : Int32))), .val (.int (f1 (f0_l4_90 p1 p2))), .val (.int ((f1 (f0_l4_90 p1 p2)) &&& (255 : Int32))), .val (.int (f0_v131 p1 p2)), .val (.int (f0_v142 p1 p2)), .val (.int (f0_v153 p1 p2))] [(.int (f0_l4_90 p1 p2)), (.int (((((f1 (f0_l4_90 p1 p2)) &&& (255 : Int32)) &&& (31 : Int32)) <<< ((6 : Int32) &&& 31)) ||| ((f0_v131 p1 p2) &&& (63 : Int32))))])) _
                    refine XS.icmpYes X5.here hx rfl (pc0 := 249) (pc' := 256) rfl (hb hby at_249) rfl (feq hc249).2 (by decide) (by decide) ?_
                    show Steps p.tables e below (T5.setTop (mkF m 256 #[.val (.int p1), .val (.int p2), .val (.int (p2 &&& (2147483647 : Int32))), .val (.int (p1 &&& (3 : Int32))), .val (.int (f0_l4_90 p1 p2)), .val (.int ((p1 &&& (3 : Int32)) + (1 : Int32))), .val (.int (f1 (f0_l4_90 p1 p2))), .val (.int ((f1 (f0_l4_90 p1 p2)) &&& (255 : Int32))), .val (.int (f0_v131 p1 p2)), .val (.int (f0_v142 p1 p2)), .val (.int (f0_v153 p1 p2))] [])) _
                    refine XS.iconst X5.here hx rfl (hb hby at_256) ?_
                    show Steps p.tables e below (T5.setTop (mkF m 257 #[.val (.int p1), .val (.int p2), .val (.int (p2 &&& (2147483647 : Int32))), .val (.int (p1 &&& (3 : Int32))), .val (.int (f0_l4_90 p1 p2)), .val (.int ((p1 &&& (3 : Int32)) + (1 : Int32))), .val (.int (f1 (f0_l4_90 p1 p2))), .val (.int ((f1 (f0_l4_90 p1 p2)) &&& (255 : Int32))), .val (.int (f0_v131 p1 p2)), .val (.int (f0_v142 p1 p2)), .val (.int (f0_v153 p1 p2))] [(.int (0 : Int32))])) _
                    exact retN X5 hx (t := .boolean) Bd.returns (by simp) (hb hby at_257) hr
                  · show Q0 Z p1 p2 h0 n0 _ T5.heap _
                    rw [e5]
                    exact ⟨by rw [eq34], N5, trivial⟩
              · have eq35 : (f0 p1 p2) = (0 : Int32) := by unfold f0; simp only [if_pos hc109, if_neg hc158, if_pos hc200, if_pos hc212, if_neg hc220, if_pos hc225, if_neg hc230]
                obtain ⟨fs, hr, hrun, hended, hW, hsame⟩ := X5.leave (v := some (.int (0 : Int32))) (fun h => by rw [Bd.returns] at h; cases h)
                refine ⟨_, _, pre31 _ ?_, hrun, hended, _, _, rfl, ?_, ⟨_, rfl⟩, hW, hsame.mono (by decide) (by decide)⟩
                · show Steps p.tables e below (T5.setTop (mkF m 230 #[.val (.int p1), .val (.int p2), .val (.int (p2 &&& (2147483647 : Int32))), .val (.int (p1 &&& (3 : Int32))), .val (.int (f0_l4_90 p1 p2)), .val (.int ((p1 &&& (3 : Int32)) + (1 : Int32))), .val (.int (f1 (f0_l4_90 p1 p2))), .val (.int ((f1 (f0_l4_90 p1 p2)) &&& (255 : Int32))), .val (.int (f0_v131 p1 p2)), .val (.int (f0_v142 p1 p2)), .val (.int (f0_v153 p1 p2))] [(.int (f0_v153 p1 p2))])) _
                  refine XS.ifYes X5.here hx rfl (pc0 := 230) (pc' := 256) rfl (hb hby at_230) rfl ((if0 _ _).trans (feq hc230).2) (by decide) (by decide) ?_
                  show Steps p.tables e below (T5.setTop (mkF m 256 #[.val (.int p1), .val (.int p2), .val (.int (p2 &&& (2147483647 : Int32))), .val (.int (p1 &&& (3 : Int32))), .val (.int (f0_l4_90 p1 p2)), .val (.int ((p1 &&& (3 : Int32)) + (1 : Int32))), .val (.int (f1 (f0_l4_90 p1 p2))), .val (.int ((f1 (f0_l4_90 p1 p2)) &&& (255 : Int32))), .val (.int (f0_v131 p1 p2)), .val (.int (f0_v142 p1 p2)), .val (.int (f0_v153 p1 p2))] [])) _
                  refine XS.iconst X5.here hx rfl (hb hby at_256) ?_
                  show Steps p.tables e below (T5.setTop (mkF m 257 #[.val (.int p1), .val (.int p2), .val (.int (p2 &&& (2147483647 : Int32))), .val (.int (p1 &&& (3 : Int32))), .val (.int (f0_l4_90 p1 p2)), .val (.int ((p1 &&& (3 : Int32)) + (1 : Int32))), .val (.int (f1 (f0_l4_90 p1 p2))), .val (.int ((f1 (f0_l4_90 p1 p2)) &&& (255 : Int32))), .val (.int (f0_v131 p1 p2)), .val (.int (f0_v142 p1 p2)), .val (.int (f0_v153 p1 p2))] [(.int (0 : Int32))])) _
                  exact retN X5 hx (t := .boolean) Bd.returns (by simp) (hb hby at_257) hr
                · show Q0 Z p1 p2 h0 n0 _ T5.heap _
                  rw [e5]
                  exact ⟨by rw [eq35], N5, trivial⟩
            · have eq36 : (f0 p1 p2) = (0 : Int32) := by unfold f0; simp only [if_pos hc109, if_neg hc158, if_pos hc200, if_pos hc212, if_neg hc220, if_neg hc225]
              obtain ⟨fs, hr, hrun, hended, hW, hsame⟩ := X5.leave (v := some (.int (0 : Int32))) (fun h => by rw [Bd.returns] at h; cases h)
              refine ⟨_, _, pre30 _ ?_, hrun, hended, _, _, rfl, ?_, ⟨_, rfl⟩, hW, hsame.mono (by decide) (by decide)⟩
              · show Steps p.tables e below (T5.setTop (mkF m 225 #[.val (.int p1), .val (.int p2), .val (.int (p2 &&& (2147483647 : Int32))), .val (.int (p1 &&& (3 : Int32))), .val (.int (f0_l4_90 p1 p2)), .val (.int ((p1 &&& (3 : Int32)) + (1 : Int32))), .val (.int (f1 (f0_l4_90 p1 p2))), .val (.int ((f1 (f0_l4_90 p1 p2)) &&& (255 : Int32))), .val (.int (f0_v131 p1 p2)), .val (.int (f0_v142 p1 p2)), .val (.int (f0_v153 p1 p2))] [(.int (f0_v142 p1 p2))])) _
                refine XS.ifYes X5.here hx rfl (pc0 := 225) (pc' := 256) rfl (hb hby at_225) rfl ((if0 _ _).trans (feq hc225).2) (by decide) (by decide) ?_
                show Steps p.tables e below (T5.setTop (mkF m 256 #[.val (.int p1), .val (.int p2), .val (.int (p2 &&& (2147483647 : Int32))), .val (.int (p1 &&& (3 : Int32))), .val (.int (f0_l4_90 p1 p2)), .val (.int ((p1 &&& (3 : Int32)) + (1 : Int32))), .val (.int (f1 (f0_l4_90 p1 p2))), .val (.int ((f1 (f0_l4_90 p1 p2)) &&& (255 : Int32))), .val (.int (f0_v131 p1 p2)), .val (.int (f0_v142 p1 p2)), .val (.int (f0_v153 p1 p2))] [])) _
                refine XS.iconst X5.here hx rfl (hb hby at_256) ?_
                show Steps p.tables e below (T5.setTop (mkF m 257 #[.val (.int p1), .val (.int p2), .val (.int (p2 &&& (2147483647 : Int32))), .val (.int (p1 &&& (3 : Int32))), .val (.int (f0_l4_90 p1 p2)), .val (.int ((p1 &&& (3 : Int32)) + (1 : Int32))), .val (.int (f1 (f0_l4_90 p1 p2))), .val (.int ((f1 (f0_l4_90 p1 p2)) &&& (255 : Int32))), .val (.int (f0_v131 p1 p2)), .val (.int (f0_v142 p1 p2)), .val (.int (f0_v153 p1 p2))] [(.int (0 : Int32))])) _
                exact retN X5 hx (t := .boolean) Bd.returns (by simp) (hb hby at_257) hr
              · show Q0 Z p1 p2 h0 n0 _ T5.heap _
                rw [e5]
                exact ⟨by rw [eq36], N5, trivial⟩
        · have eq37 : (f0 p1 p2) = (0 : Int32) := by unfold f0; simp only [if_pos hc109, if_neg hc158, if_pos hc200, if_neg hc212]
          obtain ⟨fs, hr, hrun, hended, hW, hsame⟩ := X4.leave (v := some (.int (0 : Int32))) (fun h => by rw [Bd.returns] at h; cases h)
          refine ⟨_, _, pre27 _ ?_, hrun, hended, _, _, rfl, ?_, ⟨_, rfl⟩, hW, hsame.mono (by decide) (by decide)⟩
          · show Steps p.tables e below (T4.setTop (mkF m 212 #[.val (.int p1), .val (.int p2), .val (.int (p2 &&& (2147483647 : Int32))), .val (.int (p1 &&& (3 : Int32))), .val (.int (f0_l4_90 p1 p2)), .val (.int ((p1 &&& (3 : Int32)) + (1 : Int32))), .val (.int (f1 (f0_l4_90 p1 p2))), .val (.int ((f1 (f0_l4_90 p1 p2)) &&& (255 : Int32))), .val (.int (f0_v131 p1 p2)), .val (.int (f0_v142 p1 p2)), .val (.int (f0_v153 p1 p2))] [(.int (192 : Int32)), (.int (((f1 (f0_l4_90 p1 p2)) &&& (255 : Int32)) &&& (224 : Int32)))])) _
            refine XS.icmpYes X4.here hx rfl (pc0 := 212) (pc' := 256) rfl (hb hby at_212) rfl (feq hc212).2 (by decide) (by decide) ?_
            show Steps p.tables e below (T4.setTop (mkF m 256 #[.val (.int p1), .val (.int p2), .val (.int (p2 &&& (2147483647 : Int32))), .val (.int (p1 &&& (3 : Int32))), .val (.int (f0_l4_90 p1 p2)), .val (.int ((p1 &&& (3 : Int32)) + (1 : Int32))), .val (.int (f1 (f0_l4_90 p1 p2))), .val (.int ((f1 (f0_l4_90 p1 p2)) &&& (255 : Int32))), .val (.int (f0_v131 p1 p2)), .val (.int (f0_v142 p1 p2)), .val (.int (f0_v153 p1 p2))] [])) _
            refine XS.iconst X4.here hx rfl (hb hby at_256) ?_
            show Steps p.tables e below (T4.setTop (mkF m 257 #[.val (.int p1), .val (.int p2), .val (.int (p2 &&& (2147483647 : Int32))), .val (.int (p1 &&& (3 : Int32))), .val (.int (f0_l4_90 p1 p2)), .val (.int ((p1 &&& (3 : Int32)) + (1 : Int32))), .val (.int (f1 (f0_l4_90 p1 p2))), .val (.int ((f1 (f0_l4_90 p1 p2)) &&& (255 : Int32))), .val (.int (f0_v131 p1 p2)), .val (.int (f0_v142 p1 p2)), .val (.int (f0_v153 p1 p2))] [(.int (0 : Int32))])) _
            exact retN X4 hx (t := .boolean) Bd.returns (by simp) (hb hby at_257) hr
          · show Q0 Z p1 p2 h0 n0 _ T4.heap _
            rw [e4]
            exact ⟨by rw [eq37], N4, trivial⟩
      · have pre38 : ∀ t, Steps p.tables e below (T4.setTop (mkF m 261 #[.val (.int p1), .val (.int p2), .val (.int (p2 &&& (2147483647 : Int32))), .val (.int (p1 &&& (3 : Int32))), .val (.int (f0_l4_90 p1 p2)), .val (.int ((p1 &&& (3 : Int32)) + (1 : Int32))), .val (.int (f1 (f0_l4_90 p1 p2))), .val (.int ((f1 (f0_l4_90 p1 p2)) &&& (255 : Int32))), .val (.int (f0_v131 p1 p2)), .val (.int (f0_v142 p1 p2)), .val (.int (f0_v153 p1 p2))] [(.int (3 : Int32)), (.int ((p1 &&& (3 : Int32)) + (1 : Int32)))])) t → Steps p.tables e below (s₁.setTop (entryFrame m #[(.int p1), (.int p2)] maxLocals)) t := by
          intro t k
          refine pre26 t ?_
          show Steps p.tables e below (T4.setTop (mkF m 200 #[.val (.int p1), .val (.int p2), .val (.int (p2 &&& (2147483647 : Int32))), .val (.int (p1 &&& (3 : Int32))), .val (.int (f0_l4_90 p1 p2)), .val (.int ((p1 &&& (3 : Int32)) + (1 : Int32))), .val (.int (f1 (f0_l4_90 p1 p2))), .val (.int ((f1 (f0_l4_90 p1 p2)) &&& (255 : Int32))), .val (.int (f0_v131 p1 p2)), .val (.int (f0_v142 p1 p2)), .val (.int (f0_v153 p1 p2))] [(.int (2 : Int32)), (.int ((p1 &&& (3 : Int32)) + (1 : Int32)))])) _
          refine XS.icmpYes X4.here hx rfl (pc0 := 200) (pc' := 258) rfl (hb hby at_200) rfl (feq hc200).2 (by decide) (by decide) ?_
          show Steps p.tables e below (T4.setTop (mkF m 258 #[.val (.int p1), .val (.int p2), .val (.int (p2 &&& (2147483647 : Int32))), .val (.int (p1 &&& (3 : Int32))), .val (.int (f0_l4_90 p1 p2)), .val (.int ((p1 &&& (3 : Int32)) + (1 : Int32))), .val (.int (f1 (f0_l4_90 p1 p2))), .val (.int ((f1 (f0_l4_90 p1 p2)) &&& (255 : Int32))), .val (.int (f0_v131 p1 p2)), .val (.int (f0_v142 p1 p2)), .val (.int (f0_v153 p1 p2))] [])) _
          refine XS.iload X4.here hx rfl (hb hby at_258) rfl ?_
          show Steps p.tables e below (T4.setTop (mkF m 260 #[.val (.int p1), .val (.int p2), .val (.int (p2 &&& (2147483647 : Int32))), .val (.int (p1 &&& (3 : Int32))), .val (.int (f0_l4_90 p1 p2)), .val (.int ((p1 &&& (3 : Int32)) + (1 : Int32))), .val (.int (f1 (f0_l4_90 p1 p2))), .val (.int ((f1 (f0_l4_90 p1 p2)) &&& (255 : Int32))), .val (.int (f0_v131 p1 p2)), .val (.int (f0_v142 p1 p2)), .val (.int (f0_v153 p1 p2))] [(.int ((p1 &&& (3 : Int32)) + (1 : Int32)))])) _
          refine XS.iconst X4.here hx rfl (hb hby at_260) ?_
          exact k
        by_cases hc261 : ((p1 &&& (3 : Int32)) + (1 : Int32)) = (3 : Int32)
        · have pre39 : ∀ t, Steps p.tables e below (T4.setTop (mkF m 273 #[.val (.int p1), .val (.int p2), .val (.int (p2 &&& (2147483647 : Int32))), .val (.int (p1 &&& (3 : Int32))), .val (.int (f0_l4_90 p1 p2)), .val (.int ((p1 &&& (3 : Int32)) + (1 : Int32))), .val (.int (f1 (f0_l4_90 p1 p2))), .val (.int ((f1 (f0_l4_90 p1 p2)) &&& (255 : Int32))), .val (.int (f0_v131 p1 p2)), .val (.int (f0_v142 p1 p2)), .val (.int (f0_v153 p1 p2))] [(.int (224 : Int32)), (.int (((f1 (f0_l4_90 p1 p2)) &&& (255 : Int32)) &&& (240 : Int32)))])) t → Steps p.tables e below (s₁.setTop (entryFrame m #[(.int p1), (.int p2)] maxLocals)) t := by
            intro t k
            refine pre38 t ?_
            show Steps p.tables e below (T4.setTop (mkF m 261 #[.val (.int p1), .val (.int p2), .val (.int (p2 &&& (2147483647 : Int32))), .val (.int (p1 &&& (3 : Int32))), .val (.int (f0_l4_90 p1 p2)), .val (.int ((p1 &&& (3 : Int32)) + (1 : Int32))), .val (.int (f1 (f0_l4_90 p1 p2))), .val (.int ((f1 (f0_l4_90 p1 p2)) &&& (255 : Int32))), .val (.int (f0_v131 p1 p2)), .val (.int (f0_v142 p1 p2)), .val (.int (f0_v153 p1 p2))] [(.int (3 : Int32)), (.int ((p1 &&& (3 : Int32)) + (1 : Int32)))])) _
            refine XS.icmpNo X4.here hx rfl (hb hby at_261) rfl (teq hc261).2 ?_
            show Steps p.tables e below (T4.setTop (mkF m 264 #[.val (.int p1), .val (.int p2), .val (.int (p2 &&& (2147483647 : Int32))), .val (.int (p1 &&& (3 : Int32))), .val (.int (f0_l4_90 p1 p2)), .val (.int ((p1 &&& (3 : Int32)) + (1 : Int32))), .val (.int (f1 (f0_l4_90 p1 p2))), .val (.int ((f1 (f0_l4_90 p1 p2)) &&& (255 : Int32))), .val (.int (f0_v131 p1 p2)), .val (.int (f0_v142 p1 p2)), .val (.int (f0_v153 p1 p2))] [])) _
            refine XS.iload X4.here hx rfl (hb hby at_264) rfl ?_
            show Steps p.tables e below (T4.setTop (mkF m 266 #[.val (.int p1), .val (.int p2), .val (.int (p2 &&& (2147483647 : Int32))), .val (.int (p1 &&& (3 : Int32))), .val (.int (f0_l4_90 p1 p2)), .val (.int ((p1 &&& (3 : Int32)) + (1 : Int32))), .val (.int (f1 (f0_l4_90 p1 p2))), .val (.int ((f1 (f0_l4_90 p1 p2)) &&& (255 : Int32))), .val (.int (f0_v131 p1 p2)), .val (.int (f0_v142 p1 p2)), .val (.int (f0_v153 p1 p2))] [(.int ((f1 (f0_l4_90 p1 p2)) &&& (255 : Int32)))])) _
            refine XS.sipush X4.here hx rfl (hb hby at_266) ?_
            show Steps p.tables e below (T4.setTop (mkF m 269 #[.val (.int p1), .val (.int p2), .val (.int (p2 &&& (2147483647 : Int32))), .val (.int (p1 &&& (3 : Int32))), .val (.int (f0_l4_90 p1 p2)), .val (.int ((p1 &&& (3 : Int32)) + (1 : Int32))), .val (.int (f1 (f0_l4_90 p1 p2))), .val (.int ((f1 (f0_l4_90 p1 p2)) &&& (255 : Int32))), .val (.int (f0_v131 p1 p2)), .val (.int (f0_v142 p1 p2)), .val (.int (f0_v153 p1 p2))] [(.int (240 : Int32)), (.int ((f1 (f0_l4_90 p1 p2)) &&& (255 : Int32)))])) _
            refine XS.iand X4.here hx rfl (hb hby at_269) rfl ?_
            show Steps p.tables e below (T4.setTop (mkF m 270 #[.val (.int p1), .val (.int p2), .val (.int (p2 &&& (2147483647 : Int32))), .val (.int (p1 &&& (3 : Int32))), .val (.int (f0_l4_90 p1 p2)), .val (.int ((p1 &&& (3 : Int32)) + (1 : Int32))), .val (.int (f1 (f0_l4_90 p1 p2))), .val (.int ((f1 (f0_l4_90 p1 p2)) &&& (255 : Int32))), .val (.int (f0_v131 p1 p2)), .val (.int (f0_v142 p1 p2)), .val (.int (f0_v153 p1 p2))] [(.int (((f1 (f0_l4_90 p1 p2)) &&& (255 : Int32)) &&& (240 : Int32)))])) _
            refine XS.sipush X4.here hx rfl (hb hby at_270) ?_
            exact k
          by_cases hc273 : (((f1 (f0_l4_90 p1 p2)) &&& (255 : Int32)) &&& (240 : Int32)) = (224 : Int32)
          · obtain ⟨_, _, ⟨T6, L6, k6, n6⟩, -, X6, ⟨Lc6, hQ6, l6, y6, z6⟩, st6⟩ := Jvm.LawKit.callS X4 hx (y := (⟨"com/example/ringward/ringward/Utf8EncodePinLaw", "cont", "(I)Z"⟩ : MethodName)) hown (mvT hZ (hw _ (List.mem_of_getElem? (i := 11) rfl))) (mvT hZ (hw _ (List.mem_of_getElem? (i := 12) rfl))) (mvT hZ (hw _ (List.mem_of_getElem? (i := 13) rfl))) (mvT hZ (hw _ (List.mem_of_getElem? (i := 14) rfl))) (by decide) (backOf (W := 0) (rm3 l Z a0 hw [] (f0_v131 p1 p2) h0 n0 Z0 ) hZ (hw _ (List.mem_of_getElem? (i := 14) rfl)) (hw _ (List.mem_of_getElem? (i := 13) rfl)) (by decide) (by decide)) (g := (mkF m 278 #[.val (.int p1), .val (.int p2), .val (.int (p2 &&& (2147483647 : Int32))), .val (.int (p1 &&& (3 : Int32))), .val (.int (f0_l4_90 p1 p2)), .val (.int ((p1 &&& (3 : Int32)) + (1 : Int32))), .val (.int (f1 (f0_l4_90 p1 p2))), .val (.int ((f1 (f0_l4_90 p1 p2)) &&& (255 : Int32))), .val (.int (f0_v131 p1 p2)), .val (.int (f0_v142 p1 p2)), .val (.int (f0_v153 p1 p2))] [(.int (f0_v131 p1 p2))])) rfl (by rw [hml]; rfl) (argsL := [(.int (f0_v131 p1 p2))]) (rest := []) (lenOf pd_1 rfl) rfl (by show 2 * 0 + _ ≤ _; exact Nat.le_of_eq rfl) (hb hby at_278) (fun _ _ => ⟨rfl, e4, (by decide : 0 + 0 ≤ _), (by decide : 0 + 0 ≤ _)⟩)
            dsimp only [Pt.U, Pt.locs, Pt.cells, Pt.slots] at X6 l6 y6 z6 st6 hQ6
            subst l6 y6 z6
            obtain ⟨rfl, N6q, e6⟩ := hQ6
            have N6 := Fr.app N4 N6q
            have pre40 : ∀ t, Steps p.tables e below (T6.setTop (mkF m 281 #[.val (.int p1), .val (.int p2), .val (.int (p2 &&& (2147483647 : Int32))), .val (.int (p1 &&& (3 : Int32))), .val (.int (f0_l4_90 p1 p2)), .val (.int ((p1 &&& (3 : Int32)) + (1 : Int32))), .val (.int (f1 (f0_l4_90 p1 p2))), .val (.int ((f1 (f0_l4_90 p1 p2)) &&& (255 : Int32))), .val (.int (f0_v131 p1 p2)), .val (.int (f0_v142 p1 p2)), .val (.int (f0_v153 p1 p2))] [(.int (f3 (f0_v131 p1 p2)))])) t → Steps p.tables e below (s₁.setTop (entryFrame m #[(.int p1), (.int p2)] maxLocals)) t := by
              intro t k
              refine pre39 t ?_
              show Steps p.tables e below (T4.setTop (mkF m 273 #[.val (.int p1), .val (.int p2), .val (.int (p2 &&& (2147483647 : Int32))), .val (.int (p1 &&& (3 : Int32))), .val (.int (f0_l4_90 p1 p2)), .val (.int ((p1 &&& (3 : Int32)) + (1 : Int32))), .val (.int (f1 (f0_l4_90 p1 p2))), .val (.int ((f1 (f0_l4_90 p1 p2)) &&& (255 : Int32))), .val (.int (f0_v131 p1 p2)), .val (.int (f0_v142 p1 p2)), .val (.int (f0_v153 p1 p2))] [(.int (224 : Int32)), (.int (((f1 (f0_l4_90 p1 p2)) &&& (255 : Int32)) &&& (240 : Int32)))])) _
              refine XS.icmpNo X4.here hx rfl (hb hby at_273) rfl (teq hc273).2 ?_
              show Steps p.tables e below (T4.setTop (mkF m 276 #[.val (.int p1), .val (.int p2), .val (.int (p2 &&& (2147483647 : Int32))), .val (.int (p1 &&& (3 : Int32))), .val (.int (f0_l4_90 p1 p2)), .val (.int ((p1 &&& (3 : Int32)) + (1 : Int32))), .val (.int (f1 (f0_l4_90 p1 p2))), .val (.int ((f1 (f0_l4_90 p1 p2)) &&& (255 : Int32))), .val (.int (f0_v131 p1 p2)), .val (.int (f0_v142 p1 p2)), .val (.int (f0_v153 p1 p2))] [])) _
              refine XS.iload X4.here hx rfl (hb hby at_276) rfl ?_
              show Steps p.tables e below (T4.setTop (mkF m 278 #[.val (.int p1), .val (.int p2), .val (.int (p2 &&& (2147483647 : Int32))), .val (.int (p1 &&& (3 : Int32))), .val (.int (f0_l4_90 p1 p2)), .val (.int ((p1 &&& (3 : Int32)) + (1 : Int32))), .val (.int (f1 (f0_l4_90 p1 p2))), .val (.int ((f1 (f0_l4_90 p1 p2)) &&& (255 : Int32))), .val (.int (f0_v131 p1 p2)), .val (.int (f0_v142 p1 p2)), .val (.int (f0_v153 p1 p2))] [(.int (f0_v131 p1 p2))])) _
              refine st6 _ ?_
              exact k
            by_cases hc281 : (f3 (f0_v131 p1 p2)) = (0 : Int32)
            · have eq41 : (f0 p1 p2) = (0 : Int32) := by unfold f0; simp only [if_pos hc109, if_neg hc158, if_neg hc200, if_pos hc261, if_pos hc273, if_pos hc281]
              obtain ⟨fs, hr, hrun, hended, hW, hsame⟩ := X6.leave (v := some (.int (0 : Int32))) (fun h => by rw [Bd.returns] at h; cases h)
              refine ⟨_, _, pre40 _ ?_, hrun, hended, _, _, rfl, ?_, ⟨_, rfl⟩, hW, hsame.mono (by decide) (by decide)⟩
              · show Steps p.tables e below (T6.setTop (mkF m 281 #[.val (.int p1), .val (.int p2), .val (.int (p2 &&& (2147483647 : Int32))), .val (.int (p1 &&& (3 : Int32))), .val (.int (f0_l4_90 p1 p2)), .val (.int ((p1 &&& (3 : Int32)) + (1 : Int32))), .val (.int (f1 (f0_l4_90 p1 p2))), .val (.int ((f1 (f0_l4_90 p1 p2)) &&& (255 : Int32))), .val (.int (f0_v131 p1 p2)), .val (.int (f0_v142 p1 p2)), .val (.int (f0_v153 p1 p2))] [(.int (f3 (f0_v131 p1 p2)))])) _
                refine XS.ifYes X6.here hx rfl (pc0 := 281) (pc' := 329) rfl (hb hby at_281) rfl ((if0 _ _).trans (teq hc281).1) (by decide) (by decide) ?_
                show Steps p.tables e below (T6.setTop (mkF m 329 #[.val (.int p1), .val (.int p2), .val (.int (p2 &&& (2147483647 : Int32))), .val (.int (p1 &&& (3 : Int32))), .val (.int (f0_l4_90 p1 p2)), .val (.int ((p1 &&& (3 : Int32)) + (1 : Int32))), .val (.int (f1 (f0_l4_90 p1 p2))), .val (.int ((f1 (f0_l4_90 p1 p2)) &&& (255 : Int32))), .val (.int (f0_v131 p1 p2)), .val (.int (f0_v142 p1 p2)), .val (.int (f0_v153 p1 p2))] [])) _
                refine XS.iconst X6.here hx rfl (hb hby at_329) ?_
                show Steps p.tables e below (T6.setTop (mkF m 330 #[.val (.int p1), .val (.int p2), .val (.int (p2 &&& (2147483647 : Int32))), .val (.int (p1 &&& (3 : Int32))), .val (.int (f0_l4_90 p1 p2)), .val (.int ((p1 &&& (3 : Int32)) + (1 : Int32))), .val (.int (f1 (f0_l4_90 p1 p2))), .val (.int ((f1 (f0_l4_90 p1 p2)) &&& (255 : Int32))), .val (.int (f0_v131 p1 p2)), .val (.int (f0_v142 p1 p2)), .val (.int (f0_v153 p1 p2))] [(.int (0 : Int32))])) _
                exact retN X6 hx (t := .boolean) Bd.returns (by simp) (hb hby at_330) hr
              · show Q0 Z p1 p2 h0 n0 _ T6.heap _
                rw [e6]
                exact ⟨by rw [eq41], N6, trivial⟩
            · obtain ⟨_, _, ⟨T7, L7, k7, n7⟩, -, X7, ⟨Lc7, hQ7, l7, y7, z7⟩, st7⟩ := Jvm.LawKit.callS X6 hx (y := (⟨"com/example/ringward/ringward/Utf8EncodePinLaw", "cont", "(I)Z"⟩ : MethodName)) hown (mvT hZ (hw _ (List.mem_of_getElem? (i := 11) rfl))) (mvT hZ (hw _ (List.mem_of_getElem? (i := 12) rfl))) (mvT hZ (hw _ (List.mem_of_getElem? (i := 13) rfl))) (mvT hZ (hw _ (List.mem_of_getElem? (i := 14) rfl))) (by decide) (backOf (W := 0) (rm3 l Z a0 hw [] (f0_v142 p1 p2) h0 n0 Z0 ) hZ (hw _ (List.mem_of_getElem? (i := 14) rfl)) (hw _ (List.mem_of_getElem? (i := 13) rfl)) (by decide) (by decide)) (g := (mkF m 286 #[.val (.int p1), .val (.int p2), .val (.int (p2 &&& (2147483647 : Int32))), .val (.int (p1 &&& (3 : Int32))), .val (.int (f0_l4_90 p1 p2)), .val (.int ((p1 &&& (3 : Int32)) + (1 : Int32))), .val (.int (f1 (f0_l4_90 p1 p2))), .val (.int ((f1 (f0_l4_90 p1 p2)) &&& (255 : Int32))), .val (.int (f0_v131 p1 p2)), .val (.int (f0_v142 p1 p2)), .val (.int (f0_v153 p1 p2))] [(.int (f0_v142 p1 p2))])) rfl (by rw [hml]; rfl) (argsL := [(.int (f0_v142 p1 p2))]) (rest := []) (lenOf pd_1 rfl) rfl (by show 2 * 0 + _ ≤ _; exact Nat.le_of_eq rfl) (hb hby at_286) (fun _ _ => ⟨rfl, e6, (by decide : 0 + 0 ≤ _), (by decide : 0 + 0 ≤ _)⟩)
              dsimp only [Pt.U, Pt.locs, Pt.cells, Pt.slots] at X7 l7 y7 z7 st7 hQ7
              subst l7 y7 z7
              obtain ⟨rfl, N7q, e7⟩ := hQ7
              have N7 := Fr.app N6 N7q
              have pre42 : ∀ t, Steps p.tables e below (T7.setTop (mkF m 289 #[.val (.int p1), .val (.int p2), .val (.int (p2 &&& (2147483647 : Int32))), .val (.int (p1 &&& (3 : Int32))), .val (.int (f0_l4_90 p1 p2)), .val (.int ((p1 &&& (3 : Int32)) + (1 : Int32))), .val (.int (f1 (f0_l4_90 p1 p2))), .val (.int ((f1 (f0_l4_90 p1 p2)) &&& (255 : Int32))), .val (.int (f0_v131 p1 p2)), .val (.int (f0_v142 p1 p2)), .val (.int (f0_v153 p1 p2))] [(.int (f3 (f0_v142 p1 p2)))])) t → Steps p.tables e below (s₁.setTop (entryFrame m #[(.int p1), (.int p2)] maxLocals)) t := by
                intro t k
                refine pre40 t ?_
                show Steps p.tables e below (T6.setTop (mkF m 281 #[.val (.int p1), .val (.int p2), .val (.int (p2 &&& (2147483647 : Int32))), .val (.int (p1 &&& (3 : Int32))), .val (.int (f0_l4_90 p1 p2)), .val (.int ((p1 &&& (3 : Int32)) + (1 : Int32))), .val (.int (f1 (f0_l4_90 p1 p2))), .val (.int ((f1 (f0_l4_90 p1 p2)) &&& (255 : Int32))), .val (.int (f0_v131 p1 p2)), .val (.int (f0_v142 p1 p2)), .val (.int (f0_v153 p1 p2))] [(.int (f3 (f0_v131 p1 p2)))])) _
                refine XS.ifNo X6.here hx rfl (hb hby at_281) rfl ((if0 _ _).trans (feq hc281).1) ?_
                show Steps p.tables e below (T6.setTop (mkF m 284 #[.val (.int p1), .val (.int p2), .val (.int (p2 &&& (2147483647 : Int32))), .val (.int (p1 &&& (3 : Int32))), .val (.int (f0_l4_90 p1 p2)), .val (.int ((p1 &&& (3 : Int32)) + (1 : Int32))), .val (.int (f1 (f0_l4_90 p1 p2))), .val (.int ((f1 (f0_l4_90 p1 p2)) &&& (255 : Int32))), .val (.int (f0_v131 p1 p2)), .val (.int (f0_v142 p1 p2)), .val (.int (f0_v153 p1 p2))] [])) _
                refine XS.iload X6.here hx rfl (hb hby at_284) rfl ?_
                show Steps p.tables e below (T6.setTop (mkF m 286 #[.val (.int p1), .val (.int p2), .val (.int (p2 &&& (2147483647 : Int32))), .val (.int (p1 &&& (3 : Int32))), .val (.int (f0_l4_90 p1 p2)), .val (.int ((p1 &&& (3 : Int32)) + (1 : Int32))), .val (.int (f1 (f0_l4_90 p1 p2))), .val (.int ((f1 (f0_l4_90 p1 p2)) &&& (255 : Int32))), .val (.int (f0_v131 p1 p2)), .val (.int (f0_v142 p1 p2)), .val (.int (f0_v153 p1 p2))] [(.int (f0_v142 p1 p2))])) _
                refine st7 _ ?_
                exact k
              by_cases hc289 : (f3 (f0_v142 p1 p2)) = (0 : Int32)
              · have eq43 : (f0 p1 p2) = (0 : Int32) := by unfold f0; simp only [if_pos hc109, if_neg hc158, if_neg hc200, if_pos hc261, if_pos hc273, if_neg hc281, if_pos hc289]
                obtain ⟨fs, hr, hrun, hended, hW, hsame⟩ := X7.leave (v := some (.int (0 : Int32))) (fun h => by rw [Bd.returns] at h; cases h)
                refine ⟨_, _, pre42 _ ?_, hrun, hended, _, _, rfl, ?_, ⟨_, rfl⟩, hW, hsame.mono (by decide) (by decide)⟩
                · show Steps p.tables e below (T7.setTop (mkF m 289 #[.val (.int p1), .val (.int p2), .val (.int (p2 &&& (2147483647 : Int32))), .val (.int (p1 &&& (3 : Int32))), .val (.int (f0_l4_90 p1 p2)), .val (.int ((p1 &&& (3 : Int32)) + (1 : Int32))), .val (.int (f1 (f0_l4_90 p1 p2))), .val (.int ((f1 (f0_l4_90 p1 p2)) &&& (255 : Int32))), .val (.int (f0_v131 p1 p2)), .val (.int (f0_v142 p1 p2)), .val (.int (f0_v153 p1 p2))] [(.int (f3 (f0_v142 p1 p2)))])) _
                  refine XS.ifYes X7.here hx rfl (pc0 := 289) (pc' := 329) rfl (hb hby at_289) rfl ((if0 _ _).trans (teq hc289).1) (by decide) (by decide) ?_
                  show Steps p.tables e below (T7.setTop (mkF m 329 #[.val (.int p1), .val (.int p2), .val (.int (p2 &&& (2147483647 : Int32))), .val (.int (p1 &&& (3 : Int32))), .val (.int (f0_l4_90 p1 p2)), .val (.int ((p1 &&& (3 : Int32)) + (1 : Int32))), .val (.int (f1 (f0_l4_90 p1 p2))), .val (.int ((f1 (f0_l4_90 p1 p2)) &&& (255 : Int32))), .val (.int (f0_v131 p1 p2)), .val (.int (f0_v142 p1 p2)), .val (.int (f0_v153 p1 p2))] [])) _
                  refine XS.iconst X7.here hx rfl (hb hby at_329) ?_
                  show Steps p.tables e below (T7.setTop (mkF m 330 #[.val (.int p1), .val (.int p2), .val (.int (p2 &&& (2147483647 : Int32))), .val (.int (p1 &&& (3 : Int32))), .val (.int (f0_l4_90 p1 p2)), .val (.int ((p1 &&& (3 : Int32)) + (1 : Int32))), .val (.int (f1 (f0_l4_90 p1 p2))), .val (.int ((f1 (f0_l4_90 p1 p2)) &&& (255 : Int32))), .val (.int (f0_v131 p1 p2)), .val (.int (f0_v142 p1 p2)), .val (.int (f0_v153 p1 p2))] [(.int (0 : Int32))])) _
                  exact retN X7 hx (t := .boolean) Bd.returns (by simp) (hb hby at_330) hr
                · show Q0 Z p1 p2 h0 n0 _ T7.heap _
                  rw [e7]
                  exact ⟨by rw [eq43], N7, trivial⟩
              · have pre44 : ∀ t, Steps p.tables e below (T7.setTop (mkF m 294 #[.val (.int p1), .val (.int p2), .val (.int (p2 &&& (2147483647 : Int32))), .val (.int (p1 &&& (3 : Int32))), .val (.int (f0_l4_90 p1 p2)), .val (.int ((p1 &&& (3 : Int32)) + (1 : Int32))), .val (.int (f1 (f0_l4_90 p1 p2))), .val (.int ((f1 (f0_l4_90 p1 p2)) &&& (255 : Int32))), .val (.int (f0_v131 p1 p2)), .val (.int (f0_v142 p1 p2)), .val (.int (f0_v153 p1 p2))] [(.int (f0_v153 p1 p2))])) t → Steps p.tables e below (s₁.setTop (entryFrame m #[(.int p1), (.int p2)] maxLocals)) t := by
                  intro t k
                  refine pre42 t ?_
                  show Steps p.tables e below (T7.setTop (mkF m 289 #[.val (.int p1), .val (.int p2), .val (.int (p2 &&& (2147483647 : Int32))), .val (.int (p1 &&& (3 : Int32))), .val (.int (f0_l4_90 p1 p2)), .val (.int ((p1 &&& (3 : Int32)) + (1 : Int32))), .val (.int (f1 (f0_l4_90 p1 p2))), .val (.int ((f1 (f0_l4_90 p1 p2)) &&& (255 : Int32))), .val (.int (f0_v131 p1 p2)), .val (.int (f0_v142 p1 p2)), .val (.int (f0_v153 p1 p2))] [(.int (f3 (f0_v142 p1 p2)))])) _
                  refine XS.ifNo X7.here hx rfl (hb hby at_289) rfl ((if0 _ _).trans (feq hc289).1) ?_
                  show Steps p.tables e below (T7.setTop (mkF m 292 #[.val (.int p1), .val (.int p2), .val (.int (p2 &&& (2147483647 : Int32))), .val (.int (p1 &&& (3 : Int32))), .val (.int (f0_l4_90 p1 p2)), .val (.int ((p1 &&& (3 : Int32)) + (1 : Int32))), .val (.int (f1 (f0_l4_90 p1 p2))), .val (.int ((f1 (f0_l4_90 p1 p2)) &&& (255 : Int32))), .val (.int (f0_v131 p1 p2)), .val (.int (f0_v142 p1 p2)), .val (.int (f0_v153 p1 p2))] [])) _
                  refine XS.iload X7.here hx rfl (hb hby at_292) rfl ?_
                  exact k
                by_cases hc294 : (f0_v153 p1 p2) = (0 : Int32)
                · have pre45 : ∀ t, Steps p.tables e below (T7.setTop (mkF m 322 #[.val (.int p1), .val (.int p2), .val (.int (p2 &&& (2147483647 : Int32))), .val (.int (p1 &&& (3 : Int32))), .val (.int (f0_l4_90 p1 p2)), .val (.int ((p1 &&& (3 : Int32)) + (1 : Int32))), .val (.int (f1 (f0_l4_90 p1 p2))), .val (.int ((f1 (f0_l4_90 p1 p2)) &&& (255 : Int32))), .val (.int (f0_v131 p1 p2)), .val (.int (f0_v142 p1 p2)), .val (.int (f0_v153 p1 p2))] [(.int (f0_l4_90 p1 p2)), (.int ((((((f1 (f0_l4_90 p1 p2)) &&& (255 : Int32)) &&& (15 : Int32)) <<< ((12 : Int32) &&& 31)) ||| (((f0_v131 p1 p2) &&& (63 : Int32)) <<< ((6 : Int32) &&& 31))) ||| ((f0_v142 p1 p2) &&& (63 : Int32))))])) t → Steps p.tables e below (s₁.setTop (entryFrame m #[(.int p1), (.int p2)] maxLocals)) t := by
                    intro t k
                    refine pre44 t ?_
                    show Steps p.tables e below (T7.setTop (mkF m 294 #[.val (.int p1), .val (.int p2), .val (.int (p2 &&& (2147483647 : Int32))), .val (.int (p1 &&& (3 : Int32))), .val (.int (f0_l4_90 p1 p2)), .val (.int ((p1 &&& (3 : Int32)) + (1 : Int32))), .val (.int (f1 (f0_l4_90 p1 p2))), .val (.int ((f1 (f0_l4_90 p1 p2)) &&& (255 : Int32))), .val (.int (f0_v131 p1 p2)), .val (.int (f0_v142 p1 p2)), .val (.int (f0_v153 p1 p2))] [(.int (f0_v153 p1 p2))])) _
                    refine XS.ifNo X7.here hx rfl (hb hby at_294) rfl ((if0 _ _).trans (teq hc294).2) ?_
                    show Steps p.tables e below (T7.setTop (mkF m 297 #[.val (.int p1), .val (.int p2), .val (.int (p2 &&& (2147483647 : Int32))), .val (.int (p1 &&& (3 : Int32))), .val (.int (f0_l4_90 p1 p2)), .val (.int ((p1 &&& (3 : Int32)) + (1 : Int32))), .val (.int (f1 (f0_l4_90 p1 p2))), .val (.int ((f1 (f0_l4_90 p1 p2)) &&& (255 : Int32))), .val (.int (f0_v131 p1 p2)), .val (.int (f0_v142 p1 p2)), .val (.int (f0_v153 p1 p2))] [])) _
                    refine XS.iload X7.here hx rfl (hb hby at_297) rfl ?_
                    show Steps p.tables e below (T7.setTop (mkF m 299 #[.val (.int p1), .val (.int p2), .val (.int (p2 &&& (2147483647 : Int32))), .val (.int (p1 &&& (3 : Int32))), .val (.int (f0_l4_90 p1 p2)), .val (.int ((p1 &&& (3 : Int32)) + (1 : Int32))), .val (.int (f1 (f0_l4_90 p1 p2))), .val (.int ((f1 (f0_l4_90 p1 p2)) &&& (255 : Int32))), .val (.int (f0_v131 p1 p2)), .val (.int (f0_v142 p1 p2)), .val (.int (f0_v153 p1 p2))] [(.int ((f1 (f0_l4_90 p1 p2)) &&& (255 : Int32)))])) _
                    refine XS.bipush X7.here hx rfl (hb hby at_299) ?_
                    show Steps p.tables e below (T7.setTop (mkF m 301 #[.val (.int p1), .val (.int p2), .val (.int (p2 &&& (2147483647 : Int32))), .val (.int (p1 &&& (3 : Int32))), .val (.int (f0_l4_90 p1 p2)), .val (.int ((p1 &&& (3 : Int32)) + (1 : Int32))), .val (.int (f1 (f0_l4_90 p1 p2))), .val (.int ((f1 (f0_l4_90 p1 p2)) &&& (255 : Int32))), .val (.int (f0_v131 p1 p2)), .val (.int (f0_v142 p1 p2)), .val (.int (f0_v153 p1 p2))] [(.int (15 : Int32)), (.int ((f1 (f0_l4_90 p1 p2)) &&& (255 : Int32)))])) _
                    refine XS.iand X7.here hx rfl (hb hby at_301) rfl ?_
                    show Steps p.tables e below (T7.setTop (mkF m 302 #[.val (.int p1), .val (.int p2), .val (.int (p2 &&& (2147483647 : Int32))), .val (.int (p1 &&& (3 : Int32))), .val (.int (f0_l4_90 p1 p2)), .val (.int ((p1 &&& (3 : Int32)) + (1 : Int32))), .val (.int (f1 (f0_l4_90 p1 p2))), .val (.int ((f1 (f0_l4_90 p1 p2)) &&& (255 : Int32))), .val (.int (f0_v131 p1 p2)), .val (.int (f0_v142 p1 p2)), .val (.int (f0_v153 p1 p2))] [(.int (((f1 (f0_l4_90 p1 p2)) &&& (255 : Int32)) &&& (15 : Int32)))])) _
                    refine XS.bipush X7.here hx rfl (hb hby at_302) ?_
                    show Steps p.tables e below (T7.setTop (mkF m 304 #[.val (.int p1), .val (.int p2), .val (.int (p2 &&& (2147483647 : Int32))), .val (.int (p1 &&& (3 : Int32))), .val (.int (f0_l4_90 p1 p2)), .val (.int ((p1 &&& (3 : Int32)) + (1 : Int32))), .val (.int (f1 (f0_l4_90 p1 p2))), .val (.int ((f1 (f0_l4_90 p1 p2)) &&& (255 : Int32))), .val (.int (f0_v131 p1 p2)), .val (.int (f0_v142 p1 p2)), .val (.int (f0_v153 p1 p2))] [(.int (12 : Int32)), (.int (((f1 (f0_l4_90 p1 p2)) &&& (255 : Int32)) &&& (15 : Int32)))])) _
                    refine XS.ishl X7.here hx rfl (hb hby at_304) rfl ?_
                    show Steps p.tables e below (T7.setTop (mkF m 305 #[.val (.int p1), .val (.int p2), .val (.int (p2 &&& (2147483647 : Int32))), .val (.int (p1 &&& (3 : Int32))), .val (.int (f0_l4_90 p1 p2)), .val (.int ((p1 &&& (3 : Int32)) + (1 : Int32))), .val (.int (f1 (f0_l4_90 p1 p2))), .val (.int ((f1 (f0_l4_90 p1 p2)) &&& (255 : Int32))), .val (.int (f0_v131 p1 p2)), .val (.int (f0_v142 p1 p2)), .val (.int (f0_v153 p1 p2))] [(.int ((((f1 (f0_l4_90 p1 p2)) &&& (255 : Int32)) &&& (15 : Int32)) <<< ((12 : Int32) &&& 31)))])) _
                    refine XS.iload X7.here hx rfl (hb hby at_305) rfl ?_
                    show Steps p.tables e below (T7.setTop (mkF m 307 #[.val (.int p1), .val (.int p2), .val (.int (p2 &&& (2147483647 : Int32))), .val (.int (p1 &&& (3 : Int32))), .val (.int (f0_l4_90 p1 p2)), .val (.int ((p1 &&& (3 : Int32)) + (1 : Int32))), .val (.int (f1 (f0_l4_90 p1 p2))), .val (.int ((f1 (f0_l4_90 p1 p2)) &&& (255 : Int32))), .val (.int (f0_v131 p1 p2)), .val (.int (f0_v142 p1 p2)), .val (.int (f0_v153 p1 p2))] [(.int (f0_v131 p1 p2)), (.int ((((f1 (f0_l4_90 p1 p2)) &&& (255 : Int32)) &&& (15 : Int32)) <<< ((12 : Int32) &&& 31)))])) _
                    refine XS.bipush X7.here hx rfl (hb hby at_307) ?_
                    show Steps p.tables e below (T7.setTop (mkF m 309 #[.val (.int p1), .val (.int p2), .val (.int (p2 &&& (2147483647 : Int32))), .val (.int (p1 &&& (3 : Int32))), .val (.int (f0_l4_90 p1 p2)), .val (.int ((p1 &&& (3 : Int32)) + (1 : Int32))), .val (.int (f1 (f0_l4_90 p1 p2))), .val (.int ((f1 (f0_l4_90 p1 p2)) &&& (255 : Int32))), .val (.int (f0_v131 p1 p2)), .val (.int (f0_v142 p1 p2)), .val (.int (f0_v153 p1 p2))] [(.int (63 : Int32)), (.int (f0_v131 p1 p2)), (.int ((((f1 (f0_l4_90 p1 p2)) &&& (255 : Int32)) &&& (15 : Int32)) <<< ((12 : Int32) &&& 31)))])) _
                    refine XS.iand X7.here hx rfl (hb hby at_309) rfl ?_
                    show Steps p.tables e below (T7.setTop (mkF m 310 #[.val (.int p1), .val (.int p2), .val (.int (p2 &&& (2147483647 : Int32))), .val (.int (p1 &&& (3 : Int32))), .val (.int (f0_l4_90 p1 p2)), .val (.int ((p1 &&& (3 : Int32)) + (1 : Int32))), .val (.int (f1 (f0_l4_90 p1 p2))), .val (.int ((f1 (f0_l4_90 p1 p2)) &&& (255 : Int32))), .val (.int (f0_v131 p1 p2)), .val (.int (f0_v142 p1 p2)), .val (.int (f0_v153 p1 p2))] [(.int ((f0_v131 p1 p2) &&& (63 : Int32))), (.int ((((f1 (f0_l4_90 p1 p2)) &&& (255 : Int32)) &&& (15 : Int32)) <<< ((12 : Int32) &&& 31)))])) _
                    refine XS.bipush X7.here hx rfl (hb hby at_310) ?_
                    show Steps p.tables e below (T7.setTop (mkF m 312 #[.val (.int p1), .val (.int p2), .val (.int (p2 &&& (2147483647 : Int32))), .val (.int (p1 &&& (3 : Int32))), .val (.int (f0_l4_90 p1 p2)), .val (.int ((p1 &&& (3 : Int32)) + (1 : Int32))), .val (.int (f1 (f0_l4_90 p1 p2))), .val (.int ((f1 (f0_l4_90 p1 p2)) &&& (255 : Int32))), .val (.int (f0_v131 p1 p2)), .val (.int (f0_v142 p1 p2)), .val (.int (f0_v153 p1 p2))] [(.int (6 : Int32)), (.int ((f0_v131 p1 p2) &&& (63 : Int32))), (.int ((((f1 (f0_l4_90 p1 p2)) &&& (255 : Int32)) &&& (15 : Int32)) <<< ((12 : Int32) &&& 31)))])) _
                    refine XS.ishl X7.here hx rfl (hb hby at_312) rfl ?_
                    show Steps p.tables e below (T7.setTop (mkF m 313 #[.val (.int p1), .val (.int p2), .val (.int (p2 &&& (2147483647 : Int32))), .val (.int (p1 &&& (3 : Int32))), .val (.int (f0_l4_90 p1 p2)), .val (.int ((p1 &&& (3 : Int32)) + (1 : Int32))), .val (.int (f1 (f0_l4_90 p1 p2))), .val (.int ((f1 (f0_l4_90 p1 p2)) &&& (255 : Int32))), .val (.int (f0_v131 p1 p2)), .val (.int (f0_v142 p1 p2)), .val (.int (f0_v153 p1 p2))] [(.int (((f0_v131 p1 p2) &&& (63 : Int32)) <<< ((6 : Int32) &&& 31))), (.int ((((f1 (f0_l4_90 p1 p2)) &&& (255 : Int32)) &&& (15 : Int32)) <<< ((12 : Int32) &&& 31)))])) _
                    refine XS.ior X7.here hx rfl (hb hby at_313) rfl ?_
                    show Steps p.tables e below (T7.setTop (mkF m 314 #[.val (.int p1), .val (.int p2), .val (.int (p2 &&& (2147483647 : Int32))), .val (.int (p1 &&& (3 : Int32))), .val (.int (f0_l4_90 p1 p2)), .val (.int ((p1 &&& (3 : Int32)) + (1 : Int32))), .val (.int (f1 (f0_l4_90 p1 p2))), .val (.int ((f1 (f0_l4_90 p1 p2)) &&& (255 : Int32))), .val (.int (f0_v131 p1 p2)), .val (.int (f0_v142 p1 p2)), .val (.int (f0_v153 p1 p2))] [(.int (((((f1 (f0_l4_90 p1 p2)) &&& (255 : Int32)) &&& (15 : Int32)) <<< ((12 : Int32) &&& 31)) ||| (((f0_v131 p1 p2) &&& (63 : Int32)) <<< ((6 : Int32) &&& 31))))])) _
                    refine XS.iload X7.here hx rfl (hb hby at_314) rfl ?_
                    show Steps p.tables e below (T7.setTop (mkF m 316 #[.val (.int p1), .val (.int p2), .val (.int (p2 &&& (2147483647 : Int32))), .val (.int (p1 &&& (3 : Int32))), .val (.int (f0_l4_90 p1 p2)), .val (.int ((p1 &&& (3 : Int32)) + (1 : Int32))), .val (.int (f1 (f0_l4_90 p1 p2))), .val (.int ((f1 (f0_l4_90 p1 p2)) &&& (255 : Int32))), .val (.int (f0_v131 p1 p2)), .val (.int (f0_v142 p1 p2)), .val (.int (f0_v153 p1 p2))] [(.int (f0_v142 p1 p2)), (.int (((((f1 (f0_l4_90 p1 p2)) &&& (255 : Int32)) &&& (15 : Int32)) <<< ((12 : Int32) &&& 31)) ||| (((f0_v131 p1 p2) &&& (63 : Int32)) <<< ((6 : Int32) &&& 31))))])) _
                    refine XS.bipush X7.here hx rfl (hb hby at_316) ?_
                    show Steps p.tables e below (T7.setTop (mkF m 318 #[.val (.int p1), .val (.int p2), .val (.int (p2 &&& (2147483647 : Int32))), .val (.int (p1 &&& (3 : Int32))), .val (.int (f0_l4_90 p1 p2)), .val (.int ((p1 &&& (3 : Int32)) + (1 : Int32))), .val (.int (f1 (f0_l4_90 p1 p2))), .val (.int ((f1 (f0_l4_90 p1 p2)) &&& (255 : Int32))), .val (.int (f0_v131 p1 p2)), .val (.int (f0_v142 p1 p2)), .val (.int (f0_v153 p1 p2))] [(.int (63 : Int32)), (.int (f0_v142 p1 p2)), (.int (((((f1 (f0_l4_90 p1 p2)) &&& (255 : Int32)) &&& (15 : Int32)) <<< ((12 : Int32) &&& 31)) ||| (((f0_v131 p1 p2) &&& (63 : Int32)) <<< ((6 : Int32) &&& 31))))])) _
                    refine XS.iand X7.here hx rfl (hb hby at_318) rfl ?_
                    show Steps p.tables e below (T7.setTop (mkF m 319 #[.val (.int p1), .val (.int p2), .val (.int (p2 &&& (2147483647 : Int32))), .val (.int (p1 &&& (3 : Int32))), .val (.int (f0_l4_90 p1 p2)), .val (.int ((p1 &&& (3 : Int32)) + (1 : Int32))), .val (.int (f1 (f0_l4_90 p1 p2))), .val (.int ((f1 (f0_l4_90 p1 p2)) &&& (255 : Int32))), .val (.int (f0_v131 p1 p2)), .val (.int (f0_v142 p1 p2)), .val (.int (f0_v153 p1 p2))] [(.int ((f0_v142 p1 p2) &&& (63 : Int32))), (.int (((((f1 (f0_l4_90 p1 p2)) &&& (255 : Int32)) &&& (15 : Int32)) <<< ((12 : Int32) &&& 31)) ||| (((f0_v131 p1 p2) &&& (63 : Int32)) <<< ((6 : Int32) &&& 31))))])) _
                    refine XS.ior X7.here hx rfl (hb hby at_319) rfl ?_
                    show Steps p.tables e below (T7.setTop (mkF m 320 #[.val (.int p1), .val (.int p2), .val (.int (p2 &&& (2147483647 : Int32))), .val (.int (p1 &&& (3 : Int32))), .val (.int (f0_l4_90 p1 p2)), .val (.int ((p1 &&& (3 : Int32)) + (1 : Int32))), .val (.int (f1 (f0_l4_90 p1 p2))), .val (.int ((f1 (f0_l4_90 p1 p2)) &&& (255 : Int32))), .val (.int (f0_v131 p1 p2)), .val (.int (f0_v142 p1 p2)), .val (.int (f0_v153 p1 p2))] [(.int ((((((f1 (f0_l4_90 p1 p2)) &&& (255 : Int32)) &&& (15 : Int32)) <<< ((12 : Int32) &&& 31)) ||| (((f0_v131 p1 p2) &&& (63 : Int32)) <<< ((6 : Int32) &&& 31))) ||| ((f0_v142 p1 p2) &&& (63 : Int32))))])) _
                    refine XS.iload X7.here hx rfl (hb hby at_320) rfl ?_
                    exact k
                  by_cases hc322 : ((((((f1 (f0_l4_90 p1 p2)) &&& (255 : Int32)) &&& (15 : Int32)) <<< ((12 : Int32) &&& 31)) ||| (((f0_v131 p1 p2) &&& (63 : Int32)) <<< ((6 : Int32) &&& 31))) ||| ((f0_v142 p1 p2) &&& (63 : Int32))) = (f0_l4_90 p1 p2)
                  · have eq46 : (f0 p1 p2) = (1 : Int32) := by unfold f0; simp only [if_pos hc109, if_neg hc158, if_neg hc200, if_pos hc261, if_pos hc273, if_neg hc281, if_neg hc289, if_pos hc294, if_pos hc322]
                    obtain ⟨fs, hr, hrun, hended, hW, hsame⟩ := X7.leave (v := some (.int (1 : Int32))) (fun h => by rw [Bd.returns] at h; cases h)
                    refine ⟨_, _, pre45 _ ?_, hrun, hended, _, _, rfl, ?_, ⟨_, rfl⟩, hW, hsame.mono (by decide) (by decide)⟩
                    · show Steps p.tables e below (T7.setTop (mkF m 322 #[.val (.int p1), .val (.int p2), .val (.int (p2 &&& (2147483647 : Int32))), .val (.int (p1 &&& (3 : Int32))), .val (.int (f0_l4_90 p1 p2)), .val (.int ((p1 &&& (3 : Int32)) + (1 : Int32))), .val (.int (f1 (f0_l4_90 p1 p2))), .val (.int ((f1 (f0_l4_90 p1 p2)) &&& (255 : Int32))), .val (.int (f0_v131 p1 p2)), .val (.int (f0_v142 p1 p2)), .val (.int (f0_v153 p1 p2))] [(.int (f0_l4_90 p1 p2)), (.int ((((((f1 (f0_l4_90 p1 p2)) &&& (255 : Int32)) &&& (15 : Int32)) <<< ((12 : Int32) &&& 31)) ||| (((f0_v131 p1 p2) &&& (63 : Int32)) <<< ((6 : Int32) &&& 31))) ||| ((f0_v142 p1 p2) &&& (63 : Int32))))])) _
                      refine XS.icmpNo X7.here hx rfl (hb hby at_322) rfl (teq hc322).2 ?_
                      show Steps p.tables e below (T7.setTop (mkF m 325 #[.val (.int p1), .val (.int p2), .val (.int (p2 &&& (2147483647 : Int32))), .val (.int (p1 &&& (3 : Int32))), .val (.int (f0_l4_90 p1 p2)), .val (.int ((p1 &&& (3 : Int32)) + (1 : Int32))), .val (.int (f1 (f0_l4_90 p1 p2))), .val (.int ((f1 (f0_l4_90 p1 p2)) &&& (255 : Int32))), .val (.int (f0_v131 p1 p2)), .val (.int (f0_v142 p1 p2)), .val (.int (f0_v153 p1 p2))] [])) _
                      refine XS.iconst X7.here hx rfl (hb hby at_325) ?_
                      show Steps p.tables e below (T7.setTop (mkF m 326 #[.val (.int p1), .val (.int p2), .val (.int (p2 &&& (2147483647 : Int32))), .val (.int (p1 &&& (3 : Int32))), .val (.int (f0_l4_90 p1 p2)), .val (.int ((p1 &&& (3 : Int32)) + (1 : Int32))), .val (.int (f1 (f0_l4_90 p1 p2))), .val (.int ((f1 (f0_l4_90 p1 p2)) &&& (255 : Int32))), .val (.int (f0_v131 p1 p2)), .val (.int (f0_v142 p1 p2)), .val (.int (f0_v153 p1 p2))] [(.int (1 : Int32))])) _
                      refine XS.goto X7.here hx rfl (pc0 := 326) (pc' := 330) rfl (hb hby at_326) (by decide) (by decide) ?_
                      show Steps p.tables e below (T7.setTop (mkF m 330 #[.val (.int p1), .val (.int p2), .val (.int (p2 &&& (2147483647 : Int32))), .val (.int (p1 &&& (3 : Int32))), .val (.int (f0_l4_90 p1 p2)), .val (.int ((p1 &&& (3 : Int32)) + (1 : Int32))), .val (.int (f1 (f0_l4_90 p1 p2))), .val (.int ((f1 (f0_l4_90 p1 p2)) &&& (255 : Int32))), .val (.int (f0_v131 p1 p2)), .val (.int (f0_v142 p1 p2)), .val (.int (f0_v153 p1 p2))] [(.int (1 : Int32))])) _
                      exact retN X7 hx (t := .boolean) Bd.returns (by simp) (hb hby at_330) hr
                    · show Q0 Z p1 p2 h0 n0 _ T7.heap _
                      rw [e7]
                      exact ⟨by rw [eq46], N7, trivial⟩
                  · have eq47 : (f0 p1 p2) = (0 : Int32) := by unfold f0; simp only [if_pos hc109, if_neg hc158, if_neg hc200, if_pos hc261, if_pos hc273, if_neg hc281, if_neg hc289, if_pos hc294, if_neg hc322]
                    obtain ⟨fs, hr, hrun, hended, hW, hsame⟩ := X7.leave (v := some (.int (0 : Int32))) (fun h => by rw [Bd.returns] at h; cases h)
                    refine ⟨_, _, pre45 _ ?_, hrun, hended, _, _, rfl, ?_, ⟨_, rfl⟩, hW, hsame.mono (by decide) (by decide)⟩
                    · show Steps p.tables e below (T7.setTop (mkF m 322 #[.val (.int p1), .val (.int p2), .val (.int (p2 &&& (2147483647 : Int32))), .val (.int (p1 &&& (3 : Int32))), .val (.int (f0_l4_90 p1 p2)), .val (.int ((p1 &&& (3 : Int32)) + (1 : Int32))), .val (.int (f1 (f0_l4_90 p1 p2))), .val (.int ((f1 (f0_l4_90 p1 p2)) &&& (255 : Int32))), .val (.int (f0_v131 p1 p2)), .val (.int (f0_v142 p1 p2)), .val (.int (f0_v153 p1 p2))] [(.int (f0_l4_90 p1 p2)), (.int ((((((f1 (f0_l4_90 p1 p2)) &&& (255 : Int32)) &&& (15 : Int32)) <<< ((12 : Int32) &&& 31)) ||| (((f0_v131 p1 p2) &&& (63 : Int32)) <<< ((6 : Int32) &&& 31))) ||| ((f0_v142 p1 p2) &&& (63 : Int32))))])) _
                      refine XS.icmpYes X7.here hx rfl (pc0 := 322) (pc' := 329) rfl (hb hby at_322) rfl (feq hc322).2 (by decide) (by decide) ?_
                      show Steps p.tables e below (T7.setTop (mkF m 329 #[.val (.int p1), .val (.int p2), .val (.int (p2 &&& (2147483647 : Int32))), .val (.int (p1 &&& (3 : Int32))), .val (.int (f0_l4_90 p1 p2)), .val (.int ((p1 &&& (3 : Int32)) + (1 : Int32))), .val (.int (f1 (f0_l4_90 p1 p2))), .val (.int ((f1 (f0_l4_90 p1 p2)) &&& (255 : Int32))), .val (.int (f0_v131 p1 p2)), .val (.int (f0_v142 p1 p2)), .val (.int (f0_v153 p1 p2))] [])) _
                      refine XS.iconst X7.here hx rfl (hb hby at_329) ?_
                      show Steps p.tables e below (T7.setTop (mkF m 330 #[.val (.int p1), .val (.int p2), .val (.int (p2 &&& (2147483647 : Int32))), .val (.int (p1 &&& (3 : Int32))), .val (.int (f0_l4_90 p1 p2)), .val (.int ((p1 &&& (3 : Int32)) + (1 : Int32))), .val (.int (f1 (f0_l4_90 p1 p2))), .val (.int ((f1 (f0_l4_90 p1 p2)) &&& (255 : Int32))), .val (.int (f0_v131 p1 p2)), .val (.int (f0_v142 p1 p2)), .val (.int (f0_v153 p1 p2))] [(.int (0 : Int32))])) _
                      exact retN X7 hx (t := .boolean) Bd.returns (by simp) (hb hby at_330) hr
                    · show Q0 Z p1 p2 h0 n0 _ T7.heap _
                      rw [e7]
                      exact ⟨by rw [eq47], N7, trivial⟩
                · have eq48 : (f0 p1 p2) = (0 : Int32) := by unfold f0; simp only [if_pos hc109, if_neg hc158, if_neg hc200, if_pos hc261, if_pos hc273, if_neg hc281, if_neg hc289, if_neg hc294]
                  obtain ⟨fs, hr, hrun, hended, hW, hsame⟩ := X7.leave (v := some (.int (0 : Int32))) (fun h => by rw [Bd.returns] at h; cases h)
                  refine ⟨_, _, pre44 _ ?_, hrun, hended, _, _, rfl, ?_, ⟨_, rfl⟩, hW, hsame.mono (by decide) (by decide)⟩
                  · show Steps p.tables e below (T7.setTop (mkF m 294 #[.val (.int p1), .val (.int p2), .val (.int (p2 &&& (2147483647 : Int32))), .val (.int (p1 &&& (3 : Int32))), .val (.int (f0_l4_90 p1 p2)), .val (.int ((p1 &&& (3 : Int32)) + (1 : Int32))), .val (.int (f1 (f0_l4_90 p1 p2))), .val (.int ((f1 (f0_l4_90 p1 p2)) &&& (255 : Int32))), .val (.int (f0_v131 p1 p2)), .val (.int (f0_v142 p1 p2)), .val (.int (f0_v153 p1 p2))] [(.int (f0_v153 p1 p2))])) _
                    refine XS.ifYes X7.here hx rfl (pc0 := 294) (pc' := 329) rfl (hb hby at_294) rfl ((if0 _ _).trans (feq hc294).2) (by decide) (by decide) ?_
                    show Steps p.tables e below (T7.setTop (mkF m 329 #[.val (.int p1), .val (.int p2), .val (.int (p2 &&& (2147483647 : Int32))), .val (.int (p1 &&& (3 : Int32))), .val (.int (f0_l4_90 p1 p2)), .val (.int ((p1 &&& (3 : Int32)) + (1 : Int32))), .val (.int (f1 (f0_l4_90 p1 p2))), .val (.int ((f1 (f0_l4_90 p1 p2)) &&& (255 : Int32))), .val (.int (f0_v131 p1 p2)), .val (.int (f0_v142 p1 p2)), .val (.int (f0_v153 p1 p2))] [])) _
                    refine XS.iconst X7.here hx rfl (hb hby at_329) ?_
                    show Steps p.tables e below (T7.setTop (mkF m 330 #[.val (.int p1), .val (.int p2), .val (.int (p2 &&& (2147483647 : Int32))), .val (.int (p1 &&& (3 : Int32))), .val (.int (f0_l4_90 p1 p2)), .val (.int ((p1 &&& (3 : Int32)) + (1 : Int32))), .val (.int (f1 (f0_l4_90 p1 p2))), .val (.int ((f1 (f0_l4_90 p1 p2)) &&& (255 : Int32))), .val (.int (f0_v131 p1 p2)), .val (.int (f0_v142 p1 p2)), .val (.int (f0_v153 p1 p2))] [(.int (0 : Int32))])) _
                    exact retN X7 hx (t := .boolean) Bd.returns (by simp) (hb hby at_330) hr
                  · show Q0 Z p1 p2 h0 n0 _ T7.heap _
                    rw [e7]
                    exact ⟨by rw [eq48], N7, trivial⟩
          · have eq49 : (f0 p1 p2) = (0 : Int32) := by unfold f0; simp only [if_pos hc109, if_neg hc158, if_neg hc200, if_pos hc261, if_neg hc273]
            obtain ⟨fs, hr, hrun, hended, hW, hsame⟩ := X4.leave (v := some (.int (0 : Int32))) (fun h => by rw [Bd.returns] at h; cases h)
            refine ⟨_, _, pre39 _ ?_, hrun, hended, _, _, rfl, ?_, ⟨_, rfl⟩, hW, hsame.mono (by decide) (by decide)⟩
            · show Steps p.tables e below (T4.setTop (mkF m 273 #[.val (.int p1), .val (.int p2), .val (.int (p2 &&& (2147483647 : Int32))), .val (.int (p1 &&& (3 : Int32))), .val (.int (f0_l4_90 p1 p2)), .val (.int ((p1 &&& (3 : Int32)) + (1 : Int32))), .val (.int (f1 (f0_l4_90 p1 p2))), .val (.int ((f1 (f0_l4_90 p1 p2)) &&& (255 : Int32))), .val (.int (f0_v131 p1 p2)), .val (.int (f0_v142 p1 p2)), .val (.int (f0_v153 p1 p2))] [(.int (224 : Int32)), (.int (((f1 (f0_l4_90 p1 p2)) &&& (255 : Int32)) &&& (240 : Int32)))])) _
              refine XS.icmpYes X4.here hx rfl (pc0 := 273) (pc' := 329) rfl (hb hby at_273) rfl (feq hc273).2 (by decide) (by decide) ?_
              show Steps p.tables e below (T4.setTop (mkF m 329 #[.val (.int p1), .val (.int p2), .val (.int (p2 &&& (2147483647 : Int32))), .val (.int (p1 &&& (3 : Int32))), .val (.int (f0_l4_90 p1 p2)), .val (.int ((p1 &&& (3 : Int32)) + (1 : Int32))), .val (.int (f1 (f0_l4_90 p1 p2))), .val (.int ((f1 (f0_l4_90 p1 p2)) &&& (255 : Int32))), .val (.int (f0_v131 p1 p2)), .val (.int (f0_v142 p1 p2)), .val (.int (f0_v153 p1 p2))] [])) _
              refine XS.iconst X4.here hx rfl (hb hby at_329) ?_
              show Steps p.tables e below (T4.setTop (mkF m 330 #[.val (.int p1), .val (.int p2), .val (.int (p2 &&& (2147483647 : Int32))), .val (.int (p1 &&& (3 : Int32))), .val (.int (f0_l4_90 p1 p2)), .val (.int ((p1 &&& (3 : Int32)) + (1 : Int32))), .val (.int (f1 (f0_l4_90 p1 p2))), .val (.int ((f1 (f0_l4_90 p1 p2)) &&& (255 : Int32))), .val (.int (f0_v131 p1 p2)), .val (.int (f0_v142 p1 p2)), .val (.int (f0_v153 p1 p2))] [(.int (0 : Int32))])) _
              exact retN X4 hx (t := .boolean) Bd.returns (by simp) (hb hby at_330) hr
            · show Q0 Z p1 p2 h0 n0 _ T4.heap _
              rw [e4]
              exact ⟨by rw [eq49], N4, trivial⟩
        · have pre50 : ∀ t, Steps p.tables e below (T4.setTop (mkF m 340 #[.val (.int p1), .val (.int p2), .val (.int (p2 &&& (2147483647 : Int32))), .val (.int (p1 &&& (3 : Int32))), .val (.int (f0_l4_90 p1 p2)), .val (.int ((p1 &&& (3 : Int32)) + (1 : Int32))), .val (.int (f1 (f0_l4_90 p1 p2))), .val (.int ((f1 (f0_l4_90 p1 p2)) &&& (255 : Int32))), .val (.int (f0_v131 p1 p2)), .val (.int (f0_v142 p1 p2)), .val (.int (f0_v153 p1 p2))] [(.int (240 : Int32)), (.int (((f1 (f0_l4_90 p1 p2)) &&& (255 : Int32)) &&& (248 : Int32)))])) t → Steps p.tables e below (s₁.setTop (entryFrame m #[(.int p1), (.int p2)] maxLocals)) t := by
            intro t k
            refine pre38 t ?_
            show Steps p.tables e below (T4.setTop (mkF m 261 #[.val (.int p1), .val (.int p2), .val (.int (p2 &&& (2147483647 : Int32))), .val (.int (p1 &&& (3 : Int32))), .val (.int (f0_l4_90 p1 p2)), .val (.int ((p1 &&& (3 : Int32)) + (1 : Int32))), .val (.int (f1 (f0_l4_90 p1 p2))), .val (.int ((f1 (f0_l4_90 p1 p2)) &&& (255 : Int32))), .val (.int (f0_v131 p1 p2)), .val (.int (f0_v142 p1 p2)), .val (.int (f0_v153 p1 p2))] [(.int (3 : Int32)), (.int ((p1 &&& (3 : Int32)) + (1 : Int32)))])) _
            refine XS.icmpYes X4.here hx rfl (pc0 := 261) (pc' := 331) rfl (hb hby at_261) rfl (feq hc261).2 (by decide) (by decide) ?_
            show Steps p.tables e below (T4.setTop (mkF m 331 #[.val (.int p1), .val (.int p2), .val (.int (p2 &&& (2147483647 : Int32))), .val (.int (p1 &&& (3 : Int32))), .val (.int (f0_l4_90 p1 p2)), .val (.int ((p1 &&& (3 : Int32)) + (1 : Int32))), .val (.int (f1 (f0_l4_90 p1 p2))), .val (.int ((f1 (f0_l4_90 p1 p2)) &&& (255 : Int32))), .val (.int (f0_v131 p1 p2)), .val (.int (f0_v142 p1 p2)), .val (.int (f0_v153 p1 p2))] [])) _
            refine XS.iload X4.here hx rfl (hb hby at_331) rfl ?_
            show Steps p.tables e below (T4.setTop (mkF m 333 #[.val (.int p1), .val (.int p2), .val (.int (p2 &&& (2147483647 : Int32))), .val (.int (p1 &&& (3 : Int32))), .val (.int (f0_l4_90 p1 p2)), .val (.int ((p1 &&& (3 : Int32)) + (1 : Int32))), .val (.int (f1 (f0_l4_90 p1 p2))), .val (.int ((f1 (f0_l4_90 p1 p2)) &&& (255 : Int32))), .val (.int (f0_v131 p1 p2)), .val (.int (f0_v142 p1 p2)), .val (.int (f0_v153 p1 p2))] [(.int ((f1 (f0_l4_90 p1 p2)) &&& (255 : Int32)))])) _
            refine XS.sipush X4.here hx rfl (hb hby at_333) ?_
            show Steps p.tables e below (T4.setTop (mkF m 336 #[.val (.int p1), .val (.int p2), .val (.int (p2 &&& (2147483647 : Int32))), .val (.int (p1 &&& (3 : Int32))), .val (.int (f0_l4_90 p1 p2)), .val (.int ((p1 &&& (3 : Int32)) + (1 : Int32))), .val (.int (f1 (f0_l4_90 p1 p2))), .val (.int ((f1 (f0_l4_90 p1 p2)) &&& (255 : Int32))), .val (.int (f0_v131 p1 p2)), .val (.int (f0_v142 p1 p2)), .val (.int (f0_v153 p1 p2))] [(.int (248 : Int32)), (.int ((f1 (f0_l4_90 p1 p2)) &&& (255 : Int32)))])) _
            refine XS.iand X4.here hx rfl (hb hby at_336) rfl ?_
            show Steps p.tables e below (T4.setTop (mkF m 337 #[.val (.int p1), .val (.int p2), .val (.int (p2 &&& (2147483647 : Int32))), .val (.int (p1 &&& (3 : Int32))), .val (.int (f0_l4_90 p1 p2)), .val (.int ((p1 &&& (3 : Int32)) + (1 : Int32))), .val (.int (f1 (f0_l4_90 p1 p2))), .val (.int ((f1 (f0_l4_90 p1 p2)) &&& (255 : Int32))), .val (.int (f0_v131 p1 p2)), .val (.int (f0_v142 p1 p2)), .val (.int (f0_v153 p1 p2))] [(.int (((f1 (f0_l4_90 p1 p2)) &&& (255 : Int32)) &&& (248 : Int32)))])) _
            refine XS.sipush X4.here hx rfl (hb hby at_337) ?_
            exact k
          by_cases hc340 : (((f1 (f0_l4_90 p1 p2)) &&& (255 : Int32)) &&& (248 : Int32)) = (240 : Int32)
          · obtain ⟨_, _, ⟨T8, L8, k8, n8⟩, -, X8, ⟨Lc8, hQ8, l8, y8, z8⟩, st8⟩ := Jvm.LawKit.callS X4 hx (y := (⟨"com/example/ringward/ringward/Utf8EncodePinLaw", "cont", "(I)Z"⟩ : MethodName)) hown (mvT hZ (hw _ (List.mem_of_getElem? (i := 11) rfl))) (mvT hZ (hw _ (List.mem_of_getElem? (i := 12) rfl))) (mvT hZ (hw _ (List.mem_of_getElem? (i := 13) rfl))) (mvT hZ (hw _ (List.mem_of_getElem? (i := 14) rfl))) (by decide) (backOf (W := 0) (rm3 l Z a0 hw [] (f0_v131 p1 p2) h0 n0 Z0 ) hZ (hw _ (List.mem_of_getElem? (i := 14) rfl)) (hw _ (List.mem_of_getElem? (i := 13) rfl)) (by decide) (by decide)) (g := (mkF m 345 #[.val (.int p1), .val (.int p2), .val (.int (p2 &&& (2147483647 : Int32))), .val (.int (p1 &&& (3 : Int32))), .val (.int (f0_l4_90 p1 p2)), .val (.int ((p1 &&& (3 : Int32)) + (1 : Int32))), .val (.int (f1 (f0_l4_90 p1 p2))), .val (.int ((f1 (f0_l4_90 p1 p2)) &&& (255 : Int32))), .val (.int (f0_v131 p1 p2)), .val (.int (f0_v142 p1 p2)), .val (.int (f0_v153 p1 p2))] [(.int (f0_v131 p1 p2))])) rfl (by rw [hml]; rfl) (argsL := [(.int (f0_v131 p1 p2))]) (rest := []) (lenOf pd_1 rfl) rfl (by show 2 * 0 + _ ≤ _; exact Nat.le_of_eq rfl) (hb hby at_345) (fun _ _ => ⟨rfl, e4, (by decide : 0 + 0 ≤ _), (by decide : 0 + 0 ≤ _)⟩)
            dsimp only [Pt.U, Pt.locs, Pt.cells, Pt.slots] at X8 l8 y8 z8 st8 hQ8
            subst l8 y8 z8
            obtain ⟨rfl, N8q, e8⟩ := hQ8
            have N8 := Fr.app N4 N8q
            have pre51 : ∀ t, Steps p.tables e below (T8.setTop (mkF m 348 #[.val (.int p1), .val (.int p2), .val (.int (p2 &&& (2147483647 : Int32))), .val (.int (p1 &&& (3 : Int32))), .val (.int (f0_l4_90 p1 p2)), .val (.int ((p1 &&& (3 : Int32)) + (1 : Int32))), .val (.int (f1 (f0_l4_90 p1 p2))), .val (.int ((f1 (f0_l4_90 p1 p2)) &&& (255 : Int32))), .val (.int (f0_v131 p1 p2)), .val (.int (f0_v142 p1 p2)), .val (.int (f0_v153 p1 p2))] [(.int (f3 (f0_v131 p1 p2)))])) t → Steps p.tables e below (s₁.setTop (entryFrame m #[(.int p1), (.int p2)] maxLocals)) t := by
              intro t k
              refine pre50 t ?_
              show Steps p.tables e below (T4.setTop (mkF m 340 #[.val (.int p1), .val (.int p2), .val (.int (p2 &&& (2147483647 : Int32))), .val (.int (p1 &&& (3 : Int32))), .val (.int (f0_l4_90 p1 p2)), .val (.int ((p1 &&& (3 : Int32)) + (1 : Int32))), .val (.int (f1 (f0_l4_90 p1 p2))), .val (.int ((f1 (f0_l4_90 p1 p2)) &&& (255 : Int32))), .val (.int (f0_v131 p1 p2)), .val (.int (f0_v142 p1 p2)), .val (.int (f0_v153 p1 p2))] [(.int (240 : Int32)), (.int (((f1 (f0_l4_90 p1 p2)) &&& (255 : Int32)) &&& (248 : Int32)))])) _
              refine XS.icmpNo X4.here hx rfl (hb hby at_340) rfl (teq hc340).2 ?_
              show Steps p.tables e below (T4.setTop (mkF m 343 #[.val (.int p1), .val (.int p2), .val (.int (p2 &&& (2147483647 : Int32))), .val (.int (p1 &&& (3 : Int32))), .val (.int (f0_l4_90 p1 p2)), .val (.int ((p1 &&& (3 : Int32)) + (1 : Int32))), .val (.int (f1 (f0_l4_90 p1 p2))), .val (.int ((f1 (f0_l4_90 p1 p2)) &&& (255 : Int32))), .val (.int (f0_v131 p1 p2)), .val (.int (f0_v142 p1 p2)), .val (.int (f0_v153 p1 p2))] [])) _
              refine XS.iload X4.here hx rfl (hb hby at_343) rfl ?_
              show Steps p.tables e below (T4.setTop (mkF m 345 #[.val (.int p1), .val (.int p2), .val (.int (p2 &&& (2147483647 : Int32))), .val (.int (p1 &&& (3 : Int32))), .val (.int (f0_l4_90 p1 p2)), .val (.int ((p1 &&& (3 : Int32)) + (1 : Int32))), .val (.int (f1 (f0_l4_90 p1 p2))), .val (.int ((f1 (f0_l4_90 p1 p2)) &&& (255 : Int32))), .val (.int (f0_v131 p1 p2)), .val (.int (f0_v142 p1 p2)), .val (.int (f0_v153 p1 p2))] [(.int (f0_v131 p1 p2))])) _
              refine st8 _ ?_
              exact k
            by_cases hc348 : (f3 (f0_v131 p1 p2)) = (0 : Int32)
            · have eq52 : (f0 p1 p2) = (0 : Int32) := by unfold f0; simp only [if_pos hc109, if_neg hc158, if_neg hc200, if_neg hc261, if_pos hc340, if_pos hc348]
              obtain ⟨fs, hr, hrun, hended, hW, hsame⟩ := X8.leave (v := some (.int (0 : Int32))) (fun h => by rw [Bd.returns] at h; cases h)
              refine ⟨_, _, pre51 _ ?_, hrun, hended, _, _, rfl, ?_, ⟨_, rfl⟩, hW, hsame.mono (by decide) (by decide)⟩
              · show Steps p.tables e below (T8.setTop (mkF m 348 #[.val (.int p1), .val (.int p2), .val (.int (p2 &&& (2147483647 : Int32))), .val (.int (p1 &&& (3 : Int32))), .val (.int (f0_l4_90 p1 p2)), .val (.int ((p1 &&& (3 : Int32)) + (1 : Int32))), .val (.int (f1 (f0_l4_90 p1 p2))), .val (.int ((f1 (f0_l4_90 p1 p2)) &&& (255 : Int32))), .val (.int (f0_v131 p1 p2)), .val (.int (f0_v142 p1 p2)), .val (.int (f0_v153 p1 p2))] [(.int (f3 (f0_v131 p1 p2)))])) _
                refine XS.ifYes X8.here hx rfl (pc0 := 348) (pc' := 408) rfl (hb hby at_348) rfl ((if0 _ _).trans (teq hc348).1) (by decide) (by decide) ?_
                show Steps p.tables e below (T8.setTop (mkF m 408 #[.val (.int p1), .val (.int p2), .val (.int (p2 &&& (2147483647 : Int32))), .val (.int (p1 &&& (3 : Int32))), .val (.int (f0_l4_90 p1 p2)), .val (.int ((p1 &&& (3 : Int32)) + (1 : Int32))), .val (.int (f1 (f0_l4_90 p1 p2))), .val (.int ((f1 (f0_l4_90 p1 p2)) &&& (255 : Int32))), .val (.int (f0_v131 p1 p2)), .val (.int (f0_v142 p1 p2)), .val (.int (f0_v153 p1 p2))] [])) _
                refine XS.iconst X8.here hx rfl (hb hby at_408) ?_
                show Steps p.tables e below (T8.setTop (mkF m 409 #[.val (.int p1), .val (.int p2), .val (.int (p2 &&& (2147483647 : Int32))), .val (.int (p1 &&& (3 : Int32))), .val (.int (f0_l4_90 p1 p2)), .val (.int ((p1 &&& (3 : Int32)) + (1 : Int32))), .val (.int (f1 (f0_l4_90 p1 p2))), .val (.int ((f1 (f0_l4_90 p1 p2)) &&& (255 : Int32))), .val (.int (f0_v131 p1 p2)), .val (.int (f0_v142 p1 p2)), .val (.int (f0_v153 p1 p2))] [(.int (0 : Int32))])) _
                exact retN X8 hx (t := .boolean) Bd.returns (by simp) (hb hby at_409) hr
              · show Q0 Z p1 p2 h0 n0 _ T8.heap _
                rw [e8]
                exact ⟨by rw [eq52], N8, trivial⟩
            · obtain ⟨_, _, ⟨T9, L9, k9, n9⟩, -, X9, ⟨Lc9, hQ9, l9, y9, z9⟩, st9⟩ := Jvm.LawKit.callS X8 hx (y := (⟨"com/example/ringward/ringward/Utf8EncodePinLaw", "cont", "(I)Z"⟩ : MethodName)) hown (mvT hZ (hw _ (List.mem_of_getElem? (i := 11) rfl))) (mvT hZ (hw _ (List.mem_of_getElem? (i := 12) rfl))) (mvT hZ (hw _ (List.mem_of_getElem? (i := 13) rfl))) (mvT hZ (hw _ (List.mem_of_getElem? (i := 14) rfl))) (by decide) (backOf (W := 0) (rm3 l Z a0 hw [] (f0_v142 p1 p2) h0 n0 Z0 ) hZ (hw _ (List.mem_of_getElem? (i := 14) rfl)) (hw _ (List.mem_of_getElem? (i := 13) rfl)) (by decide) (by decide)) (g := (mkF m 353 #[.val (.int p1), .val (.int p2), .val (.int (p2 &&& (2147483647 : Int32))), .val (.int (p1 &&& (3 : Int32))), .val (.int (f0_l4_90 p1 p2)), .val (.int ((p1 &&& (3 : Int32)) + (1 : Int32))), .val (.int (f1 (f0_l4_90 p1 p2))), .val (.int ((f1 (f0_l4_90 p1 p2)) &&& (255 : Int32))), .val (.int (f0_v131 p1 p2)), .val (.int (f0_v142 p1 p2)), .val (.int (f0_v153 p1 p2))] [(.int (f0_v142 p1 p2))])) rfl (by rw [hml]; rfl) (argsL := [(.int (f0_v142 p1 p2))]) (rest := []) (lenOf pd_1 rfl) rfl (by show 2 * 0 + _ ≤ _; exact Nat.le_of_eq rfl) (hb hby at_353) (fun _ _ => ⟨rfl, e8, (by decide : 0 + 0 ≤ _), (by decide : 0 + 0 ≤ _)⟩)
              dsimp only [Pt.U, Pt.locs, Pt.cells, Pt.slots] at X9 l9 y9 z9 st9 hQ9
              subst l9 y9 z9
              obtain ⟨rfl, N9q, e9⟩ := hQ9
              have N9 := Fr.app N8 N9q
              have pre53 : ∀ t, Steps p.tables e below (T9.setTop (mkF m 356 #[.val (.int p1), .val (.int p2), .val (.int (p2 &&& (2147483647 : Int32))), .val (.int (p1 &&& (3 : Int32))), .val (.int (f0_l4_90 p1 p2)), .val (.int ((p1 &&& (3 : Int32)) + (1 : Int32))), .val (.int (f1 (f0_l4_90 p1 p2))), .val (.int ((f1 (f0_l4_90 p1 p2)) &&& (255 : Int32))), .val (.int (f0_v131 p1 p2)), .val (.int (f0_v142 p1 p2)), .val (.int (f0_v153 p1 p2))] [(.int (f3 (f0_v142 p1 p2)))])) t → Steps p.tables e below (s₁.setTop (entryFrame m #[(.int p1), (.int p2)] maxLocals)) t := by
                intro t k
                refine pre51 t ?_
                show Steps p.tables e below (T8.setTop (mkF m 348 #[.val (.int p1), .val (.int p2), .val (.int (p2 &&& (2147483647 : Int32))), .val (.int (p1 &&& (3 : Int32))), .val (.int (f0_l4_90 p1 p2)), .val (.int ((p1 &&& (3 : Int32)) + (1 : Int32))), .val (.int (f1 (f0_l4_90 p1 p2))), .val (.int ((f1 (f0_l4_90 p1 p2)) &&& (255 : Int32))), .val (.int (f0_v131 p1 p2)), .val (.int (f0_v142 p1 p2)), .val (.int (f0_v153 p1 p2))] [(.int (f3 (f0_v131 p1 p2)))])) _
                refine XS.ifNo X8.here hx rfl (hb hby at_348) rfl ((if0 _ _).trans (feq hc348).1) ?_
                show Steps p.tables e below (T8.setTop (mkF m 351 #[.val (.int p1), .val (.int p2), .val (.int (p2 &&& (2147483647 : Int32))), .val (.int (p1 &&& (3 : Int32))), .val (.int (f0_l4_90 p1 p2)), .val (.int ((p1 &&& (3 : Int32)) + (1 : Int32))), .val (.int (f1 (f0_l4_90 p1 p2))), .val (.int ((f1 (f0_l4_90 p1 p2)) &&& (255 : Int32))), .val (.int (f0_v131 p1 p2)), .val (.int (f0_v142 p1 p2)), .val (.int (f0_v153 p1 p2))] [])) _
                refine XS.iload X8.here hx rfl (hb hby at_351) rfl ?_
                show Steps p.tables e below (T8.setTop (mkF m 353 #[.val (.int p1), .val (.int p2), .val (.int (p2 &&& (2147483647 : Int32))), .val (.int (p1 &&& (3 : Int32))), .val (.int (f0_l4_90 p1 p2)), .val (.int ((p1 &&& (3 : Int32)) + (1 : Int32))), .val (.int (f1 (f0_l4_90 p1 p2))), .val (.int ((f1 (f0_l4_90 p1 p2)) &&& (255 : Int32))), .val (.int (f0_v131 p1 p2)), .val (.int (f0_v142 p1 p2)), .val (.int (f0_v153 p1 p2))] [(.int (f0_v142 p1 p2))])) _
                refine st9 _ ?_
                exact k
              by_cases hc356 : (f3 (f0_v142 p1 p2)) = (0 : Int32)
              · have eq54 : (f0 p1 p2) = (0 : Int32) := by unfold f0; simp only [if_pos hc109, if_neg hc158, if_neg hc200, if_neg hc261, if_pos hc340, if_neg hc348, if_pos hc356]
                obtain ⟨fs, hr, hrun, hended, hW, hsame⟩ := X9.leave (v := some (.int (0 : Int32))) (fun h => by rw [Bd.returns] at h; cases h)
                refine ⟨_, _, pre53 _ ?_, hrun, hended, _, _, rfl, ?_, ⟨_, rfl⟩, hW, hsame.mono (by decide) (by decide)⟩
                · show Steps p.tables e below (T9.setTop (mkF m 356 #[.val (.int p1), .val (.int p2), .val (.int (p2 &&& (2147483647 : Int32))), .val (.int (p1 &&& (3 : Int32))), .val (.int (f0_l4_90 p1 p2)), .val (.int ((p1 &&& (3 : Int32)) + (1 : Int32))), .val (.int (f1 (f0_l4_90 p1 p2))), .val (.int ((f1 (f0_l4_90 p1 p2)) &&& (255 : Int32))), .val (.int (f0_v131 p1 p2)), .val (.int (f0_v142 p1 p2)), .val (.int (f0_v153 p1 p2))] [(.int (f3 (f0_v142 p1 p2)))])) _
                  refine XS.ifYes X9.here hx rfl (pc0 := 356) (pc' := 408) rfl (hb hby at_356) rfl ((if0 _ _).trans (teq hc356).1) (by decide) (by decide) ?_
                  show Steps p.tables e below (T9.setTop (mkF m 408 #[.val (.int p1), .val (.int p2), .val (.int (p2 &&& (2147483647 : Int32))), .val (.int (p1 &&& (3 : Int32))), .val (.int (f0_l4_90 p1 p2)), .val (.int ((p1 &&& (3 : Int32)) + (1 : Int32))), .val (.int (f1 (f0_l4_90 p1 p2))), .val (.int ((f1 (f0_l4_90 p1 p2)) &&& (255 : Int32))), .val (.int (f0_v131 p1 p2)), .val (.int (f0_v142 p1 p2)), .val (.int (f0_v153 p1 p2))] [])) _
                  refine XS.iconst X9.here hx rfl (hb hby at_408) ?_
                  show Steps p.tables e below (T9.setTop (mkF m 409 #[.val (.int p1), .val (.int p2), .val (.int (p2 &&& (2147483647 : Int32))), .val (.int (p1 &&& (3 : Int32))), .val (.int (f0_l4_90 p1 p2)), .val (.int ((p1 &&& (3 : Int32)) + (1 : Int32))), .val (.int (f1 (f0_l4_90 p1 p2))), .val (.int ((f1 (f0_l4_90 p1 p2)) &&& (255 : Int32))), .val (.int (f0_v131 p1 p2)), .val (.int (f0_v142 p1 p2)), .val (.int (f0_v153 p1 p2))] [(.int (0 : Int32))])) _
                  exact retN X9 hx (t := .boolean) Bd.returns (by simp) (hb hby at_409) hr
                · show Q0 Z p1 p2 h0 n0 _ T9.heap _
                  rw [e9]
                  exact ⟨by rw [eq54], N9, trivial⟩
              · obtain ⟨_, _, ⟨T10, L10, k10, n10⟩, -, X10, ⟨Lc10, hQ10, l10, y10, z10⟩, st10⟩ := Jvm.LawKit.callS X9 hx (y := (⟨"com/example/ringward/ringward/Utf8EncodePinLaw", "cont", "(I)Z"⟩ : MethodName)) hown (mvT hZ (hw _ (List.mem_of_getElem? (i := 11) rfl))) (mvT hZ (hw _ (List.mem_of_getElem? (i := 12) rfl))) (mvT hZ (hw _ (List.mem_of_getElem? (i := 13) rfl))) (mvT hZ (hw _ (List.mem_of_getElem? (i := 14) rfl))) (by decide) (backOf (W := 0) (rm3 l Z a0 hw [] (f0_v153 p1 p2) h0 n0 Z0 ) hZ (hw _ (List.mem_of_getElem? (i := 14) rfl)) (hw _ (List.mem_of_getElem? (i := 13) rfl)) (by decide) (by decide)) (g := (mkF m 361 #[.val (.int p1), .val (.int p2), .val (.int (p2 &&& (2147483647 : Int32))), .val (.int (p1 &&& (3 : Int32))), .val (.int (f0_l4_90 p1 p2)), .val (.int ((p1 &&& (3 : Int32)) + (1 : Int32))), .val (.int (f1 (f0_l4_90 p1 p2))), .val (.int ((f1 (f0_l4_90 p1 p2)) &&& (255 : Int32))), .val (.int (f0_v131 p1 p2)), .val (.int (f0_v142 p1 p2)), .val (.int (f0_v153 p1 p2))] [(.int (f0_v153 p1 p2))])) rfl (by rw [hml]; rfl) (argsL := [(.int (f0_v153 p1 p2))]) (rest := []) (lenOf pd_1 rfl) rfl (by show 2 * 0 + _ ≤ _; exact Nat.le_of_eq rfl) (hb hby at_361) (fun _ _ => ⟨rfl, e9, (by decide : 0 + 0 ≤ _), (by decide : 0 + 0 ≤ _)⟩)
                dsimp only [Pt.U, Pt.locs, Pt.cells, Pt.slots] at X10 l10 y10 z10 st10 hQ10
                subst l10 y10 z10
                obtain ⟨rfl, N10q, e10⟩ := hQ10
                have N10 := Fr.app N9 N10q
                have pre55 : ∀ t, Steps p.tables e below (T10.setTop (mkF m 364 #[.val (.int p1), .val (.int p2), .val (.int (p2 &&& (2147483647 : Int32))), .val (.int (p1 &&& (3 : Int32))), .val (.int (f0_l4_90 p1 p2)), .val (.int ((p1 &&& (3 : Int32)) + (1 : Int32))), .val (.int (f1 (f0_l4_90 p1 p2))), .val (.int ((f1 (f0_l4_90 p1 p2)) &&& (255 : Int32))), .val (.int (f0_v131 p1 p2)), .val (.int (f0_v142 p1 p2)), .val (.int (f0_v153 p1 p2))] [(.int (f3 (f0_v153 p1 p2)))])) t → Steps p.tables e below (s₁.setTop (entryFrame m #[(.int p1), (.int p2)] maxLocals)) t := by
                  intro t k
                  refine pre53 t ?_
                  show Steps p.tables e below (T9.setTop (mkF m 356 #[.val (.int p1), .val (.int p2), .val (.int (p2 &&& (2147483647 : Int32))), .val (.int (p1 &&& (3 : Int32))), .val (.int (f0_l4_90 p1 p2)), .val (.int ((p1 &&& (3 : Int32)) + (1 : Int32))), .val (.int (f1 (f0_l4_90 p1 p2))), .val (.int ((f1 (f0_l4_90 p1 p2)) &&& (255 : Int32))), .val (.int (f0_v131 p1 p2)), .val (.int (f0_v142 p1 p2)), .val (.int (f0_v153 p1 p2))] [(.int (f3 (f0_v142 p1 p2)))])) _
                  refine XS.ifNo X9.here hx rfl (hb hby at_356) rfl ((if0 _ _).trans (feq hc356).1) ?_
                  show Steps p.tables e below (T9.setTop (mkF m 359 #[.val (.int p1), .val (.int p2), .val (.int (p2 &&& (2147483647 : Int32))), .val (.int (p1 &&& (3 : Int32))), .val (.int (f0_l4_90 p1 p2)), .val (.int ((p1 &&& (3 : Int32)) + (1 : Int32))), .val (.int (f1 (f0_l4_90 p1 p2))), .val (.int ((f1 (f0_l4_90 p1 p2)) &&& (255 : Int32))), .val (.int (f0_v131 p1 p2)), .val (.int (f0_v142 p1 p2)), .val (.int (f0_v153 p1 p2))] [])) _
                  refine XS.iload X9.here hx rfl (hb hby at_359) rfl ?_
                  show Steps p.tables e below (T9.setTop (mkF m 361 #[.val (.int p1), .val (.int p2), .val (.int (p2 &&& (2147483647 : Int32))), .val (.int (p1 &&& (3 : Int32))), .val (.int (f0_l4_90 p1 p2)), .val (.int ((p1 &&& (3 : Int32)) + (1 : Int32))), .val (.int (f1 (f0_l4_90 p1 p2))), .val (.int ((f1 (f0_l4_90 p1 p2)) &&& (255 : Int32))), .val (.int (f0_v131 p1 p2)), .val (.int (f0_v142 p1 p2)), .val (.int (f0_v153 p1 p2))] [(.int (f0_v153 p1 p2))])) _
                  refine st10 _ ?_
                  exact k
                by_cases hc364 : (f3 (f0_v153 p1 p2)) = (0 : Int32)
                · have eq56 : (f0 p1 p2) = (0 : Int32) := by unfold f0; simp only [if_pos hc109, if_neg hc158, if_neg hc200, if_neg hc261, if_pos hc340, if_neg hc348, if_neg hc356, if_pos hc364]
                  obtain ⟨fs, hr, hrun, hended, hW, hsame⟩ := X10.leave (v := some (.int (0 : Int32))) (fun h => by rw [Bd.returns] at h; cases h)
                  refine ⟨_, _, pre55 _ ?_, hrun, hended, _, _, rfl, ?_, ⟨_, rfl⟩, hW, hsame.mono (by decide) (by decide)⟩
                  · show Steps p.tables e below (T10.setTop (mkF m 364 #[.val (.int p1), .val (.int p2), .val (.int (p2 &&& (2147483647 : Int32))), .val (.int (p1 &&& (3 : Int32))), .val (.int (f0_l4_90 p1 p2)), .val (.int ((p1 &&& (3 : Int32)) + (1 : Int32))), .val (.int (f1 (f0_l4_90 p1 p2))), .val (.int ((f1 (f0_l4_90 p1 p2)) &&& (255 : Int32))), .val (.int (f0_v131 p1 p2)), .val (.int (f0_v142 p1 p2)), .val (.int (f0_v153 p1 p2))] [(.int (f3 (f0_v153 p1 p2)))])) _
                    refine XS.ifYes X10.here hx rfl (pc0 := 364) (pc' := 408) rfl (hb hby at_364) rfl ((if0 _ _).trans (teq hc364).1) (by decide) (by decide) ?_
                    show Steps p.tables e below (T10.setTop (mkF m 408 #[.val (.int p1), .val (.int p2), .val (.int (p2 &&& (2147483647 : Int32))), .val (.int (p1 &&& (3 : Int32))), .val (.int (f0_l4_90 p1 p2)), .val (.int ((p1 &&& (3 : Int32)) + (1 : Int32))), .val (.int (f1 (f0_l4_90 p1 p2))), .val (.int ((f1 (f0_l4_90 p1 p2)) &&& (255 : Int32))), .val (.int (f0_v131 p1 p2)), .val (.int (f0_v142 p1 p2)), .val (.int (f0_v153 p1 p2))] [])) _
                    refine XS.iconst X10.here hx rfl (hb hby at_408) ?_
                    show Steps p.tables e below (T10.setTop (mkF m 409 #[.val (.int p1), .val (.int p2), .val (.int (p2 &&& (2147483647 : Int32))), .val (.int (p1 &&& (3 : Int32))), .val (.int (f0_l4_90 p1 p2)), .val (.int ((p1 &&& (3 : Int32)) + (1 : Int32))), .val (.int (f1 (f0_l4_90 p1 p2))), .val (.int ((f1 (f0_l4_90 p1 p2)) &&& (255 : Int32))), .val (.int (f0_v131 p1 p2)), .val (.int (f0_v142 p1 p2)), .val (.int (f0_v153 p1 p2))] [(.int (0 : Int32))])) _
                    exact retN X10 hx (t := .boolean) Bd.returns (by simp) (hb hby at_409) hr
                  · show Q0 Z p1 p2 h0 n0 _ T10.heap _
                    rw [e10]
                    exact ⟨by rw [eq56], N10, trivial⟩
                · have pre57 : ∀ t, Steps p.tables e below (T10.setTop (mkF m 401 #[.val (.int p1), .val (.int p2), .val (.int (p2 &&& (2147483647 : Int32))), .val (.int (p1 &&& (3 : Int32))), .val (.int (f0_l4_90 p1 p2)), .val (.int ((p1 &&& (3 : Int32)) + (1 : Int32))), .val (.int (f1 (f0_l4_90 p1 p2))), .val (.int ((f1 (f0_l4_90 p1 p2)) &&& (255 : Int32))), .val (.int (f0_v131 p1 p2)), .val (.int (f0_v142 p1 p2)), .val (.int (f0_v153 p1 p2))] [(.int (f0_l4_90 p1 p2)), (.int (((((((f1 (f0_l4_90 p1 p2)) &&& (255 : Int32)) &&& (7 : Int32)) <<< ((18 : Int32) &&& 31)) ||| (((f0_v131 p1 p2) &&& (63 : Int32)) <<< ((12 : Int32) &&& 31))) ||| (((f0_v142 p1 p2) &&& (63 : Int32)) <<< ((6 : Int32) &&& 31))) ||| ((f0_v153 p1 p2) &&& (63 : Int32))))])) t → Steps p.tables e below (s₁.setTop (entryFrame m #[(.int p1), (.int p2)] maxLocals)) t := by
                    intro t k
                    refine pre55 t ?_
                    show Steps p.tables e below (T10.setTop (mkF m 364 #[.val (.int p1), .val (.int p2), .val (.int (p2 &&& (2147483647 : Int32))), .val (.int (p1 &&& (3 : Int32))), .val (.int (f0_l4_90 p1 p2)), .val (.int ((p1 &&& (3 : Int32)) + (1 : Int32))), .val (.int (f1 (f0_l4_90 p1 p2))), .val (.int ((f1 (f0_l4_90 p1 p2)) &&& (255 : Int32))), .val (.int (f0_v131 p1 p2)), .val (.int (f0_v142 p1 p2)), .val (.int (f0_v153 p1 p2))] [(.int (f3 (f0_v153 p1 p2)))])) _
                    refine XS.ifNo X10.here hx rfl (hb hby at_364) rfl ((if0 _ _).trans (feq hc364).1) ?_
                    show Steps p.tables e below (T10.setTop (mkF m 367 #[.val (.int p1), .val (.int p2), .val (.int (p2 &&& (2147483647 : Int32))), .val (.int (p1 &&& (3 : Int32))), .val (.int (f0_l4_90 p1 p2)), .val (.int ((p1 &&& (3 : Int32)) + (1 : Int32))), .val (.int (f1 (f0_l4_90 p1 p2))), .val (.int ((f1 (f0_l4_90 p1 p2)) &&& (255 : Int32))), .val (.int (f0_v131 p1 p2)), .val (.int (f0_v142 p1 p2)), .val (.int (f0_v153 p1 p2))] [])) _
                    refine XS.iload X10.here hx rfl (hb hby at_367) rfl ?_
                    show Steps p.tables e below (T10.setTop (mkF m 369 #[.val (.int p1), .val (.int p2), .val (.int (p2 &&& (2147483647 : Int32))), .val (.int (p1 &&& (3 : Int32))), .val (.int (f0_l4_90 p1 p2)), .val (.int ((p1 &&& (3 : Int32)) + (1 : Int32))), .val (.int (f1 (f0_l4_90 p1 p2))), .val (.int ((f1 (f0_l4_90 p1 p2)) &&& (255 : Int32))), .val (.int (f0_v131 p1 p2)), .val (.int (f0_v142 p1 p2)), .val (.int (f0_v153 p1 p2))] [(.int ((f1 (f0_l4_90 p1 p2)) &&& (255 : Int32)))])) _
                    refine XS.bipush X10.here hx rfl (hb hby at_369) ?_
                    show Steps p.tables e below (T10.setTop (mkF m 371 #[.val (.int p1), .val (.int p2), .val (.int (p2 &&& (2147483647 : Int32))), .val (.int (p1 &&& (3 : Int32))), .val (.int (f0_l4_90 p1 p2)), .val (.int ((p1 &&& (3 : Int32)) + (1 : Int32))), .val (.int (f1 (f0_l4_90 p1 p2))), .val (.int ((f1 (f0_l4_90 p1 p2)) &&& (255 : Int32))), .val (.int (f0_v131 p1 p2)), .val (.int (f0_v142 p1 p2)), .val (.int (f0_v153 p1 p2))] [(.int (7 : Int32)), (.int ((f1 (f0_l4_90 p1 p2)) &&& (255 : Int32)))])) _
                    refine XS.iand X10.here hx rfl (hb hby at_371) rfl ?_
                    show Steps p.tables e below (T10.setTop (mkF m 372 #[.val (.int p1), .val (.int p2), .val (.int (p2 &&& (2147483647 : Int32))), .val (.int (p1 &&& (3 : Int32))), .val (.int (f0_l4_90 p1 p2)), .val (.int ((p1 &&& (3 : Int32)) + (1 : Int32))), .val (.int (f1 (f0_l4_90 p1 p2))), .val (.int ((f1 (f0_l4_90 p1 p2)) &&& (255 : Int32))), .val (.int (f0_v131 p1 p2)), .val (.int (f0_v142 p1 p2)), .val (.int (f0_v153 p1 p2))] [(.int (((f1 (f0_l4_90 p1 p2)) &&& (255 : Int32)) &&& (7 : Int32)))])) _
                    refine XS.bipush X10.here hx rfl (hb hby at_372) ?_
                    show Steps p.tables e below (T10.setTop (mkF m 374 #[.val (.int p1), .val (.int p2), .val (.int (p2 &&& (2147483647 : Int32))), .val (.int (p1 &&& (3 : Int32))), .val (.int (f0_l4_90 p1 p2)), .val (.int ((p1 &&& (3 : Int32)) + (1 : Int32))), .val (.int (f1 (f0_l4_90 p1 p2))), .val (.int ((f1 (f0_l4_90 p1 p2)) &&& (255 : Int32))), .val (.int (f0_v131 p1 p2)), .val (.int (f0_v142 p1 p2)), .val (.int (f0_v153 p1 p2))] [(.int (18 : Int32)), (.int (((f1 (f0_l4_90 p1 p2)) &&& (255 : Int32)) &&& (7 : Int32)))])) _
                    refine XS.ishl X10.here hx rfl (hb hby at_374) rfl ?_
                    show Steps p.tables e below (T10.setTop (mkF m 375 #[.val (.int p1), .val (.int p2), .val (.int (p2 &&& (2147483647 : Int32))), .val (.int (p1 &&& (3 : Int32))), .val (.int (f0_l4_90 p1 p2)), .val (.int ((p1 &&& (3 : Int32)) + (1 : Int32))), .val (.int (f1 (f0_l4_90 p1 p2))), .val (.int ((f1 (f0_l4_90 p1 p2)) &&& (255 : Int32))), .val (.int (f0_v131 p1 p2)), .val (.int (f0_v142 p1 p2)), .val (.int (f0_v153 p1 p2))] [(.int ((((f1 (f0_l4_90 p1 p2)) &&& (255 : Int32)) &&& (7 : Int32)) <<< ((18 : Int32) &&& 31)))])) _
                    refine XS.iload X10.here hx rfl (hb hby at_375) rfl ?_
                    show Steps p.tables e below (T10.setTop (mkF m 377 #[.val (.int p1), .val (.int p2), .val (.int (p2 &&& (2147483647 : Int32))), .val (.int (p1 &&& (3 : Int32))), .val (.int (f0_l4_90 p1 p2)), .val (.int ((p1 &&& (3 : Int32)) + (1 : Int32))), .val (.int (f1 (f0_l4_90 p1 p2))), .val (.int ((f1 (f0_l4_90 p1 p2)) &&& (255 : Int32))), .val (.int (f0_v131 p1 p2)), .val (.int (f0_v142 p1 p2)), .val (.int (f0_v153 p1 p2))] [(.int (f0_v131 p1 p2)), (.int ((((f1 (f0_l4_90 p1 p2)) &&& (255 : Int32)) &&& (7 : Int32)) <<< ((18 : Int32) &&& 31)))])) _
                    refine XS.bipush X10.here hx rfl (hb hby at_377) ?_
                    show Steps p.tables e below (T10.setTop (mkF m 379 #[.val (.int p1), .val (.int p2), .val (.int (p2 &&& (2147483647 : Int32))), .val (.int (p1 &&& (3 : Int32))), .val (.int (f0_l4_90 p1 p2)), .val (.int ((p1 &&& (3 : Int32)) + (1 : Int32))), .val (.int (f1 (f0_l4_90 p1 p2))), .val (.int ((f1 (f0_l4_90 p1 p2)) &&& (255 : Int32))), .val (.int (f0_v131 p1 p2)), .val (.int (f0_v142 p1 p2)), .val (.int (f0_v153 p1 p2))] [(.int (63 : Int32)), (.int (f0_v131 p1 p2)), (.int ((((f1 (f0_l4_90 p1 p2)) &&& (255 : Int32)) &&& (7 : Int32)) <<< ((18 : Int32) &&& 31)))])) _
                    refine XS.iand X10.here hx rfl (hb hby at_379) rfl ?_
                    show Steps p.tables e below (T10.setTop (mkF m 380 #[.val (.int p1), .val (.int p2), .val (.int (p2 &&& (2147483647 : Int32))), .val (.int (p1 &&& (3 : Int32))), .val (.int (f0_l4_90 p1 p2)), .val (.int ((p1 &&& (3 : Int32)) + (1 : Int32))), .val (.int (f1 (f0_l4_90 p1 p2))), .val (.int ((f1 (f0_l4_90 p1 p2)) &&& (255 : Int32))), .val (.int (f0_v131 p1 p2)), .val (.int (f0_v142 p1 p2)), .val (.int (f0_v153 p1 p2))] [(.int ((f0_v131 p1 p2) &&& (63 : Int32))), (.int ((((f1 (f0_l4_90 p1 p2)) &&& (255 : Int32)) &&& (7 : Int32)) <<< ((18 : Int32) &&& 31)))])) _
                    refine XS.bipush X10.here hx rfl (hb hby at_380) ?_
                    show Steps p.tables e below (T10.setTop (mkF m 382 #[.val (.int p1), .val (.int p2), .val (.int (p2 &&& (2147483647 : Int32))), .val (.int (p1 &&& (3 : Int32))), .val (.int (f0_l4_90 p1 p2)), .val (.int ((p1 &&& (3 : Int32)) + (1 : Int32))), .val (.int (f1 (f0_l4_90 p1 p2))), .val (.int ((f1 (f0_l4_90 p1 p2)) &&& (255 : Int32))), .val (.int (f0_v131 p1 p2)), .val (.int (f0_v142 p1 p2)), .val (.int (f0_v153 p1 p2))] [(.int (12 : Int32)), (.int ((f0_v131 p1 p2) &&& (63 : Int32))), (.int ((((f1 (f0_l4_90 p1 p2)) &&& (255 : Int32)) &&& (7 : Int32)) <<< ((18 : Int32) &&& 31)))])) _
                    refine XS.ishl X10.here hx rfl (hb hby at_382) rfl ?_
                    show Steps p.tables e below (T10.setTop (mkF m 383 #[.val (.int p1), .val (.int p2), .val (.int (p2 &&& (2147483647 : Int32))), .val (.int (p1 &&& (3 : Int32))), .val (.int (f0_l4_90 p1 p2)), .val (.int ((p1 &&& (3 : Int32)) + (1 : Int32))), .val (.int (f1 (f0_l4_90 p1 p2))), .val (.int ((f1 (f0_l4_90 p1 p2)) &&& (255 : Int32))), .val (.int (f0_v131 p1 p2)), .val (.int (f0_v142 p1 p2)), .val (.int (f0_v153 p1 p2))] [(.int (((f0_v131 p1 p2) &&& (63 : Int32)) <<< ((12 : Int32) &&& 31))), (.int ((((f1 (f0_l4_90 p1 p2)) &&& (255 : Int32)) &&& (7 : Int32)) <<< ((18 : Int32) &&& 31)))])) _
                    refine XS.ior X10.here hx rfl (hb hby at_383) rfl ?_
                    show Steps p.tables e below (T10.setTop (mkF m 384 #[.val (.int p1), .val (.int p2), .val (.int (p2 &&& (2147483647 : Int32))), .val (.int (p1 &&& (3 : Int32))), .val (.int (f0_l4_90 p1 p2)), .val (.int ((p1 &&& (3 : Int32)) + (1 : Int32))), .val (.int (f1 (f0_l4_90 p1 p2))), .val (.int ((f1 (f0_l4_90 p1 p2)) &&& (255 : Int32))), .val (.int (f0_v131 p1 p2)), .val (.int (f0_v142 p1 p2)), .val (.int (f0_v153 p1 p2))] [(.int (((((f1 (f0_l4_90 p1 p2)) &&& (255 : Int32)) &&& (7 : Int32)) <<< ((18 : Int32) &&& 31)) ||| (((f0_v131 p1 p2) &&& (63 : Int32)) <<< ((12 : Int32) &&& 31))))])) _
                    refine XS.iload X10.here hx rfl (hb hby at_384) rfl ?_
                    show Steps p.tables e below (T10.setTop (mkF m 386 #[.val (.int p1), .val (.int p2), .val (.int (p2 &&& (2147483647 : Int32))), .val (.int (p1 &&& (3 : Int32))), .val (.int (f0_l4_90 p1 p2)), .val (.int ((p1 &&& (3 : Int32)) + (1 : Int32))), .val (.int (f1 (f0_l4_90 p1 p2))), .val (.int ((f1 (f0_l4_90 p1 p2)) &&& (255 : Int32))), .val (.int (f0_v131 p1 p2)), .val (.int (f0_v142 p1 p2)), .val (.int (f0_v153 p1 p2))] [(.int (f0_v142 p1 p2)), (.int (((((f1 (f0_l4_90 p1 p2)) &&& (255 : Int32)) &&& (7 : Int32)) <<< ((18 : Int32) &&& 31)) ||| (((f0_v131 p1 p2) &&& (63 : Int32)) <<< ((12 : Int32) &&& 31))))])) _
                    refine XS.bipush X10.here hx rfl (hb hby at_386) ?_
                    show Steps p.tables e below (T10.setTop (mkF m 388 #[.val (.int p1), .val (.int p2), .val (.int (p2 &&& (2147483647 : Int32))), .val (.int (p1 &&& (3 : Int32))), .val (.int (f0_l4_90 p1 p2)), .val (.int ((p1 &&& (3 : Int32)) + (1 : Int32))), .val (.int (f1 (f0_l4_90 p1 p2))), .val (.int ((f1 (f0_l4_90 p1 p2)) &&& (255 : Int32))), .val (.int (f0_v131 p1 p2)), .val (.int (f0_v142 p1 p2)), .val (.int (f0_v153 p1 p2))] [(.int (63 : Int32)), (.int (f0_v142 p1 p2)), (.int (((((f1 (f0_l4_90 p1 p2)) &&& (255 : Int32)) &&& (7 : Int32)) <<< ((18 : Int32) &&& 31)) ||| (((f0_v131 p1 p2) &&& (63 : Int32)) <<< ((12 : Int32) &&& 31))))])) _
                    refine XS.iand X10.here hx rfl (hb hby at_388) rfl ?_
                    show Steps p.tables e below (T10.setTop (mkF m 389 #[.val (.int p1), .val (.int p2), .val (.int (p2 &&& (2147483647 : Int32))), .val (.int (p1 &&& (3 : Int32))), .val (.int (f0_l4_90 p1 p2)), .val (.int ((p1 &&& (3 : Int32)) + (1 : Int32))), .val (.int (f1 (f0_l4_90 p1 p2))), .val (.int ((f1 (f0_l4_90 p1 p2)) &&& (255 : Int32))), .val (.int (f0_v131 p1 p2)), .val (.int (f0_v142 p1 p2)), .val (.int (f0_v153 p1 p2))] [(.int ((f0_v142 p1 p2) &&& (63 : Int32))), (.int (((((f1 (f0_l4_90 p1 p2)) &&& (255 : Int32)) &&& (7 : Int32)) <<< ((18 : Int32) &&& 31)) ||| (((f0_v131 p1 p2) &&& (63 : Int32)) <<< ((12 : Int32) &&& 31))))])) _
                    refine XS.bipush X10.here hx rfl (hb hby at_389) ?_
                    show Steps p.tables e below (T10.setTop (mkF m 391 #[.val (.int p1), .val (.int p2), .val (.int (p2 &&& (2147483647 : Int32))), .val (.int (p1 &&& (3 : Int32))), .val (.int (f0_l4_90 p1 p2)), .val (.int ((p1 &&& (3 : Int32)) + (1 : Int32))), .val (.int (f1 (f0_l4_90 p1 p2))), .val (.int ((f1 (f0_l4_90 p1 p2)) &&& (255 : Int32))), .val (.int (f0_v131 p1 p2)), .val (.int (f0_v142 p1 p2)), .val (.int (f0_v153 p1 p2))] [(.int (6 : Int32)), (.int ((f0_v142 p1 p2) &&& (63 : Int32))), (.int (((((f1 (f0_l4_90 p1 p2)) &&& (255 : Int32)) &&& (7 : Int32)) <<< ((18 : Int32) &&& 31)) ||| (((f0_v131 p1 p2) &&& (63 : Int32)) <<< ((12 : Int32) &&& 31))))])) _
                    refine XS.ishl X10.here hx rfl (hb hby at_391) rfl ?_
                    show Steps p.tables e below (T10.setTop (mkF m 392 #[.val (.int p1), .val (.int p2), .val (.int (p2 &&& (2147483647 : Int32))), .val (.int (p1 &&& (3 : Int32))), .val (.int (f0_l4_90 p1 p2)), .val (.int ((p1 &&& (3 : Int32)) + (1 : Int32))), .val (.int (f1 (f0_l4_90 p1 p2))), .val (.int ((f1 (f0_l4_90 p1 p2)) &&& (255 : Int32))), .val (.int (f0_v131 p1 p2)), .val (.int (f0_v142 p1 p2)), .val (.int (f0_v153 p1 p2))] [(.int (((f0_v142 p1 p2) &&& (63 : Int32)) <<< ((6 : Int32) &&& 31))), (.int (((((f1 (f0_l4_90 p1 p2)) &&& (255 : Int32)) &&& (7 : Int32)) <<< ((18 : Int32) &&& 31)) ||| (((f0_v131 p1 p2) &&& (63 : Int32)) <<< ((12 : Int32) &&& 31))))])) _
                    refine XS.ior X10.here hx rfl (hb hby at_392) rfl ?_
                    show Steps p.tables e below (T10.setTop (mkF m 393 #[.val (.int p1), .val (.int p2), .val (.int (p2 &&& (2147483647 : Int32))), .val (.int (p1 &&& (3 : Int32))), .val (.int (f0_l4_90 p1 p2)), .val (.int ((p1 &&& (3 : Int32)) + (1 : Int32))), .val (.int (f1 (f0_l4_90 p1 p2))), .val (.int ((f1 (f0_l4_90 p1 p2)) &&& (255 : Int32))), .val (.int (f0_v131 p1 p2)), .val (.int (f0_v142 p1 p2)), .val (.int (f0_v153 p1 p2))] [(.int ((((((f1 (f0_l4_90 p1 p2)) &&& (255 : Int32)) &&& (7 : Int32)) <<< ((18 : Int32) &&& 31)) ||| (((f0_v131 p1 p2) &&& (63 : Int32)) <<< ((12 : Int32) &&& 31))) ||| (((f0_v142 p1 p2) &&& (63 : Int32)) <<< ((6 : Int32) &&& 31))))])) _
                    refine XS.iload X10.here hx rfl (hb hby at_393) rfl ?_
                    show Steps p.tables e below (T10.setTop (mkF m 395 #[.val (.int p1), .val (.int p2), .val (.int (p2 &&& (2147483647 : Int32))), .val (.int (p1 &&& (3 : Int32))), .val (.int (f0_l4_90 p1 p2)), .val (.int ((p1 &&& (3 : Int32)) + (1 : Int32))), .val (.int (f1 (f0_l4_90 p1 p2))), .val (.int ((f1 (f0_l4_90 p1 p2)) &&& (255 : Int32))), .val (.int (f0_v131 p1 p2)), .val (.int (f0_v142 p1 p2)), .val (.int (f0_v153 p1 p2))] [(.int (f0_v153 p1 p2)), (.int ((((((f1 (f0_l4_90 p1 p2)) &&& (255 : Int32)) &&& (7 : Int32)) <<< ((18 : Int32) &&& 31)) ||| (((f0_v131 p1 p2) &&& (63 : Int32)) <<< ((12 : Int32) &&& 31))) ||| (((f0_v142 p1 p2) &&& (63 : Int32)) <<< ((6 : Int32) &&& 31))))])) _
                    refine XS.bipush X10.here hx rfl (hb hby at_395) ?_
                    show Steps p.tables e below (T10.setTop (mkF m 397 #[.val (.int p1), .val (.int p2), .val (.int (p2 &&& (2147483647 : Int32))), .val (.int (p1 &&& (3 : Int32))), .val (.int (f0_l4_90 p1 p2)), .val (.int ((p1 &&& (3 : Int32)) + (1 : Int32))), .val (.int (f1 (f0_l4_90 p1 p2))), .val (.int ((f1 (f0_l4_90 p1 p2)) &&& (255 : Int32))), .val (.int (f0_v131 p1 p2)), .val (.int (f0_v142 p1 p2)), .val (.int (f0_v153 p1 p2))] [(.int (63 : Int32)), (.int (f0_v153 p1 p2)), (.int ((((((f1 (f0_l4_90 p1 p2)) &&& (255 : Int32)) &&& (7 : Int32)) <<< ((18 : Int32) &&& 31)) ||| (((f0_v131 p1 p2) &&& (63 : Int32)) <<< ((12 : Int32) &&& 31))) ||| (((f0_v142 p1 p2) &&& (63 : Int32)) <<< ((6 : Int32) &&& 31))))])) _
                    refine XS.iand X10.here hx rfl (hb hby at_397) rfl ?_
                    show Steps p.tables e below (T10.setTop (mkF m 398 #[.val (.int p1), .val (.int p2), .val (.int (p2 &&& (2147483647 : Int32))), .val (.int (p1 &&& (3 : Int32))), .val (.int (f0_l4_90 p1 p2)), .val (.int ((p1 &&& (3 : Int32)) + (1 : Int32))), .val (.int (f1 (f0_l4_90 p1 p2))), .val (.int ((f1 (f0_l4_90 p1 p2)) &&& (255 : Int32))), .val (.int (f0_v131 p1 p2)), .val (.int (f0_v142 p1 p2)), .val (.int (f0_v153 p1 p2))] [(.int ((f0_v153 p1 p2) &&& (63 : Int32))), (.int ((((((f1 (f0_l4_90 p1 p2)) &&& (255 : Int32)) &&& (7 : Int32)) <<< ((18 : Int32) &&& 31)) ||| (((f0_v131 p1 p2) &&& (63 : Int32)) <<< ((12 : Int32) &&& 31))) ||| (((f0_v142 p1 p2) &&& (63 : Int32)) <<< ((6 : Int32) &&& 31))))])) _
                    refine XS.ior X10.here hx rfl (hb hby at_398) rfl ?_
                    show Steps p.tables e below (T10.setTop (mkF m 399 #[.val (.int p1), .val (.int p2), .val (.int (p2 &&& (2147483647 : Int32))), .val (.int (p1 &&& (3 : Int32))), .val (.int (f0_l4_90 p1 p2)), .val (.int ((p1 &&& (3 : Int32)) + (1 : Int32))), .val (.int (f1 (f0_l4_90 p1 p2))), .val (.int ((f1 (f0_l4_90 p1 p2)) &&& (255 : Int32))), .val (.int (f0_v131 p1 p2)), .val (.int (f0_v142 p1 p2)), .val (.int (f0_v153 p1 p2))] [(.int (((((((f1 (f0_l4_90 p1 p2)) &&& (255 : Int32)) &&& (7 : Int32)) <<< ((18 : Int32) &&& 31)) ||| (((f0_v131 p1 p2) &&& (63 : Int32)) <<< ((12 : Int32) &&& 31))) ||| (((f0_v142 p1 p2) &&& (63 : Int32)) <<< ((6 : Int32) &&& 31))) ||| ((f0_v153 p1 p2) &&& (63 : Int32))))])) _
                    refine XS.iload X10.here hx rfl (hb hby at_399) rfl ?_
                    exact k
                  by_cases hc401 : (((((((f1 (f0_l4_90 p1 p2)) &&& (255 : Int32)) &&& (7 : Int32)) <<< ((18 : Int32) &&& 31)) ||| (((f0_v131 p1 p2) &&& (63 : Int32)) <<< ((12 : Int32) &&& 31))) ||| (((f0_v142 p1 p2) &&& (63 : Int32)) <<< ((6 : Int32) &&& 31))) ||| ((f0_v153 p1 p2) &&& (63 : Int32))) = (f0_l4_90 p1 p2)
                  · have eq58 : (f0 p1 p2) = (1 : Int32) := by unfold f0; simp only [if_pos hc109, if_neg hc158, if_neg hc200, if_neg hc261, if_pos hc340, if_neg hc348, if_neg hc356, if_neg hc364, if_pos hc401]
                    obtain ⟨fs, hr, hrun, hended, hW, hsame⟩ := X10.leave (v := some (.int (1 : Int32))) (fun h => by rw [Bd.returns] at h; cases h)
                    refine ⟨_, _, pre57 _ ?_, hrun, hended, _, _, rfl, ?_, ⟨_, rfl⟩, hW, hsame.mono (by decide) (by decide)⟩
                    · show Steps p.tables e below (T10.setTop (mkF m 401 #[.val (.int p1), .val (.int p2), .val (.int (p2 &&& (2147483647 : Int32))), .val (.int (p1 &&& (3 : Int32))), .val (.int (f0_l4_90 p1 p2)), .val (.int ((p1 &&& (3 : Int32)) + (1 : Int32))), .val (.int (f1 (f0_l4_90 p1 p2))), .val (.int ((f1 (f0_l4_90 p1 p2)) &&& (255 : Int32))), .val (.int (f0_v131 p1 p2)), .val (.int (f0_v142 p1 p2)), .val (.int (f0_v153 p1 p2))] [(.int (f0_l4_90 p1 p2)), (.int (((((((f1 (f0_l4_90 p1 p2)) &&& (255 : Int32)) &&& (7 : Int32)) <<< ((18 : Int32) &&& 31)) ||| (((f0_v131 p1 p2) &&& (63 : Int32)) <<< ((12 : Int32) &&& 31))) ||| (((f0_v142 p1 p2) &&& (63 : Int32)) <<< ((6 : Int32) &&& 31))) ||| ((f0_v153 p1 p2) &&& (63 : Int32))))])) _
                      refine XS.icmpNo X10.here hx rfl (hb hby at_401) rfl (teq hc401).2 ?_
                      show Steps p.tables e below (T10.setTop (mkF m 404 #[.val (.int p1), .val (.int p2), .val (.int (p2 &&& (2147483647 : Int32))), .val (.int (p1 &&& (3 : Int32))), .val (.int (f0_l4_90 p1 p2)), .val (.int ((p1 &&& (3 : Int32)) + (1 : Int32))), .val (.int (f1 (f0_l4_90 p1 p2))), .val (.int ((f1 (f0_l4_90 p1 p2)) &&& (255 : Int32))), .val (.int (f0_v131 p1 p2)), .val (.int (f0_v142 p1 p2)), .val (.int (f0_v153 p1 p2))] [])) _
                      refine XS.iconst X10.here hx rfl (hb hby at_404) ?_
                      show Steps p.tables e below (T10.setTop (mkF m 405 #[.val (.int p1), .val (.int p2), .val (.int (p2 &&& (2147483647 : Int32))), .val (.int (p1 &&& (3 : Int32))), .val (.int (f0_l4_90 p1 p2)), .val (.int ((p1 &&& (3 : Int32)) + (1 : Int32))), .val (.int (f1 (f0_l4_90 p1 p2))), .val (.int ((f1 (f0_l4_90 p1 p2)) &&& (255 : Int32))), .val (.int (f0_v131 p1 p2)), .val (.int (f0_v142 p1 p2)), .val (.int (f0_v153 p1 p2))] [(.int (1 : Int32))])) _
                      refine XS.goto X10.here hx rfl (pc0 := 405) (pc' := 409) rfl (hb hby at_405) (by decide) (by decide) ?_
                      show Steps p.tables e below (T10.setTop (mkF m 409 #[.val (.int p1), .val (.int p2), .val (.int (p2 &&& (2147483647 : Int32))), .val (.int (p1 &&& (3 : Int32))), .val (.int (f0_l4_90 p1 p2)), .val (.int ((p1 &&& (3 : Int32)) + (1 : Int32))), .val (.int (f1 (f0_l4_90 p1 p2))), .val (.int ((f1 (f0_l4_90 p1 p2)) &&& (255 : Int32))), .val (.int (f0_v131 p1 p2)), .val (.int (f0_v142 p1 p2)), .val (.int (f0_v153 p1 p2))] [(.int (1 : Int32))])) _
                      exact retN X10 hx (t := .boolean) Bd.returns (by simp) (hb hby at_409) hr
                    · show Q0 Z p1 p2 h0 n0 _ T10.heap _
                      rw [e10]
                      exact ⟨by rw [eq58], N10, trivial⟩
                  · have eq59 : (f0 p1 p2) = (0 : Int32) := by unfold f0; simp only [if_pos hc109, if_neg hc158, if_neg hc200, if_neg hc261, if_pos hc340, if_neg hc348, if_neg hc356, if_neg hc364, if_neg hc401]
                    obtain ⟨fs, hr, hrun, hended, hW, hsame⟩ := X10.leave (v := some (.int (0 : Int32))) (fun h => by rw [Bd.returns] at h; cases h)
                    refine ⟨_, _, pre57 _ ?_, hrun, hended, _, _, rfl, ?_, ⟨_, rfl⟩, hW, hsame.mono (by decide) (by decide)⟩
                    · show Steps p.tables e below (T10.setTop (mkF m 401 #[.val (.int p1), .val (.int p2), .val (.int (p2 &&& (2147483647 : Int32))), .val (.int (p1 &&& (3 : Int32))), .val (.int (f0_l4_90 p1 p2)), .val (.int ((p1 &&& (3 : Int32)) + (1 : Int32))), .val (.int (f1 (f0_l4_90 p1 p2))), .val (.int ((f1 (f0_l4_90 p1 p2)) &&& (255 : Int32))), .val (.int (f0_v131 p1 p2)), .val (.int (f0_v142 p1 p2)), .val (.int (f0_v153 p1 p2))] [(.int (f0_l4_90 p1 p2)), (.int (((((((f1 (f0_l4_90 p1 p2)) &&& (255 : Int32)) &&& (7 : Int32)) <<< ((18 : Int32) &&& 31)) ||| (((f0_v131 p1 p2) &&& (63 : Int32)) <<< ((12 : Int32) &&& 31))) ||| (((f0_v142 p1 p2) &&& (63 : Int32)) <<< ((6 : Int32) &&& 31))) ||| ((f0_v153 p1 p2) &&& (63 : Int32))))])) _
                      refine XS.icmpYes X10.here hx rfl (pc0 := 401) (pc' := 408) rfl (hb hby at_401) rfl (feq hc401).2 (by decide) (by decide) ?_
                      show Steps p.tables e below (T10.setTop (mkF m 408 #[.val (.int p1), .val (.int p2), .val (.int (p2 &&& (2147483647 : Int32))), .val (.int (p1 &&& (3 : Int32))), .val (.int (f0_l4_90 p1 p2)), .val (.int ((p1 &&& (3 : Int32)) + (1 : Int32))), .val (.int (f1 (f0_l4_90 p1 p2))), .val (.int ((f1 (f0_l4_90 p1 p2)) &&& (255 : Int32))), .val (.int (f0_v131 p1 p2)), .val (.int (f0_v142 p1 p2)), .val (.int (f0_v153 p1 p2))] [])) _
                      refine XS.iconst X10.here hx rfl (hb hby at_408) ?_
                      show Steps p.tables e below (T10.setTop (mkF m 409 #[.val (.int p1), .val (.int p2), .val (.int (p2 &&& (2147483647 : Int32))), .val (.int (p1 &&& (3 : Int32))), .val (.int (f0_l4_90 p1 p2)), .val (.int ((p1 &&& (3 : Int32)) + (1 : Int32))), .val (.int (f1 (f0_l4_90 p1 p2))), .val (.int ((f1 (f0_l4_90 p1 p2)) &&& (255 : Int32))), .val (.int (f0_v131 p1 p2)), .val (.int (f0_v142 p1 p2)), .val (.int (f0_v153 p1 p2))] [(.int (0 : Int32))])) _
                      exact retN X10 hx (t := .boolean) Bd.returns (by simp) (hb hby at_409) hr
                    · show Q0 Z p1 p2 h0 n0 _ T10.heap _
                      rw [e10]
                      exact ⟨by rw [eq59], N10, trivial⟩
          · have eq60 : (f0 p1 p2) = (0 : Int32) := by unfold f0; simp only [if_pos hc109, if_neg hc158, if_neg hc200, if_neg hc261, if_neg hc340]
            obtain ⟨fs, hr, hrun, hended, hW, hsame⟩ := X4.leave (v := some (.int (0 : Int32))) (fun h => by rw [Bd.returns] at h; cases h)
            refine ⟨_, _, pre50 _ ?_, hrun, hended, _, _, rfl, ?_, ⟨_, rfl⟩, hW, hsame.mono (by decide) (by decide)⟩
            · show Steps p.tables e below (T4.setTop (mkF m 340 #[.val (.int p1), .val (.int p2), .val (.int (p2 &&& (2147483647 : Int32))), .val (.int (p1 &&& (3 : Int32))), .val (.int (f0_l4_90 p1 p2)), .val (.int ((p1 &&& (3 : Int32)) + (1 : Int32))), .val (.int (f1 (f0_l4_90 p1 p2))), .val (.int ((f1 (f0_l4_90 p1 p2)) &&& (255 : Int32))), .val (.int (f0_v131 p1 p2)), .val (.int (f0_v142 p1 p2)), .val (.int (f0_v153 p1 p2))] [(.int (240 : Int32)), (.int (((f1 (f0_l4_90 p1 p2)) &&& (255 : Int32)) &&& (248 : Int32)))])) _
              refine XS.icmpYes X4.here hx rfl (pc0 := 340) (pc' := 408) rfl (hb hby at_340) rfl (feq hc340).2 (by decide) (by decide) ?_
              show Steps p.tables e below (T4.setTop (mkF m 408 #[.val (.int p1), .val (.int p2), .val (.int (p2 &&& (2147483647 : Int32))), .val (.int (p1 &&& (3 : Int32))), .val (.int (f0_l4_90 p1 p2)), .val (.int ((p1 &&& (3 : Int32)) + (1 : Int32))), .val (.int (f1 (f0_l4_90 p1 p2))), .val (.int ((f1 (f0_l4_90 p1 p2)) &&& (255 : Int32))), .val (.int (f0_v131 p1 p2)), .val (.int (f0_v142 p1 p2)), .val (.int (f0_v153 p1 p2))] [])) _
              refine XS.iconst X4.here hx rfl (hb hby at_408) ?_
              show Steps p.tables e below (T4.setTop (mkF m 409 #[.val (.int p1), .val (.int p2), .val (.int (p2 &&& (2147483647 : Int32))), .val (.int (p1 &&& (3 : Int32))), .val (.int (f0_l4_90 p1 p2)), .val (.int ((p1 &&& (3 : Int32)) + (1 : Int32))), .val (.int (f1 (f0_l4_90 p1 p2))), .val (.int ((f1 (f0_l4_90 p1 p2)) &&& (255 : Int32))), .val (.int (f0_v131 p1 p2)), .val (.int (f0_v142 p1 p2)), .val (.int (f0_v153 p1 p2))] [(.int (0 : Int32))])) _
              exact retN X4 hx (t := .boolean) Bd.returns (by simp) (hb hby at_409) hr
            · show Q0 Z p1 p2 h0 n0 _ T4.heap _
              rw [e4]
              exact ⟨by rw [eq60], N4, trivial⟩
  · have eq61 : (f0 p1 p2) = (0 : Int32) := by unfold f0; simp only [if_neg hc109]
    obtain ⟨fs, hr, hrun, hended, hW, hsame⟩ := X4.leave (v := some (.int (0 : Int32))) (fun h => by rw [Bd.returns] at h; cases h)
    refine ⟨_, _, pre13 _ ?_, hrun, hended, _, _, rfl, ?_, ⟨_, rfl⟩, hW, hsame.mono (by decide) (by decide)⟩
    · show Steps p.tables e below (T4.setTop (mkF m 109 #[.val (.int p1), .val (.int p2), .val (.int (p2 &&& (2147483647 : Int32))), .val (.int (p1 &&& (3 : Int32))), .val (.int (f0_l4_90 p1 p2)), .val (.int ((p1 &&& (3 : Int32)) + (1 : Int32))), .val (.int (f1 (f0_l4_90 p1 p2))), .unset, .unset, .unset, .unset] [(.int ((p1 &&& (3 : Int32)) + (1 : Int32))), (.int (f2 (f0_l4_90 p1 p2)))])) _
      refine XS.icmpNo X4.here hx rfl (hb hby at_109) rfl (feq hc109).1 ?_
      show Steps p.tables e below (T4.setTop (mkF m 112 #[.val (.int p1), .val (.int p2), .val (.int (p2 &&& (2147483647 : Int32))), .val (.int (p1 &&& (3 : Int32))), .val (.int (f0_l4_90 p1 p2)), .val (.int ((p1 &&& (3 : Int32)) + (1 : Int32))), .val (.int (f1 (f0_l4_90 p1 p2))), .unset, .unset, .unset, .unset] [])) _
      refine XS.iconst X4.here hx rfl (hb hby at_112) ?_
      show Steps p.tables e below (T4.setTop (mkF m 113 #[.val (.int p1), .val (.int p2), .val (.int (p2 &&& (2147483647 : Int32))), .val (.int (p1 &&& (3 : Int32))), .val (.int (f0_l4_90 p1 p2)), .val (.int ((p1 &&& (3 : Int32)) + (1 : Int32))), .val (.int (f1 (f0_l4_90 p1 p2))), .unset, .unset, .unset, .unset] [(.int (0 : Int32))])) _
      exact retN X4 hx (t := .boolean) Bd.returns (by simp) (hb hby at_113) hr
    · show Q0 Z p1 p2 h0 n0 _ T4.heap _
      rw [e4]
      exact ⟨by rw [eq61], N4, trivial⟩
theorem own_rem (x y : Int32) : x - (x / y) * y = x % y := by
  apply Int32.toInt_inj.mp
  have h1 := Int32.le_toInt (x % y)
  have h2 := Int32.toInt_lt (x % y)
  rw [Int32.toInt_sub, Int32.toInt_mul, Int32.toInt_div, Int.bmod_mul_bmod, Int.sub_bmod_bmod, Int.mul_comm (x.toInt.tdiv y.toInt), ← Int.tmod_def, ← Int32.toInt_mod]
  exact Int.bmod_eq_of_le_mul_two (by omega) (by omega)
theorem own_nat (x : Int32) : (x.toBitVec.toNat : Int) = x.toInt % 4294967296 := by
  have h := x.toBitVec.isLt
  show _ = x.toBitVec.toInt % 4294967296
  rw [BitVec.toInt_eq_toNat_cond]; split <;> omega
theorem own_mask (x m : Int32) (k : Nat) (hm : m.toBitVec.toNat = 2 ^ k - 1) : (x &&& m).toBitVec.toNat = x.toBitVec.toNat % 2 ^ k := by
  show (x.toBitVec &&& m.toBitVec).toNat = _
  rw [BitVec.toNat_and, hm, Nat.and_two_pow_sub_one_eq_mod]
theorem own_inj {x y : Int32} (h : x.toBitVec.toNat = y.toBitVec.toNat) : x = y := Int32.toBitVec_inj.mp (BitVec.eq_of_toNat_eq h)
theorem own_shl (x q : Int32) (k : Nat) (hk : q.toBitVec.toNat % 32 = k) : (x <<< (q &&& 31)).toBitVec.toNat = x.toBitVec.toNat * 2 ^ k % 2 ^ 32 := by
  show (x.toBitVec <<< ((q &&& 31).toBitVec.smod 32)).toNat = _
  rw [BitVec.shiftLeft_eq', sm32 q k hk, BitVec.toNat_shiftLeft, Nat.shiftLeft_eq]
theorem own_shr (x q : Int32) (k : Nat) (hk : q.toBitVec.toNat % 32 = k) : ((x.toUInt32 >>> (q &&& 31).toUInt32).toInt32).toBitVec.toNat = x.toBitVec.toNat / 2 ^ k := by
  have h1 : ((q &&& 31).toBitVec % 32).toNat = k := by
    show ((q.toBitVec &&& (31 : Int32).toBitVec) % 32).toNat = k
    rw [BitVec.toNat_umod, BitVec.toNat_and, show (31 : Int32).toBitVec.toNat = 2 ^ 5 - 1 from rfl, Nat.and_two_pow_sub_one_eq_mod]
    show q.toBitVec.toNat % 2 ^ 5 % 32 = k
    omega
  show (x.toBitVec >>> ((q &&& 31).toBitVec % 32)).toNat = _
  rw [BitVec.ushiftRight_eq', h1, BitVec.toNat_ushiftRight, Nat.shiftRight_eq_div_pow]
theorem own_or (x y : Int32) (k : Nat) (hx : x.toBitVec.toNat % 2 ^ k = 0) (hy : y.toBitVec.toNat < 2 ^ k) : (x ||| y).toBitVec.toNat = x.toBitVec.toNat + y.toBitVec.toNat := by
  show (x.toBitVec ||| y.toBitVec).toNat = _
  rw [BitVec.toNat_or]
  have e : x.toBitVec.toNat = 2 ^ k * (x.toBitVec.toNat / 2 ^ k) := by
    have h := Nat.div_add_mod x.toBitVec.toNat (2 ^ k); omega
  rw [e]; exact (Nat.two_pow_add_eq_or_of_lt hy _).symm
theorem own_orS (x y : Int32) (k : Nat) (hx : x.toBitVec.toNat < 2 ^ k) (hy : y.toBitVec.toNat % 2 ^ k = 0) : (x ||| y).toBitVec.toNat = x.toBitVec.toNat + y.toBitVec.toNat := by
  rw [Int32.or_comm, own_or y x k hy hx]; omega
theorem own_and (x y : Int32) : (x &&& y).toBitVec.toNat = x.toBitVec.toNat &&& y.toBitVec.toNat := by
  show (x.toBitVec &&& y.toBitVec).toNat = _
  rw [BitVec.toNat_and]
theorem own_pos (x : Int32) (h : 0 ≤ x.toInt) : x.toInt = x.toBitVec.toNat := by
  have h1 := own_nat x; have h2 := rng32 x; omega
theorem own_cond (x : Int32) (v : Int32) (n : Nat) (h : v.toBitVec.toNat = n) (c : x.toBitVec.toNat = n) : x = v := own_inj (by rw [c, h])
theorem own_a224 : ∀ l : Fin 256, (l.val &&& 224 = 192) ↔ (192 ≤ l.val ∧ l.val < 224) := by decide +kernel
theorem own_a240 : ∀ l : Fin 256, (l.val &&& 240 = 224) ↔ (224 ≤ l.val ∧ l.val < 240) := by decide +kernel
theorem own_a248 : ∀ l : Fin 256, (l.val &&& 248 = 240) ↔ (240 ≤ l.val ∧ l.val < 248) := by decide +kernel
theorem own_a192 : ∀ l : Fin 256, (l.val &&& 192 = 128) ↔ (128 ≤ l.val ∧ l.val < 192) := by decide +kernel
theorem own_m224 (x : Int32) (h : x.toBitVec.toNat < 256) : (x &&& 224) = 192 ↔ (192 ≤ x.toBitVec.toNat ∧ x.toBitVec.toNat < 224) := by
  rw [← own_a224 ⟨_, h⟩]
  exact ⟨fun q => by have z := congrArg (fun y : Int32 => y.toBitVec.toNat) q; rw [show ((x &&& 224 : Int32).toBitVec.toNat) = _ from own_and x 224] at z; exact z, fun q => own_inj (by rw [own_and]; exact q)⟩
theorem own_m240 (x : Int32) (h : x.toBitVec.toNat < 256) : (x &&& 240) = 224 ↔ (224 ≤ x.toBitVec.toNat ∧ x.toBitVec.toNat < 240) := by
  rw [← own_a240 ⟨_, h⟩]
  exact ⟨fun q => by have z := congrArg (fun y : Int32 => y.toBitVec.toNat) q; rw [show ((x &&& 240 : Int32).toBitVec.toNat) = _ from own_and x 240] at z; exact z, fun q => own_inj (by rw [own_and]; exact q)⟩
theorem own_m248 (x : Int32) (h : x.toBitVec.toNat < 256) : (x &&& 248) = 240 ↔ (240 ≤ x.toBitVec.toNat ∧ x.toBitVec.toNat < 248) := by
  rw [← own_a248 ⟨_, h⟩]
  exact ⟨fun q => by have z := congrArg (fun y : Int32 => y.toBitVec.toNat) q; rw [show ((x &&& 248 : Int32).toBitVec.toNat) = _ from own_and x 248] at z; exact z, fun q => own_inj (by rw [own_and]; exact q)⟩
theorem own_m192 (x : Int32) (h : x.toBitVec.toNat < 256) : (x &&& 192) = 128 ↔ (128 ≤ x.toBitVec.toNat ∧ x.toBitVec.toNat < 192) := by
  rw [← own_a192 ⟨_, h⟩]
  exact ⟨fun q => by have z := congrArg (fun y : Int32 => y.toBitVec.toNat) q; rw [show ((x &&& 192 : Int32).toBitVec.toNat) = _ from own_and x 192] at z; exact z, fun q => own_inj (by rw [own_and]; exact q)⟩
theorem own_lt (x v : Int32) (h1 : x.toBitVec.toNat < 2 ^ 31) (h2 : v.toBitVec.toNat < 2 ^ 31) : x < v ↔ x.toBitVec.toNat < v.toBitVec.toNat := by
  have a := own_nat x; have b := own_nat v; have c := rng32 x; have d := rng32 v
  rw [Int32.lt_iff_toInt_lt]; omega
theorem own_e2 (c : Int32) (h : c.toBitVec.toNat < 2048) : (f1_v39 c).toBitVec.toNat = (192 + c.toBitVec.toNat / 64) + 256 * (128 + c.toBitVec.toNat % 64) := by
  unfold f1_v39
  have a1 := own_shr c 6 6 rfl
  have a2 := own_mask c 63 6 rfl
  have a3 := own_or 192 ((c.toUInt32 >>> ((6 : Int32) &&& 31).toUInt32).toInt32) 6 rfl (by rw [a1]; omega)
  have a4 := own_or 128 (c &&& 63) 6 rfl (by rw [a2]; omega)
  have a5 := own_shl (128 ||| (c &&& 63)) 8 8 rfl
  rw [show (192 : Int32).toBitVec.toNat = 192 from rfl] at a3
  rw [show (128 : Int32).toBitVec.toNat = 128 from rfl] at a4
  rw [own_orS _ _ 8 (by omega) (by omega)]
  omega
theorem own_e3 (c : Int32) (h : c.toBitVec.toNat < 65536) : (f1_v84 c).toBitVec.toNat = (224 + c.toBitVec.toNat / 4096) + 256 * (128 + c.toBitVec.toNat / 64 % 64) + 65536 * (128 + c.toBitVec.toNat % 64) := by
  unfold f1_v84
  have a1 := own_shr c 12 12 rfl
  have b1 := own_shr c 6 6 rfl
  have a2 := own_mask c 63 6 rfl
  have b2 := own_mask ((c.toUInt32 >>> ((6 : Int32) &&& 31).toUInt32).toInt32) 63 6 rfl
  have a3 := own_or 224 ((c.toUInt32 >>> ((12 : Int32) &&& 31).toUInt32).toInt32) 5 rfl (by rw [a1]; omega)
  have a4 := own_or 128 (c &&& 63) 6 rfl (by rw [a2]; omega)
  have b4 := own_or 128 (((c.toUInt32 >>> ((6 : Int32) &&& 31).toUInt32).toInt32) &&& 63) 6 rfl (by rw [b2]; omega)
  have b5 := own_shl (128 ||| (((c.toUInt32 >>> ((6 : Int32) &&& 31).toUInt32).toInt32) &&& 63)) 8 8 rfl
  have a5 := own_shl (128 ||| (c &&& 63)) 16 16 rfl
  rw [show (224 : Int32).toBitVec.toNat = 224 from rfl] at a3
  rw [show (128 : Int32).toBitVec.toNat = 128 from rfl] at a4 b4
  have c1 := own_orS _ _ 8 (show (224 ||| ((c.toUInt32 >>> ((12 : Int32) &&& 31).toUInt32).toInt32)).toBitVec.toNat < 2 ^ 8 by omega) (show ((128 ||| (((c.toUInt32 >>> ((6 : Int32) &&& 31).toUInt32).toInt32) &&& 63)) <<< ((8 : Int32) &&& 31)).toBitVec.toNat % 2 ^ 8 = 0 by omega)
  rw [own_orS _ _ 16 (by omega) (by omega)]
  omega
theorem own_e4 (c : Int32) (h : c.toBitVec.toNat < 1114112) : (f1_v138 c).toBitVec.toNat = (240 + c.toBitVec.toNat / 262144) + 256 * (128 + c.toBitVec.toNat / 4096 % 64) + 65536 * (128 + c.toBitVec.toNat / 64 % 64) + 16777216 * (128 + c.toBitVec.toNat % 64) := by
  unfold f1_v138
  have a1 := own_shr c 18 18 rfl
  have d1 := own_shr c 12 12 rfl
  have b1 := own_shr c 6 6 rfl
  have a2 := own_mask c 63 6 rfl
  have b2 := own_mask ((c.toUInt32 >>> ((6 : Int32) &&& 31).toUInt32).toInt32) 63 6 rfl
  have d2 := own_mask ((c.toUInt32 >>> ((12 : Int32) &&& 31).toUInt32).toInt32) 63 6 rfl
  have a3 := own_or 240 ((c.toUInt32 >>> ((18 : Int32) &&& 31).toUInt32).toInt32) 4 rfl (by rw [a1]; omega)
  have a4 := own_or 128 (c &&& 63) 6 rfl (by rw [a2]; omega)
  have b4 := own_or 128 (((c.toUInt32 >>> ((6 : Int32) &&& 31).toUInt32).toInt32) &&& 63) 6 rfl (by rw [b2]; omega)
  have d4 := own_or 128 (((c.toUInt32 >>> ((12 : Int32) &&& 31).toUInt32).toInt32) &&& 63) 6 rfl (by rw [d2]; omega)
  have d5 := own_shl (128 ||| (((c.toUInt32 >>> ((12 : Int32) &&& 31).toUInt32).toInt32) &&& 63)) 8 8 rfl
  have b5 := own_shl (128 ||| (((c.toUInt32 >>> ((6 : Int32) &&& 31).toUInt32).toInt32) &&& 63)) 16 16 rfl
  have a5 := own_shl (128 ||| (c &&& 63)) 24 24 rfl
  rw [show (240 : Int32).toBitVec.toNat = 240 from rfl] at a3
  rw [show (128 : Int32).toBitVec.toNat = 128 from rfl] at a4 b4 d4
  have A : (240 ||| ((c.toUInt32 >>> ((18 : Int32) &&& 31).toUInt32).toInt32)).toBitVec.toNat = 240 + c.toBitVec.toNat / 262144 := by omega
  have B : ((128 ||| (((c.toUInt32 >>> ((12 : Int32) &&& 31).toUInt32).toInt32) &&& 63)) <<< ((8 : Int32) &&& 31)).toBitVec.toNat = 256 * (128 + c.toBitVec.toNat / 4096 % 64) := by omega
  have C : ((128 ||| (((c.toUInt32 >>> ((6 : Int32) &&& 31).toUInt32).toInt32) &&& 63)) <<< ((16 : Int32) &&& 31)).toBitVec.toNat = 65536 * (128 + c.toBitVec.toNat / 64 % 64) := by omega
  have E : ((128 ||| (c &&& 63)) <<< ((24 : Int32) &&& 31)).toBitVec.toNat = 16777216 * (128 + c.toBitVec.toNat % 64) := by omega
  clear a1 d1 b1 a2 b2 d2 a3 a4 b4 d4 d5 b5 a5
  generalize (240 ||| ((c.toUInt32 >>> ((18 : Int32) &&& 31).toUInt32).toInt32)) = x0 at *
  generalize ((128 ||| (((c.toUInt32 >>> ((12 : Int32) &&& 31).toUInt32).toInt32) &&& 63)) <<< ((8 : Int32) &&& 31)) = x1 at *
  generalize ((128 ||| (((c.toUInt32 >>> ((6 : Int32) &&& 31).toUInt32).toInt32) &&& 63)) <<< ((16 : Int32) &&& 31)) = x2 at *
  generalize ((128 ||| (c &&& 63)) <<< ((24 : Int32) &&& 31)) = x3 at *
  have c1 := own_orS x0 x1 8 (by omega) (by omega)
  have c2 := own_orS (x0 ||| x1) x2 16 (by omega) (by omega)
  rw [own_orS _ _ 24 (by omega) (by omega)]
  omega
theorem own_by (a b c d : Nat) (ha : a < 256) (hb : b < 256) (hc : c < 256) (hd : d < 256) : (a + 256 * b + 65536 * c + 16777216 * d) % 256 = a ∧ (a + 256 * b + 65536 * c + 16777216 * d) / 256 % 256 = b ∧ (a + 256 * b + 65536 * c + 16777216 * d) / 65536 % 256 = c ∧ (a + 256 * b + 65536 * c + 16777216 * d) / 16777216 = d := by
  refine ⟨by omega, by omega, by omega, by omega⟩
theorem own_by0 (a b c : Nat) (ha : a < 256) (hb : b < 256) (hc : c < 256) : (a + 256 * b + 65536 * c) / 65536 = c := by omega
theorem own_d2 (c : Int32) (h : c.toBitVec.toNat < 2048) : ∃ u v : Nat, c.toBitVec.toNat = 64 * u + v ∧ u < 32 ∧ v < 64 ∧ (f1_v39 c).toBitVec.toNat % 256 = 192 + u ∧ (f1_v39 c).toBitVec.toNat / 256 % 256 = 128 + v ∧ (f1_v39 c).toBitVec.toNat / 65536 = 0 ∧ (f1_v39 c).toBitVec.toNat / 16777216 = 0 := by
  refine ⟨c.toBitVec.toNat / 64, c.toBitVec.toNat % 64, by omega, by omega, by omega, ?_⟩
  rw [own_e2 c h]
  have q := own_by (192 + c.toBitVec.toNat / 64) (128 + c.toBitVec.toNat % 64) 0 0 (by omega) (by omega) (by omega) (by omega)
  have q0 := own_by0 (192 + c.toBitVec.toNat / 64) (128 + c.toBitVec.toNat % 64) 0 (by omega) (by omega) (by omega)
  exact ⟨q.1, q.2.1, q0, q.2.2.2⟩
theorem own_d3 (c : Int32) (h : c.toBitVec.toNat < 65536) : ∃ u v w : Nat, c.toBitVec.toNat = 4096 * u + 64 * v + w ∧ u < 16 ∧ v < 64 ∧ w < 64 ∧ (f1_v84 c).toBitVec.toNat % 256 = 224 + u ∧ (f1_v84 c).toBitVec.toNat / 256 % 256 = 128 + v ∧ (f1_v84 c).toBitVec.toNat / 65536 % 256 = 128 + w ∧ (f1_v84 c).toBitVec.toNat / 16777216 = 0 := by
  refine ⟨c.toBitVec.toNat / 4096, c.toBitVec.toNat / 64 % 64, c.toBitVec.toNat % 64, by omega, by omega, by omega, by omega, ?_⟩
  rw [own_e3 c h]
  exact own_by (224 + c.toBitVec.toNat / 4096) (128 + c.toBitVec.toNat / 64 % 64) (128 + c.toBitVec.toNat % 64) 0 (by omega) (by omega) (by omega) (by omega)
theorem own_d4 (c : Int32) (h : c.toBitVec.toNat < 1114112) : ∃ t u v w : Nat, c.toBitVec.toNat = 262144 * t + 4096 * u + 64 * v + w ∧ t < 5 ∧ u < 64 ∧ v < 64 ∧ w < 64 ∧ (f1_v138 c).toBitVec.toNat % 256 = 240 + t ∧ (f1_v138 c).toBitVec.toNat / 256 % 256 = 128 + u ∧ (f1_v138 c).toBitVec.toNat / 65536 % 256 = 128 + v ∧ (f1_v138 c).toBitVec.toNat / 16777216 = 128 + w := by
  refine ⟨c.toBitVec.toNat / 262144, c.toBitVec.toNat / 4096 % 64, c.toBitVec.toNat / 64 % 64, c.toBitVec.toNat % 64, by omega, by omega, by omega, by omega, by omega, ?_⟩
  rw [own_e4 c h]
  exact own_by (240 + c.toBitVec.toNat / 262144) (128 + c.toBitVec.toNat / 4096 % 64) (128 + c.toBitVec.toNat / 64 % 64) (128 + c.toBitVec.toNat % 64) (by omega) (by omega) (by omega) (by omega)
theorem own_rg (p q : Int32) : ((p &&& 3) = 0 ∧ (f0_l4_90 p q).toBitVec.toNat < 128) ∨ ((p &&& 3) = 1 ∧ 128 ≤ (f0_l4_90 p q).toBitVec.toNat ∧ (f0_l4_90 p q).toBitVec.toNat < 2048) ∨ ((p &&& 3) = 2 ∧ 2048 ≤ (f0_l4_90 p q).toBitVec.toNat ∧ (f0_l4_90 p q).toBitVec.toNat < 65536) ∨ ((p &&& 3) = 3 ∧ 65536 ≤ (f0_l4_90 p q).toBitVec.toNat ∧ (f0_l4_90 p q).toBitVec.toNat < 1114112) := by
  have hk := own_mask p 3 2 rfl
  have hq := c_mask q 2147483647 31 (by decide) (by decide)
  have a1 := (c_irem (q &&& 2147483647) 1920 1920 rfl).1 (by rw [hq]; omega)
  have a2 := (c_irem (q &&& 2147483647) 63488 63488 rfl).1 (by rw [hq]; omega)
  have a3 := (c_irem (q &&& 2147483647) 1048576 1048576 rfl).1 (by rw [hq]; omega)
  have v34 : f0_v34 p q = (q &&& 2147483647) % 1920 := own_rem _ _
  have v52 : f0_v52 p q = (q &&& 2147483647) % 63488 := own_rem _ _
  have v86 : f0_v86 p q = (q &&& 2147483647) % 1048576 := own_rem _ _
  unfold f0_l4_90
  rw [v34, v52, v86]
  generalize (q &&& 2147483647) % 1920 = u1 at *
  generalize (q &&& 2147483647) % 63488 = u2 at *
  generalize (q &&& 2147483647) % 1048576 = u3 at *
  generalize hkk : p &&& 3 = k at *
  have k4 : k.toBitVec.toNat < 4 := by omega
  have kc : k = 0 ∨ k = 1 ∨ k = 2 ∨ k = 3 := by
    have c : k.toBitVec.toNat = 0 ∨ k.toBitVec.toNat = 1 ∨ k.toBitVec.toNat = 2 ∨ k.toBitVec.toNat = 3 := by omega
    rcases c with c | c | c | c
    · exact Or.inl (own_cond k 0 0 rfl c)
    · exact Or.inr (Or.inl (own_cond k 1 1 rfl c))
    · exact Or.inr (Or.inr (Or.inl (own_cond k 2 2 rfl c)))
    · exact Or.inr (Or.inr (Or.inr (own_cond k 3 3 rfl c)))
  clear hkk hk k4
  rcases kc with rfl | rfl | rfl | rfl
  · refine Or.inl ⟨rfl, ?_⟩
    rw [if_pos rfl, own_mask q 127 7 rfl]; omega
  · refine Or.inr (Or.inl ⟨rfl, ?_⟩)
    rw [if_neg (by decide), if_pos rfl]
    have z1 := c_iadd 128 u1; have z2 := rng32 (128 + u1); have z3 := own_nat (128 + u1); have e1 : (128 : Int32).toInt = 128 := rfl
    omega
  · refine Or.inr (Or.inr (Or.inl ⟨rfl, ?_⟩))
    rw [if_neg (by decide), if_neg (by decide), if_pos rfl]
    have z1 := c_iadd 2048 u2; have z2 := rng32 (2048 + u2); have z3 := own_nat (2048 + u2); have e1 : (2048 : Int32).toInt = 2048 := rfl
    have y1 := c_iadd (2048 + u2) 2048; have y2 := rng32 (2048 + u2 + 2048); have y3 := own_nat (2048 + u2 + 2048)
    have e2 : (55296 : Int32).toInt = 55296 := rfl
    have e3 : (57343 : Int32).toInt = 57343 := rfl
    simp only [Int32.lt_iff_toInt_lt]
    repeat' split
    all_goals omega
  · refine Or.inr (Or.inr (Or.inr ⟨rfl, ?_⟩))
    rw [if_neg (by decide), if_neg (by decide), if_neg (by decide)]
    have z1 := c_iadd 65536 u3; have z2 := rng32 (65536 + u3); have z3 := own_nat (65536 + u3); have e1 : (65536 : Int32).toInt = 65536 := rfl
    omega
theorem own_law (p q : Int32) : f0 p q = 1 := by
  have hr := own_rg p q
  unfold f0 f0_v131 f0_v142 f0_v153 f3
  generalize f0_l4_90 p q = c at *
  have nc : c.toBitVec.toNat < 1114112 := by omega
  have l128 := own_lt c 128 (by omega) (by decide)
  have l2048 := own_lt c 2048 (by omega) (by decide)
  have l65536 := own_lt c 65536 (by omega) (by decide)
  rw [show (128 : Int32).toBitVec.toNat = 128 from rfl] at l128
  rw [show (2048 : Int32).toBitVec.toNat = 2048 from rfl] at l2048
  rw [show (65536 : Int32).toBitVec.toNat = 65536 from rfl] at l65536
  have z0 : (0 : Int32).toBitVec.toNat = 0 := rfl
  rcases hr with ⟨hk, h1⟩ | ⟨hk, h1, h2⟩ | ⟨hk, h1, h2⟩ | ⟨hk, h1, h2⟩
  · have c1 : c < 128 := l128.mpr h1
    have hf : f2 c = 1 := by unfold f2; rw [if_pos c1]
    have he : f1 c = c := by unfold f1; rw [if_pos c1]
    rw [hk, hf, he]
    have t8 := own_shr c 8 8 rfl
    have t16 := own_shr c 16 16 rfl
    have t24 := own_shr c 24 24 rfl
    have q0 : c &&& 255 = c := own_inj (by rw [own_mask c 255 8 rfl]; omega)
    have q1 : (((c.toUInt32 >>> ((8 : Int32) &&& 31).toUInt32).toInt32) &&& 255) = 0 := own_inj (by rw [own_mask _ 255 8 rfl, t8, z0]; omega)
    have q2 : (((c.toUInt32 >>> ((16 : Int32) &&& 31).toUInt32).toInt32) &&& 255) = 0 := own_inj (by rw [own_mask _ 255 8 rfl, t16, z0]; omega)
    have q3 : (((c.toUInt32 >>> ((24 : Int32) &&& 31).toUInt32).toInt32) &&& 255) = 0 := own_inj (by rw [own_mask _ 255 8 rfl, t24, z0]; omega)
    simp only [q0, q1, q2, q3, c1, show ((0 : Int32) + 1) = 1 from rfl, if_true, if_false]
  · have c1 : ¬ c < 128 := fun y => by have := l128.mp y; omega
    have c2 : c < 2048 := l2048.mpr h2
    have hf : f2 c = 2 := by unfold f2; rw [if_neg c1, if_pos c2]
    have he : f1 c = f1_v39 c := by unfold f1; rw [if_neg c1, if_pos c2]
    obtain ⟨u, v, hn, hu, hv, E0, E1, E2, E3⟩ := own_d2 c h2
    rw [hk, hf, he]
    generalize f1_v39 c = e at *
    have t8 := own_shr e 8 8 rfl
    have t16 := own_shr e 16 16 rfl
    have t24 := own_shr e 24 24 rfl
    have m0 := (own_mask e 255 8 rfl).trans E0
    have m1 : (((e.toUInt32 >>> ((8 : Int32) &&& 31).toUInt32).toInt32) &&& 255).toBitVec.toNat = 128 + v := by rw [own_mask _ 255 8 rfl, t8]; exact E1
    have q2 : (((e.toUInt32 >>> ((16 : Int32) &&& 31).toUInt32).toInt32) &&& 255) = 0 := own_inj (by rw [own_mask _ 255 8 rfl, t16, z0]; omega)
    have q3 : (((e.toUInt32 >>> ((24 : Int32) &&& 31).toUInt32).toInt32) &&& 255) = 0 := own_inj (by rw [own_mask _ 255 8 rfl, t24, z0]; omega)
    rw [q2, q3]
    clear E0 E1 E2 E3 t8 t16 t24
    generalize ((e.toUInt32 >>> ((8 : Int32) &&& 31).toUInt32).toInt32) &&& 255 = b1 at *
    generalize e &&& 255 = b0 at *
    have g0 : (b0 &&& 224) = 192 := (own_m224 b0 (by omega)).mpr (by omega)
    have g1 : (b1 &&& 192) = 128 := (own_m192 b1 (by omega)).mpr (by omega)
    have d0 := own_mask b0 31 5 rfl
    have d1 := own_mask b1 63 6 rfl
    have d2 := own_shl (b0 &&& 31) 6 6 rfl
    have fin : (((b0 &&& 31) <<< ((6 : Int32) &&& 31)) ||| (b1 &&& 63)) = c := own_inj (by rw [own_or _ _ 6 (by omega) (by omega)]; omega)
    simp only [fin, g0, g1, show ((1 : Int32) + 1) = 2 from rfl, show ¬ ((2 : Int32) = 1) by decide, show ¬ ((1 : Int32) = 0) by decide, if_true, if_false]
  · have c1 : ¬ c < 128 := fun y => by have := l128.mp y; omega
    have c2 : ¬ c < 2048 := fun y => by have := l2048.mp y; omega
    have c3 : c < 65536 := l65536.mpr h2
    have hf : f2 c = 3 := by unfold f2; rw [if_neg c1, if_neg c2, if_pos c3]
    have he : f1 c = f1_v84 c := by unfold f1; rw [if_neg c1, if_neg c2, if_pos c3]
    obtain ⟨u, v, w, hn, hu, hv, hw, E0, E1, E2, E3⟩ := own_d3 c h2
    rw [hk, hf, he]
    generalize f1_v84 c = e at *
    have t8 := own_shr e 8 8 rfl
    have t16 := own_shr e 16 16 rfl
    have t24 := own_shr e 24 24 rfl
    have m0 := (own_mask e 255 8 rfl).trans E0
    have m1 : (((e.toUInt32 >>> ((8 : Int32) &&& 31).toUInt32).toInt32) &&& 255).toBitVec.toNat = 128 + v := by rw [own_mask _ 255 8 rfl, t8]; exact E1
    have m2 : (((e.toUInt32 >>> ((16 : Int32) &&& 31).toUInt32).toInt32) &&& 255).toBitVec.toNat = 128 + w := by rw [own_mask _ 255 8 rfl, t16]; exact E2
    have q3 : (((e.toUInt32 >>> ((24 : Int32) &&& 31).toUInt32).toInt32) &&& 255) = 0 := own_inj (by rw [own_mask _ 255 8 rfl, t24, z0]; omega)
    rw [q3]
    clear E0 E1 E2 E3 t8 t16 t24
    generalize ((e.toUInt32 >>> ((8 : Int32) &&& 31).toUInt32).toInt32) &&& 255 = b1 at *
    generalize ((e.toUInt32 >>> ((16 : Int32) &&& 31).toUInt32).toInt32) &&& 255 = b2 at *
    generalize e &&& 255 = b0 at *
    have g0 : (b0 &&& 240) = 224 := (own_m240 b0 (by omega)).mpr (by omega)
    have g1 : (b1 &&& 192) = 128 := (own_m192 b1 (by omega)).mpr (by omega)
    have g2 : (b2 &&& 192) = 128 := (own_m192 b2 (by omega)).mpr (by omega)
    have d0 := own_mask b0 15 4 rfl
    have d1 := own_mask b1 63 6 rfl
    have d2 := own_mask b2 63 6 rfl
    have s0 := own_shl (b0 &&& 15) 12 12 rfl
    have s1 := own_shl (b1 &&& 63) 6 6 rfl
    have r1 := own_or ((b0 &&& 15) <<< ((12 : Int32) &&& 31)) ((b1 &&& 63) <<< ((6 : Int32) &&& 31)) 12 (by omega) (by omega)
    have fin : ((((b0 &&& 15) <<< ((12 : Int32) &&& 31)) ||| ((b1 &&& 63) <<< ((6 : Int32) &&& 31))) ||| (b2 &&& 63)) = c := own_inj (by rw [own_or _ _ 6 (by omega) (by omega)]; omega)
    simp only [fin, g0, g1, g2, show ((2 : Int32) + 1) = 3 from rfl, show ¬ ((3 : Int32) = 1) by decide, show ¬ ((3 : Int32) = 2) by decide, show ¬ ((1 : Int32) = 0) by decide, if_true, if_false]
  · have c1 : ¬ c < 128 := fun y => by have := l128.mp y; omega
    have c2 : ¬ c < 2048 := fun y => by have := l2048.mp y; omega
    have c3 : ¬ c < 65536 := fun y => by have := l65536.mp y; omega
    have hf : f2 c = 4 := by unfold f2; rw [if_neg c1, if_neg c2, if_neg c3]
    have he : f1 c = f1_v138 c := by unfold f1; rw [if_neg c1, if_neg c2, if_neg c3]
    obtain ⟨t, u, v, w, hn, ht, hu, hv, hw, E0, E1, E2, E3⟩ := own_d4 c h2
    rw [hk, hf, he]
    generalize f1_v138 c = e at *
    have t8 := own_shr e 8 8 rfl
    have t16 := own_shr e 16 16 rfl
    have t24 := own_shr e 24 24 rfl
    have m0 := (own_mask e 255 8 rfl).trans E0
    have m1 : (((e.toUInt32 >>> ((8 : Int32) &&& 31).toUInt32).toInt32) &&& 255).toBitVec.toNat = 128 + u := by rw [own_mask _ 255 8 rfl, t8]; exact E1
    have m2 : (((e.toUInt32 >>> ((16 : Int32) &&& 31).toUInt32).toInt32) &&& 255).toBitVec.toNat = 128 + v := by rw [own_mask _ 255 8 rfl, t16]; exact E2
    have m3 : (((e.toUInt32 >>> ((24 : Int32) &&& 31).toUInt32).toInt32) &&& 255).toBitVec.toNat = 128 + w := by rw [own_mask _ 255 8 rfl, t24, show (2 ^ 24 : Nat) = 16777216 from rfl, E3]; omega
    clear E0 E1 E2 E3 t8 t16 t24
    generalize ((e.toUInt32 >>> ((8 : Int32) &&& 31).toUInt32).toInt32) &&& 255 = b1 at *
    generalize ((e.toUInt32 >>> ((16 : Int32) &&& 31).toUInt32).toInt32) &&& 255 = b2 at *
    generalize ((e.toUInt32 >>> ((24 : Int32) &&& 31).toUInt32).toInt32) &&& 255 = b3 at *
    generalize e &&& 255 = b0 at *
    have g0 : (b0 &&& 248) = 240 := (own_m248 b0 (by omega)).mpr (by omega)
    have g1 : (b1 &&& 192) = 128 := (own_m192 b1 (by omega)).mpr (by omega)
    have g2 : (b2 &&& 192) = 128 := (own_m192 b2 (by omega)).mpr (by omega)
    have g3 : (b3 &&& 192) = 128 := (own_m192 b3 (by omega)).mpr (by omega)
    have d0 := own_mask b0 7 3 rfl
    have d1 := own_mask b1 63 6 rfl
    have d2 := own_mask b2 63 6 rfl
    have d3 := own_mask b3 63 6 rfl
    have s0 := own_shl (b0 &&& 7) 18 18 rfl
    have s1 := own_shl (b1 &&& 63) 12 12 rfl
    have s2 := own_shl (b2 &&& 63) 6 6 rfl
    have r1 := own_or ((b0 &&& 7) <<< ((18 : Int32) &&& 31)) ((b1 &&& 63) <<< ((12 : Int32) &&& 31)) 18 (by omega) (by omega)
    have r2 := own_or (((b0 &&& 7) <<< ((18 : Int32) &&& 31)) ||| ((b1 &&& 63) <<< ((12 : Int32) &&& 31))) ((b2 &&& 63) <<< ((6 : Int32) &&& 31)) 12 (by omega) (by omega)
    have fin : (((((b0 &&& 7) <<< ((18 : Int32) &&& 31)) ||| ((b1 &&& 63) <<< ((12 : Int32) &&& 31))) ||| ((b2 &&& 63) <<< ((6 : Int32) &&& 31))) ||| (b3 &&& 63)) = c := own_inj (by rw [own_or _ _ 6 (by omega) (by omega)]; omega)
    simp only [fin, g0, g1, g2, g3, show ((3 : Int32) + 1) = 4 from rfl, show ¬ ((4 : Int32) = 1) by decide, show ¬ ((4 : Int32) = 2) by decide, show ¬ ((4 : Int32) = 3) by decide, show ¬ ((1 : Int32) = 0) by decide, if_true, if_false]

set_option maxRecDepth 65536 in
set_option maxHeartbeats 40000000 in
theorem comes_1 {Post : Tables → Env → Array Value → State → Outcome → State → Prop} (hpost : ∀ tb e args s v u, (limb_1_1.after args s (.returned v) u = true ∧ limb_1_2.after args s (.returned v) u = true ∧ True) → FrameEnd s (.returned v) u (Jvm.fieldLocs frame_1_writes args s ++ Jvm.arrayLocs frame_1_arrays args s ++ Jvm.staticLocs frame_1_statics s) 0 0 → Post tb e args s (.returned v) u) :
    ArmFor flags0 classFile x code maxLocals ret World_1 tables_1 room_1 Calls_1 rest_1 Pre_1 Post := by
  intro l hfl _ _ p e ha hc hk s m args below hf hA hF happ hP
  obtain ⟨hcalls, hrest, hpre⟩ := hP
  obtain ⟨-, -, -, hnamed, -, -, -, hat⟩ := (Spec.applies_iff hf).mp happ
  obtain ⟨hg, hn⟩ := and_e (Cond.before_iff.mp (show (Jvm.Cond.and given_1 narrow_1).before args s = true from hpre))
  obtain ⟨g1, g2⟩ := and_e hg
  obtain ⟨g3, g4⟩ := and_e g2
  obtain ⟨w0, w1, rfl⟩ : ∃ w0 w1 : Value, args = #[w0, w1] := by
    have hs : args.size = 2 := by simpa [Cond.value, given_1] using g1
    obtain ⟨L⟩ := args
    match L, hs with
    | [w0, w1], _ => exact ⟨w0, w1, rfl⟩
  have hw := fun d (hd : d ∈ tables_1) => atoms_spec (ws := Jvm.Cond.code x code maxLocals ret :: tables_1) hat d (List.mem_cons_of_mem _ hd)
  have hfit : Fit s := fun {y c} hc i hi => by
    obtain ⟨ha, rfl⟩ := Array.getElem?_eq_some_iff.mp hc
    have q := List.all_eq_true.mp ((Array.all_eq_true_iff_forall_mem.mp hF) _ (Array.getElem_mem ha)) i (List.mem_range.mpr hi)
    simpa [Array.getElem?_eq_getElem hi] using q
  obtain ⟨i0, ei0⟩ := is_v g3
  obtain rfl : w0 = (.int i0) := Option.some.inj ei0
  obtain ⟨i1, ei1⟩ := is_v g4
  obtain rfl : w1 = (.int i1) := Option.some.inj ei1
  obtain ⟨n, o, h1, h2, h3, v', L, rfl, ⟨hv', N, -⟩, hq⟩ := rm0 l s _ hw tables_1 i0 i1 s.heap s.heap.size (Nat.le_refl _)  p e ha hc hk s m _ below hf ((Spec.applies_iff_loose hf).mp happ).1 ⟨rfl, State.Warmed39.refl s, rfl⟩ trivial
  rw [own_law i0 i1] at hv'
  subst hv'
  refine ⟨n, _, h1, h2, h3, hpost _ _ _ _ _ _ ⟨Cond.after_iff.mpr rfl, Cond.after_iff.mpr (eq_i res_at (Term.int_eval (1)) rfl), trivial⟩ ⟨hq.1, hq.2.1, (hq.2.2.sift fun y hy => Or.inr (N y hy)).mono (by decide) (by decide)⟩⟩
theorem main_1_1 : Claimed_1_1 := comes_1 fun _ _ _ _ _ _ h hF => ⟨h.1, hF⟩
theorem main_1_2 : Claimed_1_2 := comes_1 fun _ _ _ _ _ _ h hF => ⟨h.2.1, hF⟩
end Jvm.Pilot.@@N@@
namespace Jvm.Pilot.@@N@@
open Jvm Jvm.ClassFile Sem Op Lib Jvm.Free Jvm.Stand Jvm.Pilot.@@N@@.Jvm.D
/-! MADE BY PROGRAM (witnessworld.py) out of the Statement's table words and the real class files: 9 classes; the members and pool entries that the words name. The judged class is class 1, her method 2. -/
namespace start1
open Jvm.ClassFile
def u (s : String) : CpInfo := .utf8 (stringToUtf16 s)
/-- a pool by its gaps: so many unusable entries, then the entry; so many at the end -/
def gap : Nat → List CpInfo → List CpInfo
  | 0, r => r
  | n + 1, r => .unusable :: gap n r
def poolList (es : List (Nat × CpInfo)) (last : Nat) : List CpInfo := es.foldr (fun e r => gap e.1 (e.2 :: r)) (gap last [])
def pool (es : List (Nat × CpInfo)) (last : Nat) : Array CpInfo := ⟨poolList es last⟩
def fileOf (pool : Array CpInfo) (this : Nat) (attrs : Array Attribute := #[]) (ms : Array MethodInfo := #[]) (fl : Nat := 33) (sup : Nat := 0) (ifs : Array Nat := #[]) (fds : Array FieldInfo := #[]) : ClassFile where
  minorVersion := 0
  majorVersion := 65
  constantPool := pool
  accessFlags := fl
  thisClass := this
  superClass := sup
  interfaces := ifs
  fields := fds
  methods := ms
  attributes := attrs
def plain (name : String) (sup : Option ClassId) : Class where
  name := name
  kind := .ordinary
  loader := none
  accessFlags := 33
  super := sup
  interfaces := #[]
  cf := none
  fields := #[]
  methods := #[]
  instanceTypes := #[]
  staticTypes := #[]
  resolved := #[]
  callSites := []
  init := .initialized
  statics := none
  mirror := none

def pool0 : Array CpInfo := pool [(5, u "<init>"), (0, u "()V"), (1, .class_ 10), (1, u "java/lang/Object")] 113

def k0m0 : Method := { name := "<init>", desc := "()V", sig := { parameters := [], returnType := none }, accessFlags := 1, code := none }
/-- java/lang/Object -/
def k0 : Class := { plain "java/lang/Object" none with
  accessFlags := 33
  interfaces := #[]
  cf := some (fileOf pool0 8 #[] #[{ accessFlags := 1, nameIndex := 5, descriptorIndex := 6, attributes := #[] }] 33 0 #[] #[])
  fields := #[]
  methods := #[k0m0]
  instanceTypes := #[]
  staticTypes := #[]
  resolved := Array.replicate 124 none
  statics := none }

def pool1 : Array CpInfo := pool [(2, .class_ 4), (1, u "java/lang/Object"), (0, u "<init>"), (0, u "()V"), (0, .integer 2147483647), (0, .integer 63488), (0, .integer 55296), (0, .integer 57343), (0, .integer 65536), (0, .integer 1048576), (0, .methodref 14 15), (0, .class_ 16), (0, .nameAndType 17 18), (0, u "com/example/ringward/ringward/Utf8"), (0, u "encode"), (0, u "(I)I"), (0, .methodref 14 20), (0, .nameAndType 21 18), (0, u "length"), (0, .methodref 23 24), (0, .class_ 25), (0, .nameAndType 26 27), (0, u "com/example/ringward/ringward/Utf8EncodePinLaw"), (0, u "cont"), (0, u "(I)Z"), (3, u "law"), (0, u "(II)Z")] 2

def k1m0 : Method := { name := "<init>", desc := "()V", sig := { parameters := [], returnType := none }, accessFlags := 2, code := none }
def k1c1 : Code := { maxStack := 2, maxLocals := 1, code := method_2_code, exceptionTable := #[], attributes := #[] }
def k1m1 : Method := { name := "cont", desc := "(I)Z", sig := { parameters := [.int], returnType := some .boolean }, accessFlags := 10, code := some k1c1 }
def k1c2 : Code := { maxStack := 3, maxLocals := 11, code := code, exceptionTable := #[], attributes := #[] }
def k1m2 : Method := { name := "law", desc := "(II)Z", sig := { parameters := [.int, .int], returnType := some .boolean }, accessFlags := 9, code := some k1c2 }
/-- com/example/ringward/ringward/Utf8EncodePinLaw -/
def k1 : Class := { plain "com/example/ringward/ringward/Utf8EncodePinLaw" (some 0) with
  accessFlags := 49
  interfaces := #[]
  cf := some (fileOf pool1 23 #[] #[{ accessFlags := 2, nameIndex := 5, descriptorIndex := 6, attributes := #[] }, { accessFlags := 10, nameIndex := 26, descriptorIndex := 27, attributes := #[] }, { accessFlags := 9, nameIndex := 31, descriptorIndex := 32, attributes := #[] }] 49 2 #[] #[])
  fields := #[]
  methods := #[k1m0, k1m1, k1m2]
  instanceTypes := #[]
  staticTypes := #[]
  resolved := Array.replicate 35 none
  statics := none }

def pool2 : Array CpInfo := pool [(2, .class_ 4), (1, u "java/lang/Object"), (0, u "<init>"), (0, u "()V"), (4, u "length"), (4, u "(I)I"), (30, .integer 65536), (0, .class_ 49), (0, u "com/example/ringward/ringward/Utf8"), (7, u "encode")] 17

def k2m0 : Method := { name := "<init>", desc := "()V", sig := { parameters := [], returnType := none }, accessFlags := 2, code := none }
def k2c1 : Code := { maxStack := 4, maxLocals := 2, code := prog_14_method_5_code, exceptionTable := #[], attributes := #[] }
def k2m1 : Method := { name := "encode", desc := "(I)I", sig := { parameters := [.int], returnType := some .int }, accessFlags := 8, code := some k2c1 }
def k2c2 : Code := { maxStack := 2, maxLocals := 2, code := prog_14_method_6_code, exceptionTable := #[], attributes := #[] }
def k2m2 : Method := { name := "length", desc := "(I)I", sig := { parameters := [.int], returnType := some .int }, accessFlags := 8, code := some k2c2 }
/-- com/example/ringward/ringward/Utf8 -/
def k2 : Class := { plain "com/example/ringward/ringward/Utf8" (some 0) with
  accessFlags := 48
  interfaces := #[]
  cf := some (fileOf pool2 48 #[] #[{ accessFlags := 2, nameIndex := 5, descriptorIndex := 6, attributes := #[] }, { accessFlags := 8, nameIndex := 57, descriptorIndex := 16, attributes := #[] }, { accessFlags := 8, nameIndex := 11, descriptorIndex := 16, attributes := #[] }] 48 2 #[] #[])
  fields := #[]
  methods := #[k2m0, k2m1, k2m2]
  instanceTypes := #[]
  staticTypes := #[]
  resolved := Array.replicate 75 none
  statics := none }

def pool3 : Array CpInfo := pool [(1, u "java/lang/Cloneable"), (0, .class_ 1), (0, u "java/lang/Object"), (0, .class_ 3)] 3

/-- java/lang/Cloneable -/
def k3 : Class := { plain "java/lang/Cloneable" (some 0) with
  accessFlags := 1537
  interfaces := #[]
  cf := some (fileOf pool3 2 #[] #[] 1537 4 #[] #[])
  fields := #[]
  methods := #[]
  instanceTypes := #[]
  staticTypes := #[]
  resolved := Array.replicate 8 none
  statics := none }

def pool4 : Array CpInfo := pool [(1, u "java/io/Serializable"), (0, .class_ 1), (0, u "java/lang/Object"), (0, .class_ 3)] 3

/-- java/io/Serializable -/
def k4 : Class := { plain "java/io/Serializable" (some 0) with
  accessFlags := 1537
  interfaces := #[]
  cf := some (fileOf pool4 2 #[] #[] 1537 4 #[] #[])
  fields := #[]
  methods := #[]
  instanceTypes := #[]
  staticTypes := #[]
  resolved := Array.replicate 8 none
  statics := none }

/-- the primitive byte -/
def k5 : Class := { plain "byte" none with kind := .primitive 'B', accessFlags := 0x411 }
/-- [B -/
def k6 : Class := { plain "[B" (some 0) with kind := .array 5 .byte, interfaces := #[3, 4], accessFlags := 1041 }

/-- the primitive int -/
def k7 : Class := { plain "int" none with kind := .primitive 'I', accessFlags := 0x411 }
/-- [I -/
def k8 : Class := { plain "[I" (some 0) with kind := .array 7 .int, interfaces := #[3, 4], accessFlags := 1041 }

def heap : Heap := #[]
def classes : Array Class := #[k0, k1, k2, k3, k4, k5, k6, k7, k8]
def interned : List (Array UInt16 × Addr) := []
def slotsUsed : Nat := 0
def theMethod : MethodId := ⟨1, 2⟩
def args0 : Array Value := #[.int 65, .int 2]
def aboutOver (below : List Frame) : State where
  vm := { classes := classes, interned := interned.toArray }
  heap := heap
  slotsUsed := slotsUsed
  threads := #[{ frames := .invoking theMethod args0 :: below }]
def below0 : List Frame := [.native { method := ⟨0, 0⟩, args := #[] }]
def about1 : State := aboutOver below0
def p0 : Program := .bare "" "" ""
def e0 : Env := launch0.env 0 0 0
theorem w_frames : about1.frames = Frame.invoking theMethod args0 :: below0 := rfl
set_option maxRecDepth 65536 in
theorem w_args : argsFit about1.vm theMethod args0 = true := by decide +kernel
set_option maxRecDepth 65536 in
theorem w_heap : heapFits about1 = true := by decide +kernel
set_option maxRecDepth 65536 in
theorem w_runnable : about1.curStatus? = some .runnable := by decide +kernel
set_option maxRecDepth 65536 in
theorem w_alone : about1.alone = true := by decide +kernel
set_option maxRecDepth 65536 in
theorem w_named : about1.methodNamed? x = some theMethod := by decide +kernel
set_option maxRecDepth 65536 in
theorem w_hears : about1.hears theMethod below0 = true := by decide +kernel
set_option maxRecDepth 65536 in
theorem w_ripe : about1.ripe theMethod args0 below0 = true := by decide +kernel
theorem w_running : about1.status = .running := rfl
set_option maxRecDepth 65536 in
theorem w_room : about1.hasRoom e0.platform room_1 = true :=
  launch0.hasRoom_least _ room_1 (by decide +kernel) (by decide +kernel) (by decide +kernel) (by decide +kernel) (by decide +kernel) (by decide +kernel)
theorem allAtoms_all (ts : List Jvm.Cond) (a : Array Jvm.Value) (st : Jvm.State) : (allAtoms ts).before a st = ts.all (fun c => c.before a st) := by
  induction ts with
  | nil => rfl
  | cons c t ih =>
    show (Jvm.Cond.and c (allAtoms t)).before a st = _
    rw [Jvm.Cond.before_and, ih, List.all_cons]
def words1 : List Jvm.Cond := Jvm.Cond.code x code maxLocals ret :: tables_1
/-- a 'code' word, met by the world's own term for the bytes: nothing is compared byte by byte -/
theorem code_word {y : MethodName} {bytes : ByteArray} {mx : Nat} {rt : Option FieldType} {a : Array Value} {s : State} {m : MethodId} {meth : Method} {c : Code} (h1 : s.methodNamed? y = some m) (h2 : s.vm.method? m = some meth) (h3 : meth.code = some c) (h4 : c.code = bytes)
    (h5 : (c.maxLocals == mx && c.exceptionTable.isEmpty && decide (c.maxStack ≤ mostOperands) && decide (meth.sig.returnType = rt) && !meth.locks && decide (parseMethodDescriptor y.desc = some meth.sig)) = true) : (Jvm.Cond.code y bytes mx rt).before a s = true := by
  simp only [Bool.and_eq_true, beq_iff_eq, Bool.not_eq_true', decide_eq_true_eq] at h5
  obtain ⟨⟨⟨⟨⟨g1, g2⟩, g3⟩, g4⟩, g5⟩, g6⟩ := h5
  simp [Cond.before, Cond.holds, Cond.value, h1, h2, h3, h4, g1, g2, g3, g4, g5, g6]
def isCode : Jvm.Cond → Bool
  | .code _ _ _ _ => true
  | _ => false
theorem all_split {L : List Jvm.Cond} {P : Jvm.Cond → Bool} (h1 : L.all (fun c => isCode c || P c) = true) (h2 : ∀ c ∈ L.filter isCode, P c = true) : L.all P = true := by
  refine List.all_eq_true.mpr fun c hc => ?_
  have h := List.all_eq_true.mp h1 c hc
  rcases Bool.eq_false_or_eq_true (isCode c) with hi | hi
  · exact h2 c (List.mem_filter.mpr ⟨hc, hi⟩)
  · simpa [hi] using h
set_option maxRecDepth 65536 in
theorem w_c0 : (Jvm.Cond.code x code maxLocals ret).before args0 about1 = true := code_word (m := ⟨1, 2⟩) (meth := k1m2) (c := k1c2) (by decide +kernel) rfl rfl rfl (by decide +kernel)
set_option maxRecDepth 65536 in
theorem w_c1 : (Jvm.Cond.code ({ cls := "com/example/ringward/ringward/Utf8", name := "encode", desc := "(I)I" } : Jvm.MethodName) prog_14_method_5_code (2 : Nat) (Option.some Jvm.ClassFile.FieldType.int)).before args0 about1 = true := code_word (m := ⟨2, 1⟩) (meth := k2m1) (c := k2c1) (by decide +kernel) rfl rfl rfl (by decide +kernel)
set_option maxRecDepth 65536 in
theorem w_c2 : (Jvm.Cond.code ({ cls := "com/example/ringward/ringward/Utf8", name := "length", desc := "(I)I" } : Jvm.MethodName) prog_14_method_6_code (2 : Nat) (Option.some Jvm.ClassFile.FieldType.int)).before args0 about1 = true := code_word (m := ⟨2, 2⟩) (meth := k2m2) (c := k2c2) (by decide +kernel) rfl rfl rfl (by decide +kernel)
set_option maxRecDepth 65536 in
theorem w_c3 : (Jvm.Cond.code ({ cls := "com/example/ringward/ringward/Utf8EncodePinLaw", name := "cont", desc := "(I)Z" } : Jvm.MethodName) method_2_code (1 : Nat) (Option.some Jvm.ClassFile.FieldType.boolean)).before args0 about1 = true := code_word (m := ⟨1, 1⟩) (meth := k1m1) (c := k1c1) (by decide +kernel) rfl rfl rfl (by decide +kernel)
def codes1 : List Jvm.Cond := [Jvm.Cond.code x code maxLocals ret, Jvm.Cond.code ({ cls := "com/example/ringward/ringward/Utf8", name := "encode", desc := "(I)I" } : Jvm.MethodName) prog_14_method_5_code (2 : Nat) (Option.some Jvm.ClassFile.FieldType.int), Jvm.Cond.code ({ cls := "com/example/ringward/ringward/Utf8", name := "length", desc := "(I)I" } : Jvm.MethodName) prog_14_method_6_code (2 : Nat) (Option.some Jvm.ClassFile.FieldType.int), Jvm.Cond.code ({ cls := "com/example/ringward/ringward/Utf8EncodePinLaw", name := "cont", desc := "(I)Z" } : Jvm.MethodName) method_2_code (1 : Nat) (Option.some Jvm.ClassFile.FieldType.boolean)]
set_option maxRecDepth 65536 in
theorem codes_eq : words1.filter isCode = codes1 := rfl
theorem w_codes : ∀ c ∈ words1.filter isCode, c.before args0 about1 = true := by
  rw [codes_eq]
  intro c hc
  simp only [codes1, List.mem_cons, List.not_mem_nil, or_false] at hc
  rcases hc with rfl | rfl | rfl | rfl
  · exact w_c0
  · exact w_c1
  · exact w_c2
  · exact w_c3
set_option maxRecDepth 65536 in
theorem w_t1 : words1.all (fun c => isCode c || c.before args0 about1) = true := by decide +kernel
theorem w_tables : (allAtoms (Jvm.Cond.code x code maxLocals ret :: tables_1)).before args0 about1 = true := by
  rw [allAtoms_all]
  show words1.all (fun c => c.before args0 about1) = true
  refine all_split ?_ w_codes
  rw [w_t1]
set_option maxRecDepth 65536 in
theorem w_case : (Jvm.Cond.and given_1 narrow_1).before args0 about1 = true := by decide +kernel
theorem w_applies : (headSpec (Jvm.Cond.code x code maxLocals ret :: tables_1) room_1).applies x e0.platform about1 = true :=
  (Spec.applies_iff w_frames).mpr ⟨w_running, w_runnable, w_alone, w_named, w_hears, w_ripe, w_room, w_tables⟩
theorem atStart : AtStart classFile x code maxLocals ret World_1 tables_1 room_1 Calls_1 rest_1 Pre_1 launch0 p0 e0 about1 theMethod args0 below0 :=
  ⟨lists_1, trivial, launch0.admits_env _ _ _, launch0.least_env, fairChoices_fair.cas, fairChoices_fair.clock, w_frames, w_args, w_heap, w_applies, trivial, trivial, w_case⟩
end start1
theorem witness_1 : WitnessClaimed_1 := ⟨start1.p0, start1.e0, start1.about1, start1.theMethod, start1.args0, start1.below0, start1.atStart⟩
end Jvm.Pilot.@@N@@
