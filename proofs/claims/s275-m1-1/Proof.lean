import JvmDerived
import JvmDerived.Pilot.@@N@@Statement
import JvmDerived.Pilot.@@N@@Code
set_option linter.unusedVariables false
set_option linter.unusedSimpArgs false
namespace Jvm.RoadKit
open Sem ClassFile Op Lib Jvm.Stand Jvm.Free Jvm.LawKit
section New
variable {p : Program} {l : Launch} {e : Env} {R : Room} {s : State} {m : MethodId} {args : Array Value} {below : List Frame} {meth : Method} {c : Code} {T : State} {locs : List Loc} {cells slots : Nat}
theorem retI (X : Stand p l e R s m args below meth c T locs cells slots) (hx : p.tables.exec = Jvm.exec) {pc : Nat} {Ls : Array Slot} {z : Int32} {rest : List Value} (hret : meth.sig.returnType = some .int) (hd : decode c.code pc = .ok (.ireturn, 1)) {fs : List Frame}
    (hl : ∀ (f : JFrame) (acts : List Action), f.method = m → f.locked = none → f.entered = [] → (doReturn e (T.setTop f) acts (some (.int z))).1 = T.setFrames fs) : Steps p.tables e below (T.setTop (mkF m pc Ls (.int z :: rest))) (T.setFrames fs) := by
  have hm' : T.vm.method? m = some meth := X.method'
  have hn : narrow .int (.int z) = .int z := rfl
  show Steps p.tables e below (T.setTop { method := m, pc := pc, locals := Ls, stack := _ :: rest, locked := none }) _
  jvm_step X.here [X.here.top, hx, hd, hm', hret, hn]
  first | (intro acts; rw [hl _ acts rfl rfl rfl]) | rw [hl _ _ rfl rfl rfl]
  exact Steps.refl _
end New
end Jvm.RoadKit
namespace Jvm.Pilot.@@N@@
open Jvm Jvm.ClassFile Sem Op Lib Jvm.Free Jvm.Stand Jvm.LawKit Jvm.RoadKit Bundle Jvm.Pilot.@@N@@.Jvm.D

theorem pn_0 : plainName "com/example/millrace/millrace/runtime/aggregate/Int128" = true := by first | (simp [plainName, overriddenIn]; done) | decide +kernel
theorem d1_0 : decode prog_85_method_8_code 0 = .ok (.iload 4, 2) := by decide +kernel
theorem d1_2 : decode prog_85_method_8_code 2 = .ok (.ifCond .ne 9, 3) := by decide +kernel
theorem d1_5 : decode prog_85_method_8_code 5 = .ok (.lload_n 2, 1) := by decide +kernel
theorem d1_6 : decode prog_85_method_8_code 6 = .ok (.lstore 5, 2) := by decide +kernel
theorem d1_8 : decode prog_85_method_8_code 8 = .ok (.goto 36, 3) := by decide +kernel
theorem d1_11 : decode prog_85_method_8_code 11 = .ok (.iload 4, 2) := by decide +kernel
theorem d1_13 : decode prog_85_method_8_code 13 = .ok (.bipush 64, 2) := by decide +kernel
theorem d1_15 : decode prog_85_method_8_code 15 = .ok (.if_icmp .ge 20, 3) := by decide +kernel
theorem d1_18 : decode prog_85_method_8_code 18 = .ok (.lload_n 2, 1) := by decide +kernel
theorem d1_19 : decode prog_85_method_8_code 19 = .ok (.iload 4, 2) := by decide +kernel
theorem d1_21 : decode prog_85_method_8_code 21 = .ok (.lushr, 1) := by decide +kernel
theorem d1_22 : decode prog_85_method_8_code 22 = .ok (.lload_n 0, 1) := by decide +kernel
theorem d1_23 : decode prog_85_method_8_code 23 = .ok (.bipush 64, 2) := by decide +kernel
theorem d1_25 : decode prog_85_method_8_code 25 = .ok (.iload 4, 2) := by decide +kernel
theorem d1_27 : decode prog_85_method_8_code 27 = .ok (.isub, 1) := by decide +kernel
theorem d1_28 : decode prog_85_method_8_code 28 = .ok (.lshl, 1) := by decide +kernel
theorem d1_29 : decode prog_85_method_8_code 29 = .ok (.lor, 1) := by decide +kernel
theorem d1_30 : decode prog_85_method_8_code 30 = .ok (.lstore 5, 2) := by decide +kernel
theorem d1_32 : decode prog_85_method_8_code 32 = .ok (.goto 12, 3) := by decide +kernel
theorem d1_35 : decode prog_85_method_8_code 35 = .ok (.lload_n 0, 1) := by decide +kernel
theorem d1_36 : decode prog_85_method_8_code 36 = .ok (.iload 4, 2) := by decide +kernel
theorem d1_38 : decode prog_85_method_8_code 38 = .ok (.bipush 64, 2) := by decide +kernel
theorem d1_40 : decode prog_85_method_8_code 40 = .ok (.isub, 1) := by decide +kernel
theorem d1_41 : decode prog_85_method_8_code 41 = .ok (.lshr, 1) := by decide +kernel
theorem d1_42 : decode prog_85_method_8_code 42 = .ok (.lstore 5, 2) := by decide +kernel
theorem d1_44 : decode prog_85_method_8_code 44 = .ok (.lload 5, 2) := by decide +kernel
theorem d1_46 : decode prog_85_method_8_code 46 = .ok (.lreturn, 1) := by decide +kernel
theorem ef_1 (m : MethodId) (x0 : Int64) (x1 : Int64) (x2 : Int32) : entryFrame m #[(.long x0), (.long x1), (.int x2)] 7 = mkF m 0 #[.val (.long x0), .second, .val (.long x1), .second, .val (.int x2), .unset, .unset] [] := by first | (simp [entryFrame, mkF, argsToLocals, Value.category]; done) | rfl
def f1_l5_44 (q1 : Int64) (q2 : Int64) (p3 : Int32) : Int64 := (if p3 = (0 : Int32) then q2 else (if p3 < (64 : Int32) then (((q2.toUInt64 >>> (p3 &&& 0x3f).toInt64.toUInt64).toInt64) ||| (q1 <<< (((64 : Int32) - p3) &&& 0x3f).toInt64)) else (q1 >>> ((p3 - (64 : Int32)) &&& 0x3f).toInt64)))
def f1 (q1 : Int64) (q2 : Int64) (p3 : Int32) : Int64 := (f1_l5_44 q1 q2 p3)
def Q1 (Z : State) (q1 : Int64) (q2 : Int64) (p3 : Int32) (h0 : Heap) (n0 : Nat) (v : Option Value) (h : Heap) (L : List Loc) : Prop := v = some (.long (f1 q1 q2 p3)) ∧ Fr n0 L ∧ h = h0
set_option maxRecDepth 65536 in
set_option maxHeartbeats 40000000 in
theorem rm1 (l : Launch) (Z : State) (a0 : Array Value) (hw : ∀ d ∈ tables_1, d.before a0 Z = true) (ws : List Jvm.Cond) (q1 : Int64) (q2 : Int64) (p3 : Int32) (h0 : Heap) (n0 : Nat) (Z0 : n0 ≤ h0.size) :
    MetFree l (⟨"com/example/millrace/millrace/runtime/aggregate/Int128", "lowerShiftedRight", "(JJI)J"⟩ : MethodName) (head1 (Jvm.Cond.code (⟨"com/example/millrace/millrace/runtime/aggregate/Int128", "lowerShiftedRight", "(JJI)J"⟩ : MethodName) prog_85_method_8_code 7 (some .long) :: ws) ({ frames := 0, cells := 0, slots := 0, locals := 0 } : Room)) (fun a U => a = #[(.long q1), (.long q2), (.int p3)] ∧ Z.Warmed39 U.vm ∧ U.heap = h0) (fun _ _ _ _ _ => True) (fun _ U o U' => ∃ v L, o = .returned v ∧ Q1 Z q1 q2 p3 h0 n0 v U'.heap L ∧ FrameEnd U o U' L ({ frames := 0, cells := 0, slots := 0, locals := 0 } : Room).cells ({ frames := 0, cells := 0, slots := 0, locals := 0 } : Room).slots) := by
  refine MetFree.of_bodySF (plainFor_of_name pn_0) hisR ?_
  intro p e s m args below meth c s₁ Bd hml0 hP hK
  obtain ⟨rfl, hZ, hh⟩ := hP
  have hx := Bd.exec
  have hby := Bd.bytes
  have hml : c.maxLocals = 7 := hml0
  have hown : s.vm.findClass "com/example/millrace/millrace/runtime/aggregate/Int128" = some m.cls := findClass_of_methodNamed Bd.named
  have hnm := (name_of_methodNamed Bd.named Bd.method).1
  have X0 : Stand p l e ({ frames := 0, cells := 0, slots := 0, locals := 0 } : Room) s m #[(.long q1), (.long q2), (.int p3)] below meth c s₁ [] 0 0 := Stand.of_body Bd
  have e0 : s₁.heap = h0 := by rw [← hh, Bd.state]; rfl
  have N0 := Fr.nil n0
  have pre0 : ∀ t, Steps p.tables e below (s₁.setTop (mkF m 0 #[.val (.long q1), .second, .val (.long q2), .second, .val (.int p3), .unset, .unset] [])) t → Steps p.tables e below (s₁.setTop (entryFrame m #[(.long q1), (.long q2), (.int p3)] 7)) t := fun t k => castTop (ef_1 m q1 q2 p3) k
  have pre1 : ∀ t, Steps p.tables e below (s₁.setTop (mkF m 2 #[.val (.long q1), .second, .val (.long q2), .second, .val (.int p3), .unset, .unset] [(.int p3)])) t → Steps p.tables e below (s₁.setTop (entryFrame m #[(.long q1), (.long q2), (.int p3)] 7)) t := by
    intro t k
    refine pre0 t ?_
    show Steps p.tables e below (s₁.setTop (mkF m 0 #[.val (.long q1), .second, .val (.long q2), .second, .val (.int p3), .unset, .unset] [])) _
    refine XS.iload X0.here hx rfl (hb hby d1_0) rfl ?_
    exact k
  have pre2 : ∀ t, Steps p.tables e below (s₁.setTop (mkF m 44 #[.val (.long q1), .second, .val (.long q2), .second, .val (.int p3), .val (.long (f1_l5_44 q1 q2 p3)), .second] [])) t → Steps p.tables e below (s₁.setTop (entryFrame m #[(.long q1), (.long q2), (.int p3)] 7)) t := by
    intro t k
    by_cases hc2 : p3 = (0 : Int32)
    · have eq3 := (show (f1_l5_44 q1 q2 p3) = q2 from by unfold f1_l5_44; simp only [if_pos hc2])
      try rw [eq3] at k
      refine pre1 t ?_
      show Steps p.tables e below (s₁.setTop (mkF m 2 #[.val (.long q1), .second, .val (.long q2), .second, .val (.int p3), .unset, .unset] [(.int p3)])) _
      refine XS.ifNo X0.here hx rfl (hb hby d1_2) rfl ((if0 _ _).trans (teq hc2).2) ?_
      show Steps p.tables e below (s₁.setTop (mkF m 5 #[.val (.long q1), .second, .val (.long q2), .second, .val (.int p3), .unset, .unset] [])) _
      refine XS.lloadN X0.here hx rfl (hb hby d1_5) rfl ?_
      show Steps p.tables e below (s₁.setTop (mkF m 6 #[.val (.long q1), .second, .val (.long q2), .second, .val (.int p3), .unset, .unset] [(.long q2)])) _
      refine XS.lstore X0.here hx rfl (hb hby d1_6) rfl (l' := #[.val (.long q1), .second, .val (.long q2), .second, .val (.int p3), .val (.long q2), .second]) rfl ?_
      show Steps p.tables e below (s₁.setTop (mkF m 8 #[.val (.long q1), .second, .val (.long q2), .second, .val (.int p3), .val (.long q2), .second] [])) _
      refine XS.goto X0.here hx rfl (pc0 := 8) (pc' := 44) rfl (hb hby d1_8) (by decide) (by decide) ?_
      exact k
    · have pre4 : ∀ t, Steps p.tables e below (s₁.setTop (mkF m 15 #[.val (.long q1), .second, .val (.long q2), .second, .val (.int p3), .unset, .unset] [(.int (64 : Int32)), (.int p3)])) t → Steps p.tables e below (s₁.setTop (entryFrame m #[(.long q1), (.long q2), (.int p3)] 7)) t := by
        intro t k
        refine pre1 t ?_
        show Steps p.tables e below (s₁.setTop (mkF m 2 #[.val (.long q1), .second, .val (.long q2), .second, .val (.int p3), .unset, .unset] [(.int p3)])) _
        refine XS.ifYes X0.here hx rfl (pc0 := 2) (pc' := 11) rfl (hb hby d1_2) rfl ((if0 _ _).trans (feq hc2).2) (by decide) (by decide) ?_
        show Steps p.tables e below (s₁.setTop (mkF m 11 #[.val (.long q1), .second, .val (.long q2), .second, .val (.int p3), .unset, .unset] [])) _
        refine XS.iload X0.here hx rfl (hb hby d1_11) rfl ?_
        show Steps p.tables e below (s₁.setTop (mkF m 13 #[.val (.long q1), .second, .val (.long q2), .second, .val (.int p3), .unset, .unset] [(.int p3)])) _
        refine XS.bipush X0.here hx rfl (hb hby d1_13) ?_
        exact k
      by_cases hc15 : p3 < (64 : Int32)
      · have eq5 := (show (f1_l5_44 q1 q2 p3) = (((q2.toUInt64 >>> (p3 &&& 0x3f).toInt64.toUInt64).toInt64) ||| (q1 <<< (((64 : Int32) - p3) &&& 0x3f).toInt64)) from by unfold f1_l5_44; simp only [if_neg hc2, if_pos hc15])
        try rw [eq5] at k
        refine pre4 t ?_
        show Steps p.tables e below (s₁.setTop (mkF m 15 #[.val (.long q1), .second, .val (.long q2), .second, .val (.int p3), .unset, .unset] [(.int (64 : Int32)), (.int p3)])) _
        refine XS.icmpNo X0.here hx rfl (hb hby d1_15) rfl (tlt hc15).2.1 ?_
        show Steps p.tables e below (s₁.setTop (mkF m 18 #[.val (.long q1), .second, .val (.long q2), .second, .val (.int p3), .unset, .unset] [])) _
        refine XS.lloadN X0.here hx rfl (hb hby d1_18) rfl ?_
        show Steps p.tables e below (s₁.setTop (mkF m 19 #[.val (.long q1), .second, .val (.long q2), .second, .val (.int p3), .unset, .unset] [(.long q2)])) _
        refine XS.iload X0.here hx rfl (hb hby d1_19) rfl ?_
        show Steps p.tables e below (s₁.setTop (mkF m 21 #[.val (.long q1), .second, .val (.long q2), .second, .val (.int p3), .unset, .unset] [(.int p3), (.long q2)])) _
        refine XS.lushr X0.here hx rfl (hb hby d1_21) rfl ?_
        show Steps p.tables e below (s₁.setTop (mkF m 22 #[.val (.long q1), .second, .val (.long q2), .second, .val (.int p3), .unset, .unset] [(.long ((q2.toUInt64 >>> (p3 &&& 0x3f).toInt64.toUInt64).toInt64))])) _
        refine XS.lloadN X0.here hx rfl (hb hby d1_22) rfl ?_
        show Steps p.tables e below (s₁.setTop (mkF m 23 #[.val (.long q1), .second, .val (.long q2), .second, .val (.int p3), .unset, .unset] [(.long q1), (.long ((q2.toUInt64 >>> (p3 &&& 0x3f).toInt64.toUInt64).toInt64))])) _
        refine XS.bipush X0.here hx rfl (hb hby d1_23) ?_
        show Steps p.tables e below (s₁.setTop (mkF m 25 #[.val (.long q1), .second, .val (.long q2), .second, .val (.int p3), .unset, .unset] [(.int (64 : Int32)), (.long q1), (.long ((q2.toUInt64 >>> (p3 &&& 0x3f).toInt64.toUInt64).toInt64))])) _
        refine XS.iload X0.here hx rfl (hb hby d1_25) rfl ?_
        show Steps p.tables e below (s₁.setTop (mkF m 27 #[.val (.long q1), .second, .val (.long q2), .second, .val (.int p3), .unset, .unset] [(.int p3), (.int (64 : Int32)), (.long q1), (.long ((q2.toUInt64 >>> (p3 &&& 0x3f).toInt64.toUInt64).toInt64))])) _
        refine XS.isub X0.here hx rfl (hb hby d1_27) rfl ?_
        show Steps p.tables e below (s₁.setTop (mkF m 28 #[.val (.long q1), .second, .val (.long q2), .second, .val (.int p3), .unset, .unset] [(.int ((64 : Int32) - p3)), (.long q1), (.long ((q2.toUInt64 >>> (p3 &&& 0x3f).toInt64.toUInt64).toInt64))])) _
        refine XS.lshl X0.here hx rfl (hb hby d1_28) rfl ?_
        show Steps p.tables e below (s₁.setTop (mkF m 29 #[.val (.long q1), .second, .val (.long q2), .second, .val (.int p3), .unset, .unset] [(.long (q1 <<< (((64 : Int32) - p3) &&& 0x3f).toInt64)), (.long ((q2.toUInt64 >>> (p3 &&& 0x3f).toInt64.toUInt64).toInt64))])) _
        refine XS.lor X0.here hx rfl (hb hby d1_29) rfl ?_
        show Steps p.tables e below (s₁.setTop (mkF m 30 #[.val (.long q1), .second, .val (.long q2), .second, .val (.int p3), .unset, .unset] [(.long (((q2.toUInt64 >>> (p3 &&& 0x3f).toInt64.toUInt64).toInt64) ||| (q1 <<< (((64 : Int32) - p3) &&& 0x3f).toInt64)))])) _
        refine XS.lstore X0.here hx rfl (hb hby d1_30) rfl (l' := #[.val (.long q1), .second, .val (.long q2), .second, .val (.int p3), .val (.long (((q2.toUInt64 >>> (p3 &&& 0x3f).toInt64.toUInt64).toInt64) ||| (q1 <<< (((64 : Int32) - p3) &&& 0x3f).toInt64))), .second]) rfl ?_
        show Steps p.tables e below (s₁.setTop (mkF m 32 #[.val (.long q1), .second, .val (.long q2), .second, .val (.int p3), .val (.long (((q2.toUInt64 >>> (p3 &&& 0x3f).toInt64.toUInt64).toInt64) ||| (q1 <<< (((64 : Int32) - p3) &&& 0x3f).toInt64))), .second] [])) _
        refine XS.goto X0.here hx rfl (pc0 := 32) (pc' := 44) rfl (hb hby d1_32) (by decide) (by decide) ?_
        exact k
      · have eq6 := (show (f1_l5_44 q1 q2 p3) = (q1 >>> ((p3 - (64 : Int32)) &&& 0x3f).toInt64) from by unfold f1_l5_44; simp only [if_neg hc2, if_neg hc15])
        try rw [eq6] at k
        refine pre4 t ?_
        show Steps p.tables e below (s₁.setTop (mkF m 15 #[.val (.long q1), .second, .val (.long q2), .second, .val (.int p3), .unset, .unset] [(.int (64 : Int32)), (.int p3)])) _
        refine XS.icmpYes X0.here hx rfl (pc0 := 15) (pc' := 35) rfl (hb hby d1_15) rfl (flt hc15).2.1 (by decide) (by decide) ?_
        show Steps p.tables e below (s₁.setTop (mkF m 35 #[.val (.long q1), .second, .val (.long q2), .second, .val (.int p3), .unset, .unset] [])) _
        refine XS.lloadN X0.here hx rfl (hb hby d1_35) rfl ?_
        show Steps p.tables e below (s₁.setTop (mkF m 36 #[.val (.long q1), .second, .val (.long q2), .second, .val (.int p3), .unset, .unset] [(.long q1)])) _
        refine XS.iload X0.here hx rfl (hb hby d1_36) rfl ?_
        show Steps p.tables e below (s₁.setTop (mkF m 38 #[.val (.long q1), .second, .val (.long q2), .second, .val (.int p3), .unset, .unset] [(.int p3), (.long q1)])) _
        refine XS.bipush X0.here hx rfl (hb hby d1_38) ?_
        show Steps p.tables e below (s₁.setTop (mkF m 40 #[.val (.long q1), .second, .val (.long q2), .second, .val (.int p3), .unset, .unset] [(.int (64 : Int32)), (.int p3), (.long q1)])) _
        refine XS.isub X0.here hx rfl (hb hby d1_40) rfl ?_
        show Steps p.tables e below (s₁.setTop (mkF m 41 #[.val (.long q1), .second, .val (.long q2), .second, .val (.int p3), .unset, .unset] [(.int (p3 - (64 : Int32))), (.long q1)])) _
        refine XS.lshr X0.here hx rfl (hb hby d1_41) rfl ?_
        show Steps p.tables e below (s₁.setTop (mkF m 42 #[.val (.long q1), .second, .val (.long q2), .second, .val (.int p3), .unset, .unset] [(.long (q1 >>> ((p3 - (64 : Int32)) &&& 0x3f).toInt64))])) _
        refine XS.lstore X0.here hx rfl (hb hby d1_42) rfl (l' := #[.val (.long q1), .second, .val (.long q2), .second, .val (.int p3), .val (.long (q1 >>> ((p3 - (64 : Int32)) &&& 0x3f).toInt64)), .second]) rfl ?_
        exact k
  have eq7 : (f1 q1 q2 p3) = (f1_l5_44 q1 q2 p3) := rfl
  obtain ⟨fs, hr, hrun, hended, hW, hsame⟩ := X0.leave (v := some (.long (f1_l5_44 q1 q2 p3))) (fun h => by rw [Bd.returns] at h; cases h)
  refine ⟨_, _, pre2 _ ?_, hrun, hended, _, _, rfl, ?_, ⟨_, rfl⟩, hW, hsame.mono (by decide) (by decide)⟩
  · show Steps p.tables e below (s₁.setTop (mkF m 44 #[.val (.long q1), .second, .val (.long q2), .second, .val (.int p3), .val (.long (f1_l5_44 q1 q2 p3)), .second] [])) _
    refine XS.lload X0.here hx rfl (hb hby d1_44) rfl ?_
    show Steps p.tables e below (s₁.setTop (mkF m 46 #[.val (.long q1), .second, .val (.long q2), .second, .val (.int p3), .val (.long (f1_l5_44 q1 q2 p3)), .second] [(.long (f1_l5_44 q1 q2 p3))])) _
    exact X0.lreturnOut hx Bd.returns (hb hby d1_46) hr
  · show Q1 Z q1 q2 p3 h0 n0 _ s₁.heap _
    rw [e0]
    exact ⟨by rw [eq7], N0, rfl⟩
theorem pn_1 : plainName "com/example/millrace/millrace/runtime/aggregate/Int128LowerShiftedRightPinLaw" = true := by first | (simp [plainName, overriddenIn]; done) | decide +kernel
theorem d2_0 : decode method_2_code 0 = .ok (.iload 4, 2) := by decide +kernel
theorem d2_2 : decode method_2_code 2 = .ok (.bipush 64, 2) := by decide +kernel
theorem d2_4 : decode method_2_code 4 = .ok (.if_icmp .ge 14, 3) := by decide +kernel
theorem d2_7 : decode method_2_code 7 = .ok (.lload_n 2, 1) := by decide +kernel
theorem d2_8 : decode method_2_code 8 = .ok (.iload 4, 2) := by decide +kernel
theorem d2_10 : decode method_2_code 10 = .ok (.lushr, 1) := by decide +kernel
theorem d2_11 : decode method_2_code 11 = .ok (.lconst 1, 1) := by decide +kernel
theorem d2_12 : decode method_2_code 12 = .ok (.land, 1) := by decide +kernel
theorem d2_13 : decode method_2_code 13 = .ok (.lstore 5, 2) := by decide +kernel
theorem d2_15 : decode method_2_code 15 = .ok (.goto 33, 3) := by decide +kernel
theorem d2_18 : decode method_2_code 18 = .ok (.iload 4, 2) := by decide +kernel
theorem d2_20 : decode method_2_code 20 = .ok (.sipush 128, 3) := by decide +kernel
theorem d2_23 : decode method_2_code 23 = .ok (.if_icmp .ge 17, 3) := by decide +kernel
theorem d2_26 : decode method_2_code 26 = .ok (.lload_n 0, 1) := by decide +kernel
theorem d2_27 : decode method_2_code 27 = .ok (.iload 4, 2) := by decide +kernel
theorem d2_29 : decode method_2_code 29 = .ok (.bipush 64, 2) := by decide +kernel
theorem d2_31 : decode method_2_code 31 = .ok (.isub, 1) := by decide +kernel
theorem d2_32 : decode method_2_code 32 = .ok (.lushr, 1) := by decide +kernel
theorem d2_33 : decode method_2_code 33 = .ok (.lconst 1, 1) := by decide +kernel
theorem d2_34 : decode method_2_code 34 = .ok (.land, 1) := by decide +kernel
theorem d2_35 : decode method_2_code 35 = .ok (.lstore 5, 2) := by decide +kernel
theorem d2_37 : decode method_2_code 37 = .ok (.goto 11, 3) := by decide +kernel
theorem d2_40 : decode method_2_code 40 = .ok (.lload_n 0, 1) := by decide +kernel
theorem d2_41 : decode method_2_code 41 = .ok (.bipush 63, 2) := by decide +kernel
theorem d2_43 : decode method_2_code 43 = .ok (.lushr, 1) := by decide +kernel
theorem d2_44 : decode method_2_code 44 = .ok (.lconst 1, 1) := by decide +kernel
theorem d2_45 : decode method_2_code 45 = .ok (.land, 1) := by decide +kernel
theorem d2_46 : decode method_2_code 46 = .ok (.lstore 5, 2) := by decide +kernel
theorem d2_48 : decode method_2_code 48 = .ok (.lload 5, 2) := by decide +kernel
theorem d2_50 : decode method_2_code 50 = .ok (.lreturn, 1) := by decide +kernel
theorem ef_2 (m : MethodId) (x0 : Int64) (x1 : Int64) (x2 : Int32) : entryFrame m #[(.long x0), (.long x1), (.int x2)] 7 = mkF m 0 #[.val (.long x0), .second, .val (.long x1), .second, .val (.int x2), .unset, .unset] [] := by first | (simp [entryFrame, mkF, argsToLocals, Value.category]; done) | rfl
def f2_l5_48 (q1 : Int64) (q2 : Int64) (p3 : Int32) : Int64 := (if p3 < (64 : Int32) then (((q2.toUInt64 >>> (p3 &&& 0x3f).toInt64.toUInt64).toInt64) &&& (1 : Int64)) else (if p3 < (128 : Int32) then (((q1.toUInt64 >>> ((p3 - (64 : Int32)) &&& 0x3f).toInt64.toUInt64).toInt64) &&& (1 : Int64)) else (((q1.toUInt64 >>> ((63 : Int32) &&& 0x3f).toInt64.toUInt64).toInt64) &&& (1 : Int64))))
def f2 (q1 : Int64) (q2 : Int64) (p3 : Int32) : Int64 := (f2_l5_48 q1 q2 p3)
def Q2 (Z : State) (q1 : Int64) (q2 : Int64) (p3 : Int32) (h0 : Heap) (n0 : Nat) (v : Option Value) (h : Heap) (L : List Loc) : Prop := v = some (.long (f2 q1 q2 p3)) ∧ Fr n0 L ∧ h = h0
set_option maxRecDepth 65536 in
set_option maxHeartbeats 40000000 in
theorem rm2 (l : Launch) (Z : State) (a0 : Array Value) (hw : ∀ d ∈ tables_1, d.before a0 Z = true) (ws : List Jvm.Cond) (q1 : Int64) (q2 : Int64) (p3 : Int32) (h0 : Heap) (n0 : Nat) (Z0 : n0 ≤ h0.size) :
    MetFree l (⟨"com/example/millrace/millrace/runtime/aggregate/Int128LowerShiftedRightPinLaw", "bitOfValue", "(JJI)J"⟩ : MethodName) (head1 (Jvm.Cond.code (⟨"com/example/millrace/millrace/runtime/aggregate/Int128LowerShiftedRightPinLaw", "bitOfValue", "(JJI)J"⟩ : MethodName) method_2_code 7 (some .long) :: ws) ({ frames := 0, cells := 0, slots := 0, locals := 0 } : Room)) (fun a U => a = #[(.long q1), (.long q2), (.int p3)] ∧ Z.Warmed39 U.vm ∧ U.heap = h0) (fun _ _ _ _ _ => True) (fun _ U o U' => ∃ v L, o = .returned v ∧ Q2 Z q1 q2 p3 h0 n0 v U'.heap L ∧ FrameEnd U o U' L ({ frames := 0, cells := 0, slots := 0, locals := 0 } : Room).cells ({ frames := 0, cells := 0, slots := 0, locals := 0 } : Room).slots) := by
  refine MetFree.of_bodySF (plainFor_of_name pn_1) hisR ?_
  intro p e s m args below meth c s₁ Bd hml0 hP hK
  obtain ⟨rfl, hZ, hh⟩ := hP
  have hx := Bd.exec
  have hby := Bd.bytes
  have hml : c.maxLocals = 7 := hml0
  have hown : s.vm.findClass "com/example/millrace/millrace/runtime/aggregate/Int128LowerShiftedRightPinLaw" = some m.cls := findClass_of_methodNamed Bd.named
  have hnm := (name_of_methodNamed Bd.named Bd.method).1
  have X0 : Stand p l e ({ frames := 0, cells := 0, slots := 0, locals := 0 } : Room) s m #[(.long q1), (.long q2), (.int p3)] below meth c s₁ [] 0 0 := Stand.of_body Bd
  have e0 : s₁.heap = h0 := by rw [← hh, Bd.state]; rfl
  have N0 := Fr.nil n0
  have pre0 : ∀ t, Steps p.tables e below (s₁.setTop (mkF m 0 #[.val (.long q1), .second, .val (.long q2), .second, .val (.int p3), .unset, .unset] [])) t → Steps p.tables e below (s₁.setTop (entryFrame m #[(.long q1), (.long q2), (.int p3)] 7)) t := fun t k => castTop (ef_2 m q1 q2 p3) k
  have pre1 : ∀ t, Steps p.tables e below (s₁.setTop (mkF m 4 #[.val (.long q1), .second, .val (.long q2), .second, .val (.int p3), .unset, .unset] [(.int (64 : Int32)), (.int p3)])) t → Steps p.tables e below (s₁.setTop (entryFrame m #[(.long q1), (.long q2), (.int p3)] 7)) t := by
    intro t k
    refine pre0 t ?_
    show Steps p.tables e below (s₁.setTop (mkF m 0 #[.val (.long q1), .second, .val (.long q2), .second, .val (.int p3), .unset, .unset] [])) _
    refine XS.iload X0.here hx rfl (hb hby d2_0) rfl ?_
    show Steps p.tables e below (s₁.setTop (mkF m 2 #[.val (.long q1), .second, .val (.long q2), .second, .val (.int p3), .unset, .unset] [(.int p3)])) _
    refine XS.bipush X0.here hx rfl (hb hby d2_2) ?_
    exact k
  have pre2 : ∀ t, Steps p.tables e below (s₁.setTop (mkF m 48 #[.val (.long q1), .second, .val (.long q2), .second, .val (.int p3), .val (.long (f2_l5_48 q1 q2 p3)), .second] [])) t → Steps p.tables e below (s₁.setTop (entryFrame m #[(.long q1), (.long q2), (.int p3)] 7)) t := by
    intro t k
    by_cases hc4 : p3 < (64 : Int32)
    · have eq3 := (show (f2_l5_48 q1 q2 p3) = (((q2.toUInt64 >>> (p3 &&& 0x3f).toInt64.toUInt64).toInt64) &&& (1 : Int64)) from by unfold f2_l5_48; simp only [if_pos hc4])
      try rw [eq3] at k
      refine pre1 t ?_
      show Steps p.tables e below (s₁.setTop (mkF m 4 #[.val (.long q1), .second, .val (.long q2), .second, .val (.int p3), .unset, .unset] [(.int (64 : Int32)), (.int p3)])) _
      refine XS.icmpNo X0.here hx rfl (hb hby d2_4) rfl (tlt hc4).2.1 ?_
      show Steps p.tables e below (s₁.setTop (mkF m 7 #[.val (.long q1), .second, .val (.long q2), .second, .val (.int p3), .unset, .unset] [])) _
      refine XS.lloadN X0.here hx rfl (hb hby d2_7) rfl ?_
      show Steps p.tables e below (s₁.setTop (mkF m 8 #[.val (.long q1), .second, .val (.long q2), .second, .val (.int p3), .unset, .unset] [(.long q2)])) _
      refine XS.iload X0.here hx rfl (hb hby d2_8) rfl ?_
      show Steps p.tables e below (s₁.setTop (mkF m 10 #[.val (.long q1), .second, .val (.long q2), .second, .val (.int p3), .unset, .unset] [(.int p3), (.long q2)])) _
      refine XS.lushr X0.here hx rfl (hb hby d2_10) rfl ?_
      show Steps p.tables e below (s₁.setTop (mkF m 11 #[.val (.long q1), .second, .val (.long q2), .second, .val (.int p3), .unset, .unset] [(.long ((q2.toUInt64 >>> (p3 &&& 0x3f).toInt64.toUInt64).toInt64))])) _
      refine XS.lconst X0.here hx rfl (hb hby d2_11) ?_
      show Steps p.tables e below (s₁.setTop (mkF m 12 #[.val (.long q1), .second, .val (.long q2), .second, .val (.int p3), .unset, .unset] [(.long (1 : Int64)), (.long ((q2.toUInt64 >>> (p3 &&& 0x3f).toInt64.toUInt64).toInt64))])) _
      refine XS.land X0.here hx rfl (hb hby d2_12) rfl ?_
      show Steps p.tables e below (s₁.setTop (mkF m 13 #[.val (.long q1), .second, .val (.long q2), .second, .val (.int p3), .unset, .unset] [(.long (((q2.toUInt64 >>> (p3 &&& 0x3f).toInt64.toUInt64).toInt64) &&& (1 : Int64)))])) _
      refine XS.lstore X0.here hx rfl (hb hby d2_13) rfl (l' := #[.val (.long q1), .second, .val (.long q2), .second, .val (.int p3), .val (.long (((q2.toUInt64 >>> (p3 &&& 0x3f).toInt64.toUInt64).toInt64) &&& (1 : Int64))), .second]) rfl ?_
      show Steps p.tables e below (s₁.setTop (mkF m 15 #[.val (.long q1), .second, .val (.long q2), .second, .val (.int p3), .val (.long (((q2.toUInt64 >>> (p3 &&& 0x3f).toInt64.toUInt64).toInt64) &&& (1 : Int64))), .second] [])) _
      refine XS.goto X0.here hx rfl (pc0 := 15) (pc' := 48) rfl (hb hby d2_15) (by decide) (by decide) ?_
      exact k
    · have pre4 : ∀ t, Steps p.tables e below (s₁.setTop (mkF m 23 #[.val (.long q1), .second, .val (.long q2), .second, .val (.int p3), .unset, .unset] [(.int (128 : Int32)), (.int p3)])) t → Steps p.tables e below (s₁.setTop (entryFrame m #[(.long q1), (.long q2), (.int p3)] 7)) t := by
        intro t k
        refine pre1 t ?_
        show Steps p.tables e below (s₁.setTop (mkF m 4 #[.val (.long q1), .second, .val (.long q2), .second, .val (.int p3), .unset, .unset] [(.int (64 : Int32)), (.int p3)])) _
        refine XS.icmpYes X0.here hx rfl (pc0 := 4) (pc' := 18) rfl (hb hby d2_4) rfl (flt hc4).2.1 (by decide) (by decide) ?_
        show Steps p.tables e below (s₁.setTop (mkF m 18 #[.val (.long q1), .second, .val (.long q2), .second, .val (.int p3), .unset, .unset] [])) _
        refine XS.iload X0.here hx rfl (hb hby d2_18) rfl ?_
        show Steps p.tables e below (s₁.setTop (mkF m 20 #[.val (.long q1), .second, .val (.long q2), .second, .val (.int p3), .unset, .unset] [(.int p3)])) _
        refine XS.sipush X0.here hx rfl (hb hby d2_20) ?_
        exact k
      by_cases hc23 : p3 < (128 : Int32)
      · have eq5 := (show (f2_l5_48 q1 q2 p3) = (((q1.toUInt64 >>> ((p3 - (64 : Int32)) &&& 0x3f).toInt64.toUInt64).toInt64) &&& (1 : Int64)) from by unfold f2_l5_48; simp only [if_neg hc4, if_pos hc23])
        try rw [eq5] at k
        refine pre4 t ?_
        show Steps p.tables e below (s₁.setTop (mkF m 23 #[.val (.long q1), .second, .val (.long q2), .second, .val (.int p3), .unset, .unset] [(.int (128 : Int32)), (.int p3)])) _
        refine XS.icmpNo X0.here hx rfl (hb hby d2_23) rfl (tlt hc23).2.1 ?_
        show Steps p.tables e below (s₁.setTop (mkF m 26 #[.val (.long q1), .second, .val (.long q2), .second, .val (.int p3), .unset, .unset] [])) _
        refine XS.lloadN X0.here hx rfl (hb hby d2_26) rfl ?_
        show Steps p.tables e below (s₁.setTop (mkF m 27 #[.val (.long q1), .second, .val (.long q2), .second, .val (.int p3), .unset, .unset] [(.long q1)])) _
        refine XS.iload X0.here hx rfl (hb hby d2_27) rfl ?_
        show Steps p.tables e below (s₁.setTop (mkF m 29 #[.val (.long q1), .second, .val (.long q2), .second, .val (.int p3), .unset, .unset] [(.int p3), (.long q1)])) _
        refine XS.bipush X0.here hx rfl (hb hby d2_29) ?_
        show Steps p.tables e below (s₁.setTop (mkF m 31 #[.val (.long q1), .second, .val (.long q2), .second, .val (.int p3), .unset, .unset] [(.int (64 : Int32)), (.int p3), (.long q1)])) _
        refine XS.isub X0.here hx rfl (hb hby d2_31) rfl ?_
        show Steps p.tables e below (s₁.setTop (mkF m 32 #[.val (.long q1), .second, .val (.long q2), .second, .val (.int p3), .unset, .unset] [(.int (p3 - (64 : Int32))), (.long q1)])) _
        refine XS.lushr X0.here hx rfl (hb hby d2_32) rfl ?_
        show Steps p.tables e below (s₁.setTop (mkF m 33 #[.val (.long q1), .second, .val (.long q2), .second, .val (.int p3), .unset, .unset] [(.long ((q1.toUInt64 >>> ((p3 - (64 : Int32)) &&& 0x3f).toInt64.toUInt64).toInt64))])) _
        refine XS.lconst X0.here hx rfl (hb hby d2_33) ?_
        show Steps p.tables e below (s₁.setTop (mkF m 34 #[.val (.long q1), .second, .val (.long q2), .second, .val (.int p3), .unset, .unset] [(.long (1 : Int64)), (.long ((q1.toUInt64 >>> ((p3 - (64 : Int32)) &&& 0x3f).toInt64.toUInt64).toInt64))])) _
        refine XS.land X0.here hx rfl (hb hby d2_34) rfl ?_
        show Steps p.tables e below (s₁.setTop (mkF m 35 #[.val (.long q1), .second, .val (.long q2), .second, .val (.int p3), .unset, .unset] [(.long (((q1.toUInt64 >>> ((p3 - (64 : Int32)) &&& 0x3f).toInt64.toUInt64).toInt64) &&& (1 : Int64)))])) _
        refine XS.lstore X0.here hx rfl (hb hby d2_35) rfl (l' := #[.val (.long q1), .second, .val (.long q2), .second, .val (.int p3), .val (.long (((q1.toUInt64 >>> ((p3 - (64 : Int32)) &&& 0x3f).toInt64.toUInt64).toInt64) &&& (1 : Int64))), .second]) rfl ?_
        show Steps p.tables e below (s₁.setTop (mkF m 37 #[.val (.long q1), .second, .val (.long q2), .second, .val (.int p3), .val (.long (((q1.toUInt64 >>> ((p3 - (64 : Int32)) &&& 0x3f).toInt64.toUInt64).toInt64) &&& (1 : Int64))), .second] [])) _
        refine XS.goto X0.here hx rfl (pc0 := 37) (pc' := 48) rfl (hb hby d2_37) (by decide) (by decide) ?_
        exact k
      · have eq6 := (show (f2_l5_48 q1 q2 p3) = (((q1.toUInt64 >>> ((63 : Int32) &&& 0x3f).toInt64.toUInt64).toInt64) &&& (1 : Int64)) from by unfold f2_l5_48; simp only [if_neg hc4, if_neg hc23])
        try rw [eq6] at k
        refine pre4 t ?_
        show Steps p.tables e below (s₁.setTop (mkF m 23 #[.val (.long q1), .second, .val (.long q2), .second, .val (.int p3), .unset, .unset] [(.int (128 : Int32)), (.int p3)])) _
        refine XS.icmpYes X0.here hx rfl (pc0 := 23) (pc' := 40) rfl (hb hby d2_23) rfl (flt hc23).2.1 (by decide) (by decide) ?_
        show Steps p.tables e below (s₁.setTop (mkF m 40 #[.val (.long q1), .second, .val (.long q2), .second, .val (.int p3), .unset, .unset] [])) _
        refine XS.lloadN X0.here hx rfl (hb hby d2_40) rfl ?_
        show Steps p.tables e below (s₁.setTop (mkF m 41 #[.val (.long q1), .second, .val (.long q2), .second, .val (.int p3), .unset, .unset] [(.long q1)])) _
        refine XS.bipush X0.here hx rfl (hb hby d2_41) ?_
        show Steps p.tables e below (s₁.setTop (mkF m 43 #[.val (.long q1), .second, .val (.long q2), .second, .val (.int p3), .unset, .unset] [(.int (63 : Int32)), (.long q1)])) _
        refine XS.lushr X0.here hx rfl (hb hby d2_43) rfl ?_
        show Steps p.tables e below (s₁.setTop (mkF m 44 #[.val (.long q1), .second, .val (.long q2), .second, .val (.int p3), .unset, .unset] [(.long ((q1.toUInt64 >>> ((63 : Int32) &&& 0x3f).toInt64.toUInt64).toInt64))])) _
        refine XS.lconst X0.here hx rfl (hb hby d2_44) ?_
        show Steps p.tables e below (s₁.setTop (mkF m 45 #[.val (.long q1), .second, .val (.long q2), .second, .val (.int p3), .unset, .unset] [(.long (1 : Int64)), (.long ((q1.toUInt64 >>> ((63 : Int32) &&& 0x3f).toInt64.toUInt64).toInt64))])) _
        refine XS.land X0.here hx rfl (hb hby d2_45) rfl ?_
        show Steps p.tables e below (s₁.setTop (mkF m 46 #[.val (.long q1), .second, .val (.long q2), .second, .val (.int p3), .unset, .unset] [(.long (((q1.toUInt64 >>> ((63 : Int32) &&& 0x3f).toInt64.toUInt64).toInt64) &&& (1 : Int64)))])) _
        refine XS.lstore X0.here hx rfl (hb hby d2_46) rfl (l' := #[.val (.long q1), .second, .val (.long q2), .second, .val (.int p3), .val (.long (((q1.toUInt64 >>> ((63 : Int32) &&& 0x3f).toInt64.toUInt64).toInt64) &&& (1 : Int64))), .second]) rfl ?_
        exact k
  have eq7 : (f2 q1 q2 p3) = (f2_l5_48 q1 q2 p3) := rfl
  obtain ⟨fs, hr, hrun, hended, hW, hsame⟩ := X0.leave (v := some (.long (f2_l5_48 q1 q2 p3))) (fun h => by rw [Bd.returns] at h; cases h)
  refine ⟨_, _, pre2 _ ?_, hrun, hended, _, _, rfl, ?_, ⟨_, rfl⟩, hW, hsame.mono (by decide) (by decide)⟩
  · show Steps p.tables e below (s₁.setTop (mkF m 48 #[.val (.long q1), .second, .val (.long q2), .second, .val (.int p3), .val (.long (f2_l5_48 q1 q2 p3)), .second] [])) _
    refine XS.lload X0.here hx rfl (hb hby d2_48) rfl ?_
    show Steps p.tables e below (s₁.setTop (mkF m 50 #[.val (.long q1), .second, .val (.long q2), .second, .val (.int p3), .val (.long (f2_l5_48 q1 q2 p3)), .second] [(.long (f2_l5_48 q1 q2 p3))])) _
    exact X0.lreturnOut hx Bd.returns (hb hby d2_50) hr
  · show Q2 Z q1 q2 p3 h0 n0 _ s₁.heap _
    rw [e0]
    exact ⟨by rw [eq7], N0, rfl⟩
theorem pd_0 : parseMethodDescriptor "(JJI)J" = some ⟨[.long, .long, .int], some .long⟩ := by decide +kernel
theorem ef_0 (m : MethodId) (x0 : Int64) (x1 : Int64) (x2 : Int32) (x3 : Int32) : entryFrame m #[(.long x0), (.long x1), (.int x2), (.int x3)] maxLocals = mkF m 0 #[.val (.long x0), .second, .val (.long x1), .second, .val (.int x2), .val (.int x3), .unset, .unset, .unset, .unset, .unset, .unset, .unset, .unset] [] := by first | (simp [entryFrame, mkF, argsToLocals, Value.category, maxLocals]; done) | rfl
def f0 (q1 : Int64) (q2 : Int64) (p3 : Int32) (p4 : Int32) : Int32 := (if ((((f1 q1 q2 (p3 &&& (127 : Int32))).toUInt64 >>> ((p4 &&& (63 : Int32)) &&& 0x3f).toInt64.toUInt64).toInt64) &&& (1 : Int64)) = (f2 q1 q2 ((p3 &&& (127 : Int32)) + (p4 &&& (63 : Int32)))) then (1 : Int32) else (0 : Int32))
def Q0 (Z : State) (q1 : Int64) (q2 : Int64) (p3 : Int32) (p4 : Int32) (h0 : Heap) (n0 : Nat) (v : Option Value) (h : Heap) (L : List Loc) : Prop := v = some (.int (f0 q1 q2 p3 p4)) ∧ Fr n0 L ∧ True
set_option maxRecDepth 65536 in
set_option maxHeartbeats 40000000 in
theorem rm0 (l : Launch) (Z : State) (a0 : Array Value) (hw : ∀ d ∈ tables_1, d.before a0 Z = true) (ws : List Jvm.Cond) (q1 : Int64) (q2 : Int64) (p3 : Int32) (p4 : Int32) (h0 : Heap) (n0 : Nat) (Z0 : n0 ≤ h0.size) :
    MetFree l x (head1 (Jvm.Cond.code x code maxLocals ret :: ws) room_1) (fun a U => a = #[(.long q1), (.long q2), (.int p3), (.int p4)] ∧ Z.Warmed39 U.vm ∧ U.heap = h0) (fun _ _ _ _ _ => True) (fun _ U o U' => ∃ v L, o = .returned v ∧ Q0 Z q1 q2 p3 p4 h0 n0 v U'.heap L ∧ FrameEnd U o U' L room_1.cells room_1.slots) := by
  refine MetFree.of_bodySF (plainFor_of_name pn_1) hisR ?_
  intro p e s m args below meth c s₁ Bd hml0 hP hK
  obtain ⟨rfl, hZ, hh⟩ := hP
  have hx := Bd.exec
  have hby := Bd.bytes
  have hml : c.maxLocals = 14 := hml0
  have hown : s.vm.findClass "com/example/millrace/millrace/runtime/aggregate/Int128LowerShiftedRightPinLaw" = some m.cls := findClass_of_methodNamed Bd.named
  have hnm := (name_of_methodNamed Bd.named Bd.method).1
  have X0 : Stand p l e room_1 s m #[(.long q1), (.long q2), (.int p3), (.int p4)] below meth c s₁ [] 0 0 := Stand.of_body Bd
  have e0 : s₁.heap = h0 := by rw [← hh, Bd.state]; rfl
  have N0 := Fr.nil n0
  have pre0 : ∀ t, Steps p.tables e below (s₁.setTop (mkF m 0 #[.val (.long q1), .second, .val (.long q2), .second, .val (.int p3), .val (.int p4), .unset, .unset, .unset, .unset, .unset, .unset, .unset, .unset] [])) t → Steps p.tables e below (s₁.setTop (entryFrame m #[(.long q1), (.long q2), (.int p3), (.int p4)] maxLocals)) t := fun t k => castTop (ef_0 m q1 q2 p3 p4) k
  obtain ⟨_, _, ⟨T5, L5, k5, n5⟩, -, X5, ⟨Lc5, hQ5, l5, y5, z5⟩, st5⟩ := Jvm.LawKit.callS X0 hx (y := (⟨"com/example/millrace/millrace/runtime/aggregate/Int128", "lowerShiftedRight", "(JJI)J"⟩ : MethodName)) hown (mvT hZ (hw _ (List.mem_of_getElem? (i := 0) rfl))) (mvT hZ (hw _ (List.mem_of_getElem? (i := 1) rfl))) (mvT hZ (hw _ (List.mem_of_getElem? (i := 2) rfl))) (mvT hZ (hw _ (List.mem_of_getElem? (i := 3) rfl))) (by decide) (backOf (W := 0) (rm1 l Z a0 hw [] q1 q2 (p3 &&& (127 : Int32)) h0 n0 Z0 ) hZ (hw _ (List.mem_of_getElem? (i := 3) rfl)) (hw _ (List.mem_of_getElem? (i := 2) rfl)) (by decide) (by decide)) (g := (mkF m 18 #[.val (.long q1), .second, .val (.long q2), .second, .val (.int p3), .val (.int p4), .val (.int (p3 &&& (127 : Int32))), .val (.int (p4 &&& (63 : Int32))), .unset, .unset, .unset, .unset, .unset, .unset] [(.int (p3 &&& (127 : Int32))), (.long q2), (.long q1)])) rfl (by rw [hml]; rfl) (argsL := [(.long q1), (.long q2), (.int (p3 &&& (127 : Int32)))]) (rest := []) (lenOf pd_0 rfl) rfl (by show 2 * 0 + _ ≤ _; exact Nat.le_of_eq rfl) (hb hby at_18) (fun _ _ => ⟨rfl, e0, (by decide : 0 + 0 ≤ _), (by decide : 0 + 0 ≤ _)⟩)
  dsimp only [Pt.U, Pt.locs, Pt.cells, Pt.slots] at X5 l5 y5 z5 st5 hQ5
  subst l5 y5 z5
  obtain ⟨rfl, N5q, e5⟩ := hQ5
  have N5 := Fr.app N0 N5q
  obtain ⟨_, _, ⟨T6, L6, k6, n6⟩, -, X6, ⟨Lc6, hQ6, l6, y6, z6⟩, st6⟩ := Jvm.LawKit.callS X5 hx (y := (⟨"com/example/millrace/millrace/runtime/aggregate/Int128LowerShiftedRightPinLaw", "bitOfValue", "(JJI)J"⟩ : MethodName)) hown (mvT hZ (hw _ (List.mem_of_getElem? (i := 4) rfl))) (mvT hZ (hw _ (List.mem_of_getElem? (i := 5) rfl))) (mvT hZ (hw _ (List.mem_of_getElem? (i := 6) rfl))) (mvT hZ (hw _ (List.mem_of_getElem? (i := 7) rfl))) (by decide) (backOf (W := 0) (rm2 l Z a0 hw [] q1 q2 ((p3 &&& (127 : Int32)) + (p4 &&& (63 : Int32))) h0 n0 Z0 ) hZ (hw _ (List.mem_of_getElem? (i := 7) rfl)) (hw _ (List.mem_of_getElem? (i := 6) rfl)) (by decide) (by decide)) (g := (mkF m 39 #[.val (.long q1), .second, .val (.long q2), .second, .val (.int p3), .val (.int p4), .val (.int (p3 &&& (127 : Int32))), .val (.int (p4 &&& (63 : Int32))), .val (.long (f1 q1 q2 (p3 &&& (127 : Int32)))), .second, .val (.long ((((f1 q1 q2 (p3 &&& (127 : Int32))).toUInt64 >>> ((p4 &&& (63 : Int32)) &&& 0x3f).toInt64.toUInt64).toInt64) &&& (1 : Int64))), .second, .unset, .unset] [(.int ((p3 &&& (127 : Int32)) + (p4 &&& (63 : Int32)))), (.long q2), (.long q1)])) rfl (by rw [hml]; rfl) (argsL := [(.long q1), (.long q2), (.int ((p3 &&& (127 : Int32)) + (p4 &&& (63 : Int32))))]) (rest := []) (lenOf pd_0 rfl) rfl (by show 2 * 0 + _ ≤ _; exact Nat.le_of_eq rfl) (hb hby at_39) (fun _ _ => ⟨rfl, e5, (by decide : 0 + 0 ≤ _), (by decide : 0 + 0 ≤ _)⟩)
  dsimp only [Pt.U, Pt.locs, Pt.cells, Pt.slots] at X6 l6 y6 z6 st6 hQ6
  subst l6 y6 z6
  obtain ⟨rfl, N6q, e6⟩ := hQ6
  have N6 := Fr.app N5 N6q
  have pre1 : ∀ t, Steps p.tables e below (T6.setTop (mkF m 49 #[.val (.long q1), .second, .val (.long q2), .second, .val (.int p3), .val (.int p4), .val (.int (p3 &&& (127 : Int32))), .val (.int (p4 &&& (63 : Int32))), .val (.long (f1 q1 q2 (p3 &&& (127 : Int32)))), .second, .val (.long ((((f1 q1 q2 (p3 &&& (127 : Int32))).toUInt64 >>> ((p4 &&& (63 : Int32)) &&& 0x3f).toInt64.toUInt64).toInt64) &&& (1 : Int64))), .second, .val (.long (f2 q1 q2 ((p3 &&& (127 : Int32)) + (p4 &&& (63 : Int32))))), .second] [(.int (lcmpW ((((f1 q1 q2 (p3 &&& (127 : Int32))).toUInt64 >>> ((p4 &&& (63 : Int32)) &&& 0x3f).toInt64.toUInt64).toInt64) &&& (1 : Int64)) (f2 q1 q2 ((p3 &&& (127 : Int32)) + (p4 &&& (63 : Int32))))))])) t → Steps p.tables e below (s₁.setTop (entryFrame m #[(.long q1), (.long q2), (.int p3), (.int p4)] maxLocals)) t := by
    intro t k
    refine pre0 t ?_
    show Steps p.tables e below (s₁.setTop (mkF m 0 #[.val (.long q1), .second, .val (.long q2), .second, .val (.int p3), .val (.int p4), .unset, .unset, .unset, .unset, .unset, .unset, .unset, .unset] [])) _
    refine XS.iload X0.here hx rfl (hb hby at_0) rfl ?_
    show Steps p.tables e below (s₁.setTop (mkF m 2 #[.val (.long q1), .second, .val (.long q2), .second, .val (.int p3), .val (.int p4), .unset, .unset, .unset, .unset, .unset, .unset, .unset, .unset] [(.int p3)])) _
    refine XS.bipush X0.here hx rfl (hb hby at_2) ?_
    show Steps p.tables e below (s₁.setTop (mkF m 4 #[.val (.long q1), .second, .val (.long q2), .second, .val (.int p3), .val (.int p4), .unset, .unset, .unset, .unset, .unset, .unset, .unset, .unset] [(.int (127 : Int32)), (.int p3)])) _
    refine XS.iand X0.here hx rfl (hb hby at_4) rfl ?_
    show Steps p.tables e below (s₁.setTop (mkF m 5 #[.val (.long q1), .second, .val (.long q2), .second, .val (.int p3), .val (.int p4), .unset, .unset, .unset, .unset, .unset, .unset, .unset, .unset] [(.int (p3 &&& (127 : Int32)))])) _
    refine XS.istore X0.here hx rfl (hb hby at_5) rfl (l' := #[.val (.long q1), .second, .val (.long q2), .second, .val (.int p3), .val (.int p4), .val (.int (p3 &&& (127 : Int32))), .unset, .unset, .unset, .unset, .unset, .unset, .unset]) rfl ?_
    show Steps p.tables e below (s₁.setTop (mkF m 7 #[.val (.long q1), .second, .val (.long q2), .second, .val (.int p3), .val (.int p4), .val (.int (p3 &&& (127 : Int32))), .unset, .unset, .unset, .unset, .unset, .unset, .unset] [])) _
    refine XS.iload X0.here hx rfl (hb hby at_7) rfl ?_
    show Steps p.tables e below (s₁.setTop (mkF m 9 #[.val (.long q1), .second, .val (.long q2), .second, .val (.int p3), .val (.int p4), .val (.int (p3 &&& (127 : Int32))), .unset, .unset, .unset, .unset, .unset, .unset, .unset] [(.int p4)])) _
    refine XS.bipush X0.here hx rfl (hb hby at_9) ?_
    show Steps p.tables e below (s₁.setTop (mkF m 11 #[.val (.long q1), .second, .val (.long q2), .second, .val (.int p3), .val (.int p4), .val (.int (p3 &&& (127 : Int32))), .unset, .unset, .unset, .unset, .unset, .unset, .unset] [(.int (63 : Int32)), (.int p4)])) _
    refine XS.iand X0.here hx rfl (hb hby at_11) rfl ?_
    show Steps p.tables e below (s₁.setTop (mkF m 12 #[.val (.long q1), .second, .val (.long q2), .second, .val (.int p3), .val (.int p4), .val (.int (p3 &&& (127 : Int32))), .unset, .unset, .unset, .unset, .unset, .unset, .unset] [(.int (p4 &&& (63 : Int32)))])) _
    refine XS.istore X0.here hx rfl (hb hby at_12) rfl (l' := #[.val (.long q1), .second, .val (.long q2), .second, .val (.int p3), .val (.int p4), .val (.int (p3 &&& (127 : Int32))), .val (.int (p4 &&& (63 : Int32))), .unset, .unset, .unset, .unset, .unset, .unset]) rfl ?_
    show Steps p.tables e below (s₁.setTop (mkF m 14 #[.val (.long q1), .second, .val (.long q2), .second, .val (.int p3), .val (.int p4), .val (.int (p3 &&& (127 : Int32))), .val (.int (p4 &&& (63 : Int32))), .unset, .unset, .unset, .unset, .unset, .unset] [])) _
    refine XS.lloadN X0.here hx rfl (hb hby at_14) rfl ?_
    show Steps p.tables e below (s₁.setTop (mkF m 15 #[.val (.long q1), .second, .val (.long q2), .second, .val (.int p3), .val (.int p4), .val (.int (p3 &&& (127 : Int32))), .val (.int (p4 &&& (63 : Int32))), .unset, .unset, .unset, .unset, .unset, .unset] [(.long q1)])) _
    refine XS.lloadN X0.here hx rfl (hb hby at_15) rfl ?_
    show Steps p.tables e below (s₁.setTop (mkF m 16 #[.val (.long q1), .second, .val (.long q2), .second, .val (.int p3), .val (.int p4), .val (.int (p3 &&& (127 : Int32))), .val (.int (p4 &&& (63 : Int32))), .unset, .unset, .unset, .unset, .unset, .unset] [(.long q2), (.long q1)])) _
    refine XS.iload X0.here hx rfl (hb hby at_16) rfl ?_
    show Steps p.tables e below (s₁.setTop (mkF m 18 #[.val (.long q1), .second, .val (.long q2), .second, .val (.int p3), .val (.int p4), .val (.int (p3 &&& (127 : Int32))), .val (.int (p4 &&& (63 : Int32))), .unset, .unset, .unset, .unset, .unset, .unset] [(.int (p3 &&& (127 : Int32))), (.long q2), (.long q1)])) _
    refine st5 _ ?_
    show Steps p.tables e below (T5.setTop (mkF m 21 #[.val (.long q1), .second, .val (.long q2), .second, .val (.int p3), .val (.int p4), .val (.int (p3 &&& (127 : Int32))), .val (.int (p4 &&& (63 : Int32))), .unset, .unset, .unset, .unset, .unset, .unset] [(.long (f1 q1 q2 (p3 &&& (127 : Int32))))])) _
    refine XS.lstore X5.here hx rfl (hb hby at_21) rfl (l' := #[.val (.long q1), .second, .val (.long q2), .second, .val (.int p3), .val (.int p4), .val (.int (p3 &&& (127 : Int32))), .val (.int (p4 &&& (63 : Int32))), .val (.long (f1 q1 q2 (p3 &&& (127 : Int32)))), .second, .unset, .unset, .unset, .unset]) rfl ?_
    show Steps p.tables e below (T5.setTop (mkF m 23 #[.val (.long q1), .second, .val (.long q2), .second, .val (.int p3), .val (.int p4), .val (.int (p3 &&& (127 : Int32))), .val (.int (p4 &&& (63 : Int32))), .val (.long (f1 q1 q2 (p3 &&& (127 : Int32)))), .second, .unset, .unset, .unset, .unset] [])) _
    refine XS.lload X5.here hx rfl (hb hby at_23) rfl ?_
    show Steps p.tables e below (T5.setTop (mkF m 25 #[.val (.long q1), .second, .val (.long q2), .second, .val (.int p3), .val (.int p4), .val (.int (p3 &&& (127 : Int32))), .val (.int (p4 &&& (63 : Int32))), .val (.long (f1 q1 q2 (p3 &&& (127 : Int32)))), .second, .unset, .unset, .unset, .unset] [(.long (f1 q1 q2 (p3 &&& (127 : Int32))))])) _
    refine XS.iload X5.here hx rfl (hb hby at_25) rfl ?_
    show Steps p.tables e below (T5.setTop (mkF m 27 #[.val (.long q1), .second, .val (.long q2), .second, .val (.int p3), .val (.int p4), .val (.int (p3 &&& (127 : Int32))), .val (.int (p4 &&& (63 : Int32))), .val (.long (f1 q1 q2 (p3 &&& (127 : Int32)))), .second, .unset, .unset, .unset, .unset] [(.int (p4 &&& (63 : Int32))), (.long (f1 q1 q2 (p3 &&& (127 : Int32))))])) _
    refine XS.lushr X5.here hx rfl (hb hby at_27) rfl ?_
    show Steps p.tables e below (T5.setTop (mkF m 28 #[.val (.long q1), .second, .val (.long q2), .second, .val (.int p3), .val (.int p4), .val (.int (p3 &&& (127 : Int32))), .val (.int (p4 &&& (63 : Int32))), .val (.long (f1 q1 q2 (p3 &&& (127 : Int32)))), .second, .unset, .unset, .unset, .unset] [(.long (((f1 q1 q2 (p3 &&& (127 : Int32))).toUInt64 >>> ((p4 &&& (63 : Int32)) &&& 0x3f).toInt64.toUInt64).toInt64))])) _
    refine XS.lconst X5.here hx rfl (hb hby at_28) ?_
    show Steps p.tables e below (T5.setTop (mkF m 29 #[.val (.long q1), .second, .val (.long q2), .second, .val (.int p3), .val (.int p4), .val (.int (p3 &&& (127 : Int32))), .val (.int (p4 &&& (63 : Int32))), .val (.long (f1 q1 q2 (p3 &&& (127 : Int32)))), .second, .unset, .unset, .unset, .unset] [(.long (1 : Int64)), (.long (((f1 q1 q2 (p3 &&& (127 : Int32))).toUInt64 >>> ((p4 &&& (63 : Int32)) &&& 0x3f).toInt64.toUInt64).toInt64))])) _
    refine XS.land X5.here hx rfl (hb hby at_29) rfl ?_
    show Steps p.tables e below (T5.setTop (mkF m 30 #[.val (.long q1), .second, .val (.long q2), .second, .val (.int p3), .val (.int p4), .val (.int (p3 &&& (127 : Int32))), .val (.int (p4 &&& (63 : Int32))), .val (.long (f1 q1 q2 (p3 &&& (127 : Int32)))), .second, .unset, .unset, .unset, .unset] [(.long ((((f1 q1 q2 (p3 &&& (127 : Int32))).toUInt64 >>> ((p4 &&& (63 : Int32)) &&& 0x3f).toInt64.toUInt64).toInt64) &&& (1 : Int64)))])) _
    refine XS.lstore X5.here hx rfl (hb hby at_30) rfl (l' := #[.val (.long q1), .second, .val (.long q2), .second, .val (.int p3), .val (.int p4), .val (.int (p3 &&& (127 : Int32))), .val (.int (p4 &&& (63 : Int32))), .val (.long (f1 q1 q2 (p3 &&& (127 : Int32)))), .second, .val (.long ((((f1 q1 q2 (p3 &&& (127 : Int32))).toUInt64 >>> ((p4 &&& (63 : Int32)) &&& 0x3f).toInt64.toUInt64).toInt64) &&& (1 : Int64))), .second, .unset, .unset]) rfl ?_
    show Steps p.tables e below (T5.setTop (mkF m 32 #[.val (.long q1), .second, .val (.long q2), .second, .val (.int p3), .val (.int p4), .val (.int (p3 &&& (127 : Int32))), .val (.int (p4 &&& (63 : Int32))), .val (.long (f1 q1 q2 (p3 &&& (127 : Int32)))), .second, .val (.long ((((f1 q1 q2 (p3 &&& (127 : Int32))).toUInt64 >>> ((p4 &&& (63 : Int32)) &&& 0x3f).toInt64.toUInt64).toInt64) &&& (1 : Int64))), .second, .unset, .unset] [])) _
    refine XS.lloadN X5.here hx rfl (hb hby at_32) rfl ?_
    show Steps p.tables e below (T5.setTop (mkF m 33 #[.val (.long q1), .second, .val (.long q2), .second, .val (.int p3), .val (.int p4), .val (.int (p3 &&& (127 : Int32))), .val (.int (p4 &&& (63 : Int32))), .val (.long (f1 q1 q2 (p3 &&& (127 : Int32)))), .second, .val (.long ((((f1 q1 q2 (p3 &&& (127 : Int32))).toUInt64 >>> ((p4 &&& (63 : Int32)) &&& 0x3f).toInt64.toUInt64).toInt64) &&& (1 : Int64))), .second, .unset, .unset] [(.long q1)])) _
    refine XS.lloadN X5.here hx rfl (hb hby at_33) rfl ?_
    show Steps p.tables e below (T5.setTop (mkF m 34 #[.val (.long q1), .second, .val (.long q2), .second, .val (.int p3), .val (.int p4), .val (.int (p3 &&& (127 : Int32))), .val (.int (p4 &&& (63 : Int32))), .val (.long (f1 q1 q2 (p3 &&& (127 : Int32)))), .second, .val (.long ((((f1 q1 q2 (p3 &&& (127 : Int32))).toUInt64 >>> ((p4 &&& (63 : Int32)) &&& 0x3f).toInt64.toUInt64).toInt64) &&& (1 : Int64))), .second, .unset, .unset] [(.long q2), (.long q1)])) _
    refine XS.iload X5.here hx rfl (hb hby at_34) rfl ?_
    show Steps p.tables e below (T5.setTop (mkF m 36 #[.val (.long q1), .second, .val (.long q2), .second, .val (.int p3), .val (.int p4), .val (.int (p3 &&& (127 : Int32))), .val (.int (p4 &&& (63 : Int32))), .val (.long (f1 q1 q2 (p3 &&& (127 : Int32)))), .second, .val (.long ((((f1 q1 q2 (p3 &&& (127 : Int32))).toUInt64 >>> ((p4 &&& (63 : Int32)) &&& 0x3f).toInt64.toUInt64).toInt64) &&& (1 : Int64))), .second, .unset, .unset] [(.int (p3 &&& (127 : Int32))), (.long q2), (.long q1)])) _
    refine XS.iload X5.here hx rfl (hb hby at_36) rfl ?_
    show Steps p.tables e below (T5.setTop (mkF m 38 #[.val (.long q1), .second, .val (.long q2), .second, .val (.int p3), .val (.int p4), .val (.int (p3 &&& (127 : Int32))), .val (.int (p4 &&& (63 : Int32))), .val (.long (f1 q1 q2 (p3 &&& (127 : Int32)))), .second, .val (.long ((((f1 q1 q2 (p3 &&& (127 : Int32))).toUInt64 >>> ((p4 &&& (63 : Int32)) &&& 0x3f).toInt64.toUInt64).toInt64) &&& (1 : Int64))), .second, .unset, .unset] [(.int (p4 &&& (63 : Int32))), (.int (p3 &&& (127 : Int32))), (.long q2), (.long q1)])) _
    refine XS.iadd X5.here hx rfl (hb hby at_38) rfl ?_
    show Steps p.tables e below (T5.setTop (mkF m 39 #[.val (.long q1), .second, .val (.long q2), .second, .val (.int p3), .val (.int p4), .val (.int (p3 &&& (127 : Int32))), .val (.int (p4 &&& (63 : Int32))), .val (.long (f1 q1 q2 (p3 &&& (127 : Int32)))), .second, .val (.long ((((f1 q1 q2 (p3 &&& (127 : Int32))).toUInt64 >>> ((p4 &&& (63 : Int32)) &&& 0x3f).toInt64.toUInt64).toInt64) &&& (1 : Int64))), .second, .unset, .unset] [(.int ((p3 &&& (127 : Int32)) + (p4 &&& (63 : Int32)))), (.long q2), (.long q1)])) _
    refine st6 _ ?_
    show Steps p.tables e below (T6.setTop (mkF m 42 #[.val (.long q1), .second, .val (.long q2), .second, .val (.int p3), .val (.int p4), .val (.int (p3 &&& (127 : Int32))), .val (.int (p4 &&& (63 : Int32))), .val (.long (f1 q1 q2 (p3 &&& (127 : Int32)))), .second, .val (.long ((((f1 q1 q2 (p3 &&& (127 : Int32))).toUInt64 >>> ((p4 &&& (63 : Int32)) &&& 0x3f).toInt64.toUInt64).toInt64) &&& (1 : Int64))), .second, .unset, .unset] [(.long (f2 q1 q2 ((p3 &&& (127 : Int32)) + (p4 &&& (63 : Int32)))))])) _
    refine XS.lstore X6.here hx rfl (hb hby at_42) rfl (l' := #[.val (.long q1), .second, .val (.long q2), .second, .val (.int p3), .val (.int p4), .val (.int (p3 &&& (127 : Int32))), .val (.int (p4 &&& (63 : Int32))), .val (.long (f1 q1 q2 (p3 &&& (127 : Int32)))), .second, .val (.long ((((f1 q1 q2 (p3 &&& (127 : Int32))).toUInt64 >>> ((p4 &&& (63 : Int32)) &&& 0x3f).toInt64.toUInt64).toInt64) &&& (1 : Int64))), .second, .val (.long (f2 q1 q2 ((p3 &&& (127 : Int32)) + (p4 &&& (63 : Int32))))), .second]) rfl ?_
    show Steps p.tables e below (T6.setTop (mkF m 44 #[.val (.long q1), .second, .val (.long q2), .second, .val (.int p3), .val (.int p4), .val (.int (p3 &&& (127 : Int32))), .val (.int (p4 &&& (63 : Int32))), .val (.long (f1 q1 q2 (p3 &&& (127 : Int32)))), .second, .val (.long ((((f1 q1 q2 (p3 &&& (127 : Int32))).toUInt64 >>> ((p4 &&& (63 : Int32)) &&& 0x3f).toInt64.toUInt64).toInt64) &&& (1 : Int64))), .second, .val (.long (f2 q1 q2 ((p3 &&& (127 : Int32)) + (p4 &&& (63 : Int32))))), .second] [])) _
    refine XS.lload X6.here hx rfl (hb hby at_44) rfl ?_
    show Steps p.tables e below (T6.setTop (mkF m 46 #[.val (.long q1), .second, .val (.long q2), .second, .val (.int p3), .val (.int p4), .val (.int (p3 &&& (127 : Int32))), .val (.int (p4 &&& (63 : Int32))), .val (.long (f1 q1 q2 (p3 &&& (127 : Int32)))), .second, .val (.long ((((f1 q1 q2 (p3 &&& (127 : Int32))).toUInt64 >>> ((p4 &&& (63 : Int32)) &&& 0x3f).toInt64.toUInt64).toInt64) &&& (1 : Int64))), .second, .val (.long (f2 q1 q2 ((p3 &&& (127 : Int32)) + (p4 &&& (63 : Int32))))), .second] [(.long ((((f1 q1 q2 (p3 &&& (127 : Int32))).toUInt64 >>> ((p4 &&& (63 : Int32)) &&& 0x3f).toInt64.toUInt64).toInt64) &&& (1 : Int64)))])) _
    refine XS.lload X6.here hx rfl (hb hby at_46) rfl ?_
    show Steps p.tables e below (T6.setTop (mkF m 48 #[.val (.long q1), .second, .val (.long q2), .second, .val (.int p3), .val (.int p4), .val (.int (p3 &&& (127 : Int32))), .val (.int (p4 &&& (63 : Int32))), .val (.long (f1 q1 q2 (p3 &&& (127 : Int32)))), .second, .val (.long ((((f1 q1 q2 (p3 &&& (127 : Int32))).toUInt64 >>> ((p4 &&& (63 : Int32)) &&& 0x3f).toInt64.toUInt64).toInt64) &&& (1 : Int64))), .second, .val (.long (f2 q1 q2 ((p3 &&& (127 : Int32)) + (p4 &&& (63 : Int32))))), .second] [(.long (f2 q1 q2 ((p3 &&& (127 : Int32)) + (p4 &&& (63 : Int32))))), (.long ((((f1 q1 q2 (p3 &&& (127 : Int32))).toUInt64 >>> ((p4 &&& (63 : Int32)) &&& 0x3f).toInt64.toUInt64).toInt64) &&& (1 : Int64)))])) _
    refine XS.lcmp X6.here hx rfl (hb hby at_48) rfl ?_
    exact k
  by_cases hc49 : ((((f1 q1 q2 (p3 &&& (127 : Int32))).toUInt64 >>> ((p4 &&& (63 : Int32)) &&& 0x3f).toInt64.toUInt64).toInt64) &&& (1 : Int64)) = (f2 q1 q2 ((p3 &&& (127 : Int32)) + (p4 &&& (63 : Int32))))
  · have eq2 : (f0 q1 q2 p3 p4) = (1 : Int32) := by unfold f0; simp only [if_pos hc49]
    obtain ⟨fs, hr, hrun, hended, hW, hsame⟩ := X6.leave (v := some (.int (1 : Int32))) (fun h => by rw [Bd.returns] at h; cases h)
    refine ⟨_, _, pre1 _ ?_, hrun, hended, _, _, rfl, ?_, ⟨_, rfl⟩, hW, hsame.mono (by decide) (by decide)⟩
    · show Steps p.tables e below (T6.setTop (mkF m 49 #[.val (.long q1), .second, .val (.long q2), .second, .val (.int p3), .val (.int p4), .val (.int (p3 &&& (127 : Int32))), .val (.int (p4 &&& (63 : Int32))), .val (.long (f1 q1 q2 (p3 &&& (127 : Int32)))), .second, .val (.long ((((f1 q1 q2 (p3 &&& (127 : Int32))).toUInt64 >>> ((p4 &&& (63 : Int32)) &&& 0x3f).toInt64.toUInt64).toInt64) &&& (1 : Int64))), .second, .val (.long (f2 q1 q2 ((p3 &&& (127 : Int32)) + (p4 &&& (63 : Int32))))), .second] [(.int (lcmpW ((((f1 q1 q2 (p3 &&& (127 : Int32))).toUInt64 >>> ((p4 &&& (63 : Int32)) &&& 0x3f).toInt64.toUInt64).toInt64) &&& (1 : Int64)) (f2 q1 q2 ((p3 &&& (127 : Int32)) + (p4 &&& (63 : Int32))))))])) _
      refine XS.ifNo X6.here hx rfl (hb hby at_49) rfl ((if0 _ _).trans (teq ((lw_eq _ _).mpr hc49)).2) ?_
      show Steps p.tables e below (T6.setTop (mkF m 52 #[.val (.long q1), .second, .val (.long q2), .second, .val (.int p3), .val (.int p4), .val (.int (p3 &&& (127 : Int32))), .val (.int (p4 &&& (63 : Int32))), .val (.long (f1 q1 q2 (p3 &&& (127 : Int32)))), .second, .val (.long ((((f1 q1 q2 (p3 &&& (127 : Int32))).toUInt64 >>> ((p4 &&& (63 : Int32)) &&& 0x3f).toInt64.toUInt64).toInt64) &&& (1 : Int64))), .second, .val (.long (f2 q1 q2 ((p3 &&& (127 : Int32)) + (p4 &&& (63 : Int32))))), .second] [])) _
      refine XS.iconst X6.here hx rfl (hb hby at_52) ?_
      show Steps p.tables e below (T6.setTop (mkF m 53 #[.val (.long q1), .second, .val (.long q2), .second, .val (.int p3), .val (.int p4), .val (.int (p3 &&& (127 : Int32))), .val (.int (p4 &&& (63 : Int32))), .val (.long (f1 q1 q2 (p3 &&& (127 : Int32)))), .second, .val (.long ((((f1 q1 q2 (p3 &&& (127 : Int32))).toUInt64 >>> ((p4 &&& (63 : Int32)) &&& 0x3f).toInt64.toUInt64).toInt64) &&& (1 : Int64))), .second, .val (.long (f2 q1 q2 ((p3 &&& (127 : Int32)) + (p4 &&& (63 : Int32))))), .second] [(.int (1 : Int32))])) _
      refine XS.goto X6.here hx rfl (pc0 := 53) (pc' := 57) rfl (hb hby at_53) (by decide) (by decide) ?_
      show Steps p.tables e below (T6.setTop (mkF m 57 #[.val (.long q1), .second, .val (.long q2), .second, .val (.int p3), .val (.int p4), .val (.int (p3 &&& (127 : Int32))), .val (.int (p4 &&& (63 : Int32))), .val (.long (f1 q1 q2 (p3 &&& (127 : Int32)))), .second, .val (.long ((((f1 q1 q2 (p3 &&& (127 : Int32))).toUInt64 >>> ((p4 &&& (63 : Int32)) &&& 0x3f).toInt64.toUInt64).toInt64) &&& (1 : Int64))), .second, .val (.long (f2 q1 q2 ((p3 &&& (127 : Int32)) + (p4 &&& (63 : Int32))))), .second] [(.int (1 : Int32))])) _
      exact retN X6 hx (t := .boolean) Bd.returns (by simp) (hb hby at_57) hr
    · show Q0 Z q1 q2 p3 p4 h0 n0 _ T6.heap _
      rw [e6]
      exact ⟨by rw [eq2], N6, trivial⟩
  · have eq3 : (f0 q1 q2 p3 p4) = (0 : Int32) := by unfold f0; simp only [if_neg hc49]
    obtain ⟨fs, hr, hrun, hended, hW, hsame⟩ := X6.leave (v := some (.int (0 : Int32))) (fun h => by rw [Bd.returns] at h; cases h)
    refine ⟨_, _, pre1 _ ?_, hrun, hended, _, _, rfl, ?_, ⟨_, rfl⟩, hW, hsame.mono (by decide) (by decide)⟩
    · show Steps p.tables e below (T6.setTop (mkF m 49 #[.val (.long q1), .second, .val (.long q2), .second, .val (.int p3), .val (.int p4), .val (.int (p3 &&& (127 : Int32))), .val (.int (p4 &&& (63 : Int32))), .val (.long (f1 q1 q2 (p3 &&& (127 : Int32)))), .second, .val (.long ((((f1 q1 q2 (p3 &&& (127 : Int32))).toUInt64 >>> ((p4 &&& (63 : Int32)) &&& 0x3f).toInt64.toUInt64).toInt64) &&& (1 : Int64))), .second, .val (.long (f2 q1 q2 ((p3 &&& (127 : Int32)) + (p4 &&& (63 : Int32))))), .second] [(.int (lcmpW ((((f1 q1 q2 (p3 &&& (127 : Int32))).toUInt64 >>> ((p4 &&& (63 : Int32)) &&& 0x3f).toInt64.toUInt64).toInt64) &&& (1 : Int64)) (f2 q1 q2 ((p3 &&& (127 : Int32)) + (p4 &&& (63 : Int32))))))])) _
      refine XS.ifYes X6.here hx rfl (pc0 := 49) (pc' := 56) rfl (hb hby at_49) rfl ((if0 _ _).trans (feq (fun q => hc49 ((lw_eq _ _).mp q))).2) (by decide) (by decide) ?_
      show Steps p.tables e below (T6.setTop (mkF m 56 #[.val (.long q1), .second, .val (.long q2), .second, .val (.int p3), .val (.int p4), .val (.int (p3 &&& (127 : Int32))), .val (.int (p4 &&& (63 : Int32))), .val (.long (f1 q1 q2 (p3 &&& (127 : Int32)))), .second, .val (.long ((((f1 q1 q2 (p3 &&& (127 : Int32))).toUInt64 >>> ((p4 &&& (63 : Int32)) &&& 0x3f).toInt64.toUInt64).toInt64) &&& (1 : Int64))), .second, .val (.long (f2 q1 q2 ((p3 &&& (127 : Int32)) + (p4 &&& (63 : Int32))))), .second] [])) _
      refine XS.iconst X6.here hx rfl (hb hby at_56) ?_
      show Steps p.tables e below (T6.setTop (mkF m 57 #[.val (.long q1), .second, .val (.long q2), .second, .val (.int p3), .val (.int p4), .val (.int (p3 &&& (127 : Int32))), .val (.int (p4 &&& (63 : Int32))), .val (.long (f1 q1 q2 (p3 &&& (127 : Int32)))), .second, .val (.long ((((f1 q1 q2 (p3 &&& (127 : Int32))).toUInt64 >>> ((p4 &&& (63 : Int32)) &&& 0x3f).toInt64.toUInt64).toInt64) &&& (1 : Int64))), .second, .val (.long (f2 q1 q2 ((p3 &&& (127 : Int32)) + (p4 &&& (63 : Int32))))), .second] [(.int (0 : Int32))])) _
      exact retN X6 hx (t := .boolean) Bd.returns (by simp) (hb hby at_57) hr
    · show Q0 Z q1 q2 p3 p4 h0 n0 _ T6.heap _
      rw [e6]
      exact ⟨by rw [eq3], N6, trivial⟩
theorem own_rem (x y : Int32) : x - (x / y) * y = x % y := by
  apply Int32.toInt_inj.mp
  have h1 := Int32.le_toInt (x % y)
  have h2 := Int32.toInt_lt (x % y)
  rw [Int32.toInt_sub, Int32.toInt_mul, Int32.toInt_div, Int.bmod_mul_bmod, Int.sub_bmod_bmod, Int.mul_comm (x.toInt.tdiv y.toInt), ← Int.tmod_def, ← Int32.toInt_mod]
  exact Int.bmod_eq_of_le_mul_two (by omega) (by omega)
theorem own_nat (x : Int32) : (x.toBitVec.toNat : Int) = x.toInt % 4294967296 := by
  have h := x.toBitVec.isLt
  show _ = x.toBitVec.toInt % 4294967296
  rw [BitVec.toInt_eq_toNat_cond]; split <;> omega
theorem own_mask (x m : Int32) (k : Nat) (hm : m.toBitVec.toNat = 2 ^ k - 1) : (x &&& m).toBitVec.toNat = x.toBitVec.toNat % 2 ^ k := by
  show (x.toBitVec &&& m.toBitVec).toNat = _
  rw [BitVec.toNat_and, hm, Nat.and_two_pow_sub_one_eq_mod]
theorem own_ushr (x : Int64) (q : Int32) : ((x.toUInt64 >>> (q &&& 0x3f).toInt64.toUInt64).toInt64).toBitVec = x.toBitVec >>> (q.toBitVec.toNat % 64) := by
  show x.toBitVec >>> ((q &&& 0x3f).toInt64.toBitVec % 64) = _
  rw [(sm64 q _ rfl).1, BitVec.ushiftRight_eq', BitVec.toNat_umod, BitVec.toNat_ofNat]
  congr 1
  show q.toBitVec.toNat % 64 % 2 ^ 64 % 64 = _
  omega
theorem own_shl (x : Int64) (q : Int32) : (x <<< (q &&& 0x3f).toInt64).toBitVec = x.toBitVec <<< (q.toBitVec.toNat % 64) := by
  show x.toBitVec <<< ((q &&& 0x3f).toInt64.toBitVec.smod 64) = _
  rw [BitVec.shiftLeft_eq', (sm64 q _ rfl).1, smod64 _ (sm64 q _ rfl).2]
theorem own_sshr (x : Int64) (q : Int32) : (x >>> (q &&& 0x3f).toInt64).toBitVec = x.toBitVec.sshiftRight (q.toBitVec.toNat % 64) := by
  show x.toBitVec.sshiftRight ((q &&& 0x3f).toInt64.toBitVec.smod 64).toNat = _
  rw [(sm64 q _ rfl).1, smod64 _ (sm64 q _ rfl).2]
theorem own_or64 (x y : Int64) : (x ||| y).toBitVec = x.toBitVec ||| y.toBitVec := rfl
theorem own_bit0 (y : Int64) : (y &&& 1) = if y.toBitVec.getLsbD 0 then 1 else 0 := by
  apply Int64.toBitVec_inj.mp
  show y.toBitVec &&& 1#64 = _
  rw [BitVec.and_one_eq_setWidth_ofBool_getLsbD]
  cases y.toBitVec.getLsbD 0 <;> rfl
theorem own_bit (x : Int64) (q : Int32) : (((x.toUInt64 >>> (q &&& 0x3f).toInt64.toUInt64).toInt64) &&& 1) = if x.toBitVec.getLsbD (q.toBitVec.toNat % 64) then 1 else 0 := by
  rw [own_bit0, own_ushr, BitVec.getLsbD_ushiftRight]; rfl
set_option maxHeartbeats 4000000 in
theorem own_law (h lo : Int64) (p3 p4 : Int32) : f0 h lo p3 p4 = 1 := by
  unfold f0
  have ha := own_mask p3 127 7 (by decide)
  have hj := own_mask p4 63 6 (by decide)
  generalize p3 &&& 127 = s at *
  generalize p4 &&& 63 = j at *
  have ns := own_nat s
  have nj := own_nat j
  have rs := rng32 s
  have rj := rng32 j
  have e64 : (64 : Int32).toInt = 64 := rfl
  have e63 : (63 : Int32).toBitVec.toNat = 63 := rfl
  have e128 : (128 : Int32).toInt = 128 := rfl
  have e0 : (0 : Int32).toInt = 0 := rfl
  have c1 := c_iadd s j
  have r2 := rng32 (s + j)
  have nk := own_nat (s + j)
  have d1 := own_nat (64 - s)
  have d1' := c_isub 64 s
  have d2 := own_nat (s - 64)
  have d2' := c_isub s 64
  have d3 := own_nat (s + j - 64)
  have d3' := c_isub (s + j) 64
  rw [if_pos]
  rw [own_bit]
  unfold f1 f1_l5_44 f2 f2_l5_48
  generalize hk : s + j = k at *
  by_cases s0 : s = 0
  · subst s0
    have k1 : k < 64 := by rw [Int32.lt_iff_toInt_lt]; omega
    rw [if_pos rfl, if_pos k1, own_bit]
    congr 3; omega
  · have s0' : ¬ s.toInt = 0 := fun q => s0 (Int32.toInt_inj.mp q)
    by_cases s1 : s < 64
    · rw [if_neg s0, if_pos s1, own_or64, own_shl, own_ushr, BitVec.getLsbD_or, BitVec.getLsbD_shiftLeft, BitVec.getLsbD_ushiftRight]
      rw [Int32.lt_iff_toInt_lt] at s1
      by_cases k1 : k < 64
      · rw [if_pos k1, own_bit]
        rw [Int32.lt_iff_toInt_lt] at k1
        rw [decide_eq_true (show j.toBitVec.toNat % 64 < (64 - s).toBitVec.toNat % 64 by omega)]
        simp only [Bool.not_true, Bool.and_false, Bool.false_and, Bool.or_false]
        congr 3; omega
      · rw [if_neg k1]
        rw [Int32.lt_iff_toInt_lt] at k1
        have k2 : k < 128 := by rw [Int32.lt_iff_toInt_lt]; omega
        rw [if_pos k2, own_bit, decide_eq_false (show ¬ j.toBitVec.toNat % 64 < (64 - s).toBitVec.toNat % 64 by omega), decide_eq_true (show j.toBitVec.toNat % 64 < 64 by omega), BitVec.getLsbD_of_ge lo.toBitVec _ (by omega)]
        simp only [Bool.not_false, Bool.and_true, Bool.true_and, Bool.false_or]
        congr 3; omega
    · rw [if_neg s0, if_neg s1, own_sshr, BitVec.getLsbD_sshiftRight]
      rw [Int32.lt_iff_toInt_lt] at s1
      have k1 : ¬ k < 64 := by rw [Int32.lt_iff_toInt_lt]; omega
      rw [if_neg k1, decide_eq_false (show ¬ 64 ≤ j.toBitVec.toNat % 64 by omega)]
      by_cases k2 : k < 128
      · rw [if_pos k2, own_bit]
        rw [Int32.lt_iff_toInt_lt] at k2
        rw [if_pos (show (s - 64).toBitVec.toNat % 64 + j.toBitVec.toNat % 64 < 64 by omega)]
        simp only [Bool.not_false, Bool.true_and]
        congr 3; omega
      · rw [if_neg k2, own_bit]
        rw [Int32.lt_iff_toInt_lt] at k2
        rw [if_neg (show ¬ (s - 64).toBitVec.toNat % 64 + j.toBitVec.toNat % 64 < 64 by omega), BitVec.msb_eq_getLsbD_last]
        simp only [Bool.not_false, Bool.true_and]
        rfl

set_option maxRecDepth 65536 in
set_option maxHeartbeats 40000000 in
theorem comes_1 {Post : Tables → Env → Array Value → State → Outcome → State → Prop} (hpost : ∀ tb e args s v u, (limb_1_1.after args s (.returned v) u = true ∧ limb_1_2.after args s (.returned v) u = true ∧ True) → FrameEnd s (.returned v) u (Jvm.fieldLocs frame_1_writes args s ++ Jvm.arrayLocs frame_1_arrays args s ++ Jvm.staticLocs frame_1_statics s) 0 0 → Post tb e args s (.returned v) u) :
    ArmFor flags0 classFile x code maxLocals ret World_1 tables_1 room_1 Calls_1 rest_1 Pre_1 Post := by
  intro l hfl _ _ p e ha hc hk s m args below hf hA hF happ hP
  obtain ⟨hcalls, hrest, hpre⟩ := hP
  obtain ⟨-, -, -, hnamed, -, -, -, hat⟩ := (Spec.applies_iff hf).mp happ
  obtain ⟨hg, hn⟩ := and_e (Cond.before_iff.mp (show (Jvm.Cond.and given_1 narrow_1).before args s = true from hpre))
  obtain ⟨g1, g2⟩ := and_e hg
  obtain ⟨g3, g4⟩ := and_e g2
  obtain ⟨g5, g6⟩ := and_e g4
  obtain ⟨g7, g8⟩ := and_e g6
  obtain ⟨w0, w1, w2, w3, rfl⟩ : ∃ w0 w1 w2 w3 : Value, args = #[w0, w1, w2, w3] := by
    have hs : args.size = 4 := by simpa [Cond.value, given_1] using g1
    obtain ⟨L⟩ := args
    match L, hs with
    | [w0, w1, w2, w3], _ => exact ⟨w0, w1, w2, w3, rfl⟩
  have hw := fun d (hd : d ∈ tables_1) => atoms_spec (ws := Jvm.Cond.code x code maxLocals ret :: tables_1) hat d (List.mem_cons_of_mem _ hd)
  have hfit : Fit s := fun {y c} hc i hi => by
    obtain ⟨ha, rfl⟩ := Array.getElem?_eq_some_iff.mp hc
    have q := List.all_eq_true.mp ((Array.all_eq_true_iff_forall_mem.mp hF) _ (Array.getElem_mem ha)) i (List.mem_range.mpr hi)
    simpa [Array.getElem?_eq_getElem hi] using q
  obtain ⟨i0, ei0⟩ := isL_v g3
  obtain rfl : w0 = (.long i0) := Option.some.inj ei0
  obtain ⟨i1, ei1⟩ := isL_v g5
  obtain rfl : w1 = (.long i1) := Option.some.inj ei1
  obtain ⟨i2, ei2⟩ := is_v g7
  obtain rfl : w2 = (.int i2) := Option.some.inj ei2
  obtain ⟨i3, ei3⟩ := is_v g8
  obtain rfl : w3 = (.int i3) := Option.some.inj ei3
  obtain ⟨n, o, h1, h2, h3, v', L, rfl, ⟨hv', N, -⟩, hq⟩ := rm0 l s _ hw tables_1 i0 i1 i2 i3 s.heap s.heap.size (Nat.le_refl _)  p e ha hc hk s m _ below hf ((Spec.applies_iff_loose hf).mp happ).1 ⟨rfl, State.Warmed39.refl s, rfl⟩ trivial
  rw [own_law i0 i1 i2 i3] at hv'
  subst hv'
  refine ⟨n, _, h1, h2, h3, hpost _ _ _ _ _ _ ⟨Cond.after_iff.mpr rfl, Cond.after_iff.mpr (eq_i res_at (Term.int_eval (1)) rfl), trivial⟩ ⟨hq.1, hq.2.1, (hq.2.2.sift fun y hy => Or.inr (N y hy)).mono (by decide) (by decide)⟩⟩
theorem main_1_1 : Claimed_1_1 := comes_1 fun _ _ _ _ _ _ h hF => ⟨h.1, hF⟩
theorem main_1_2 : Claimed_1_2 := comes_1 fun _ _ _ _ _ _ h hF => ⟨h.2.1, hF⟩
end Jvm.Pilot.@@N@@
namespace Jvm.Pilot.@@N@@
open Jvm Jvm.ClassFile Sem Op Lib Jvm.Free Jvm.Stand Jvm.Pilot.@@N@@.Jvm.D
/-! MADE BY PROGRAM (witnessworld.py) out of the Statement's table words and the real class files: 9 classes; the members and pool entries that the words name. The judged class is class 1, her method 2. -/
namespace start1
open Jvm.ClassFile
def u (s : String) : CpInfo := .utf8 (stringToUtf16 s)
/-- a pool by its gaps: so many unusable entries, then the entry; so many at the end -/
def gap : Nat → List CpInfo → List CpInfo
  | 0, r => r
  | n + 1, r => .unusable :: gap n r
def poolList (es : List (Nat × CpInfo)) (last : Nat) : List CpInfo := es.foldr (fun e r => gap e.1 (e.2 :: r)) (gap last [])
def pool (es : List (Nat × CpInfo)) (last : Nat) : Array CpInfo := ⟨poolList es last⟩
def fileOf (pool : Array CpInfo) (this : Nat) (attrs : Array Attribute := #[]) (ms : Array MethodInfo := #[]) (fl : Nat := 33) (sup : Nat := 0) (ifs : Array Nat := #[]) (fds : Array FieldInfo := #[]) : ClassFile where
  minorVersion := 0
  majorVersion := 65
  constantPool := pool
  accessFlags := fl
  thisClass := this
  superClass := sup
  interfaces := ifs
  fields := fds
  methods := ms
  attributes := attrs
def plain (name : String) (sup : Option ClassId) : Class where
  name := name
  kind := .ordinary
  loader := none
  accessFlags := 33
  super := sup
  interfaces := #[]
  cf := none
  fields := #[]
  methods := #[]
  instanceTypes := #[]
  staticTypes := #[]
  resolved := #[]
  callSites := []
  init := .initialized
  statics := none
  mirror := none

def pool0 : Array CpInfo := pool [(5, u "<init>"), (0, u "()V"), (1, .class_ 10), (1, u "java/lang/Object")] 113

def k0m0 : Method := { name := "<init>", desc := "()V", sig := { parameters := [], returnType := none }, accessFlags := 1, code := none }
/-- java/lang/Object -/
def k0 : Class := { plain "java/lang/Object" none with
  accessFlags := 33
  interfaces := #[]
  cf := some (fileOf pool0 8 #[] #[{ accessFlags := 1, nameIndex := 5, descriptorIndex := 6, attributes := #[] }] 33 0 #[] #[])
  fields := #[]
  methods := #[k0m0]
  instanceTypes := #[]
  staticTypes := #[]
  resolved := Array.replicate 124 none
  statics := none }

def pool1 : Array CpInfo := pool [(2, .class_ 4), (1, u "java/lang/Object"), (0, u "<init>"), (0, u "()V"), (0, .methodref 8 9), (0, .class_ 10), (0, .nameAndType 11 12), (0, u "com/example/millrace/millrace/runtime/aggregate/Int128"), (0, u "lowerShiftedRight"), (0, u "(JJI)J"), (0, .methodref 14 15), (0, .class_ 16), (0, .nameAndType 17 12), (0, u "com/example/millrace/millrace/runtime/aggregate/Int128LowerShiftedRightPinLaw"), (0, u "bitOfValue"), (3, u "law"), (0, u "(JJII)Z")] 2

def k1m0 : Method := { name := "<init>", desc := "()V", sig := { parameters := [], returnType := none }, accessFlags := 2, code := none }
def k1c1 : Code := { maxStack := 4, maxLocals := 7, code := method_2_code, exceptionTable := #[], attributes := #[] }
def k1m1 : Method := { name := "bitOfValue", desc := "(JJI)J", sig := { parameters := [.long, .long, .int], returnType := some .long }, accessFlags := 10, code := some k1c1 }
def k1c2 : Code := { maxStack := 6, maxLocals := 14, code := code, exceptionTable := #[], attributes := #[] }
def k1m2 : Method := { name := "law", desc := "(JJII)Z", sig := { parameters := [.long, .long, .int, .int], returnType := some .boolean }, accessFlags := 9, code := some k1c2 }
/-- com/example/millrace/millrace/runtime/aggregate/Int128LowerShiftedRightPinLaw -/
def k1 : Class := { plain "com/example/millrace/millrace/runtime/aggregate/Int128LowerShiftedRightPinLaw" (some 0) with
  accessFlags := 49
  interfaces := #[]
  cf := some (fileOf pool1 14 #[] #[{ accessFlags := 2, nameIndex := 5, descriptorIndex := 6, attributes := #[] }, { accessFlags := 10, nameIndex := 17, descriptorIndex := 12, attributes := #[] }, { accessFlags := 9, nameIndex := 21, descriptorIndex := 22, attributes := #[] }] 49 2 #[] #[])
  fields := #[]
  methods := #[k1m0, k1m1, k1m2]
  instanceTypes := #[]
  staticTypes := #[]
  resolved := Array.replicate 25 none
  statics := none }

def pool2 : Array CpInfo := pool [(2, .class_ 4), (1, u "java/lang/Object"), (0, u "<init>"), (0, u "()V"), (39, .class_ 48), (1, u "com/example/millrace/millrace/runtime/aggregate/Int128"), (1, u "(JJI)J"), (14, u "DIGIT"), (0, u "J"), (9, u "lowerShiftedRight")] 4

def k2m0 : Method := { name := "<init>", desc := "()V", sig := { parameters := [], returnType := none }, accessFlags := 2, code := none }
def k2c1 : Code := { maxStack := 6, maxLocals := 7, code := prog_85_method_8_code, exceptionTable := #[], attributes := #[] }
def k2m1 : Method := { name := "lowerShiftedRight", desc := "(JJI)J", sig := { parameters := [.long, .long, .int], returnType := some .long }, accessFlags := 8, code := some k2c1 }
/-- com/example/millrace/millrace/runtime/aggregate/Int128 -/
def k2 : Class := { plain "com/example/millrace/millrace/runtime/aggregate/Int128" (some 0) with
  accessFlags := 48
  interfaces := #[]
  cf := some (fileOf pool2 46 #[] #[{ accessFlags := 2, nameIndex := 5, descriptorIndex := 6, attributes := #[] }, { accessFlags := 8, nameIndex := 76, descriptorIndex := 50, attributes := #[] }] 48 2 #[] #[{ accessFlags := 26, nameIndex := 65, descriptorIndex := 66, attributes := #[] }])
  fields := #[{ name := "DIGIT", type := .long, accessFlags := 26, slot := 0, constantValue := 0 }]
  methods := #[k2m0, k2m1]
  instanceTypes := #[]
  staticTypes := #[.long]
  resolved := Array.replicate 81 none
  statics := none }

def pool3 : Array CpInfo := pool [(1, u "java/lang/Cloneable"), (0, .class_ 1), (0, u "java/lang/Object"), (0, .class_ 3)] 3

/-- java/lang/Cloneable -/
def k3 : Class := { plain "java/lang/Cloneable" (some 0) with
  accessFlags := 1537
  interfaces := #[]
  cf := some (fileOf pool3 2 #[] #[] 1537 4 #[] #[])
  fields := #[]
  methods := #[]
  instanceTypes := #[]
  staticTypes := #[]
  resolved := Array.replicate 8 none
  statics := none }

def pool4 : Array CpInfo := pool [(1, u "java/io/Serializable"), (0, .class_ 1), (0, u "java/lang/Object"), (0, .class_ 3)] 3

/-- java/io/Serializable -/
def k4 : Class := { plain "java/io/Serializable" (some 0) with
  accessFlags := 1537
  interfaces := #[]
  cf := some (fileOf pool4 2 #[] #[] 1537 4 #[] #[])
  fields := #[]
  methods := #[]
  instanceTypes := #[]
  staticTypes := #[]
  resolved := Array.replicate 8 none
  statics := none }

/-- the primitive byte -/
def k5 : Class := { plain "byte" none with kind := .primitive 'B', accessFlags := 0x411 }
/-- [B -/
def k6 : Class := { plain "[B" (some 0) with kind := .array 5 .byte, interfaces := #[3, 4], accessFlags := 1041 }

/-- the primitive int -/
def k7 : Class := { plain "int" none with kind := .primitive 'I', accessFlags := 0x411 }
/-- [I -/
def k8 : Class := { plain "[I" (some 0) with kind := .array 7 .int, interfaces := #[3, 4], accessFlags := 1041 }

def heap : Heap := #[]
def classes : Array Class := #[k0, k1, k2, k3, k4, k5, k6, k7, k8]
def interned : List (Array UInt16 × Addr) := []
def slotsUsed : Nat := 0
def theMethod : MethodId := ⟨1, 2⟩
def args0 : Array Value := #[.long 5, .long 7, .int 3, .int 2]
def aboutOver (below : List Frame) : State where
  vm := { classes := classes, interned := interned.toArray }
  heap := heap
  slotsUsed := slotsUsed
  threads := #[{ frames := .invoking theMethod args0 :: below }]
def below0 : List Frame := [.native { method := ⟨0, 0⟩, args := #[] }]
def about1 : State := aboutOver below0
def p0 : Program := .bare "" "" ""
def e0 : Env := launch0.env 0 0 0
theorem w_frames : about1.frames = Frame.invoking theMethod args0 :: below0 := rfl
set_option maxRecDepth 65536 in
theorem w_args : argsFit about1.vm theMethod args0 = true := by decide +kernel
set_option maxRecDepth 65536 in
theorem w_heap : heapFits about1 = true := by decide +kernel
set_option maxRecDepth 65536 in
theorem w_runnable : about1.curStatus? = some .runnable := by decide +kernel
set_option maxRecDepth 65536 in
theorem w_alone : about1.alone = true := by decide +kernel
set_option maxRecDepth 65536 in
theorem w_named : about1.methodNamed? x = some theMethod := by decide +kernel
set_option maxRecDepth 65536 in
theorem w_hears : about1.hears theMethod below0 = true := by decide +kernel
set_option maxRecDepth 65536 in
theorem w_ripe : about1.ripe theMethod args0 below0 = true := by decide +kernel
theorem w_running : about1.status = .running := rfl
set_option maxRecDepth 65536 in
theorem w_room : about1.hasRoom e0.platform room_1 = true :=
  launch0.hasRoom_least _ room_1 (by decide +kernel) (by decide +kernel) (by decide +kernel) (by decide +kernel) (by decide +kernel) (by decide +kernel)
theorem allAtoms_all (ts : List Jvm.Cond) (a : Array Jvm.Value) (st : Jvm.State) : (allAtoms ts).before a st = ts.all (fun c => c.before a st) := by
  induction ts with
  | nil => rfl
  | cons c t ih =>
    show (Jvm.Cond.and c (allAtoms t)).before a st = _
    rw [Jvm.Cond.before_and, ih, List.all_cons]
def words1 : List Jvm.Cond := Jvm.Cond.code x code maxLocals ret :: tables_1
/-- a 'code' word, met by the world's own term for the bytes: nothing is compared byte by byte -/
theorem code_word {y : MethodName} {bytes : ByteArray} {mx : Nat} {rt : Option FieldType} {a : Array Value} {s : State} {m : MethodId} {meth : Method} {c : Code} (h1 : s.methodNamed? y = some m) (h2 : s.vm.method? m = some meth) (h3 : meth.code = some c) (h4 : c.code = bytes)
    (h5 : (c.maxLocals == mx && c.exceptionTable.isEmpty && decide (c.maxStack ≤ mostOperands) && decide (meth.sig.returnType = rt) && !meth.locks && decide (parseMethodDescriptor y.desc = some meth.sig)) = true) : (Jvm.Cond.code y bytes mx rt).before a s = true := by
  simp only [Bool.and_eq_true, beq_iff_eq, Bool.not_eq_true', decide_eq_true_eq] at h5
  obtain ⟨⟨⟨⟨⟨g1, g2⟩, g3⟩, g4⟩, g5⟩, g6⟩ := h5
  simp [Cond.before, Cond.holds, Cond.value, h1, h2, h3, h4, g1, g2, g3, g4, g5, g6]
def isCode : Jvm.Cond → Bool
  | .code _ _ _ _ => true
  | _ => false
theorem all_split {L : List Jvm.Cond} {P : Jvm.Cond → Bool} (h1 : L.all (fun c => isCode c || P c) = true) (h2 : ∀ c ∈ L.filter isCode, P c = true) : L.all P = true := by
  refine List.all_eq_true.mpr fun c hc => ?_
  have h := List.all_eq_true.mp h1 c hc
  rcases Bool.eq_false_or_eq_true (isCode c) with hi | hi
  · exact h2 c (List.mem_filter.mpr ⟨hc, hi⟩)
  · simpa [hi] using h
set_option maxRecDepth 65536 in
theorem w_c0 : (Jvm.Cond.code x code maxLocals ret).before args0 about1 = true := code_word (m := ⟨1, 2⟩) (meth := k1m2) (c := k1c2) (by decide +kernel) rfl rfl rfl (by decide +kernel)
set_option maxRecDepth 65536 in
theorem w_c1 : (Jvm.Cond.code ({ cls := "com/example/millrace/millrace/runtime/aggregate/Int128", name := "lowerShiftedRight", desc := "(JJI)J" } : Jvm.MethodName) prog_85_method_8_code (7 : Nat) (Option.some Jvm.ClassFile.FieldType.long)).before args0 about1 = true := code_word (m := ⟨2, 1⟩) (meth := k2m1) (c := k2c1) (by decide +kernel) rfl rfl rfl (by decide +kernel)
set_option maxRecDepth 65536 in
theorem w_c2 : (Jvm.Cond.code ({ cls := "com/example/millrace/millrace/runtime/aggregate/Int128LowerShiftedRightPinLaw", name := "bitOfValue", desc := "(JJI)J" } : Jvm.MethodName) method_2_code (7 : Nat) (Option.some Jvm.ClassFile.FieldType.long)).before args0 about1 = true := code_word (m := ⟨1, 1⟩) (meth := k1m1) (c := k1c1) (by decide +kernel) rfl rfl rfl (by decide +kernel)
def codes1 : List Jvm.Cond := [Jvm.Cond.code x code maxLocals ret, Jvm.Cond.code ({ cls := "com/example/millrace/millrace/runtime/aggregate/Int128", name := "lowerShiftedRight", desc := "(JJI)J" } : Jvm.MethodName) prog_85_method_8_code (7 : Nat) (Option.some Jvm.ClassFile.FieldType.long), Jvm.Cond.code ({ cls := "com/example/millrace/millrace/runtime/aggregate/Int128LowerShiftedRightPinLaw", name := "bitOfValue", desc := "(JJI)J" } : Jvm.MethodName) method_2_code (7 : Nat) (Option.some Jvm.ClassFile.FieldType.long)]
set_option maxRecDepth 65536 in
theorem codes_eq : words1.filter isCode = codes1 := rfl
theorem w_codes : ∀ c ∈ words1.filter isCode, c.before args0 about1 = true := by
  rw [codes_eq]
  intro c hc
  simp only [codes1, List.mem_cons, List.not_mem_nil, or_false] at hc
  rcases hc with rfl | rfl | rfl
  · exact w_c0
  · exact w_c1
  · exact w_c2
set_option maxRecDepth 65536 in
theorem w_t1 : words1.all (fun c => isCode c || c.before args0 about1) = true := by decide +kernel
theorem w_tables : (allAtoms (Jvm.Cond.code x code maxLocals ret :: tables_1)).before args0 about1 = true := by
  rw [allAtoms_all]
  show words1.all (fun c => c.before args0 about1) = true
  refine all_split ?_ w_codes
  rw [w_t1]
set_option maxRecDepth 65536 in
theorem w_case : (Jvm.Cond.and given_1 narrow_1).before args0 about1 = true := by decide +kernel
theorem w_applies : (headSpec (Jvm.Cond.code x code maxLocals ret :: tables_1) room_1).applies x e0.platform about1 = true :=
  (Spec.applies_iff w_frames).mpr ⟨w_running, w_runnable, w_alone, w_named, w_hears, w_ripe, w_room, w_tables⟩
theorem atStart : AtStart classFile x code maxLocals ret World_1 tables_1 room_1 Calls_1 rest_1 Pre_1 launch0 p0 e0 about1 theMethod args0 below0 :=
  ⟨lists_1, trivial, launch0.admits_env _ _ _, launch0.least_env, fairChoices_fair.cas, fairChoices_fair.clock, w_frames, w_args, w_heap, w_applies, trivial, trivial, w_case⟩
end start1
theorem witness_1 : WitnessClaimed_1 := ⟨start1.p0, start1.e0, start1.about1, start1.theMethod, start1.args0, start1.below0, start1.atStart⟩
end Jvm.Pilot.@@N@@
