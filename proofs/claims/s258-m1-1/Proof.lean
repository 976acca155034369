import JvmDerived
import JvmDerived.Pilot.@@N@@Statement
import JvmDerived.Pilot.@@N@@Code
set_option linter.unusedVariables false
set_option linter.unusedSimpArgs false
namespace Jvm.RoadKit
open Sem ClassFile Op Lib Jvm.Stand Jvm.Free Jvm.LawKit
section New
variable {p : Program} {l : Launch} {e : Env} {R : Room} {s : State} {m : MethodId} {args : Array Value} {below : List Frame} {meth : Method} {c : Code} {T : State} {locs : List Loc} {cells slots : Nat}
theorem retI (X : Stand p l e R s m args below meth c T locs cells slots) (hx : p.tables.exec = Jvm.exec) {pc : Nat} {Ls : Array Slot} {z : Int32} {rest : List Value} (hret : meth.sig.returnType = some .int) (hd : decode c.code pc = .ok (.ireturn, 1)) {fs : List Frame}
    (hl : ∀ (f : JFrame) (acts : List Action), f.method = m → f.locked = none → f.entered = [] → (doReturn e (T.setTop f) acts (some (.int z))).1 = T.setFrames fs) : Steps p.tables e below (T.setTop (mkF m pc Ls (.int z :: rest))) (T.setFrames fs) := by
  have hm' : T.vm.method? m = some meth := X.method'
  have hn : narrow .int (.int z) = .int z := rfl
  show Steps p.tables e below (T.setTop { method := m, pc := pc, locals := Ls, stack := _ :: rest, locked := none }) _
  jvm_step X.here [X.here.top, hx, hd, hm', hret, hn]
  first | (intro acts; rw [hl _ acts rfl rfl rfl]) | rw [hl _ _ rfl rfl rfl]
  exact Steps.refl _
end New
end Jvm.RoadKit
namespace Jvm.Pilot.@@N@@
open Jvm Jvm.ClassFile Sem Op Lib Jvm.Free Jvm.Stand Jvm.LawKit Jvm.RoadKit Bundle Jvm.Pilot.@@N@@.Jvm.D
theorem own_tsw5 {i : Int32} (h0 : ¬ i = 0) (h1 : ¬ i = 1) (h2 : ¬ i = 2) (h3 : ¬ i = 3) (h4 : ¬ i = 4) : i.toInt < 0 ∨ i.toInt > 4 := by
  rw [← Int32.toInt_inj] at h0 h1 h2 h3 h4
  have e0 : (0 : Int32).toInt = 0 := rfl
  have e1 : (1 : Int32).toInt = 1 := rfl
  have e2 : (2 : Int32).toInt = 2 := rfl
  have e3 : (3 : Int32).toInt = 3 := rfl
  have e4 : (4 : Int32).toInt = 4 := rfl
  omega
theorem pn_0 : plainName "java/lang/Long" = true := by first | (simp [plainName, overriddenIn]; done) | decide +kernel
theorem d2_0 : decode jdk_35_method_42_code 0 = .ok (.lload_n 0, 1) := by decide +kernel
theorem d2_1 : decode jdk_35_method_42_code 1 = .ok (.lload_n 2, 1) := by decide +kernel
theorem d2_2 : decode jdk_35_method_42_code 2 = .ok (.lcmp, 1) := by decide +kernel
theorem d2_3 : decode jdk_35_method_42_code 3 = .ok (.ifCond .ge 7, 3) := by decide +kernel
theorem d2_6 : decode jdk_35_method_42_code 6 = .ok (.iconst (-1), 1) := by decide +kernel
theorem d2_7 : decode jdk_35_method_42_code 7 = .ok (.goto 14, 3) := by decide +kernel
theorem d2_10 : decode jdk_35_method_42_code 10 = .ok (.lload_n 0, 1) := by decide +kernel
theorem d2_11 : decode jdk_35_method_42_code 11 = .ok (.lload_n 2, 1) := by decide +kernel
theorem d2_12 : decode jdk_35_method_42_code 12 = .ok (.lcmp, 1) := by decide +kernel
theorem d2_13 : decode jdk_35_method_42_code 13 = .ok (.ifCond .ne 7, 3) := by decide +kernel
theorem d2_16 : decode jdk_35_method_42_code 16 = .ok (.iconst 0, 1) := by decide +kernel
theorem d2_17 : decode jdk_35_method_42_code 17 = .ok (.goto 4, 3) := by decide +kernel
theorem d2_20 : decode jdk_35_method_42_code 20 = .ok (.iconst 1, 1) := by decide +kernel
theorem d2_21 : decode jdk_35_method_42_code 21 = .ok (.ireturn, 1) := by decide +kernel
theorem ef_2 (m : MethodId) (x0 : Int64) (x1 : Int64) : entryFrame m #[(.long x0), (.long x1)] 4 = mkF m 0 #[.val (.long x0), .second, .val (.long x1), .second] [] := by first | (simp [entryFrame, mkF, argsToLocals, Value.category]; done) | rfl
def f2 (q1 : Int64) (q2 : Int64) : Int32 := (if q1 < q2 then (-1 : Int32) else (if q1 = q2 then (0 : Int32) else (1 : Int32)))
def Q2 (Z : State) (q1 : Int64) (q2 : Int64) (h0 : Heap) (n0 : Nat) (v : Option Value) (h : Heap) (L : List Loc) : Prop := v = some (.int (f2 q1 q2)) ∧ Fr n0 L ∧ h = h0
set_option maxRecDepth 65536 in
set_option maxHeartbeats 40000000 in
theorem rm2 (l : Launch) (Z : State) (a0 : Array Value) (hw : ∀ d ∈ tables_1, d.before a0 Z = true) (ws : List Jvm.Cond) (q1 : Int64) (q2 : Int64) (h0 : Heap) (n0 : Nat) (Z0 : n0 ≤ h0.size) :
    MetFree l (⟨"java/lang/Long", "compare", "(JJ)I"⟩ : MethodName) (head1 (Jvm.Cond.code (⟨"java/lang/Long", "compare", "(JJ)I"⟩ : MethodName) jdk_35_method_42_code 4 (some .int) :: ws) ({ frames := 0, cells := 0, slots := 0, locals := 0 } : Room)) (fun a U => a = #[(.long q1), (.long q2)] ∧ Z.Warmed39 U.vm ∧ U.heap = h0) (fun _ _ _ _ _ => True) (fun _ U o U' => ∃ v L, o = .returned v ∧ Q2 Z q1 q2 h0 n0 v U'.heap L ∧ FrameEnd U o U' L ({ frames := 0, cells := 0, slots := 0, locals := 0 } : Room).cells ({ frames := 0, cells := 0, slots := 0, locals := 0 } : Room).slots) := by
  refine MetFree.of_bodySF (plainFor_of_name pn_0) hisR ?_
  intro p e s m args below meth c s₁ Bd hml0 hP hK
  obtain ⟨rfl, hZ, hh⟩ := hP
  have hx := Bd.exec
  have hby := Bd.bytes
  have hml : c.maxLocals = 4 := hml0
  have hown : s.vm.findClass "java/lang/Long" = some m.cls := findClass_of_methodNamed Bd.named
  have hnm := (name_of_methodNamed Bd.named Bd.method).1
  have X0 : Stand p l e ({ frames := 0, cells := 0, slots := 0, locals := 0 } : Room) s m #[(.long q1), (.long q2)] below meth c s₁ [] 0 0 := Stand.of_body Bd
  have e0 : s₁.heap = h0 := by rw [← hh, Bd.state]; rfl
  have N0 := Fr.nil n0
  have pre0 : ∀ t, Steps p.tables e below (s₁.setTop (mkF m 0 #[.val (.long q1), .second, .val (.long q2), .second] [])) t → Steps p.tables e below (s₁.setTop (entryFrame m #[(.long q1), (.long q2)] 4)) t := fun t k => castTop (ef_2 m q1 q2) k
  have pre1 : ∀ t, Steps p.tables e below (s₁.setTop (mkF m 3 #[.val (.long q1), .second, .val (.long q2), .second] [(.int (lcmpW q1 q2))])) t → Steps p.tables e below (s₁.setTop (entryFrame m #[(.long q1), (.long q2)] 4)) t := by
    intro t k
    refine pre0 t ?_
    show Steps p.tables e below (s₁.setTop (mkF m 0 #[.val (.long q1), .second, .val (.long q2), .second] [])) _
    refine XS.lloadN X0.here hx rfl (hb hby d2_0) rfl ?_
    show Steps p.tables e below (s₁.setTop (mkF m 1 #[.val (.long q1), .second, .val (.long q2), .second] [(.long q1)])) _
    refine XS.lloadN X0.here hx rfl (hb hby d2_1) rfl ?_
    show Steps p.tables e below (s₁.setTop (mkF m 2 #[.val (.long q1), .second, .val (.long q2), .second] [(.long q2), (.long q1)])) _
    refine XS.lcmp X0.here hx rfl (hb hby d2_2) rfl ?_
    exact k
  by_cases hc3 : q1 < q2
  · have eq2 : (f2 q1 q2) = (-1 : Int32) := by unfold f2; simp only [if_pos hc3]
    obtain ⟨fs, hr, hrun, hended, hW, hsame⟩ := X0.leave (v := some (.int (-1 : Int32))) (fun h => by rw [Bd.returns] at h; cases h)
    refine ⟨_, _, pre1 _ ?_, hrun, hended, _, _, rfl, ?_, ⟨_, rfl⟩, hW, hsame.mono (by decide) (by decide)⟩
    · show Steps p.tables e below (s₁.setTop (mkF m 3 #[.val (.long q1), .second, .val (.long q2), .second] [(.int (lcmpW q1 q2))])) _
      refine XS.ifNo X0.here hx rfl (hb hby d2_3) rfl ((if0 _ _).trans (tlt ((lw_lt _ _).mpr hc3)).2.1) ?_
      show Steps p.tables e below (s₁.setTop (mkF m 6 #[.val (.long q1), .second, .val (.long q2), .second] [])) _
      refine XS.iconst X0.here hx rfl (hb hby d2_6) ?_
      show Steps p.tables e below (s₁.setTop (mkF m 7 #[.val (.long q1), .second, .val (.long q2), .second] [(.int (-1 : Int32))])) _
      refine XS.goto X0.here hx rfl (pc0 := 7) (pc' := 21) rfl (hb hby d2_7) (by decide) (by decide) ?_
      show Steps p.tables e below (s₁.setTop (mkF m 21 #[.val (.long q1), .second, .val (.long q2), .second] [(.int (-1 : Int32))])) _
      exact retI X0 hx Bd.returns (hb hby d2_21) hr
    · show Q2 Z q1 q2 h0 n0 _ s₁.heap _
      rw [e0]
      exact ⟨by rw [eq2], N0, rfl⟩
  · have pre3 : ∀ t, Steps p.tables e below (s₁.setTop (mkF m 13 #[.val (.long q1), .second, .val (.long q2), .second] [(.int (lcmpW q1 q2))])) t → Steps p.tables e below (s₁.setTop (entryFrame m #[(.long q1), (.long q2)] 4)) t := by
      intro t k
      refine pre1 t ?_
      show Steps p.tables e below (s₁.setTop (mkF m 3 #[.val (.long q1), .second, .val (.long q2), .second] [(.int (lcmpW q1 q2))])) _
      refine XS.ifYes X0.here hx rfl (pc0 := 3) (pc' := 10) rfl (hb hby d2_3) rfl ((if0 _ _).trans (flt (fun q => hc3 ((lw_lt _ _).mp q))).2.1) (by decide) (by decide) ?_
      show Steps p.tables e below (s₁.setTop (mkF m 10 #[.val (.long q1), .second, .val (.long q2), .second] [])) _
      refine XS.lloadN X0.here hx rfl (hb hby d2_10) rfl ?_
      show Steps p.tables e below (s₁.setTop (mkF m 11 #[.val (.long q1), .second, .val (.long q2), .second] [(.long q1)])) _
      refine XS.lloadN X0.here hx rfl (hb hby d2_11) rfl ?_
      show Steps p.tables e below (s₁.setTop (mkF m 12 #[.val (.long q1), .second, .val (.long q2), .second] [(.long q2), (.long q1)])) _
      refine XS.lcmp X0.here hx rfl (hb hby d2_12) rfl ?_
      exact k
    by_cases hc13 : q1 = q2
    · have eq4 : (f2 q1 q2) = (0 : Int32) := by unfold f2; simp only [if_neg hc3, if_pos hc13]
      obtain ⟨fs, hr, hrun, hended, hW, hsame⟩ := X0.leave (v := some (.int (0 : Int32))) (fun h => by rw [Bd.returns] at h; cases h)
      refine ⟨_, _, pre3 _ ?_, hrun, hended, _, _, rfl, ?_, ⟨_, rfl⟩, hW, hsame.mono (by decide) (by decide)⟩
      · show Steps p.tables e below (s₁.setTop (mkF m 13 #[.val (.long q1), .second, .val (.long q2), .second] [(.int (lcmpW q1 q2))])) _
        refine XS.ifNo X0.here hx rfl (hb hby d2_13) rfl ((if0 _ _).trans (teq ((lw_eq _ _).mpr hc13)).2) ?_
        show Steps p.tables e below (s₁.setTop (mkF m 16 #[.val (.long q1), .second, .val (.long q2), .second] [])) _
        refine XS.iconst X0.here hx rfl (hb hby d2_16) ?_
        show Steps p.tables e below (s₁.setTop (mkF m 17 #[.val (.long q1), .second, .val (.long q2), .second] [(.int (0 : Int32))])) _
        refine XS.goto X0.here hx rfl (pc0 := 17) (pc' := 21) rfl (hb hby d2_17) (by decide) (by decide) ?_
        show Steps p.tables e below (s₁.setTop (mkF m 21 #[.val (.long q1), .second, .val (.long q2), .second] [(.int (0 : Int32))])) _
        exact retI X0 hx Bd.returns (hb hby d2_21) hr
      · show Q2 Z q1 q2 h0 n0 _ s₁.heap _
        rw [e0]
        exact ⟨by rw [eq4], N0, rfl⟩
    · have eq5 : (f2 q1 q2) = (1 : Int32) := by unfold f2; simp only [if_neg hc3, if_neg hc13]
      obtain ⟨fs, hr, hrun, hended, hW, hsame⟩ := X0.leave (v := some (.int (1 : Int32))) (fun h => by rw [Bd.returns] at h; cases h)
      refine ⟨_, _, pre3 _ ?_, hrun, hended, _, _, rfl, ?_, ⟨_, rfl⟩, hW, hsame.mono (by decide) (by decide)⟩
      · show Steps p.tables e below (s₁.setTop (mkF m 13 #[.val (.long q1), .second, .val (.long q2), .second] [(.int (lcmpW q1 q2))])) _
        refine XS.ifYes X0.here hx rfl (pc0 := 13) (pc' := 20) rfl (hb hby d2_13) rfl ((if0 _ _).trans (feq (fun q => hc13 ((lw_eq _ _).mp q))).2) (by decide) (by decide) ?_
        show Steps p.tables e below (s₁.setTop (mkF m 20 #[.val (.long q1), .second, .val (.long q2), .second] [])) _
        refine XS.iconst X0.here hx rfl (hb hby d2_20) ?_
        show Steps p.tables e below (s₁.setTop (mkF m 21 #[.val (.long q1), .second, .val (.long q2), .second] [(.int (1 : Int32))])) _
        exact retI X0 hx Bd.returns (hb hby d2_21) hr
      · show Q2 Z q1 q2 h0 n0 _ s₁.heap _
        rw [e0]
        exact ⟨by rw [eq5], N0, rfl⟩
theorem pd_0 : parseMethodDescriptor "(JJ)I" = some ⟨[.long, .long], some .int⟩ := by decide +kernel
theorem pn_1 : plainName "com/example/inline_monitor/inlinemonitor/runtime/PolicyMonitor" = true := by first | (simp [plainName, overriddenIn]; done) | decide +kernel
theorem d1_0 : decode prog_50_method_3_code 0 = .ok (.lload_n 0, 1) := by decide +kernel
theorem d1_1 : decode prog_50_method_3_code 1 = .ok (.lload_n 2, 1) := by decide +kernel
theorem d1_2 : decode prog_50_method_3_code 2 = .ok (.invokestatic 87, 3) := by decide +kernel
theorem d1_5 : decode prog_50_method_3_code 5 = .ok (.istore 5, 2) := by decide +kernel
theorem d1_7 : decode prog_50_method_3_code 7 = .ok (.iload 4, 2) := by decide +kernel
theorem d1_9 : decode prog_50_method_3_code 9 = .ok (.tableswitch 110 0 4 #[35, 50, 65, 80, 95], 35) := by decide +kernel
theorem d1_44 : decode prog_50_method_3_code 44 = .ok (.iload 5, 2) := by decide +kernel
theorem d1_46 : decode prog_50_method_3_code 46 = .ok (.ifCond .ne 7, 3) := by decide +kernel
theorem d1_49 : decode prog_50_method_3_code 49 = .ok (.iconst 1, 1) := by decide +kernel
theorem d1_50 : decode prog_50_method_3_code 50 = .ok (.goto 4, 3) := by decide +kernel
theorem d1_53 : decode prog_50_method_3_code 53 = .ok (.iconst 0, 1) := by decide +kernel
theorem d1_54 : decode prog_50_method_3_code 54 = .ok (.istore 6, 2) := by decide +kernel
theorem d1_56 : decode prog_50_method_3_code 56 = .ok (.goto 75, 3) := by decide +kernel
theorem d1_59 : decode prog_50_method_3_code 59 = .ok (.iload 5, 2) := by decide +kernel
theorem d1_61 : decode prog_50_method_3_code 61 = .ok (.ifCond .eq 7, 3) := by decide +kernel
theorem d1_64 : decode prog_50_method_3_code 64 = .ok (.iconst 1, 1) := by decide +kernel
theorem d1_65 : decode prog_50_method_3_code 65 = .ok (.goto 4, 3) := by decide +kernel
theorem d1_68 : decode prog_50_method_3_code 68 = .ok (.iconst 0, 1) := by decide +kernel
theorem d1_69 : decode prog_50_method_3_code 69 = .ok (.istore 6, 2) := by decide +kernel
theorem d1_71 : decode prog_50_method_3_code 71 = .ok (.goto 60, 3) := by decide +kernel
theorem d1_74 : decode prog_50_method_3_code 74 = .ok (.iload 5, 2) := by decide +kernel
theorem d1_76 : decode prog_50_method_3_code 76 = .ok (.ifCond .ge 7, 3) := by decide +kernel
theorem d1_79 : decode prog_50_method_3_code 79 = .ok (.iconst 1, 1) := by decide +kernel
theorem d1_80 : decode prog_50_method_3_code 80 = .ok (.goto 4, 3) := by decide +kernel
theorem d1_83 : decode prog_50_method_3_code 83 = .ok (.iconst 0, 1) := by decide +kernel
theorem d1_84 : decode prog_50_method_3_code 84 = .ok (.istore 6, 2) := by decide +kernel
theorem d1_86 : decode prog_50_method_3_code 86 = .ok (.goto 45, 3) := by decide +kernel
theorem d1_89 : decode prog_50_method_3_code 89 = .ok (.iload 5, 2) := by decide +kernel
theorem d1_91 : decode prog_50_method_3_code 91 = .ok (.ifCond .gt 7, 3) := by decide +kernel
theorem d1_94 : decode prog_50_method_3_code 94 = .ok (.iconst 1, 1) := by decide +kernel
theorem d1_95 : decode prog_50_method_3_code 95 = .ok (.goto 4, 3) := by decide +kernel
theorem d1_98 : decode prog_50_method_3_code 98 = .ok (.iconst 0, 1) := by decide +kernel
theorem d1_99 : decode prog_50_method_3_code 99 = .ok (.istore 6, 2) := by decide +kernel
theorem d1_101 : decode prog_50_method_3_code 101 = .ok (.goto 30, 3) := by decide +kernel
theorem d1_104 : decode prog_50_method_3_code 104 = .ok (.iload 5, 2) := by decide +kernel
theorem d1_106 : decode prog_50_method_3_code 106 = .ok (.ifCond .le 7, 3) := by decide +kernel
theorem d1_109 : decode prog_50_method_3_code 109 = .ok (.iconst 1, 1) := by decide +kernel
theorem d1_110 : decode prog_50_method_3_code 110 = .ok (.goto 4, 3) := by decide +kernel
theorem d1_113 : decode prog_50_method_3_code 113 = .ok (.iconst 0, 1) := by decide +kernel
theorem d1_114 : decode prog_50_method_3_code 114 = .ok (.istore 6, 2) := by decide +kernel
theorem d1_116 : decode prog_50_method_3_code 116 = .ok (.goto 15, 3) := by decide +kernel
theorem d1_119 : decode prog_50_method_3_code 119 = .ok (.iload 5, 2) := by decide +kernel
theorem d1_121 : decode prog_50_method_3_code 121 = .ok (.ifCond .lt 7, 3) := by decide +kernel
theorem d1_124 : decode prog_50_method_3_code 124 = .ok (.iconst 1, 1) := by decide +kernel
theorem d1_125 : decode prog_50_method_3_code 125 = .ok (.goto 4, 3) := by decide +kernel
theorem d1_128 : decode prog_50_method_3_code 128 = .ok (.iconst 0, 1) := by decide +kernel
theorem d1_129 : decode prog_50_method_3_code 129 = .ok (.istore 6, 2) := by decide +kernel
theorem d1_131 : decode prog_50_method_3_code 131 = .ok (.iload 6, 2) := by decide +kernel
theorem d1_133 : decode prog_50_method_3_code 133 = .ok (.ireturn, 1) := by decide +kernel
theorem ef_1 (m : MethodId) (x0 : Int64) (x1 : Int64) (x2 : Int32) : entryFrame m #[(.long x0), (.long x1), (.int x2)] 7 = mkF m 0 #[.val (.long x0), .second, .val (.long x1), .second, .val (.int x2), .unset, .unset] [] := by first | (simp [entryFrame, mkF, argsToLocals, Value.category]; done) | rfl
def f1_s0_54 (q1 : Int64) (q2 : Int64) (p3 : Int32) : Int32 := (if (f2 q1 q2) = (0 : Int32) then (1 : Int32) else (0 : Int32))
def f1_s0_69 (q1 : Int64) (q2 : Int64) (p3 : Int32) : Int32 := (if (f2 q1 q2) = (0 : Int32) then (0 : Int32) else (1 : Int32))
def f1_s0_84 (q1 : Int64) (q2 : Int64) (p3 : Int32) : Int32 := (if (f2 q1 q2) < (0 : Int32) then (1 : Int32) else (0 : Int32))
def f1_s0_99 (q1 : Int64) (q2 : Int64) (p3 : Int32) : Int32 := (if (0 : Int32) < (f2 q1 q2) then (0 : Int32) else (1 : Int32))
def f1_s0_114 (q1 : Int64) (q2 : Int64) (p3 : Int32) : Int32 := (if (0 : Int32) < (f2 q1 q2) then (1 : Int32) else (0 : Int32))
def f1_s0_129 (q1 : Int64) (q2 : Int64) (p3 : Int32) : Int32 := (if (f2 q1 q2) < (0 : Int32) then (0 : Int32) else (1 : Int32))
def f1 (q1 : Int64) (q2 : Int64) (p3 : Int32) : Int32 := (if p3 = (0 : Int32) then (nar .boolean (f1_s0_54 q1 q2 p3)) else (if p3 = (1 : Int32) then (nar .boolean (f1_s0_69 q1 q2 p3)) else (if p3 = (2 : Int32) then (nar .boolean (f1_s0_84 q1 q2 p3)) else (if p3 = (3 : Int32) then (nar .boolean (f1_s0_99 q1 q2 p3)) else (if p3 = (4 : Int32) then (nar .boolean (f1_s0_114 q1 q2 p3)) else (nar .boolean (f1_s0_129 q1 q2 p3)))))))
def Q1 (Z : State) (q1 : Int64) (q2 : Int64) (p3 : Int32) (h0 : Heap) (n0 : Nat) (v : Option Value) (h : Heap) (L : List Loc) : Prop := v = some (.int (f1 q1 q2 p3)) ∧ Fr n0 L ∧ h = h0
set_option maxRecDepth 65536 in
set_option maxHeartbeats 40000000 in
theorem rm1 (l : Launch) (Z : State) (a0 : Array Value) (hw : ∀ d ∈ tables_1, d.before a0 Z = true) (ws : List Jvm.Cond) (q1 : Int64) (q2 : Int64) (p3 : Int32) (h0 : Heap) (n0 : Nat) (Z0 : n0 ≤ h0.size) :
    MetFree l (⟨"com/example/inline_monitor/inlinemonitor/runtime/PolicyMonitor", "compare", "(JJI)Z"⟩ : MethodName) (head1 (Jvm.Cond.code (⟨"com/example/inline_monitor/inlinemonitor/runtime/PolicyMonitor", "compare", "(JJI)Z"⟩ : MethodName) prog_50_method_3_code 7 (some .boolean) :: ws) ({ frames := 1, cells := 0, slots := 0, locals := 15 } : Room)) (fun a U => a = #[(.long q1), (.long q2), (.int p3)] ∧ Z.Warmed39 U.vm ∧ U.heap = h0) (fun _ _ _ _ _ => True) (fun _ U o U' => ∃ v L, o = .returned v ∧ Q1 Z q1 q2 p3 h0 n0 v U'.heap L ∧ FrameEnd U o U' L ({ frames := 1, cells := 0, slots := 0, locals := 15 } : Room).cells ({ frames := 1, cells := 0, slots := 0, locals := 15 } : Room).slots) := by
  refine MetFree.of_bodySF (plainFor_of_name pn_1) hisR ?_
  intro p e s m args below meth c s₁ Bd hml0 hP hK
  obtain ⟨rfl, hZ, hh⟩ := hP
  have hx := Bd.exec
  have hby := Bd.bytes
  have hml : c.maxLocals = 7 := hml0
  have hown : s.vm.findClass "com/example/inline_monitor/inlinemonitor/runtime/PolicyMonitor" = some m.cls := findClass_of_methodNamed Bd.named
  have hnm := (name_of_methodNamed Bd.named Bd.method).1
  have X0 : Stand p l e ({ frames := 1, cells := 0, slots := 0, locals := 15 } : Room) s m #[(.long q1), (.long q2), (.int p3)] below meth c s₁ [] 0 0 := Stand.of_body Bd
  have e0 : s₁.heap = h0 := by rw [← hh, Bd.state]; rfl
  have N0 := Fr.nil n0
  have pre0 : ∀ t, Steps p.tables e below (s₁.setTop (mkF m 0 #[.val (.long q1), .second, .val (.long q2), .second, .val (.int p3), .unset, .unset] [])) t → Steps p.tables e below (s₁.setTop (entryFrame m #[(.long q1), (.long q2), (.int p3)] 7)) t := fun t k => castTop (ef_1 m q1 q2 p3) k
  obtain ⟨_, _, ⟨T4, L4, k4, n4⟩, -, X4, ⟨Lc4, hQ4, l4, y4, z4⟩, st4⟩ := Jvm.LawKit.callS X0 hx (y := (⟨"java/lang/Long", "compare", "(JJ)I"⟩ : MethodName)) hown (mvT hZ (hw _ (List.mem_of_getElem? (i := 5) rfl))) (mvT hZ (hw _ (List.mem_of_getElem? (i := 6) rfl))) (mvT hZ (hw _ (List.mem_of_getElem? (i := 7) rfl))) (mvT hZ (hw _ (List.mem_of_getElem? (i := 8) rfl))) (by decide) (backOf (W := 0) (rm2 l Z a0 hw [] q1 q2 h0 n0 Z0 ) hZ (hw _ (List.mem_of_getElem? (i := 8) rfl)) (hw _ (List.mem_of_getElem? (i := 7) rfl)) (by decide) (by decide)) (g := (mkF m 2 #[.val (.long q1), .second, .val (.long q2), .second, .val (.int p3), .unset, .unset] [(.long q2), (.long q1)])) rfl (by rw [hml]; rfl) (argsL := [(.long q1), (.long q2)]) (rest := []) (lenOf pd_0 rfl) rfl (by show 2 * 0 + _ ≤ _; exact Nat.le_of_eq rfl) (hb hby d1_2) (fun _ _ => ⟨rfl, e0, (by decide : 0 + 0 ≤ _), (by decide : 0 + 0 ≤ _)⟩)
  dsimp only [Pt.U, Pt.locs, Pt.cells, Pt.slots] at X4 l4 y4 z4 st4 hQ4
  subst l4 y4 z4
  obtain ⟨rfl, N4q, e4⟩ := hQ4
  have N4 := Fr.app N0 N4q
  have pre1 : ∀ t, Steps p.tables e below (T4.setTop (mkF m 9 #[.val (.long q1), .second, .val (.long q2), .second, .val (.int p3), .val (.int (f2 q1 q2)), .unset] [(.int p3)])) t → Steps p.tables e below (s₁.setTop (entryFrame m #[(.long q1), (.long q2), (.int p3)] 7)) t := by
    intro t k
    refine pre0 t ?_
    show Steps p.tables e below (s₁.setTop (mkF m 0 #[.val (.long q1), .second, .val (.long q2), .second, .val (.int p3), .unset, .unset] [])) _
    refine XS.lloadN X0.here hx rfl (hb hby d1_0) rfl ?_
    show Steps p.tables e below (s₁.setTop (mkF m 1 #[.val (.long q1), .second, .val (.long q2), .second, .val (.int p3), .unset, .unset] [(.long q1)])) _
    refine XS.lloadN X0.here hx rfl (hb hby d1_1) rfl ?_
    show Steps p.tables e below (s₁.setTop (mkF m 2 #[.val (.long q1), .second, .val (.long q2), .second, .val (.int p3), .unset, .unset] [(.long q2), (.long q1)])) _
    refine st4 _ ?_
    show Steps p.tables e below (T4.setTop (mkF m 5 #[.val (.long q1), .second, .val (.long q2), .second, .val (.int p3), .unset, .unset] [(.int (f2 q1 q2))])) _
    refine XS.istore X4.here hx rfl (hb hby d1_5) rfl (l' := #[.val (.long q1), .second, .val (.long q2), .second, .val (.int p3), .val (.int (f2 q1 q2)), .unset]) rfl ?_
    show Steps p.tables e below (T4.setTop (mkF m 7 #[.val (.long q1), .second, .val (.long q2), .second, .val (.int p3), .val (.int (f2 q1 q2)), .unset] [])) _
    refine XS.iload X4.here hx rfl (hb hby d1_7) rfl ?_
    exact k
  by_cases hs9_0 : p3 = (0 : Int32)
  · have pre2 : ∀ t, Steps p.tables e below (T4.setTop (mkF m 46 #[.val (.long q1), .second, .val (.long q2), .second, .val (.int p3), .val (.int (f2 q1 q2)), .unset] [(.int (f2 q1 q2))])) t → Steps p.tables e below (s₁.setTop (entryFrame m #[(.long q1), (.long q2), (.int p3)] 7)) t := by
      intro t k
      refine pre1 t ?_
      show Steps p.tables e below (T4.setTop (mkF m 9 #[.val (.long q1), .second, .val (.long q2), .second, .val (.int p3), .val (.int (f2 q1 q2)), .unset] [(.int p3)])) _
      refine XS.tswIn X4.here hx rfl (pc0 := 9) (pc' := 44) (o := 35) rfl (hb hby d1_9) rfl (by rw [hs9_0]; decide) (by rw [hs9_0]; rfl) (by decide) (by decide) ?_
      show Steps p.tables e below (T4.setTop (mkF m 44 #[.val (.long q1), .second, .val (.long q2), .second, .val (.int p3), .val (.int (f2 q1 q2)), .unset] [])) _
      refine XS.iload X4.here hx rfl (hb hby d1_44) rfl ?_
      exact k
    have pre3 : ∀ t, Steps p.tables e below (T4.setTop (mkF m 54 #[.val (.long q1), .second, .val (.long q2), .second, .val (.int p3), .val (.int (f2 q1 q2)), .unset] [(.int (f1_s0_54 q1 q2 p3))])) t → Steps p.tables e below (s₁.setTop (entryFrame m #[(.long q1), (.long q2), (.int p3)] 7)) t := by
      intro t k
      by_cases hc46 : (f2 q1 q2) = (0 : Int32)
      · have eq4 := (show (f1_s0_54 q1 q2 p3) = (1 : Int32) from by unfold f1_s0_54; simp only [if_pos hc46])
        try rw [eq4] at k
        refine pre2 t ?_
        show Steps p.tables e below (T4.setTop (mkF m 46 #[.val (.long q1), .second, .val (.long q2), .second, .val (.int p3), .val (.int (f2 q1 q2)), .unset] [(.int (f2 q1 q2))])) _
        refine XS.ifNo X4.here hx rfl (hb hby d1_46) rfl ((if0 _ _).trans (teq hc46).2) ?_
        show Steps p.tables e below (T4.setTop (mkF m 49 #[.val (.long q1), .second, .val (.long q2), .second, .val (.int p3), .val (.int (f2 q1 q2)), .unset] [])) _
        refine XS.iconst X4.here hx rfl (hb hby d1_49) ?_
        show Steps p.tables e below (T4.setTop (mkF m 50 #[.val (.long q1), .second, .val (.long q2), .second, .val (.int p3), .val (.int (f2 q1 q2)), .unset] [(.int (1 : Int32))])) _
        refine XS.goto X4.here hx rfl (pc0 := 50) (pc' := 54) rfl (hb hby d1_50) (by decide) (by decide) ?_
        exact k
      · have eq5 := (show (f1_s0_54 q1 q2 p3) = (0 : Int32) from by unfold f1_s0_54; simp only [if_neg hc46])
        try rw [eq5] at k
        refine pre2 t ?_
        show Steps p.tables e below (T4.setTop (mkF m 46 #[.val (.long q1), .second, .val (.long q2), .second, .val (.int p3), .val (.int (f2 q1 q2)), .unset] [(.int (f2 q1 q2))])) _
        refine XS.ifYes X4.here hx rfl (pc0 := 46) (pc' := 53) rfl (hb hby d1_46) rfl ((if0 _ _).trans (feq hc46).2) (by decide) (by decide) ?_
        show Steps p.tables e below (T4.setTop (mkF m 53 #[.val (.long q1), .second, .val (.long q2), .second, .val (.int p3), .val (.int (f2 q1 q2)), .unset] [])) _
        refine XS.iconst X4.here hx rfl (hb hby d1_53) ?_
        exact k
    have eq6 : (f1 q1 q2 p3) = (nar .boolean (f1_s0_54 q1 q2 p3)) := by unfold f1; simp only [if_pos hs9_0]
    obtain ⟨fs, hr, hrun, hended, hW, hsame⟩ := X4.leave (v := some (.int (nar .boolean (f1_s0_54 q1 q2 p3)))) (fun h => by rw [Bd.returns] at h; cases h)
    refine ⟨_, _, pre3 _ ?_, hrun, hended, _, _, rfl, ?_, ⟨_, rfl⟩, hW, hsame.mono (by decide) (by decide)⟩
    · show Steps p.tables e below (T4.setTop (mkF m 54 #[.val (.long q1), .second, .val (.long q2), .second, .val (.int p3), .val (.int (f2 q1 q2)), .unset] [(.int (f1_s0_54 q1 q2 p3))])) _
      refine XS.istore X4.here hx rfl (hb hby d1_54) rfl (l' := #[.val (.long q1), .second, .val (.long q2), .second, .val (.int p3), .val (.int (f2 q1 q2)), .val (.int (f1_s0_54 q1 q2 p3))]) rfl ?_
      show Steps p.tables e below (T4.setTop (mkF m 56 #[.val (.long q1), .second, .val (.long q2), .second, .val (.int p3), .val (.int (f2 q1 q2)), .val (.int (f1_s0_54 q1 q2 p3))] [])) _
      refine XS.goto X4.here hx rfl (pc0 := 56) (pc' := 131) rfl (hb hby d1_56) (by decide) (by decide) ?_
      show Steps p.tables e below (T4.setTop (mkF m 131 #[.val (.long q1), .second, .val (.long q2), .second, .val (.int p3), .val (.int (f2 q1 q2)), .val (.int (f1_s0_54 q1 q2 p3))] [])) _
      refine XS.iload X4.here hx rfl (hb hby d1_131) rfl ?_
      show Steps p.tables e below (T4.setTop (mkF m 133 #[.val (.long q1), .second, .val (.long q2), .second, .val (.int p3), .val (.int (f2 q1 q2)), .val (.int (f1_s0_54 q1 q2 p3))] [(.int (f1_s0_54 q1 q2 p3))])) _
      exact retN X4 hx (t := .boolean) Bd.returns (by simp) (hb hby d1_133) hr
    · show Q1 Z q1 q2 p3 h0 n0 _ T4.heap _
      rw [e4]
      exact ⟨by rw [eq6], N4, rfl⟩
  · by_cases hs9_1 : p3 = (1 : Int32)
    · have pre7 : ∀ t, Steps p.tables e below (T4.setTop (mkF m 61 #[.val (.long q1), .second, .val (.long q2), .second, .val (.int p3), .val (.int (f2 q1 q2)), .unset] [(.int (f2 q1 q2))])) t → Steps p.tables e below (s₁.setTop (entryFrame m #[(.long q1), (.long q2), (.int p3)] 7)) t := by
        intro t k
        refine pre1 t ?_
        show Steps p.tables e below (T4.setTop (mkF m 9 #[.val (.long q1), .second, .val (.long q2), .second, .val (.int p3), .val (.int (f2 q1 q2)), .unset] [(.int p3)])) _
        refine XS.tswIn X4.here hx rfl (pc0 := 9) (pc' := 59) (o := 50) rfl (hb hby d1_9) rfl (by rw [hs9_1]; decide) (by rw [hs9_1]; rfl) (by decide) (by decide) ?_
        show Steps p.tables e below (T4.setTop (mkF m 59 #[.val (.long q1), .second, .val (.long q2), .second, .val (.int p3), .val (.int (f2 q1 q2)), .unset] [])) _
        refine XS.iload X4.here hx rfl (hb hby d1_59) rfl ?_
        exact k
      have pre8 : ∀ t, Steps p.tables e below (T4.setTop (mkF m 69 #[.val (.long q1), .second, .val (.long q2), .second, .val (.int p3), .val (.int (f2 q1 q2)), .unset] [(.int (f1_s0_69 q1 q2 p3))])) t → Steps p.tables e below (s₁.setTop (entryFrame m #[(.long q1), (.long q2), (.int p3)] 7)) t := by
        intro t k
        by_cases hc61 : (f2 q1 q2) = (0 : Int32)
        · have eq9 := (show (f1_s0_69 q1 q2 p3) = (0 : Int32) from by unfold f1_s0_69; simp only [if_pos hc61])
          try rw [eq9] at k
          refine pre7 t ?_
          show Steps p.tables e below (T4.setTop (mkF m 61 #[.val (.long q1), .second, .val (.long q2), .second, .val (.int p3), .val (.int (f2 q1 q2)), .unset] [(.int (f2 q1 q2))])) _
          refine XS.ifYes X4.here hx rfl (pc0 := 61) (pc' := 68) rfl (hb hby d1_61) rfl ((if0 _ _).trans (teq hc61).1) (by decide) (by decide) ?_
          show Steps p.tables e below (T4.setTop (mkF m 68 #[.val (.long q1), .second, .val (.long q2), .second, .val (.int p3), .val (.int (f2 q1 q2)), .unset] [])) _
          refine XS.iconst X4.here hx rfl (hb hby d1_68) ?_
          exact k
        · have eq10 := (show (f1_s0_69 q1 q2 p3) = (1 : Int32) from by unfold f1_s0_69; simp only [if_neg hc61])
          try rw [eq10] at k
          refine pre7 t ?_
          show Steps p.tables e below (T4.setTop (mkF m 61 #[.val (.long q1), .second, .val (.long q2), .second, .val (.int p3), .val (.int (f2 q1 q2)), .unset] [(.int (f2 q1 q2))])) _
          refine XS.ifNo X4.here hx rfl (hb hby d1_61) rfl ((if0 _ _).trans (feq hc61).1) ?_
          show Steps p.tables e below (T4.setTop (mkF m 64 #[.val (.long q1), .second, .val (.long q2), .second, .val (.int p3), .val (.int (f2 q1 q2)), .unset] [])) _
          refine XS.iconst X4.here hx rfl (hb hby d1_64) ?_
          show Steps p.tables e below (T4.setTop (mkF m 65 #[.val (.long q1), .second, .val (.long q2), .second, .val (.int p3), .val (.int (f2 q1 q2)), .unset] [(.int (1 : Int32))])) _
          refine XS.goto X4.here hx rfl (pc0 := 65) (pc' := 69) rfl (hb hby d1_65) (by decide) (by decide) ?_
          exact k
      have eq11 : (f1 q1 q2 p3) = (nar .boolean (f1_s0_69 q1 q2 p3)) := by unfold f1; simp only [if_neg hs9_0, if_pos hs9_1]
      obtain ⟨fs, hr, hrun, hended, hW, hsame⟩ := X4.leave (v := some (.int (nar .boolean (f1_s0_69 q1 q2 p3)))) (fun h => by rw [Bd.returns] at h; cases h)
      refine ⟨_, _, pre8 _ ?_, hrun, hended, _, _, rfl, ?_, ⟨_, rfl⟩, hW, hsame.mono (by decide) (by decide)⟩
      · show Steps p.tables e below (T4.setTop (mkF m 69 #[.val (.long q1), .second, .val (.long q2), .second, .val (.int p3), .val (.int (f2 q1 q2)), .unset] [(.int (f1_s0_69 q1 q2 p3))])) _
        refine XS.istore X4.here hx rfl (hb hby d1_69) rfl (l' := #[.val (.long q1), .second, .val (.long q2), .second, .val (.int p3), .val (.int (f2 q1 q2)), .val (.int (f1_s0_69 q1 q2 p3))]) rfl ?_
        show Steps p.tables e below (T4.setTop (mkF m 71 #[.val (.long q1), .second, .val (.long q2), .second, .val (.int p3), .val (.int (f2 q1 q2)), .val (.int (f1_s0_69 q1 q2 p3))] [])) _
        refine XS.goto X4.here hx rfl (pc0 := 71) (pc' := 131) rfl (hb hby d1_71) (by decide) (by decide) ?_
        show Steps p.tables e below (T4.setTop (mkF m 131 #[.val (.long q1), .second, .val (.long q2), .second, .val (.int p3), .val (.int (f2 q1 q2)), .val (.int (f1_s0_69 q1 q2 p3))] [])) _
        refine XS.iload X4.here hx rfl (hb hby d1_131) rfl ?_
        show Steps p.tables e below (T4.setTop (mkF m 133 #[.val (.long q1), .second, .val (.long q2), .second, .val (.int p3), .val (.int (f2 q1 q2)), .val (.int (f1_s0_69 q1 q2 p3))] [(.int (f1_s0_69 q1 q2 p3))])) _
        exact retN X4 hx (t := .boolean) Bd.returns (by simp) (hb hby d1_133) hr
      · show Q1 Z q1 q2 p3 h0 n0 _ T4.heap _
        rw [e4]
        exact ⟨by rw [eq11], N4, rfl⟩
    · by_cases hs9_2 : p3 = (2 : Int32)
      · have pre12 : ∀ t, Steps p.tables e below (T4.setTop (mkF m 76 #[.val (.long q1), .second, .val (.long q2), .second, .val (.int p3), .val (.int (f2 q1 q2)), .unset] [(.int (f2 q1 q2))])) t → Steps p.tables e below (s₁.setTop (entryFrame m #[(.long q1), (.long q2), (.int p3)] 7)) t := by
          intro t k
          refine pre1 t ?_
          show Steps p.tables e below (T4.setTop (mkF m 9 #[.val (.long q1), .second, .val (.long q2), .second, .val (.int p3), .val (.int (f2 q1 q2)), .unset] [(.int p3)])) _
          refine XS.tswIn X4.here hx rfl (pc0 := 9) (pc' := 74) (o := 65) rfl (hb hby d1_9) rfl (by rw [hs9_2]; decide) (by rw [hs9_2]; rfl) (by decide) (by decide) ?_
          show Steps p.tables e below (T4.setTop (mkF m 74 #[.val (.long q1), .second, .val (.long q2), .second, .val (.int p3), .val (.int (f2 q1 q2)), .unset] [])) _
          refine XS.iload X4.here hx rfl (hb hby d1_74) rfl ?_
          exact k
        have pre13 : ∀ t, Steps p.tables e below (T4.setTop (mkF m 84 #[.val (.long q1), .second, .val (.long q2), .second, .val (.int p3), .val (.int (f2 q1 q2)), .unset] [(.int (f1_s0_84 q1 q2 p3))])) t → Steps p.tables e below (s₁.setTop (entryFrame m #[(.long q1), (.long q2), (.int p3)] 7)) t := by
          intro t k
          by_cases hc76 : (f2 q1 q2) < (0 : Int32)
          · have eq14 := (show (f1_s0_84 q1 q2 p3) = (1 : Int32) from by unfold f1_s0_84; simp only [if_pos hc76])
            try rw [eq14] at k
            refine pre12 t ?_
            show Steps p.tables e below (T4.setTop (mkF m 76 #[.val (.long q1), .second, .val (.long q2), .second, .val (.int p3), .val (.int (f2 q1 q2)), .unset] [(.int (f2 q1 q2))])) _
            refine XS.ifNo X4.here hx rfl (hb hby d1_76) rfl ((if0 _ _).trans (tlt hc76).2.1) ?_
            show Steps p.tables e below (T4.setTop (mkF m 79 #[.val (.long q1), .second, .val (.long q2), .second, .val (.int p3), .val (.int (f2 q1 q2)), .unset] [])) _
            refine XS.iconst X4.here hx rfl (hb hby d1_79) ?_
            show Steps p.tables e below (T4.setTop (mkF m 80 #[.val (.long q1), .second, .val (.long q2), .second, .val (.int p3), .val (.int (f2 q1 q2)), .unset] [(.int (1 : Int32))])) _
            refine XS.goto X4.here hx rfl (pc0 := 80) (pc' := 84) rfl (hb hby d1_80) (by decide) (by decide) ?_
            exact k
          · have eq15 := (show (f1_s0_84 q1 q2 p3) = (0 : Int32) from by unfold f1_s0_84; simp only [if_neg hc76])
            try rw [eq15] at k
            refine pre12 t ?_
            show Steps p.tables e below (T4.setTop (mkF m 76 #[.val (.long q1), .second, .val (.long q2), .second, .val (.int p3), .val (.int (f2 q1 q2)), .unset] [(.int (f2 q1 q2))])) _
            refine XS.ifYes X4.here hx rfl (pc0 := 76) (pc' := 83) rfl (hb hby d1_76) rfl ((if0 _ _).trans (flt hc76).2.1) (by decide) (by decide) ?_
            show Steps p.tables e below (T4.setTop (mkF m 83 #[.val (.long q1), .second, .val (.long q2), .second, .val (.int p3), .val (.int (f2 q1 q2)), .unset] [])) _
            refine XS.iconst X4.here hx rfl (hb hby d1_83) ?_
            exact k
        have eq16 : (f1 q1 q2 p3) = (nar .boolean (f1_s0_84 q1 q2 p3)) := by unfold f1; simp only [if_neg hs9_0, if_neg hs9_1, if_pos hs9_2]
        obtain ⟨fs, hr, hrun, hended, hW, hsame⟩ := X4.leave (v := some (.int (nar .boolean (f1_s0_84 q1 q2 p3)))) (fun h => by rw [Bd.returns] at h; cases h)
        refine ⟨_, _, pre13 _ ?_, hrun, hended, _, _, rfl, ?_, ⟨_, rfl⟩, hW, hsame.mono (by decide) (by decide)⟩
        · show Steps p.tables e below (T4.setTop (mkF m 84 #[.val (.long q1), .second, .val (.long q2), .second, .val (.int p3), .val (.int (f2 q1 q2)), .unset] [(.int (f1_s0_84 q1 q2 p3))])) _
          refine XS.istore X4.here hx rfl (hb hby d1_84) rfl (l' := #[.val (.long q1), .second, .val (.long q2), .second, .val (.int p3), .val (.int (f2 q1 q2)), .val (.int (f1_s0_84 q1 q2 p3))]) rfl ?_
          show Steps p.tables e below (T4.setTop (mkF m 86 #[.val (.long q1), .second, .val (.long q2), .second, .val (.int p3), .val (.int (f2 q1 q2)), .val (.int (f1_s0_84 q1 q2 p3))] [])) _
          refine XS.goto X4.here hx rfl (pc0 := 86) (pc' := 131) rfl (hb hby d1_86) (by decide) (by decide) ?_
          show Steps p.tables e below (T4.setTop (mkF m 131 #[.val (.long q1), .second, .val (.long q2), .second, .val (.int p3), .val (.int (f2 q1 q2)), .val (.int (f1_s0_84 q1 q2 p3))] [])) _
          refine XS.iload X4.here hx rfl (hb hby d1_131) rfl ?_
          show Steps p.tables e below (T4.setTop (mkF m 133 #[.val (.long q1), .second, .val (.long q2), .second, .val (.int p3), .val (.int (f2 q1 q2)), .val (.int (f1_s0_84 q1 q2 p3))] [(.int (f1_s0_84 q1 q2 p3))])) _
          exact retN X4 hx (t := .boolean) Bd.returns (by simp) (hb hby d1_133) hr
        · show Q1 Z q1 q2 p3 h0 n0 _ T4.heap _
          rw [e4]
          exact ⟨by rw [eq16], N4, rfl⟩
      · by_cases hs9_3 : p3 = (3 : Int32)
        · have pre17 : ∀ t, Steps p.tables e below (T4.setTop (mkF m 91 #[.val (.long q1), .second, .val (.long q2), .second, .val (.int p3), .val (.int (f2 q1 q2)), .unset] [(.int (f2 q1 q2))])) t → Steps p.tables e below (s₁.setTop (entryFrame m #[(.long q1), (.long q2), (.int p3)] 7)) t := by
            intro t k
            refine pre1 t ?_
            show Steps p.tables e below (T4.setTop (mkF m 9 #[.val (.long q1), .second, .val (.long q2), .second, .val (.int p3), .val (.int (f2 q1 q2)), .unset] [(.int p3)])) _
            refine XS.tswIn X4.here hx rfl (pc0 := 9) (pc' := 89) (o := 80) rfl (hb hby d1_9) rfl (by rw [hs9_3]; decide) (by rw [hs9_3]; rfl) (by decide) (by decide) ?_
            show Steps p.tables e below (T4.setTop (mkF m 89 #[.val (.long q1), .second, .val (.long q2), .second, .val (.int p3), .val (.int (f2 q1 q2)), .unset] [])) _
            refine XS.iload X4.here hx rfl (hb hby d1_89) rfl ?_
            exact k
          have pre18 : ∀ t, Steps p.tables e below (T4.setTop (mkF m 99 #[.val (.long q1), .second, .val (.long q2), .second, .val (.int p3), .val (.int (f2 q1 q2)), .unset] [(.int (f1_s0_99 q1 q2 p3))])) t → Steps p.tables e below (s₁.setTop (entryFrame m #[(.long q1), (.long q2), (.int p3)] 7)) t := by
            intro t k
            by_cases hc91 : (0 : Int32) < (f2 q1 q2)
            · have eq19 := (show (f1_s0_99 q1 q2 p3) = (0 : Int32) from by unfold f1_s0_99; simp only [if_pos hc91])
              try rw [eq19] at k
              refine pre17 t ?_
              show Steps p.tables e below (T4.setTop (mkF m 91 #[.val (.long q1), .second, .val (.long q2), .second, .val (.int p3), .val (.int (f2 q1 q2)), .unset] [(.int (f2 q1 q2))])) _
              refine XS.ifYes X4.here hx rfl (pc0 := 91) (pc' := 98) rfl (hb hby d1_91) rfl ((if0 _ _).trans (tlt hc91).2.2.1) (by decide) (by decide) ?_
              show Steps p.tables e below (T4.setTop (mkF m 98 #[.val (.long q1), .second, .val (.long q2), .second, .val (.int p3), .val (.int (f2 q1 q2)), .unset] [])) _
              refine XS.iconst X4.here hx rfl (hb hby d1_98) ?_
              exact k
            · have eq20 := (show (f1_s0_99 q1 q2 p3) = (1 : Int32) from by unfold f1_s0_99; simp only [if_neg hc91])
              try rw [eq20] at k
              refine pre17 t ?_
              show Steps p.tables e below (T4.setTop (mkF m 91 #[.val (.long q1), .second, .val (.long q2), .second, .val (.int p3), .val (.int (f2 q1 q2)), .unset] [(.int (f2 q1 q2))])) _
              refine XS.ifNo X4.here hx rfl (hb hby d1_91) rfl ((if0 _ _).trans (flt hc91).2.2.1) ?_
              show Steps p.tables e below (T4.setTop (mkF m 94 #[.val (.long q1), .second, .val (.long q2), .second, .val (.int p3), .val (.int (f2 q1 q2)), .unset] [])) _
              refine XS.iconst X4.here hx rfl (hb hby d1_94) ?_
              show Steps p.tables e below (T4.setTop (mkF m 95 #[.val (.long q1), .second, .val (.long q2), .second, .val (.int p3), .val (.int (f2 q1 q2)), .unset] [(.int (1 : Int32))])) _
              refine XS.goto X4.here hx rfl (pc0 := 95) (pc' := 99) rfl (hb hby d1_95) (by decide) (by decide) ?_
              exact k
          have eq21 : (f1 q1 q2 p3) = (nar .boolean (f1_s0_99 q1 q2 p3)) := by unfold f1; simp only [if_neg hs9_0, if_neg hs9_1, if_neg hs9_2, if_pos hs9_3]
          obtain ⟨fs, hr, hrun, hended, hW, hsame⟩ := X4.leave (v := some (.int (nar .boolean (f1_s0_99 q1 q2 p3)))) (fun h => by rw [Bd.returns] at h; cases h)
          refine ⟨_, _, pre18 _ ?_, hrun, hended, _, _, rfl, ?_, ⟨_, rfl⟩, hW, hsame.mono (by decide) (by decide)⟩
          · show Steps p.tables e below (T4.setTop (mkF m 99 #[.val (.long q1), .second, .val (.long q2), .second, .val (.int p3), .val (.int (f2 q1 q2)), .unset] [(.int (f1_s0_99 q1 q2 p3))])) _
            refine XS.istore X4.here hx rfl (hb hby d1_99) rfl (l' := #[.val (.long q1), .second, .val (.long q2), .second, .val (.int p3), .val (.int (f2 q1 q2)), .val (.int (f1_s0_99 q1 q2 p3))]) rfl ?_
            show Steps p.tables e below (T4.setTop (mkF m 101 #[.val (.long q1), .second, .val (.long q2), .second, .val (.int p3), .val (.int (f2 q1 q2)), .val (.int (f1_s0_99 q1 q2 p3))] [])) _
            refine XS.goto X4.here hx rfl (pc0 := 101) (pc' := 131) rfl (hb hby d1_101) (by decide) (by decide) ?_
            show Steps p.tables e below (T4.setTop (mkF m 131 #[.val (.long q1), .second, .val (.long q2), .second, .val (.int p3), .val (.int (f2 q1 q2)), .val (.int (f1_s0_99 q1 q2 p3))] [])) _
            refine XS.iload X4.here hx rfl (hb hby d1_131) rfl ?_
            show Steps p.tables e below (T4.setTop (mkF m 133 #[.val (.long q1), .second, .val (.long q2), .second, .val (.int p3), .val (.int (f2 q1 q2)), .val (.int (f1_s0_99 q1 q2 p3))] [(.int (f1_s0_99 q1 q2 p3))])) _
            exact retN X4 hx (t := .boolean) Bd.returns (by simp) (hb hby d1_133) hr
          · show Q1 Z q1 q2 p3 h0 n0 _ T4.heap _
            rw [e4]
            exact ⟨by rw [eq21], N4, rfl⟩
        · by_cases hs9_4 : p3 = (4 : Int32)
          · have pre22 : ∀ t, Steps p.tables e below (T4.setTop (mkF m 106 #[.val (.long q1), .second, .val (.long q2), .second, .val (.int p3), .val (.int (f2 q1 q2)), .unset] [(.int (f2 q1 q2))])) t → Steps p.tables e below (s₁.setTop (entryFrame m #[(.long q1), (.long q2), (.int p3)] 7)) t := by
              intro t k
              refine pre1 t ?_
              show Steps p.tables e below (T4.setTop (mkF m 9 #[.val (.long q1), .second, .val (.long q2), .second, .val (.int p3), .val (.int (f2 q1 q2)), .unset] [(.int p3)])) _
              refine XS.tswIn X4.here hx rfl (pc0 := 9) (pc' := 104) (o := 95) rfl (hb hby d1_9) rfl (by rw [hs9_4]; decide) (by rw [hs9_4]; rfl) (by decide) (by decide) ?_
              show Steps p.tables e below (T4.setTop (mkF m 104 #[.val (.long q1), .second, .val (.long q2), .second, .val (.int p3), .val (.int (f2 q1 q2)), .unset] [])) _
              refine XS.iload X4.here hx rfl (hb hby d1_104) rfl ?_
              exact k
            have pre23 : ∀ t, Steps p.tables e below (T4.setTop (mkF m 114 #[.val (.long q1), .second, .val (.long q2), .second, .val (.int p3), .val (.int (f2 q1 q2)), .unset] [(.int (f1_s0_114 q1 q2 p3))])) t → Steps p.tables e below (s₁.setTop (entryFrame m #[(.long q1), (.long q2), (.int p3)] 7)) t := by
              intro t k
              by_cases hc106 : (0 : Int32) < (f2 q1 q2)
              · have eq24 := (show (f1_s0_114 q1 q2 p3) = (1 : Int32) from by unfold f1_s0_114; simp only [if_pos hc106])
                try rw [eq24] at k
                refine pre22 t ?_
                show Steps p.tables e below (T4.setTop (mkF m 106 #[.val (.long q1), .second, .val (.long q2), .second, .val (.int p3), .val (.int (f2 q1 q2)), .unset] [(.int (f2 q1 q2))])) _
                refine XS.ifNo X4.here hx rfl (hb hby d1_106) rfl ((if0 _ _).trans (tlt hc106).2.2.2) ?_
                show Steps p.tables e below (T4.setTop (mkF m 109 #[.val (.long q1), .second, .val (.long q2), .second, .val (.int p3), .val (.int (f2 q1 q2)), .unset] [])) _
                refine XS.iconst X4.here hx rfl (hb hby d1_109) ?_
                show Steps p.tables e below (T4.setTop (mkF m 110 #[.val (.long q1), .second, .val (.long q2), .second, .val (.int p3), .val (.int (f2 q1 q2)), .unset] [(.int (1 : Int32))])) _
                refine XS.goto X4.here hx rfl (pc0 := 110) (pc' := 114) rfl (hb hby d1_110) (by decide) (by decide) ?_
                exact k
              · have eq25 := (show (f1_s0_114 q1 q2 p3) = (0 : Int32) from by unfold f1_s0_114; simp only [if_neg hc106])
                try rw [eq25] at k
                refine pre22 t ?_
                show Steps p.tables e below (T4.setTop (mkF m 106 #[.val (.long q1), .second, .val (.long q2), .second, .val (.int p3), .val (.int (f2 q1 q2)), .unset] [(.int (f2 q1 q2))])) _
                refine XS.ifYes X4.here hx rfl (pc0 := 106) (pc' := 113) rfl (hb hby d1_106) rfl ((if0 _ _).trans (flt hc106).2.2.2) (by decide) (by decide) ?_
                show Steps p.tables e below (T4.setTop (mkF m 113 #[.val (.long q1), .second, .val (.long q2), .second, .val (.int p3), .val (.int (f2 q1 q2)), .unset] [])) _
                refine XS.iconst X4.here hx rfl (hb hby d1_113) ?_
                exact k
            have eq26 : (f1 q1 q2 p3) = (nar .boolean (f1_s0_114 q1 q2 p3)) := by unfold f1; simp only [if_neg hs9_0, if_neg hs9_1, if_neg hs9_2, if_neg hs9_3, if_pos hs9_4]
            obtain ⟨fs, hr, hrun, hended, hW, hsame⟩ := X4.leave (v := some (.int (nar .boolean (f1_s0_114 q1 q2 p3)))) (fun h => by rw [Bd.returns] at h; cases h)
            refine ⟨_, _, pre23 _ ?_, hrun, hended, _, _, rfl, ?_, ⟨_, rfl⟩, hW, hsame.mono (by decide) (by decide)⟩
            · show Steps p.tables e below (T4.setTop (mkF m 114 #[.val (.long q1), .second, .val (.long q2), .second, .val (.int p3), .val (.int (f2 q1 q2)), .unset] [(.int (f1_s0_114 q1 q2 p3))])) _
              refine XS.istore X4.here hx rfl (hb hby d1_114) rfl (l' := #[.val (.long q1), .second, .val (.long q2), .second, .val (.int p3), .val (.int (f2 q1 q2)), .val (.int (f1_s0_114 q1 q2 p3))]) rfl ?_
              show Steps p.tables e below (T4.setTop (mkF m 116 #[.val (.long q1), .second, .val (.long q2), .second, .val (.int p3), .val (.int (f2 q1 q2)), .val (.int (f1_s0_114 q1 q2 p3))] [])) _
              refine XS.goto X4.here hx rfl (pc0 := 116) (pc' := 131) rfl (hb hby d1_116) (by decide) (by decide) ?_
              show Steps p.tables e below (T4.setTop (mkF m 131 #[.val (.long q1), .second, .val (.long q2), .second, .val (.int p3), .val (.int (f2 q1 q2)), .val (.int (f1_s0_114 q1 q2 p3))] [])) _
              refine XS.iload X4.here hx rfl (hb hby d1_131) rfl ?_
              show Steps p.tables e below (T4.setTop (mkF m 133 #[.val (.long q1), .second, .val (.long q2), .second, .val (.int p3), .val (.int (f2 q1 q2)), .val (.int (f1_s0_114 q1 q2 p3))] [(.int (f1_s0_114 q1 q2 p3))])) _
              exact retN X4 hx (t := .boolean) Bd.returns (by simp) (hb hby d1_133) hr
            · show Q1 Z q1 q2 p3 h0 n0 _ T4.heap _
              rw [e4]
              exact ⟨by rw [eq26], N4, rfl⟩
          · have pre27 : ∀ t, Steps p.tables e below (T4.setTop (mkF m 121 #[.val (.long q1), .second, .val (.long q2), .second, .val (.int p3), .val (.int (f2 q1 q2)), .unset] [(.int (f2 q1 q2))])) t → Steps p.tables e below (s₁.setTop (entryFrame m #[(.long q1), (.long q2), (.int p3)] 7)) t := by
              intro t k
              refine pre1 t ?_
              show Steps p.tables e below (T4.setTop (mkF m 9 #[.val (.long q1), .second, .val (.long q2), .second, .val (.int p3), .val (.int (f2 q1 q2)), .unset] [(.int p3)])) _
              refine XS.tswOut X4.here hx rfl (pc0 := 9) (pc' := 119) rfl (hb hby d1_9) rfl (own_tsw5 hs9_0 hs9_1 hs9_2 hs9_3 hs9_4) (by decide) (by decide) ?_
              show Steps p.tables e below (T4.setTop (mkF m 119 #[.val (.long q1), .second, .val (.long q2), .second, .val (.int p3), .val (.int (f2 q1 q2)), .unset] [])) _
              refine XS.iload X4.here hx rfl (hb hby d1_119) rfl ?_
              exact k
            have pre28 : ∀ t, Steps p.tables e below (T4.setTop (mkF m 129 #[.val (.long q1), .second, .val (.long q2), .second, .val (.int p3), .val (.int (f2 q1 q2)), .unset] [(.int (f1_s0_129 q1 q2 p3))])) t → Steps p.tables e below (s₁.setTop (entryFrame m #[(.long q1), (.long q2), (.int p3)] 7)) t := by
              intro t k
              by_cases hc121 : (f2 q1 q2) < (0 : Int32)
              · have eq29 := (show (f1_s0_129 q1 q2 p3) = (0 : Int32) from by unfold f1_s0_129; simp only [if_pos hc121])
                try rw [eq29] at k
                refine pre27 t ?_
                show Steps p.tables e below (T4.setTop (mkF m 121 #[.val (.long q1), .second, .val (.long q2), .second, .val (.int p3), .val (.int (f2 q1 q2)), .unset] [(.int (f2 q1 q2))])) _
                refine XS.ifYes X4.here hx rfl (pc0 := 121) (pc' := 128) rfl (hb hby d1_121) rfl ((if0 _ _).trans (tlt hc121).1) (by decide) (by decide) ?_
                show Steps p.tables e below (T4.setTop (mkF m 128 #[.val (.long q1), .second, .val (.long q2), .second, .val (.int p3), .val (.int (f2 q1 q2)), .unset] [])) _
                refine XS.iconst X4.here hx rfl (hb hby d1_128) ?_
                exact k
              · have eq30 := (show (f1_s0_129 q1 q2 p3) = (1 : Int32) from by unfold f1_s0_129; simp only [if_neg hc121])
                try rw [eq30] at k
                refine pre27 t ?_
                show Steps p.tables e below (T4.setTop (mkF m 121 #[.val (.long q1), .second, .val (.long q2), .second, .val (.int p3), .val (.int (f2 q1 q2)), .unset] [(.int (f2 q1 q2))])) _
                refine XS.ifNo X4.here hx rfl (hb hby d1_121) rfl ((if0 _ _).trans (flt hc121).1) ?_
                show Steps p.tables e below (T4.setTop (mkF m 124 #[.val (.long q1), .second, .val (.long q2), .second, .val (.int p3), .val (.int (f2 q1 q2)), .unset] [])) _
                refine XS.iconst X4.here hx rfl (hb hby d1_124) ?_
                show Steps p.tables e below (T4.setTop (mkF m 125 #[.val (.long q1), .second, .val (.long q2), .second, .val (.int p3), .val (.int (f2 q1 q2)), .unset] [(.int (1 : Int32))])) _
                refine XS.goto X4.here hx rfl (pc0 := 125) (pc' := 129) rfl (hb hby d1_125) (by decide) (by decide) ?_
                exact k
            have eq31 : (f1 q1 q2 p3) = (nar .boolean (f1_s0_129 q1 q2 p3)) := by unfold f1; simp only [if_neg hs9_0, if_neg hs9_1, if_neg hs9_2, if_neg hs9_3, if_neg hs9_4]
            obtain ⟨fs, hr, hrun, hended, hW, hsame⟩ := X4.leave (v := some (.int (nar .boolean (f1_s0_129 q1 q2 p3)))) (fun h => by rw [Bd.returns] at h; cases h)
            refine ⟨_, _, pre28 _ ?_, hrun, hended, _, _, rfl, ?_, ⟨_, rfl⟩, hW, hsame.mono (by decide) (by decide)⟩
            · show Steps p.tables e below (T4.setTop (mkF m 129 #[.val (.long q1), .second, .val (.long q2), .second, .val (.int p3), .val (.int (f2 q1 q2)), .unset] [(.int (f1_s0_129 q1 q2 p3))])) _
              refine XS.istore X4.here hx rfl (hb hby d1_129) rfl (l' := #[.val (.long q1), .second, .val (.long q2), .second, .val (.int p3), .val (.int (f2 q1 q2)), .val (.int (f1_s0_129 q1 q2 p3))]) rfl ?_
              show Steps p.tables e below (T4.setTop (mkF m 131 #[.val (.long q1), .second, .val (.long q2), .second, .val (.int p3), .val (.int (f2 q1 q2)), .val (.int (f1_s0_129 q1 q2 p3))] [])) _
              refine XS.iload X4.here hx rfl (hb hby d1_131) rfl ?_
              show Steps p.tables e below (T4.setTop (mkF m 133 #[.val (.long q1), .second, .val (.long q2), .second, .val (.int p3), .val (.int (f2 q1 q2)), .val (.int (f1_s0_129 q1 q2 p3))] [(.int (f1_s0_129 q1 q2 p3))])) _
              exact retN X4 hx (t := .boolean) Bd.returns (by simp) (hb hby d1_133) hr
            · show Q1 Z q1 q2 p3 h0 n0 _ T4.heap _
              rw [e4]
              exact ⟨by rw [eq31], N4, rfl⟩
theorem pn_2 : plainName "com/example/inline_monitor/inlinemonitor/runtime/PolicyMonitorComparePinLaw" = true := by first | (simp [plainName, overriddenIn]; done) | decide +kernel
theorem d3_0 : decode method_2_code 0 = .ok (.iload 4, 2) := by decide +kernel
theorem d3_2 : decode method_2_code 2 = .ok (.ifCond .ne 15, 3) := by decide +kernel
theorem d3_5 : decode method_2_code 5 = .ok (.lload_n 0, 1) := by decide +kernel
theorem d3_6 : decode method_2_code 6 = .ok (.lload_n 2, 1) := by decide +kernel
theorem d3_7 : decode method_2_code 7 = .ok (.lcmp, 1) := by decide +kernel
theorem d3_8 : decode method_2_code 8 = .ok (.ifCond .ne 7, 3) := by decide +kernel
theorem d3_11 : decode method_2_code 11 = .ok (.iconst 1, 1) := by decide +kernel
theorem d3_12 : decode method_2_code 12 = .ok (.goto 4, 3) := by decide +kernel
theorem d3_15 : decode method_2_code 15 = .ok (.iconst 0, 1) := by decide +kernel
theorem d3_16 : decode method_2_code 16 = .ok (.ireturn, 1) := by decide +kernel
theorem d3_17 : decode method_2_code 17 = .ok (.iload 4, 2) := by decide +kernel
theorem d3_19 : decode method_2_code 19 = .ok (.iconst 1, 1) := by decide +kernel
theorem d3_20 : decode method_2_code 20 = .ok (.if_icmp .ne 15, 3) := by decide +kernel
theorem d3_23 : decode method_2_code 23 = .ok (.lload_n 0, 1) := by decide +kernel
theorem d3_24 : decode method_2_code 24 = .ok (.lload_n 2, 1) := by decide +kernel
theorem d3_25 : decode method_2_code 25 = .ok (.lcmp, 1) := by decide +kernel
theorem d3_26 : decode method_2_code 26 = .ok (.ifCond .eq 7, 3) := by decide +kernel
theorem d3_29 : decode method_2_code 29 = .ok (.iconst 1, 1) := by decide +kernel
theorem d3_30 : decode method_2_code 30 = .ok (.goto 4, 3) := by decide +kernel
theorem d3_33 : decode method_2_code 33 = .ok (.iconst 0, 1) := by decide +kernel
theorem d3_34 : decode method_2_code 34 = .ok (.ireturn, 1) := by decide +kernel
theorem d3_35 : decode method_2_code 35 = .ok (.iload 4, 2) := by decide +kernel
theorem d3_37 : decode method_2_code 37 = .ok (.iconst 2, 1) := by decide +kernel
theorem d3_38 : decode method_2_code 38 = .ok (.if_icmp .ne 15, 3) := by decide +kernel
theorem d3_41 : decode method_2_code 41 = .ok (.lload_n 0, 1) := by decide +kernel
theorem d3_42 : decode method_2_code 42 = .ok (.lload_n 2, 1) := by decide +kernel
theorem d3_43 : decode method_2_code 43 = .ok (.lcmp, 1) := by decide +kernel
theorem d3_44 : decode method_2_code 44 = .ok (.ifCond .ge 7, 3) := by decide +kernel
theorem d3_47 : decode method_2_code 47 = .ok (.iconst 1, 1) := by decide +kernel
theorem d3_48 : decode method_2_code 48 = .ok (.goto 4, 3) := by decide +kernel
theorem d3_51 : decode method_2_code 51 = .ok (.iconst 0, 1) := by decide +kernel
theorem d3_52 : decode method_2_code 52 = .ok (.ireturn, 1) := by decide +kernel
theorem d3_53 : decode method_2_code 53 = .ok (.iload 4, 2) := by decide +kernel
theorem d3_55 : decode method_2_code 55 = .ok (.iconst 3, 1) := by decide +kernel
theorem d3_56 : decode method_2_code 56 = .ok (.if_icmp .ne 15, 3) := by decide +kernel
theorem d3_59 : decode method_2_code 59 = .ok (.lload_n 0, 1) := by decide +kernel
theorem d3_60 : decode method_2_code 60 = .ok (.lload_n 2, 1) := by decide +kernel
theorem d3_61 : decode method_2_code 61 = .ok (.lcmp, 1) := by decide +kernel
theorem d3_62 : decode method_2_code 62 = .ok (.ifCond .gt 7, 3) := by decide +kernel
theorem d3_65 : decode method_2_code 65 = .ok (.iconst 1, 1) := by decide +kernel
theorem d3_66 : decode method_2_code 66 = .ok (.goto 4, 3) := by decide +kernel
theorem d3_69 : decode method_2_code 69 = .ok (.iconst 0, 1) := by decide +kernel
theorem d3_70 : decode method_2_code 70 = .ok (.ireturn, 1) := by decide +kernel
theorem d3_71 : decode method_2_code 71 = .ok (.iload 4, 2) := by decide +kernel
theorem d3_73 : decode method_2_code 73 = .ok (.iconst 4, 1) := by decide +kernel
theorem d3_74 : decode method_2_code 74 = .ok (.if_icmp .ne 15, 3) := by decide +kernel
theorem d3_77 : decode method_2_code 77 = .ok (.lload_n 0, 1) := by decide +kernel
theorem d3_78 : decode method_2_code 78 = .ok (.lload_n 2, 1) := by decide +kernel
theorem d3_79 : decode method_2_code 79 = .ok (.lcmp, 1) := by decide +kernel
theorem d3_80 : decode method_2_code 80 = .ok (.ifCond .le 7, 3) := by decide +kernel
theorem d3_83 : decode method_2_code 83 = .ok (.iconst 1, 1) := by decide +kernel
theorem d3_84 : decode method_2_code 84 = .ok (.goto 4, 3) := by decide +kernel
theorem d3_87 : decode method_2_code 87 = .ok (.iconst 0, 1) := by decide +kernel
theorem d3_88 : decode method_2_code 88 = .ok (.ireturn, 1) := by decide +kernel
theorem d3_89 : decode method_2_code 89 = .ok (.lload_n 0, 1) := by decide +kernel
theorem d3_90 : decode method_2_code 90 = .ok (.lload_n 2, 1) := by decide +kernel
theorem d3_91 : decode method_2_code 91 = .ok (.lcmp, 1) := by decide +kernel
theorem d3_92 : decode method_2_code 92 = .ok (.ifCond .lt 7, 3) := by decide +kernel
theorem d3_95 : decode method_2_code 95 = .ok (.iconst 1, 1) := by decide +kernel
theorem d3_96 : decode method_2_code 96 = .ok (.goto 4, 3) := by decide +kernel
theorem d3_99 : decode method_2_code 99 = .ok (.iconst 0, 1) := by decide +kernel
theorem d3_100 : decode method_2_code 100 = .ok (.ireturn, 1) := by decide +kernel
theorem ef_3 (m : MethodId) (x0 : Int64) (x1 : Int64) (x2 : Int32) : entryFrame m #[(.long x0), (.long x1), (.int x2)] 5 = mkF m 0 #[.val (.long x0), .second, .val (.long x1), .second, .val (.int x2)] [] := by first | (simp [entryFrame, mkF, argsToLocals, Value.category]; done) | rfl
def f3 (q1 : Int64) (q2 : Int64) (p3 : Int32) : Int32 := (if p3 = (0 : Int32) then (if q1 = q2 then (1 : Int32) else (0 : Int32)) else (if p3 = (1 : Int32) then (if q1 = q2 then (0 : Int32) else (1 : Int32)) else (if p3 = (2 : Int32) then (if q1 < q2 then (1 : Int32) else (0 : Int32)) else (if p3 = (3 : Int32) then (if q2 < q1 then (0 : Int32) else (1 : Int32)) else (if p3 = (4 : Int32) then (if q2 < q1 then (1 : Int32) else (0 : Int32)) else (if q1 < q2 then (0 : Int32) else (1 : Int32)))))))
def Q3 (Z : State) (q1 : Int64) (q2 : Int64) (p3 : Int32) (h0 : Heap) (n0 : Nat) (v : Option Value) (h : Heap) (L : List Loc) : Prop := v = some (.int (f3 q1 q2 p3)) ∧ Fr n0 L ∧ h = h0
set_option maxRecDepth 65536 in
set_option maxHeartbeats 40000000 in
theorem rm3 (l : Launch) (Z : State) (a0 : Array Value) (hw : ∀ d ∈ tables_1, d.before a0 Z = true) (ws : List Jvm.Cond) (q1 : Int64) (q2 : Int64) (p3 : Int32) (h0 : Heap) (n0 : Nat) (Z0 : n0 ≤ h0.size) :
    MetFree l (⟨"com/example/inline_monitor/inlinemonitor/runtime/PolicyMonitorComparePinLaw", "expected", "(JJI)Z"⟩ : MethodName) (head1 (Jvm.Cond.code (⟨"com/example/inline_monitor/inlinemonitor/runtime/PolicyMonitorComparePinLaw", "expected", "(JJI)Z"⟩ : MethodName) method_2_code 5 (some .boolean) :: ws) ({ frames := 0, cells := 0, slots := 0, locals := 0 } : Room)) (fun a U => a = #[(.long q1), (.long q2), (.int p3)] ∧ Z.Warmed39 U.vm ∧ U.heap = h0) (fun _ _ _ _ _ => True) (fun _ U o U' => ∃ v L, o = .returned v ∧ Q3 Z q1 q2 p3 h0 n0 v U'.heap L ∧ FrameEnd U o U' L ({ frames := 0, cells := 0, slots := 0, locals := 0 } : Room).cells ({ frames := 0, cells := 0, slots := 0, locals := 0 } : Room).slots) := by
  refine MetFree.of_bodySF (plainFor_of_name pn_2) hisR ?_
  intro p e s m args below meth c s₁ Bd hml0 hP hK
  obtain ⟨rfl, hZ, hh⟩ := hP
  have hx := Bd.exec
  have hby := Bd.bytes
  have hml : c.maxLocals = 5 := hml0
  have hown : s.vm.findClass "com/example/inline_monitor/inlinemonitor/runtime/PolicyMonitorComparePinLaw" = some m.cls := findClass_of_methodNamed Bd.named
  have hnm := (name_of_methodNamed Bd.named Bd.method).1
  have X0 : Stand p l e ({ frames := 0, cells := 0, slots := 0, locals := 0 } : Room) s m #[(.long q1), (.long q2), (.int p3)] below meth c s₁ [] 0 0 := Stand.of_body Bd
  have e0 : s₁.heap = h0 := by rw [← hh, Bd.state]; rfl
  have N0 := Fr.nil n0
  have pre0 : ∀ t, Steps p.tables e below (s₁.setTop (mkF m 0 #[.val (.long q1), .second, .val (.long q2), .second, .val (.int p3)] [])) t → Steps p.tables e below (s₁.setTop (entryFrame m #[(.long q1), (.long q2), (.int p3)] 5)) t := fun t k => castTop (ef_3 m q1 q2 p3) k
  have pre1 : ∀ t, Steps p.tables e below (s₁.setTop (mkF m 2 #[.val (.long q1), .second, .val (.long q2), .second, .val (.int p3)] [(.int p3)])) t → Steps p.tables e below (s₁.setTop (entryFrame m #[(.long q1), (.long q2), (.int p3)] 5)) t := by
    intro t k
    refine pre0 t ?_
    show Steps p.tables e below (s₁.setTop (mkF m 0 #[.val (.long q1), .second, .val (.long q2), .second, .val (.int p3)] [])) _
    refine XS.iload X0.here hx rfl (hb hby d3_0) rfl ?_
    exact k
  by_cases hc2 : p3 = (0 : Int32)
  · have pre2 : ∀ t, Steps p.tables e below (s₁.setTop (mkF m 8 #[.val (.long q1), .second, .val (.long q2), .second, .val (.int p3)] [(.int (lcmpW q1 q2))])) t → Steps p.tables e below (s₁.setTop (entryFrame m #[(.long q1), (.long q2), (.int p3)] 5)) t := by
      intro t k
      refine pre1 t ?_
      show Steps p.tables e below (s₁.setTop (mkF m 2 #[.val (.long q1), .second, .val (.long q2), .second, .val (.int p3)] [(.int p3)])) _
      refine XS.ifNo X0.here hx rfl (hb hby d3_2) rfl ((if0 _ _).trans (teq hc2).2) ?_
      show Steps p.tables e below (s₁.setTop (mkF m 5 #[.val (.long q1), .second, .val (.long q2), .second, .val (.int p3)] [])) _
      refine XS.lloadN X0.here hx rfl (hb hby d3_5) rfl ?_
      show Steps p.tables e below (s₁.setTop (mkF m 6 #[.val (.long q1), .second, .val (.long q2), .second, .val (.int p3)] [(.long q1)])) _
      refine XS.lloadN X0.here hx rfl (hb hby d3_6) rfl ?_
      show Steps p.tables e below (s₁.setTop (mkF m 7 #[.val (.long q1), .second, .val (.long q2), .second, .val (.int p3)] [(.long q2), (.long q1)])) _
      refine XS.lcmp X0.here hx rfl (hb hby d3_7) rfl ?_
      exact k
    by_cases hc8 : q1 = q2
    · have eq3 : (f3 q1 q2 p3) = (1 : Int32) := by unfold f3; simp only [if_pos hc2, if_pos hc8]
      obtain ⟨fs, hr, hrun, hended, hW, hsame⟩ := X0.leave (v := some (.int (1 : Int32))) (fun h => by rw [Bd.returns] at h; cases h)
      refine ⟨_, _, pre2 _ ?_, hrun, hended, _, _, rfl, ?_, ⟨_, rfl⟩, hW, hsame.mono (by decide) (by decide)⟩
      · show Steps p.tables e below (s₁.setTop (mkF m 8 #[.val (.long q1), .second, .val (.long q2), .second, .val (.int p3)] [(.int (lcmpW q1 q2))])) _
        refine XS.ifNo X0.here hx rfl (hb hby d3_8) rfl ((if0 _ _).trans (teq ((lw_eq _ _).mpr hc8)).2) ?_
        show Steps p.tables e below (s₁.setTop (mkF m 11 #[.val (.long q1), .second, .val (.long q2), .second, .val (.int p3)] [])) _
        refine XS.iconst X0.here hx rfl (hb hby d3_11) ?_
        show Steps p.tables e below (s₁.setTop (mkF m 12 #[.val (.long q1), .second, .val (.long q2), .second, .val (.int p3)] [(.int (1 : Int32))])) _
        refine XS.goto X0.here hx rfl (pc0 := 12) (pc' := 16) rfl (hb hby d3_12) (by decide) (by decide) ?_
        show Steps p.tables e below (s₁.setTop (mkF m 16 #[.val (.long q1), .second, .val (.long q2), .second, .val (.int p3)] [(.int (1 : Int32))])) _
        exact retN X0 hx (t := .boolean) Bd.returns (by simp) (hb hby d3_16) hr
      · show Q3 Z q1 q2 p3 h0 n0 _ s₁.heap _
        rw [e0]
        exact ⟨by rw [eq3], N0, rfl⟩
    · have eq4 : (f3 q1 q2 p3) = (0 : Int32) := by unfold f3; simp only [if_pos hc2, if_neg hc8]
      obtain ⟨fs, hr, hrun, hended, hW, hsame⟩ := X0.leave (v := some (.int (0 : Int32))) (fun h => by rw [Bd.returns] at h; cases h)
      refine ⟨_, _, pre2 _ ?_, hrun, hended, _, _, rfl, ?_, ⟨_, rfl⟩, hW, hsame.mono (by decide) (by decide)⟩
      · show Steps p.tables e below (s₁.setTop (mkF m 8 #[.val (.long q1), .second, .val (.long q2), .second, .val (.int p3)] [(.int (lcmpW q1 q2))])) _
        refine XS.ifYes X0.here hx rfl (pc0 := 8) (pc' := 15) rfl (hb hby d3_8) rfl ((if0 _ _).trans (feq (fun q => hc8 ((lw_eq _ _).mp q))).2) (by decide) (by decide) ?_
        show Steps p.tables e below (s₁.setTop (mkF m 15 #[.val (.long q1), .second, .val (.long q2), .second, .val (.int p3)] [])) _
        refine XS.iconst X0.here hx rfl (hb hby d3_15) ?_
        show Steps p.tables e below (s₁.setTop (mkF m 16 #[.val (.long q1), .second, .val (.long q2), .second, .val (.int p3)] [(.int (0 : Int32))])) _
        exact retN X0 hx (t := .boolean) Bd.returns (by simp) (hb hby d3_16) hr
      · show Q3 Z q1 q2 p3 h0 n0 _ s₁.heap _
        rw [e0]
        exact ⟨by rw [eq4], N0, rfl⟩
  · have pre5 : ∀ t, Steps p.tables e below (s₁.setTop (mkF m 20 #[.val (.long q1), .second, .val (.long q2), .second, .val (.int p3)] [(.int (1 : Int32)), (.int p3)])) t → Steps p.tables e below (s₁.setTop (entryFrame m #[(.long q1), (.long q2), (.int p3)] 5)) t := by
      intro t k
      refine pre1 t ?_
      show Steps p.tables e below (s₁.setTop (mkF m 2 #[.val (.long q1), .second, .val (.long q2), .second, .val (.int p3)] [(.int p3)])) _
      refine XS.ifYes X0.here hx rfl (pc0 := 2) (pc' := 17) rfl (hb hby d3_2) rfl ((if0 _ _).trans (feq hc2).2) (by decide) (by decide) ?_
      show Steps p.tables e below (s₁.setTop (mkF m 17 #[.val (.long q1), .second, .val (.long q2), .second, .val (.int p3)] [])) _
      refine XS.iload X0.here hx rfl (hb hby d3_17) rfl ?_
      show Steps p.tables e below (s₁.setTop (mkF m 19 #[.val (.long q1), .second, .val (.long q2), .second, .val (.int p3)] [(.int p3)])) _
      refine XS.iconst X0.here hx rfl (hb hby d3_19) ?_
      exact k
    by_cases hc20 : p3 = (1 : Int32)
    · have pre6 : ∀ t, Steps p.tables e below (s₁.setTop (mkF m 26 #[.val (.long q1), .second, .val (.long q2), .second, .val (.int p3)] [(.int (lcmpW q1 q2))])) t → Steps p.tables e below (s₁.setTop (entryFrame m #[(.long q1), (.long q2), (.int p3)] 5)) t := by
        intro t k
        refine pre5 t ?_
        show Steps p.tables e below (s₁.setTop (mkF m 20 #[.val (.long q1), .second, .val (.long q2), .second, .val (.int p3)] [(.int (1 : Int32)), (.int p3)])) _
        refine XS.icmpNo X0.here hx rfl (hb hby d3_20) rfl (teq hc20).2 ?_
        show Steps p.tables e below (s₁.setTop (mkF m 23 #[.val (.long q1), .second, .val (.long q2), .second, .val (.int p3)] [])) _
        refine XS.lloadN X0.here hx rfl (hb hby d3_23) rfl ?_
        show Steps p.tables e below (s₁.setTop (mkF m 24 #[.val (.long q1), .second, .val (.long q2), .second, .val (.int p3)] [(.long q1)])) _
        refine XS.lloadN X0.here hx rfl (hb hby d3_24) rfl ?_
        show Steps p.tables e below (s₁.setTop (mkF m 25 #[.val (.long q1), .second, .val (.long q2), .second, .val (.int p3)] [(.long q2), (.long q1)])) _
        refine XS.lcmp X0.here hx rfl (hb hby d3_25) rfl ?_
        exact k
      by_cases hc26 : q1 = q2
      · have eq7 : (f3 q1 q2 p3) = (0 : Int32) := by unfold f3; simp only [if_neg hc2, if_pos hc20, if_pos hc26]
        obtain ⟨fs, hr, hrun, hended, hW, hsame⟩ := X0.leave (v := some (.int (0 : Int32))) (fun h => by rw [Bd.returns] at h; cases h)
        refine ⟨_, _, pre6 _ ?_, hrun, hended, _, _, rfl, ?_, ⟨_, rfl⟩, hW, hsame.mono (by decide) (by decide)⟩
        · show Steps p.tables e below (s₁.setTop (mkF m 26 #[.val (.long q1), .second, .val (.long q2), .second, .val (.int p3)] [(.int (lcmpW q1 q2))])) _
          refine XS.ifYes X0.here hx rfl (pc0 := 26) (pc' := 33) rfl (hb hby d3_26) rfl ((if0 _ _).trans (teq ((lw_eq _ _).mpr hc26)).1) (by decide) (by decide) ?_
          show Steps p.tables e below (s₁.setTop (mkF m 33 #[.val (.long q1), .second, .val (.long q2), .second, .val (.int p3)] [])) _
          refine XS.iconst X0.here hx rfl (hb hby d3_33) ?_
          show Steps p.tables e below (s₁.setTop (mkF m 34 #[.val (.long q1), .second, .val (.long q2), .second, .val (.int p3)] [(.int (0 : Int32))])) _
          exact retN X0 hx (t := .boolean) Bd.returns (by simp) (hb hby d3_34) hr
        · show Q3 Z q1 q2 p3 h0 n0 _ s₁.heap _
          rw [e0]
          exact ⟨by rw [eq7], N0, rfl⟩
      · have eq8 : (f3 q1 q2 p3) = (1 : Int32) := by unfold f3; simp only [if_neg hc2, if_pos hc20, if_neg hc26]
        obtain ⟨fs, hr, hrun, hended, hW, hsame⟩ := X0.leave (v := some (.int (1 : Int32))) (fun h => by rw [Bd.returns] at h; cases h)
        refine ⟨_, _, pre6 _ ?_, hrun, hended, _, _, rfl, ?_, ⟨_, rfl⟩, hW, hsame.mono (by decide) (by decide)⟩
        · show Steps p.tables e below (s₁.setTop (mkF m 26 #[.val (.long q1), .second, .val (.long q2), .second, .val (.int p3)] [(.int (lcmpW q1 q2))])) _
          refine XS.ifNo X0.here hx rfl (hb hby d3_26) rfl ((if0 _ _).trans (feq (fun q => hc26 ((lw_eq _ _).mp q))).1) ?_
          show Steps p.tables e below (s₁.setTop (mkF m 29 #[.val (.long q1), .second, .val (.long q2), .second, .val (.int p3)] [])) _
          refine XS.iconst X0.here hx rfl (hb hby d3_29) ?_
          show Steps p.tables e below (s₁.setTop (mkF m 30 #[.val (.long q1), .second, .val (.long q2), .second, .val (.int p3)] [(.int (1 : Int32))])) _
          refine XS.goto X0.here hx rfl (pc0 := 30) (pc' := 34) rfl (hb hby d3_30) (by decide) (by decide) ?_
          show Steps p.tables e below (s₁.setTop (mkF m 34 #[.val (.long q1), .second, .val (.long q2), .second, .val (.int p3)] [(.int (1 : Int32))])) _
          exact retN X0 hx (t := .boolean) Bd.returns (by simp) (hb hby d3_34) hr
        · show Q3 Z q1 q2 p3 h0 n0 _ s₁.heap _
          rw [e0]
          exact ⟨by rw [eq8], N0, rfl⟩
    · have pre9 : ∀ t, Steps p.tables e below (s₁.setTop (mkF m 38 #[.val (.long q1), .second, .val (.long q2), .second, .val (.int p3)] [(.int (2 : Int32)), (.int p3)])) t → Steps p.tables e below (s₁.setTop (entryFrame m #[(.long q1), (.long q2), (.int p3)] 5)) t := by
        intro t k
        refine pre5 t ?_
        show Steps p.tables e below (s₁.setTop (mkF m 20 #[.val (.long q1), .second, .val (.long q2), .second, .val (.int p3)] [(.int (1 : Int32)), (.int p3)])) _
        refine XS.icmpYes X0.here hx rfl (pc0 := 20) (pc' := 35) rfl (hb hby d3_20) rfl (feq hc20).2 (by decide) (by decide) ?_
        show Steps p.tables e below (s₁.setTop (mkF m 35 #[.val (.long q1), .second, .val (.long q2), .second, .val (.int p3)] [])) _
        refine XS.iload X0.here hx rfl (hb hby d3_35) rfl ?_
        show Steps p.tables e below (s₁.setTop (mkF m 37 #[.val (.long q1), .second, .val (.long q2), .second, .val (.int p3)] [(.int p3)])) _
        refine XS.iconst X0.here hx rfl (hb hby d3_37) ?_
        exact k
      by_cases hc38 : p3 = (2 : Int32)
      · have pre10 : ∀ t, Steps p.tables e below (s₁.setTop (mkF m 44 #[.val (.long q1), .second, .val (.long q2), .second, .val (.int p3)] [(.int (lcmpW q1 q2))])) t → Steps p.tables e below (s₁.setTop (entryFrame m #[(.long q1), (.long q2), (.int p3)] 5)) t := by
          intro t k
          refine pre9 t ?_
          show Steps p.tables e below (s₁.setTop (mkF m 38 #[.val (.long q1), .second, .val (.long q2), .second, .val (.int p3)] [(.int (2 : Int32)), (.int p3)])) _
          refine XS.icmpNo X0.here hx rfl (hb hby d3_38) rfl (teq hc38).2 ?_
          show Steps p.tables e below (s₁.setTop (mkF m 41 #[.val (.long q1), .second, .val (.long q2), .second, .val (.int p3)] [])) _
          refine XS.lloadN X0.here hx rfl (hb hby d3_41) rfl ?_
          show Steps p.tables e below (s₁.setTop (mkF m 42 #[.val (.long q1), .second, .val (.long q2), .second, .val (.int p3)] [(.long q1)])) _
          refine XS.lloadN X0.here hx rfl (hb hby d3_42) rfl ?_
          show Steps p.tables e below (s₁.setTop (mkF m 43 #[.val (.long q1), .second, .val (.long q2), .second, .val (.int p3)] [(.long q2), (.long q1)])) _
          refine XS.lcmp X0.here hx rfl (hb hby d3_43) rfl ?_
          exact k
        by_cases hc44 : q1 < q2
        · have eq11 : (f3 q1 q2 p3) = (1 : Int32) := by unfold f3; simp only [if_neg hc2, if_neg hc20, if_pos hc38, if_pos hc44]
          obtain ⟨fs, hr, hrun, hended, hW, hsame⟩ := X0.leave (v := some (.int (1 : Int32))) (fun h => by rw [Bd.returns] at h; cases h)
          refine ⟨_, _, pre10 _ ?_, hrun, hended, _, _, rfl, ?_, ⟨_, rfl⟩, hW, hsame.mono (by decide) (by decide)⟩
          · show Steps p.tables e below (s₁.setTop (mkF m 44 #[.val (.long q1), .second, .val (.long q2), .second, .val (.int p3)] [(.int (lcmpW q1 q2))])) _
            refine XS.ifNo X0.here hx rfl (hb hby d3_44) rfl ((if0 _ _).trans (tlt ((lw_lt _ _).mpr hc44)).2.1) ?_
            show Steps p.tables e below (s₁.setTop (mkF m 47 #[.val (.long q1), .second, .val (.long q2), .second, .val (.int p3)] [])) _
            refine XS.iconst X0.here hx rfl (hb hby d3_47) ?_
            show Steps p.tables e below (s₁.setTop (mkF m 48 #[.val (.long q1), .second, .val (.long q2), .second, .val (.int p3)] [(.int (1 : Int32))])) _
            refine XS.goto X0.here hx rfl (pc0 := 48) (pc' := 52) rfl (hb hby d3_48) (by decide) (by decide) ?_
            show Steps p.tables e below (s₁.setTop (mkF m 52 #[.val (.long q1), .second, .val (.long q2), .second, .val (.int p3)] [(.int (1 : Int32))])) _
            exact retN X0 hx (t := .boolean) Bd.returns (by simp) (hb hby d3_52) hr
          · show Q3 Z q1 q2 p3 h0 n0 _ s₁.heap _
            rw [e0]
            exact ⟨by rw [eq11], N0, rfl⟩
        · have eq12 : (f3 q1 q2 p3) = (0 : Int32) := by unfold f3; simp only [if_neg hc2, if_neg hc20, if_pos hc38, if_neg hc44]
          obtain ⟨fs, hr, hrun, hended, hW, hsame⟩ := X0.leave (v := some (.int (0 : Int32))) (fun h => by rw [Bd.returns] at h; cases h)
          refine ⟨_, _, pre10 _ ?_, hrun, hended, _, _, rfl, ?_, ⟨_, rfl⟩, hW, hsame.mono (by decide) (by decide)⟩
          · show Steps p.tables e below (s₁.setTop (mkF m 44 #[.val (.long q1), .second, .val (.long q2), .second, .val (.int p3)] [(.int (lcmpW q1 q2))])) _
            refine XS.ifYes X0.here hx rfl (pc0 := 44) (pc' := 51) rfl (hb hby d3_44) rfl ((if0 _ _).trans (flt (fun q => hc44 ((lw_lt _ _).mp q))).2.1) (by decide) (by decide) ?_
            show Steps p.tables e below (s₁.setTop (mkF m 51 #[.val (.long q1), .second, .val (.long q2), .second, .val (.int p3)] [])) _
            refine XS.iconst X0.here hx rfl (hb hby d3_51) ?_
            show Steps p.tables e below (s₁.setTop (mkF m 52 #[.val (.long q1), .second, .val (.long q2), .second, .val (.int p3)] [(.int (0 : Int32))])) _
            exact retN X0 hx (t := .boolean) Bd.returns (by simp) (hb hby d3_52) hr
          · show Q3 Z q1 q2 p3 h0 n0 _ s₁.heap _
            rw [e0]
            exact ⟨by rw [eq12], N0, rfl⟩
      · have pre13 : ∀ t, Steps p.tables e below (s₁.setTop (mkF m 56 #[.val (.long q1), .second, .val (.long q2), .second, .val (.int p3)] [(.int (3 : Int32)), (.int p3)])) t → Steps p.tables e below (s₁.setTop (entryFrame m #[(.long q1), (.long q2), (.int p3)] 5)) t := by
          intro t k
          refine pre9 t ?_
          show Steps p.tables e below (s₁.setTop (mkF m 38 #[.val (.long q1), .second, .val (.long q2), .second, .val (.int p3)] [(.int (2 : Int32)), (.int p3)])) _
          refine XS.icmpYes X0.here hx rfl (pc0 := 38) (pc' := 53) rfl (hb hby d3_38) rfl (feq hc38).2 (by decide) (by decide) ?_
          show Steps p.tables e below (s₁.setTop (mkF m 53 #[.val (.long q1), .second, .val (.long q2), .second, .val (.int p3)] [])) _
          refine XS.iload X0.here hx rfl (hb hby d3_53) rfl ?_
          show Steps p.tables e below (s₁.setTop (mkF m 55 #[.val (.long q1), .second, .val (.long q2), .second, .val (.int p3)] [(.int p3)])) _
          refine XS.iconst X0.here hx rfl (hb hby d3_55) ?_
          exact k
        by_cases hc56 : p3 = (3 : Int32)
        · have pre14 : ∀ t, Steps p.tables e below (s₁.setTop (mkF m 62 #[.val (.long q1), .second, .val (.long q2), .second, .val (.int p3)] [(.int (lcmpW q1 q2))])) t → Steps p.tables e below (s₁.setTop (entryFrame m #[(.long q1), (.long q2), (.int p3)] 5)) t := by
            intro t k
            refine pre13 t ?_
            show Steps p.tables e below (s₁.setTop (mkF m 56 #[.val (.long q1), .second, .val (.long q2), .second, .val (.int p3)] [(.int (3 : Int32)), (.int p3)])) _
            refine XS.icmpNo X0.here hx rfl (hb hby d3_56) rfl (teq hc56).2 ?_
            show Steps p.tables e below (s₁.setTop (mkF m 59 #[.val (.long q1), .second, .val (.long q2), .second, .val (.int p3)] [])) _
            refine XS.lloadN X0.here hx rfl (hb hby d3_59) rfl ?_
            show Steps p.tables e below (s₁.setTop (mkF m 60 #[.val (.long q1), .second, .val (.long q2), .second, .val (.int p3)] [(.long q1)])) _
            refine XS.lloadN X0.here hx rfl (hb hby d3_60) rfl ?_
            show Steps p.tables e below (s₁.setTop (mkF m 61 #[.val (.long q1), .second, .val (.long q2), .second, .val (.int p3)] [(.long q2), (.long q1)])) _
            refine XS.lcmp X0.here hx rfl (hb hby d3_61) rfl ?_
            exact k
          by_cases hc62 : q2 < q1
          · have eq15 : (f3 q1 q2 p3) = (0 : Int32) := by unfold f3; simp only [if_neg hc2, if_neg hc20, if_neg hc38, if_pos hc56, if_pos hc62]
            obtain ⟨fs, hr, hrun, hended, hW, hsame⟩ := X0.leave (v := some (.int (0 : Int32))) (fun h => by rw [Bd.returns] at h; cases h)
            refine ⟨_, _, pre14 _ ?_, hrun, hended, _, _, rfl, ?_, ⟨_, rfl⟩, hW, hsame.mono (by decide) (by decide)⟩
            · show Steps p.tables e below (s₁.setTop (mkF m 62 #[.val (.long q1), .second, .val (.long q2), .second, .val (.int p3)] [(.int (lcmpW q1 q2))])) _
              refine XS.ifYes X0.here hx rfl (pc0 := 62) (pc' := 69) rfl (hb hby d3_62) rfl ((if0 _ _).trans (tlt ((lw_gt _ _).mpr hc62)).2.2.1) (by decide) (by decide) ?_
              show Steps p.tables e below (s₁.setTop (mkF m 69 #[.val (.long q1), .second, .val (.long q2), .second, .val (.int p3)] [])) _
              refine XS.iconst X0.here hx rfl (hb hby d3_69) ?_
              show Steps p.tables e below (s₁.setTop (mkF m 70 #[.val (.long q1), .second, .val (.long q2), .second, .val (.int p3)] [(.int (0 : Int32))])) _
              exact retN X0 hx (t := .boolean) Bd.returns (by simp) (hb hby d3_70) hr
            · show Q3 Z q1 q2 p3 h0 n0 _ s₁.heap _
              rw [e0]
              exact ⟨by rw [eq15], N0, rfl⟩
          · have eq16 : (f3 q1 q2 p3) = (1 : Int32) := by unfold f3; simp only [if_neg hc2, if_neg hc20, if_neg hc38, if_pos hc56, if_neg hc62]
            obtain ⟨fs, hr, hrun, hended, hW, hsame⟩ := X0.leave (v := some (.int (1 : Int32))) (fun h => by rw [Bd.returns] at h; cases h)
            refine ⟨_, _, pre14 _ ?_, hrun, hended, _, _, rfl, ?_, ⟨_, rfl⟩, hW, hsame.mono (by decide) (by decide)⟩
            · show Steps p.tables e below (s₁.setTop (mkF m 62 #[.val (.long q1), .second, .val (.long q2), .second, .val (.int p3)] [(.int (lcmpW q1 q2))])) _
              refine XS.ifNo X0.here hx rfl (hb hby d3_62) rfl ((if0 _ _).trans (flt (fun q => hc62 ((lw_gt _ _).mp q))).2.2.1) ?_
              show Steps p.tables e below (s₁.setTop (mkF m 65 #[.val (.long q1), .second, .val (.long q2), .second, .val (.int p3)] [])) _
              refine XS.iconst X0.here hx rfl (hb hby d3_65) ?_
              show Steps p.tables e below (s₁.setTop (mkF m 66 #[.val (.long q1), .second, .val (.long q2), .second, .val (.int p3)] [(.int (1 : Int32))])) _
              refine XS.goto X0.here hx rfl (pc0 := 66) (pc' := 70) rfl (hb hby d3_66) (by decide) (by decide) ?_
              show Steps p.tables e below (s₁.setTop (mkF m 70 #[.val (.long q1), .second, .val (.long q2), .second, .val (.int p3)] [(.int (1 : Int32))])) _
              exact retN X0 hx (t := .boolean) Bd.returns (by simp) (hb hby d3_70) hr
            · show Q3 Z q1 q2 p3 h0 n0 _ s₁.heap _
              rw [e0]
              exact ⟨by rw [eq16], N0, rfl⟩
        · have pre17 : ∀ t, Steps p.tables e below (s₁.setTop (mkF m 74 #[.val (.long q1), .second, .val (.long q2), .second, .val (.int p3)] [(.int (4 : Int32)), (.int p3)])) t → Steps p.tables e below (s₁.setTop (entryFrame m #[(.long q1), (.long q2), (.int p3)] 5)) t := by
            intro t k
            refine pre13 t ?_
            show Steps p.tables e below (s₁.setTop (mkF m 56 #[.val (.long q1), .second, .val (.long q2), .second, .val (.int p3)] [(.int (3 : Int32)), (.int p3)])) _
            refine XS.icmpYes X0.here hx rfl (pc0 := 56) (pc' := 71) rfl (hb hby d3_56) rfl (feq hc56).2 (by decide) (by decide) ?_
            show Steps p.tables e below (s₁.setTop (mkF m 71 #[.val (.long q1), .second, .val (.long q2), .second, .val (.int p3)] [])) _
            refine XS.iload X0.here hx rfl (hb hby d3_71) rfl ?_
            show Steps p.tables e below (s₁.setTop (mkF m 73 #[.val (.long q1), .second, .val (.long q2), .second, .val (.int p3)] [(.int p3)])) _
            refine XS.iconst X0.here hx rfl (hb hby d3_73) ?_
            exact k
          by_cases hc74 : p3 = (4 : Int32)
          · have pre18 : ∀ t, Steps p.tables e below (s₁.setTop (mkF m 80 #[.val (.long q1), .second, .val (.long q2), .second, .val (.int p3)] [(.int (lcmpW q1 q2))])) t → Steps p.tables e below (s₁.setTop (entryFrame m #[(.long q1), (.long q2), (.int p3)] 5)) t := by
              intro t k
              refine pre17 t ?_
              show Steps p.tables e below (s₁.setTop (mkF m 74 #[.val (.long q1), .second, .val (.long q2), .second, .val (.int p3)] [(.int (4 : Int32)), (.int p3)])) _
              refine XS.icmpNo X0.here hx rfl (hb hby d3_74) rfl (teq hc74).2 ?_
              show Steps p.tables e below (s₁.setTop (mkF m 77 #[.val (.long q1), .second, .val (.long q2), .second, .val (.int p3)] [])) _
              refine XS.lloadN X0.here hx rfl (hb hby d3_77) rfl ?_
              show Steps p.tables e below (s₁.setTop (mkF m 78 #[.val (.long q1), .second, .val (.long q2), .second, .val (.int p3)] [(.long q1)])) _
              refine XS.lloadN X0.here hx rfl (hb hby d3_78) rfl ?_
              show Steps p.tables e below (s₁.setTop (mkF m 79 #[.val (.long q1), .second, .val (.long q2), .second, .val (.int p3)] [(.long q2), (.long q1)])) _
              refine XS.lcmp X0.here hx rfl (hb hby d3_79) rfl ?_
              exact k
            by_cases hc80 : q2 < q1
            · have eq19 : (f3 q1 q2 p3) = (1 : Int32) := by unfold f3; simp only [if_neg hc2, if_neg hc20, if_neg hc38, if_neg hc56, if_pos hc74, if_pos hc80]
              obtain ⟨fs, hr, hrun, hended, hW, hsame⟩ := X0.leave (v := some (.int (1 : Int32))) (fun h => by rw [Bd.returns] at h; cases h)
              refine ⟨_, _, pre18 _ ?_, hrun, hended, _, _, rfl, ?_, ⟨_, rfl⟩, hW, hsame.mono (by decide) (by decide)⟩
              · show Steps p.tables e below (s₁.setTop (mkF m 80 #[.val (.long q1), .second, .val (.long q2), .second, .val (.int p3)] [(.int (lcmpW q1 q2))])) _
                refine XS.ifNo X0.here hx rfl (hb hby d3_80) rfl ((if0 _ _).trans (tlt ((lw_gt _ _).mpr hc80)).2.2.2) ?_
                show Steps p.tables e below (s₁.setTop (mkF m 83 #[.val (.long q1), .second, .val (.long q2), .second, .val (.int p3)] [])) _
                refine XS.iconst X0.here hx rfl (hb hby d3_83) ?_
                show Steps p.tables e below (s₁.setTop (mkF m 84 #[.val (.long q1), .second, .val (.long q2), .second, .val (.int p3)] [(.int (1 : Int32))])) _
                refine XS.goto X0.here hx rfl (pc0 := 84) (pc' := 88) rfl (hb hby d3_84) (by decide) (by decide) ?_
                show Steps p.tables e below (s₁.setTop (mkF m 88 #[.val (.long q1), .second, .val (.long q2), .second, .val (.int p3)] [(.int (1 : Int32))])) _
                exact retN X0 hx (t := .boolean) Bd.returns (by simp) (hb hby d3_88) hr
              · show Q3 Z q1 q2 p3 h0 n0 _ s₁.heap _
                rw [e0]
                exact ⟨by rw [eq19], N0, rfl⟩
            · have eq20 : (f3 q1 q2 p3) = (0 : Int32) := by unfold f3; simp only [if_neg hc2, if_neg hc20, if_neg hc38, if_neg hc56, if_pos hc74, if_neg hc80]
              obtain ⟨fs, hr, hrun, hended, hW, hsame⟩ := X0.leave (v := some (.int (0 : Int32))) (fun h => by rw [Bd.returns] at h; cases h)
              refine ⟨_, _, pre18 _ ?_, hrun, hended, _, _, rfl, ?_, ⟨_, rfl⟩, hW, hsame.mono (by decide) (by decide)⟩
              · show Steps p.tables e below (s₁.setTop (mkF m 80 #[.val (.long q1), .second, .val (.long q2), .second, .val (.int p3)] [(.int (lcmpW q1 q2))])) _
                refine XS.ifYes X0.here hx rfl (pc0 := 80) (pc' := 87) rfl (hb hby d3_80) rfl ((if0 _ _).trans (flt (fun q => hc80 ((lw_gt _ _).mp q))).2.2.2) (by decide) (by decide) ?_
                show Steps p.tables e below (s₁.setTop (mkF m 87 #[.val (.long q1), .second, .val (.long q2), .second, .val (.int p3)] [])) _
                refine XS.iconst X0.here hx rfl (hb hby d3_87) ?_
                show Steps p.tables e below (s₁.setTop (mkF m 88 #[.val (.long q1), .second, .val (.long q2), .second, .val (.int p3)] [(.int (0 : Int32))])) _
                exact retN X0 hx (t := .boolean) Bd.returns (by simp) (hb hby d3_88) hr
              · show Q3 Z q1 q2 p3 h0 n0 _ s₁.heap _
                rw [e0]
                exact ⟨by rw [eq20], N0, rfl⟩
          · have pre21 : ∀ t, Steps p.tables e below (s₁.setTop (mkF m 92 #[.val (.long q1), .second, .val (.long q2), .second, .val (.int p3)] [(.int (lcmpW q1 q2))])) t → Steps p.tables e below (s₁.setTop (entryFrame m #[(.long q1), (.long q2), (.int p3)] 5)) t := by
              intro t k
              refine pre17 t ?_
              show Steps p.tables e below (s₁.setTop (mkF m 74 #[.val (.long q1), .second, .val (.long q2), .second, .val (.int p3)] [(.int (4 : Int32)), (.int p3)])) _
              refine XS.icmpYes X0.here hx rfl (pc0 := 74) (pc' := 89) rfl (hb hby d3_74) rfl (feq hc74).2 (by decide) (by decide) ?_
              show Steps p.tables e below (s₁.setTop (mkF m 89 #[.val (.long q1), .second, .val (.long q2), .second, .val (.int p3)] [])) _
              refine XS.lloadN X0.here hx rfl (hb hby d3_89) rfl ?_
              show Steps p.tables e below (s₁.setTop (mkF m 90 #[.val (.long q1), .second, .val (.long q2), .second, .val (.int p3)] [(.long q1)])) _
              refine XS.lloadN X0.here hx rfl (hb hby d3_90) rfl ?_
              show Steps p.tables e below (s₁.setTop (mkF m 91 #[.val (.long q1), .second, .val (.long q2), .second, .val (.int p3)] [(.long q2), (.long q1)])) _
              refine XS.lcmp X0.here hx rfl (hb hby d3_91) rfl ?_
              exact k
            by_cases hc92 : q1 < q2
            · have eq22 : (f3 q1 q2 p3) = (0 : Int32) := by unfold f3; simp only [if_neg hc2, if_neg hc20, if_neg hc38, if_neg hc56, if_neg hc74, if_pos hc92]
              obtain ⟨fs, hr, hrun, hended, hW, hsame⟩ := X0.leave (v := some (.int (0 : Int32))) (fun h => by rw [Bd.returns] at h; cases h)
              refine ⟨_, _, pre21 _ ?_, hrun, hended, _, _, rfl, ?_, ⟨_, rfl⟩, hW, hsame.mono (by decide) (by decide)⟩
              · show Steps p.tables e below (s₁.setTop (mkF m 92 #[.val (.long q1), .second, .val (.long q2), .second, .val (.int p3)] [(.int (lcmpW q1 q2))])) _
                refine XS.ifYes X0.here hx rfl (pc0 := 92) (pc' := 99) rfl (hb hby d3_92) rfl ((if0 _ _).trans (tlt ((lw_lt _ _).mpr hc92)).1) (by decide) (by decide) ?_
                show Steps p.tables e below (s₁.setTop (mkF m 99 #[.val (.long q1), .second, .val (.long q2), .second, .val (.int p3)] [])) _
                refine XS.iconst X0.here hx rfl (hb hby d3_99) ?_
                show Steps p.tables e below (s₁.setTop (mkF m 100 #[.val (.long q1), .second, .val (.long q2), .second, .val (.int p3)] [(.int (0 : Int32))])) _
                exact retN X0 hx (t := .boolean) Bd.returns (by simp) (hb hby d3_100) hr
              · show Q3 Z q1 q2 p3 h0 n0 _ s₁.heap _
                rw [e0]
                exact ⟨by rw [eq22], N0, rfl⟩
            · have eq23 : (f3 q1 q2 p3) = (1 : Int32) := by unfold f3; simp only [if_neg hc2, if_neg hc20, if_neg hc38, if_neg hc56, if_neg hc74, if_neg hc92]
              obtain ⟨fs, hr, hrun, hended, hW, hsame⟩ := X0.leave (v := some (.int (1 : Int32))) (fun h => by rw [Bd.returns] at h; cases h)
              refine ⟨_, _, pre21 _ ?_, hrun, hended, _, _, rfl, ?_, ⟨_, rfl⟩, hW, hsame.mono (by decide) (by decide)⟩
              · show Steps p.tables e below (s₁.setTop (mkF m 92 #[.val (.long q1), .second, .val (.long q2), .second, .val (.int p3)] [(.int (lcmpW q1 q2))])) _
                refine XS.ifNo X0.here hx rfl (hb hby d3_92) rfl ((if0 _ _).trans (flt (fun q => hc92 ((lw_lt _ _).mp q))).1) ?_
                show Steps p.tables e below (s₁.setTop (mkF m 95 #[.val (.long q1), .second, .val (.long q2), .second, .val (.int p3)] [])) _
                refine XS.iconst X0.here hx rfl (hb hby d3_95) ?_
                show Steps p.tables e below (s₁.setTop (mkF m 96 #[.val (.long q1), .second, .val (.long q2), .second, .val (.int p3)] [(.int (1 : Int32))])) _
                refine XS.goto X0.here hx rfl (pc0 := 96) (pc' := 100) rfl (hb hby d3_96) (by decide) (by decide) ?_
                show Steps p.tables e below (s₁.setTop (mkF m 100 #[.val (.long q1), .second, .val (.long q2), .second, .val (.int p3)] [(.int (1 : Int32))])) _
                exact retN X0 hx (t := .boolean) Bd.returns (by simp) (hb hby d3_100) hr
              · show Q3 Z q1 q2 p3 h0 n0 _ s₁.heap _
                rw [e0]
                exact ⟨by rw [eq23], N0, rfl⟩
theorem pd_1 : parseMethodDescriptor "(JJI)Z" = some ⟨[.long, .long, .int], some .boolean⟩ := by decide +kernel
theorem ef_0 (m : MethodId) (x0 : Int64) (x1 : Int64) (x2 : Int32) (x3 : Int32) : entryFrame m #[(.long x0), (.long x1), (.int x2), (.int x3)] maxLocals = mkF m 0 #[.val (.long x0), .second, .val (.long x1), .second, .val (.int x2), .val (.int x3), .unset, .unset, .unset, .unset] [] := by first | (simp [entryFrame, mkF, argsToLocals, Value.category, maxLocals]; done) | rfl
def f0_v7 (q1 : Int64) (q2 : Int64) (p3 : Int32) (p4 : Int32) : Int32 := ((p3 &&& (2147483647 : Int32)) - ((p3 &&& (2147483647 : Int32)) / (6 : Int32)) * (6 : Int32))
def f0_l8_58 (q1 : Int64) (q2 : Int64) (p3 : Int32) (p4 : Int32) : Int64 := (if (p4 &&& (3 : Int32)) = (0 : Int32) then q1 else (if (p4 &&& (3 : Int32)) = (1 : Int32) then (q1 + (1 : Int64)) else (if (p4 &&& (3 : Int32)) = (2 : Int32) then (q1 - (1 : Int64)) else q2)))
def f0 (q1 : Int64) (q2 : Int64) (p3 : Int32) (p4 : Int32) : Int32 := (if (f1 q1 (f0_l8_58 q1 q2 p3 p4) (f0_v7 q1 q2 p3 p4)) = (f3 q1 (f0_l8_58 q1 q2 p3 p4) (f0_v7 q1 q2 p3 p4)) then (1 : Int32) else (0 : Int32))
def Q0 (Z : State) (q1 : Int64) (q2 : Int64) (p3 : Int32) (p4 : Int32) (h0 : Heap) (n0 : Nat) (v : Option Value) (h : Heap) (L : List Loc) : Prop := v = some (.int (f0 q1 q2 p3 p4)) ∧ Fr n0 L ∧ True
set_option maxRecDepth 65536 in
set_option maxHeartbeats 40000000 in
theorem rm0 (l : Launch) (Z : State) (a0 : Array Value) (hw : ∀ d ∈ tables_1, d.before a0 Z = true) (ws : List Jvm.Cond) (q1 : Int64) (q2 : Int64) (p3 : Int32) (p4 : Int32) (h0 : Heap) (n0 : Nat) (Z0 : n0 ≤ h0.size) :
    MetFree l x (head1 (Jvm.Cond.code x code maxLocals ret :: ws) room_1) (fun a U => a = #[(.long q1), (.long q2), (.int p3), (.int p4)] ∧ Z.Warmed39 U.vm ∧ U.heap = h0) (fun _ _ _ _ _ => True) (fun _ U o U' => ∃ v L, o = .returned v ∧ Q0 Z q1 q2 p3 p4 h0 n0 v U'.heap L ∧ FrameEnd U o U' L room_1.cells room_1.slots) := by
  refine MetFree.of_bodySF (plainFor_of_name pn_2) hisR ?_
  intro p e s m args below meth c s₁ Bd hml0 hP hK
  obtain ⟨rfl, hZ, hh⟩ := hP
  have hx := Bd.exec
  have hby := Bd.bytes
  have hml : c.maxLocals = 10 := hml0
  have hown : s.vm.findClass "com/example/inline_monitor/inlinemonitor/runtime/PolicyMonitorComparePinLaw" = some m.cls := findClass_of_methodNamed Bd.named
  have hnm := (name_of_methodNamed Bd.named Bd.method).1
  have X0 : Stand p l e room_1 s m #[(.long q1), (.long q2), (.int p3), (.int p4)] below meth c s₁ [] 0 0 := Stand.of_body Bd
  have e0 : s₁.heap = h0 := by rw [← hh, Bd.state]; rfl
  have N0 := Fr.nil n0
  have pre0 : ∀ t, Steps p.tables e below (s₁.setTop (mkF m 0 #[.val (.long q1), .second, .val (.long q2), .second, .val (.int p3), .val (.int p4), .unset, .unset, .unset, .unset] [])) t → Steps p.tables e below (s₁.setTop (entryFrame m #[(.long q1), (.long q2), (.int p3), (.int p4)] maxLocals)) t := fun t k => castTop (ef_0 m q1 q2 p3 p4) k
  have pre1 : ∀ t, Steps p.tables e below (s₁.setTop (mkF m 18 #[.val (.long q1), .second, .val (.long q2), .second, .val (.int p3), .val (.int p4), .val (.int (f0_v7 q1 q2 p3 p4)), .val (.int (p4 &&& (3 : Int32))), .unset, .unset] [(.int (p4 &&& (3 : Int32)))])) t → Steps p.tables e below (s₁.setTop (entryFrame m #[(.long q1), (.long q2), (.int p3), (.int p4)] maxLocals)) t := by
    intro t k
    refine pre0 t ?_
    show Steps p.tables e below (s₁.setTop (mkF m 0 #[.val (.long q1), .second, .val (.long q2), .second, .val (.int p3), .val (.int p4), .unset, .unset, .unset, .unset] [])) _
    refine XS.iload X0.here hx rfl (hb hby at_0) rfl ?_
    show Steps p.tables e below (s₁.setTop (mkF m 2 #[.val (.long q1), .second, .val (.long q2), .second, .val (.int p3), .val (.int p4), .unset, .unset, .unset, .unset] [(.int p3)])) _
    refine X0.ldcInt hx hown (mvT hZ (hw _ (List.mem_of_getElem? (i := 0) rfl))) (g := (mkF m 2 #[.val (.long q1), .second, .val (.long q2), .second, .val (.int p3), .val (.int p4), .unset, .unset, .unset, .unset] [(.int p3)])) rfl (hb hby at_2) _ ?_
    show Steps p.tables e below (s₁.setTop (mkF m 4 #[.val (.long q1), .second, .val (.long q2), .second, .val (.int p3), .val (.int p4), .unset, .unset, .unset, .unset] [(.int (2147483647 : Int32)), (.int p3)])) _
    refine XS.iand X0.here hx rfl (hb hby at_4) rfl ?_
    show Steps p.tables e below (s₁.setTop (mkF m 5 #[.val (.long q1), .second, .val (.long q2), .second, .val (.int p3), .val (.int p4), .unset, .unset, .unset, .unset] [(.int (p3 &&& (2147483647 : Int32)))])) _
    refine XS.bipush X0.here hx rfl (hb hby at_5) ?_
    show Steps p.tables e below (s₁.setTop (mkF m 7 #[.val (.long q1), .second, .val (.long q2), .second, .val (.int p3), .val (.int p4), .unset, .unset, .unset, .unset] [(.int (6 : Int32)), (.int (p3 &&& (2147483647 : Int32)))])) _
    refine XS.irem X0.here hx rfl (hb hby at_7) rfl (by decide) ?_
    show Steps p.tables e below (s₁.setTop (mkF m 8 #[.val (.long q1), .second, .val (.long q2), .second, .val (.int p3), .val (.int p4), .unset, .unset, .unset, .unset] [(.int (f0_v7 q1 q2 p3 p4))])) _
    refine XS.istore X0.here hx rfl (hb hby at_8) rfl (l' := #[.val (.long q1), .second, .val (.long q2), .second, .val (.int p3), .val (.int p4), .val (.int (f0_v7 q1 q2 p3 p4)), .unset, .unset, .unset]) rfl ?_
    show Steps p.tables e below (s₁.setTop (mkF m 10 #[.val (.long q1), .second, .val (.long q2), .second, .val (.int p3), .val (.int p4), .val (.int (f0_v7 q1 q2 p3 p4)), .unset, .unset, .unset] [])) _
    refine XS.iload X0.here hx rfl (hb hby at_10) rfl ?_
    show Steps p.tables e below (s₁.setTop (mkF m 12 #[.val (.long q1), .second, .val (.long q2), .second, .val (.int p3), .val (.int p4), .val (.int (f0_v7 q1 q2 p3 p4)), .unset, .unset, .unset] [(.int p4)])) _
    refine XS.iconst X0.here hx rfl (hb hby at_12) ?_
    show Steps p.tables e below (s₁.setTop (mkF m 13 #[.val (.long q1), .second, .val (.long q2), .second, .val (.int p3), .val (.int p4), .val (.int (f0_v7 q1 q2 p3 p4)), .unset, .unset, .unset] [(.int (3 : Int32)), (.int p4)])) _
    refine XS.iand X0.here hx rfl (hb hby at_13) rfl ?_
    show Steps p.tables e below (s₁.setTop (mkF m 14 #[.val (.long q1), .second, .val (.long q2), .second, .val (.int p3), .val (.int p4), .val (.int (f0_v7 q1 q2 p3 p4)), .unset, .unset, .unset] [(.int (p4 &&& (3 : Int32)))])) _
    refine XS.istore X0.here hx rfl (hb hby at_14) rfl (l' := #[.val (.long q1), .second, .val (.long q2), .second, .val (.int p3), .val (.int p4), .val (.int (f0_v7 q1 q2 p3 p4)), .val (.int (p4 &&& (3 : Int32))), .unset, .unset]) rfl ?_
    show Steps p.tables e below (s₁.setTop (mkF m 16 #[.val (.long q1), .second, .val (.long q2), .second, .val (.int p3), .val (.int p4), .val (.int (f0_v7 q1 q2 p3 p4)), .val (.int (p4 &&& (3 : Int32))), .unset, .unset] [])) _
    refine XS.iload X0.here hx rfl (hb hby at_16) rfl ?_
    exact k
  have pre2 : ∀ t, Steps p.tables e below (s₁.setTop (mkF m 58 #[.val (.long q1), .second, .val (.long q2), .second, .val (.int p3), .val (.int p4), .val (.int (f0_v7 q1 q2 p3 p4)), .val (.int (p4 &&& (3 : Int32))), .val (.long (f0_l8_58 q1 q2 p3 p4)), .second] [])) t → Steps p.tables e below (s₁.setTop (entryFrame m #[(.long q1), (.long q2), (.int p3), (.int p4)] maxLocals)) t := by
    intro t k
    by_cases hc18 : (p4 &&& (3 : Int32)) = (0 : Int32)
    · have eq3 := (show (f0_l8_58 q1 q2 p3 p4) = q1 from by unfold f0_l8_58; simp only [if_pos hc18])
      try rw [eq3] at k
      refine pre1 t ?_
      show Steps p.tables e below (s₁.setTop (mkF m 18 #[.val (.long q1), .second, .val (.long q2), .second, .val (.int p3), .val (.int p4), .val (.int (f0_v7 q1 q2 p3 p4)), .val (.int (p4 &&& (3 : Int32))), .unset, .unset] [(.int (p4 &&& (3 : Int32)))])) _
      refine XS.ifNo X0.here hx rfl (hb hby at_18) rfl ((if0 _ _).trans (teq hc18).2) ?_
      show Steps p.tables e below (s₁.setTop (mkF m 21 #[.val (.long q1), .second, .val (.long q2), .second, .val (.int p3), .val (.int p4), .val (.int (f0_v7 q1 q2 p3 p4)), .val (.int (p4 &&& (3 : Int32))), .unset, .unset] [])) _
      refine XS.lloadN X0.here hx rfl (hb hby at_21) rfl ?_
      show Steps p.tables e below (s₁.setTop (mkF m 22 #[.val (.long q1), .second, .val (.long q2), .second, .val (.int p3), .val (.int p4), .val (.int (f0_v7 q1 q2 p3 p4)), .val (.int (p4 &&& (3 : Int32))), .unset, .unset] [(.long q1)])) _
      refine XS.lstore X0.here hx rfl (hb hby at_22) rfl (l' := #[.val (.long q1), .second, .val (.long q2), .second, .val (.int p3), .val (.int p4), .val (.int (f0_v7 q1 q2 p3 p4)), .val (.int (p4 &&& (3 : Int32))), .val (.long q1), .second]) rfl ?_
      show Steps p.tables e below (s₁.setTop (mkF m 24 #[.val (.long q1), .second, .val (.long q2), .second, .val (.int p3), .val (.int p4), .val (.int (f0_v7 q1 q2 p3 p4)), .val (.int (p4 &&& (3 : Int32))), .val (.long q1), .second] [])) _
      refine XS.goto X0.here hx rfl (pc0 := 24) (pc' := 58) rfl (hb hby at_24) (by decide) (by decide) ?_
      exact k
    · have pre4 : ∀ t, Steps p.tables e below (s₁.setTop (mkF m 30 #[.val (.long q1), .second, .val (.long q2), .second, .val (.int p3), .val (.int p4), .val (.int (f0_v7 q1 q2 p3 p4)), .val (.int (p4 &&& (3 : Int32))), .unset, .unset] [(.int (1 : Int32)), (.int (p4 &&& (3 : Int32)))])) t → Steps p.tables e below (s₁.setTop (entryFrame m #[(.long q1), (.long q2), (.int p3), (.int p4)] maxLocals)) t := by
        intro t k
        refine pre1 t ?_
        show Steps p.tables e below (s₁.setTop (mkF m 18 #[.val (.long q1), .second, .val (.long q2), .second, .val (.int p3), .val (.int p4), .val (.int (f0_v7 q1 q2 p3 p4)), .val (.int (p4 &&& (3 : Int32))), .unset, .unset] [(.int (p4 &&& (3 : Int32)))])) _
        refine XS.ifYes X0.here hx rfl (pc0 := 18) (pc' := 27) rfl (hb hby at_18) rfl ((if0 _ _).trans (feq hc18).2) (by decide) (by decide) ?_
        show Steps p.tables e below (s₁.setTop (mkF m 27 #[.val (.long q1), .second, .val (.long q2), .second, .val (.int p3), .val (.int p4), .val (.int (f0_v7 q1 q2 p3 p4)), .val (.int (p4 &&& (3 : Int32))), .unset, .unset] [])) _
        refine XS.iload X0.here hx rfl (hb hby at_27) rfl ?_
        show Steps p.tables e below (s₁.setTop (mkF m 29 #[.val (.long q1), .second, .val (.long q2), .second, .val (.int p3), .val (.int p4), .val (.int (f0_v7 q1 q2 p3 p4)), .val (.int (p4 &&& (3 : Int32))), .unset, .unset] [(.int (p4 &&& (3 : Int32)))])) _
        refine XS.iconst X0.here hx rfl (hb hby at_29) ?_
        exact k
      by_cases hc30 : (p4 &&& (3 : Int32)) = (1 : Int32)
      · have eq5 := (show (f0_l8_58 q1 q2 p3 p4) = (q1 + (1 : Int64)) from by unfold f0_l8_58; simp only [if_neg hc18, if_pos hc30])
        try rw [eq5] at k
        refine pre4 t ?_
        show Steps p.tables e below (s₁.setTop (mkF m 30 #[.val (.long q1), .second, .val (.long q2), .second, .val (.int p3), .val (.int p4), .val (.int (f0_v7 q1 q2 p3 p4)), .val (.int (p4 &&& (3 : Int32))), .unset, .unset] [(.int (1 : Int32)), (.int (p4 &&& (3 : Int32)))])) _
        refine XS.icmpNo X0.here hx rfl (hb hby at_30) rfl (teq hc30).2 ?_
        show Steps p.tables e below (s₁.setTop (mkF m 33 #[.val (.long q1), .second, .val (.long q2), .second, .val (.int p3), .val (.int p4), .val (.int (f0_v7 q1 q2 p3 p4)), .val (.int (p4 &&& (3 : Int32))), .unset, .unset] [])) _
        refine XS.lloadN X0.here hx rfl (hb hby at_33) rfl ?_
        show Steps p.tables e below (s₁.setTop (mkF m 34 #[.val (.long q1), .second, .val (.long q2), .second, .val (.int p3), .val (.int p4), .val (.int (f0_v7 q1 q2 p3 p4)), .val (.int (p4 &&& (3 : Int32))), .unset, .unset] [(.long q1)])) _
        refine XS.lconst X0.here hx rfl (hb hby at_34) ?_
        show Steps p.tables e below (s₁.setTop (mkF m 35 #[.val (.long q1), .second, .val (.long q2), .second, .val (.int p3), .val (.int p4), .val (.int (f0_v7 q1 q2 p3 p4)), .val (.int (p4 &&& (3 : Int32))), .unset, .unset] [(.long (1 : Int64)), (.long q1)])) _
        refine XS.ladd X0.here hx rfl (hb hby at_35) rfl ?_
        show Steps p.tables e below (s₁.setTop (mkF m 36 #[.val (.long q1), .second, .val (.long q2), .second, .val (.int p3), .val (.int p4), .val (.int (f0_v7 q1 q2 p3 p4)), .val (.int (p4 &&& (3 : Int32))), .unset, .unset] [(.long (q1 + (1 : Int64)))])) _
        refine XS.lstore X0.here hx rfl (hb hby at_36) rfl (l' := #[.val (.long q1), .second, .val (.long q2), .second, .val (.int p3), .val (.int p4), .val (.int (f0_v7 q1 q2 p3 p4)), .val (.int (p4 &&& (3 : Int32))), .val (.long (q1 + (1 : Int64))), .second]) rfl ?_
        show Steps p.tables e below (s₁.setTop (mkF m 38 #[.val (.long q1), .second, .val (.long q2), .second, .val (.int p3), .val (.int p4), .val (.int (f0_v7 q1 q2 p3 p4)), .val (.int (p4 &&& (3 : Int32))), .val (.long (q1 + (1 : Int64))), .second] [])) _
        refine XS.goto X0.here hx rfl (pc0 := 38) (pc' := 58) rfl (hb hby at_38) (by decide) (by decide) ?_
        exact k
      · have pre6 : ∀ t, Steps p.tables e below (s₁.setTop (mkF m 44 #[.val (.long q1), .second, .val (.long q2), .second, .val (.int p3), .val (.int p4), .val (.int (f0_v7 q1 q2 p3 p4)), .val (.int (p4 &&& (3 : Int32))), .unset, .unset] [(.int (2 : Int32)), (.int (p4 &&& (3 : Int32)))])) t → Steps p.tables e below (s₁.setTop (entryFrame m #[(.long q1), (.long q2), (.int p3), (.int p4)] maxLocals)) t := by
          intro t k
          refine pre4 t ?_
          show Steps p.tables e below (s₁.setTop (mkF m 30 #[.val (.long q1), .second, .val (.long q2), .second, .val (.int p3), .val (.int p4), .val (.int (f0_v7 q1 q2 p3 p4)), .val (.int (p4 &&& (3 : Int32))), .unset, .unset] [(.int (1 : Int32)), (.int (p4 &&& (3 : Int32)))])) _
          refine XS.icmpYes X0.here hx rfl (pc0 := 30) (pc' := 41) rfl (hb hby at_30) rfl (feq hc30).2 (by decide) (by decide) ?_
          show Steps p.tables e below (s₁.setTop (mkF m 41 #[.val (.long q1), .second, .val (.long q2), .second, .val (.int p3), .val (.int p4), .val (.int (f0_v7 q1 q2 p3 p4)), .val (.int (p4 &&& (3 : Int32))), .unset, .unset] [])) _
          refine XS.iload X0.here hx rfl (hb hby at_41) rfl ?_
          show Steps p.tables e below (s₁.setTop (mkF m 43 #[.val (.long q1), .second, .val (.long q2), .second, .val (.int p3), .val (.int p4), .val (.int (f0_v7 q1 q2 p3 p4)), .val (.int (p4 &&& (3 : Int32))), .unset, .unset] [(.int (p4 &&& (3 : Int32)))])) _
          refine XS.iconst X0.here hx rfl (hb hby at_43) ?_
          exact k
        by_cases hc44 : (p4 &&& (3 : Int32)) = (2 : Int32)
        · have eq7 := (show (f0_l8_58 q1 q2 p3 p4) = (q1 - (1 : Int64)) from by unfold f0_l8_58; simp only [if_neg hc18, if_neg hc30, if_pos hc44])
          try rw [eq7] at k
          refine pre6 t ?_
          show Steps p.tables e below (s₁.setTop (mkF m 44 #[.val (.long q1), .second, .val (.long q2), .second, .val (.int p3), .val (.int p4), .val (.int (f0_v7 q1 q2 p3 p4)), .val (.int (p4 &&& (3 : Int32))), .unset, .unset] [(.int (2 : Int32)), (.int (p4 &&& (3 : Int32)))])) _
          refine XS.icmpNo X0.here hx rfl (hb hby at_44) rfl (teq hc44).2 ?_
          show Steps p.tables e below (s₁.setTop (mkF m 47 #[.val (.long q1), .second, .val (.long q2), .second, .val (.int p3), .val (.int p4), .val (.int (f0_v7 q1 q2 p3 p4)), .val (.int (p4 &&& (3 : Int32))), .unset, .unset] [])) _
          refine XS.lloadN X0.here hx rfl (hb hby at_47) rfl ?_
          show Steps p.tables e below (s₁.setTop (mkF m 48 #[.val (.long q1), .second, .val (.long q2), .second, .val (.int p3), .val (.int p4), .val (.int (f0_v7 q1 q2 p3 p4)), .val (.int (p4 &&& (3 : Int32))), .unset, .unset] [(.long q1)])) _
          refine XS.lconst X0.here hx rfl (hb hby at_48) ?_
          show Steps p.tables e below (s₁.setTop (mkF m 49 #[.val (.long q1), .second, .val (.long q2), .second, .val (.int p3), .val (.int p4), .val (.int (f0_v7 q1 q2 p3 p4)), .val (.int (p4 &&& (3 : Int32))), .unset, .unset] [(.long (1 : Int64)), (.long q1)])) _
          refine XS.lsub X0.here hx rfl (hb hby at_49) rfl ?_
          show Steps p.tables e below (s₁.setTop (mkF m 50 #[.val (.long q1), .second, .val (.long q2), .second, .val (.int p3), .val (.int p4), .val (.int (f0_v7 q1 q2 p3 p4)), .val (.int (p4 &&& (3 : Int32))), .unset, .unset] [(.long (q1 - (1 : Int64)))])) _
          refine XS.lstore X0.here hx rfl (hb hby at_50) rfl (l' := #[.val (.long q1), .second, .val (.long q2), .second, .val (.int p3), .val (.int p4), .val (.int (f0_v7 q1 q2 p3 p4)), .val (.int (p4 &&& (3 : Int32))), .val (.long (q1 - (1 : Int64))), .second]) rfl ?_
          show Steps p.tables e below (s₁.setTop (mkF m 52 #[.val (.long q1), .second, .val (.long q2), .second, .val (.int p3), .val (.int p4), .val (.int (f0_v7 q1 q2 p3 p4)), .val (.int (p4 &&& (3 : Int32))), .val (.long (q1 - (1 : Int64))), .second] [])) _
          refine XS.goto X0.here hx rfl (pc0 := 52) (pc' := 58) rfl (hb hby at_52) (by decide) (by decide) ?_
          exact k
        · have eq8 := (show (f0_l8_58 q1 q2 p3 p4) = q2 from by unfold f0_l8_58; simp only [if_neg hc18, if_neg hc30, if_neg hc44])
          try rw [eq8] at k
          refine pre6 t ?_
          show Steps p.tables e below (s₁.setTop (mkF m 44 #[.val (.long q1), .second, .val (.long q2), .second, .val (.int p3), .val (.int p4), .val (.int (f0_v7 q1 q2 p3 p4)), .val (.int (p4 &&& (3 : Int32))), .unset, .unset] [(.int (2 : Int32)), (.int (p4 &&& (3 : Int32)))])) _
          refine XS.icmpYes X0.here hx rfl (pc0 := 44) (pc' := 55) rfl (hb hby at_44) rfl (feq hc44).2 (by decide) (by decide) ?_
          show Steps p.tables e below (s₁.setTop (mkF m 55 #[.val (.long q1), .second, .val (.long q2), .second, .val (.int p3), .val (.int p4), .val (.int (f0_v7 q1 q2 p3 p4)), .val (.int (p4 &&& (3 : Int32))), .unset, .unset] [])) _
          refine XS.lloadN X0.here hx rfl (hb hby at_55) rfl ?_
          show Steps p.tables e below (s₁.setTop (mkF m 56 #[.val (.long q1), .second, .val (.long q2), .second, .val (.int p3), .val (.int p4), .val (.int (f0_v7 q1 q2 p3 p4)), .val (.int (p4 &&& (3 : Int32))), .unset, .unset] [(.long q2)])) _
          refine XS.lstore X0.here hx rfl (hb hby at_56) rfl (l' := #[.val (.long q1), .second, .val (.long q2), .second, .val (.int p3), .val (.int p4), .val (.int (f0_v7 q1 q2 p3 p4)), .val (.int (p4 &&& (3 : Int32))), .val (.long q2), .second]) rfl ?_
          exact k
  obtain ⟨_, _, ⟨T5, L5, k5, n5⟩, -, X5, ⟨Lc5, hQ5, l5, y5, z5⟩, st5⟩ := Jvm.LawKit.callS X0 hx (y := (⟨"com/example/inline_monitor/inlinemonitor/runtime/PolicyMonitor", "compare", "(JJI)Z"⟩ : MethodName)) hown (mvT hZ (hw _ (List.mem_of_getElem? (i := 1) rfl))) (mvT hZ (hw _ (List.mem_of_getElem? (i := 2) rfl))) (mvT hZ (hw _ (List.mem_of_getElem? (i := 3) rfl))) (mvT hZ (hw _ (List.mem_of_getElem? (i := 4) rfl))) (by decide) (backOf (W := 0) (rm1 l Z a0 hw [] q1 (f0_l8_58 q1 q2 p3 p4) (f0_v7 q1 q2 p3 p4) h0 n0 Z0 ) hZ (hw _ (List.mem_of_getElem? (i := 4) rfl)) (hw _ (List.mem_of_getElem? (i := 3) rfl)) (by decide) (by decide)) (g := (mkF m 63 #[.val (.long q1), .second, .val (.long q2), .second, .val (.int p3), .val (.int p4), .val (.int (f0_v7 q1 q2 p3 p4)), .val (.int (p4 &&& (3 : Int32))), .val (.long (f0_l8_58 q1 q2 p3 p4)), .second] [(.int (f0_v7 q1 q2 p3 p4)), (.long (f0_l8_58 q1 q2 p3 p4)), (.long q1)])) rfl (by rw [hml]; rfl) (argsL := [(.long q1), (.long (f0_l8_58 q1 q2 p3 p4)), (.int (f0_v7 q1 q2 p3 p4))]) (rest := []) (lenOf pd_1 rfl) rfl (by show 2 * 0 + _ ≤ _; exact Nat.le_of_eq rfl) (hb hby at_63) (fun _ _ => ⟨rfl, e0, (by decide : 0 + 0 ≤ _), (by decide : 0 + 0 ≤ _)⟩)
  dsimp only [Pt.U, Pt.locs, Pt.cells, Pt.slots] at X5 l5 y5 z5 st5 hQ5
  subst l5 y5 z5
  obtain ⟨rfl, N5q, e5⟩ := hQ5
  have N5 := Fr.app N0 N5q
  obtain ⟨_, _, ⟨T6, L6, k6, n6⟩, -, X6, ⟨Lc6, hQ6, l6, y6, z6⟩, st6⟩ := Jvm.LawKit.callS X5 hx (y := (⟨"com/example/inline_monitor/inlinemonitor/runtime/PolicyMonitorComparePinLaw", "expected", "(JJI)Z"⟩ : MethodName)) hown (mvT hZ (hw _ (List.mem_of_getElem? (i := 9) rfl))) (mvT hZ (hw _ (List.mem_of_getElem? (i := 10) rfl))) (mvT hZ (hw _ (List.mem_of_getElem? (i := 11) rfl))) (mvT hZ (hw _ (List.mem_of_getElem? (i := 12) rfl))) (by decide) (backOf (W := 1) (rm3 l Z a0 hw [] q1 (f0_l8_58 q1 q2 p3 p4) (f0_v7 q1 q2 p3 p4) h0 n0 Z0 ) hZ (hw _ (List.mem_of_getElem? (i := 12) rfl)) (hw _ (List.mem_of_getElem? (i := 11) rfl)) (by decide) (by decide)) (g := (mkF m 71 #[.val (.long q1), .second, .val (.long q2), .second, .val (.int p3), .val (.int p4), .val (.int (f0_v7 q1 q2 p3 p4)), .val (.int (p4 &&& (3 : Int32))), .val (.long (f0_l8_58 q1 q2 p3 p4)), .second] [(.int (f0_v7 q1 q2 p3 p4)), (.long (f0_l8_58 q1 q2 p3 p4)), (.long q1), (.int (f1 q1 (f0_l8_58 q1 q2 p3 p4) (f0_v7 q1 q2 p3 p4)))])) rfl (by rw [hml]; rfl) (argsL := [(.long q1), (.long (f0_l8_58 q1 q2 p3 p4)), (.int (f0_v7 q1 q2 p3 p4))]) (rest := [(.int (f1 q1 (f0_l8_58 q1 q2 p3 p4) (f0_v7 q1 q2 p3 p4)))]) (lenOf pd_1 rfl) rfl (by show 2 * 0 + _ ≤ _; exact Nat.le_of_eq rfl) (hb hby at_71) (fun _ _ => ⟨rfl, e5, (by decide : 0 + 0 ≤ _), (by decide : 0 + 0 ≤ _)⟩)
  dsimp only [Pt.U, Pt.locs, Pt.cells, Pt.slots] at X6 l6 y6 z6 st6 hQ6
  subst l6 y6 z6
  obtain ⟨rfl, N6q, e6⟩ := hQ6
  have N6 := Fr.app N5 N6q
  have pre9 : ∀ t, Steps p.tables e below (T6.setTop (mkF m 74 #[.val (.long q1), .second, .val (.long q2), .second, .val (.int p3), .val (.int p4), .val (.int (f0_v7 q1 q2 p3 p4)), .val (.int (p4 &&& (3 : Int32))), .val (.long (f0_l8_58 q1 q2 p3 p4)), .second] [(.int (f3 q1 (f0_l8_58 q1 q2 p3 p4) (f0_v7 q1 q2 p3 p4))), (.int (f1 q1 (f0_l8_58 q1 q2 p3 p4) (f0_v7 q1 q2 p3 p4)))])) t → Steps p.tables e below (s₁.setTop (entryFrame m #[(.long q1), (.long q2), (.int p3), (.int p4)] maxLocals)) t := by
    intro t k
    refine pre2 t ?_
    show Steps p.tables e below (s₁.setTop (mkF m 58 #[.val (.long q1), .second, .val (.long q2), .second, .val (.int p3), .val (.int p4), .val (.int (f0_v7 q1 q2 p3 p4)), .val (.int (p4 &&& (3 : Int32))), .val (.long (f0_l8_58 q1 q2 p3 p4)), .second] [])) _
    refine XS.lloadN X0.here hx rfl (hb hby at_58) rfl ?_
    show Steps p.tables e below (s₁.setTop (mkF m 59 #[.val (.long q1), .second, .val (.long q2), .second, .val (.int p3), .val (.int p4), .val (.int (f0_v7 q1 q2 p3 p4)), .val (.int (p4 &&& (3 : Int32))), .val (.long (f0_l8_58 q1 q2 p3 p4)), .second] [(.long q1)])) _
    refine XS.lload X0.here hx rfl (hb hby at_59) rfl ?_
    show Steps p.tables e below (s₁.setTop (mkF m 61 #[.val (.long q1), .second, .val (.long q2), .second, .val (.int p3), .val (.int p4), .val (.int (f0_v7 q1 q2 p3 p4)), .val (.int (p4 &&& (3 : Int32))), .val (.long (f0_l8_58 q1 q2 p3 p4)), .second] [(.long (f0_l8_58 q1 q2 p3 p4)), (.long q1)])) _
    refine XS.iload X0.here hx rfl (hb hby at_61) rfl ?_
    show Steps p.tables e below (s₁.setTop (mkF m 63 #[.val (.long q1), .second, .val (.long q2), .second, .val (.int p3), .val (.int p4), .val (.int (f0_v7 q1 q2 p3 p4)), .val (.int (p4 &&& (3 : Int32))), .val (.long (f0_l8_58 q1 q2 p3 p4)), .second] [(.int (f0_v7 q1 q2 p3 p4)), (.long (f0_l8_58 q1 q2 p3 p4)), (.long q1)])) _
    refine st5 _ ?_
    show Steps p.tables e below (T5.setTop (mkF m 66 #[.val (.long q1), .second, .val (.long q2), .second, .val (.int p3), .val (.int p4), .val (.int (f0_v7 q1 q2 p3 p4)), .val (.int (p4 &&& (3 : Int32))), .val (.long (f0_l8_58 q1 q2 p3 p4)), .second] [(.int (f1 q1 (f0_l8_58 q1 q2 p3 p4) (f0_v7 q1 q2 p3 p4)))])) _
    refine XS.lloadN X5.here hx rfl (hb hby at_66) rfl ?_
    show Steps p.tables e below (T5.setTop (mkF m 67 #[.val (.long q1), .second, .val (.long q2), .second, .val (.int p3), .val (.int p4), .val (.int (f0_v7 q1 q2 p3 p4)), .val (.int (p4 &&& (3 : Int32))), .val (.long (f0_l8_58 q1 q2 p3 p4)), .second] [(.long q1), (.int (f1 q1 (f0_l8_58 q1 q2 p3 p4) (f0_v7 q1 q2 p3 p4)))])) _
    refine XS.lload X5.here hx rfl (hb hby at_67) rfl ?_
    show Steps p.tables e below (T5.setTop (mkF m 69 #[.val (.long q1), .second, .val (.long q2), .second, .val (.int p3), .val (.int p4), .val (.int (f0_v7 q1 q2 p3 p4)), .val (.int (p4 &&& (3 : Int32))), .val (.long (f0_l8_58 q1 q2 p3 p4)), .second] [(.long (f0_l8_58 q1 q2 p3 p4)), (.long q1), (.int (f1 q1 (f0_l8_58 q1 q2 p3 p4) (f0_v7 q1 q2 p3 p4)))])) _
    refine XS.iload X5.here hx rfl (hb hby at_69) rfl ?_
    show Steps p.tables e below (T5.setTop (mkF m 71 #[.val (.long q1), .second, .val (.long q2), .second, .val (.int p3), .val (.int p4), .val (.int (f0_v7 q1 q2 p3 p4)), .val (.int (p4 &&& (3 : Int32))), .val (.long (f0_l8_58 q1 q2 p3 p4)), .second] [(.int (f0_v7 q1 q2 p3 p4)), (.long (f0_l8_58 q1 q2 p3 p4)), (.long q1), (.int (f1 q1 (f0_l8_58 q1 q2 p3 p4) (f0_v7 q1 q2 p3 p4)))])) _
    refine st6 _ ?_
    exact k
  by_cases hc74 : (f1 q1 (f0_l8_58 q1 q2 p3 p4) (f0_v7 q1 q2 p3 p4)) = (f3 q1 (f0_l8_58 q1 q2 p3 p4) (f0_v7 q1 q2 p3 p4))
  · have eq10 : (f0 q1 q2 p3 p4) = (1 : Int32) := by unfold f0; simp only [if_pos hc74]
    obtain ⟨fs, hr, hrun, hended, hW, hsame⟩ := X6.leave (v := some (.int (1 : Int32))) (fun h => by rw [Bd.returns] at h; cases h)
    refine ⟨_, _, pre9 _ ?_, hrun, hended, _, _, rfl, ?_, ⟨_, rfl⟩, hW, hsame.mono (by decide) (by decide)⟩
    · show Steps p.tables e below (T6.setTop (mkF m 74 #[.val (.long q1), .second, .val (.long q2), .second, .val (.int p3), .val (.int p4), .val (.int (f0_v7 q1 q2 p3 p4)), .val (.int (p4 &&& (3 : Int32))), .val (.long (f0_l8_58 q1 q2 p3 p4)), .second] [(.int (f3 q1 (f0_l8_58 q1 q2 p3 p4) (f0_v7 q1 q2 p3 p4))), (.int (f1 q1 (f0_l8_58 q1 q2 p3 p4) (f0_v7 q1 q2 p3 p4)))])) _
      refine XS.icmpNo X6.here hx rfl (hb hby at_74) rfl (teq hc74).2 ?_
      show Steps p.tables e below (T6.setTop (mkF m 77 #[.val (.long q1), .second, .val (.long q2), .second, .val (.int p3), .val (.int p4), .val (.int (f0_v7 q1 q2 p3 p4)), .val (.int (p4 &&& (3 : Int32))), .val (.long (f0_l8_58 q1 q2 p3 p4)), .second] [])) _
      refine XS.iconst X6.here hx rfl (hb hby at_77) ?_
      show Steps p.tables e below (T6.setTop (mkF m 78 #[.val (.long q1), .second, .val (.long q2), .second, .val (.int p3), .val (.int p4), .val (.int (f0_v7 q1 q2 p3 p4)), .val (.int (p4 &&& (3 : Int32))), .val (.long (f0_l8_58 q1 q2 p3 p4)), .second] [(.int (1 : Int32))])) _
      refine XS.goto X6.here hx rfl (pc0 := 78) (pc' := 82) rfl (hb hby at_78) (by decide) (by decide) ?_
      show Steps p.tables e below (T6.setTop (mkF m 82 #[.val (.long q1), .second, .val (.long q2), .second, .val (.int p3), .val (.int p4), .val (.int (f0_v7 q1 q2 p3 p4)), .val (.int (p4 &&& (3 : Int32))), .val (.long (f0_l8_58 q1 q2 p3 p4)), .second] [(.int (1 : Int32))])) _
      exact retN X6 hx (t := .boolean) Bd.returns (by simp) (hb hby at_82) hr
    · show Q0 Z q1 q2 p3 p4 h0 n0 _ T6.heap _
      rw [e6]
      exact ⟨by rw [eq10], N6, trivial⟩
  · have eq11 : (f0 q1 q2 p3 p4) = (0 : Int32) := by unfold f0; simp only [if_neg hc74]
    obtain ⟨fs, hr, hrun, hended, hW, hsame⟩ := X6.leave (v := some (.int (0 : Int32))) (fun h => by rw [Bd.returns] at h; cases h)
    refine ⟨_, _, pre9 _ ?_, hrun, hended, _, _, rfl, ?_, ⟨_, rfl⟩, hW, hsame.mono (by decide) (by decide)⟩
    · show Steps p.tables e below (T6.setTop (mkF m 74 #[.val (.long q1), .second, .val (.long q2), .second, .val (.int p3), .val (.int p4), .val (.int (f0_v7 q1 q2 p3 p4)), .val (.int (p4 &&& (3 : Int32))), .val (.long (f0_l8_58 q1 q2 p3 p4)), .second] [(.int (f3 q1 (f0_l8_58 q1 q2 p3 p4) (f0_v7 q1 q2 p3 p4))), (.int (f1 q1 (f0_l8_58 q1 q2 p3 p4) (f0_v7 q1 q2 p3 p4)))])) _
      refine XS.icmpYes X6.here hx rfl (pc0 := 74) (pc' := 81) rfl (hb hby at_74) rfl (feq hc74).2 (by decide) (by decide) ?_
      show Steps p.tables e below (T6.setTop (mkF m 81 #[.val (.long q1), .second, .val (.long q2), .second, .val (.int p3), .val (.int p4), .val (.int (f0_v7 q1 q2 p3 p4)), .val (.int (p4 &&& (3 : Int32))), .val (.long (f0_l8_58 q1 q2 p3 p4)), .second] [])) _
      refine XS.iconst X6.here hx rfl (hb hby at_81) ?_
      show Steps p.tables e below (T6.setTop (mkF m 82 #[.val (.long q1), .second, .val (.long q2), .second, .val (.int p3), .val (.int p4), .val (.int (f0_v7 q1 q2 p3 p4)), .val (.int (p4 &&& (3 : Int32))), .val (.long (f0_l8_58 q1 q2 p3 p4)), .second] [(.int (0 : Int32))])) _
      exact retN X6 hx (t := .boolean) Bd.returns (by simp) (hb hby at_82) hr
    · show Q0 Z q1 q2 p3 p4 h0 n0 _ T6.heap _
      rw [e6]
      exact ⟨by rw [eq11], N6, trivial⟩
theorem own_eq (a b : Int64) (k : Int32) : f1 a b k = f3 a b k := by
  have n0 : nar .boolean 0 = 0 := rfl
  have n1 : nar .boolean 1 = 1 := rfl
  unfold f1 f3 f1_s0_54 f1_s0_69 f1_s0_84 f1_s0_99 f1_s0_114 f1_s0_129 f2
  by_cases h1 : a < b
  · have h2 : ¬ a = b := fun q => by rw [q, Int64.lt_iff_toInt_lt] at h1; omega
    have h3 : ¬ b < a := fun q => by rw [Int64.lt_iff_toInt_lt] at h1 q; omega
    simp only [if_pos h1, if_neg h2, if_neg h3, show ¬ ((-1 : Int32) = 0) by decide, show ((-1 : Int32) < 0) by decide, show ¬ ((0 : Int32) < -1) by decide, if_true, if_false, n0, n1]
  · by_cases h2 : a = b
    · have h3 : ¬ b < a := fun q => by rw [h2, Int64.lt_iff_toInt_lt] at q; omega
      simp only [if_neg h1, if_pos h2, if_neg h3, show ¬ ((0 : Int32) < 0) by decide, if_true, if_false, n0, n1]
    · have h3 : b < a := by rw [Int64.lt_iff_toInt_lt] at h1 ⊢; rw [← Int64.toInt_inj] at h2; omega
      simp only [if_neg h1, if_neg h2, if_pos h3, show ¬ ((1 : Int32) = 0) by decide, show ¬ ((1 : Int32) < 0) by decide, show ((0 : Int32) < 1) by decide, if_true, if_false, n0, n1]
theorem own_law (a b : Int64) (c d : Int32) : f0 a b c d = 1 := by
  unfold f0
  rw [if_pos (own_eq _ _ _)]

set_option maxRecDepth 65536 in
set_option maxHeartbeats 40000000 in
theorem comes_1 {Post : Tables → Env → Array Value → State → Outcome → State → Prop} (hpost : ∀ tb e args s v u, (limb_1_1.after args s (.returned v) u = true ∧ limb_1_2.after args s (.returned v) u = true ∧ True) → FrameEnd s (.returned v) u (Jvm.fieldLocs frame_1_writes args s ++ Jvm.arrayLocs frame_1_arrays args s ++ Jvm.staticLocs frame_1_statics s) 0 0 → Post tb e args s (.returned v) u) :
    ArmFor flags0 classFile x code maxLocals ret World_1 tables_1 room_1 Calls_1 rest_1 Pre_1 Post := by
  intro l hfl _ _ p e ha hc hk s m args below hf hA hF happ hP
  obtain ⟨hcalls, hrest, hpre⟩ := hP
  obtain ⟨-, -, -, hnamed, -, -, -, hat⟩ := (Spec.applies_iff hf).mp happ
  obtain ⟨hg, hn⟩ := and_e (Cond.before_iff.mp (show (Jvm.Cond.and given_1 narrow_1).before args s = true from hpre))
  obtain ⟨g1, g2⟩ := and_e hg
  obtain ⟨g3, g4⟩ := and_e g2
  obtain ⟨g5, g6⟩ := and_e g4
  obtain ⟨g7, g8⟩ := and_e g6
  obtain ⟨w0, w1, w2, w3, rfl⟩ : ∃ w0 w1 w2 w3 : Value, args = #[w0, w1, w2, w3] := by
    have hs : args.size = 4 := by simpa [Cond.value, given_1] using g1
    obtain ⟨L⟩ := args
    match L, hs with
    | [w0, w1, w2, w3], _ => exact ⟨w0, w1, w2, w3, rfl⟩
  have hw := fun d (hd : d ∈ tables_1) => atoms_spec (ws := Jvm.Cond.code x code maxLocals ret :: tables_1) hat d (List.mem_cons_of_mem _ hd)
  have hfit : Fit s := fun {y c} hc i hi => by
    obtain ⟨ha, rfl⟩ := Array.getElem?_eq_some_iff.mp hc
    have q := List.all_eq_true.mp ((Array.all_eq_true_iff_forall_mem.mp hF) _ (Array.getElem_mem ha)) i (List.mem_range.mpr hi)
    simpa [Array.getElem?_eq_getElem hi] using q
  obtain ⟨i0, ei0⟩ := isL_v g3
  obtain rfl : w0 = (.long i0) := Option.some.inj ei0
  obtain ⟨i1, ei1⟩ := isL_v g5
  obtain rfl : w1 = (.long i1) := Option.some.inj ei1
  obtain ⟨i2, ei2⟩ := is_v g7
  obtain rfl : w2 = (.int i2) := Option.some.inj ei2
  obtain ⟨i3, ei3⟩ := is_v g8
  obtain rfl : w3 = (.int i3) := Option.some.inj ei3
  obtain ⟨n, o, h1, h2, h3, v', L, rfl, ⟨hv', N, -⟩, hq⟩ := rm0 l s _ hw tables_1 i0 i1 i2 i3 s.heap s.heap.size (Nat.le_refl _)  p e ha hc hk s m _ below hf ((Spec.applies_iff_loose hf).mp happ).1 ⟨rfl, State.Warmed39.refl s, rfl⟩ trivial
  rw [own_law i0 i1 i2 i3] at hv'
  subst hv'
  refine ⟨n, _, h1, h2, h3, hpost _ _ _ _ _ _ ⟨Cond.after_iff.mpr rfl, Cond.after_iff.mpr (eq_i res_at (Term.int_eval (1)) rfl), trivial⟩ ⟨hq.1, hq.2.1, (hq.2.2.sift fun y hy => Or.inr (N y hy)).mono (by decide) (by decide)⟩⟩
theorem main_1_1 : Claimed_1_1 := comes_1 fun _ _ _ _ _ _ h hF => ⟨h.1, hF⟩
theorem main_1_2 : Claimed_1_2 := comes_1 fun _ _ _ _ _ _ h hF => ⟨h.2.1, hF⟩
end Jvm.Pilot.@@N@@
namespace Jvm.Pilot.@@N@@
open Jvm Jvm.ClassFile Sem Op Lib Jvm.Free Jvm.Stand Jvm.Pilot.@@N@@.Jvm.D
/-! MADE BY PROGRAM (witnessworld.py) out of the Statement's table words and the real class files: 14 classes; the members and pool entries that the words name. The judged class is class 1, her method 2. -/
namespace start1
open Jvm.ClassFile
def u (s : String) : CpInfo := .utf8 (stringToUtf16 s)
/-- a pool by its gaps: so many unusable entries, then the entry; so many at the end -/
def gap : Nat → List CpInfo → List CpInfo
  | 0, r => r
  | n + 1, r => .unusable :: gap n r
def poolList (es : List (Nat × CpInfo)) (last : Nat) : List CpInfo := es.foldr (fun e r => gap e.1 (e.2 :: r)) (gap last [])
def pool (es : List (Nat × CpInfo)) (last : Nat) : Array CpInfo := ⟨poolList es last⟩
def fileOf (pool : Array CpInfo) (this : Nat) (attrs : Array Attribute := #[]) (ms : Array MethodInfo := #[]) (fl : Nat := 33) (sup : Nat := 0) (ifs : Array Nat := #[]) (fds : Array FieldInfo := #[]) : ClassFile where
  minorVersion := 0
  majorVersion := 65
  constantPool := pool
  accessFlags := fl
  thisClass := this
  superClass := sup
  interfaces := ifs
  fields := fds
  methods := ms
  attributes := attrs
def plain (name : String) (sup : Option ClassId) : Class where
  name := name
  kind := .ordinary
  loader := none
  accessFlags := 33
  super := sup
  interfaces := #[]
  cf := none
  fields := #[]
  methods := #[]
  instanceTypes := #[]
  staticTypes := #[]
  resolved := #[]
  callSites := []
  init := .initialized
  statics := none
  mirror := none

def pool0 : Array CpInfo := pool [(5, u "<init>"), (0, u "()V"), (1, .class_ 10), (1, u "java/lang/Object")] 113

def k0m0 : Method := { name := "<init>", desc := "()V", sig := { parameters := [], returnType := none }, accessFlags := 1, code := none }
/-- java/lang/Object -/
def k0 : Class := { plain "java/lang/Object" none with
  accessFlags := 33
  interfaces := #[]
  cf := some (fileOf pool0 8 #[] #[{ accessFlags := 1, nameIndex := 5, descriptorIndex := 6, attributes := #[] }] 33 0 #[] #[])
  fields := #[]
  methods := #[k0m0]
  instanceTypes := #[]
  staticTypes := #[]
  resolved := Array.replicate 124 none
  statics := none }

def pool1 : Array CpInfo := pool [(2, .class_ 4), (1, u "java/lang/Object"), (0, u "<init>"), (0, u "()V"), (0, .class_ 8), (0, u "com/example/inline_monitor/inlinemonitor/runtime/PolicyMonitor"), (0, .integer 2147483647), (0, .methodref 7 11), (0, .nameAndType 12 13), (0, u "compare"), (0, u "(JJI)Z"), (0, .methodref 15 16), (0, .class_ 17), (0, .nameAndType 18 13), (0, u "com/example/inline_monitor/inlinemonitor/runtime/PolicyMonitorComparePinLaw"), (0, u "expected"), (3, u "law"), (0, u "(JJII)Z")] 2

def k1m0 : Method := { name := "<init>", desc := "()V", sig := { parameters := [], returnType := none }, accessFlags := 2, code := none }
def k1c1 : Code := { maxStack := 4, maxLocals := 5, code := method_2_code, exceptionTable := #[], attributes := #[] }
def k1m1 : Method := { name := "expected", desc := "(JJI)Z", sig := { parameters := [.long, .long, .int], returnType := some .boolean }, accessFlags := 10, code := some k1c1 }
def k1c2 : Code := { maxStack := 6, maxLocals := 10, code := code, exceptionTable := #[], attributes := #[] }
def k1m2 : Method := { name := "law", desc := "(JJII)Z", sig := { parameters := [.long, .long, .int, .int], returnType := some .boolean }, accessFlags := 9, code := some k1c2 }
/-- com/example/inline_monitor/inlinemonitor/runtime/PolicyMonitorComparePinLaw -/
def k1 : Class := { plain "com/example/inline_monitor/inlinemonitor/runtime/PolicyMonitorComparePinLaw" (some 0) with
  accessFlags := 49
  interfaces := #[]
  cf := some (fileOf pool1 15 #[] #[{ accessFlags := 2, nameIndex := 5, descriptorIndex := 6, attributes := #[] }, { accessFlags := 10, nameIndex := 18, descriptorIndex := 13, attributes := #[] }, { accessFlags := 9, nameIndex := 22, descriptorIndex := 23, attributes := #[] }] 49 2 #[] #[])
  fields := #[]
  methods := #[k1m0, k1m1, k1m2]
  instanceTypes := #[]
  staticTypes := #[]
  resolved := Array.replicate 26 none
  statics := none }

def pool2 : Array CpInfo := pool [(4, .class_ 6), (1, u "java/lang/Object"), (3, .class_ 12), (1, u "com/example/inline_monitor/inlinemonitor/runtime/PolicyMonitor"), (0, u "lock"), (0, u "Ljava/lang/Object;"), (2, u "prefix"), (0, u "Ljava/lang/String;"), (2, u "block"), (0, u "Z"), (10, u "letters"), (0, u "[Ljava/lang/String;"), (2, u "heads"), (6, u "table"), (0, u "[I"), (2, u "rows"), (6, u "decided"), (0, u "[Z"), (2, u "undecided"), (0, u "I"), (2, u "settled"), (18, u "refusal"), (4, .methodref 88 89), (0, .class_ 90), (0, .nameAndType 91 92), (0, u "java/lang/Long"), (0, u "compare"), (0, u "(JJ)I"), (13, u "steps"), (0, u "J"), (18, u "INCONCLUSIVE"), (2, u "SATISFIED"), (1, u "VIOLATED"), (1, u "MAX_STATES"), (1, u "EQUAL"), (0, u "NOT_EQUAL"), (0, u "LESS"), (0, u "LESS_OR_EQUAL"), (1, u "GREATER"), (1, u "GREATER_OR_EQUAL"), (8, u "(JJI)Z")] 22

def k2c0 : Code := { maxStack := 4, maxLocals := 7, code := prog_50_method_3_code, exceptionTable := #[], attributes := #[] }
def k2m0 : Method := { name := "compare", desc := "(JJI)Z", sig := { parameters := [.long, .long, .int], returnType := some .boolean }, accessFlags := 9, code := some k2c0 }
/-- com/example/inline_monitor/inlinemonitor/runtime/PolicyMonitor -/
def k2 : Class := { plain "com/example/inline_monitor/inlinemonitor/runtime/PolicyMonitor" (some 0) with
  accessFlags := 49
  interfaces := #[]
  cf := some (fileOf pool2 10 #[] #[{ accessFlags := 9, nameIndex := 91, descriptorIndex := 151, attributes := #[] }] 49 4 #[] #[{ accessFlags := 25, nameIndex := 126, descriptorIndex := 60, attributes := #[] }, { accessFlags := 25, nameIndex := 129, descriptorIndex := 60, attributes := #[] }, { accessFlags := 25, nameIndex := 131, descriptorIndex := 60, attributes := #[] }, { accessFlags := 25, nameIndex := 133, descriptorIndex := 60, attributes := #[] }, { accessFlags := 25, nameIndex := 135, descriptorIndex := 60, attributes := #[] }, { accessFlags := 25, nameIndex := 136, descriptorIndex := 60, attributes := #[] }, { accessFlags := 25, nameIndex := 137, descriptorIndex := 60, attributes := #[] }, { accessFlags := 25, nameIndex := 138, descriptorIndex := 60, attributes := #[] }, { accessFlags := 25, nameIndex := 140, descriptorIndex := 60, attributes := #[] }, { accessFlags := 25, nameIndex := 142, descriptorIndex := 60, attributes := #[] }, { accessFlags := 18, nameIndex := 13, descriptorIndex := 14, attributes := #[] }, { accessFlags := 18, nameIndex := 17, descriptorIndex := 18, attributes := #[] }, { accessFlags := 18, nameIndex := 21, descriptorIndex := 22, attributes := #[] }, { accessFlags := 18, nameIndex := 33, descriptorIndex := 34, attributes := #[] }, { accessFlags := 18, nameIndex := 37, descriptorIndex := 34, attributes := #[] }, { accessFlags := 18, nameIndex := 44, descriptorIndex := 45, attributes := #[] }, { accessFlags := 18, nameIndex := 48, descriptorIndex := 45, attributes := #[] }, { accessFlags := 18, nameIndex := 55, descriptorIndex := 56, attributes := #[] }, { accessFlags := 2, nameIndex := 59, descriptorIndex := 60, attributes := #[] }, { accessFlags := 2, nameIndex := 106, descriptorIndex := 107, attributes := #[] }, { accessFlags := 66, nameIndex := 82, descriptorIndex := 18, attributes := #[] }, { accessFlags := 66, nameIndex := 63, descriptorIndex := 22, attributes := #[] }])
  fields := #[{ name := "INCONCLUSIVE", type := .int, accessFlags := 25, slot := 0, constantValue := 0 }, { name := "SATISFIED", type := .int, accessFlags := 25, slot := 1, constantValue := 0 }, { name := "VIOLATED", type := .int, accessFlags := 25, slot := 2, constantValue := 0 }, { name := "MAX_STATES", type := .int, accessFlags := 25, slot := 3, constantValue := 0 }, { name := "EQUAL", type := .int, accessFlags := 25, slot := 4, constantValue := 0 }, { name := "NOT_EQUAL", type := .int, accessFlags := 25, slot := 5, constantValue := 0 }, { name := "LESS", type := .int, accessFlags := 25, slot := 6, constantValue := 0 }, { name := "LESS_OR_EQUAL", type := .int, accessFlags := 25, slot := 7, constantValue := 0 }, { name := "GREATER", type := .int, accessFlags := 25, slot := 8, constantValue := 0 }, { name := "GREATER_OR_EQUAL", type := .int, accessFlags := 25, slot := 9, constantValue := 0 }, { name := "lock", type := (.object "java/lang/Object"), accessFlags := 18, slot := 0, constantValue := 0 }, { name := "prefix", type := (.object "java/lang/String"), accessFlags := 18, slot := 1, constantValue := 0 }, { name := "block", type := .boolean, accessFlags := 18, slot := 2, constantValue := 0 }, { name := "letters", type := (.array (.object "java/lang/String")), accessFlags := 18, slot := 3, constantValue := 0 }, { name := "heads", type := (.array (.object "java/lang/String")), accessFlags := 18, slot := 4, constantValue := 0 }, { name := "table", type := (.array .int), accessFlags := 18, slot := 5, constantValue := 0 }, { name := "rows", type := (.array .int), accessFlags := 18, slot := 6, constantValue := 0 }, { name := "decided", type := (.array .boolean), accessFlags := 18, slot := 7, constantValue := 0 }, { name := "undecided", type := .int, accessFlags := 2, slot := 8, constantValue := 0 }, { name := "steps", type := .long, accessFlags := 2, slot := 9, constantValue := 0 }, { name := "refusal", type := (.object "java/lang/String"), accessFlags := 66, slot := 10, constantValue := 0 }, { name := "settled", type := .boolean, accessFlags := 66, slot := 11, constantValue := 0 }]
  methods := #[k2m0]
  instanceTypes := #[(.object "java/lang/Object"), (.object "java/lang/String"), .boolean, (.array (.object "java/lang/String")), (.array (.object "java/lang/String")), (.array .int), (.array .int), (.array .boolean), .int, .long, (.object "java/lang/String"), .boolean]
  staticTypes := #[.int, .int, .int, .int, .int, .int, .int, .int, .int, .int]
  resolved := Array.replicate 174 none
  statics := none }

def pool3 : Array CpInfo := pool [(1, .class_ 2), (0, u "java/io/Serializable"), (0, .class_ 4), (0, u "java/lang/Object")] 2

/-- java/io/Serializable -/
def k3 : Class := { plain "java/io/Serializable" (some 0) with
  accessFlags := 1537
  interfaces := #[]
  cf := some (fileOf pool3 1 #[] #[] 1537 3 #[] #[])
  fields := #[]
  methods := #[]
  instanceTypes := #[]
  staticTypes := #[]
  resolved := Array.replicate 7 none
  statics := none }

def pool4 : Array CpInfo := pool [(2, .class_ 4), (1, u "java/lang/Object"), (0, u "<init>"), (0, u "()V"), (1, .class_ 10), (1, u "java/lang/Number"), (2, .class_ 14), (0, u "java/io/Serializable"), (0, u "serialVersionUID"), (0, u "J")] 20

def k4m0 : Method := { name := "<init>", desc := "()V", sig := { parameters := [], returnType := none }, accessFlags := 1, code := none }
/-- java/lang/Number -/
def k4 : Class := { plain "java/lang/Number" (some 0) with
  accessFlags := 1057
  interfaces := #[3]
  cf := some (fileOf pool4 8 #[] #[{ accessFlags := 1, nameIndex := 5, descriptorIndex := 6, attributes := #[] }] 1057 2 #[13] #[{ accessFlags := 26, nameIndex := 15, descriptorIndex := 16, attributes := #[] }])
  fields := #[{ name := "serialVersionUID", type := .long, accessFlags := 26, slot := 0, constantValue := 0 }]
  methods := #[k4m0]
  instanceTypes := #[]
  staticTypes := #[.long]
  resolved := Array.replicate 37 none
  statics := none }

def pool5 : Array CpInfo := pool [(1, .class_ 2), (0, u "java/lang/Comparable"), (0, .class_ 4), (0, u "java/lang/Object")] 7

/-- java/lang/Comparable -/
def k5 : Class := { plain "java/lang/Comparable" (some 0) with
  accessFlags := 1537
  interfaces := #[]
  cf := some (fileOf pool5 1 #[] #[] 1537 3 #[] #[])
  fields := #[]
  methods := #[]
  instanceTypes := #[]
  staticTypes := #[]
  resolved := Array.replicate 12 none
  statics := none }

def pool6 : Array CpInfo := pool [(1, .class_ 2), (0, u "java/lang/constant/Constable"), (0, .class_ 4), (0, u "java/lang/Object")] 6

/-- java/lang/constant/Constable -/
def k6 : Class := { plain "java/lang/constant/Constable" (some 0) with
  accessFlags := 1537
  interfaces := #[]
  cf := some (fileOf pool6 1 #[] #[] 1537 3 #[] #[])
  fields := #[]
  methods := #[]
  instanceTypes := #[]
  staticTypes := #[]
  resolved := Array.replicate 11 none
  statics := none }

def pool7 : Array CpInfo := pool [(1, .class_ 2), (0, u "java/lang/constant/ConstantDesc"), (0, .class_ 4), (0, u "java/lang/Object")] 32

/-- java/lang/constant/ConstantDesc -/
def k7 : Class := { plain "java/lang/constant/ConstantDesc" (some 0) with
  accessFlags := 1537
  interfaces := #[]
  cf := some (fileOf pool7 1 #[] #[] 1537 3 #[] #[])
  fields := #[]
  methods := #[]
  instanceTypes := #[]
  staticTypes := #[]
  resolved := Array.replicate 37 none
  statics := none }

def pool8 : Array CpInfo := pool [(1, .class_ 2), (0, u "java/lang/Long"), (232, .class_ 237), (1, u "java/lang/Long$LongCache"), (33, .class_ 272), (0, u "java/lang/Number"), (2, u "value"), (0, u "J"), (27, u "compare"), (0, u "(JJ)I"), (55, u "TYPE"), (0, u "Ljava/lang/Class;"), (0, .class_ 364), (0, u "java/lang/Comparable"), (0, .class_ 366), (0, u "java/lang/constant/Constable"), (0, .class_ 368), (0, u "java/lang/constant/ConstantDesc"), (0, u "MIN_VALUE"), (1, u "MAX_VALUE"), (4, u "SIZE"), (0, u "I"), (1, u "BYTES"), (1, u "serialVersionUID")] 142

def k8c0 : Code := { maxStack := 4, maxLocals := 4, code := jdk_35_method_42_code, exceptionTable := #[], attributes := #[] }
def k8m0 : Method := { name := "compare", desc := "(JJ)I", sig := { parameters := [.long, .long], returnType := some .int }, accessFlags := 9, code := some k8c0 }
/-- java/lang/Long -/
def k8 : Class := { plain "java/lang/Long" (some 4) with
  accessFlags := 49
  interfaces := #[5, 6, 7]
  cf := some (fileOf pool8 1 #[.nestMembers #[235]] #[{ accessFlags := 9, nameIndex := 304, descriptorIndex := 305, attributes := #[] }] 49 271 #[363, 365, 367] #[{ accessFlags := 25, nameIndex := 369, descriptorIndex := 276, attributes := #[] }, { accessFlags := 25, nameIndex := 371, descriptorIndex := 276, attributes := #[] }, { accessFlags := 25, nameIndex := 361, descriptorIndex := 362, attributes := #[] }, { accessFlags := 18, nameIndex := 275, descriptorIndex := 276, attributes := #[] }, { accessFlags := 25, nameIndex := 376, descriptorIndex := 377, attributes := #[] }, { accessFlags := 25, nameIndex := 379, descriptorIndex := 377, attributes := #[] }, { accessFlags := 26, nameIndex := 381, descriptorIndex := 276, attributes := #[] }])
  fields := #[{ name := "MIN_VALUE", type := .long, accessFlags := 25, slot := 0, constantValue := 0 }, { name := "MAX_VALUE", type := .long, accessFlags := 25, slot := 1, constantValue := 0 }, { name := "TYPE", type := (.object "java/lang/Class"), accessFlags := 25, slot := 2, constantValue := 0 }, { name := "value", type := .long, accessFlags := 18, slot := 0, constantValue := 0 }, { name := "SIZE", type := .int, accessFlags := 25, slot := 3, constantValue := 0 }, { name := "BYTES", type := .int, accessFlags := 25, slot := 4, constantValue := 0 }, { name := "serialVersionUID", type := .long, accessFlags := 26, slot := 5, constantValue := 0 }]
  methods := #[k8m0]
  instanceTypes := #[.long]
  staticTypes := #[.long, .long, (.object "java/lang/Class"), .int, .int, .long]
  resolved := Array.replicate 524 none
  statics := none }

def pool9 : Array CpInfo := pool [(1, u "java/lang/Cloneable"), (0, .class_ 1), (0, u "java/lang/Object"), (0, .class_ 3)] 3

/-- java/lang/Cloneable -/
def k9 : Class := { plain "java/lang/Cloneable" (some 0) with
  accessFlags := 1537
  interfaces := #[]
  cf := some (fileOf pool9 2 #[] #[] 1537 4 #[] #[])
  fields := #[]
  methods := #[]
  instanceTypes := #[]
  staticTypes := #[]
  resolved := Array.replicate 8 none
  statics := none }

/-- the primitive byte -/
def k10 : Class := { plain "byte" none with kind := .primitive 'B', accessFlags := 0x411 }
/-- [B -/
def k11 : Class := { plain "[B" (some 0) with kind := .array 10 .byte, interfaces := #[9, 3], accessFlags := 1041 }

/-- the primitive int -/
def k12 : Class := { plain "int" none with kind := .primitive 'I', accessFlags := 0x411 }
/-- [I -/
def k13 : Class := { plain "[I" (some 0) with kind := .array 12 .int, interfaces := #[9, 3], accessFlags := 1041 }

def heap : Heap := #[]
def classes : Array Class := #[k0, k1, k2, k3, k4, k5, k6, k7, k8, k9, k10, k11, k12, k13]
def interned : List (Array UInt16 × Addr) := []
def slotsUsed : Nat := 0
def theMethod : MethodId := ⟨1, 2⟩
def args0 : Array Value := #[.long 5, .long 7, .int 3, .int 2]
def aboutOver (below : List Frame) : State where
  vm := { classes := classes, interned := interned.toArray }
  heap := heap
  slotsUsed := slotsUsed
  threads := #[{ frames := .invoking theMethod args0 :: below }]
def below0 : List Frame := [.native { method := ⟨0, 0⟩, args := #[] }]
def about1 : State := aboutOver below0
def p0 : Program := .bare "" "" ""
def e0 : Env := launch0.env 0 0 0
theorem w_frames : about1.frames = Frame.invoking theMethod args0 :: below0 := rfl
set_option maxRecDepth 65536 in
theorem w_args : argsFit about1.vm theMethod args0 = true := by decide +kernel
set_option maxRecDepth 65536 in
theorem w_heap : heapFits about1 = true := by decide +kernel
set_option maxRecDepth 65536 in
theorem w_runnable : about1.curStatus? = some .runnable := by decide +kernel
set_option maxRecDepth 65536 in
theorem w_alone : about1.alone = true := by decide +kernel
set_option maxRecDepth 65536 in
theorem w_named : about1.methodNamed? x = some theMethod := by decide +kernel
set_option maxRecDepth 65536 in
theorem w_hears : about1.hears theMethod below0 = true := by decide +kernel
set_option maxRecDepth 65536 in
theorem w_ripe : about1.ripe theMethod args0 below0 = true := by decide +kernel
theorem w_running : about1.status = .running := rfl
set_option maxRecDepth 65536 in
theorem w_room : about1.hasRoom e0.platform room_1 = true :=
  launch0.hasRoom_least _ room_1 (by decide +kernel) (by decide +kernel) (by decide +kernel) (by decide +kernel) (by decide +kernel) (by decide +kernel)
theorem allAtoms_all (ts : List Jvm.Cond) (a : Array Jvm.Value) (st : Jvm.State) : (allAtoms ts).before a st = ts.all (fun c => c.before a st) := by
  induction ts with
  | nil => rfl
  | cons c t ih =>
    show (Jvm.Cond.and c (allAtoms t)).before a st = _
    rw [Jvm.Cond.before_and, ih, List.all_cons]
def words1 : List Jvm.Cond := Jvm.Cond.code x code maxLocals ret :: tables_1
/-- a 'code' word, met by the world's own term for the bytes: nothing is compared byte by byte -/
theorem code_word {y : MethodName} {bytes : ByteArray} {mx : Nat} {rt : Option FieldType} {a : Array Value} {s : State} {m : MethodId} {meth : Method} {c : Code} (h1 : s.methodNamed? y = some m) (h2 : s.vm.method? m = some meth) (h3 : meth.code = some c) (h4 : c.code = bytes)
    (h5 : (c.maxLocals == mx && c.exceptionTable.isEmpty && decide (c.maxStack ≤ mostOperands) && decide (meth.sig.returnType = rt) && !meth.locks && decide (parseMethodDescriptor y.desc = some meth.sig)) = true) : (Jvm.Cond.code y bytes mx rt).before a s = true := by
  simp only [Bool.and_eq_true, beq_iff_eq, Bool.not_eq_true', decide_eq_true_eq] at h5
  obtain ⟨⟨⟨⟨⟨g1, g2⟩, g3⟩, g4⟩, g5⟩, g6⟩ := h5
  simp [Cond.before, Cond.holds, Cond.value, h1, h2, h3, h4, g1, g2, g3, g4, g5, g6]
def isCode : Jvm.Cond → Bool
  | .code _ _ _ _ => true
  | _ => false
theorem all_split {L : List Jvm.Cond} {P : Jvm.Cond → Bool} (h1 : L.all (fun c => isCode c || P c) = true) (h2 : ∀ c ∈ L.filter isCode, P c = true) : L.all P = true := by
  refine List.all_eq_true.mpr fun c hc => ?_
  have h := List.all_eq_true.mp h1 c hc
  rcases Bool.eq_false_or_eq_true (isCode c) with hi | hi
  · exact h2 c (List.mem_filter.mpr ⟨hc, hi⟩)
  · simpa [hi] using h
set_option maxRecDepth 65536 in
theorem w_c0 : (Jvm.Cond.code x code maxLocals ret).before args0 about1 = true := code_word (m := ⟨1, 2⟩) (meth := k1m2) (c := k1c2) (by decide +kernel) rfl rfl rfl (by decide +kernel)
set_option maxRecDepth 65536 in
theorem w_c1 : (Jvm.Cond.code ({ cls := "com/example/inline_monitor/inlinemonitor/runtime/PolicyMonitor", name := "compare", desc := "(JJI)Z" } : Jvm.MethodName) prog_50_method_3_code (7 : Nat) (Option.some Jvm.ClassFile.FieldType.boolean)).before args0 about1 = true := code_word (m := ⟨2, 0⟩) (meth := k2m0) (c := k2c0) (by decide +kernel) rfl rfl rfl (by decide +kernel)
set_option maxRecDepth 65536 in
theorem w_c2 : (Jvm.Cond.code ({ cls := "java/lang/Long", name := "compare", desc := "(JJ)I" } : Jvm.MethodName) jdk_35_method_42_code (4 : Nat) (Option.some Jvm.ClassFile.FieldType.int)).before args0 about1 = true := code_word (m := ⟨8, 0⟩) (meth := k8m0) (c := k8c0) (by decide +kernel) rfl rfl rfl (by decide +kernel)
set_option maxRecDepth 65536 in
theorem w_c3 : (Jvm.Cond.code ({ cls := "com/example/inline_monitor/inlinemonitor/runtime/PolicyMonitorComparePinLaw", name := "expected", desc := "(JJI)Z" } : Jvm.MethodName) method_2_code (5 : Nat) (Option.some Jvm.ClassFile.FieldType.boolean)).before args0 about1 = true := code_word (m := ⟨1, 1⟩) (meth := k1m1) (c := k1c1) (by decide +kernel) rfl rfl rfl (by decide +kernel)
def codes1 : List Jvm.Cond := [Jvm.Cond.code x code maxLocals ret, Jvm.Cond.code ({ cls := "com/example/inline_monitor/inlinemonitor/runtime/PolicyMonitor", name := "compare", desc := "(JJI)Z" } : Jvm.MethodName) prog_50_method_3_code (7 : Nat) (Option.some Jvm.ClassFile.FieldType.boolean), Jvm.Cond.code ({ cls := "java/lang/Long", name := "compare", desc := "(JJ)I" } : Jvm.MethodName) jdk_35_method_42_code (4 : Nat) (Option.some Jvm.ClassFile.FieldType.int), Jvm.Cond.code ({ cls := "com/example/inline_monitor/inlinemonitor/runtime/PolicyMonitorComparePinLaw", name := "expected", desc := "(JJI)Z" } : Jvm.MethodName) method_2_code (5 : Nat) (Option.some Jvm.ClassFile.FieldType.boolean)]
set_option maxRecDepth 65536 in
theorem codes_eq : words1.filter isCode = codes1 := rfl
theorem w_codes : ∀ c ∈ words1.filter isCode, c.before args0 about1 = true := by
  rw [codes_eq]
  intro c hc
  simp only [codes1, List.mem_cons, List.not_mem_nil, or_false] at hc
  rcases hc with rfl | rfl | rfl | rfl
  · exact w_c0
  · exact w_c1
  · exact w_c2
  · exact w_c3
set_option maxRecDepth 65536 in
theorem w_t1 : words1.all (fun c => isCode c || c.before args0 about1) = true := by decide +kernel
theorem w_tables : (allAtoms (Jvm.Cond.code x code maxLocals ret :: tables_1)).before args0 about1 = true := by
  rw [allAtoms_all]
  show words1.all (fun c => c.before args0 about1) = true
  refine all_split ?_ w_codes
  rw [w_t1]
set_option maxRecDepth 65536 in
theorem w_case : (Jvm.Cond.and given_1 narrow_1).before args0 about1 = true := by decide +kernel
theorem w_applies : (headSpec (Jvm.Cond.code x code maxLocals ret :: tables_1) room_1).applies x e0.platform about1 = true :=
  (Spec.applies_iff w_frames).mpr ⟨w_running, w_runnable, w_alone, w_named, w_hears, w_ripe, w_room, w_tables⟩
theorem atStart : AtStart classFile x code maxLocals ret World_1 tables_1 room_1 Calls_1 rest_1 Pre_1 launch0 p0 e0 about1 theMethod args0 below0 :=
  ⟨lists_1, trivial, launch0.admits_env _ _ _, launch0.least_env, fairChoices_fair.cas, fairChoices_fair.clock, w_frames, w_args, w_heap, w_applies, trivial, trivial, w_case⟩
end start1
theorem witness_1 : WitnessClaimed_1 := ⟨start1.p0, start1.e0, start1.about1, start1.theMethod, start1.args0, start1.below0, start1.atStart⟩
end Jvm.Pilot.@@N@@
