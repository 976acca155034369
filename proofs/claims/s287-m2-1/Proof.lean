import JvmDerived
import JvmDerived.Pilot.@@N@@Statement
import JvmDerived.Pilot.@@N@@Code
set_option linter.unusedVariables false
set_option linter.unusedSimpArgs false
namespace Jvm.RoadKit
open Sem ClassFile Op Lib Jvm.Stand Jvm.Free Jvm.LawKit
def IAr (Z : State) (h : Heap) (a : Addr) (ty : FieldType) (n : Int32) (f : Nat → Int32) : Prop := ∃ c : Cell, Arr Z h a c ty ∧ c.slots.size = n.toNatClampNeg ∧ ¬ n < 0 ∧ ∀ i, i < c.slots.size → c.slots[i]? = some (.int (f i))
def ownU (f : Nat → Int32) (j : Nat) (v : Int32) : Nat → Int32 := fun i => if i = j then v else f i
section
variable {Z : State} {h h' : Heap} {a b : Addr} {ty : FieldType} {n : Int32} {f : Nat → Int32} {sl : Nat} {v : Value} {ws : List Addr}
theorem IAr.lt (F : IAr Z h a ty n f) : a < h.size := by obtain ⟨c, A, -⟩ := F; exact A.lt
theorem IAr.ext (F : IAr Z h a ty n f) (E : Ext h h') : IAr Z h' a ty n f := by obtain ⟨c, A, r⟩ := F; exact ⟨c, A.ext E, r⟩
theorem IAr.other (F : IAr Z h b ty n f) (W : Wr h h' a sl v) (q : b ≠ a) : IAr Z h' b ty n f := by obtain ⟨c, A, r⟩ := F; exact ⟨c, A.other W q, r⟩
theorem IAr.keep (F : IAr Z h a ty n f) (K : Keep h h' ws) (q : a ∉ ws) : IAr Z h' a ty n f := by obtain ⟨c, A, r⟩ := F; exact ⟨c, ⟨K.2.1 a c A.1 q, A.2⟩, r⟩
theorem IAr.nn (F : IAr Z h a ty n f) : ¬ n < 0 := by obtain ⟨c, A, S, q, r⟩ := F; exact q
theorem IAr.new {k : ClassId} {z : Int32} (A : Arr Z h a (newA k ty z) ty) (q : ¬ z < 0) (hd : defaultValue ty = .int 0) : IAr Z h a ty z (fun _ => 0) := by
  obtain ⟨c, A', -, S, q', H, -⟩ := Arv.new A q
  exact ⟨c, A', S, q', fun i hi => by have h1 := H i hi; rw [hd] at h1; simpa using h1⟩
theorem IAr.set {j : Nat} {x : Int32} (F : IAr Z h a ty n f) (W : Wr h h' a j (.int x)) : IAr Z h' a ty n (ownU f j x) := by
  obtain ⟨c, A, S, q, H⟩ := F
  refine ⟨c.setSlot j (.int x), A.same W, ?_, q, fun i hi => ?_⟩
  · simpa [Cell.setSlot] using S
  · have hi' : i < c.slots.size := by simpa [Cell.setSlot] using hi
    show (c.slots.setIfInBounds j (.int x))[i]? = some (.int (if i = j then x else f i))
    by_cases e : i = j
    · subst e
      rw [if_pos rfl, Array.getElem?_setIfInBounds_self_of_lt hi']
    · rw [if_neg e, Array.getElem?_setIfInBounds_ne (Ne.symm e)]
      exact H i hi'
end
section New
variable {p : Program} {l : Launch} {e : Env} {R : Room} {s : State} {m : MethodId} {args : Array Value} {below : List Frame} {meth : Method} {c : Code} {T : State} {locs : List Loc} {cells slots : Nat}
theorem retI (X : Stand p l e R s m args below meth c T locs cells slots) (hx : p.tables.exec = Jvm.exec) {pc : Nat} {Ls : Array Slot} {z : Int32} {rest : List Value} (hret : meth.sig.returnType = some .int) (hd : decode c.code pc = .ok (.ireturn, 1)) {fs : List Frame}
    (hl : ∀ (f : JFrame) (acts : List Action), f.method = m → f.locked = none → f.entered = [] → (doReturn e (T.setTop f) acts (some (.int z))).1 = T.setFrames fs) : Steps p.tables e below (T.setTop (mkF m pc Ls (.int z :: rest))) (T.setFrames fs) := by
  have hm' : T.vm.method? m = some meth := X.method'
  have hn : narrow .int (.int z) = .int z := rfl
  show Steps p.tables e below (T.setTop { method := m, pc := pc, locals := Ls, stack := _ :: rest, locked := none }) _
  jvm_step X.here [X.here.top, hx, hd, hm', hret, hn]
  first | (intro acts; rw [hl _ acts rfl rfl rfl]) | rw [hl _ _ rfl rfl rfl]
  exact Steps.refl _
theorem ldB {Z : State} {h : Heap} (X : Stand p l e R s m args below meth c T locs cells slots) (hx : p.tables.exec = Jvm.exec) (hZ : Z.Warmed39 s.vm) (eT : T.heap = h) {a : Addr} {n : Int32} {f : Nat → Int32} (F : IAr Z h a .byte n f) {j : Int32} (hj : ¬ j < 0 ∧ j < n) {g : JFrame} (hg : g.method = m) {rest : List Value} (hs : g.stack = .int j :: .ref a :: rest) (hd : decode c.code g.pc = .ok (.baload, 1)) {target : State}
    (hr : Steps p.tables e below (T.setTop { g with pc := g.pc + 1, stack := .int (f j.toNatClampNeg) :: rest }) target) : Steps p.tables e below (T.setTop g) target := by
  obtain ⟨cl, A, S, q, H⟩ := F
  exact X.baloadBytes hx (by rw [eT]; exact A.1) (State.isArrayOf_alike hZ.alike A.2.1) A.2.2 (inb_of S hj) (H _ (Nat.lt_of_not_le fun y => inb_of S hj (Or.inr y))) hg hs hd _ hr
theorem sB {Z : State} {h : Heap} (X : Stand p l e R s m args below meth c T locs cells slots) (hx : p.tables.exec = Jvm.exec) (hZ : Z.Warmed39 s.vm) (eT : T.heap = h) {a : Addr} {n : Int32} {f : Nat → Int32} (F : IAr Z h a .byte n f) {j : Int32} {x : Int32} (hj : ¬ j < 0 ∧ j < n) {g : JFrame} (hg : g.method = m) {rest : List Value} (hs : g.stack = .int x :: .int j :: .ref a :: rest) (hd : decode c.code g.pc = .ok (.bastore, 1)) :
    ∃ T' h', Stand p l e R s m args below meth c T' (locs ++ [⟨a, j.toNatClampNeg⟩]) cells slots ∧ T'.heap = h' ∧ Wr h h' a j.toNatClampNeg (.int (nar .byte x)) ∧ IAr Z h' a .byte n (ownU f j.toNatClampNeg (nar .byte x)) ∧ ∀ target, Steps p.tables e below (T'.setTop { g with pc := g.pc + 1, stack := rest }) target → Steps p.tables e below (T.setTop g) target := by
  have F' := F
  obtain ⟨cl, A, S, q, H⟩ := F
  obtain ⟨T', h', X', e', W', st'⟩ := stB X hx hZ eT A (inb_of S hj) hg hs hd
  exact ⟨T', h', X', e', W', F'.set W', st'⟩
theorem ldZ {Z : State} {h : Heap} (X : Stand p l e R s m args below meth c T locs cells slots) (hx : p.tables.exec = Jvm.exec) (hZ : Z.Warmed39 s.vm) (eT : T.heap = h) {a : Addr} {n : Int32} {f : Nat → Int32} (F : IAr Z h a .boolean n f) {j : Int32} (hj : ¬ j < 0 ∧ j < n) {g : JFrame} (hg : g.method = m) {rest : List Value} (hs : g.stack = .int j :: .ref a :: rest) (hd : decode c.code g.pc = .ok (.baload, 1)) {target : State}
    (hr : Steps p.tables e below (T.setTop { g with pc := g.pc + 1, stack := .int (f j.toNatClampNeg) :: rest }) target) : Steps p.tables e below (T.setTop g) target := by
  obtain ⟨cl, A, S, q, H⟩ := F
  exact X.baloadBooleans hx (by rw [eT]; exact A.1) (State.isArrayOf_alike hZ.alike A.2.1) A.2.2 (inb_of S hj) (H _ (Nat.lt_of_not_le fun y => inb_of S hj (Or.inr y))) hg hs hd _ hr
theorem sZ {Z : State} {h : Heap} (X : Stand p l e R s m args below meth c T locs cells slots) (hx : p.tables.exec = Jvm.exec) (hZ : Z.Warmed39 s.vm) (eT : T.heap = h) {a : Addr} {n : Int32} {f : Nat → Int32} (F : IAr Z h a .boolean n f) {j : Int32} {x : Int32} (hj : ¬ j < 0 ∧ j < n) {g : JFrame} (hg : g.method = m) {rest : List Value} (hs : g.stack = .int x :: .int j :: .ref a :: rest) (hd : decode c.code g.pc = .ok (.bastore, 1)) :
    ∃ T' h', Stand p l e R s m args below meth c T' (locs ++ [⟨a, j.toNatClampNeg⟩]) cells slots ∧ T'.heap = h' ∧ Wr h h' a j.toNatClampNeg (.int (nar .boolean x)) ∧ IAr Z h' a .boolean n (ownU f j.toNatClampNeg (nar .boolean x)) ∧ ∀ target, Steps p.tables e below (T'.setTop { g with pc := g.pc + 1, stack := rest }) target → Steps p.tables e below (T.setTop g) target := by
  have F' := F
  obtain ⟨cl, A, S, q, H⟩ := F
  obtain ⟨T', h', X', e', W', st'⟩ := stZ X hx hZ eT A (inb_of S hj) hg hs hd
  exact ⟨T', h', X', e', W', F'.set W', st'⟩
theorem alen {Z : State} {h : Heap} (X : Stand p l e R s m args below meth c T locs cells slots) (hx : p.tables.exec = Jvm.exec) (hZ : Z.Warmed39 s.vm) (eT : T.heap = h) {a : Addr} {ty : FieldType} {n : Int32} {f : Nat → Int32} (F : IAr Z h a ty n f) {g : JFrame} (hg : g.method = m) {rest : List Value} (hs : g.stack = .ref a :: rest) (hd : decode c.code g.pc = .ok (.arraylength, 1)) {target : State}
    (hr : Steps p.tables e below (T.setTop { g with pc := g.pc + 1, stack := .int n :: rest }) target) : Steps p.tables e below (T.setTop g) target := by
  obtain ⟨cl, A, S, q, H⟩ := F
  refine X.arraylength hx (by rw [eT]; exact A.1) (State.isArrayOf_alike hZ.alike A.2.1) hg hs hd _ ?_
  rw [len_of S q]
  exact hr
end New
end Jvm.RoadKit
namespace Jvm.Pilot.@@N@@
open Jvm Jvm.ClassFile Sem Op Lib Jvm.Free Jvm.Stand Jvm.LawKit Jvm.RoadKit Bundle Jvm.Pilot.@@N@@.Jvm.D
theorem own_rem (x y : Int32) : x - (x / y) * y = x % y := by
  apply Int32.toInt_inj.mp
  have h1 := Int32.le_toInt (x % y)
  have h2 := Int32.toInt_lt (x % y)
  rw [Int32.toInt_sub, Int32.toInt_mul, Int32.toInt_div, Int.bmod_mul_bmod, Int.sub_bmod_bmod, Int.mul_comm (x.toInt.tdiv y.toInt), ← Int.tmod_def, ← Int32.toInt_mod]
  exact Int.bmod_eq_of_le_mul_two (by omega) (by omega)
theorem own_nat (x : Int32) : (x.toBitVec.toNat : Int) = x.toInt % 4294967296 := by
  have h := x.toBitVec.isLt
  show _ = x.toBitVec.toInt % 4294967296
  rw [BitVec.toInt_eq_toNat_cond]; split <;> omega
theorem own_mask (x m : Int32) (k : Nat) (hm : m.toBitVec.toNat = 2 ^ k - 1) : (x &&& m).toBitVec.toNat = x.toBitVec.toNat % 2 ^ k := by
  show (x.toBitVec &&& m.toBitVec).toNat = _
  rw [BitVec.toNat_and, hm, Nat.and_two_pow_sub_one_eq_mod]
theorem own_in {i t z : Int32} {k : Nat} (hI : 0 ≤ i.toInt ∧ i.toInt ≤ t.toInt ∧ t.toInt ≤ z.toInt ∧ t.toInt - i.toInt < ((k + 1 : Nat) : Int)) (h : i < t) : ¬ i < 0 ∧ i < z := by
  simp only [Int32.lt_iff_toInt_lt, show (0 : Int32).toInt = 0 from rfl] at h ⊢
  omega
theorem own_step {i t z : Int32} {k : Nat} (hI : 0 ≤ i.toInt ∧ i.toInt ≤ t.toInt ∧ t.toInt ≤ z.toInt ∧ t.toInt - i.toInt < ((k + 1 : Nat) : Int)) (h : i < t) : 0 ≤ (i + 1).toInt ∧ (i + 1).toInt ≤ t.toInt ∧ t.toInt ≤ z.toInt ∧ t.toInt - (i + 1).toInt < (k : Int) := by
  simp only [Int32.lt_iff_toInt_lt] at h
  have h1 := c_iadd i 1
  have e1 : (1 : Int32).toInt = 1 := rfl
  have r1 := rng32 (i + 1)
  have r2 := rng32 t
  omega
theorem own_init {i t z : Int32} (hq : 0 ≤ i.toInt ∧ t.toInt ≤ z.toInt ∧ t.toInt ≤ 4) (h : i < t) : 0 ≤ i.toInt ∧ i.toInt ≤ t.toInt ∧ t.toInt ≤ z.toInt ∧ t.toInt - i.toInt < ((5 : Nat) : Int) := by
  simp only [Int32.lt_iff_toInt_lt] at h
  omega
theorem own_r5 (x : Int32) : 0 ≤ ((x &&& 2147483647) - ((x &&& 2147483647) / 5) * 5).toInt ∧ ((x &&& 2147483647) - ((x &&& 2147483647) / 5) * 5).toInt < 5 := by
  rw [own_rem]
  have h := c_mask x 2147483647 31 (by decide) (by decide)
  have h2 := (c_irem (x &&& 2147483647) 5 5 rfl).1 (by rw [h]; omega)
  omega
theorem own_i256 (x : Int32) : ¬ (x &&& 255) < 0 ∧ (x &&& 255) < 256 := by
  have h := c_mask x 255 8 (by decide) (by decide)
  simp only [Int32.lt_iff_toInt_lt, show (0 : Int32).toInt = 0 from rfl, show (256 : Int32).toInt = 256 from rfl]
  omega
theorem own_eqint {t : Term} {n : Int32} {args : Array Value} {s : State} {idx : List Nat} (h : (Cond.eq t (.int n)).value args s none s idx = some true) : t.eval args s none idx s = some (.int n) := by
  have hn : (Term.int n).eval args s none idx s = some (.int n) := rfl
  simp only [Cond.value] at h
  rw [hn] at h
  cases hv : t.eval args s none idx s with
  | none => simp [hv] at h
  | some v =>
    cases v with
    | int x => simp [hv] at h; rw [h]
    | _ => simp [hv] at h
theorem own_orv {a b : Cond} {args : Array Value} {s : State} {idx : List Nat} (h : (Cond.or a b).value args s none s idx = some true) : a.value args s none s idx = some true ∨ b.value args s none s idx = some true := by
  simp only [Cond.value] at h
  cases ha : a.value args s none s idx with
  | none => simp [ha] at h
  | some x => cases x with
    | true => exact Or.inl rfl
    | false => simp [ha] at h; exact Or.inr h
theorem own_elemv {args : Array Value} {s : State} {t u : Term} {idx : List Nat} {a : Addr} {j v : Int32} {cl : Cell} (ht : t.eval args s none idx s = some (.ref a)) (hu : u.eval args s none idx s = some (.int j)) (hc : s.heap[a]? = some cl) (h : (Cond.eq (Term.elem t u) (.int v)).value args s none s idx = some true) : atv cl j = v :=
  atv_of (elem_in (own_eqint h) ht hu hc).2
theorem own_ofTab {Z : State} {h : Heap} {a : Addr} {cl : Cell} {ty : FieldType} {z : Int32} (T : Tab Z h a cl ty z) (q : cl.slots.size < 2 ^ 31) : IAr Z h a ty z (fun i => atv cl i.toInt32) := by
  obtain ⟨A, S, n, H⟩ := T
  refine ⟨cl, A, S, n, fun i hi => ?_⟩
  have e : i.toInt32.toInt = i := len_toInt (Nat.lt_trans hi q)
  have e2 : i.toInt32.toNatClampNeg = i := by
    show i.toInt32.toInt.toNat = i
    rw [e]; rfl
  have k := H i.toInt32 (by
    rw [e2, Int32.lt_iff_toInt_lt, e, show (0 : Int32).toInt = 0 from rfl]
    omega)
  rw [e2] at k
  exact k
theorem own_len {t : Term} {n : Int32} {args : Array Value} {s : State} {a : Addr} {cl : Cell} (ht : t.eval args s none [] s = some (.ref a)) (hat : s.arrayAt? a = some cl) (h : (Cond.eq (Term.length t) (.int n)).value args s none s [] = some true) : cl.slots.size < 2 ^ 31 ∧ cl.slots.size.toInt32 = n := by
  have k := own_eqint h
  by_cases q : cl.slots.size < 2 ^ 31
  · rw [len_f ht hat q] at k
    exact ⟨q, Value.int.inj (Option.some.inj k)⟩
  · simp [Term.eval, ht, hat, q] at k

theorem pn_0 : plainName "com/example/hoardr/hoardr/http/FramingIsTokenPinLaw" = true := by first | (simp [plainName, overriddenIn]; done) | decide +kernel
theorem d2_0 : decode method_2_code 0 = .ok (.iload_n 0, 1) := by decide +kernel
theorem d2_1 : decode method_2_code 1 = .ok (.bipush 48, 2) := by decide +kernel
theorem d2_3 : decode method_2_code 3 = .ok (.if_icmp .lt 11, 3) := by decide +kernel
theorem d2_6 : decode method_2_code 6 = .ok (.iload_n 0, 1) := by decide +kernel
theorem d2_7 : decode method_2_code 7 = .ok (.bipush 57, 2) := by decide +kernel
theorem d2_9 : decode method_2_code 9 = .ok (.if_icmp .gt 5, 3) := by decide +kernel
theorem d2_12 : decode method_2_code 12 = .ok (.iconst 1, 1) := by decide +kernel
theorem d2_13 : decode method_2_code 13 = .ok (.ireturn, 1) := by decide +kernel
theorem d2_14 : decode method_2_code 14 = .ok (.iload_n 0, 1) := by decide +kernel
theorem d2_15 : decode method_2_code 15 = .ok (.bipush 65, 2) := by decide +kernel
theorem d2_17 : decode method_2_code 17 = .ok (.if_icmp .lt 11, 3) := by decide +kernel
theorem d2_20 : decode method_2_code 20 = .ok (.iload_n 0, 1) := by decide +kernel
theorem d2_21 : decode method_2_code 21 = .ok (.bipush 90, 2) := by decide +kernel
theorem d2_23 : decode method_2_code 23 = .ok (.if_icmp .gt 5, 3) := by decide +kernel
theorem d2_26 : decode method_2_code 26 = .ok (.iconst 1, 1) := by decide +kernel
theorem d2_27 : decode method_2_code 27 = .ok (.ireturn, 1) := by decide +kernel
theorem d2_28 : decode method_2_code 28 = .ok (.iload_n 0, 1) := by decide +kernel
theorem d2_29 : decode method_2_code 29 = .ok (.bipush 97, 2) := by decide +kernel
theorem d2_31 : decode method_2_code 31 = .ok (.if_icmp .lt 11, 3) := by decide +kernel
theorem d2_34 : decode method_2_code 34 = .ok (.iload_n 0, 1) := by decide +kernel
theorem d2_35 : decode method_2_code 35 = .ok (.bipush 122, 2) := by decide +kernel
theorem d2_37 : decode method_2_code 37 = .ok (.if_icmp .gt 5, 3) := by decide +kernel
theorem d2_40 : decode method_2_code 40 = .ok (.iconst 1, 1) := by decide +kernel
theorem d2_41 : decode method_2_code 41 = .ok (.ireturn, 1) := by decide +kernel
theorem d2_42 : decode method_2_code 42 = .ok (.iload_n 0, 1) := by decide +kernel
theorem d2_43 : decode method_2_code 43 = .ok (.bipush 33, 2) := by decide +kernel
theorem d2_45 : decode method_2_code 45 = .ok (.if_icmp .eq 87, 3) := by decide +kernel
theorem d2_48 : decode method_2_code 48 = .ok (.iload_n 0, 1) := by decide +kernel
theorem d2_49 : decode method_2_code 49 = .ok (.bipush 35, 2) := by decide +kernel
theorem d2_51 : decode method_2_code 51 = .ok (.if_icmp .eq 81, 3) := by decide +kernel
theorem d2_54 : decode method_2_code 54 = .ok (.iload_n 0, 1) := by decide +kernel
theorem d2_55 : decode method_2_code 55 = .ok (.bipush 36, 2) := by decide +kernel
theorem d2_57 : decode method_2_code 57 = .ok (.if_icmp .eq 75, 3) := by decide +kernel
theorem d2_60 : decode method_2_code 60 = .ok (.iload_n 0, 1) := by decide +kernel
theorem d2_61 : decode method_2_code 61 = .ok (.bipush 37, 2) := by decide +kernel
theorem d2_63 : decode method_2_code 63 = .ok (.if_icmp .eq 69, 3) := by decide +kernel
theorem d2_66 : decode method_2_code 66 = .ok (.iload_n 0, 1) := by decide +kernel
theorem d2_67 : decode method_2_code 67 = .ok (.bipush 38, 2) := by decide +kernel
theorem d2_69 : decode method_2_code 69 = .ok (.if_icmp .eq 63, 3) := by decide +kernel
theorem d2_72 : decode method_2_code 72 = .ok (.iload_n 0, 1) := by decide +kernel
theorem d2_73 : decode method_2_code 73 = .ok (.bipush 39, 2) := by decide +kernel
theorem d2_75 : decode method_2_code 75 = .ok (.if_icmp .eq 57, 3) := by decide +kernel
theorem d2_78 : decode method_2_code 78 = .ok (.iload_n 0, 1) := by decide +kernel
theorem d2_79 : decode method_2_code 79 = .ok (.bipush 42, 2) := by decide +kernel
theorem d2_81 : decode method_2_code 81 = .ok (.if_icmp .eq 51, 3) := by decide +kernel
theorem d2_84 : decode method_2_code 84 = .ok (.iload_n 0, 1) := by decide +kernel
theorem d2_85 : decode method_2_code 85 = .ok (.bipush 43, 2) := by decide +kernel
theorem d2_87 : decode method_2_code 87 = .ok (.if_icmp .eq 45, 3) := by decide +kernel
theorem d2_90 : decode method_2_code 90 = .ok (.iload_n 0, 1) := by decide +kernel
theorem d2_91 : decode method_2_code 91 = .ok (.bipush 45, 2) := by decide +kernel
theorem d2_93 : decode method_2_code 93 = .ok (.if_icmp .eq 39, 3) := by decide +kernel
theorem d2_96 : decode method_2_code 96 = .ok (.iload_n 0, 1) := by decide +kernel
theorem d2_97 : decode method_2_code 97 = .ok (.bipush 46, 2) := by decide +kernel
theorem d2_99 : decode method_2_code 99 = .ok (.if_icmp .eq 33, 3) := by decide +kernel
theorem d2_102 : decode method_2_code 102 = .ok (.iload_n 0, 1) := by decide +kernel
theorem d2_103 : decode method_2_code 103 = .ok (.bipush 94, 2) := by decide +kernel
theorem d2_105 : decode method_2_code 105 = .ok (.if_icmp .eq 27, 3) := by decide +kernel
theorem d2_108 : decode method_2_code 108 = .ok (.iload_n 0, 1) := by decide +kernel
theorem d2_109 : decode method_2_code 109 = .ok (.bipush 95, 2) := by decide +kernel
theorem d2_111 : decode method_2_code 111 = .ok (.if_icmp .eq 21, 3) := by decide +kernel
theorem d2_114 : decode method_2_code 114 = .ok (.iload_n 0, 1) := by decide +kernel
theorem d2_115 : decode method_2_code 115 = .ok (.bipush 96, 2) := by decide +kernel
theorem d2_117 : decode method_2_code 117 = .ok (.if_icmp .eq 15, 3) := by decide +kernel
theorem d2_120 : decode method_2_code 120 = .ok (.iload_n 0, 1) := by decide +kernel
theorem d2_121 : decode method_2_code 121 = .ok (.bipush 124, 2) := by decide +kernel
theorem d2_123 : decode method_2_code 123 = .ok (.if_icmp .eq 9, 3) := by decide +kernel
theorem d2_126 : decode method_2_code 126 = .ok (.iload_n 0, 1) := by decide +kernel
theorem d2_127 : decode method_2_code 127 = .ok (.bipush 126, 2) := by decide +kernel
theorem d2_129 : decode method_2_code 129 = .ok (.if_icmp .ne 7, 3) := by decide +kernel
theorem d2_132 : decode method_2_code 132 = .ok (.iconst 1, 1) := by decide +kernel
theorem d2_133 : decode method_2_code 133 = .ok (.goto 4, 3) := by decide +kernel
theorem d2_136 : decode method_2_code 136 = .ok (.iconst 0, 1) := by decide +kernel
theorem d2_137 : decode method_2_code 137 = .ok (.ireturn, 1) := by decide +kernel
theorem ef_2 (m : MethodId) (x0 : Int32) : entryFrame m #[(.int x0)] 1 = mkF m 0 #[.val (.int x0)] [] := by first | (simp [entryFrame, mkF, argsToLocals, Value.category]; done) | rfl
def f2 (p1 : Int32) : Int32 := (if p1 < (48 : Int32) then (if p1 < (65 : Int32) then (if p1 < (97 : Int32) then (if p1 = (33 : Int32) then (1 : Int32) else (if p1 = (35 : Int32) then (1 : Int32) else (if p1 = (36 : Int32) then (1 : Int32) else (if p1 = (37 : Int32) then (1 : Int32) else (if p1 = (38 : Int32) then (1 : Int32) else (if p1 = (39 : Int32) then (1 : Int32) else (if p1 = (42 : Int32) then (1 : Int32) else (if p1 = (43 : Int32) then (1 : Int32) else (if p1 = (45 : Int32) then (1 : Int32) else (if p1 = (46 : Int32) then (1 : Int32) else (if p1 = (94 : Int32) then (1 : Int32) else (if p1 = (95 : Int32) then (1 : Int32) else (if p1 = (96 : Int32) then (1 : Int32) else (if p1 = (124 : Int32) then (1 : Int32) else (if p1 = (126 : Int32) then (1 : Int32) else (0 : Int32)))))))))))))))) else (if (122 : Int32) < p1 then (if p1 = (33 : Int32) then (1 : Int32) else (if p1 = (35 : Int32) then (1 : Int32) else (if p1 = (36 : Int32) then (1 : Int32) else (if p1 = (37 : Int32) then (1 : Int32) else (if p1 = (38 : Int32) then (1 : Int32) else (if p1 = (39 : Int32) then (1 : Int32) else (if p1 = (42 : Int32) then (1 : Int32) else (if p1 = (43 : Int32) then (1 : Int32) else (if p1 = (45 : Int32) then (1 : Int32) else (if p1 = (46 : Int32) then (1 : Int32) else (if p1 = (94 : Int32) then (1 : Int32) else (if p1 = (95 : Int32) then (1 : Int32) else (if p1 = (96 : Int32) then (1 : Int32) else (if p1 = (124 : Int32) then (1 : Int32) else (if p1 = (126 : Int32) then (1 : Int32) else (0 : Int32)))))))))))))))) else (1 : Int32))) else (if (90 : Int32) < p1 then (if p1 < (97 : Int32) then (if p1 = (33 : Int32) then (1 : Int32) else (if p1 = (35 : Int32) then (1 : Int32) else (if p1 = (36 : Int32) then (1 : Int32) else (if p1 = (37 : Int32) then (1 : Int32) else (if p1 = (38 : Int32) then (1 : Int32) else (if p1 = (39 : Int32) then (1 : Int32) else (if p1 = (42 : Int32) then (1 : Int32) else (if p1 = (43 : Int32) then (1 : Int32) else (if p1 = (45 : Int32) then (1 : Int32) else (if p1 = (46 : Int32) then (1 : Int32) else (if p1 = (94 : Int32) then (1 : Int32) else (if p1 = (95 : Int32) then (1 : Int32) else (if p1 = (96 : Int32) then (1 : Int32) else (if p1 = (124 : Int32) then (1 : Int32) else (if p1 = (126 : Int32) then (1 : Int32) else (0 : Int32)))))))))))))))) else (if (122 : Int32) < p1 then (if p1 = (33 : Int32) then (1 : Int32) else (if p1 = (35 : Int32) then (1 : Int32) else (if p1 = (36 : Int32) then (1 : Int32) else (if p1 = (37 : Int32) then (1 : Int32) else (if p1 = (38 : Int32) then (1 : Int32) else (if p1 = (39 : Int32) then (1 : Int32) else (if p1 = (42 : Int32) then (1 : Int32) else (if p1 = (43 : Int32) then (1 : Int32) else (if p1 = (45 : Int32) then (1 : Int32) else (if p1 = (46 : Int32) then (1 : Int32) else (if p1 = (94 : Int32) then (1 : Int32) else (if p1 = (95 : Int32) then (1 : Int32) else (if p1 = (96 : Int32) then (1 : Int32) else (if p1 = (124 : Int32) then (1 : Int32) else (if p1 = (126 : Int32) then (1 : Int32) else (0 : Int32)))))))))))))))) else (1 : Int32))) else (1 : Int32))) else (if (57 : Int32) < p1 then (if p1 < (65 : Int32) then (if p1 < (97 : Int32) then (if p1 = (33 : Int32) then (1 : Int32) else (if p1 = (35 : Int32) then (1 : Int32) else (if p1 = (36 : Int32) then (1 : Int32) else (if p1 = (37 : Int32) then (1 : Int32) else (if p1 = (38 : Int32) then (1 : Int32) else (if p1 = (39 : Int32) then (1 : Int32) else (if p1 = (42 : Int32) then (1 : Int32) else (if p1 = (43 : Int32) then (1 : Int32) else (if p1 = (45 : Int32) then (1 : Int32) else (if p1 = (46 : Int32) then (1 : Int32) else (if p1 = (94 : Int32) then (1 : Int32) else (if p1 = (95 : Int32) then (1 : Int32) else (if p1 = (96 : Int32) then (1 : Int32) else (if p1 = (124 : Int32) then (1 : Int32) else (if p1 = (126 : Int32) then (1 : Int32) else (0 : Int32)))))))))))))))) else (if (122 : Int32) < p1 then (if p1 = (33 : Int32) then (1 : Int32) else (if p1 = (35 : Int32) then (1 : Int32) else (if p1 = (36 : Int32) then (1 : Int32) else (if p1 = (37 : Int32) then (1 : Int32) else (if p1 = (38 : Int32) then (1 : Int32) else (if p1 = (39 : Int32) then (1 : Int32) else (if p1 = (42 : Int32) then (1 : Int32) else (if p1 = (43 : Int32) then (1 : Int32) else (if p1 = (45 : Int32) then (1 : Int32) else (if p1 = (46 : Int32) then (1 : Int32) else (if p1 = (94 : Int32) then (1 : Int32) else (if p1 = (95 : Int32) then (1 : Int32) else (if p1 = (96 : Int32) then (1 : Int32) else (if p1 = (124 : Int32) then (1 : Int32) else (if p1 = (126 : Int32) then (1 : Int32) else (0 : Int32)))))))))))))))) else (1 : Int32))) else (if (90 : Int32) < p1 then (if p1 < (97 : Int32) then (if p1 = (33 : Int32) then (1 : Int32) else (if p1 = (35 : Int32) then (1 : Int32) else (if p1 = (36 : Int32) then (1 : Int32) else (if p1 = (37 : Int32) then (1 : Int32) else (if p1 = (38 : Int32) then (1 : Int32) else (if p1 = (39 : Int32) then (1 : Int32) else (if p1 = (42 : Int32) then (1 : Int32) else (if p1 = (43 : Int32) then (1 : Int32) else (if p1 = (45 : Int32) then (1 : Int32) else (if p1 = (46 : Int32) then (1 : Int32) else (if p1 = (94 : Int32) then (1 : Int32) else (if p1 = (95 : Int32) then (1 : Int32) else (if p1 = (96 : Int32) then (1 : Int32) else (if p1 = (124 : Int32) then (1 : Int32) else (if p1 = (126 : Int32) then (1 : Int32) else (0 : Int32)))))))))))))))) else (if (122 : Int32) < p1 then (if p1 = (33 : Int32) then (1 : Int32) else (if p1 = (35 : Int32) then (1 : Int32) else (if p1 = (36 : Int32) then (1 : Int32) else (if p1 = (37 : Int32) then (1 : Int32) else (if p1 = (38 : Int32) then (1 : Int32) else (if p1 = (39 : Int32) then (1 : Int32) else (if p1 = (42 : Int32) then (1 : Int32) else (if p1 = (43 : Int32) then (1 : Int32) else (if p1 = (45 : Int32) then (1 : Int32) else (if p1 = (46 : Int32) then (1 : Int32) else (if p1 = (94 : Int32) then (1 : Int32) else (if p1 = (95 : Int32) then (1 : Int32) else (if p1 = (96 : Int32) then (1 : Int32) else (if p1 = (124 : Int32) then (1 : Int32) else (if p1 = (126 : Int32) then (1 : Int32) else (0 : Int32)))))))))))))))) else (1 : Int32))) else (1 : Int32))) else (1 : Int32)))
def Q2 (Z : State) (p1 : Int32) (h0 : Heap) (n0 : Nat) (v : Option Value) (h : Heap) (L : List Loc) : Prop := v = some (.int (f2 p1)) ∧ Fr n0 L ∧ h = h0
set_option maxRecDepth 65536 in
set_option maxHeartbeats 40000000 in
theorem rm2 (l : Launch) (Z : State) (a0 : Array Value) (hw : ∀ d ∈ tables_1, d.before a0 Z = true) (ws : List Jvm.Cond) (p1 : Int32) (h0 : Heap) (n0 : Nat) (Z0 : n0 ≤ h0.size) :
    MetFree l (⟨"com/example/hoardr/hoardr/http/FramingIsTokenPinLaw", "tchar", "(I)Z"⟩ : MethodName) (head1 (Jvm.Cond.code (⟨"com/example/hoardr/hoardr/http/FramingIsTokenPinLaw", "tchar", "(I)Z"⟩ : MethodName) method_2_code 1 (some .boolean) :: ws) ({ frames := 0, cells := 0, slots := 0, locals := 0 } : Room)) (fun a U => a = #[(.int p1)] ∧ Z.Warmed39 U.vm ∧ U.heap = h0) (fun _ _ _ _ _ => True) (fun _ U o U' => ∃ v L, o = .returned v ∧ Q2 Z p1 h0 n0 v U'.heap L ∧ FrameEnd U o U' L ({ frames := 0, cells := 0, slots := 0, locals := 0 } : Room).cells ({ frames := 0, cells := 0, slots := 0, locals := 0 } : Room).slots) := by
  refine MetFree.of_bodySF (plainFor_of_name pn_0) hisR ?_
  intro p e s m args below meth c s₁ Bd hml0 hP hK
  obtain ⟨rfl, hZ, hh⟩ := hP
  have hx := Bd.exec
  have hby := Bd.bytes
  have hml : c.maxLocals = 1 := hml0
  have hown : s.vm.findClass "com/example/hoardr/hoardr/http/FramingIsTokenPinLaw" = some m.cls := findClass_of_methodNamed Bd.named
  have hnm := (name_of_methodNamed Bd.named Bd.method).1
  have X0 : Stand p l e ({ frames := 0, cells := 0, slots := 0, locals := 0 } : Room) s m #[(.int p1)] below meth c s₁ [] 0 0 := Stand.of_body Bd
  have e0 : s₁.heap = h0 := by rw [← hh, Bd.state]; rfl
  have N0 := Fr.nil n0
  have pre0 : ∀ t, Steps p.tables e below (s₁.setTop (mkF m 0 #[.val (.int p1)] [])) t → Steps p.tables e below (s₁.setTop (entryFrame m #[(.int p1)] 1)) t := fun t k => castTop (ef_2 m p1) k
  have pre1 : ∀ t, Steps p.tables e below (s₁.setTop (mkF m 3 #[.val (.int p1)] [(.int (48 : Int32)), (.int p1)])) t → Steps p.tables e below (s₁.setTop (entryFrame m #[(.int p1)] 1)) t := by
    intro t k
    refine pre0 t ?_
    show Steps p.tables e below (s₁.setTop (mkF m 0 #[.val (.int p1)] [])) _
    refine XS.iloadN X0.here hx rfl (hb hby d2_0) rfl ?_
    show Steps p.tables e below (s₁.setTop (mkF m 1 #[.val (.int p1)] [(.int p1)])) _
    refine XS.bipush X0.here hx rfl (hb hby d2_1) ?_
    exact k
  by_cases hc3 : p1 < (48 : Int32)
  · have pre2 : ∀ t, Steps p.tables e below (s₁.setTop (mkF m 17 #[.val (.int p1)] [(.int (65 : Int32)), (.int p1)])) t → Steps p.tables e below (s₁.setTop (entryFrame m #[(.int p1)] 1)) t := by
      intro t k
      refine pre1 t ?_
      show Steps p.tables e below (s₁.setTop (mkF m 3 #[.val (.int p1)] [(.int (48 : Int32)), (.int p1)])) _
      refine XS.icmpYes X0.here hx rfl (pc0 := 3) (pc' := 14) rfl (hb hby d2_3) rfl (tlt hc3).1 (by decide) (by decide) ?_
      show Steps p.tables e below (s₁.setTop (mkF m 14 #[.val (.int p1)] [])) _
      refine XS.iloadN X0.here hx rfl (hb hby d2_14) rfl ?_
      show Steps p.tables e below (s₁.setTop (mkF m 15 #[.val (.int p1)] [(.int p1)])) _
      refine XS.bipush X0.here hx rfl (hb hby d2_15) ?_
      exact k
    by_cases hc17 : p1 < (65 : Int32)
    · have pre3 : ∀ t, Steps p.tables e below (s₁.setTop (mkF m 31 #[.val (.int p1)] [(.int (97 : Int32)), (.int p1)])) t → Steps p.tables e below (s₁.setTop (entryFrame m #[(.int p1)] 1)) t := by
        intro t k
        refine pre2 t ?_
        show Steps p.tables e below (s₁.setTop (mkF m 17 #[.val (.int p1)] [(.int (65 : Int32)), (.int p1)])) _
        refine XS.icmpYes X0.here hx rfl (pc0 := 17) (pc' := 28) rfl (hb hby d2_17) rfl (tlt hc17).1 (by decide) (by decide) ?_
        show Steps p.tables e below (s₁.setTop (mkF m 28 #[.val (.int p1)] [])) _
        refine XS.iloadN X0.here hx rfl (hb hby d2_28) rfl ?_
        show Steps p.tables e below (s₁.setTop (mkF m 29 #[.val (.int p1)] [(.int p1)])) _
        refine XS.bipush X0.here hx rfl (hb hby d2_29) ?_
        exact k
      by_cases hc31 : p1 < (97 : Int32)
      · have pre4 : ∀ t, Steps p.tables e below (s₁.setTop (mkF m 45 #[.val (.int p1)] [(.int (33 : Int32)), (.int p1)])) t → Steps p.tables e below (s₁.setTop (entryFrame m #[(.int p1)] 1)) t := by
          intro t k
          refine pre3 t ?_
          show Steps p.tables e below (s₁.setTop (mkF m 31 #[.val (.int p1)] [(.int (97 : Int32)), (.int p1)])) _
          refine XS.icmpYes X0.here hx rfl (pc0 := 31) (pc' := 42) rfl (hb hby d2_31) rfl (tlt hc31).1 (by decide) (by decide) ?_
          show Steps p.tables e below (s₁.setTop (mkF m 42 #[.val (.int p1)] [])) _
          refine XS.iloadN X0.here hx rfl (hb hby d2_42) rfl ?_
          show Steps p.tables e below (s₁.setTop (mkF m 43 #[.val (.int p1)] [(.int p1)])) _
          refine XS.bipush X0.here hx rfl (hb hby d2_43) ?_
          exact k
        by_cases hc45 : p1 = (33 : Int32)
        · have eq5 : (f2 p1) = (1 : Int32) := by unfold f2; simp only [if_pos hc3, if_pos hc17, if_pos hc31, if_pos hc45]
          obtain ⟨fs, hr, hrun, hended, hW, hsame⟩ := X0.leave (v := some (.int (1 : Int32))) (fun h => by rw [Bd.returns] at h; cases h)
          refine ⟨_, _, pre4 _ ?_, hrun, hended, _, _, rfl, ?_, ⟨_, rfl⟩, hW, hsame.mono (by decide) (by decide)⟩
          · show Steps p.tables e below (s₁.setTop (mkF m 45 #[.val (.int p1)] [(.int (33 : Int32)), (.int p1)])) _
            refine XS.icmpYes X0.here hx rfl (pc0 := 45) (pc' := 132) rfl (hb hby d2_45) rfl (teq hc45).1 (by decide) (by decide) ?_
            show Steps p.tables e below (s₁.setTop (mkF m 132 #[.val (.int p1)] [])) _
            refine XS.iconst X0.here hx rfl (hb hby d2_132) ?_
            show Steps p.tables e below (s₁.setTop (mkF m 133 #[.val (.int p1)] [(.int (1 : Int32))])) _
            refine XS.goto X0.here hx rfl (pc0 := 133) (pc' := 137) rfl (hb hby d2_133) (by decide) (by decide) ?_
            show Steps p.tables e below (s₁.setTop (mkF m 137 #[.val (.int p1)] [(.int (1 : Int32))])) _
            exact retN X0 hx (t := .boolean) Bd.returns (by simp) (hb hby d2_137) hr
          · show Q2 Z p1 h0 n0 _ s₁.heap _
            rw [e0]
            exact ⟨by rw [eq5], N0, rfl⟩
        · have pre6 : ∀ t, Steps p.tables e below (s₁.setTop (mkF m 51 #[.val (.int p1)] [(.int (35 : Int32)), (.int p1)])) t → Steps p.tables e below (s₁.setTop (entryFrame m #[(.int p1)] 1)) t := by
            intro t k
            refine pre4 t ?_
            show Steps p.tables e below (s₁.setTop (mkF m 45 #[.val (.int p1)] [(.int (33 : Int32)), (.int p1)])) _
            refine XS.icmpNo X0.here hx rfl (hb hby d2_45) rfl (feq hc45).1 ?_
            show Steps p.tables e below (s₁.setTop (mkF m 48 #[.val (.int p1)] [])) _
            refine XS.iloadN X0.here hx rfl (hb hby d2_48) rfl ?_
            show Steps p.tables e below (s₁.setTop (mkF m 49 #[.val (.int p1)] [(.int p1)])) _
            refine XS.bipush X0.here hx rfl (hb hby d2_49) ?_
            exact k
          by_cases hc51 : p1 = (35 : Int32)
          · have eq7 : (f2 p1) = (1 : Int32) := by unfold f2; simp only [if_pos hc3, if_pos hc17, if_pos hc31, if_neg hc45, if_pos hc51]
            obtain ⟨fs, hr, hrun, hended, hW, hsame⟩ := X0.leave (v := some (.int (1 : Int32))) (fun h => by rw [Bd.returns] at h; cases h)
            refine ⟨_, _, pre6 _ ?_, hrun, hended, _, _, rfl, ?_, ⟨_, rfl⟩, hW, hsame.mono (by decide) (by decide)⟩
            · show Steps p.tables e below (s₁.setTop (mkF m 51 #[.val (.int p1)] [(.int (35 : Int32)), (.int p1)])) _
              refine XS.icmpYes X0.here hx rfl (pc0 := 51) (pc' := 132) rfl (hb hby d2_51) rfl (teq hc51).1 (by decide) (by decide) ?_
              show Steps p.tables e below (s₁.setTop (mkF m 132 #[.val (.int p1)] [])) _
              refine XS.iconst X0.here hx rfl (hb hby d2_132) ?_
              show Steps p.tables e below (s₁.setTop (mkF m 133 #[.val (.int p1)] [(.int (1 : Int32))])) _
              refine XS.goto X0.here hx rfl (pc0 := 133) (pc' := 137) rfl (hb hby d2_133) (by decide) (by decide) ?_
              show Steps p.tables e below (s₁.setTop (mkF m 137 #[.val (.int p1)] [(.int (1 : Int32))])) _
              exact retN X0 hx (t := .boolean) Bd.returns (by simp) (hb hby d2_137) hr
            · show Q2 Z p1 h0 n0 _ s₁.heap _
              rw [e0]
              exact ⟨by rw [eq7], N0, rfl⟩
          · have pre8 : ∀ t, Steps p.tables e below (s₁.setTop (mkF m 57 #[.val (.int p1)] [(.int (36 : Int32)), (.int p1)])) t → Steps p.tables e below (s₁.setTop (entryFrame m #[(.int p1)] 1)) t := by
              intro t k
              refine pre6 t ?_
              show Steps p.tables e below (s₁.setTop (mkF m 51 #[.val (.int p1)] [(.int (35 : Int32)), (.int p1)])) _
              refine XS.icmpNo X0.here hx rfl (hb hby d2_51) rfl (feq hc51).1 ?_
              show Steps p.tables e below (s₁.setTop (mkF m 54 #[.val (.int p1)] [])) _
              refine XS.iloadN X0.here hx rfl (hb hby d2_54) rfl ?_
              show Steps p.tables e below (s₁.setTop (mkF m 55 #[.val (.int p1)] [(.int p1)])) _
              refine XS.bipush X0.here hx rfl (hb hby d2_55) ?_
              exact k
            by_cases hc57 : p1 = (36 : Int32)
            · have eq9 : (f2 p1) = (1 : Int32) := by unfold f2; simp only [if_pos hc3, if_pos hc17, if_pos hc31, if_neg hc45, if_neg hc51, if_pos hc57]
              obtain ⟨fs, hr, hrun, hended, hW, hsame⟩ := X0.leave (v := some (.int (1 : Int32))) (fun h => by rw [Bd.returns] at h; cases h)
              refine ⟨_, _, pre8 _ ?_, hrun, hended, _, _, rfl, ?_, ⟨_, rfl⟩, hW, hsame.mono (by decide) (by decide)⟩
              · show Steps p.tables e below (s₁.setTop (mkF m 57 #[.val (.int p1)] [(.int (36 : Int32)), (.int p1)])) _
                refine XS.icmpYes X0.here hx rfl (pc0 := 57) (pc' := 132) rfl (hb hby d2_57) rfl (teq hc57).1 (by decide) (by decide) ?_
                show Steps p.tables e below (s₁.setTop (mkF m 132 #[.val (.int p1)] [])) _
                refine XS.iconst X0.here hx rfl (hb hby d2_132) ?_
                show Steps p.tables e below (s₁.setTop (mkF m 133 #[.val (.int p1)] [(.int (1 : Int32))])) _
                refine XS.goto X0.here hx rfl (pc0 := 133) (pc' := 137) rfl (hb hby d2_133) (by decide) (by decide) ?_
                show Steps p.tables e below (s₁.setTop (mkF m 137 #[.val (.int p1)] [(.int (1 : Int32))])) _
                exact retN X0 hx (t := .boolean) Bd.returns (by simp) (hb hby d2_137) hr
              · show Q2 Z p1 h0 n0 _ s₁.heap _
                rw [e0]
                exact ⟨by rw [eq9], N0, rfl⟩
            · have pre10 : ∀ t, Steps p.tables e below (s₁.setTop (mkF m 63 #[.val (.int p1)] [(.int (37 : Int32)), (.int p1)])) t → Steps p.tables e below (s₁.setTop (entryFrame m #[(.int p1)] 1)) t := by
                intro t k
                refine pre8 t ?_
                show Steps p.tables e below (s₁.setTop (mkF m 57 #[.val (.int p1)] [(.int (36 : Int32)), (.int p1)])) _
                refine XS.icmpNo X0.here hx rfl (hb hby d2_57) rfl (feq hc57).1 ?_
                show Steps p.tables e below (s₁.setTop (mkF m 60 #[.val (.int p1)] [])) _
                refine XS.iloadN X0.here hx rfl (hb hby d2_60) rfl ?_
                show Steps p.tables e below (s₁.setTop (mkF m 61 #[.val (.int p1)] [(.int p1)])) _
                refine XS.bipush X0.here hx rfl (hb hby d2_61) ?_
                exact k
              by_cases hc63 : p1 = (37 : Int32)
              · have eq11 : (f2 p1) = (1 : Int32) := by unfold f2; simp only [if_pos hc3, if_pos hc17, if_pos hc31, if_neg hc45, if_neg hc51, if_neg hc57, if_pos hc63]
                obtain ⟨fs, hr, hrun, hended, hW, hsame⟩ := X0.leave (v := some (.int (1 : Int32))) (fun h => by rw [Bd.returns] at h; cases h)
                refine ⟨_, _, pre10 _ ?_, hrun, hended, _, _, rfl, ?_, ⟨_, rfl⟩, hW, hsame.mono (by decide) (by decide)⟩
                · show Steps p.tables e below (s₁.setTop (mkF m 63 #[.val (.int p1)] [(.int (37 : Int32)), (.int p1)])) _
                  refine XS.icmpYes X0.here hx rfl (pc0 := 63) (pc' := 132) rfl (hb hby d2_63) rfl (teq hc63).1 (by decide) (by decide) ?_
                  show Steps p.tables e below (s₁.setTop (mkF m 132 #[.val (.int p1)] [])) _
                  refine XS.iconst X0.here hx rfl (hb hby d2_132) ?_
                  show Steps p.tables e below (s₁.setTop (mkF m 133 #[.val (.int p1)] [(.int (1 : Int32))])) _
                  refine XS.goto X0.here hx rfl (pc0 := 133) (pc' := 137) rfl (hb hby d2_133) (by decide) (by decide) ?_
                  show Steps p.tables e below (s₁.setTop (mkF m 137 #[.val (.int p1)] [(.int (1 : Int32))])) _
                  exact retN X0 hx (t := .boolean) Bd.returns (by simp) (hb hby d2_137) hr
                · show Q2 Z p1 h0 n0 _ s₁.heap _
                  rw [e0]
                  exact ⟨by rw [eq11], N0, rfl⟩
              · have pre12 : ∀ t, Steps p.tables e below (s₁.setTop (mkF m 69 #[.val (.int p1)] [(.int (38 : Int32)), (.int p1)])) t → Steps p.tables e below (s₁.setTop (entryFrame m #[(.int p1)] 1)) t := by
                  intro t k
                  refine pre10 t ?_
                  show Steps p.tables e below (s₁.setTop (mkF m 63 #[.val (.int p1)] [(.int (37 : Int32)), (.int p1)])) _
                  refine XS.icmpNo X0.here hx rfl (hb hby d2_63) rfl (feq hc63).1 ?_
                  show Steps p.tables e below (s₁.setTop (mkF m 66 #[.val (.int p1)] [])) _
                  refine XS.iloadN X0.here hx rfl (hb hby d2_66) rfl ?_
                  show Steps p.tables e below (s₁.setTop (mkF m 67 #[.val (.int p1)] [(.int p1)])) _
                  refine XS.bipush X0.here hx rfl (hb hby d2_67) ?_
                  exact k
                by_cases hc69 : p1 = (38 : Int32)
                · have eq13 : (f2 p1) = (1 : Int32) := by unfold f2; simp only [if_pos hc3, if_pos hc17, if_pos hc31, if_neg hc45, if_neg hc51, if_neg hc57, if_neg hc63, if_pos hc69]
                  obtain ⟨fs, hr, hrun, hended, hW, hsame⟩ := X0.leave (v := some (.int (1 : Int32))) (fun h => by rw [Bd.returns] at h; cases h)
                  refine ⟨_, _, pre12 _ ?_, hrun, hended, _, _, rfl, ?_, ⟨_, rfl⟩, hW, hsame.mono (by decide) (by decide)⟩
                  · show Steps p.tables e below (s₁.setTop (mkF m 69 #[.val (.int p1)] [(.int (38 : Int32)), (.int p1)])) _
                    refine XS.icmpYes X0.here hx rfl (pc0 := 69) (pc' := 132) rfl (hb hby d2_69) rfl (teq hc69).1 (by decide) (by decide) ?_
                    show Steps p.tables e below (s₁.setTop (mkF m 132 #[.val (.int p1)] [])) _
                    refine XS.iconst X0.here hx rfl (hb hby d2_132) ?_
                    show Steps p.tables e below (s₁.setTop (mkF m 133 #[.val (.int p1)] [(.int (1 : Int32))])) _
                    refine XS.goto X0.here hx rfl (pc0 := 133) (pc' := 137) rfl (hb hby d2_133) (by decide) (by decide) ?_
                    show Steps p.tables e below (s₁.setTop (mkF m 137 #[.val (.int p1)] [(.int (1 : Int32))])) _
                    exact retN X0 hx (t := .boolean) Bd.returns (by simp) (hb hby d2_137) hr
                  · show Q2 Z p1 h0 n0 _ s₁.heap _
                    rw [e0]
                    exact ⟨by rw [eq13], N0, rfl⟩
                · have pre14 : ∀ t, Steps p.tables e below (s₁.setTop (mkF m 75 #[.val (.int p1)] [(.int (39 : Int32)), (.int p1)])) t → Steps p.tables e below (s₁.setTop (entryFrame m #[(.int p1)] 1)) t := by
                    intro t k
                    refine pre12 t ?_
                    show Steps p.tables e below (s₁.setTop (mkF m 69 #[.val (.int p1)] [(.int (38 : Int32)), (.int p1)])) _
                    refine XS.icmpNo X0.here hx rfl (hb hby d2_69) rfl (feq hc69).1 ?_
                    show Steps p.tables e below (s₁.setTop (mkF m 72 #[.val (.int p1)] [])) _
                    refine XS.iloadN X0.here hx rfl (hb hby d2_72) rfl ?_
                    show Steps p.tables e below (s₁.setTop (mkF m 73 #[.val (.int p1)] [(.int p1)])) _
                    refine XS.bipush X0.here hx rfl (hb hby d2_73) ?_
                    exact k
                  by_cases hc75 : p1 = (39 : Int32)
                  · have eq15 : (f2 p1) = (1 : Int32) := by unfold f2; simp only [if_pos hc3, if_pos hc17, if_pos hc31, if_neg hc45, if_neg hc51, if_neg hc57, if_neg hc63, if_neg hc69, if_pos hc75]
                    obtain ⟨fs, hr, hrun, hended, hW, hsame⟩ := X0.leave (v := some (.int (1 : Int32))) (fun h => by rw [Bd.returns] at h; cases h)
                    refine ⟨_, _, pre14 _ ?_, hrun, hended, _, _, rfl, ?_, ⟨_, rfl⟩, hW, hsame.mono (by decide) (by decide)⟩
                    · show Steps p.tables e below (s₁.setTop (mkF m 75 #[.val (.int p1)] [(.int (39 : Int32)), (.int p1)])) _
                      refine XS.icmpYes X0.here hx rfl (pc0 := 75) (pc' := 132) rfl (hb hby d2_75) rfl (teq hc75).1 (by decide) (by decide) ?_
                      show Steps p.tables e below (s₁.setTop (mkF m 132 #[.val (.int p1)] [])) _
                      refine XS.iconst X0.here hx rfl (hb hby d2_132) ?_
                      show Steps p.tables e below (s₁.setTop (mkF m 133 #[.val (.int p1)] [(.int (1 : Int32))])) _
                      refine XS.goto X0.here hx rfl (pc0 := 133) (pc' := 137) rfl (hb hby d2_133) (by decide) (by decide) ?_
                      show Steps p.tables e below (s₁.setTop (mkF m 137 #[.val (.int p1)] [(.int (1 : Int32))])) _
                      exact retN X0 hx (t := .boolean) Bd.returns (by simp) (hb hby d2_137) hr
                    · show Q2 Z p1 h0 n0 _ s₁.heap _
                      rw [e0]
                      exact ⟨by rw [eq15], N0, rfl⟩
                  · have pre16 : ∀ t, Steps p.tables e below (s₁.setTop (mkF m 81 #[.val (.int p1)] [(.int (42 : Int32)), (.int p1)])) t → Steps p.tables e below (s₁.setTop (entryFrame m #[(.int p1)] 1)) t := by
                      intro t k
                      refine pre14 t ?_
                      show Steps p.tables e below (s₁.setTop (mkF m 75 #[.val (.int p1)] [(.int (39 : Int32)), (.int p1)])) _
                      refine XS.icmpNo X0.here hx rfl (hb hby d2_75) rfl (feq hc75).1 ?_
                      show Steps p.tables e below (s₁.setTop (mkF m 78 #[.val (.int p1)] [])) _
                      refine XS.iloadN X0.here hx rfl (hb hby d2_78) rfl ?_
                      show Steps p.tables e below (s₁.setTop (mkF m 79 #[.val (.int p1)] [(.int p1)])) _
                      refine XS.bipush X0.here hx rfl (hb hby d2_79) ?_
                      exact k
                    by_cases hc81 : p1 = (42 : Int32)
                    · have eq17 : (f2 p1) = (1 : Int32) := by unfold f2; simp only [if_pos hc3, if_pos hc17, if_pos hc31, if_neg hc45, if_neg hc51, if_neg hc57, if_neg hc63, if_neg hc69, if_neg hc75, if_pos hc81]
                      obtain ⟨fs, hr, hrun, hended, hW, hsame⟩ := X0.leave (v := some (.int (1 : Int32))) (fun h => by rw [Bd.returns] at h; cases h)
                      refine ⟨_, _, pre16 _ ?_, hrun, hended, _, _, rfl, ?_, ⟨_, rfl⟩, hW, hsame.mono (by decide) (by decide)⟩
                      · show Steps p.tables e below (s₁.setTop (mkF m 81 #[.val (.int p1)] [(.int (42 : Int32)), (.int p1)])) _
                        refine XS.icmpYes X0.here hx rfl (pc0 := 81) (pc' := 132) rfl (hb hby d2_81) rfl (teq hc81).1 (by decide) (by decide) ?_
                        show Steps p.tables e below (s₁.setTop (mkF m 132 #[.val (.int p1)] [])) _
                        refine XS.iconst X0.here hx rfl (hb hby d2_132) ?_
                        show Steps p.tables e below (s₁.setTop (mkF m 133 #[.val (.int p1)] [(.int (1 : Int32))])) _
                        refine XS.goto X0.here hx rfl (pc0 := 133) (pc' := 137) rfl (hb hby d2_133) (by decide) (by decide) ?_
                        show Steps p.tables e below (s₁.setTop (mkF m 137 #[.val (.int p1)] [(.int (1 : Int32))])) _
                        exact retN X0 hx (t := .boolean) Bd.returns (by simp) (hb hby d2_137) hr
                      · show Q2 Z p1 h0 n0 _ s₁.heap _
                        rw [e0]
                        exact ⟨by rw [eq17], N0, rfl⟩
                    · have pre18 : ∀ t, Steps p.tables e below (s₁.setTop (mkF m 87 #[.val (.int p1)] [(.int (43 : Int32)), (.int p1)])) t → Steps p.tables e below (s₁.setTop (entryFrame m #[(.int p1)] 1)) t := by
                        intro t k
                        refine pre16 t ?_
                        show Steps p.tables e below (s₁.setTop (mkF m 81 #[.val (.int p1)] [(.int (42 : Int32)), (.int p1)])) _
                        refine XS.icmpNo X0.here hx rfl (hb hby d2_81) rfl (feq hc81).1 ?_
                        show Steps p.tables e below (s₁.setTop (mkF m 84 #[.val (.int p1)] [])) _
                        refine XS.iloadN X0.here hx rfl (hb hby d2_84) rfl ?_
                        show Steps p.tables e below (s₁.setTop (mkF m 85 #[.val (.int p1)] [(.int p1)])) _
                        refine XS.bipush X0.here hx rfl (hb hby d2_85) ?_
                        exact k
                      by_cases hc87 : p1 = (43 : Int32)
                      · have eq19 : (f2 p1) = (1 : Int32) := by unfold f2; simp only [if_pos hc3, if_pos hc17, if_pos hc31, if_neg hc45, if_neg hc51, if_neg hc57, if_neg hc63, if_neg hc69, if_neg hc75, if_neg hc81, if_pos hc87]
                        obtain ⟨fs, hr, hrun, hended, hW, hsame⟩ := X0.leave (v := some (.int (1 : Int32))) (fun h => by rw [Bd.returns] at h; cases h)
                        refine ⟨_, _, pre18 _ ?_, hrun, hended, _, _, rfl, ?_, ⟨_, rfl⟩, hW, hsame.mono (by decide) (by decide)⟩
                        · show Steps p.tables e below (s₁.setTop (mkF m 87 #[.val (.int p1)] [(.int (43 : Int32)), (.int p1)])) _
                          refine XS.icmpYes X0.here hx rfl (pc0 := 87) (pc' := 132) rfl (hb hby d2_87) rfl (teq hc87).1 (by decide) (by decide) ?_
                          show Steps p.tables e below (s₁.setTop (mkF m 132 #[.val (.int p1)] [])) _
                          refine XS.iconst X0.here hx rfl (hb hby d2_132) ?_
                          show Steps p.tables e below (s₁.setTop (mkF m 133 #[.val (.int p1)] [(.int (1 : Int32))])) _
                          refine XS.goto X0.here hx rfl (pc0 := 133) (pc' := 137) rfl (hb hby d2_133) (by decide) (by decide) ?_
                          show Steps p.tables e below (s₁.setTop (mkF m 137 #[.val (.int p1)] [(.int (1 : Int32))])) _
                          exact retN X0 hx (t := .boolean) Bd.returns (by simp) (hb hby d2_137) hr
                        · show Q2 Z p1 h0 n0 _ s₁.heap _
                          rw [e0]
                          exact ⟨by rw [eq19], N0, rfl⟩
                      · have pre20 : ∀ t, Steps p.tables e below (s₁.setTop (mkF m 93 #[.val (.int p1)] [(.int (45 : Int32)), (.int p1)])) t → Steps p.tables e below (s₁.setTop (entryFrame m #[(.int p1)] 1)) t := by
                          intro t k
                          refine pre18 t ?_
                          show Steps p.tables e below (s₁.setTop (mkF m 87 #[.val (.int p1)] [(.int (43 : Int32)), (.int p1)])) _
                          refine XS.icmpNo X0.here hx rfl (hb hby d2_87) rfl (feq hc87).1 ?_
                          show Steps p.tables e below (s₁.setTop (mkF m 90 #[.val (.int p1)] [])) _
                          refine XS.iloadN X0.here hx rfl (hb hby d2_90) rfl ?_
                          show Steps p.tables e below (s₁.setTop (mkF m 91 #[.val (.int p1)] [(.int p1)])) _
                          refine XS.bipush X0.here hx rfl (hb hby d2_91) ?_
                          exact k
                        by_cases hc93 : p1 = (45 : Int32)
                        · have eq21 : (f2 p1) = (1 : Int32) := by unfold f2; simp only [if_pos hc3, if_pos hc17, if_pos hc31, if_neg hc45, if_neg hc51, if_neg hc57, if_neg hc63, if_neg hc69, if_neg hc75, if_neg hc81, if_neg hc87, if_pos hc93]
                          obtain ⟨fs, hr, hrun, hended, hW, hsame⟩ := X0.leave (v := some (.int (1 : Int32))) (fun h => by rw [Bd.returns] at h; cases h)
                          refine ⟨_, _, pre20 _ ?_, hrun, hended, _, _, rfl, ?_, ⟨_, rfl⟩, hW, hsame.mono (by decide) (by decide)⟩
                          · show Steps p.tables e below (s₁.setTop (mkF m 93 #[.val (.int p1)] [(.int (45 : Int32)), (.int p1)])) _
                            refine XS.icmpYes X0.here hx rfl (pc0 := 93) (pc' := 132) rfl (hb hby d2_93) rfl (teq hc93).1 (by decide) (by decide) ?_
                            show Steps p.tables e below (s₁.setTop (mkF m 132 #[.val (.int p1)] [])) _
                            refine XS.iconst X0.here hx rfl (hb hby d2_132) ?_
                            show Steps p.tables e below (s₁.setTop (mkF m 133 #[.val (.int p1)] [(.int (1 : Int32))])) _
                            refine XS.goto X0.here hx rfl (pc0 := 133) (pc' := 137) rfl (hb hby d2_133) (by decide) (by decide) ?_
                            show Steps p.tables e below (s₁.setTop (mkF m 137 #[.val (.int p1)] [(.int (1 : Int32))])) _
                            exact retN X0 hx (t := .boolean) Bd.returns (by simp) (hb hby d2_137) hr
                          · show Q2 Z p1 h0 n0 _ s₁.heap _
                            rw [e0]
                            exact ⟨by rw [eq21], N0, rfl⟩
                        · have pre22 : ∀ t, Steps p.tables e below (s₁.setTop (mkF m 99 #[.val (.int p1)] [(.int (46 : Int32)), (.int p1)])) t → Steps p.tables e below (s₁.setTop (entryFrame m #[(.int p1)] 1)) t := by
                            intro t k
                            refine pre20 t ?_
                            show Steps p.tables e below (s₁.setTop (mkF m 93 #[.val (.int p1)] [(.int (45 : Int32)), (.int p1)])) _
                            refine XS.icmpNo X0.here hx rfl (hb hby d2_93) rfl (feq hc93).1 ?_
                            show Steps p.tables e below (s₁.setTop (mkF m 96 #[.val (.int p1)] [])) _
                            refine XS.iloadN X0.here hx rfl (hb hby d2_96) rfl ?_
                            show Steps p.tables e below (s₁.setTop (mkF m 97 #[.val (.int p1)] [(.int p1)])) _
                            refine XS.bipush X0.here hx rfl (hb hby d2_97) ?_
                            exact k
                          by_cases hc99 : p1 = (46 : Int32)
                          · have eq23 : (f2 p1) = (1 : Int32) := by unfold f2; simp only [if_pos hc3, if_pos hc17, if_pos hc31, if_neg hc45, if_neg hc51, if_neg hc57, if_neg hc63, if_neg hc69, if_neg hc75, if_neg hc81, if_neg hc87, if_neg hc93, if_pos hc99]
                            obtain ⟨fs, hr, hrun, hended, hW, hsame⟩ := X0.leave (v := some (.int (1 : Int32))) (fun h => by rw [Bd.returns] at h; cases h)
                            refine ⟨_, _, pre22 _ ?_, hrun, hended, _, _, rfl, ?_, ⟨_, rfl⟩, hW, hsame.mono (by decide) (by decide)⟩
                            · show Steps p.tables e below (s₁.setTop (mkF m 99 #[.val (.int p1)] [(.int (46 : Int32)), (.int p1)])) _
                              refine XS.icmpYes X0.here hx rfl (pc0 := 99) (pc' := 132) rfl (hb hby d2_99) rfl (teq hc99).1 (by decide) (by decide) ?_
                              show Steps p.tables e below (s₁.setTop (mkF m 132 #[.val (.int p1)] [])) _
                              refine XS.iconst X0.here hx rfl (hb hby d2_132) ?_
                              show Steps p.tables e below (s₁.setTop (mkF m 133 #[.val (.int p1)] [(.int (1 : Int32))])) _
                              refine XS.goto X0.here hx rfl (pc0 := 133) (pc' := 137) rfl (hb hby d2_133) (by decide) (by decide) ?_
                              show Steps p.tables e below (s₁.setTop (mkF m 137 #[.val (.int p1)] [(.int (1 : Int32))])) _
                              exact retN X0 hx (t := .boolean) Bd.returns (by simp) (hb hby d2_137) hr
                            · show Q2 Z p1 h0 n0 _ s₁.heap _
                              rw [e0]
                              exact ⟨by rw [eq23], N0, rfl⟩
                          · have pre24 : ∀ t, Steps p.tables e below (s₁.setTop (mkF m 105 #[.val (.int p1)] [(.int (94 : Int32)), (.int p1)])) t → Steps p.tables e below (s₁.setTop (entryFrame m #[(.int p1)] 1)) t := by
                              intro t k
                              refine pre22 t ?_
                              show Steps p.tables e below (s₁.setTop (mkF m 99 #[.val (.int p1)] [(.int (46 : Int32)), (.int p1)])) _
                              refine XS.icmpNo X0.here hx rfl (hb hby d2_99) rfl (feq hc99).1 ?_
                              show Steps p.tables e below (s₁.setTop (mkF m 102 #[.val (.int p1)] [])) _
                              refine XS.iloadN X0.here hx rfl (hb hby d2_102) rfl ?_
                              show Steps p.tables e below (s₁.setTop (mkF m 103 #[.val (.int p1)] [(.int p1)])) _
                              refine XS.bipush X0.here hx rfl (hb hby d2_103) ?_
                              exact k
                            by_cases hc105 : p1 = (94 : Int32)
                            · have eq25 : (f2 p1) = (1 : Int32) := by unfold f2; simp only [if_pos hc3, if_pos hc17, if_pos hc31, if_neg hc45, if_neg hc51, if_neg hc57, if_neg hc63, if_neg hc69, if_neg hc75, if_neg hc81, if_neg hc87, if_neg hc93, if_neg hc99, if_pos hc105]
                              obtain ⟨fs, hr, hrun, hended, hW, hsame⟩ := X0.leave (v := some (.int (1 : Int32))) (fun h => by rw [Bd.returns] at h; cases h)
                              refine ⟨_, _, pre24 _ ?_, hrun, hended, _, _, rfl, ?_, ⟨_, rfl⟩, hW, hsame.mono (by decide) (by decide)⟩
                              · show Steps p.tables e below (s₁.setTop (mkF m 105 #[.val (.int p1)] [(.int (94 : Int32)), (.int p1)])) _
                                refine XS.icmpYes X0.here hx rfl (pc0 := 105) (pc' := 132) rfl (hb hby d2_105) rfl (teq hc105).1 (by decide) (by decide) ?_
                                show Steps p.tables e below (s₁.setTop (mkF m 132 #[.val (.int p1)] [])) _
                                refine XS.iconst X0.here hx rfl (hb hby d2_132) ?_
                                show Steps p.tables e below (s₁.setTop (mkF m 133 #[.val (.int p1)] [(.int (1 : Int32))])) _
                                refine XS.goto X0.here hx rfl (pc0 := 133) (pc' := 137) rfl (hb hby d2_133) (by decide) (by decide) ?_
                                show Steps p.tables e below (s₁.setTop (mkF m 137 #[.val (.int p1)] [(.int (1 : Int32))])) _
                                exact retN X0 hx (t := .boolean) Bd.returns (by simp) (hb hby d2_137) hr
                              · show Q2 Z p1 h0 n0 _ s₁.heap _
                                rw [e0]
                                exact ⟨by rw [eq25], N0, rfl⟩
                            · have pre26 : ∀ t, Steps p.tables e below (s₁.setTop (mkF m 111 #[.val (.int p1)] [(.int (95 : Int32)), (.int p1)])) t → Steps p.tables e below (s₁.setTop (entryFrame m #[(.int p1)] 1)) t := by
                                intro t k
                                refine pre24 t ?_
                                show Steps p.tables e below (s₁.setTop (mkF m 105 #[.val (.int p1)] [(.int (94 : Int32)), (.int p1)])) _
                                refine XS.icmpNo X0.here hx rfl (hb hby d2_105) rfl (feq hc105).1 ?_
                                show Steps p.tables e below (s₁.setTop (mkF m 108 #[.val (.int p1)] [])) _
                                refine XS.iloadN X0.here hx rfl (hb hby d2_108) rfl ?_
                                show Steps p.tables e below (s₁.setTop (mkF m 109 #[.val (.int p1)] [(.int p1)])) _
                                refine XS.bipush X0.here hx rfl (hb hby d2_109) ?_
                                exact k
                              by_cases hc111 : p1 = (95 : Int32)
                              · have eq27 : (f2 p1) = (1 : Int32) := by unfold f2; simp only [if_pos hc3, if_pos hc17, if_pos hc31, if_neg hc45, if_neg hc51, if_neg hc57, if_neg hc63, if_neg hc69, if_neg hc75, if_neg hc81, if_neg hc87, if_neg hc93, if_neg hc99, if_neg hc105, if_pos hc111]
                                obtain ⟨fs, hr, hrun, hended, hW, hsame⟩ := X0.leave (v := some (.int (1 : Int32))) (fun h => by rw [Bd.returns] at h; cases h)
                                refine ⟨_, _, pre26 _ ?_, hrun, hended, _, _, rfl, ?_, ⟨_, rfl⟩, hW, hsame.mono (by decide) (by decide)⟩
                                · show Steps p.tables e below (s₁.setTop (mkF m 111 #[.val (.int p1)] [(.int (95 : Int32)), (.int p1)])) _
                                  refine XS.icmpYes X0.here hx rfl (pc0 := 111) (pc' := 132) rfl (hb hby d2_111) rfl (teq hc111).1 (by decide) (by decide) ?_
                                  show Steps p.tables e below (s₁.setTop (mkF m 132 #[.val (.int p1)] [])) _
                                  refine XS.iconst X0.here hx rfl (hb hby d2_132) ?_
                                  show Steps p.tables e below (s₁.setTop (mkF m 133 #[.val (.int p1)] [(.int (1 : Int32))])) _
                                  refine XS.goto X0.here hx rfl (pc0 := 133) (pc' := 137) rfl (hb hby d2_133) (by decide) (by decide) ?_
                                  show Steps p.tables e below (s₁.setTop (mkF m 137 #[.val (.int p1)] [(.int (1 : Int32))])) _
                                  exact retN X0 hx (t := .boolean) Bd.returns (by simp) (hb hby d2_137) hr
                                · show Q2 Z p1 h0 n0 _ s₁.heap _
                                  rw [e0]
                                  exact ⟨by rw [eq27], N0, rfl⟩
                              · have pre28 : ∀ t, Steps p.tables e below (s₁.setTop (mkF m 117 #[.val (.int p1)] [(.int (96 : Int32)), (.int p1)])) t → Steps p.tables e below (s₁.setTop (entryFrame m #[(.int p1)] 1)) t := by
                                  intro t k
                                  refine pre26 t ?_
                                  show Steps p.tables e below (s₁.setTop (mkF m 111 #[.val (.int p1)] [(.int (95 : Int32)), (.int p1)])) _
                                  refine XS.icmpNo X0.here hx rfl (hb hby d2_111) rfl (feq hc111).1 ?_
                                  show Steps p.tables e below (s₁.setTop (mkF m 114 #[.val (.int p1)] [])) _
                                  refine XS.iloadN X0.here hx rfl (hb hby d2_114) rfl ?_
                                  show Steps p.tables e below (s₁.setTop (mkF m 115 #[.val (.int p1)] [(.int p1)])) _
                                  refine XS.bipush X0.here hx rfl (hb hby d2_115) ?_
                                  exact k
                                by_cases hc117 : p1 = (96 : Int32)
                                · have eq29 : (f2 p1) = (1 : Int32) := by unfold f2; simp only [if_pos hc3, if_pos hc17, if_pos hc31, if_neg hc45, if_neg hc51, if_neg hc57, if_neg hc63, if_neg hc69, if_neg hc75, if_neg hc81, if_neg hc87, if_neg hc93, if_neg hc99, if_neg hc105, if_neg hc111, if_pos hc117]
                                  obtain ⟨fs, hr, hrun, hended, hW, hsame⟩ := X0.leave (v := some (.int (1 : Int32))) (fun h => by rw [Bd.returns] at h; cases h)
                                  refine ⟨_, _, pre28 _ ?_, hrun, hended, _, _, rfl, ?_, ⟨_, rfl⟩, hW, hsame.mono (by decide) (by decide)⟩
                                  · show Steps p.tables e below (s₁.setTop (mkF m 117 #[.val (.int p1)] [(.int (96 : Int32)), (.int p1)])) _
                                    refine XS.icmpYes X0.here hx rfl (pc0 := 117) (pc' := 132) rfl (hb hby d2_117) rfl (teq hc117).1 (by decide) (by decide) ?_
                                    show Steps p.tables e below (s₁.setTop (mkF m 132 #[.val (.int p1)] [])) _
                                    refine XS.iconst X0.here hx rfl (hb hby d2_132) ?_
                                    show Steps p.tables e below (s₁.setTop (mkF m 133 #[.val (.int p1)] [(.int (1 : Int32))])) _
                                    refine XS.goto X0.here hx rfl (pc0 := 133) (pc' := 137) rfl (hb hby d2_133) (by decide) (by decide) ?_
                                    show Steps p.tables e below (s₁.setTop (mkF m 137 #[.val (.int p1)] [(.int (1 : Int32))])) _
                                    exact retN X0 hx (t := .boolean) Bd.returns (by simp) (hb hby d2_137) hr
                                  · show Q2 Z p1 h0 n0 _ s₁.heap _
                                    rw [e0]
                                    exact ⟨by rw [eq29], N0, rfl⟩
                                · have pre30 : ∀ t, Steps p.tables e below (s₁.setTop (mkF m 123 #[.val (.int p1)] [(.int (124 : Int32)), (.int p1)])) t → Steps p.tables e below (s₁.setTop (entryFrame m #[(.int p1)] 1)) t := by
                                    intro t k
                                    refine pre28 t ?_
                                    show Steps p.tables e below (s₁.setTop (mkF m 117 #[.val (.int p1)] [(.int (96 : Int32)), (.int p1)])) _
                                    refine XS.icmpNo X0.here hx rfl (hb hby d2_117) rfl (feq hc117).1 ?_
                                    show Steps p.tables e below (s₁.setTop (mkF m 120 #[.val (.int p1)] [])) _
                                    refine XS.iloadN X0.here hx rfl (hb hby d2_120) rfl ?_
                                    show Steps p.tables e below (s₁.setTop (mkF m 121 #[.val (.int p1)] [(.int p1)])) _
                                    refine XS.bipush X0.here hx rfl (hb hby d2_121) ?_
                                    exact k
                                  by_cases hc123 : p1 = (124 : Int32)
                                  · have eq31 : (f2 p1) = (1 : Int32) := by unfold f2; simp only [if_pos hc3, if_pos hc17, if_pos hc31, if_neg hc45, if_neg hc51, if_neg hc57, if_neg hc63, if_neg hc69, if_neg hc75, if_neg hc81, if_neg hc87, if_neg hc93, if_neg hc99, if_neg hc105, if_neg hc111, if_neg hc117, if_pos hc123]
                                    obtain ⟨fs, hr, hrun, hended, hW, hsame⟩ := X0.leave (v := some (.int (1 : Int32))) (fun h => by rw [Bd.returns] at h; cases h)
                                    refine ⟨_, _, pre30 _ ?_, hrun, hended, _, _, rfl, ?_, ⟨_, rfl⟩, hW, hsame.mono (by decide) (by decide)⟩
                                    · show Steps p.tables e below (s₁.setTop (mkF m 123 #[.val (.int p1)] [(.int (124 : Int32)), (.int p1)])) _
                                      refine XS.icmpYes X0.here hx rfl (pc0 := 123) (pc' := 132) rfl (hb hby d2_123) rfl (teq hc123).1 (by decide) (by decide) ?_
                                      show Steps p.tables e below (s₁.setTop (mkF m 132 #[.val (.int p1)] [])) _
                                      refine XS.iconst X0.here hx rfl (hb hby d2_132) ?_
                                      show Steps p.tables e below (s₁.setTop (mkF m 133 #[.val (.int p1)] [(.int (1 : Int32))])) _
                                      refine XS.goto X0.here hx rfl (pc0 := 133) (pc' := 137) rfl (hb hby d2_133) (by decide) (by decide) ?_
                                      show Steps p.tables e below (s₁.setTop (mkF m 137 #[.val (.int p1)] [(.int (1 : Int32))])) _
                                      exact retN X0 hx (t := .boolean) Bd.returns (by simp) (hb hby d2_137) hr
                                    · show Q2 Z p1 h0 n0 _ s₁.heap _
                                      rw [e0]
                                      exact ⟨by rw [eq31], N0, rfl⟩
                                  · have pre32 : ∀ t, Steps p.tables e below (s₁.setTop (mkF m 129 #[.val (.int p1)] [(.int (126 : Int32)), (.int p1)])) t → Steps p.tables e below (s₁.setTop (entryFrame m #[(.int p1)] 1)) t := by
                                      intro t k
                                      refine pre30 t ?_
                                      show Steps p.tables e below (s₁.setTop (mkF m 123 #[.val (.int p1)] [(.int (124 : Int32)), (.int p1)])) _
                                      refine XS.icmpNo X0.here hx rfl (hb hby d2_123) rfl (feq hc123).1 ?_
                                      show Steps p.tables e below (s₁.setTop (mkF m 126 #[.val (.int p1)] [])) _
                                      refine XS.iloadN X0.here hx rfl (hb hby d2_126) rfl ?_
                                      show Steps p.tables e below (s₁.setTop (mkF m 127 #[.val (.int p1)] [(.int p1)])) _
                                      refine XS.bipush X0.here hx rfl (hb hby d2_127) ?_
                                      exact k
                                    by_cases hc129 : p1 = (126 : Int32)
                                    · have eq33 : (f2 p1) = (1 : Int32) := by unfold f2; simp only [if_pos hc3, if_pos hc17, if_pos hc31, if_neg hc45, if_neg hc51, if_neg hc57, if_neg hc63, if_neg hc69, if_neg hc75, if_neg hc81, if_neg hc87, if_neg hc93, if_neg hc99, if_neg hc105, if_neg hc111, if_neg hc117, if_neg hc123, if_pos hc129]
                                      obtain ⟨fs, hr, hrun, hended, hW, hsame⟩ := X0.leave (v := some (.int (1 : Int32))) (fun h => by rw [Bd.returns] at h; cases h)
                                      refine ⟨_, _, pre32 _ ?_, hrun, hended, _, _, rfl, ?_, ⟨_, rfl⟩, hW, hsame.mono (by decide) (by decide)⟩
                                      · show Steps p.tables e below (s₁.setTop (mkF m 129 #[.val (.int p1)] [(.int (126 : Int32)), (.int p1)])) _
                                        refine XS.icmpNo X0.here hx rfl (hb hby d2_129) rfl (teq hc129).2 ?_
                                        show Steps p.tables e below (s₁.setTop (mkF m 132 #[.val (.int p1)] [])) _
                                        refine XS.iconst X0.here hx rfl (hb hby d2_132) ?_
                                        show Steps p.tables e below (s₁.setTop (mkF m 133 #[.val (.int p1)] [(.int (1 : Int32))])) _
                                        refine XS.goto X0.here hx rfl (pc0 := 133) (pc' := 137) rfl (hb hby d2_133) (by decide) (by decide) ?_
                                        show Steps p.tables e below (s₁.setTop (mkF m 137 #[.val (.int p1)] [(.int (1 : Int32))])) _
                                        exact retN X0 hx (t := .boolean) Bd.returns (by simp) (hb hby d2_137) hr
                                      · show Q2 Z p1 h0 n0 _ s₁.heap _
                                        rw [e0]
                                        exact ⟨by rw [eq33], N0, rfl⟩
                                    · have eq34 : (f2 p1) = (0 : Int32) := by unfold f2; simp only [if_pos hc3, if_pos hc17, if_pos hc31, if_neg hc45, if_neg hc51, if_neg hc57, if_neg hc63, if_neg hc69, if_neg hc75, if_neg hc81, if_neg hc87, if_neg hc93, if_neg hc99, if_neg hc105, if_neg hc111, if_neg hc117, if_neg hc123, if_neg hc129]
                                      obtain ⟨fs, hr, hrun, hended, hW, hsame⟩ := X0.leave (v := some (.int (0 : Int32))) (fun h => by rw [Bd.returns] at h; cases h)
                                      refine ⟨_, _, pre32 _ ?_, hrun, hended, _, _, rfl, ?_, ⟨_, rfl⟩, hW, hsame.mono (by decide) (by decide)⟩
                                      · show Steps p.tables e below (s₁.setTop (mkF m 129 #[.val (.int p1)] [(.int (126 : Int32)), (.int p1)])) _
                                        refine XS.icmpYes X0.here hx rfl (pc0 := 129) (pc' := 136) rfl (hb hby d2_129) rfl (feq hc129).2 (by decide) (by decide) ?_
                                        show Steps p.tables e below (s₁.setTop (mkF m 136 #[.val (.int p1)] [])) _
                                        refine XS.iconst X0.here hx rfl (hb hby d2_136) ?_
                                        show Steps p.tables e below (s₁.setTop (mkF m 137 #[.val (.int p1)] [(.int (0 : Int32))])) _
                                        exact retN X0 hx (t := .boolean) Bd.returns (by simp) (hb hby d2_137) hr
                                      · show Q2 Z p1 h0 n0 _ s₁.heap _
                                        rw [e0]
                                        exact ⟨by rw [eq34], N0, rfl⟩
      · have pre35 : ∀ t, Steps p.tables e below (s₁.setTop (mkF m 37 #[.val (.int p1)] [(.int (122 : Int32)), (.int p1)])) t → Steps p.tables e below (s₁.setTop (entryFrame m #[(.int p1)] 1)) t := by
          intro t k
          refine pre3 t ?_
          show Steps p.tables e below (s₁.setTop (mkF m 31 #[.val (.int p1)] [(.int (97 : Int32)), (.int p1)])) _
          refine XS.icmpNo X0.here hx rfl (hb hby d2_31) rfl (flt hc31).1 ?_
          show Steps p.tables e below (s₁.setTop (mkF m 34 #[.val (.int p1)] [])) _
          refine XS.iloadN X0.here hx rfl (hb hby d2_34) rfl ?_
          show Steps p.tables e below (s₁.setTop (mkF m 35 #[.val (.int p1)] [(.int p1)])) _
          refine XS.bipush X0.here hx rfl (hb hby d2_35) ?_
          exact k
        by_cases hc37 : (122 : Int32) < p1
        · have pre36 : ∀ t, Steps p.tables e below (s₁.setTop (mkF m 45 #[.val (.int p1)] [(.int (33 : Int32)), (.int p1)])) t → Steps p.tables e below (s₁.setTop (entryFrame m #[(.int p1)] 1)) t := by
            intro t k
            refine pre35 t ?_
            show Steps p.tables e below (s₁.setTop (mkF m 37 #[.val (.int p1)] [(.int (122 : Int32)), (.int p1)])) _
            refine XS.icmpYes X0.here hx rfl (pc0 := 37) (pc' := 42) rfl (hb hby d2_37) rfl (tlt hc37).2.2.1 (by decide) (by decide) ?_
            show Steps p.tables e below (s₁.setTop (mkF m 42 #[.val (.int p1)] [])) _
            refine XS.iloadN X0.here hx rfl (hb hby d2_42) rfl ?_
            show Steps p.tables e below (s₁.setTop (mkF m 43 #[.val (.int p1)] [(.int p1)])) _
            refine XS.bipush X0.here hx rfl (hb hby d2_43) ?_
            exact k
          by_cases hc45 : p1 = (33 : Int32)
          · have eq37 : (f2 p1) = (1 : Int32) := by unfold f2; simp only [if_pos hc3, if_pos hc17, if_neg hc31, if_pos hc37, if_pos hc45]
            obtain ⟨fs, hr, hrun, hended, hW, hsame⟩ := X0.leave (v := some (.int (1 : Int32))) (fun h => by rw [Bd.returns] at h; cases h)
            refine ⟨_, _, pre36 _ ?_, hrun, hended, _, _, rfl, ?_, ⟨_, rfl⟩, hW, hsame.mono (by decide) (by decide)⟩
            · show Steps p.tables e below (s₁.setTop (mkF m 45 #[.val (.int p1)] [(.int (33 : Int32)), (.int p1)])) _
              refine XS.icmpYes X0.here hx rfl (pc0 := 45) (pc' := 132) rfl (hb hby d2_45) rfl (teq hc45).1 (by decide) (by decide) ?_
              show Steps p.tables e below (s₁.setTop (mkF m 132 #[.val (.int p1)] [])) _
              refine XS.iconst X0.here hx rfl (hb hby d2_132) ?_
              show Steps p.tables e below (s₁.setTop (mkF m 133 #[.val (.int p1)] [(.int (1 : Int32))])) _
              refine XS.goto X0.here hx rfl (pc0 := 133) (pc' := 137) rfl (hb hby d2_133) (by decide) (by decide) ?_
              show Steps p.tables e below (s₁.setTop (mkF m 137 #[.val (.int p1)] [(.int (1 : Int32))])) _
              exact retN X0 hx (t := .boolean) Bd.returns (by simp) (hb hby d2_137) hr
            · show Q2 Z p1 h0 n0 _ s₁.heap _
              rw [e0]
              exact ⟨by rw [eq37], N0, rfl⟩
          · have pre38 : ∀ t, Steps p.tables e below (s₁.setTop (mkF m 51 #[.val (.int p1)] [(.int (35 : Int32)), (.int p1)])) t → Steps p.tables e below (s₁.setTop (entryFrame m #[(.int p1)] 1)) t := by
              intro t k
              refine pre36 t ?_
              show Steps p.tables e below (s₁.setTop (mkF m 45 #[.val (.int p1)] [(.int (33 : Int32)), (.int p1)])) _
              refine XS.icmpNo X0.here hx rfl (hb hby d2_45) rfl (feq hc45).1 ?_
              show Steps p.tables e below (s₁.setTop (mkF m 48 #[.val (.int p1)] [])) _
              refine XS.iloadN X0.here hx rfl (hb hby d2_48) rfl ?_
              show Steps p.tables e below (s₁.setTop (mkF m 49 #[.val (.int p1)] [(.int p1)])) _
              refine XS.bipush X0.here hx rfl (hb hby d2_49) ?_
              exact k
            by_cases hc51 : p1 = (35 : Int32)
            · have eq39 : (f2 p1) = (1 : Int32) := by unfold f2; simp only [if_pos hc3, if_pos hc17, if_neg hc31, if_pos hc37, if_neg hc45, if_pos hc51]
              obtain ⟨fs, hr, hrun, hended, hW, hsame⟩ := X0.leave (v := some (.int (1 : Int32))) (fun h => by rw [Bd.returns] at h; cases h)
              refine ⟨_, _, pre38 _ ?_, hrun, hended, _, _, rfl, ?_, ⟨_, rfl⟩, hW, hsame.mono (by decide) (by decide)⟩
              · show Steps p.tables e below (s₁.setTop (mkF m 51 #[.val (.int p1)] [(.int (35 : Int32)), (.int p1)])) _
                refine XS.icmpYes X0.here hx rfl (pc0 := 51) (pc' := 132) rfl (hb hby d2_51) rfl (teq hc51).1 (by decide) (by decide) ?_
                show Steps p.tables e below (s₁.setTop (mkF m 132 #[.val (.int p1)] [])) _
                refine XS.iconst X0.here hx rfl (hb hby d2_132) ?_
                show Steps p.tables e below (s₁.setTop (mkF m 133 #[.val (.int p1)] [(.int (1 : Int32))])) _
                refine XS.goto X0.here hx rfl (pc0 := 133) (pc' := 137) rfl (hb hby d2_133) (by decide) (by decide) ?_
                show Steps p.tables e below (s₁.setTop (mkF m 137 #[.val (.int p1)] [(.int (1 : Int32))])) _
                exact retN X0 hx (t := .boolean) Bd.returns (by simp) (hb hby d2_137) hr
              · show Q2 Z p1 h0 n0 _ s₁.heap _
                rw [e0]
                exact ⟨by rw [eq39], N0, rfl⟩
            · have pre40 : ∀ t, Steps p.tables e below (s₁.setTop (mkF m 57 #[.val (.int p1)] [(.int (36 : Int32)), (.int p1)])) t → Steps p.tables e below (s₁.setTop (entryFrame m #[(.int p1)] 1)) t := by
                intro t k
                refine pre38 t ?_
                show Steps p.tables e below (s₁.setTop (mkF m 51 #[.val (.int p1)] [(.int (35 : Int32)), (.int p1)])) _
                refine XS.icmpNo X0.here hx rfl (hb hby d2_51) rfl (feq hc51).1 ?_
                show Steps p.tables e below (s₁.setTop (mkF m 54 #[.val (.int p1)] [])) _
                refine XS.iloadN X0.here hx rfl (hb hby d2_54) rfl ?_
                show Steps p.tables e below (s₁.setTop (mkF m 55 #[.val (.int p1)] [(.int p1)])) _
                refine XS.bipush X0.here hx rfl (hb hby d2_55) ?_
                exact k
              by_cases hc57 : p1 = (36 : Int32)
              · have eq41 : (f2 p1) = (1 : Int32) := by unfold f2; simp only [if_pos hc3, if_pos hc17, if_neg hc31, if_pos hc37, if_neg hc45, if_neg hc51, if_pos hc57]
                obtain ⟨fs, hr, hrun, hended, hW, hsame⟩ := X0.leave (v := some (.int (1 : Int32))) (fun h => by rw [Bd.returns] at h; cases h)
                refine ⟨_, _, pre40 _ ?_, hrun, hended, _, _, rfl, ?_, ⟨_, rfl⟩, hW, hsame.mono (by decide) (by decide)⟩
                · show Steps p.tables e below (s₁.setTop (mkF m 57 #[.val (.int p1)] [(.int (36 : Int32)), (.int p1)])) _
                  refine XS.icmpYes X0.here hx rfl (pc0 := 57) (pc' := 132) rfl (hb hby d2_57) rfl (teq hc57).1 (by decide) (by decide) ?_
                  show Steps p.tables e below (s₁.setTop (mkF m 132 #[.val (.int p1)] [])) _
                  refine XS.iconst X0.here hx rfl (hb hby d2_132) ?_
                  show Steps p.tables e below (s₁.setTop (mkF m 133 #[.val (.int p1)] [(.int (1 : Int32))])) _
                  refine XS.goto X0.here hx rfl (pc0 := 133) (pc' := 137) rfl (hb hby d2_133) (by decide) (by decide) ?_
                  show Steps p.tables e below (s₁.setTop (mkF m 137 #[.val (.int p1)] [(.int (1 : Int32))])) _
                  exact retN X0 hx (t := .boolean) Bd.returns (by simp) (hb hby d2_137) hr
                · show Q2 Z p1 h0 n0 _ s₁.heap _
                  rw [e0]
                  exact ⟨by rw [eq41], N0, rfl⟩
              · have pre42 : ∀ t, Steps p.tables e below (s₁.setTop (mkF m 63 #[.val (.int p1)] [(.int (37 : Int32)), (.int p1)])) t → Steps p.tables e below (s₁.setTop (entryFrame m #[(.int p1)] 1)) t := by
                  intro t k
                  refine pre40 t ?_
                  show Steps p.tables e below (s₁.setTop (mkF m 57 #[.val (.int p1)] [(.int (36 : Int32)), (.int p1)])) _
                  refine XS.icmpNo X0.here hx rfl (hb hby d2_57) rfl (feq hc57).1 ?_
                  show Steps p.tables e below (s₁.setTop (mkF m 60 #[.val (.int p1)] [])) _
                  refine XS.iloadN X0.here hx rfl (hb hby d2_60) rfl ?_
                  show Steps p.tables e below (s₁.setTop (mkF m 61 #[.val (.int p1)] [(.int p1)])) _
                  refine XS.bipush X0.here hx rfl (hb hby d2_61) ?_
                  exact k
                by_cases hc63 : p1 = (37 : Int32)
                · have eq43 : (f2 p1) = (1 : Int32) := by unfold f2; simp only [if_pos hc3, if_pos hc17, if_neg hc31, if_pos hc37, if_neg hc45, if_neg hc51, if_neg hc57, if_pos hc63]
                  obtain ⟨fs, hr, hrun, hended, hW, hsame⟩ := X0.leave (v := some (.int (1 : Int32))) (fun h => by rw [Bd.returns] at h; cases h)
                  refine ⟨_, _, pre42 _ ?_, hrun, hended, _, _, rfl, ?_, ⟨_, rfl⟩, hW, hsame.mono (by decide) (by decide)⟩
                  · show Steps p.tables e below (s₁.setTop (mkF m 63 #[.val (.int p1)] [(.int (37 : Int32)), (.int p1)])) _
                    refine XS.icmpYes X0.here hx rfl (pc0 := 63) (pc' := 132) rfl (hb hby d2_63) rfl (teq hc63).1 (by decide) (by decide) ?_
                    show Steps p.tables e below (s₁.setTop (mkF m 132 #[.val (.int p1)] [])) _
                    refine XS.iconst X0.here hx rfl (hb hby d2_132) ?_
                    show Steps p.tables e below (s₁.setTop (mkF m 133 #[.val (.int p1)] [(.int (1 : Int32))])) _
                    refine XS.goto X0.here hx rfl (pc0 := 133) (pc' := 137) rfl (hb hby d2_133) (by decide) (by decide) ?_
                    show Steps p.tables e below (s₁.setTop (mkF m 137 #[.val (.int p1)] [(.int (1 : Int32))])) _
                    exact retN X0 hx (t := .boolean) Bd.returns (by simp) (hb hby d2_137) hr
                  · show Q2 Z p1 h0 n0 _ s₁.heap _
                    rw [e0]
                    exact ⟨by rw [eq43], N0, rfl⟩
                · have pre44 : ∀ t, Steps p.tables e below (s₁.setTop (mkF m 69 #[.val (.int p1)] [(.int (38 : Int32)), (.int p1)])) t → Steps p.tables e below (s₁.setTop (entryFrame m #[(.int p1)] 1)) t := by
                    intro t k
                    refine pre42 t ?_
                    show Steps p.tables e below (s₁.setTop (mkF m 63 #[.val (.int p1)] [(.int (37 : Int32)), (.int p1)])) _
                    refine XS.icmpNo X0.here hx rfl (hb hby d2_63) rfl (feq hc63).1 ?_
                    show Steps p.tables e below (s₁.setTop (mkF m 66 #[.val (.int p1)] [])) _
                    refine XS.iloadN X0.here hx rfl (hb hby d2_66) rfl ?_
                    show Steps p.tables e below (s₁.setTop (mkF m 67 #[.val (.int p1)] [(.int p1)])) _
                    refine XS.bipush X0.here hx rfl (hb hby d2_67) ?_
                    exact k
                  by_cases hc69 : p1 = (38 : Int32)
                  · have eq45 : (f2 p1) = (1 : Int32) := by unfold f2; simp only [if_pos hc3, if_pos hc17, if_neg hc31, if_pos hc37, if_neg hc45, if_neg hc51, if_neg hc57, if_neg hc63, if_pos hc69]
                    obtain ⟨fs, hr, hrun, hended, hW, hsame⟩ := X0.leave (v := some (.int (1 : Int32))) (fun h => by rw [Bd.returns] at h; cases h)
                    refine ⟨_, _, pre44 _ ?_, hrun, hended, _, _, rfl, ?_, ⟨_, rfl⟩, hW, hsame.mono (by decide) (by decide)⟩
                    · show Steps p.tables e below (s₁.setTop (mkF m 69 #[.val (.int p1)] [(.int (38 : Int32)), (.int p1)])) _
                      refine XS.icmpYes X0.here hx rfl (pc0 := 69) (pc' := 132) rfl (hb hby d2_69) rfl (teq hc69).1 (by decide) (by decide) ?_
                      show Steps p.tables e below (s₁.setTop (mkF m 132 #[.val (.int p1)] [])) _
                      refine XS.iconst X0.here hx rfl (hb hby d2_132) ?_
                      show Steps p.tables e below (s₁.setTop (mkF m 133 #[.val (.int p1)] [(.int (1 : Int32))])) _
                      refine XS.goto X0.here hx rfl (pc0 := 133) (pc' := 137) rfl (hb hby d2_133) (by decide) (by decide) ?_
                      show Steps p.tables e below (s₁.setTop (mkF m 137 #[.val (.int p1)] [(.int (1 : Int32))])) _
                      exact retN X0 hx (t := .boolean) Bd.returns (by simp) (hb hby d2_137) hr
                    · show Q2 Z p1 h0 n0 _ s₁.heap _
                      rw [e0]
                      exact ⟨by rw [eq45], N0, rfl⟩
                  · have pre46 : ∀ t, Steps p.tables e below (s₁.setTop (mkF m 75 #[.val (.int p1)] [(.int (39 : Int32)), (.int p1)])) t → Steps p.tables e below (s₁.setTop (entryFrame m #[(.int p1)] 1)) t := by
                      intro t k
                      refine pre44 t ?_
                      show Steps p.tables e below (s₁.setTop (mkF m 69 #[.val (.int p1)] [(.int (38 : Int32)), (.int p1)])) _
                      refine XS.icmpNo X0.here hx rfl (hb hby d2_69) rfl (feq hc69).1 ?_
                      show Steps p.tables e below (s₁.setTop (mkF m 72 #[.val (.int p1)] [])) _
                      refine XS.iloadN X0.here hx rfl (hb hby d2_72) rfl ?_
                      show Steps p.tables e below (s₁.setTop (mkF m 73 #[.val (.int p1)] [(.int p1)])) _
                      refine XS.bipush X0.here hx rfl (hb hby d2_73) ?_
                      exact k
                    by_cases hc75 : p1 = (39 : Int32)
                    · have eq47 : (f2 p1) = (1 : Int32) := by unfold f2; simp only [if_pos hc3, if_pos hc17, if_neg hc31, if_pos hc37, if_neg hc45, if_neg hc51, if_neg hc57, if_neg hc63, if_neg hc69, if_pos hc75]
                      obtain ⟨fs, hr, hrun, hended, hW, hsame⟩ := X0.leave (v := some (.int (1 : Int32))) (fun h => by rw [Bd.returns] at h; cases h)
                      refine ⟨_, _, pre46 _ ?_, hrun, hended, _, _, rfl, ?_, ⟨_, rfl⟩, hW, hsame.mono (by decide) (by decide)⟩
                      · show Steps p.tables e below (s₁.setTop (mkF m 75 #[.val (.int p1)] [(.int (39 : Int32)), (.int p1)])) _
                        refine XS.icmpYes X0.here hx rfl (pc0 := 75) (pc' := 132) rfl (hb hby d2_75) rfl (teq hc75).1 (by decide) (by decide) ?_
                        show Steps p.tables e below (s₁.setTop (mkF m 132 #[.val (.int p1)] [])) _
                        refine XS.iconst X0.here hx rfl (hb hby d2_132) ?_
                        show Steps p.tables e below (s₁.setTop (mkF m 133 #[.val (.int p1)] [(.int (1 : Int32))])) _
                        refine XS.goto X0.here hx rfl (pc0 := 133) (pc' := 137) rfl (hb hby d2_133) (by decide) (by decide) ?_
                        show Steps p.tables e below (s₁.setTop (mkF m 137 #[.val (.int p1)] [(.int (1 : Int32))])) _
                        exact retN X0 hx (t := .boolean) Bd.returns (by simp) (hb hby d2_137) hr
                      · show Q2 Z p1 h0 n0 _ s₁.heap _
                        rw [e0]
                        exact ⟨by rw [eq47], N0, rfl⟩
                    · have pre48 : ∀ t, Steps p.tables e below (s₁.setTop (mkF m 81 #[.val (.int p1)] [(.int (42 : Int32)), (.int p1)])) t → Steps p.tables e below (s₁.setTop (entryFrame m #[(.int p1)] 1)) t := by
                        intro t k
                        refine pre46 t ?_
                        show Steps p.tables e below (s₁.setTop (mkF m 75 #[.val (.int p1)] [(.int (39 : Int32)), (.int p1)])) _
                        refine XS.icmpNo X0.here hx rfl (hb hby d2_75) rfl (feq hc75).1 ?_
                        show Steps p.tables e below (s₁.setTop (mkF m 78 #[.val (.int p1)] [])) _
                        refine XS.iloadN X0.here hx rfl (hb hby d2_78) rfl ?_
                        show Steps p.tables e below (s₁.setTop (mkF m 79 #[.val (.int p1)] [(.int p1)])) _
                        refine XS.bipush X0.here hx rfl (hb hby d2_79) ?_
                        exact k
                      by_cases hc81 : p1 = (42 : Int32)
                      · have eq49 : (f2 p1) = (1 : Int32) := by unfold f2; simp only [if_pos hc3, if_pos hc17, if_neg hc31, if_pos hc37, if_neg hc45, if_neg hc51, if_neg hc57, if_neg hc63, if_neg hc69, if_neg hc75, if_pos hc81]
                        obtain ⟨fs, hr, hrun, hended, hW, hsame⟩ := X0.leave (v := some (.int (1 : Int32))) (fun h => by rw [Bd.returns] at h; cases h)
                        refine ⟨_, _, pre48 _ ?_, hrun, hended, _, _, rfl, ?_, ⟨_, rfl⟩, hW, hsame.mono (by decide) (by decide)⟩
                        · show Steps p.tables e below (s₁.setTop (mkF m 81 #[.val (.int p1)] [(.int (42 : Int32)), (.int p1)])) _
                          refine XS.icmpYes X0.here hx rfl (pc0 := 81) (pc' := 132) rfl (hb hby d2_81) rfl (teq hc81).1 (by decide) (by decide) ?_
                          show Steps p.tables e below (s₁.setTop (mkF m 132 #[.val (.int p1)] [])) _
                          refine XS.iconst X0.here hx rfl (hb hby d2_132) ?_
                          show Steps p.tables e below (s₁.setTop (mkF m 133 #[.val (.int p1)] [(.int (1 : Int32))])) _
                          refine XS.goto X0.here hx rfl (pc0 := 133) (pc' := 137) rfl (hb hby d2_133) (by decide) (by decide) ?_
                          show Steps p.tables e below (s₁.setTop (mkF m 137 #[.val (.int p1)] [(.int (1 : Int32))])) _
                          exact retN X0 hx (t := .boolean) Bd.returns (by simp) (hb hby d2_137) hr
                        · show Q2 Z p1 h0 n0 _ s₁.heap _
                          rw [e0]
                          exact ⟨by rw [eq49], N0, rfl⟩
                      · have pre50 : ∀ t, Steps p.tables e below (s₁.setTop (mkF m 87 #[.val (.int p1)] [(.int (43 : Int32)), (.int p1)])) t → Steps p.tables e below (s₁.setTop (entryFrame m #[(.int p1)] 1)) t := by
                          intro t k
                          refine pre48 t ?_
                          show Steps p.tables e below (s₁.setTop (mkF m 81 #[.val (.int p1)] [(.int (42 : Int32)), (.int p1)])) _
                          refine XS.icmpNo X0.here hx rfl (hb hby d2_81) rfl (feq hc81).1 ?_
                          show Steps p.tables e below (s₁.setTop (mkF m 84 #[.val (.int p1)] [])) _
                          refine XS.iloadN X0.here hx rfl (hb hby d2_84) rfl ?_
                          show Steps p.tables e below (s₁.setTop (mkF m 85 #[.val (.int p1)] [(.int p1)])) _
                          refine XS.bipush X0.here hx rfl (hb hby d2_85) ?_
                          exact k
                        by_cases hc87 : p1 = (43 : Int32)
                        · have eq51 : (f2 p1) = (1 : Int32) := by unfold f2; simp only [if_pos hc3, if_pos hc17, if_neg hc31, if_pos hc37, if_neg hc45, if_neg hc51, if_neg hc57, if_neg hc63, if_neg hc69, if_neg hc75, if_neg hc81, if_pos hc87]
                          obtain ⟨fs, hr, hrun, hended, hW, hsame⟩ := X0.leave (v := some (.int (1 : Int32))) (fun h => by rw [Bd.returns] at h; cases h)
                          refine ⟨_, _, pre50 _ ?_, hrun, hended, _, _, rfl, ?_, ⟨_, rfl⟩, hW, hsame.mono (by decide) (by decide)⟩
                          · show Steps p.tables e below (s₁.setTop (mkF m 87 #[.val (.int p1)] [(.int (43 : Int32)), (.int p1)])) _
                            refine XS.icmpYes X0.here hx rfl (pc0 := 87) (pc' := 132) rfl (hb hby d2_87) rfl (teq hc87).1 (by decide) (by decide) ?_
                            show Steps p.tables e below (s₁.setTop (mkF m 132 #[.val (.int p1)] [])) _
                            refine XS.iconst X0.here hx rfl (hb hby d2_132) ?_
                            show Steps p.tables e below (s₁.setTop (mkF m 133 #[.val (.int p1)] [(.int (1 : Int32))])) _
                            refine XS.goto X0.here hx rfl (pc0 := 133) (pc' := 137) rfl (hb hby d2_133) (by decide) (by decide) ?_
                            show Steps p.tables e below (s₁.setTop (mkF m 137 #[.val (.int p1)] [(.int (1 : Int32))])) _
                            exact retN X0 hx (t := .boolean) Bd.returns (by simp) (hb hby d2_137) hr
                          · show Q2 Z p1 h0 n0 _ s₁.heap _
                            rw [e0]
                            exact ⟨by rw [eq51], N0, rfl⟩
                        · have pre52 : ∀ t, Steps p.tables e below (s₁.setTop (mkF m 93 #[.val (.int p1)] [(.int (45 : Int32)), (.int p1)])) t → Steps p.tables e below (s₁.setTop (entryFrame m #[(.int p1)] 1)) t := by
                            intro t k
                            refine pre50 t ?_
                            show Steps p.tables e below (s₁.setTop (mkF m 87 #[.val (.int p1)] [(.int (43 : Int32)), (.int p1)])) _
                            refine XS.icmpNo X0.here hx rfl (hb hby d2_87) rfl (feq hc87).1 ?_
                            show Steps p.tables e below (s₁.setTop (mkF m 90 #[.val (.int p1)] [])) _
                            refine XS.iloadN X0.here hx rfl (hb hby d2_90) rfl ?_
                            show Steps p.tables e below (s₁.setTop (mkF m 91 #[.val (.int p1)] [(.int p1)])) _
                            refine XS.bipush X0.here hx rfl (hb hby d2_91) ?_
                            exact k
                          by_cases hc93 : p1 = (45 : Int32)
                          · have eq53 : (f2 p1) = (1 : Int32) := by unfold f2; simp only [if_pos hc3, if_pos hc17, if_neg hc31, if_pos hc37, if_neg hc45, if_neg hc51, if_neg hc57, if_neg hc63, if_neg hc69, if_neg hc75, if_neg hc81, if_neg hc87, if_pos hc93]
                            obtain ⟨fs, hr, hrun, hended, hW, hsame⟩ := X0.leave (v := some (.int (1 : Int32))) (fun h => by rw [Bd.returns] at h; cases h)
                            refine ⟨_, _, pre52 _ ?_, hrun, hended, _, _, rfl, ?_, ⟨_, rfl⟩, hW, hsame.mono (by decide) (by decide)⟩
                            · show Steps p.tables e below (s₁.setTop (mkF m 93 #[.val (.int p1)] [(.int (45 : Int32)), (.int p1)])) _
                              refine XS.icmpYes X0.here hx rfl (pc0 := 93) (pc' := 132) rfl (hb hby d2_93) rfl (teq hc93).1 (by decide) (by decide) ?_
                              show Steps p.tables e below (s₁.setTop (mkF m 132 #[.val (.int p1)] [])) _
                              refine XS.iconst X0.here hx rfl (hb hby d2_132) ?_
                              show Steps p.tables e below (s₁.setTop (mkF m 133 #[.val (.int p1)] [(.int (1 : Int32))])) _
                              refine XS.goto X0.here hx rfl (pc0 := 133) (pc' := 137) rfl (hb hby d2_133) (by decide) (by decide) ?_
                              show Steps p.tables e below (s₁.setTop (mkF m 137 #[.val (.int p1)] [(.int (1 : Int32))])) _
                              exact retN X0 hx (t := .boolean) Bd.returns (by simp) (hb hby d2_137) hr
                            · show Q2 Z p1 h0 n0 _ s₁.heap _
                              rw [e0]
                              exact ⟨by rw [eq53], N0, rfl⟩
                          · have pre54 : ∀ t, Steps p.tables e below (s₁.setTop (mkF m 99 #[.val (.int p1)] [(.int (46 : Int32)), (.int p1)])) t → Steps p.tables e below (s₁.setTop (entryFrame m #[(.int p1)] 1)) t := by
                              intro t k
                              refine pre52 t ?_
                              show Steps p.tables e below (s₁.setTop (mkF m 93 #[.val (.int p1)] [(.int (45 : Int32)), (.int p1)])) _
                              refine XS.icmpNo X0.here hx rfl (hb hby d2_93) rfl (feq hc93).1 ?_
                              show Steps p.tables e below (s₁.setTop (mkF m 96 #[.val (.int p1)] [])) _
                              refine XS.iloadN X0.here hx rfl (hb hby d2_96) rfl ?_
                              show Steps p.tables e below (s₁.setTop (mkF m 97 #[.val (.int p1)] [(.int p1)])) _
                              refine XS.bipush X0.here hx rfl (hb hby d2_97) ?_
                              exact k
                            by_cases hc99 : p1 = (46 : Int32)
                            · have eq55 : (f2 p1) = (1 : Int32) := by unfold f2; simp only [if_pos hc3, if_pos hc17, if_neg hc31, if_pos hc37, if_neg hc45, if_neg hc51, if_neg hc57, if_neg hc63, if_neg hc69, if_neg hc75, if_neg hc81, if_neg hc87, if_neg hc93, if_pos hc99]
                              obtain ⟨fs, hr, hrun, hended, hW, hsame⟩ := X0.leave (v := some (.int (1 : Int32))) (fun h => by rw [Bd.returns] at h; cases h)
                              refine ⟨_, _, pre54 _ ?_, hrun, hended, _, _, rfl, ?_, ⟨_, rfl⟩, hW, hsame.mono (by decide) (by decide)⟩
                              · show Steps p.tables e below (s₁.setTop (mkF m 99 #[.val (.int p1)] [(.int (46 : Int32)), (.int p1)])) _
                                refine XS.icmpYes X0.here hx rfl (pc0 := 99) (pc' := 132) rfl (hb hby d2_99) rfl (teq hc99).1 (by decide) (by decide) ?_
                                show Steps p.tables e below (s₁.setTop (mkF m 132 #[.val (.int p1)] [])) _
                                refine XS.iconst X0.here hx rfl (hb hby d2_132) ?_
                                show Steps p.tables e below (s₁.setTop (mkF m 133 #[.val (.int p1)] [(.int (1 : Int32))])) _
                                refine XS.goto X0.here hx rfl (pc0 := 133) (pc' := 137) rfl (hb hby d2_133) (by decide) (by decide) ?_
                                show Steps p.tables e below (s₁.setTop (mkF m 137 #[.val (.int p1)] [(.int (1 : Int32))])) _
                                exact retN X0 hx (t := .boolean) Bd.returns (by simp) (hb hby d2_137) hr
                              · show Q2 Z p1 h0 n0 _ s₁.heap _
                                rw [e0]
                                exact ⟨by rw [eq55], N0, rfl⟩
                            · have pre56 : ∀ t, Steps p.tables e below (s₁.setTop (mkF m 105 #[.val (.int p1)] [(.int (94 : Int32)), (.int p1)])) t → Steps p.tables e below (s₁.setTop (entryFrame m #[(.int p1)] 1)) t := by
                                intro t k
                                refine pre54 t ?_
                                show Steps p.tables e below (s₁.setTop (mkF m 99 #[.val (.int p1)] [(.int (46 : Int32)), (.int p1)])) _
                                refine XS.icmpNo X0.here hx rfl (hb hby d2_99) rfl (feq hc99).1 ?_
                                show Steps p.tables e below (s₁.setTop (mkF m 102 #[.val (.int p1)] [])) _
                                refine XS.iloadN X0.here hx rfl (hb hby d2_102) rfl ?_
                                show Steps p.tables e below (s₁.setTop (mkF m 103 #[.val (.int p1)] [(.int p1)])) _
                                refine XS.bipush X0.here hx rfl (hb hby d2_103) ?_
                                exact k
                              by_cases hc105 : p1 = (94 : Int32)
                              · have eq57 : (f2 p1) = (1 : Int32) := by unfold f2; simp only [if_pos hc3, if_pos hc17, if_neg hc31, if_pos hc37, if_neg hc45, if_neg hc51, if_neg hc57, if_neg hc63, if_neg hc69, if_neg hc75, if_neg hc81, if_neg hc87, if_neg hc93, if_neg hc99, if_pos hc105]
                                obtain ⟨fs, hr, hrun, hended, hW, hsame⟩ := X0.leave (v := some (.int (1 : Int32))) (fun h => by rw [Bd.returns] at h; cases h)
                                refine ⟨_, _, pre56 _ ?_, hrun, hended, _, _, rfl, ?_, ⟨_, rfl⟩, hW, hsame.mono (by decide) (by decide)⟩
                                · show Steps p.tables e below (s₁.setTop (mkF m 105 #[.val (.int p1)] [(.int (94 : Int32)), (.int p1)])) _
                                  refine XS.icmpYes X0.here hx rfl (pc0 := 105) (pc' := 132) rfl (hb hby d2_105) rfl (teq hc105).1 (by decide) (by decide) ?_
                                  show Steps p.tables e below (s₁.setTop (mkF m 132 #[.val (.int p1)] [])) _
                                  refine XS.iconst X0.here hx rfl (hb hby d2_132) ?_
                                  show Steps p.tables e below (s₁.setTop (mkF m 133 #[.val (.int p1)] [(.int (1 : Int32))])) _
                                  refine XS.goto X0.here hx rfl (pc0 := 133) (pc' := 137) rfl (hb hby d2_133) (by decide) (by decide) ?_
                                  show Steps p.tables e below (s₁.setTop (mkF m 137 #[.val (.int p1)] [(.int (1 : Int32))])) _
                                  exact retN X0 hx (t := .boolean) Bd.returns (by simp) (hb hby d2_137) hr
                                · show Q2 Z p1 h0 n0 _ s₁.heap _
                                  rw [e0]
                                  exact ⟨by rw [eq57], N0, rfl⟩
                              · have pre58 : ∀ t, Steps p.tables e below (s₁.setTop (mkF m 111 #[.val (.int p1)] [(.int (95 : Int32)), (.int p1)])) t → Steps p.tables e below (s₁.setTop (entryFrame m #[(.int p1)] 1)) t := by
                                  intro t k
                                  refine pre56 t ?_
                                  show Steps p.tables e below (s₁.setTop (mkF m 105 #[.val (.int p1)] [(.int (94 : Int32)), (.int p1)])) _
                                  refine XS.icmpNo X0.here hx rfl (hb hby d2_105) rfl (feq hc105).1 ?_
                                  show Steps p.tables e below (s₁.setTop (mkF m 108 #[.val (.int p1)] [])) _
                                  refine XS.iloadN X0.here hx rfl (hb hby d2_108) rfl ?_
                                  show Steps p.tables e below (s₁.setTop (mkF m 109 #[.val (.int p1)] [(.int p1)])) _
                                  refine XS.bipush X0.here hx rfl (hb hby d2_109) ?_
                                  exact k
                                by_cases hc111 : p1 = (95 : Int32)
                                · have eq59 : (f2 p1) = (1 : Int32) := by unfold f2; simp only [if_pos hc3, if_pos hc17, if_neg hc31, if_pos hc37, if_neg hc45, if_neg hc51, if_neg hc57, if_neg hc63, if_neg hc69, if_neg hc75, if_neg hc81, if_neg hc87, if_neg hc93, if_neg hc99, if_neg hc105, if_pos hc111]
                                  obtain ⟨fs, hr, hrun, hended, hW, hsame⟩ := X0.leave (v := some (.int (1 : Int32))) (fun h => by rw [Bd.returns] at h; cases h)
                                  refine ⟨_, _, pre58 _ ?_, hrun, hended, _, _, rfl, ?_, ⟨_, rfl⟩, hW, hsame.mono (by decide) (by decide)⟩
                                  · show Steps p.tables e below (s₁.setTop (mkF m 111 #[.val (.int p1)] [(.int (95 : Int32)), (.int p1)])) _
                                    refine XS.icmpYes X0.here hx rfl (pc0 := 111) (pc' := 132) rfl (hb hby d2_111) rfl (teq hc111).1 (by decide) (by decide) ?_
                                    show Steps p.tables e below (s₁.setTop (mkF m 132 #[.val (.int p1)] [])) _
                                    refine XS.iconst X0.here hx rfl (hb hby d2_132) ?_
                                    show Steps p.tables e below (s₁.setTop (mkF m 133 #[.val (.int p1)] [(.int (1 : Int32))])) _
                                    refine XS.goto X0.here hx rfl (pc0 := 133) (pc' := 137) rfl (hb hby d2_133) (by decide) (by decide) ?_
                                    show Steps p.tables e below (s₁.setTop (mkF m 137 #[.val (.int p1)] [(.int (1 : Int32))])) _
                                    exact retN X0 hx (t := .boolean) Bd.returns (by simp) (hb hby d2_137) hr
                                  · show Q2 Z p1 h0 n0 _ s₁.heap _
                                    rw [e0]
                                    exact ⟨by rw [eq59], N0, rfl⟩
                                · have pre60 : ∀ t, Steps p.tables e below (s₁.setTop (mkF m 117 #[.val (.int p1)] [(.int (96 : Int32)), (.int p1)])) t → Steps p.tables e below (s₁.setTop (entryFrame m #[(.int p1)] 1)) t := by
                                    intro t k
                                    refine pre58 t ?_
                                    show Steps p.tables e below (s₁.setTop (mkF m 111 #[.val (.int p1)] [(.int (95 : Int32)), (.int p1)])) _
                                    refine XS.icmpNo X0.here hx rfl (hb hby d2_111) rfl (feq hc111).1 ?_
                                    show Steps p.tables e below (s₁.setTop (mkF m 114 #[.val (.int p1)] [])) _
                                    refine XS.iloadN X0.here hx rfl (hb hby d2_114) rfl ?_
                                    show Steps p.tables e below (s₁.setTop (mkF m 115 #[.val (.int p1)] [(.int p1)])) _
                                    refine XS.bipush X0.here hx rfl (hb hby d2_115) ?_
                                    exact k
                                  by_cases hc117 : p1 = (96 : Int32)
                                  · have eq61 : (f2 p1) = (1 : Int32) := by unfold f2; simp only [if_pos hc3, if_pos hc17, if_neg hc31, if_pos hc37, if_neg hc45, if_neg hc51, if_neg hc57, if_neg hc63, if_neg hc69, if_neg hc75, if_neg hc81, if_neg hc87, if_neg hc93, if_neg hc99, if_neg hc105, if_neg hc111, if_pos hc117]
                                    obtain ⟨fs, hr, hrun, hended, hW, hsame⟩ := X0.leave (v := some (.int (1 : Int32))) (fun h => by rw [Bd.returns] at h; cases h)
                                    refine ⟨_, _, pre60 _ ?_, hrun, hended, _, _, rfl, ?_, ⟨_, rfl⟩, hW, hsame.mono (by decide) (by decide)⟩
                                    · show Steps p.tables e below (s₁.setTop (mkF m 117 #[.val (.int p1)] [(.int (96 : Int32)), (.int p1)])) _
                                      refine XS.icmpYes X0.here hx rfl (pc0 := 117) (pc' := 132) rfl (hb hby d2_117) rfl (teq hc117).1 (by decide) (by decide) ?_
                                      show Steps p.tables e below (s₁.setTop (mkF m 132 #[.val (.int p1)] [])) _
                                      refine XS.iconst X0.here hx rfl (hb hby d2_132) ?_
                                      show Steps p.tables e below (s₁.setTop (mkF m 133 #[.val (.int p1)] [(.int (1 : Int32))])) _
                                      refine XS.goto X0.here hx rfl (pc0 := 133) (pc' := 137) rfl (hb hby d2_133) (by decide) (by decide) ?_
                                      show Steps p.tables e below (s₁.setTop (mkF m 137 #[.val (.int p1)] [(.int (1 : Int32))])) _
                                      exact retN X0 hx (t := .boolean) Bd.returns (by simp) (hb hby d2_137) hr
                                    · show Q2 Z p1 h0 n0 _ s₁.heap _
                                      rw [e0]
                                      exact ⟨by rw [eq61], N0, rfl⟩
                                  · have pre62 : ∀ t, Steps p.tables e below (s₁.setTop (mkF m 123 #[.val (.int p1)] [(.int (124 : Int32)), (.int p1)])) t → Steps p.tables e below (s₁.setTop (entryFrame m #[(.int p1)] 1)) t := by
                                      intro t k
                                      refine pre60 t ?_
                                      show Steps p.tables e below (s₁.setTop (mkF m 117 #[.val (.int p1)] [(.int (96 : Int32)), (.int p1)])) _
                                      refine XS.icmpNo X0.here hx rfl (hb hby d2_117) rfl (feq hc117).1 ?_
                                      show Steps p.tables e below (s₁.setTop (mkF m 120 #[.val (.int p1)] [])) _
                                      refine XS.iloadN X0.here hx rfl (hb hby d2_120) rfl ?_
                                      show Steps p.tables e below (s₁.setTop (mkF m 121 #[.val (.int p1)] [(.int p1)])) _
                                      refine XS.bipush X0.here hx rfl (hb hby d2_121) ?_
                                      exact k
                                    by_cases hc123 : p1 = (124 : Int32)
                                    · have eq63 : (f2 p1) = (1 : Int32) := by unfold f2; simp only [if_pos hc3, if_pos hc17, if_neg hc31, if_pos hc37, if_neg hc45, if_neg hc51, if_neg hc57, if_neg hc63, if_neg hc69, if_neg hc75, if_neg hc81, if_neg hc87, if_neg hc93, if_neg hc99, if_neg hc105, if_neg hc111, if_neg hc117, if_pos hc123]
                                      obtain ⟨fs, hr, hrun, hended, hW, hsame⟩ := X0.leave (v := some (.int (1 : Int32))) (fun h => by rw [Bd.returns] at h; cases h)
                                      refine ⟨_, _, pre62 _ ?_, hrun, hended, _, _, rfl, ?_, ⟨_, rfl⟩, hW, hsame.mono (by decide) (by decide)⟩
                                      · show Steps p.tables e below (s₁.setTop (mkF m 123 #[.val (.int p1)] [(.int (124 : Int32)), (.int p1)])) _
                                        refine XS.icmpYes X0.here hx rfl (pc0 := 123) (pc' := 132) rfl (hb hby d2_123) rfl (teq hc123).1 (by decide) (by decide) ?_
                                        show Steps p.tables e below (s₁.setTop (mkF m 132 #[.val (.int p1)] [])) _
                                        refine XS.iconst X0.here hx rfl (hb hby d2_132) ?_
                                        show Steps p.tables e below (s₁.setTop (mkF m 133 #[.val (.int p1)] [(.int (1 : Int32))])) _
                                        refine XS.goto X0.here hx rfl (pc0 := 133) (pc' := 137) rfl (hb hby d2_133) (by decide) (by decide) ?_
                                        show Steps p.tables e below (s₁.setTop (mkF m 137 #[.val (.int p1)] [(.int (1 : Int32))])) _
                                        exact retN X0 hx (t := .boolean) Bd.returns (by simp) (hb hby d2_137) hr
                                      · show Q2 Z p1 h0 n0 _ s₁.heap _
                                        rw [e0]
                                        exact ⟨by rw [eq63], N0, rfl⟩
                                    · have pre64 : ∀ t, Steps p.tables e below (s₁.setTop (mkF m 129 #[.val (.int p1)] [(.int (126 : Int32)), (.int p1)])) t → Steps p.tables e below (s₁.setTop (entryFrame m #[(.int p1)] 1)) t := by
                                        intro t k
                                        refine pre62 t ?_
                                        show Steps p.tables e below (s₁.setTop (mkF m 123 #[.val (.int p1)] [(.int (124 : Int32)), (.int p1)])) _
                                        refine XS.icmpNo X0.here hx rfl (hb hby d2_123) rfl (feq hc123).1 ?_
                                        show Steps p.tables e below (s₁.setTop (mkF m 126 #[.val (.int p1)] [])) _
                                        refine XS.iloadN X0.here hx rfl (hb hby d2_126) rfl ?_
                                        show Steps p.tables e below (s₁.setTop (mkF m 127 #[.val (.int p1)] [(.int p1)])) _
                                        refine XS.bipush X0.here hx rfl (hb hby d2_127) ?_
                                        exact k
                                      by_cases hc129 : p1 = (126 : Int32)
                                      · have eq65 : (f2 p1) = (1 : Int32) := by unfold f2; simp only [if_pos hc3, if_pos hc17, if_neg hc31, if_pos hc37, if_neg hc45, if_neg hc51, if_neg hc57, if_neg hc63, if_neg hc69, if_neg hc75, if_neg hc81, if_neg hc87, if_neg hc93, if_neg hc99, if_neg hc105, if_neg hc111, if_neg hc117, if_neg hc123, if_pos hc129]
                                        obtain ⟨fs, hr, hrun, hended, hW, hsame⟩ := X0.leave (v := some (.int (1 : Int32))) (fun h => by rw [Bd.returns] at h; cases h)
                                        refine ⟨_, _, pre64 _ ?_, hrun, hended, _, _, rfl, ?_, ⟨_, rfl⟩, hW, hsame.mono (by decide) (by decide)⟩
                                        · show Steps p.tables e below (s₁.setTop (mkF m 129 #[.val (.int p1)] [(.int (126 : Int32)), (.int p1)])) _
                                          refine XS.icmpNo X0.here hx rfl (hb hby d2_129) rfl (teq hc129).2 ?_
                                          show Steps p.tables e below (s₁.setTop (mkF m 132 #[.val (.int p1)] [])) _
                                          refine XS.iconst X0.here hx rfl (hb hby d2_132) ?_
                                          show Steps p.tables e below (s₁.setTop (mkF m 133 #[.val (.int p1)] [(.int (1 : Int32))])) _
                                          refine XS.goto X0.here hx rfl (pc0 := 133) (pc' := 137) rfl (hb hby d2_133) (by decide) (by decide) ?_
                                          show Steps p.tables e below (s₁.setTop (mkF m 137 #[.val (.int p1)] [(.int (1 : Int32))])) _
                                          exact retN X0 hx (t := .boolean) Bd.returns (by simp) (hb hby d2_137) hr
                                        · show Q2 Z p1 h0 n0 _ s₁.heap _
                                          rw [e0]
                                          exact ⟨by rw [eq65], N0, rfl⟩
                                      · have eq66 : (f2 p1) = (0 : Int32) := by unfold f2; simp only [if_pos hc3, if_pos hc17, if_neg hc31, if_pos hc37, if_neg hc45, if_neg hc51, if_neg hc57, if_neg hc63, if_neg hc69, if_neg hc75, if_neg hc81, if_neg hc87, if_neg hc93, if_neg hc99, if_neg hc105, if_neg hc111, if_neg hc117, if_neg hc123, if_neg hc129]
                                        obtain ⟨fs, hr, hrun, hended, hW, hsame⟩ := X0.leave (v := some (.int (0 : Int32))) (fun h => by rw [Bd.returns] at h; cases h)
                                        refine ⟨_, _, pre64 _ ?_, hrun, hended, _, _, rfl, ?_, ⟨_, rfl⟩, hW, hsame.mono (by decide) (by decide)⟩
                                        · show Steps p.tables e below (s₁.setTop (mkF m 129 #[.val (.int p1)] [(.int (126 : Int32)), (.int p1)])) _
                                          refine XS.icmpYes X0.here hx rfl (pc0 := 129) (pc' := 136) rfl (hb hby d2_129) rfl (feq hc129).2 (by decide) (by decide) ?_
                                          show Steps p.tables e below (s₁.setTop (mkF m 136 #[.val (.int p1)] [])) _
                                          refine XS.iconst X0.here hx rfl (hb hby d2_136) ?_
                                          show Steps p.tables e below (s₁.setTop (mkF m 137 #[.val (.int p1)] [(.int (0 : Int32))])) _
                                          exact retN X0 hx (t := .boolean) Bd.returns (by simp) (hb hby d2_137) hr
                                        · show Q2 Z p1 h0 n0 _ s₁.heap _
                                          rw [e0]
                                          exact ⟨by rw [eq66], N0, rfl⟩
        · have eq67 : (f2 p1) = (1 : Int32) := by unfold f2; simp only [if_pos hc3, if_pos hc17, if_neg hc31, if_neg hc37]
          obtain ⟨fs, hr, hrun, hended, hW, hsame⟩ := X0.leave (v := some (.int (1 : Int32))) (fun h => by rw [Bd.returns] at h; cases h)
          refine ⟨_, _, pre35 _ ?_, hrun, hended, _, _, rfl, ?_, ⟨_, rfl⟩, hW, hsame.mono (by decide) (by decide)⟩
          · show Steps p.tables e below (s₁.setTop (mkF m 37 #[.val (.int p1)] [(.int (122 : Int32)), (.int p1)])) _
            refine XS.icmpNo X0.here hx rfl (hb hby d2_37) rfl (flt hc37).2.2.1 ?_
            show Steps p.tables e below (s₁.setTop (mkF m 40 #[.val (.int p1)] [])) _
            refine XS.iconst X0.here hx rfl (hb hby d2_40) ?_
            show Steps p.tables e below (s₁.setTop (mkF m 41 #[.val (.int p1)] [(.int (1 : Int32))])) _
            exact retN X0 hx (t := .boolean) Bd.returns (by simp) (hb hby d2_41) hr
          · show Q2 Z p1 h0 n0 _ s₁.heap _
            rw [e0]
            exact ⟨by rw [eq67], N0, rfl⟩
    · have pre68 : ∀ t, Steps p.tables e below (s₁.setTop (mkF m 23 #[.val (.int p1)] [(.int (90 : Int32)), (.int p1)])) t → Steps p.tables e below (s₁.setTop (entryFrame m #[(.int p1)] 1)) t := by
        intro t k
        refine pre2 t ?_
        show Steps p.tables e below (s₁.setTop (mkF m 17 #[.val (.int p1)] [(.int (65 : Int32)), (.int p1)])) _
        refine XS.icmpNo X0.here hx rfl (hb hby d2_17) rfl (flt hc17).1 ?_
        show Steps p.tables e below (s₁.setTop (mkF m 20 #[.val (.int p1)] [])) _
        refine XS.iloadN X0.here hx rfl (hb hby d2_20) rfl ?_
        show Steps p.tables e below (s₁.setTop (mkF m 21 #[.val (.int p1)] [(.int p1)])) _
        refine XS.bipush X0.here hx rfl (hb hby d2_21) ?_
        exact k
      by_cases hc23 : (90 : Int32) < p1
      · have pre69 : ∀ t, Steps p.tables e below (s₁.setTop (mkF m 31 #[.val (.int p1)] [(.int (97 : Int32)), (.int p1)])) t → Steps p.tables e below (s₁.setTop (entryFrame m #[(.int p1)] 1)) t := by
          intro t k
          refine pre68 t ?_
          show Steps p.tables e below (s₁.setTop (mkF m 23 #[.val (.int p1)] [(.int (90 : Int32)), (.int p1)])) _
          refine XS.icmpYes X0.here hx rfl (pc0 := 23) (pc' := 28) rfl (hb hby d2_23) rfl (tlt hc23).2.2.1 (by decide) (by decide) ?_
          show Steps p.tables e below (s₁.setTop (mkF m 28 #[.val (.int p1)] [])) _
          refine XS.iloadN X0.here hx rfl (hb hby d2_28) rfl ?_
          show Steps p.tables e below (s₁.setTop (mkF m 29 #[.val (.int p1)] [(.int p1)])) _
          refine XS.bipush X0.here hx rfl (hb hby d2_29) ?_
          exact k
        by_cases hc31 : p1 < (97 : Int32)
        · have pre70 : ∀ t, Steps p.tables e below (s₁.setTop (mkF m 45 #[.val (.int p1)] [(.int (33 : Int32)), (.int p1)])) t → Steps p.tables e below (s₁.setTop (entryFrame m #[(.int p1)] 1)) t := by
            intro t k
            refine pre69 t ?_
            show Steps p.tables e below (s₁.setTop (mkF m 31 #[.val (.int p1)] [(.int (97 : Int32)), (.int p1)])) _
            refine XS.icmpYes X0.here hx rfl (pc0 := 31) (pc' := 42) rfl (hb hby d2_31) rfl (tlt hc31).1 (by decide) (by decide) ?_
            show Steps p.tables e below (s₁.setTop (mkF m 42 #[.val (.int p1)] [])) _
            refine XS.iloadN X0.here hx rfl (hb hby d2_42) rfl ?_
            show Steps p.tables e below (s₁.setTop (mkF m 43 #[.val (.int p1)] [(.int p1)])) _
            refine XS.bipush X0.here hx rfl (hb hby d2_43) ?_
            exact k
          by_cases hc45 : p1 = (33 : Int32)
          · have eq71 : (f2 p1) = (1 : Int32) := by unfold f2; simp only [if_pos hc3, if_neg hc17, if_pos hc23, if_pos hc31, if_pos hc45]
            obtain ⟨fs, hr, hrun, hended, hW, hsame⟩ := X0.leave (v := some (.int (1 : Int32))) (fun h => by rw [Bd.returns] at h; cases h)
            refine ⟨_, _, pre70 _ ?_, hrun, hended, _, _, rfl, ?_, ⟨_, rfl⟩, hW, hsame.mono (by decide) (by decide)⟩
            · show Steps p.tables e below (s₁.setTop (mkF m 45 #[.val (.int p1)] [(.int (33 : Int32)), (.int p1)])) _
              refine XS.icmpYes X0.here hx rfl (pc0 := 45) (pc' := 132) rfl (hb hby d2_45) rfl (teq hc45).1 (by decide) (by decide) ?_
              show Steps p.tables e below (s₁.setTop (mkF m 132 #[.val (.int p1)] [])) _
              refine XS.iconst X0.here hx rfl (hb hby d2_132) ?_
              show Steps p.tables e below (s₁.setTop (mkF m 133 #[.val (.int p1)] [(.int (1 : Int32))])) _
              refine XS.goto X0.here hx rfl (pc0 := 133) (pc' := 137) rfl (hb hby d2_133) (by decide) (by decide) ?_
              show Steps p.tables e below (s₁.setTop (mkF m 137 #[.val (.int p1)] [(.int (1 : Int32))])) _
              exact retN X0 hx (t := .boolean) Bd.returns (by simp) (hb hby d2_137) hr
            · show Q2 Z p1 h0 n0 _ s₁.heap _
              rw [e0]
              exact ⟨by rw [eq71], N0, rfl⟩
          · have pre72 : ∀ t, Steps p.tables e below (s₁.setTop (mkF m 51 #[.val (.int p1)] [(.int (35 : Int32)), (.int p1)])) t → Steps p.tables e below (s₁.setTop (entryFrame m #[(.int p1)] 1)) t := by
              intro t k
              refine pre70 t ?_
              show Steps p.tables e below (s₁.setTop (mkF m 45 #[.val (.int p1)] [(.int (33 : Int32)), (.int p1)])) _
              refine XS.icmpNo X0.here hx rfl (hb hby d2_45) rfl (feq hc45).1 ?_
              show Steps p.tables e below (s₁.setTop (mkF m 48 #[.val (.int p1)] [])) _
              refine XS.iloadN X0.here hx rfl (hb hby d2_48) rfl ?_
              show Steps p.tables e below (s₁.setTop (mkF m 49 #[.val (.int p1)] [(.int p1)])) _
              refine XS.bipush X0.here hx rfl (hb hby d2_49) ?_
              exact k
            by_cases hc51 : p1 = (35 : Int32)
            · have eq73 : (f2 p1) = (1 : Int32) := by unfold f2; simp only [if_pos hc3, if_neg hc17, if_pos hc23, if_pos hc31, if_neg hc45, if_pos hc51]
              obtain ⟨fs, hr, hrun, hended, hW, hsame⟩ := X0.leave (v := some (.int (1 : Int32))) (fun h => by rw [Bd.returns] at h; cases h)
              refine ⟨_, _, pre72 _ ?_, hrun, hended, _, _, rfl, ?_, ⟨_, rfl⟩, hW, hsame.mono (by decide) (by decide)⟩
              · show Steps p.tables e below (s₁.setTop (mkF m 51 #[.val (.int p1)] [(.int (35 : Int32)), (.int p1)])) _
                refine XS.icmpYes X0.here hx rfl (pc0 := 51) (pc' := 132) rfl (hb hby d2_51) rfl (teq hc51).1 (by decide) (by decide) ?_
                show Steps p.tables e below (s₁.setTop (mkF m 132 #[.val (.int p1)] [])) _
                refine XS.iconst X0.here hx rfl (hb hby d2_132) ?_
                show Steps p.tables e below (s₁.setTop (mkF m 133 #[.val (.int p1)] [(.int (1 : Int32))])) _
                refine XS.goto X0.here hx rfl (pc0 := 133) (pc' := 137) rfl (hb hby d2_133) (by decide) (by decide) ?_
                show Steps p.tables e below (s₁.setTop (mkF m 137 #[.val (.int p1)] [(.int (1 : Int32))])) _
                exact retN X0 hx (t := .boolean) Bd.returns (by simp) (hb hby d2_137) hr
              · show Q2 Z p1 h0 n0 _ s₁.heap _
                rw [e0]
                exact ⟨by rw [eq73], N0, rfl⟩
            · have pre74 : ∀ t, Steps p.tables e below (s₁.setTop (mkF m 57 #[.val (.int p1)] [(.int (36 : Int32)), (.int p1)])) t → Steps p.tables e below (s₁.setTop (entryFrame m #[(.int p1)] 1)) t := by
                intro t k
                refine pre72 t ?_
                show Steps p.tables e below (s₁.setTop (mkF m 51 #[.val (.int p1)] [(.int (35 : Int32)), (.int p1)])) _
                refine XS.icmpNo X0.here hx rfl (hb hby d2_51) rfl (feq hc51).1 ?_
                show Steps p.tables e below (s₁.setTop (mkF m 54 #[.val (.int p1)] [])) _
                refine XS.iloadN X0.here hx rfl (hb hby d2_54) rfl ?_
                show Steps p.tables e below (s₁.setTop (mkF m 55 #[.val (.int p1)] [(.int p1)])) _
                refine XS.bipush X0.here hx rfl (hb hby d2_55) ?_
                exact k
              by_cases hc57 : p1 = (36 : Int32)
              · have eq75 : (f2 p1) = (1 : Int32) := by unfold f2; simp only [if_pos hc3, if_neg hc17, if_pos hc23, if_pos hc31, if_neg hc45, if_neg hc51, if_pos hc57]
                obtain ⟨fs, hr, hrun, hended, hW, hsame⟩ := X0.leave (v := some (.int (1 : Int32))) (fun h => by rw [Bd.returns] at h; cases h)
                refine ⟨_, _, pre74 _ ?_, hrun, hended, _, _, rfl, ?_, ⟨_, rfl⟩, hW, hsame.mono (by decide) (by decide)⟩
                · show Steps p.tables e below (s₁.setTop (mkF m 57 #[.val (.int p1)] [(.int (36 : Int32)), (.int p1)])) _
                  refine XS.icmpYes X0.here hx rfl (pc0 := 57) (pc' := 132) rfl (hb hby d2_57) rfl (teq hc57).1 (by decide) (by decide) ?_
                  show Steps p.tables e below (s₁.setTop (mkF m 132 #[.val (.int p1)] [])) _
                  refine XS.iconst X0.here hx rfl (hb hby d2_132) ?_
                  show Steps p.tables e below (s₁.setTop (mkF m 133 #[.val (.int p1)] [(.int (1 : Int32))])) _
                  refine XS.goto X0.here hx rfl (pc0 := 133) (pc' := 137) rfl (hb hby d2_133) (by decide) (by decide) ?_
                  show Steps p.tables e below (s₁.setTop (mkF m 137 #[.val (.int p1)] [(.int (1 : Int32))])) _
                  exact retN X0 hx (t := .boolean) Bd.returns (by simp) (hb hby d2_137) hr
                · show Q2 Z p1 h0 n0 _ s₁.heap _
                  rw [e0]
                  exact ⟨by rw [eq75], N0, rfl⟩
              · have pre76 : ∀ t, Steps p.tables e below (s₁.setTop (mkF m 63 #[.val (.int p1)] [(.int (37 : Int32)), (.int p1)])) t → Steps p.tables e below (s₁.setTop (entryFrame m #[(.int p1)] 1)) t := by
                  intro t k
                  refine pre74 t ?_
                  show Steps p.tables e below (s₁.setTop (mkF m 57 #[.val (.int p1)] [(.int (36 : Int32)), (.int p1)])) _
                  refine XS.icmpNo X0.here hx rfl (hb hby d2_57) rfl (feq hc57).1 ?_
                  show Steps p.tables e below (s₁.setTop (mkF m 60 #[.val (.int p1)] [])) _
                  refine XS.iloadN X0.here hx rfl (hb hby d2_60) rfl ?_
                  show Steps p.tables e below (s₁.setTop (mkF m 61 #[.val (.int p1)] [(.int p1)])) _
                  refine XS.bipush X0.here hx rfl (hb hby d2_61) ?_
                  exact k
                by_cases hc63 : p1 = (37 : Int32)
                · have eq77 : (f2 p1) = (1 : Int32) := by unfold f2; simp only [if_pos hc3, if_neg hc17, if_pos hc23, if_pos hc31, if_neg hc45, if_neg hc51, if_neg hc57, if_pos hc63]
                  obtain ⟨fs, hr, hrun, hended, hW, hsame⟩ := X0.leave (v := some (.int (1 : Int32))) (fun h => by rw [Bd.returns] at h; cases h)
                  refine ⟨_, _, pre76 _ ?_, hrun, hended, _, _, rfl, ?_, ⟨_, rfl⟩, hW, hsame.mono (by decide) (by decide)⟩
                  · show Steps p.tables e below (s₁.setTop (mkF m 63 #[.val (.int p1)] [(.int (37 : Int32)), (.int p1)])) _
                    refine XS.icmpYes X0.here hx rfl (pc0 := 63) (pc' := 132) rfl (hb hby d2_63) rfl (teq hc63).1 (by decide) (by decide) ?_
                    show Steps p.tables e below (s₁.setTop (mkF m 132 #[.val (.int p1)] [])) _
                    refine XS.iconst X0.here hx rfl (hb hby d2_132) ?_
                    show Steps p.tables e below (s₁.setTop (mkF m 133 #[.val (.int p1)] [(.int (1 : Int32))])) _
                    refine XS.goto X0.here hx rfl (pc0 := 133) (pc' := 137) rfl (hb hby d2_133) (by decide) (by decide) ?_
                    show Steps p.tables e below (s₁.setTop (mkF m 137 #[.val (.int p1)] [(.int (1 : Int32))])) _
                    exact retN X0 hx (t := .boolean) Bd.returns (by simp) (hb hby d2_137) hr
                  · show Q2 Z p1 h0 n0 _ s₁.heap _
                    rw [e0]
                    exact ⟨by rw [eq77], N0, rfl⟩
                · have pre78 : ∀ t, Steps p.tables e below (s₁.setTop (mkF m 69 #[.val (.int p1)] [(.int (38 : Int32)), (.int p1)])) t → Steps p.tables e below (s₁.setTop (entryFrame m #[(.int p1)] 1)) t := by
                    intro t k
                    refine pre76 t ?_
                    show Steps p.tables e below (s₁.setTop (mkF m 63 #[.val (.int p1)] [(.int (37 : Int32)), (.int p1)])) _
                    refine XS.icmpNo X0.here hx rfl (hb hby d2_63) rfl (feq hc63).1 ?_
                    show Steps p.tables e below (s₁.setTop (mkF m 66 #[.val (.int p1)] [])) _
                    refine XS.iloadN X0.here hx rfl (hb hby d2_66) rfl ?_
                    show Steps p.tables e below (s₁.setTop (mkF m 67 #[.val (.int p1)] [(.int p1)])) _
                    refine XS.bipush X0.here hx rfl (hb hby d2_67) ?_
                    exact k
                  by_cases hc69 : p1 = (38 : Int32)
                  · have eq79 : (f2 p1) = (1 : Int32) := by unfold f2; simp only [if_pos hc3, if_neg hc17, if_pos hc23, if_pos hc31, if_neg hc45, if_neg hc51, if_neg hc57, if_neg hc63, if_pos hc69]
                    obtain ⟨fs, hr, hrun, hended, hW, hsame⟩ := X0.leave (v := some (.int (1 : Int32))) (fun h => by rw [Bd.returns] at h; cases h)
                    refine ⟨_, _, pre78 _ ?_, hrun, hended, _, _, rfl, ?_, ⟨_, rfl⟩, hW, hsame.mono (by decide) (by decide)⟩
                    · show Steps p.tables e below (s₁.setTop (mkF m 69 #[.val (.int p1)] [(.int (38 : Int32)), (.int p1)])) _
                      refine XS.icmpYes X0.here hx rfl (pc0 := 69) (pc' := 132) rfl (hb hby d2_69) rfl (teq hc69).1 (by decide) (by decide) ?_
                      show Steps p.tables e below (s₁.setTop (mkF m 132 #[.val (.int p1)] [])) _
                      refine XS.iconst X0.here hx rfl (hb hby d2_132) ?_
                      show Steps p.tables e below (s₁.setTop (mkF m 133 #[.val (.int p1)] [(.int (1 : Int32))])) _
                      refine XS.goto X0.here hx rfl (pc0 := 133) (pc' := 137) rfl (hb hby d2_133) (by decide) (by decide) ?_
                      show Steps p.tables e below (s₁.setTop (mkF m 137 #[.val (.int p1)] [(.int (1 : Int32))])) _
                      exact retN X0 hx (t := .boolean) Bd.returns (by simp) (hb hby d2_137) hr
                    · show Q2 Z p1 h0 n0 _ s₁.heap _
                      rw [e0]
                      exact ⟨by rw [eq79], N0, rfl⟩
                  · have pre80 : ∀ t, Steps p.tables e below (s₁.setTop (mkF m 75 #[.val (.int p1)] [(.int (39 : Int32)), (.int p1)])) t → Steps p.tables e below (s₁.setTop (entryFrame m #[(.int p1)] 1)) t := by
                      intro t k
                      refine pre78 t ?_
                      show Steps p.tables e below (s₁.setTop (mkF m 69 #[.val (.int p1)] [(.int (38 : Int32)), (.int p1)])) _
                      refine XS.icmpNo X0.here hx rfl (hb hby d2_69) rfl (feq hc69).1 ?_
                      show Steps p.tables e below (s₁.setTop (mkF m 72 #[.val (.int p1)] [])) _
                      refine XS.iloadN X0.here hx rfl (hb hby d2_72) rfl ?_
                      show Steps p.tables e below (s₁.setTop (mkF m 73 #[.val (.int p1)] [(.int p1)])) _
                      refine XS.bipush X0.here hx rfl (hb hby d2_73) ?_
                      exact k
                    by_cases hc75 : p1 = (39 : Int32)
                    · have eq81 : (f2 p1) = (1 : Int32) := by unfold f2; simp only [if_pos hc3, if_neg hc17, if_pos hc23, if_pos hc31, if_neg hc45, if_neg hc51, if_neg hc57, if_neg hc63, if_neg hc69, if_pos hc75]
                      obtain ⟨fs, hr, hrun, hended, hW, hsame⟩ := X0.leave (v := some (.int (1 : Int32))) (fun h => by rw [Bd.returns] at h; cases h)
                      refine ⟨_, _, pre80 _ ?_, hrun, hended, _, _, rfl, ?_, ⟨_, rfl⟩, hW, hsame.mono (by decide) (by decide)⟩
                      · show Steps p.tables e below (s₁.setTop (mkF m 75 #[.val (.int p1)] [(.int (39 : Int32)), (.int p1)])) _
                        refine XS.icmpYes X0.here hx rfl (pc0 := 75) (pc' := 132) rfl (hb hby d2_75) rfl (teq hc75).1 (by decide) (by decide) ?_
                        show Steps p.tables e below (s₁.setTop (mkF m 132 #[.val (.int p1)] [])) _
                        refine XS.iconst X0.here hx rfl (hb hby d2_132) ?_
                        show Steps p.tables e below (s₁.setTop (mkF m 133 #[.val (.int p1)] [(.int (1 : Int32))])) _
                        refine XS.goto X0.here hx rfl (pc0 := 133) (pc' := 137) rfl (hb hby d2_133) (by decide) (by decide) ?_
                        show Steps p.tables e below (s₁.setTop (mkF m 137 #[.val (.int p1)] [(.int (1 : Int32))])) _
                        exact retN X0 hx (t := .boolean) Bd.returns (by simp) (hb hby d2_137) hr
                      · show Q2 Z p1 h0 n0 _ s₁.heap _
                        rw [e0]
                        exact ⟨by rw [eq81], N0, rfl⟩
                    · have pre82 : ∀ t, Steps p.tables e below (s₁.setTop (mkF m 81 #[.val (.int p1)] [(.int (42 : Int32)), (.int p1)])) t → Steps p.tables e below (s₁.setTop (entryFrame m #[(.int p1)] 1)) t := by
                        intro t k
                        refine pre80 t ?_
                        show Steps p.tables e below (s₁.setTop (mkF m 75 #[.val (.int p1)] [(.int (39 : Int32)), (.int p1)])) _
                        refine XS.icmpNo X0.here hx rfl (hb hby d2_75) rfl (feq hc75).1 ?_
                        show Steps p.tables e below (s₁.setTop (mkF m 78 #[.val (.int p1)] [])) _
                        refine XS.iloadN X0.here hx rfl (hb hby d2_78) rfl ?_
                        show Steps p.tables e below (s₁.setTop (mkF m 79 #[.val (.int p1)] [(.int p1)])) _
                        refine XS.bipush X0.here hx rfl (hb hby d2_79) ?_
                        exact k
                      by_cases hc81 : p1 = (42 : Int32)
                      · have eq83 : (f2 p1) = (1 : Int32) := by unfold f2; simp only [if_pos hc3, if_neg hc17, if_pos hc23, if_pos hc31, if_neg hc45, if_neg hc51, if_neg hc57, if_neg hc63, if_neg hc69, if_neg hc75, if_pos hc81]
                        obtain ⟨fs, hr, hrun, hended, hW, hsame⟩ := X0.leave (v := some (.int (1 : Int32))) (fun h => by rw [Bd.returns] at h; cases h)
                        refine ⟨_, _, pre82 _ ?_, hrun, hended, _, _, rfl, ?_, ⟨_, rfl⟩, hW, hsame.mono (by decide) (by decide)⟩
                        · show Steps p.tables e below (s₁.setTop (mkF m 81 #[.val (.int p1)] [(.int (42 : Int32)), (.int p1)])) _
                          refine XS.icmpYes X0.here hx rfl (pc0 := 81) (pc' := 132) rfl (hb hby d2_81) rfl (teq hc81).1 (by decide) (by decide) ?_
                          show Steps p.tables e below (s₁.setTop (mkF m 132 #[.val (.int p1)] [])) _
                          refine XS.iconst X0.here hx rfl (hb hby d2_132) ?_
                          show Steps p.tables e below (s₁.setTop (mkF m 133 #[.val (.int p1)] [(.int (1 : Int32))])) _
                          refine XS.goto X0.here hx rfl (pc0 := 133) (pc' := 137) rfl (hb hby d2_133) (by decide) (by decide) ?_
                          show Steps p.tables e below (s₁.setTop (mkF m 137 #[.val (.int p1)] [(.int (1 : Int32))])) _
                          exact retN X0 hx (t := .boolean) Bd.returns (by simp) (hb hby d2_137) hr
                        · show Q2 Z p1 h0 n0 _ s₁.heap _
                          rw [e0]
                          exact ⟨by rw [eq83], N0, rfl⟩
                      · have pre84 : ∀ t, Steps p.tables e below (s₁.setTop (mkF m 87 #[.val (.int p1)] [(.int (43 : Int32)), (.int p1)])) t → Steps p.tables e below (s₁.setTop (entryFrame m #[(.int p1)] 1)) t := by
                          intro t k
                          refine pre82 t ?_
                          show Steps p.tables e below (s₁.setTop (mkF m 81 #[.val (.int p1)] [(.int (42 : Int32)), (.int p1)])) _
                          refine XS.icmpNo X0.here hx rfl (hb hby d2_81) rfl (feq hc81).1 ?_
                          show Steps p.tables e below (s₁.setTop (mkF m 84 #[.val (.int p1)] [])) _
                          refine XS.iloadN X0.here hx rfl (hb hby d2_84) rfl ?_
                          show Steps p.tables e below (s₁.setTop (mkF m 85 #[.val (.int p1)] [(.int p1)])) _
                          refine XS.bipush X0.here hx rfl (hb hby d2_85) ?_
                          exact k
                        by_cases hc87 : p1 = (43 : Int32)
                        · have eq85 : (f2 p1) = (1 : Int32) := by unfold f2; simp only [if_pos hc3, if_neg hc17, if_pos hc23, if_pos hc31, if_neg hc45, if_neg hc51, if_neg hc57, if_neg hc63, if_neg hc69, if_neg hc75, if_neg hc81, if_pos hc87]
                          obtain ⟨fs, hr, hrun, hended, hW, hsame⟩ := X0.leave (v := some (.int (1 : Int32))) (fun h => by rw [Bd.returns] at h; cases h)
                          refine ⟨_, _, pre84 _ ?_, hrun, hended, _, _, rfl, ?_, ⟨_, rfl⟩, hW, hsame.mono (by decide) (by decide)⟩
                          · show Steps p.tables e below (s₁.setTop (mkF m 87 #[.val (.int p1)] [(.int (43 : Int32)), (.int p1)])) _
                            refine XS.icmpYes X0.here hx rfl (pc0 := 87) (pc' := 132) rfl (hb hby d2_87) rfl (teq hc87).1 (by decide) (by decide) ?_
                            show Steps p.tables e below (s₁.setTop (mkF m 132 #[.val (.int p1)] [])) _
                            refine XS.iconst X0.here hx rfl (hb hby d2_132) ?_
                            show Steps p.tables e below (s₁.setTop (mkF m 133 #[.val (.int p1)] [(.int (1 : Int32))])) _
                            refine XS.goto X0.here hx rfl (pc0 := 133) (pc' := 137) rfl (hb hby d2_133) (by decide) (by decide) ?_
                            show Steps p.tables e below (s₁.setTop (mkF m 137 #[.val (.int p1)] [(.int (1 : Int32))])) _
                            exact retN X0 hx (t := .boolean) Bd.returns (by simp) (hb hby d2_137) hr
                          · show Q2 Z p1 h0 n0 _ s₁.heap _
                            rw [e0]
                            exact ⟨by rw [eq85], N0, rfl⟩
                        · have pre86 : ∀ t, Steps p.tables e below (s₁.setTop (mkF m 93 #[.val (.int p1)] [(.int (45 : Int32)), (.int p1)])) t → Steps p.tables e below (s₁.setTop (entryFrame m #[(.int p1)] 1)) t := by
                            intro t k
                            refine pre84 t ?_
                            show Steps p.tables e below (s₁.setTop (mkF m 87 #[.val (.int p1)] [(.int (43 : Int32)), (.int p1)])) _
                            refine XS.icmpNo X0.here hx rfl (hb hby d2_87) rfl (feq hc87).1 ?_
                            show Steps p.tables e below (s₁.setTop (mkF m 90 #[.val (.int p1)] [])) _
                            refine XS.iloadN X0.here hx rfl (hb hby d2_90) rfl ?_
                            show Steps p.tables e below (s₁.setTop (mkF m 91 #[.val (.int p1)] [(.int p1)])) _
                            refine XS.bipush X0.here hx rfl (hb hby d2_91) ?_
                            exact k
                          by_cases hc93 : p1 = (45 : Int32)
                          · have eq87 : (f2 p1) = (1 : Int32) := by unfold f2; simp only [if_pos hc3, if_neg hc17, if_pos hc23, if_pos hc31, if_neg hc45, if_neg hc51, if_neg hc57, if_neg hc63, if_neg hc69, if_neg hc75, if_neg hc81, if_neg hc87, if_pos hc93]
                            obtain ⟨fs, hr, hrun, hended, hW, hsame⟩ := X0.leave (v := some (.int (1 : Int32))) (fun h => by rw [Bd.returns] at h; cases h)
                            refine ⟨_, _, pre86 _ ?_, hrun, hended, _, _, rfl, ?_, ⟨_, rfl⟩, hW, hsame.mono (by decide) (by decide)⟩
                            · show Steps p.tables e below (s₁.setTop (mkF m 93 #[.val (.int p1)] [(.int (45 : Int32)), (.int p1)])) _
                              refine XS.icmpYes X0.here hx rfl (pc0 := 93) (pc' := 132) rfl (hb hby d2_93) rfl (teq hc93).1 (by decide) (by decide) ?_
                              show Steps p.tables e below (s₁.setTop (mkF m 132 #[.val (.int p1)] [])) _
                              refine XS.iconst X0.here hx rfl (hb hby d2_132) ?_
                              show Steps p.tables e below (s₁.setTop (mkF m 133 #[.val (.int p1)] [(.int (1 : Int32))])) _
                              refine XS.goto X0.here hx rfl (pc0 := 133) (pc' := 137) rfl (hb hby d2_133) (by decide) (by decide) ?_
                              show Steps p.tables e below (s₁.setTop (mkF m 137 #[.val (.int p1)] [(.int (1 : Int32))])) _
                              exact retN X0 hx (t := .boolean) Bd.returns (by simp) (hb hby d2_137) hr
                            · show Q2 Z p1 h0 n0 _ s₁.heap _
                              rw [e0]
                              exact ⟨by rw [eq87], N0, rfl⟩
                          · have pre88 : ∀ t, Steps p.tables e below (s₁.setTop (mkF m 99 #[.val (.int p1)] [(.int (46 : Int32)), (.int p1)])) t → Steps p.tables e below (s₁.setTop (entryFrame m #[(.int p1)] 1)) t := by
                              intro t k
                              refine pre86 t ?_
                              show Steps p.tables e below (s₁.setTop (mkF m 93 #[.val (.int p1)] [(.int (45 : Int32)), (.int p1)])) _
                              refine XS.icmpNo X0.here hx rfl (hb hby d2_93) rfl (feq hc93).1 ?_
                              show Steps p.tables e below (s₁.setTop (mkF m 96 #[.val (.int p1)] [])) _
                              refine XS.iloadN X0.here hx rfl (hb hby d2_96) rfl ?_
                              show Steps p.tables e below (s₁.setTop (mkF m 97 #[.val (.int p1)] [(.int p1)])) _
                              refine XS.bipush X0.here hx rfl (hb hby d2_97) ?_
                              exact k
                            by_cases hc99 : p1 = (46 : Int32)
                            · have eq89 : (f2 p1) = (1 : Int32) := by unfold f2; simp only [if_pos hc3, if_neg hc17, if_pos hc23, if_pos hc31, if_neg hc45, if_neg hc51, if_neg hc57, if_neg hc63, if_neg hc69, if_neg hc75, if_neg hc81, if_neg hc87, if_neg hc93, if_pos hc99]
                              obtain ⟨fs, hr, hrun, hended, hW, hsame⟩ := X0.leave (v := some (.int (1 : Int32))) (fun h => by rw [Bd.returns] at h; cases h)
                              refine ⟨_, _, pre88 _ ?_, hrun, hended, _, _, rfl, ?_, ⟨_, rfl⟩, hW, hsame.mono (by decide) (by decide)⟩
                              · show Steps p.tables e below (s₁.setTop (mkF m 99 #[.val (.int p1)] [(.int (46 : Int32)), (.int p1)])) _
                                refine XS.icmpYes X0.here hx rfl (pc0 := 99) (pc' := 132) rfl (hb hby d2_99) rfl (teq hc99).1 (by decide) (by decide) ?_
                                show Steps p.tables e below (s₁.setTop (mkF m 132 #[.val (.int p1)] [])) _
                                refine XS.iconst X0.here hx rfl (hb hby d2_132) ?_
                                show Steps p.tables e below (s₁.setTop (mkF m 133 #[.val (.int p1)] [(.int (1 : Int32))])) _
                                refine XS.goto X0.here hx rfl (pc0 := 133) (pc' := 137) rfl (hb hby d2_133) (by decide) (by decide) ?_
                                show Steps p.tables e below (s₁.setTop (mkF m 137 #[.val (.int p1)] [(.int (1 : Int32))])) _
                                exact retN X0 hx (t := .boolean) Bd.returns (by simp) (hb hby d2_137) hr
                              · show Q2 Z p1 h0 n0 _ s₁.heap _
                                rw [e0]
                                exact ⟨by rw [eq89], N0, rfl⟩
                            · have pre90 : ∀ t, Steps p.tables e below (s₁.setTop (mkF m 105 #[.val (.int p1)] [(.int (94 : Int32)), (.int p1)])) t → Steps p.tables e below (s₁.setTop (entryFrame m #[(.int p1)] 1)) t := by
                                intro t k
                                refine pre88 t ?_
                                show Steps p.tables e below (s₁.setTop (mkF m 99 #[.val (.int p1)] [(.int (46 : Int32)), (.int p1)])) _
                                refine XS.icmpNo X0.here hx rfl (hb hby d2_99) rfl (feq hc99).1 ?_
                                show Steps p.tables e below (s₁.setTop (mkF m 102 #[.val (.int p1)] [])) _
                                refine XS.iloadN X0.here hx rfl (hb hby d2_102) rfl ?_
                                show Steps p.tables e below (s₁.setTop (mkF m 103 #[.val (.int p1)] [(.int p1)])) _
                                refine XS.bipush X0.here hx rfl (hb hby d2_103) ?_
                                exact k
                              by_cases hc105 : p1 = (94 : Int32)
                              · have eq91 : (f2 p1) = (1 : Int32) := by unfold f2; simp only [if_pos hc3, if_neg hc17, if_pos hc23, if_pos hc31, if_neg hc45, if_neg hc51, if_neg hc57, if_neg hc63, if_neg hc69, if_neg hc75, if_neg hc81, if_neg hc87, if_neg hc93, if_neg hc99, if_pos hc105]
                                obtain ⟨fs, hr, hrun, hended, hW, hsame⟩ := X0.leave (v := some (.int (1 : Int32))) (fun h => by rw [Bd.returns] at h; cases h)
                                refine ⟨_, _, pre90 _ ?_, hrun, hended, _, _, rfl, ?_, ⟨_, rfl⟩, hW, hsame.mono (by decide) (by decide)⟩
                                · show Steps p.tables e below (s₁.setTop (mkF m 105 #[.val (.int p1)] [(.int (94 : Int32)), (.int p1)])) _
                                  refine XS.icmpYes X0.here hx rfl (pc0 := 105) (pc' := 132) rfl (hb hby d2_105) rfl (teq hc105).1 (by decide) (by decide) ?_
                                  show Steps p.tables e below (s₁.setTop (mkF m 132 #[.val (.int p1)] [])) _
                                  refine XS.iconst X0.here hx rfl (hb hby d2_132) ?_
                                  show Steps p.tables e below (s₁.setTop (mkF m 133 #[.val (.int p1)] [(.int (1 : Int32))])) _
                                  refine XS.goto X0.here hx rfl (pc0 := 133) (pc' := 137) rfl (hb hby d2_133) (by decide) (by decide) ?_
                                  show Steps p.tables e below (s₁.setTop (mkF m 137 #[.val (.int p1)] [(.int (1 : Int32))])) _
                                  exact retN X0 hx (t := .boolean) Bd.returns (by simp) (hb hby d2_137) hr
                                · show Q2 Z p1 h0 n0 _ s₁.heap _
                                  rw [e0]
                                  exact ⟨by rw [eq91], N0, rfl⟩
                              · have pre92 : ∀ t, Steps p.tables e below (s₁.setTop (mkF m 111 #[.val (.int p1)] [(.int (95 : Int32)), (.int p1)])) t → Steps p.tables e below (s₁.setTop (entryFrame m #[(.int p1)] 1)) t := by
                                  intro t k
                                  refine pre90 t ?_
                                  show Steps p.tables e below (s₁.setTop (mkF m 105 #[.val (.int p1)] [(.int (94 : Int32)), (.int p1)])) _
                                  refine XS.icmpNo X0.here hx rfl (hb hby d2_105) rfl (feq hc105).1 ?_
                                  show Steps p.tables e below (s₁.setTop (mkF m 108 #[.val (.int p1)] [])) _
                                  refine XS.iloadN X0.here hx rfl (hb hby d2_108) rfl ?_
                                  show Steps p.tables e below (s₁.setTop (mkF m 109 #[.val (.int p1)] [(.int p1)])) _
                                  refine XS.bipush X0.here hx rfl (hb hby d2_109) ?_
                                  exact k
                                by_cases hc111 : p1 = (95 : Int32)
                                · have eq93 : (f2 p1) = (1 : Int32) := by unfold f2; simp only [if_pos hc3, if_neg hc17, if_pos hc23, if_pos hc31, if_neg hc45, if_neg hc51, if_neg hc57, if_neg hc63, if_neg hc69, if_neg hc75, if_neg hc81, if_neg hc87, if_neg hc93, if_neg hc99, if_neg hc105, if_pos hc111]
                                  obtain ⟨fs, hr, hrun, hended, hW, hsame⟩ := X0.leave (v := some (.int (1 : Int32))) (fun h => by rw [Bd.returns] at h; cases h)
                                  refine ⟨_, _, pre92 _ ?_, hrun, hended, _, _, rfl, ?_, ⟨_, rfl⟩, hW, hsame.mono (by decide) (by decide)⟩
                                  · show Steps p.tables e below (s₁.setTop (mkF m 111 #[.val (.int p1)] [(.int (95 : Int32)), (.int p1)])) _
                                    refine XS.icmpYes X0.here hx rfl (pc0 := 111) (pc' := 132) rfl (hb hby d2_111) rfl (teq hc111).1 (by decide) (by decide) ?_
                                    show Steps p.tables e below (s₁.setTop (mkF m 132 #[.val (.int p1)] [])) _
                                    refine XS.iconst X0.here hx rfl (hb hby d2_132) ?_
                                    show Steps p.tables e below (s₁.setTop (mkF m 133 #[.val (.int p1)] [(.int (1 : Int32))])) _
                                    refine XS.goto X0.here hx rfl (pc0 := 133) (pc' := 137) rfl (hb hby d2_133) (by decide) (by decide) ?_
                                    show Steps p.tables e below (s₁.setTop (mkF m 137 #[.val (.int p1)] [(.int (1 : Int32))])) _
                                    exact retN X0 hx (t := .boolean) Bd.returns (by simp) (hb hby d2_137) hr
                                  · show Q2 Z p1 h0 n0 _ s₁.heap _
                                    rw [e0]
                                    exact ⟨by rw [eq93], N0, rfl⟩
                                · have pre94 : ∀ t, Steps p.tables e below (s₁.setTop (mkF m 117 #[.val (.int p1)] [(.int (96 : Int32)), (.int p1)])) t → Steps p.tables e below (s₁.setTop (entryFrame m #[(.int p1)] 1)) t := by
                                    intro t k
                                    refine pre92 t ?_
                                    show Steps p.tables e below (s₁.setTop (mkF m 111 #[.val (.int p1)] [(.int (95 : Int32)), (.int p1)])) _
                                    refine XS.icmpNo X0.here hx rfl (hb hby d2_111) rfl (feq hc111).1 ?_
                                    show Steps p.tables e below (s₁.setTop (mkF m 114 #[.val (.int p1)] [])) _
                                    refine XS.iloadN X0.here hx rfl (hb hby d2_114) rfl ?_
                                    show Steps p.tables e below (s₁.setTop (mkF m 115 #[.val (.int p1)] [(.int p1)])) _
                                    refine XS.bipush X0.here hx rfl (hb hby d2_115) ?_
                                    exact k
                                  by_cases hc117 : p1 = (96 : Int32)
                                  · have eq95 : (f2 p1) = (1 : Int32) := by unfold f2; simp only [if_pos hc3, if_neg hc17, if_pos hc23, if_pos hc31, if_neg hc45, if_neg hc51, if_neg hc57, if_neg hc63, if_neg hc69, if_neg hc75, if_neg hc81, if_neg hc87, if_neg hc93, if_neg hc99, if_neg hc105, if_neg hc111, if_pos hc117]
                                    obtain ⟨fs, hr, hrun, hended, hW, hsame⟩ := X0.leave (v := some (.int (1 : Int32))) (fun h => by rw [Bd.returns] at h; cases h)
                                    refine ⟨_, _, pre94 _ ?_, hrun, hended, _, _, rfl, ?_, ⟨_, rfl⟩, hW, hsame.mono (by decide) (by decide)⟩
                                    · show Steps p.tables e below (s₁.setTop (mkF m 117 #[.val (.int p1)] [(.int (96 : Int32)), (.int p1)])) _
                                      refine XS.icmpYes X0.here hx rfl (pc0 := 117) (pc' := 132) rfl (hb hby d2_117) rfl (teq hc117).1 (by decide) (by decide) ?_
                                      show Steps p.tables e below (s₁.setTop (mkF m 132 #[.val (.int p1)] [])) _
                                      refine XS.iconst X0.here hx rfl (hb hby d2_132) ?_
                                      show Steps p.tables e below (s₁.setTop (mkF m 133 #[.val (.int p1)] [(.int (1 : Int32))])) _
                                      refine XS.goto X0.here hx rfl (pc0 := 133) (pc' := 137) rfl (hb hby d2_133) (by decide) (by decide) ?_
                                      show Steps p.tables e below (s₁.setTop (mkF m 137 #[.val (.int p1)] [(.int (1 : Int32))])) _
                                      exact retN X0 hx (t := .boolean) Bd.returns (by simp) (hb hby d2_137) hr
                                    · show Q2 Z p1 h0 n0 _ s₁.heap _
                                      rw [e0]
                                      exact ⟨by rw [eq95], N0, rfl⟩
                                  · have pre96 : ∀ t, Steps p.tables e below (s₁.setTop (mkF m 123 #[.val (.int p1)] [(.int (124 : Int32)), (.int p1)])) t → Steps p.tables e below (s₁.setTop (entryFrame m #[(.int p1)] 1)) t := by
                                      intro t k
                                      refine pre94 t ?_
                                      show Steps p.tables e below (s₁.setTop (mkF m 117 #[.val (.int p1)] [(.int (96 : Int32)), (.int p1)])) _
                                      refine XS.icmpNo X0.here hx rfl (hb hby d2_117) rfl (feq hc117).1 ?_
                                      show Steps p.tables e below (s₁.setTop (mkF m 120 #[.val (.int p1)] [])) _
                                      refine XS.iloadN X0.here hx rfl (hb hby d2_120) rfl ?_
                                      show Steps p.tables e below (s₁.setTop (mkF m 121 #[.val (.int p1)] [(.int p1)])) _
                                      refine XS.bipush X0.here hx rfl (hb hby d2_121) ?_
                                      exact k
                                    by_cases hc123 : p1 = (124 : Int32)
                                    · have eq97 : (f2 p1) = (1 : Int32) := by unfold f2; simp only [if_pos hc3, if_neg hc17, if_pos hc23, if_pos hc31, if_neg hc45, if_neg hc51, if_neg hc57, if_neg hc63, if_neg hc69, if_neg hc75, if_neg hc81, if_neg hc87, if_neg hc93, if_neg hc99, if_neg hc105, if_neg hc111, if_neg hc117, if_pos hc123]
                                      obtain ⟨fs, hr, hrun, hended, hW, hsame⟩ := X0.leave (v := some (.int (1 : Int32))) (fun h => by rw [Bd.returns] at h; cases h)
                                      refine ⟨_, _, pre96 _ ?_, hrun, hended, _, _, rfl, ?_, ⟨_, rfl⟩, hW, hsame.mono (by decide) (by decide)⟩
                                      · show Steps p.tables e below (s₁.setTop (mkF m 123 #[.val (.int p1)] [(.int (124 : Int32)), (.int p1)])) _
                                        refine XS.icmpYes X0.here hx rfl (pc0 := 123) (pc' := 132) rfl (hb hby d2_123) rfl (teq hc123).1 (by decide) (by decide) ?_
                                        show Steps p.tables e below (s₁.setTop (mkF m 132 #[.val (.int p1)] [])) _
                                        refine XS.iconst X0.here hx rfl (hb hby d2_132) ?_
                                        show Steps p.tables e below (s₁.setTop (mkF m 133 #[.val (.int p1)] [(.int (1 : Int32))])) _
                                        refine XS.goto X0.here hx rfl (pc0 := 133) (pc' := 137) rfl (hb hby d2_133) (by decide) (by decide) ?_
                                        show Steps p.tables e below (s₁.setTop (mkF m 137 #[.val (.int p1)] [(.int (1 : Int32))])) _
                                        exact retN X0 hx (t := .boolean) Bd.returns (by simp) (hb hby d2_137) hr
                                      · show Q2 Z p1 h0 n0 _ s₁.heap _
                                        rw [e0]
                                        exact ⟨by rw [eq97], N0, rfl⟩
                                    · have pre98 : ∀ t, Steps p.tables e below (s₁.setTop (mkF m 129 #[.val (.int p1)] [(.int (126 : Int32)), (.int p1)])) t → Steps p.tables e below (s₁.setTop (entryFrame m #[(.int p1)] 1)) t := by
                                        intro t k
                                        refine pre96 t ?_
                                        show Steps p.tables e below (s₁.setTop (mkF m 123 #[.val (.int p1)] [(.int (124 : Int32)), (.int p1)])) _
                                        refine XS.icmpNo X0.here hx rfl (hb hby d2_123) rfl (feq hc123).1 ?_
                                        show Steps p.tables e below (s₁.setTop (mkF m 126 #[.val (.int p1)] [])) _
                                        refine XS.iloadN X0.here hx rfl (hb hby d2_126) rfl ?_
                                        show Steps p.tables e below (s₁.setTop (mkF m 127 #[.val (.int p1)] [(.int p1)])) _
                                        refine XS.bipush X0.here hx rfl (hb hby d2_127) ?_
                                        exact k
                                      by_cases hc129 : p1 = (126 : Int32)
                                      · have eq99 : (f2 p1) = (1 : Int32) := by unfold f2; simp only [if_pos hc3, if_neg hc17, if_pos hc23, if_pos hc31, if_neg hc45, if_neg hc51, if_neg hc57, if_neg hc63, if_neg hc69, if_neg hc75, if_neg hc81, if_neg hc87, if_neg hc93, if_neg hc99, if_neg hc105, if_neg hc111, if_neg hc117, if_neg hc123, if_pos hc129]
                                        obtain ⟨fs, hr, hrun, hended, hW, hsame⟩ := X0.leave (v := some (.int (1 : Int32))) (fun h => by rw [Bd.returns] at h; cases h)
                                        refine ⟨_, _, pre98 _ ?_, hrun, hended, _, _, rfl, ?_, ⟨_, rfl⟩, hW, hsame.mono (by decide) (by decide)⟩
                                        · show Steps p.tables e below (s₁.setTop (mkF m 129 #[.val (.int p1)] [(.int (126 : Int32)), (.int p1)])) _
                                          refine XS.icmpNo X0.here hx rfl (hb hby d2_129) rfl (teq hc129).2 ?_
                                          show Steps p.tables e below (s₁.setTop (mkF m 132 #[.val (.int p1)] [])) _
                                          refine XS.iconst X0.here hx rfl (hb hby d2_132) ?_
                                          show Steps p.tables e below (s₁.setTop (mkF m 133 #[.val (.int p1)] [(.int (1 : Int32))])) _
                                          refine XS.goto X0.here hx rfl (pc0 := 133) (pc' := 137) rfl (hb hby d2_133) (by decide) (by decide) ?_
                                          show Steps p.tables e below (s₁.setTop (mkF m 137 #[.val (.int p1)] [(.int (1 : Int32))])) _
                                          exact retN X0 hx (t := .boolean) Bd.returns (by simp) (hb hby d2_137) hr
                                        · show Q2 Z p1 h0 n0 _ s₁.heap _
                                          rw [e0]
                                          exact ⟨by rw [eq99], N0, rfl⟩
                                      · have eq100 : (f2 p1) = (0 : Int32) := by unfold f2; simp only [if_pos hc3, if_neg hc17, if_pos hc23, if_pos hc31, if_neg hc45, if_neg hc51, if_neg hc57, if_neg hc63, if_neg hc69, if_neg hc75, if_neg hc81, if_neg hc87, if_neg hc93, if_neg hc99, if_neg hc105, if_neg hc111, if_neg hc117, if_neg hc123, if_neg hc129]
                                        obtain ⟨fs, hr, hrun, hended, hW, hsame⟩ := X0.leave (v := some (.int (0 : Int32))) (fun h => by rw [Bd.returns] at h; cases h)
                                        refine ⟨_, _, pre98 _ ?_, hrun, hended, _, _, rfl, ?_, ⟨_, rfl⟩, hW, hsame.mono (by decide) (by decide)⟩
                                        · show Steps p.tables e below (s₁.setTop (mkF m 129 #[.val (.int p1)] [(.int (126 : Int32)), (.int p1)])) _
                                          refine XS.icmpYes X0.here hx rfl (pc0 := 129) (pc' := 136) rfl (hb hby d2_129) rfl (feq hc129).2 (by decide) (by decide) ?_
                                          show Steps p.tables e below (s₁.setTop (mkF m 136 #[.val (.int p1)] [])) _
                                          refine XS.iconst X0.here hx rfl (hb hby d2_136) ?_
                                          show Steps p.tables e below (s₁.setTop (mkF m 137 #[.val (.int p1)] [(.int (0 : Int32))])) _
                                          exact retN X0 hx (t := .boolean) Bd.returns (by simp) (hb hby d2_137) hr
                                        · show Q2 Z p1 h0 n0 _ s₁.heap _
                                          rw [e0]
                                          exact ⟨by rw [eq100], N0, rfl⟩
        · have pre101 : ∀ t, Steps p.tables e below (s₁.setTop (mkF m 37 #[.val (.int p1)] [(.int (122 : Int32)), (.int p1)])) t → Steps p.tables e below (s₁.setTop (entryFrame m #[(.int p1)] 1)) t := by
            intro t k
            refine pre69 t ?_
            show Steps p.tables e below (s₁.setTop (mkF m 31 #[.val (.int p1)] [(.int (97 : Int32)), (.int p1)])) _
            refine XS.icmpNo X0.here hx rfl (hb hby d2_31) rfl (flt hc31).1 ?_
            show Steps p.tables e below (s₁.setTop (mkF m 34 #[.val (.int p1)] [])) _
            refine XS.iloadN X0.here hx rfl (hb hby d2_34) rfl ?_
            show Steps p.tables e below (s₁.setTop (mkF m 35 #[.val (.int p1)] [(.int p1)])) _
            refine XS.bipush X0.here hx rfl (hb hby d2_35) ?_
            exact k
          by_cases hc37 : (122 : Int32) < p1
          · have pre102 : ∀ t, Steps p.tables e below (s₁.setTop (mkF m 45 #[.val (.int p1)] [(.int (33 : Int32)), (.int p1)])) t → Steps p.tables e below (s₁.setTop (entryFrame m #[(.int p1)] 1)) t := by
              intro t k
              refine pre101 t ?_
              show Steps p.tables e below (s₁.setTop (mkF m 37 #[.val (.int p1)] [(.int (122 : Int32)), (.int p1)])) _
              refine XS.icmpYes X0.here hx rfl (pc0 := 37) (pc' := 42) rfl (hb hby d2_37) rfl (tlt hc37).2.2.1 (by decide) (by decide) ?_
              show Steps p.tables e below (s₁.setTop (mkF m 42 #[.val (.int p1)] [])) _
              refine XS.iloadN X0.here hx rfl (hb hby d2_42) rfl ?_
              show Steps p.tables e below (s₁.setTop (mkF m 43 #[.val (.int p1)] [(.int p1)])) _
              refine XS.bipush X0.here hx rfl (hb hby d2_43) ?_
              exact k
            by_cases hc45 : p1 = (33 : Int32)
            · have eq103 : (f2 p1) = (1 : Int32) := by unfold f2; simp only [if_pos hc3, if_neg hc17, if_pos hc23, if_neg hc31, if_pos hc37, if_pos hc45]
              obtain ⟨fs, hr, hrun, hended, hW, hsame⟩ := X0.leave (v := some (.int (1 : Int32))) (fun h => by rw [Bd.returns] at h; cases h)
              refine ⟨_, _, pre102 _ ?_, hrun, hended, _, _, rfl, ?_, ⟨_, rfl⟩, hW, hsame.mono (by decide) (by decide)⟩
              · show Steps p.tables e below (s₁.setTop (mkF m 45 #[.val (.int p1)] [(.int (33 : Int32)), (.int p1)])) _
                refine XS.icmpYes X0.here hx rfl (pc0 := 45) (pc' := 132) rfl (hb hby d2_45) rfl (teq hc45).1 (by decide) (by decide) ?_
                show Steps p.tables e below (s₁.setTop (mkF m 132 #[.val (.int p1)] [])) _
                refine XS.iconst X0.here hx rfl (hb hby d2_132) ?_
                show Steps p.tables e below (s₁.setTop (mkF m 133 #[.val (.int p1)] [(.int (1 : Int32))])) _
                refine XS.goto X0.here hx rfl (pc0 := 133) (pc' := 137) rfl (hb hby d2_133) (by decide) (by decide) ?_
                show Steps p.tables e below (s₁.setTop (mkF m 137 #[.val (.int p1)] [(.int (1 : Int32))])) _
                exact retN X0 hx (t := .boolean) Bd.returns (by simp) (hb hby d2_137) hr
              · show Q2 Z p1 h0 n0 _ s₁.heap _
                rw [e0]
                exact ⟨by rw [eq103], N0, rfl⟩
            · have pre104 : ∀ t, Steps p.tables e below (s₁.setTop (mkF m 51 #[.val (.int p1)] [(.int (35 : Int32)), (.int p1)])) t → Steps p.tables e below (s₁.setTop (entryFrame m #[(.int p1)] 1)) t := by
                intro t k
                refine pre102 t ?_
                show Steps p.tables e below (s₁.setTop (mkF m 45 #[.val (.int p1)] [(.int (33 : Int32)), (.int p1)])) _
                refine XS.icmpNo X0.here hx rfl (hb hby d2_45) rfl (feq hc45).1 ?_
                show Steps p.tables e below (s₁.setTop (mkF m 48 #[.val (.int p1)] [])) _
                refine XS.iloadN X0.here hx rfl (hb hby d2_48) rfl ?_
                show Steps p.tables e below (s₁.setTop (mkF m 49 #[.val (.int p1)] [(.int p1)])) _
                refine XS.bipush X0.here hx rfl (hb hby d2_49) ?_
                exact k
              by_cases hc51 : p1 = (35 : Int32)
              · have eq105 : (f2 p1) = (1 : Int32) := by unfold f2; simp only [if_pos hc3, if_neg hc17, if_pos hc23, if_neg hc31, if_pos hc37, if_neg hc45, if_pos hc51]
                obtain ⟨fs, hr, hrun, hended, hW, hsame⟩ := X0.leave (v := some (.int (1 : Int32))) (fun h => by rw [Bd.returns] at h; cases h)
                refine ⟨_, _, pre104 _ ?_, hrun, hended, _, _, rfl, ?_, ⟨_, rfl⟩, hW, hsame.mono (by decide) (by decide)⟩
                · show Steps p.tables e below (s₁.setTop (mkF m 51 #[.val (.int p1)] [(.int (35 : Int32)), (.int p1)])) _
                  refine XS.icmpYes X0.here hx rfl (pc0 := 51) (pc' := 132) rfl (hb hby d2_51) rfl (teq hc51).1 (by decide) (by decide) ?_
                  show Steps p.tables e below (s₁.setTop (mkF m 132 #[.val (.int p1)] [])) _
                  refine XS.iconst X0.here hx rfl (hb hby d2_132) ?_
                  show Steps p.tables e below (s₁.setTop (mkF m 133 #[.val (.int p1)] [(.int (1 : Int32))])) _
                  refine XS.goto X0.here hx rfl (pc0 := 133) (pc' := 137) rfl (hb hby d2_133) (by decide) (by decide) ?_
                  show Steps p.tables e below (s₁.setTop (mkF m 137 #[.val (.int p1)] [(.int (1 : Int32))])) _
                  exact retN X0 hx (t := .boolean) Bd.returns (by simp) (hb hby d2_137) hr
                · show Q2 Z p1 h0 n0 _ s₁.heap _
                  rw [e0]
                  exact ⟨by rw [eq105], N0, rfl⟩
              · have pre106 : ∀ t, Steps p.tables e below (s₁.setTop (mkF m 57 #[.val (.int p1)] [(.int (36 : Int32)), (.int p1)])) t → Steps p.tables e below (s₁.setTop (entryFrame m #[(.int p1)] 1)) t := by
                  intro t k
                  refine pre104 t ?_
                  show Steps p.tables e below (s₁.setTop (mkF m 51 #[.val (.int p1)] [(.int (35 : Int32)), (.int p1)])) _
                  refine XS.icmpNo X0.here hx rfl (hb hby d2_51) rfl (feq hc51).1 ?_
                  show Steps p.tables e below (s₁.setTop (mkF m 54 #[.val (.int p1)] [])) _
                  refine XS.iloadN X0.here hx rfl (hb hby d2_54) rfl ?_
                  show Steps p.tables e below (s₁.setTop (mkF m 55 #[.val (.int p1)] [(.int p1)])) _
                  refine XS.bipush X0.here hx rfl (hb hby d2_55) ?_
                  exact k
                by_cases hc57 : p1 = (36 : Int32)
                · have eq107 : (f2 p1) = (1 : Int32) := by unfold f2; simp only [if_pos hc3, if_neg hc17, if_pos hc23, if_neg hc31, if_pos hc37, if_neg hc45, if_neg hc51, if_pos hc57]
                  obtain ⟨fs, hr, hrun, hended, hW, hsame⟩ := X0.leave (v := some (.int (1 : Int32))) (fun h => by rw [Bd.returns] at h; cases h)
                  refine ⟨_, _, pre106 _ ?_, hrun, hended, _, _, rfl, ?_, ⟨_, rfl⟩, hW, hsame.mono (by decide) (by decide)⟩
                  · show Steps p.tables e below (s₁.setTop (mkF m 57 #[.val (.int p1)] [(.int (36 : Int32)), (.int p1)])) _
                    refine XS.icmpYes X0.here hx rfl (pc0 := 57) (pc' := 132) rfl (hb hby d2_57) rfl (teq hc57).1 (by decide) (by decide) ?_
                    show Steps p.tables e below (s₁.setTop (mkF m 132 #[.val (.int p1)] [])) _
                    refine XS.iconst X0.here hx rfl (hb hby d2_132) ?_
                    show Steps p.tables e below (s₁.setTop (mkF m 133 #[.val (.int p1)] [(.int (1 : Int32))])) _
                    refine XS.goto X0.here hx rfl (pc0 := 133) (pc' := 137) rfl (hb hby d2_133) (by decide) (by decide) ?_
                    show Steps p.tables e below (s₁.setTop (mkF m 137 #[.val (.int p1)] [(.int (1 : Int32))])) _
                    exact retN X0 hx (t := .boolean) Bd.returns (by simp) (hb hby d2_137) hr
                  · show Q2 Z p1 h0 n0 _ s₁.heap _
                    rw [e0]
                    exact ⟨by rw [eq107], N0, rfl⟩
                · have pre108 : ∀ t, Steps p.tables e below (s₁.setTop (mkF m 63 #[.val (.int p1)] [(.int (37 : Int32)), (.int p1)])) t → Steps p.tables e below (s₁.setTop (entryFrame m #[(.int p1)] 1)) t := by
                    intro t k
                    refine pre106 t ?_
                    show Steps p.tables e below (s₁.setTop (mkF m 57 #[.val (.int p1)] [(.int (36 : Int32)), (.int p1)])) _
                    refine XS.icmpNo X0.here hx rfl (hb hby d2_57) rfl (feq hc57).1 ?_
                    show Steps p.tables e below (s₁.setTop (mkF m 60 #[.val (.int p1)] [])) _
                    refine XS.iloadN X0.here hx rfl (hb hby d2_60) rfl ?_
                    show Steps p.tables e below (s₁.setTop (mkF m 61 #[.val (.int p1)] [(.int p1)])) _
                    refine XS.bipush X0.here hx rfl (hb hby d2_61) ?_
                    exact k
                  by_cases hc63 : p1 = (37 : Int32)
                  · have eq109 : (f2 p1) = (1 : Int32) := by unfold f2; simp only [if_pos hc3, if_neg hc17, if_pos hc23, if_neg hc31, if_pos hc37, if_neg hc45, if_neg hc51, if_neg hc57, if_pos hc63]
                    obtain ⟨fs, hr, hrun, hended, hW, hsame⟩ := X0.leave (v := some (.int (1 : Int32))) (fun h => by rw [Bd.returns] at h; cases h)
                    refine ⟨_, _, pre108 _ ?_, hrun, hended, _, _, rfl, ?_, ⟨_, rfl⟩, hW, hsame.mono (by decide) (by decide)⟩
                    · show Steps p.tables e below (s₁.setTop (mkF m 63 #[.val (.int p1)] [(.int (37 : Int32)), (.int p1)])) _
                      refine XS.icmpYes X0.here hx rfl (pc0 := 63) (pc' := 132) rfl (hb hby d2_63) rfl (teq hc63).1 (by decide) (by decide) ?_
                      show Steps p.tables e below (s₁.setTop (mkF m 132 #[.val (.int p1)] [])) _
                      refine XS.iconst X0.here hx rfl (hb hby d2_132) ?_
                      show Steps p.tables e below (s₁.setTop (mkF m 133 #[.val (.int p1)] [(.int (1 : Int32))])) _
                      refine XS.goto X0.here hx rfl (pc0 := 133) (pc' := 137) rfl (hb hby d2_133) (by decide) (by decide) ?_
                      show Steps p.tables e below (s₁.setTop (mkF m 137 #[.val (.int p1)] [(.int (1 : Int32))])) _
                      exact retN X0 hx (t := .boolean) Bd.returns (by simp) (hb hby d2_137) hr
                    · show Q2 Z p1 h0 n0 _ s₁.heap _
                      rw [e0]
                      exact ⟨by rw [eq109], N0, rfl⟩
                  · have pre110 : ∀ t, Steps p.tables e below (s₁.setTop (mkF m 69 #[.val (.int p1)] [(.int (38 : Int32)), (.int p1)])) t → Steps p.tables e below (s₁.setTop (entryFrame m #[(.int p1)] 1)) t := by
                      intro t k
                      refine pre108 t ?_
                      show Steps p.tables e below (s₁.setTop (mkF m 63 #[.val (.int p1)] [(.int (37 : Int32)), (.int p1)])) _
                      refine XS.icmpNo X0.here hx rfl (hb hby d2_63) rfl (feq hc63).1 ?_
                      show Steps p.tables e below (s₁.setTop (mkF m 66 #[.val (.int p1)] [])) _
                      refine XS.iloadN X0.here hx rfl (hb hby d2_66) rfl ?_
                      show Steps p.tables e below (s₁.setTop (mkF m 67 #[.val (.int p1)] [(.int p1)])) _
                      refine XS.bipush X0.here hx rfl (hb hby d2_67) ?_
                      exact k
                    by_cases hc69 : p1 = (38 : Int32)
                    · have eq111 : (f2 p1) = (1 : Int32) := by unfold f2; simp only [if_pos hc3, if_neg hc17, if_pos hc23, if_neg hc31, if_pos hc37, if_neg hc45, if_neg hc51, if_neg hc57, if_neg hc63, if_pos hc69]
                      obtain ⟨fs, hr, hrun, hended, hW, hsame⟩ := X0.leave (v := some (.int (1 : Int32))) (fun h => by rw [Bd.returns] at h; cases h)
                      refine ⟨_, _, pre110 _ ?_, hrun, hended, _, _, rfl, ?_, ⟨_, rfl⟩, hW, hsame.mono (by decide) (by decide)⟩
                      · show Steps p.tables e below (s₁.setTop (mkF m 69 #[.val (.int p1)] [(.int (38 : Int32)), (.int p1)])) _
                        refine XS.icmpYes X0.here hx rfl (pc0 := 69) (pc' := 132) rfl (hb hby d2_69) rfl (teq hc69).1 (by decide) (by decide) ?_
                        show Steps p.tables e below (s₁.setTop (mkF m 132 #[.val (.int p1)] [])) _
                        refine XS.iconst X0.here hx rfl (hb hby d2_132) ?_
                        show Steps p.tables e below (s₁.setTop (mkF m 133 #[.val (.int p1)] [(.int (1 : Int32))])) _
                        refine XS.goto X0.here hx rfl (pc0 := 133) (pc' := 137) rfl (hb hby d2_133) (by decide) (by decide) ?_
                        show Steps p.tables e below (s₁.setTop (mkF m 137 #[.val (.int p1)] [(.int (1 : Int32))])) _
                        exact retN X0 hx (t := .boolean) Bd.returns (by simp) (hb hby d2_137) hr
                      · show Q2 Z p1 h0 n0 _ s₁.heap _
                        rw [e0]
                        exact ⟨by rw [eq111], N0, rfl⟩
                    · have pre112 : ∀ t, Steps p.tables e below (s₁.setTop (mkF m 75 #[.val (.int p1)] [(.int (39 : Int32)), (.int p1)])) t → Steps p.tables e below (s₁.setTop (entryFrame m #[(.int p1)] 1)) t := by
                        intro t k
                        refine pre110 t ?_
                        show Steps p.tables e below (s₁.setTop (mkF m 69 #[.val (.int p1)] [(.int (38 : Int32)), (.int p1)])) _
                        refine XS.icmpNo X0.here hx rfl (hb hby d2_69) rfl (feq hc69).1 ?_
                        show Steps p.tables e below (s₁.setTop (mkF m 72 #[.val (.int p1)] [])) _
                        refine XS.iloadN X0.here hx rfl (hb hby d2_72) rfl ?_
                        show Steps p.tables e below (s₁.setTop (mkF m 73 #[.val (.int p1)] [(.int p1)])) _
                        refine XS.bipush X0.here hx rfl (hb hby d2_73) ?_
                        exact k
                      by_cases hc75 : p1 = (39 : Int32)
                      · have eq113 : (f2 p1) = (1 : Int32) := by unfold f2; simp only [if_pos hc3, if_neg hc17, if_pos hc23, if_neg hc31, if_pos hc37, if_neg hc45, if_neg hc51, if_neg hc57, if_neg hc63, if_neg hc69, if_pos hc75]
                        obtain ⟨fs, hr, hrun, hended, hW, hsame⟩ := X0.leave (v := some (.int (1 : Int32))) (fun h => by rw [Bd.returns] at h; cases h)
                        refine ⟨_, _, pre112 _ ?_, hrun, hended, _, _, rfl, ?_, ⟨_, rfl⟩, hW, hsame.mono (by decide) (by decide)⟩
                        · show Steps p.tables e below (s₁.setTop (mkF m 75 #[.val (.int p1)] [(.int (39 : Int32)), (.int p1)])) _
                          refine XS.icmpYes X0.here hx rfl (pc0 := 75) (pc' := 132) rfl (hb hby d2_75) rfl (teq hc75).1 (by decide) (by decide) ?_
                          show Steps p.tables e below (s₁.setTop (mkF m 132 #[.val (.int p1)] [])) _
                          refine XS.iconst X0.here hx rfl (hb hby d2_132) ?_
                          show Steps p.tables e below (s₁.setTop (mkF m 133 #[.val (.int p1)] [(.int (1 : Int32))])) _
                          refine XS.goto X0.here hx rfl (pc0 := 133) (pc' := 137) rfl (hb hby d2_133) (by decide) (by decide) ?_
                          show Steps p.tables e below (s₁.setTop (mkF m 137 #[.val (.int p1)] [(.int (1 : Int32))])) _
                          exact retN X0 hx (t := .boolean) Bd.returns (by simp) (hb hby d2_137) hr
                        · show Q2 Z p1 h0 n0 _ s₁.heap _
                          rw [e0]
                          exact ⟨by rw [eq113], N0, rfl⟩
                      · have pre114 : ∀ t, Steps p.tables e below (s₁.setTop (mkF m 81 #[.val (.int p1)] [(.int (42 : Int32)), (.int p1)])) t → Steps p.tables e below (s₁.setTop (entryFrame m #[(.int p1)] 1)) t := by
                          intro t k
                          refine pre112 t ?_
                          show Steps p.tables e below (s₁.setTop (mkF m 75 #[.val (.int p1)] [(.int (39 : Int32)), (.int p1)])) _
                          refine XS.icmpNo X0.here hx rfl (hb hby d2_75) rfl (feq hc75).1 ?_
                          show Steps p.tables e below (s₁.setTop (mkF m 78 #[.val (.int p1)] [])) _
                          refine XS.iloadN X0.here hx rfl (hb hby d2_78) rfl ?_
                          show Steps p.tables e below (s₁.setTop (mkF m 79 #[.val (.int p1)] [(.int p1)])) _
                          refine XS.bipush X0.here hx rfl (hb hby d2_79) ?_
                          exact k
                        by_cases hc81 : p1 = (42 : Int32)
                        · have eq115 : (f2 p1) = (1 : Int32) := by unfold f2; simp only [if_pos hc3, if_neg hc17, if_pos hc23, if_neg hc31, if_pos hc37, if_neg hc45, if_neg hc51, if_neg hc57, if_neg hc63, if_neg hc69, if_neg hc75, if_pos hc81]
                          obtain ⟨fs, hr, hrun, hended, hW, hsame⟩ := X0.leave (v := some (.int (1 : Int32))) (fun h => by rw [Bd.returns] at h; cases h)
                          refine ⟨_, _, pre114 _ ?_, hrun, hended, _, _, rfl, ?_, ⟨_, rfl⟩, hW, hsame.mono (by decide) (by decide)⟩
                          · show Steps p.tables e below (s₁.setTop (mkF m 81 #[.val (.int p1)] [(.int (42 : Int32)), (.int p1)])) _
                            refine XS.icmpYes X0.here hx rfl (pc0 := 81) (pc' := 132) rfl (hb hby d2_81) rfl (teq hc81).1 (by decide) (by decide) ?_
                            show Steps p.tables e below (s₁.setTop (mkF m 132 #[.val (.int p1)] [])) _
                            refine XS.iconst X0.here hx rfl (hb hby d2_132) ?_
                            show Steps p.tables e below (s₁.setTop (mkF m 133 #[.val (.int p1)] [(.int (1 : Int32))])) _
                            refine XS.goto X0.here hx rfl (pc0 := 133) (pc' := 137) rfl (hb hby d2_133) (by decide) (by decide) ?_
                            show Steps p.tables e below (s₁.setTop (mkF m 137 #[.val (.int p1)] [(.int (1 : Int32))])) _
                            exact retN X0 hx (t := .boolean) Bd.returns (by simp) (hb hby d2_137) hr
                          · show Q2 Z p1 h0 n0 _ s₁.heap _
                            rw [e0]
                            exact ⟨by rw [eq115], N0, rfl⟩
                        · have pre116 : ∀ t, Steps p.tables e below (s₁.setTop (mkF m 87 #[.val (.int p1)] [(.int (43 : Int32)), (.int p1)])) t → Steps p.tables e below (s₁.setTop (entryFrame m #[(.int p1)] 1)) t := by
                            intro t k
                            refine pre114 t ?_
                            show Steps p.tables e below (s₁.setTop (mkF m 81 #[.val (.int p1)] [(.int (42 : Int32)), (.int p1)])) _
                            refine XS.icmpNo X0.here hx rfl (hb hby d2_81) rfl (feq hc81).1 ?_
                            show Steps p.tables e below (s₁.setTop (mkF m 84 #[.val (.int p1)] [])) _
                            refine XS.iloadN X0.here hx rfl (hb hby d2_84) rfl ?_
                            show Steps p.tables e below (s₁.setTop (mkF m 85 #[.val (.int p1)] [(.int p1)])) _
                            refine XS.bipush X0.here hx rfl (hb hby d2_85) ?_
                            exact k
                          by_cases hc87 : p1 = (43 : Int32)
                          · have eq117 : (f2 p1) = (1 : Int32) := by unfold f2; simp only [if_pos hc3, if_neg hc17, if_pos hc23, if_neg hc31, if_pos hc37, if_neg hc45, if_neg hc51, if_neg hc57, if_neg hc63, if_neg hc69, if_neg hc75, if_neg hc81, if_pos hc87]
                            obtain ⟨fs, hr, hrun, hended, hW, hsame⟩ := X0.leave (v := some (.int (1 : Int32))) (fun h => by rw [Bd.returns] at h; cases h)
                            refine ⟨_, _, pre116 _ ?_, hrun, hended, _, _, rfl, ?_, ⟨_, rfl⟩, hW, hsame.mono (by decide) (by decide)⟩
                            · show Steps p.tables e below (s₁.setTop (mkF m 87 #[.val (.int p1)] [(.int (43 : Int32)), (.int p1)])) _
                              refine XS.icmpYes X0.here hx rfl (pc0 := 87) (pc' := 132) rfl (hb hby d2_87) rfl (teq hc87).1 (by decide) (by decide) ?_
                              show Steps p.tables e below (s₁.setTop (mkF m 132 #[.val (.int p1)] [])) _
                              refine XS.iconst X0.here hx rfl (hb hby d2_132) ?_
                              show Steps p.tables e below (s₁.setTop (mkF m 133 #[.val (.int p1)] [(.int (1 : Int32))])) _
                              refine XS.goto X0.here hx rfl (pc0 := 133) (pc' := 137) rfl (hb hby d2_133) (by decide) (by decide) ?_
                              show Steps p.tables e below (s₁.setTop (mkF m 137 #[.val (.int p1)] [(.int (1 : Int32))])) _
                              exact retN X0 hx (t := .boolean) Bd.returns (by simp) (hb hby d2_137) hr
                            · show Q2 Z p1 h0 n0 _ s₁.heap _
                              rw [e0]
                              exact ⟨by rw [eq117], N0, rfl⟩
                          · have pre118 : ∀ t, Steps p.tables e below (s₁.setTop (mkF m 93 #[.val (.int p1)] [(.int (45 : Int32)), (.int p1)])) t → Steps p.tables e below (s₁.setTop (entryFrame m #[(.int p1)] 1)) t := by
                              intro t k
                              refine pre116 t ?_
                              show Steps p.tables e below (s₁.setTop (mkF m 87 #[.val (.int p1)] [(.int (43 : Int32)), (.int p1)])) _
                              refine XS.icmpNo X0.here hx rfl (hb hby d2_87) rfl (feq hc87).1 ?_
                              show Steps p.tables e below (s₁.setTop (mkF m 90 #[.val (.int p1)] [])) _
                              refine XS.iloadN X0.here hx rfl (hb hby d2_90) rfl ?_
                              show Steps p.tables e below (s₁.setTop (mkF m 91 #[.val (.int p1)] [(.int p1)])) _
                              refine XS.bipush X0.here hx rfl (hb hby d2_91) ?_
                              exact k
                            by_cases hc93 : p1 = (45 : Int32)
                            · have eq119 : (f2 p1) = (1 : Int32) := by unfold f2; simp only [if_pos hc3, if_neg hc17, if_pos hc23, if_neg hc31, if_pos hc37, if_neg hc45, if_neg hc51, if_neg hc57, if_neg hc63, if_neg hc69, if_neg hc75, if_neg hc81, if_neg hc87, if_pos hc93]
                              obtain ⟨fs, hr, hrun, hended, hW, hsame⟩ := X0.leave (v := some (.int (1 : Int32))) (fun h => by rw [Bd.returns] at h; cases h)
                              refine ⟨_, _, pre118 _ ?_, hrun, hended, _, _, rfl, ?_, ⟨_, rfl⟩, hW, hsame.mono (by decide) (by decide)⟩
                              · show Steps p.tables e below (s₁.setTop (mkF m 93 #[.val (.int p1)] [(.int (45 : Int32)), (.int p1)])) _
                                refine XS.icmpYes X0.here hx rfl (pc0 := 93) (pc' := 132) rfl (hb hby d2_93) rfl (teq hc93).1 (by decide) (by decide) ?_
                                show Steps p.tables e below (s₁.setTop (mkF m 132 #[.val (.int p1)] [])) _
                                refine XS.iconst X0.here hx rfl (hb hby d2_132) ?_
                                show Steps p.tables e below (s₁.setTop (mkF m 133 #[.val (.int p1)] [(.int (1 : Int32))])) _
                                refine XS.goto X0.here hx rfl (pc0 := 133) (pc' := 137) rfl (hb hby d2_133) (by decide) (by decide) ?_
                                show Steps p.tables e below (s₁.setTop (mkF m 137 #[.val (.int p1)] [(.int (1 : Int32))])) _
                                exact retN X0 hx (t := .boolean) Bd.returns (by simp) (hb hby d2_137) hr
                              · show Q2 Z p1 h0 n0 _ s₁.heap _
                                rw [e0]
                                exact ⟨by rw [eq119], N0, rfl⟩
                            · have pre120 : ∀ t, Steps p.tables e below (s₁.setTop (mkF m 99 #[.val (.int p1)] [(.int (46 : Int32)), (.int p1)])) t → Steps p.tables e below (s₁.setTop (entryFrame m #[(.int p1)] 1)) t := by
                                intro t k
                                refine pre118 t ?_
                                show Steps p.tables e below (s₁.setTop (mkF m 93 #[.val (.int p1)] [(.int (45 : Int32)), (.int p1)])) _
                                refine XS.icmpNo X0.here hx rfl (hb hby d2_93) rfl (feq hc93).1 ?_
                                show Steps p.tables e below (s₁.setTop (mkF m 96 #[.val (.int p1)] [])) _
                                refine XS.iloadN X0.here hx rfl (hb hby d2_96) rfl ?_
                                show Steps p.tables e below (s₁.setTop (mkF m 97 #[.val (.int p1)] [(.int p1)])) _
                                refine XS.bipush X0.here hx rfl (hb hby d2_97) ?_
                                exact k
                              by_cases hc99 : p1 = (46 : Int32)
                              · have eq121 : (f2 p1) = (1 : Int32) := by unfold f2; simp only [if_pos hc3, if_neg hc17, if_pos hc23, if_neg hc31, if_pos hc37, if_neg hc45, if_neg hc51, if_neg hc57, if_neg hc63, if_neg hc69, if_neg hc75, if_neg hc81, if_neg hc87, if_neg hc93, if_pos hc99]
                                obtain ⟨fs, hr, hrun, hended, hW, hsame⟩ := X0.leave (v := some (.int (1 : Int32))) (fun h => by rw [Bd.returns] at h; cases h)
                                refine ⟨_, _, pre120 _ ?_, hrun, hended, _, _, rfl, ?_, ⟨_, rfl⟩, hW, hsame.mono (by decide) (by decide)⟩
                                · show Steps p.tables e below (s₁.setTop (mkF m 99 #[.val (.int p1)] [(.int (46 : Int32)), (.int p1)])) _
                                  refine XS.icmpYes X0.here hx rfl (pc0 := 99) (pc' := 132) rfl (hb hby d2_99) rfl (teq hc99).1 (by decide) (by decide) ?_
                                  show Steps p.tables e below (s₁.setTop (mkF m 132 #[.val (.int p1)] [])) _
                                  refine XS.iconst X0.here hx rfl (hb hby d2_132) ?_
                                  show Steps p.tables e below (s₁.setTop (mkF m 133 #[.val (.int p1)] [(.int (1 : Int32))])) _
                                  refine XS.goto X0.here hx rfl (pc0 := 133) (pc' := 137) rfl (hb hby d2_133) (by decide) (by decide) ?_
                                  show Steps p.tables e below (s₁.setTop (mkF m 137 #[.val (.int p1)] [(.int (1 : Int32))])) _
                                  exact retN X0 hx (t := .boolean) Bd.returns (by simp) (hb hby d2_137) hr
                                · show Q2 Z p1 h0 n0 _ s₁.heap _
                                  rw [e0]
                                  exact ⟨by rw [eq121], N0, rfl⟩
                              · have pre122 : ∀ t, Steps p.tables e below (s₁.setTop (mkF m 105 #[.val (.int p1)] [(.int (94 : Int32)), (.int p1)])) t → Steps p.tables e below (s₁.setTop (entryFrame m #[(.int p1)] 1)) t := by
                                  intro t k
                                  refine pre120 t ?_
                                  show Steps p.tables e below (s₁.setTop (mkF m 99 #[.val (.int p1)] [(.int (46 : Int32)), (.int p1)])) _
                                  refine XS.icmpNo X0.here hx rfl (hb hby d2_99) rfl (feq hc99).1 ?_
                                  show Steps p.tables e below (s₁.setTop (mkF m 102 #[.val (.int p1)] [])) _
                                  refine XS.iloadN X0.here hx rfl (hb hby d2_102) rfl ?_
                                  show Steps p.tables e below (s₁.setTop (mkF m 103 #[.val (.int p1)] [(.int p1)])) _
                                  refine XS.bipush X0.here hx rfl (hb hby d2_103) ?_
                                  exact k
                                by_cases hc105 : p1 = (94 : Int32)
                                · have eq123 : (f2 p1) = (1 : Int32) := by unfold f2; simp only [if_pos hc3, if_neg hc17, if_pos hc23, if_neg hc31, if_pos hc37, if_neg hc45, if_neg hc51, if_neg hc57, if_neg hc63, if_neg hc69, if_neg hc75, if_neg hc81, if_neg hc87, if_neg hc93, if_neg hc99, if_pos hc105]
                                  obtain ⟨fs, hr, hrun, hended, hW, hsame⟩ := X0.leave (v := some (.int (1 : Int32))) (fun h => by rw [Bd.returns] at h; cases h)
                                  refine ⟨_, _, pre122 _ ?_, hrun, hended, _, _, rfl, ?_, ⟨_, rfl⟩, hW, hsame.mono (by decide) (by decide)⟩
                                  · show Steps p.tables e below (s₁.setTop (mkF m 105 #[.val (.int p1)] [(.int (94 : Int32)), (.int p1)])) _
                                    refine XS.icmpYes X0.here hx rfl (pc0 := 105) (pc' := 132) rfl (hb hby d2_105) rfl (teq hc105).1 (by decide) (by decide) ?_
                                    show Steps p.tables e below (s₁.setTop (mkF m 132 #[.val (.int p1)] [])) _
                                    refine XS.iconst X0.here hx rfl (hb hby d2_132) ?_
                                    show Steps p.tables e below (s₁.setTop (mkF m 133 #[.val (.int p1)] [(.int (1 : Int32))])) _
                                    refine XS.goto X0.here hx rfl (pc0 := 133) (pc' := 137) rfl (hb hby d2_133) (by decide) (by decide) ?_
                                    show Steps p.tables e below (s₁.setTop (mkF m 137 #[.val (.int p1)] [(.int (1 : Int32))])) _
                                    exact retN X0 hx (t := .boolean) Bd.returns (by simp) (hb hby d2_137) hr
                                  · show Q2 Z p1 h0 n0 _ s₁.heap _
                                    rw [e0]
                                    exact ⟨by rw [eq123], N0, rfl⟩
                                · have pre124 : ∀ t, Steps p.tables e below (s₁.setTop (mkF m 111 #[.val (.int p1)] [(.int (95 : Int32)), (.int p1)])) t → Steps p.tables e below (s₁.setTop (entryFrame m #[(.int p1)] 1)) t := by
                                    intro t k
                                    refine pre122 t ?_
                                    show Steps p.tables e below (s₁.setTop (mkF m 105 #[.val (.int p1)] [(.int (94 : Int32)), (.int p1)])) _
                                    refine XS.icmpNo X0.here hx rfl (hb hby d2_105) rfl (feq hc105).1 ?_
                                    show Steps p.tables e below (s₁.setTop (mkF m 108 #[.val (.int p1)] [])) _
                                    refine XS.iloadN X0.here hx rfl (hb hby d2_108) rfl ?_
                                    show Steps p.tables e below (s₁.setTop (mkF m 109 #[.val (.int p1)] [(.int p1)])) _
                                    refine XS.bipush X0.here hx rfl (hb hby d2_109) ?_
                                    exact k
                                  by_cases hc111 : p1 = (95 : Int32)
                                  · have eq125 : (f2 p1) = (1 : Int32) := by unfold f2; simp only [if_pos hc3, if_neg hc17, if_pos hc23, if_neg hc31, if_pos hc37, if_neg hc45, if_neg hc51, if_neg hc57, if_neg hc63, if_neg hc69, if_neg hc75, if_neg hc81, if_neg hc87, if_neg hc93, if_neg hc99, if_neg hc105, if_pos hc111]
                                    obtain ⟨fs, hr, hrun, hended, hW, hsame⟩ := X0.leave (v := some (.int (1 : Int32))) (fun h => by rw [Bd.returns] at h; cases h)
                                    refine ⟨_, _, pre124 _ ?_, hrun, hended, _, _, rfl, ?_, ⟨_, rfl⟩, hW, hsame.mono (by decide) (by decide)⟩
                                    · show Steps p.tables e below (s₁.setTop (mkF m 111 #[.val (.int p1)] [(.int (95 : Int32)), (.int p1)])) _
                                      refine XS.icmpYes X0.here hx rfl (pc0 := 111) (pc' := 132) rfl (hb hby d2_111) rfl (teq hc111).1 (by decide) (by decide) ?_
                                      show Steps p.tables e below (s₁.setTop (mkF m 132 #[.val (.int p1)] [])) _
                                      refine XS.iconst X0.here hx rfl (hb hby d2_132) ?_
                                      show Steps p.tables e below (s₁.setTop (mkF m 133 #[.val (.int p1)] [(.int (1 : Int32))])) _
                                      refine XS.goto X0.here hx rfl (pc0 := 133) (pc' := 137) rfl (hb hby d2_133) (by decide) (by decide) ?_
                                      show Steps p.tables e below (s₁.setTop (mkF m 137 #[.val (.int p1)] [(.int (1 : Int32))])) _
                                      exact retN X0 hx (t := .boolean) Bd.returns (by simp) (hb hby d2_137) hr
                                    · show Q2 Z p1 h0 n0 _ s₁.heap _
                                      rw [e0]
                                      exact ⟨by rw [eq125], N0, rfl⟩
                                  · have pre126 : ∀ t, Steps p.tables e below (s₁.setTop (mkF m 117 #[.val (.int p1)] [(.int (96 : Int32)), (.int p1)])) t → Steps p.tables e below (s₁.setTop (entryFrame m #[(.int p1)] 1)) t := by
                                      intro t k
                                      refine pre124 t ?_
                                      show Steps p.tables e below (s₁.setTop (mkF m 111 #[.val (.int p1)] [(.int (95 : Int32)), (.int p1)])) _
                                      refine XS.icmpNo X0.here hx rfl (hb hby d2_111) rfl (feq hc111).1 ?_
                                      show Steps p.tables e below (s₁.setTop (mkF m 114 #[.val (.int p1)] [])) _
                                      refine XS.iloadN X0.here hx rfl (hb hby d2_114) rfl ?_
                                      show Steps p.tables e below (s₁.setTop (mkF m 115 #[.val (.int p1)] [(.int p1)])) _
                                      refine XS.bipush X0.here hx rfl (hb hby d2_115) ?_
                                      exact k
                                    by_cases hc117 : p1 = (96 : Int32)
                                    · have eq127 : (f2 p1) = (1 : Int32) := by unfold f2; simp only [if_pos hc3, if_neg hc17, if_pos hc23, if_neg hc31, if_pos hc37, if_neg hc45, if_neg hc51, if_neg hc57, if_neg hc63, if_neg hc69, if_neg hc75, if_neg hc81, if_neg hc87, if_neg hc93, if_neg hc99, if_neg hc105, if_neg hc111, if_pos hc117]
                                      obtain ⟨fs, hr, hrun, hended, hW, hsame⟩ := X0.leave (v := some (.int (1 : Int32))) (fun h => by rw [Bd.returns] at h; cases h)
                                      refine ⟨_, _, pre126 _ ?_, hrun, hended, _, _, rfl, ?_, ⟨_, rfl⟩, hW, hsame.mono (by decide) (by decide)⟩
                                      · show Steps p.tables e below (s₁.setTop (mkF m 117 #[.val (.int p1)] [(.int (96 : Int32)), (.int p1)])) _
                                        refine XS.icmpYes X0.here hx rfl (pc0 := 117) (pc' := 132) rfl (hb hby d2_117) rfl (teq hc117).1 (by decide) (by decide) ?_
                                        show Steps p.tables e below (s₁.setTop (mkF m 132 #[.val (.int p1)] [])) _
                                        refine XS.iconst X0.here hx rfl (hb hby d2_132) ?_
                                        show Steps p.tables e below (s₁.setTop (mkF m 133 #[.val (.int p1)] [(.int (1 : Int32))])) _
                                        refine XS.goto X0.here hx rfl (pc0 := 133) (pc' := 137) rfl (hb hby d2_133) (by decide) (by decide) ?_
                                        show Steps p.tables e below (s₁.setTop (mkF m 137 #[.val (.int p1)] [(.int (1 : Int32))])) _
                                        exact retN X0 hx (t := .boolean) Bd.returns (by simp) (hb hby d2_137) hr
                                      · show Q2 Z p1 h0 n0 _ s₁.heap _
                                        rw [e0]
                                        exact ⟨by rw [eq127], N0, rfl⟩
                                    · have pre128 : ∀ t, Steps p.tables e below (s₁.setTop (mkF m 123 #[.val (.int p1)] [(.int (124 : Int32)), (.int p1)])) t → Steps p.tables e below (s₁.setTop (entryFrame m #[(.int p1)] 1)) t := by
                                        intro t k
                                        refine pre126 t ?_
                                        show Steps p.tables e below (s₁.setTop (mkF m 117 #[.val (.int p1)] [(.int (96 : Int32)), (.int p1)])) _
                                        refine XS.icmpNo X0.here hx rfl (hb hby d2_117) rfl (feq hc117).1 ?_
                                        show Steps p.tables e below (s₁.setTop (mkF m 120 #[.val (.int p1)] [])) _
                                        refine XS.iloadN X0.here hx rfl (hb hby d2_120) rfl ?_
                                        show Steps p.tables e below (s₁.setTop (mkF m 121 #[.val (.int p1)] [(.int p1)])) _
                                        refine XS.bipush X0.here hx rfl (hb hby d2_121) ?_
                                        exact k
                                      by_cases hc123 : p1 = (124 : Int32)
                                      · have eq129 : (f2 p1) = (1 : Int32) := by unfold f2; simp only [if_pos hc3, if_neg hc17, if_pos hc23, if_neg hc31, if_pos hc37, if_neg hc45, if_neg hc51, if_neg hc57, if_neg hc63, if_neg hc69, if_neg hc75, if_neg hc81, if_neg hc87, if_neg hc93, if_neg hc99, if_neg hc105, if_neg hc111, if_neg hc117, if_pos hc123]
                                        obtain ⟨fs, hr, hrun, hended, hW, hsame⟩ := X0.leave (v := some (.int (1 : Int32))) (fun h => by rw [Bd.returns] at h; cases h)
                                        refine ⟨_, _, pre128 _ ?_, hrun, hended, _, _, rfl, ?_, ⟨_, rfl⟩, hW, hsame.mono (by decide) (by decide)⟩
                                        · show Steps p.tables e below (s₁.setTop (mkF m 123 #[.val (.int p1)] [(.int (124 : Int32)), (.int p1)])) _
                                          refine XS.icmpYes X0.here hx rfl (pc0 := 123) (pc' := 132) rfl (hb hby d2_123) rfl (teq hc123).1 (by decide) (by decide) ?_
                                          show Steps p.tables e below (s₁.setTop (mkF m 132 #[.val (.int p1)] [])) _
                                          refine XS.iconst X0.here hx rfl (hb hby d2_132) ?_
                                          show Steps p.tables e below (s₁.setTop (mkF m 133 #[.val (.int p1)] [(.int (1 : Int32))])) _
                                          refine XS.goto X0.here hx rfl (pc0 := 133) (pc' := 137) rfl (hb hby d2_133) (by decide) (by decide) ?_
                                          show Steps p.tables e below (s₁.setTop (mkF m 137 #[.val (.int p1)] [(.int (1 : Int32))])) _
                                          exact retN X0 hx (t := .boolean) Bd.returns (by simp) (hb hby d2_137) hr
                                        · show Q2 Z p1 h0 n0 _ s₁.heap _
                                          rw [e0]
                                          exact ⟨by rw [eq129], N0, rfl⟩
                                      · have pre130 : ∀ t, Steps p.tables e below (s₁.setTop (mkF m 129 #[.val (.int p1)] [(.int (126 : Int32)), (.int p1)])) t → Steps p.tables e below (s₁.setTop (entryFrame m #[(.int p1)] 1)) t := by
                                          intro t k
                                          refine pre128 t ?_
                                          show Steps p.tables e below (s₁.setTop (mkF m 123 #[.val (.int p1)] [(.int (124 : Int32)), (.int p1)])) _
                                          refine XS.icmpNo X0.here hx rfl (hb hby d2_123) rfl (feq hc123).1 ?_
                                          show Steps p.tables e below (s₁.setTop (mkF m 126 #[.val (.int p1)] [])) _
                                          refine XS.iloadN X0.here hx rfl (hb hby d2_126) rfl ?_
                                          show Steps p.tables e below (s₁.setTop (mkF m 127 #[.val (.int p1)] [(.int p1)])) _
                                          refine XS.bipush X0.here hx rfl (hb hby d2_127) ?_
                                          exact k
                                        by_cases hc129 : p1 = (126 : Int32)
                                        · have eq131 : (f2 p1) = (1 : Int32) := by unfold f2; simp only [if_pos hc3, if_neg hc17, if_pos hc23, if_neg hc31, if_pos hc37, if_neg hc45, if_neg hc51, if_neg hc57, if_neg hc63, if_neg hc69, if_neg hc75, if_neg hc81, if_neg hc87, if_neg hc93, if_neg hc99, if_neg hc105, if_neg hc111, if_neg hc117, if_neg hc123, if_pos hc129]
                                          obtain ⟨fs, hr, hrun, hended, hW, hsame⟩ := X0.leave (v := some (.int (1 : Int32))) (fun h => by rw [Bd.returns] at h; cases h)
                                          refine ⟨_, _, pre130 _ ?_, hrun, hended, _, _, rfl, ?_, ⟨_, rfl⟩, hW, hsame.mono (by decide) (by decide)⟩
                                          · show Steps p.tables e below (s₁.setTop (mkF m 129 #[.val (.int p1)] [(.int (126 : Int32)), (.int p1)])) _
                                            refine XS.icmpNo X0.here hx rfl (hb hby d2_129) rfl (teq hc129).2 ?_
                                            show Steps p.tables e below (s₁.setTop (mkF m 132 #[.val (.int p1)] [])) _
                                            refine XS.iconst X0.here hx rfl (hb hby d2_132) ?_
                                            show Steps p.tables e below (s₁.setTop (mkF m 133 #[.val (.int p1)] [(.int (1 : Int32))])) _
                                            refine XS.goto X0.here hx rfl (pc0 := 133) (pc' := 137) rfl (hb hby d2_133) (by decide) (by decide) ?_
                                            show Steps p.tables e below (s₁.setTop (mkF m 137 #[.val (.int p1)] [(.int (1 : Int32))])) _
                                            exact retN X0 hx (t := .boolean) Bd.returns (by simp) (hb hby d2_137) hr
                                          · show Q2 Z p1 h0 n0 _ s₁.heap _
                                            rw [e0]
                                            exact ⟨by rw [eq131], N0, rfl⟩
                                        · have eq132 : (f2 p1) = (0 : Int32) := by unfold f2; simp only [if_pos hc3, if_neg hc17, if_pos hc23, if_neg hc31, if_pos hc37, if_neg hc45, if_neg hc51, if_neg hc57, if_neg hc63, if_neg hc69, if_neg hc75, if_neg hc81, if_neg hc87, if_neg hc93, if_neg hc99, if_neg hc105, if_neg hc111, if_neg hc117, if_neg hc123, if_neg hc129]
                                          obtain ⟨fs, hr, hrun, hended, hW, hsame⟩ := X0.leave (v := some (.int (0 : Int32))) (fun h => by rw [Bd.returns] at h; cases h)
                                          refine ⟨_, _, pre130 _ ?_, hrun, hended, _, _, rfl, ?_, ⟨_, rfl⟩, hW, hsame.mono (by decide) (by decide)⟩
                                          · show Steps p.tables e below (s₁.setTop (mkF m 129 #[.val (.int p1)] [(.int (126 : Int32)), (.int p1)])) _
                                            refine XS.icmpYes X0.here hx rfl (pc0 := 129) (pc' := 136) rfl (hb hby d2_129) rfl (feq hc129).2 (by decide) (by decide) ?_
                                            show Steps p.tables e below (s₁.setTop (mkF m 136 #[.val (.int p1)] [])) _
                                            refine XS.iconst X0.here hx rfl (hb hby d2_136) ?_
                                            show Steps p.tables e below (s₁.setTop (mkF m 137 #[.val (.int p1)] [(.int (0 : Int32))])) _
                                            exact retN X0 hx (t := .boolean) Bd.returns (by simp) (hb hby d2_137) hr
                                          · show Q2 Z p1 h0 n0 _ s₁.heap _
                                            rw [e0]
                                            exact ⟨by rw [eq132], N0, rfl⟩
          · have eq133 : (f2 p1) = (1 : Int32) := by unfold f2; simp only [if_pos hc3, if_neg hc17, if_pos hc23, if_neg hc31, if_neg hc37]
            obtain ⟨fs, hr, hrun, hended, hW, hsame⟩ := X0.leave (v := some (.int (1 : Int32))) (fun h => by rw [Bd.returns] at h; cases h)
            refine ⟨_, _, pre101 _ ?_, hrun, hended, _, _, rfl, ?_, ⟨_, rfl⟩, hW, hsame.mono (by decide) (by decide)⟩
            · show Steps p.tables e below (s₁.setTop (mkF m 37 #[.val (.int p1)] [(.int (122 : Int32)), (.int p1)])) _
              refine XS.icmpNo X0.here hx rfl (hb hby d2_37) rfl (flt hc37).2.2.1 ?_
              show Steps p.tables e below (s₁.setTop (mkF m 40 #[.val (.int p1)] [])) _
              refine XS.iconst X0.here hx rfl (hb hby d2_40) ?_
              show Steps p.tables e below (s₁.setTop (mkF m 41 #[.val (.int p1)] [(.int (1 : Int32))])) _
              exact retN X0 hx (t := .boolean) Bd.returns (by simp) (hb hby d2_41) hr
            · show Q2 Z p1 h0 n0 _ s₁.heap _
              rw [e0]
              exact ⟨by rw [eq133], N0, rfl⟩
      · have eq134 : (f2 p1) = (1 : Int32) := by unfold f2; simp only [if_pos hc3, if_neg hc17, if_neg hc23]
        obtain ⟨fs, hr, hrun, hended, hW, hsame⟩ := X0.leave (v := some (.int (1 : Int32))) (fun h => by rw [Bd.returns] at h; cases h)
        refine ⟨_, _, pre68 _ ?_, hrun, hended, _, _, rfl, ?_, ⟨_, rfl⟩, hW, hsame.mono (by decide) (by decide)⟩
        · show Steps p.tables e below (s₁.setTop (mkF m 23 #[.val (.int p1)] [(.int (90 : Int32)), (.int p1)])) _
          refine XS.icmpNo X0.here hx rfl (hb hby d2_23) rfl (flt hc23).2.2.1 ?_
          show Steps p.tables e below (s₁.setTop (mkF m 26 #[.val (.int p1)] [])) _
          refine XS.iconst X0.here hx rfl (hb hby d2_26) ?_
          show Steps p.tables e below (s₁.setTop (mkF m 27 #[.val (.int p1)] [(.int (1 : Int32))])) _
          exact retN X0 hx (t := .boolean) Bd.returns (by simp) (hb hby d2_27) hr
        · show Q2 Z p1 h0 n0 _ s₁.heap _
          rw [e0]
          exact ⟨by rw [eq134], N0, rfl⟩
  · have pre135 : ∀ t, Steps p.tables e below (s₁.setTop (mkF m 9 #[.val (.int p1)] [(.int (57 : Int32)), (.int p1)])) t → Steps p.tables e below (s₁.setTop (entryFrame m #[(.int p1)] 1)) t := by
      intro t k
      refine pre1 t ?_
      show Steps p.tables e below (s₁.setTop (mkF m 3 #[.val (.int p1)] [(.int (48 : Int32)), (.int p1)])) _
      refine XS.icmpNo X0.here hx rfl (hb hby d2_3) rfl (flt hc3).1 ?_
      show Steps p.tables e below (s₁.setTop (mkF m 6 #[.val (.int p1)] [])) _
      refine XS.iloadN X0.here hx rfl (hb hby d2_6) rfl ?_
      show Steps p.tables e below (s₁.setTop (mkF m 7 #[.val (.int p1)] [(.int p1)])) _
      refine XS.bipush X0.here hx rfl (hb hby d2_7) ?_
      exact k
    by_cases hc9 : (57 : Int32) < p1
    · have pre136 : ∀ t, Steps p.tables e below (s₁.setTop (mkF m 17 #[.val (.int p1)] [(.int (65 : Int32)), (.int p1)])) t → Steps p.tables e below (s₁.setTop (entryFrame m #[(.int p1)] 1)) t := by
        intro t k
        refine pre135 t ?_
        show Steps p.tables e below (s₁.setTop (mkF m 9 #[.val (.int p1)] [(.int (57 : Int32)), (.int p1)])) _
        refine XS.icmpYes X0.here hx rfl (pc0 := 9) (pc' := 14) rfl (hb hby d2_9) rfl (tlt hc9).2.2.1 (by decide) (by decide) ?_
        show Steps p.tables e below (s₁.setTop (mkF m 14 #[.val (.int p1)] [])) _
        refine XS.iloadN X0.here hx rfl (hb hby d2_14) rfl ?_
        show Steps p.tables e below (s₁.setTop (mkF m 15 #[.val (.int p1)] [(.int p1)])) _
        refine XS.bipush X0.here hx rfl (hb hby d2_15) ?_
        exact k
      by_cases hc17 : p1 < (65 : Int32)
      · have pre137 : ∀ t, Steps p.tables e below (s₁.setTop (mkF m 31 #[.val (.int p1)] [(.int (97 : Int32)), (.int p1)])) t → Steps p.tables e below (s₁.setTop (entryFrame m #[(.int p1)] 1)) t := by
          intro t k
          refine pre136 t ?_
          show Steps p.tables e below (s₁.setTop (mkF m 17 #[.val (.int p1)] [(.int (65 : Int32)), (.int p1)])) _
          refine XS.icmpYes X0.here hx rfl (pc0 := 17) (pc' := 28) rfl (hb hby d2_17) rfl (tlt hc17).1 (by decide) (by decide) ?_
          show Steps p.tables e below (s₁.setTop (mkF m 28 #[.val (.int p1)] [])) _
          refine XS.iloadN X0.here hx rfl (hb hby d2_28) rfl ?_
          show Steps p.tables e below (s₁.setTop (mkF m 29 #[.val (.int p1)] [(.int p1)])) _
          refine XS.bipush X0.here hx rfl (hb hby d2_29) ?_
          exact k
        by_cases hc31 : p1 < (97 : Int32)
        · have pre138 : ∀ t, Steps p.tables e below (s₁.setTop (mkF m 45 #[.val (.int p1)] [(.int (33 : Int32)), (.int p1)])) t → Steps p.tables e below (s₁.setTop (entryFrame m #[(.int p1)] 1)) t := by
            intro t k
            refine pre137 t ?_
            show Steps p.tables e below (s₁.setTop (mkF m 31 #[.val (.int p1)] [(.int (97 : Int32)), (.int p1)])) _
            refine XS.icmpYes X0.here hx rfl (pc0 := 31) (pc' := 42) rfl (hb hby d2_31) rfl (tlt hc31).1 (by decide) (by decide) ?_
            show Steps p.tables e below (s₁.setTop (mkF m 42 #[.val (.int p1)] [])) _
            refine XS.iloadN X0.here hx rfl (hb hby d2_42) rfl ?_
            show Steps p.tables e below (s₁.setTop (mkF m 43 #[.val (.int p1)] [(.int p1)])) _
            refine XS.bipush X0.here hx rfl (hb hby d2_43) ?_
            exact k
          by_cases hc45 : p1 = (33 : Int32)
          · have eq139 : (f2 p1) = (1 : Int32) := by unfold f2; simp only [if_neg hc3, if_pos hc9, if_pos hc17, if_pos hc31, if_pos hc45]
            obtain ⟨fs, hr, hrun, hended, hW, hsame⟩ := X0.leave (v := some (.int (1 : Int32))) (fun h => by rw [Bd.returns] at h; cases h)
            refine ⟨_, _, pre138 _ ?_, hrun, hended, _, _, rfl, ?_, ⟨_, rfl⟩, hW, hsame.mono (by decide) (by decide)⟩
            · show Steps p.tables e below (s₁.setTop (mkF m 45 #[.val (.int p1)] [(.int (33 : Int32)), (.int p1)])) _
              refine XS.icmpYes X0.here hx rfl (pc0 := 45) (pc' := 132) rfl (hb hby d2_45) rfl (teq hc45).1 (by decide) (by decide) ?_
              show Steps p.tables e below (s₁.setTop (mkF m 132 #[.val (.int p1)] [])) _
              refine XS.iconst X0.here hx rfl (hb hby d2_132) ?_
              show Steps p.tables e below (s₁.setTop (mkF m 133 #[.val (.int p1)] [(.int (1 : Int32))])) _
              refine XS.goto X0.here hx rfl (pc0 := 133) (pc' := 137) rfl (hb hby d2_133) (by decide) (by decide) ?_
              show Steps p.tables e below (s₁.setTop (mkF m 137 #[.val (.int p1)] [(.int (1 : Int32))])) _
              exact retN X0 hx (t := .boolean) Bd.returns (by simp) (hb hby d2_137) hr
            · show Q2 Z p1 h0 n0 _ s₁.heap _
              rw [e0]
              exact ⟨by rw [eq139], N0, rfl⟩
          · have pre140 : ∀ t, Steps p.tables e below (s₁.setTop (mkF m 51 #[.val (.int p1)] [(.int (35 : Int32)), (.int p1)])) t → Steps p.tables e below (s₁.setTop (entryFrame m #[(.int p1)] 1)) t := by
              intro t k
              refine pre138 t ?_
              show Steps p.tables e below (s₁.setTop (mkF m 45 #[.val (.int p1)] [(.int (33 : Int32)), (.int p1)])) _
              refine XS.icmpNo X0.here hx rfl (hb hby d2_45) rfl (feq hc45).1 ?_
              show Steps p.tables e below (s₁.setTop (mkF m 48 #[.val (.int p1)] [])) _
              refine XS.iloadN X0.here hx rfl (hb hby d2_48) rfl ?_
              show Steps p.tables e below (s₁.setTop (mkF m 49 #[.val (.int p1)] [(.int p1)])) _
              refine XS.bipush X0.here hx rfl (hb hby d2_49) ?_
              exact k
            by_cases hc51 : p1 = (35 : Int32)
            · have eq141 : (f2 p1) = (1 : Int32) := by unfold f2; simp only [if_neg hc3, if_pos hc9, if_pos hc17, if_pos hc31, if_neg hc45, if_pos hc51]
              obtain ⟨fs, hr, hrun, hended, hW, hsame⟩ := X0.leave (v := some (.int (1 : Int32))) (fun h => by rw [Bd.returns] at h; cases h)
              refine ⟨_, _, pre140 _ ?_, hrun, hended, _, _, rfl, ?_, ⟨_, rfl⟩, hW, hsame.mono (by decide) (by decide)⟩
              · show Steps p.tables e below (s₁.setTop (mkF m 51 #[.val (.int p1)] [(.int (35 : Int32)), (.int p1)])) _
                refine XS.icmpYes X0.here hx rfl (pc0 := 51) (pc' := 132) rfl (hb hby d2_51) rfl (teq hc51).1 (by decide) (by decide) ?_
                show Steps p.tables e below (s₁.setTop (mkF m 132 #[.val (.int p1)] [])) _
                refine XS.iconst X0.here hx rfl (hb hby d2_132) ?_
                show Steps p.tables e below (s₁.setTop (mkF m 133 #[.val (.int p1)] [(.int (1 : Int32))])) _
                refine XS.goto X0.here hx rfl (pc0 := 133) (pc' := 137) rfl (hb hby d2_133) (by decide) (by decide) ?_
                show Steps p.tables e below (s₁.setTop (mkF m 137 #[.val (.int p1)] [(.int (1 : Int32))])) _
                exact retN X0 hx (t := .boolean) Bd.returns (by simp) (hb hby d2_137) hr
              · show Q2 Z p1 h0 n0 _ s₁.heap _
                rw [e0]
                exact ⟨by rw [eq141], N0, rfl⟩
            · have pre142 : ∀ t, Steps p.tables e below (s₁.setTop (mkF m 57 #[.val (.int p1)] [(.int (36 : Int32)), (.int p1)])) t → Steps p.tables e below (s₁.setTop (entryFrame m #[(.int p1)] 1)) t := by
                intro t k
                refine pre140 t ?_
                show Steps p.tables e below (s₁.setTop (mkF m 51 #[.val (.int p1)] [(.int (35 : Int32)), (.int p1)])) _
                refine XS.icmpNo X0.here hx rfl (hb hby d2_51) rfl (feq hc51).1 ?_
                show Steps p.tables e below (s₁.setTop (mkF m 54 #[.val (.int p1)] [])) _
                refine XS.iloadN X0.here hx rfl (hb hby d2_54) rfl ?_
                show Steps p.tables e below (s₁.setTop (mkF m 55 #[.val (.int p1)] [(.int p1)])) _
                refine XS.bipush X0.here hx rfl (hb hby d2_55) ?_
                exact k
              by_cases hc57 : p1 = (36 : Int32)
              · have eq143 : (f2 p1) = (1 : Int32) := by unfold f2; simp only [if_neg hc3, if_pos hc9, if_pos hc17, if_pos hc31, if_neg hc45, if_neg hc51, if_pos hc57]
                obtain ⟨fs, hr, hrun, hended, hW, hsame⟩ := X0.leave (v := some (.int (1 : Int32))) (fun h => by rw [Bd.returns] at h; cases h)
                refine ⟨_, _, pre142 _ ?_, hrun, hended, _, _, rfl, ?_, ⟨_, rfl⟩, hW, hsame.mono (by decide) (by decide)⟩
                · show Steps p.tables e below (s₁.setTop (mkF m 57 #[.val (.int p1)] [(.int (36 : Int32)), (.int p1)])) _
                  refine XS.icmpYes X0.here hx rfl (pc0 := 57) (pc' := 132) rfl (hb hby d2_57) rfl (teq hc57).1 (by decide) (by decide) ?_
                  show Steps p.tables e below (s₁.setTop (mkF m 132 #[.val (.int p1)] [])) _
                  refine XS.iconst X0.here hx rfl (hb hby d2_132) ?_
                  show Steps p.tables e below (s₁.setTop (mkF m 133 #[.val (.int p1)] [(.int (1 : Int32))])) _
                  refine XS.goto X0.here hx rfl (pc0 := 133) (pc' := 137) rfl (hb hby d2_133) (by decide) (by decide) ?_
                  show Steps p.tables e below (s₁.setTop (mkF m 137 #[.val (.int p1)] [(.int (1 : Int32))])) _
                  exact retN X0 hx (t := .boolean) Bd.returns (by simp) (hb hby d2_137) hr
                · show Q2 Z p1 h0 n0 _ s₁.heap _
                  rw [e0]
                  exact ⟨by rw [eq143], N0, rfl⟩
              · have pre144 : ∀ t, Steps p.tables e below (s₁.setTop (mkF m 63 #[.val (.int p1)] [(.int (37 : Int32)), (.int p1)])) t → Steps p.tables e below (s₁.setTop (entryFrame m #[(.int p1)] 1)) t := by
                  intro t k
                  refine pre142 t ?_
                  show Steps p.tables e below (s₁.setTop (mkF m 57 #[.val (.int p1)] [(.int (36 : Int32)), (.int p1)])) _
                  refine XS.icmpNo X0.here hx rfl (hb hby d2_57) rfl (feq hc57).1 ?_
                  show Steps p.tables e below (s₁.setTop (mkF m 60 #[.val (.int p1)] [])) _
                  refine XS.iloadN X0.here hx rfl (hb hby d2_60) rfl ?_
                  show Steps p.tables e below (s₁.setTop (mkF m 61 #[.val (.int p1)] [(.int p1)])) _
                  refine XS.bipush X0.here hx rfl (hb hby d2_61) ?_
                  exact k
                by_cases hc63 : p1 = (37 : Int32)
                · have eq145 : (f2 p1) = (1 : Int32) := by unfold f2; simp only [if_neg hc3, if_pos hc9, if_pos hc17, if_pos hc31, if_neg hc45, if_neg hc51, if_neg hc57, if_pos hc63]
                  obtain ⟨fs, hr, hrun, hended, hW, hsame⟩ := X0.leave (v := some (.int (1 : Int32))) (fun h => by rw [Bd.returns] at h; cases h)
                  refine ⟨_, _, pre144 _ ?_, hrun, hended, _, _, rfl, ?_, ⟨_, rfl⟩, hW, hsame.mono (by decide) (by decide)⟩
                  · show Steps p.tables e below (s₁.setTop (mkF m 63 #[.val (.int p1)] [(.int (37 : Int32)), (.int p1)])) _
                    refine XS.icmpYes X0.here hx rfl (pc0 := 63) (pc' := 132) rfl (hb hby d2_63) rfl (teq hc63).1 (by decide) (by decide) ?_
                    show Steps p.tables e below (s₁.setTop (mkF m 132 #[.val (.int p1)] [])) _
                    refine XS.iconst X0.here hx rfl (hb hby d2_132) ?_
                    show Steps p.tables e below (s₁.setTop (mkF m 133 #[.val (.int p1)] [(.int (1 : Int32))])) _
                    refine XS.goto X0.here hx rfl (pc0 := 133) (pc' := 137) rfl (hb hby d2_133) (by decide) (by decide) ?_
                    show Steps p.tables e below (s₁.setTop (mkF m 137 #[.val (.int p1)] [(.int (1 : Int32))])) _
                    exact retN X0 hx (t := .boolean) Bd.returns (by simp) (hb hby d2_137) hr
                  · show Q2 Z p1 h0 n0 _ s₁.heap _
                    rw [e0]
                    exact ⟨by rw [eq145], N0, rfl⟩
                · have pre146 : ∀ t, Steps p.tables e below (s₁.setTop (mkF m 69 #[.val (.int p1)] [(.int (38 : Int32)), (.int p1)])) t → Steps p.tables e below (s₁.setTop (entryFrame m #[(.int p1)] 1)) t := by
                    intro t k
                    refine pre144 t ?_
                    show Steps p.tables e below (s₁.setTop (mkF m 63 #[.val (.int p1)] [(.int (37 : Int32)), (.int p1)])) _
                    refine XS.icmpNo X0.here hx rfl (hb hby d2_63) rfl (feq hc63).1 ?_
                    show Steps p.tables e below (s₁.setTop (mkF m 66 #[.val (.int p1)] [])) _
                    refine XS.iloadN X0.here hx rfl (hb hby d2_66) rfl ?_
                    show Steps p.tables e below (s₁.setTop (mkF m 67 #[.val (.int p1)] [(.int p1)])) _
                    refine XS.bipush X0.here hx rfl (hb hby d2_67) ?_
                    exact k
                  by_cases hc69 : p1 = (38 : Int32)
                  · have eq147 : (f2 p1) = (1 : Int32) := by unfold f2; simp only [if_neg hc3, if_pos hc9, if_pos hc17, if_pos hc31, if_neg hc45, if_neg hc51, if_neg hc57, if_neg hc63, if_pos hc69]
                    obtain ⟨fs, hr, hrun, hended, hW, hsame⟩ := X0.leave (v := some (.int (1 : Int32))) (fun h => by rw [Bd.returns] at h; cases h)
                    refine ⟨_, _, pre146 _ ?_, hrun, hended, _, _, rfl, ?_, ⟨_, rfl⟩, hW, hsame.mono (by decide) (by decide)⟩
                    · show Steps p.tables e below (s₁.setTop (mkF m 69 #[.val (.int p1)] [(.int (38 : Int32)), (.int p1)])) _
                      refine XS.icmpYes X0.here hx rfl (pc0 := 69) (pc' := 132) rfl (hb hby d2_69) rfl (teq hc69).1 (by decide) (by decide) ?_
                      show Steps p.tables e below (s₁.setTop (mkF m 132 #[.val (.int p1)] [])) _
                      refine XS.iconst X0.here hx rfl (hb hby d2_132) ?_
                      show Steps p.tables e below (s₁.setTop (mkF m 133 #[.val (.int p1)] [(.int (1 : Int32))])) _
                      refine XS.goto X0.here hx rfl (pc0 := 133) (pc' := 137) rfl (hb hby d2_133) (by decide) (by decide) ?_
                      show Steps p.tables e below (s₁.setTop (mkF m 137 #[.val (.int p1)] [(.int (1 : Int32))])) _
                      exact retN X0 hx (t := .boolean) Bd.returns (by simp) (hb hby d2_137) hr
                    · show Q2 Z p1 h0 n0 _ s₁.heap _
                      rw [e0]
                      exact ⟨by rw [eq147], N0, rfl⟩
                  · have pre148 : ∀ t, Steps p.tables e below (s₁.setTop (mkF m 75 #[.val (.int p1)] [(.int (39 : Int32)), (.int p1)])) t → Steps p.tables e below (s₁.setTop (entryFrame m #[(.int p1)] 1)) t := by
                      intro t k
                      refine pre146 t ?_
                      show Steps p.tables e below (s₁.setTop (mkF m 69 #[.val (.int p1)] [(.int (38 : Int32)), (.int p1)])) _
                      refine XS.icmpNo X0.here hx rfl (hb hby d2_69) rfl (feq hc69).1 ?_
                      show Steps p.tables e below (s₁.setTop (mkF m 72 #[.val (.int p1)] [])) _
                      refine XS.iloadN X0.here hx rfl (hb hby d2_72) rfl ?_
                      show Steps p.tables e below (s₁.setTop (mkF m 73 #[.val (.int p1)] [(.int p1)])) _
                      refine XS.bipush X0.here hx rfl (hb hby d2_73) ?_
                      exact k
                    by_cases hc75 : p1 = (39 : Int32)
                    · have eq149 : (f2 p1) = (1 : Int32) := by unfold f2; simp only [if_neg hc3, if_pos hc9, if_pos hc17, if_pos hc31, if_neg hc45, if_neg hc51, if_neg hc57, if_neg hc63, if_neg hc69, if_pos hc75]
                      obtain ⟨fs, hr, hrun, hended, hW, hsame⟩ := X0.leave (v := some (.int (1 : Int32))) (fun h => by rw [Bd.returns] at h; cases h)
                      refine ⟨_, _, pre148 _ ?_, hrun, hended, _, _, rfl, ?_, ⟨_, rfl⟩, hW, hsame.mono (by decide) (by decide)⟩
                      · show Steps p.tables e below (s₁.setTop (mkF m 75 #[.val (.int p1)] [(.int (39 : Int32)), (.int p1)])) _
                        refine XS.icmpYes X0.here hx rfl (pc0 := 75) (pc' := 132) rfl (hb hby d2_75) rfl (teq hc75).1 (by decide) (by decide) ?_
                        show Steps p.tables e below (s₁.setTop (mkF m 132 #[.val (.int p1)] [])) _
                        refine XS.iconst X0.here hx rfl (hb hby d2_132) ?_
                        show Steps p.tables e below (s₁.setTop (mkF m 133 #[.val (.int p1)] [(.int (1 : Int32))])) _
                        refine XS.goto X0.here hx rfl (pc0 := 133) (pc' := 137) rfl (hb hby d2_133) (by decide) (by decide) ?_
                        show Steps p.tables e below (s₁.setTop (mkF m 137 #[.val (.int p1)] [(.int (1 : Int32))])) _
                        exact retN X0 hx (t := .boolean) Bd.returns (by simp) (hb hby d2_137) hr
                      · show Q2 Z p1 h0 n0 _ s₁.heap _
                        rw [e0]
                        exact ⟨by rw [eq149], N0, rfl⟩
                    · have pre150 : ∀ t, Steps p.tables e below (s₁.setTop (mkF m 81 #[.val (.int p1)] [(.int (42 : Int32)), (.int p1)])) t → Steps p.tables e below (s₁.setTop (entryFrame m #[(.int p1)] 1)) t := by
                        intro t k
                        refine pre148 t ?_
                        show Steps p.tables e below (s₁.setTop (mkF m 75 #[.val (.int p1)] [(.int (39 : Int32)), (.int p1)])) _
                        refine XS.icmpNo X0.here hx rfl (hb hby d2_75) rfl (feq hc75).1 ?_
                        show Steps p.tables e below (s₁.setTop (mkF m 78 #[.val (.int p1)] [])) _
                        refine XS.iloadN X0.here hx rfl (hb hby d2_78) rfl ?_
                        show Steps p.tables e below (s₁.setTop (mkF m 79 #[.val (.int p1)] [(.int p1)])) _
                        refine XS.bipush X0.here hx rfl (hb hby d2_79) ?_
                        exact k
                      by_cases hc81 : p1 = (42 : Int32)
                      · have eq151 : (f2 p1) = (1 : Int32) := by unfold f2; simp only [if_neg hc3, if_pos hc9, if_pos hc17, if_pos hc31, if_neg hc45, if_neg hc51, if_neg hc57, if_neg hc63, if_neg hc69, if_neg hc75, if_pos hc81]
                        obtain ⟨fs, hr, hrun, hended, hW, hsame⟩ := X0.leave (v := some (.int (1 : Int32))) (fun h => by rw [Bd.returns] at h; cases h)
                        refine ⟨_, _, pre150 _ ?_, hrun, hended, _, _, rfl, ?_, ⟨_, rfl⟩, hW, hsame.mono (by decide) (by decide)⟩
                        · show Steps p.tables e below (s₁.setTop (mkF m 81 #[.val (.int p1)] [(.int (42 : Int32)), (.int p1)])) _
                          refine XS.icmpYes X0.here hx rfl (pc0 := 81) (pc' := 132) rfl (hb hby d2_81) rfl (teq hc81).1 (by decide) (by decide) ?_
                          show Steps p.tables e below (s₁.setTop (mkF m 132 #[.val (.int p1)] [])) _
                          refine XS.iconst X0.here hx rfl (hb hby d2_132) ?_
                          show Steps p.tables e below (s₁.setTop (mkF m 133 #[.val (.int p1)] [(.int (1 : Int32))])) _
                          refine XS.goto X0.here hx rfl (pc0 := 133) (pc' := 137) rfl (hb hby d2_133) (by decide) (by decide) ?_
                          show Steps p.tables e below (s₁.setTop (mkF m 137 #[.val (.int p1)] [(.int (1 : Int32))])) _
                          exact retN X0 hx (t := .boolean) Bd.returns (by simp) (hb hby d2_137) hr
                        · show Q2 Z p1 h0 n0 _ s₁.heap _
                          rw [e0]
                          exact ⟨by rw [eq151], N0, rfl⟩
                      · have pre152 : ∀ t, Steps p.tables e below (s₁.setTop (mkF m 87 #[.val (.int p1)] [(.int (43 : Int32)), (.int p1)])) t → Steps p.tables e below (s₁.setTop (entryFrame m #[(.int p1)] 1)) t := by
                          intro t k
                          refine pre150 t ?_
                          show Steps p.tables e below (s₁.setTop (mkF m 81 #[.val (.int p1)] [(.int (42 : Int32)), (.int p1)])) _
                          refine XS.icmpNo X0.here hx rfl (hb hby d2_81) rfl (feq hc81).1 ?_
                          show Steps p.tables e below (s₁.setTop (mkF m 84 #[.val (.int p1)] [])) _
                          refine XS.iloadN X0.here hx rfl (hb hby d2_84) rfl ?_
                          show Steps p.tables e below (s₁.setTop (mkF m 85 #[.val (.int p1)] [(.int p1)])) _
                          refine XS.bipush X0.here hx rfl (hb hby d2_85) ?_
                          exact k
                        by_cases hc87 : p1 = (43 : Int32)
                        · have eq153 : (f2 p1) = (1 : Int32) := by unfold f2; simp only [if_neg hc3, if_pos hc9, if_pos hc17, if_pos hc31, if_neg hc45, if_neg hc51, if_neg hc57, if_neg hc63, if_neg hc69, if_neg hc75, if_neg hc81, if_pos hc87]
                          obtain ⟨fs, hr, hrun, hended, hW, hsame⟩ := X0.leave (v := some (.int (1 : Int32))) (fun h => by rw [Bd.returns] at h; cases h)
                          refine ⟨_, _, pre152 _ ?_, hrun, hended, _, _, rfl, ?_, ⟨_, rfl⟩, hW, hsame.mono (by decide) (by decide)⟩
                          · show Steps p.tables e below (s₁.setTop (mkF m 87 #[.val (.int p1)] [(.int (43 : Int32)), (.int p1)])) _
                            refine XS.icmpYes X0.here hx rfl (pc0 := 87) (pc' := 132) rfl (hb hby d2_87) rfl (teq hc87).1 (by decide) (by decide) ?_
                            show Steps p.tables e below (s₁.setTop (mkF m 132 #[.val (.int p1)] [])) _
                            refine XS.iconst X0.here hx rfl (hb hby d2_132) ?_
                            show Steps p.tables e below (s₁.setTop (mkF m 133 #[.val (.int p1)] [(.int (1 : Int32))])) _
                            refine XS.goto X0.here hx rfl (pc0 := 133) (pc' := 137) rfl (hb hby d2_133) (by decide) (by decide) ?_
                            show Steps p.tables e below (s₁.setTop (mkF m 137 #[.val (.int p1)] [(.int (1 : Int32))])) _
                            exact retN X0 hx (t := .boolean) Bd.returns (by simp) (hb hby d2_137) hr
                          · show Q2 Z p1 h0 n0 _ s₁.heap _
                            rw [e0]
                            exact ⟨by rw [eq153], N0, rfl⟩
                        · have pre154 : ∀ t, Steps p.tables e below (s₁.setTop (mkF m 93 #[.val (.int p1)] [(.int (45 : Int32)), (.int p1)])) t → Steps p.tables e below (s₁.setTop (entryFrame m #[(.int p1)] 1)) t := by
                            intro t k
                            refine pre152 t ?_
                            show Steps p.tables e below (s₁.setTop (mkF m 87 #[.val (.int p1)] [(.int (43 : Int32)), (.int p1)])) _
                            refine XS.icmpNo X0.here hx rfl (hb hby d2_87) rfl (feq hc87).1 ?_
                            show Steps p.tables e below (s₁.setTop (mkF m 90 #[.val (.int p1)] [])) _
                            refine XS.iloadN X0.here hx rfl (hb hby d2_90) rfl ?_
                            show Steps p.tables e below (s₁.setTop (mkF m 91 #[.val (.int p1)] [(.int p1)])) _
                            refine XS.bipush X0.here hx rfl (hb hby d2_91) ?_
                            exact k
                          by_cases hc93 : p1 = (45 : Int32)
                          · have eq155 : (f2 p1) = (1 : Int32) := by unfold f2; simp only [if_neg hc3, if_pos hc9, if_pos hc17, if_pos hc31, if_neg hc45, if_neg hc51, if_neg hc57, if_neg hc63, if_neg hc69, if_neg hc75, if_neg hc81, if_neg hc87, if_pos hc93]
                            obtain ⟨fs, hr, hrun, hended, hW, hsame⟩ := X0.leave (v := some (.int (1 : Int32))) (fun h => by rw [Bd.returns] at h; cases h)
                            refine ⟨_, _, pre154 _ ?_, hrun, hended, _, _, rfl, ?_, ⟨_, rfl⟩, hW, hsame.mono (by decide) (by decide)⟩
                            · show Steps p.tables e below (s₁.setTop (mkF m 93 #[.val (.int p1)] [(.int (45 : Int32)), (.int p1)])) _
                              refine XS.icmpYes X0.here hx rfl (pc0 := 93) (pc' := 132) rfl (hb hby d2_93) rfl (teq hc93).1 (by decide) (by decide) ?_
                              show Steps p.tables e below (s₁.setTop (mkF m 132 #[.val (.int p1)] [])) _
                              refine XS.iconst X0.here hx rfl (hb hby d2_132) ?_
                              show Steps p.tables e below (s₁.setTop (mkF m 133 #[.val (.int p1)] [(.int (1 : Int32))])) _
                              refine XS.goto X0.here hx rfl (pc0 := 133) (pc' := 137) rfl (hb hby d2_133) (by decide) (by decide) ?_
                              show Steps p.tables e below (s₁.setTop (mkF m 137 #[.val (.int p1)] [(.int (1 : Int32))])) _
                              exact retN X0 hx (t := .boolean) Bd.returns (by simp) (hb hby d2_137) hr
                            · show Q2 Z p1 h0 n0 _ s₁.heap _
                              rw [e0]
                              exact ⟨by rw [eq155], N0, rfl⟩
                          · have pre156 : ∀ t, Steps p.tables e below (s₁.setTop (mkF m 99 #[.val (.int p1)] [(.int (46 : Int32)), (.int p1)])) t → Steps p.tables e below (s₁.setTop (entryFrame m #[(.int p1)] 1)) t := by
                              intro t k
                              refine pre154 t ?_
                              show Steps p.tables e below (s₁.setTop (mkF m 93 #[.val (.int p1)] [(.int (45 : Int32)), (.int p1)])) _
                              refine XS.icmpNo X0.here hx rfl (hb hby d2_93) rfl (feq hc93).1 ?_
                              show Steps p.tables e below (s₁.setTop (mkF m 96 #[.val (.int p1)] [])) _
                              refine XS.iloadN X0.here hx rfl (hb hby d2_96) rfl ?_
                              show Steps p.tables e below (s₁.setTop (mkF m 97 #[.val (.int p1)] [(.int p1)])) _
                              refine XS.bipush X0.here hx rfl (hb hby d2_97) ?_
                              exact k
                            by_cases hc99 : p1 = (46 : Int32)
                            · have eq157 : (f2 p1) = (1 : Int32) := by unfold f2; simp only [if_neg hc3, if_pos hc9, if_pos hc17, if_pos hc31, if_neg hc45, if_neg hc51, if_neg hc57, if_neg hc63, if_neg hc69, if_neg hc75, if_neg hc81, if_neg hc87, if_neg hc93, if_pos hc99]
                              obtain ⟨fs, hr, hrun, hended, hW, hsame⟩ := X0.leave (v := some (.int (1 : Int32))) (fun h => by rw [Bd.returns] at h; cases h)
                              refine ⟨_, _, pre156 _ ?_, hrun, hended, _, _, rfl, ?_, ⟨_, rfl⟩, hW, hsame.mono (by decide) (by decide)⟩
                              · show Steps p.tables e below (s₁.setTop (mkF m 99 #[.val (.int p1)] [(.int (46 : Int32)), (.int p1)])) _
                                refine XS.icmpYes X0.here hx rfl (pc0 := 99) (pc' := 132) rfl (hb hby d2_99) rfl (teq hc99).1 (by decide) (by decide) ?_
                                show Steps p.tables e below (s₁.setTop (mkF m 132 #[.val (.int p1)] [])) _
                                refine XS.iconst X0.here hx rfl (hb hby d2_132) ?_
                                show Steps p.tables e below (s₁.setTop (mkF m 133 #[.val (.int p1)] [(.int (1 : Int32))])) _
                                refine XS.goto X0.here hx rfl (pc0 := 133) (pc' := 137) rfl (hb hby d2_133) (by decide) (by decide) ?_
                                show Steps p.tables e below (s₁.setTop (mkF m 137 #[.val (.int p1)] [(.int (1 : Int32))])) _
                                exact retN X0 hx (t := .boolean) Bd.returns (by simp) (hb hby d2_137) hr
                              · show Q2 Z p1 h0 n0 _ s₁.heap _
                                rw [e0]
                                exact ⟨by rw [eq157], N0, rfl⟩
                            · have pre158 : ∀ t, Steps p.tables e below (s₁.setTop (mkF m 105 #[.val (.int p1)] [(.int (94 : Int32)), (.int p1)])) t → Steps p.tables e below (s₁.setTop (entryFrame m #[(.int p1)] 1)) t := by
                                intro t k
                                refine pre156 t ?_
                                show Steps p.tables e below (s₁.setTop (mkF m 99 #[.val (.int p1)] [(.int (46 : Int32)), (.int p1)])) _
                                refine XS.icmpNo X0.here hx rfl (hb hby d2_99) rfl (feq hc99).1 ?_
                                show Steps p.tables e below (s₁.setTop (mkF m 102 #[.val (.int p1)] [])) _
                                refine XS.iloadN X0.here hx rfl (hb hby d2_102) rfl ?_
                                show Steps p.tables e below (s₁.setTop (mkF m 103 #[.val (.int p1)] [(.int p1)])) _
                                refine XS.bipush X0.here hx rfl (hb hby d2_103) ?_
                                exact k
                              by_cases hc105 : p1 = (94 : Int32)
                              · have eq159 : (f2 p1) = (1 : Int32) := by unfold f2; simp only [if_neg hc3, if_pos hc9, if_pos hc17, if_pos hc31, if_neg hc45, if_neg hc51, if_neg hc57, if_neg hc63, if_neg hc69, if_neg hc75, if_neg hc81, if_neg hc87, if_neg hc93, if_neg hc99, if_pos hc105]
                                obtain ⟨fs, hr, hrun, hended, hW, hsame⟩ := X0.leave (v := some (.int (1 : Int32))) (fun h => by rw [Bd.returns] at h; cases h)
                                refine ⟨_, _, pre158 _ ?_, hrun, hended, _, _, rfl, ?_, ⟨_, rfl⟩, hW, hsame.mono (by decide) (by decide)⟩
                                · show Steps p.tables e below (s₁.setTop (mkF m 105 #[.val (.int p1)] [(.int (94 : Int32)), (.int p1)])) _
                                  refine XS.icmpYes X0.here hx rfl (pc0 := 105) (pc' := 132) rfl (hb hby d2_105) rfl (teq hc105).1 (by decide) (by decide) ?_
                                  show Steps p.tables e below (s₁.setTop (mkF m 132 #[.val (.int p1)] [])) _
                                  refine XS.iconst X0.here hx rfl (hb hby d2_132) ?_
                                  show Steps p.tables e below (s₁.setTop (mkF m 133 #[.val (.int p1)] [(.int (1 : Int32))])) _
                                  refine XS.goto X0.here hx rfl (pc0 := 133) (pc' := 137) rfl (hb hby d2_133) (by decide) (by decide) ?_
                                  show Steps p.tables e below (s₁.setTop (mkF m 137 #[.val (.int p1)] [(.int (1 : Int32))])) _
                                  exact retN X0 hx (t := .boolean) Bd.returns (by simp) (hb hby d2_137) hr
                                · show Q2 Z p1 h0 n0 _ s₁.heap _
                                  rw [e0]
                                  exact ⟨by rw [eq159], N0, rfl⟩
                              · have pre160 : ∀ t, Steps p.tables e below (s₁.setTop (mkF m 111 #[.val (.int p1)] [(.int (95 : Int32)), (.int p1)])) t → Steps p.tables e below (s₁.setTop (entryFrame m #[(.int p1)] 1)) t := by
                                  intro t k
                                  refine pre158 t ?_
                                  show Steps p.tables e below (s₁.setTop (mkF m 105 #[.val (.int p1)] [(.int (94 : Int32)), (.int p1)])) _
                                  refine XS.icmpNo X0.here hx rfl (hb hby d2_105) rfl (feq hc105).1 ?_
                                  show Steps p.tables e below (s₁.setTop (mkF m 108 #[.val (.int p1)] [])) _
                                  refine XS.iloadN X0.here hx rfl (hb hby d2_108) rfl ?_
                                  show Steps p.tables e below (s₁.setTop (mkF m 109 #[.val (.int p1)] [(.int p1)])) _
                                  refine XS.bipush X0.here hx rfl (hb hby d2_109) ?_
                                  exact k
                                by_cases hc111 : p1 = (95 : Int32)
                                · have eq161 : (f2 p1) = (1 : Int32) := by unfold f2; simp only [if_neg hc3, if_pos hc9, if_pos hc17, if_pos hc31, if_neg hc45, if_neg hc51, if_neg hc57, if_neg hc63, if_neg hc69, if_neg hc75, if_neg hc81, if_neg hc87, if_neg hc93, if_neg hc99, if_neg hc105, if_pos hc111]
                                  obtain ⟨fs, hr, hrun, hended, hW, hsame⟩ := X0.leave (v := some (.int (1 : Int32))) (fun h => by rw [Bd.returns] at h; cases h)
                                  refine ⟨_, _, pre160 _ ?_, hrun, hended, _, _, rfl, ?_, ⟨_, rfl⟩, hW, hsame.mono (by decide) (by decide)⟩
                                  · show Steps p.tables e below (s₁.setTop (mkF m 111 #[.val (.int p1)] [(.int (95 : Int32)), (.int p1)])) _
                                    refine XS.icmpYes X0.here hx rfl (pc0 := 111) (pc' := 132) rfl (hb hby d2_111) rfl (teq hc111).1 (by decide) (by decide) ?_
                                    show Steps p.tables e below (s₁.setTop (mkF m 132 #[.val (.int p1)] [])) _
                                    refine XS.iconst X0.here hx rfl (hb hby d2_132) ?_
                                    show Steps p.tables e below (s₁.setTop (mkF m 133 #[.val (.int p1)] [(.int (1 : Int32))])) _
                                    refine XS.goto X0.here hx rfl (pc0 := 133) (pc' := 137) rfl (hb hby d2_133) (by decide) (by decide) ?_
                                    show Steps p.tables e below (s₁.setTop (mkF m 137 #[.val (.int p1)] [(.int (1 : Int32))])) _
                                    exact retN X0 hx (t := .boolean) Bd.returns (by simp) (hb hby d2_137) hr
                                  · show Q2 Z p1 h0 n0 _ s₁.heap _
                                    rw [e0]
                                    exact ⟨by rw [eq161], N0, rfl⟩
                                · have pre162 : ∀ t, Steps p.tables e below (s₁.setTop (mkF m 117 #[.val (.int p1)] [(.int (96 : Int32)), (.int p1)])) t → Steps p.tables e below (s₁.setTop (entryFrame m #[(.int p1)] 1)) t := by
                                    intro t k
                                    refine pre160 t ?_
                                    show Steps p.tables e below (s₁.setTop (mkF m 111 #[.val (.int p1)] [(.int (95 : Int32)), (.int p1)])) _
                                    refine XS.icmpNo X0.here hx rfl (hb hby d2_111) rfl (feq hc111).1 ?_
                                    show Steps p.tables e below (s₁.setTop (mkF m 114 #[.val (.int p1)] [])) _
                                    refine XS.iloadN X0.here hx rfl (hb hby d2_114) rfl ?_
                                    show Steps p.tables e below (s₁.setTop (mkF m 115 #[.val (.int p1)] [(.int p1)])) _
                                    refine XS.bipush X0.here hx rfl (hb hby d2_115) ?_
                                    exact k
                                  by_cases hc117 : p1 = (96 : Int32)
                                  · have eq163 : (f2 p1) = (1 : Int32) := by unfold f2; simp only [if_neg hc3, if_pos hc9, if_pos hc17, if_pos hc31, if_neg hc45, if_neg hc51, if_neg hc57, if_neg hc63, if_neg hc69, if_neg hc75, if_neg hc81, if_neg hc87, if_neg hc93, if_neg hc99, if_neg hc105, if_neg hc111, if_pos hc117]
                                    obtain ⟨fs, hr, hrun, hended, hW, hsame⟩ := X0.leave (v := some (.int (1 : Int32))) (fun h => by rw [Bd.returns] at h; cases h)
                                    refine ⟨_, _, pre162 _ ?_, hrun, hended, _, _, rfl, ?_, ⟨_, rfl⟩, hW, hsame.mono (by decide) (by decide)⟩
                                    · show Steps p.tables e below (s₁.setTop (mkF m 117 #[.val (.int p1)] [(.int (96 : Int32)), (.int p1)])) _
                                      refine XS.icmpYes X0.here hx rfl (pc0 := 117) (pc' := 132) rfl (hb hby d2_117) rfl (teq hc117).1 (by decide) (by decide) ?_
                                      show Steps p.tables e below (s₁.setTop (mkF m 132 #[.val (.int p1)] [])) _
                                      refine XS.iconst X0.here hx rfl (hb hby d2_132) ?_
                                      show Steps p.tables e below (s₁.setTop (mkF m 133 #[.val (.int p1)] [(.int (1 : Int32))])) _
                                      refine XS.goto X0.here hx rfl (pc0 := 133) (pc' := 137) rfl (hb hby d2_133) (by decide) (by decide) ?_
                                      show Steps p.tables e below (s₁.setTop (mkF m 137 #[.val (.int p1)] [(.int (1 : Int32))])) _
                                      exact retN X0 hx (t := .boolean) Bd.returns (by simp) (hb hby d2_137) hr
                                    · show Q2 Z p1 h0 n0 _ s₁.heap _
                                      rw [e0]
                                      exact ⟨by rw [eq163], N0, rfl⟩
                                  · have pre164 : ∀ t, Steps p.tables e below (s₁.setTop (mkF m 123 #[.val (.int p1)] [(.int (124 : Int32)), (.int p1)])) t → Steps p.tables e below (s₁.setTop (entryFrame m #[(.int p1)] 1)) t := by
                                      intro t k
                                      refine pre162 t ?_
                                      show Steps p.tables e below (s₁.setTop (mkF m 117 #[.val (.int p1)] [(.int (96 : Int32)), (.int p1)])) _
                                      refine XS.icmpNo X0.here hx rfl (hb hby d2_117) rfl (feq hc117).1 ?_
                                      show Steps p.tables e below (s₁.setTop (mkF m 120 #[.val (.int p1)] [])) _
                                      refine XS.iloadN X0.here hx rfl (hb hby d2_120) rfl ?_
                                      show Steps p.tables e below (s₁.setTop (mkF m 121 #[.val (.int p1)] [(.int p1)])) _
                                      refine XS.bipush X0.here hx rfl (hb hby d2_121) ?_
                                      exact k
                                    by_cases hc123 : p1 = (124 : Int32)
                                    · have eq165 : (f2 p1) = (1 : Int32) := by unfold f2; simp only [if_neg hc3, if_pos hc9, if_pos hc17, if_pos hc31, if_neg hc45, if_neg hc51, if_neg hc57, if_neg hc63, if_neg hc69, if_neg hc75, if_neg hc81, if_neg hc87, if_neg hc93, if_neg hc99, if_neg hc105, if_neg hc111, if_neg hc117, if_pos hc123]
                                      obtain ⟨fs, hr, hrun, hended, hW, hsame⟩ := X0.leave (v := some (.int (1 : Int32))) (fun h => by rw [Bd.returns] at h; cases h)
                                      refine ⟨_, _, pre164 _ ?_, hrun, hended, _, _, rfl, ?_, ⟨_, rfl⟩, hW, hsame.mono (by decide) (by decide)⟩
                                      · show Steps p.tables e below (s₁.setTop (mkF m 123 #[.val (.int p1)] [(.int (124 : Int32)), (.int p1)])) _
                                        refine XS.icmpYes X0.here hx rfl (pc0 := 123) (pc' := 132) rfl (hb hby d2_123) rfl (teq hc123).1 (by decide) (by decide) ?_
                                        show Steps p.tables e below (s₁.setTop (mkF m 132 #[.val (.int p1)] [])) _
                                        refine XS.iconst X0.here hx rfl (hb hby d2_132) ?_
                                        show Steps p.tables e below (s₁.setTop (mkF m 133 #[.val (.int p1)] [(.int (1 : Int32))])) _
                                        refine XS.goto X0.here hx rfl (pc0 := 133) (pc' := 137) rfl (hb hby d2_133) (by decide) (by decide) ?_
                                        show Steps p.tables e below (s₁.setTop (mkF m 137 #[.val (.int p1)] [(.int (1 : Int32))])) _
                                        exact retN X0 hx (t := .boolean) Bd.returns (by simp) (hb hby d2_137) hr
                                      · show Q2 Z p1 h0 n0 _ s₁.heap _
                                        rw [e0]
                                        exact ⟨by rw [eq165], N0, rfl⟩
                                    · have pre166 : ∀ t, Steps p.tables e below (s₁.setTop (mkF m 129 #[.val (.int p1)] [(.int (126 : Int32)), (.int p1)])) t → Steps p.tables e below (s₁.setTop (entryFrame m #[(.int p1)] 1)) t := by
                                        intro t k
                                        refine pre164 t ?_
                                        show Steps p.tables e below (s₁.setTop (mkF m 123 #[.val (.int p1)] [(.int (124 : Int32)), (.int p1)])) _
                                        refine XS.icmpNo X0.here hx rfl (hb hby d2_123) rfl (feq hc123).1 ?_
                                        show Steps p.tables e below (s₁.setTop (mkF m 126 #[.val (.int p1)] [])) _
                                        refine XS.iloadN X0.here hx rfl (hb hby d2_126) rfl ?_
                                        show Steps p.tables e below (s₁.setTop (mkF m 127 #[.val (.int p1)] [(.int p1)])) _
                                        refine XS.bipush X0.here hx rfl (hb hby d2_127) ?_
                                        exact k
                                      by_cases hc129 : p1 = (126 : Int32)
                                      · have eq167 : (f2 p1) = (1 : Int32) := by unfold f2; simp only [if_neg hc3, if_pos hc9, if_pos hc17, if_pos hc31, if_neg hc45, if_neg hc51, if_neg hc57, if_neg hc63, if_neg hc69, if_neg hc75, if_neg hc81, if_neg hc87, if_neg hc93, if_neg hc99, if_neg hc105, if_neg hc111, if_neg hc117, if_neg hc123, if_pos hc129]
                                        obtain ⟨fs, hr, hrun, hended, hW, hsame⟩ := X0.leave (v := some (.int (1 : Int32))) (fun h => by rw [Bd.returns] at h; cases h)
                                        refine ⟨_, _, pre166 _ ?_, hrun, hended, _, _, rfl, ?_, ⟨_, rfl⟩, hW, hsame.mono (by decide) (by decide)⟩
                                        · show Steps p.tables e below (s₁.setTop (mkF m 129 #[.val (.int p1)] [(.int (126 : Int32)), (.int p1)])) _
                                          refine XS.icmpNo X0.here hx rfl (hb hby d2_129) rfl (teq hc129).2 ?_
                                          show Steps p.tables e below (s₁.setTop (mkF m 132 #[.val (.int p1)] [])) _
                                          refine XS.iconst X0.here hx rfl (hb hby d2_132) ?_
                                          show Steps p.tables e below (s₁.setTop (mkF m 133 #[.val (.int p1)] [(.int (1 : Int32))])) _
                                          refine XS.goto X0.here hx rfl (pc0 := 133) (pc' := 137) rfl (hb hby d2_133) (by decide) (by decide) ?_
                                          show Steps p.tables e below (s₁.setTop (mkF m 137 #[.val (.int p1)] [(.int (1 : Int32))])) _
                                          exact retN X0 hx (t := .boolean) Bd.returns (by simp) (hb hby d2_137) hr
                                        · show Q2 Z p1 h0 n0 _ s₁.heap _
                                          rw [e0]
                                          exact ⟨by rw [eq167], N0, rfl⟩
                                      · have eq168 : (f2 p1) = (0 : Int32) := by unfold f2; simp only [if_neg hc3, if_pos hc9, if_pos hc17, if_pos hc31, if_neg hc45, if_neg hc51, if_neg hc57, if_neg hc63, if_neg hc69, if_neg hc75, if_neg hc81, if_neg hc87, if_neg hc93, if_neg hc99, if_neg hc105, if_neg hc111, if_neg hc117, if_neg hc123, if_neg hc129]
                                        obtain ⟨fs, hr, hrun, hended, hW, hsame⟩ := X0.leave (v := some (.int (0 : Int32))) (fun h => by rw [Bd.returns] at h; cases h)
                                        refine ⟨_, _, pre166 _ ?_, hrun, hended, _, _, rfl, ?_, ⟨_, rfl⟩, hW, hsame.mono (by decide) (by decide)⟩
                                        · show Steps p.tables e below (s₁.setTop (mkF m 129 #[.val (.int p1)] [(.int (126 : Int32)), (.int p1)])) _
                                          refine XS.icmpYes X0.here hx rfl (pc0 := 129) (pc' := 136) rfl (hb hby d2_129) rfl (feq hc129).2 (by decide) (by decide) ?_
                                          show Steps p.tables e below (s₁.setTop (mkF m 136 #[.val (.int p1)] [])) _
                                          refine XS.iconst X0.here hx rfl (hb hby d2_136) ?_
                                          show Steps p.tables e below (s₁.setTop (mkF m 137 #[.val (.int p1)] [(.int (0 : Int32))])) _
                                          exact retN X0 hx (t := .boolean) Bd.returns (by simp) (hb hby d2_137) hr
                                        · show Q2 Z p1 h0 n0 _ s₁.heap _
                                          rw [e0]
                                          exact ⟨by rw [eq168], N0, rfl⟩
        · have pre169 : ∀ t, Steps p.tables e below (s₁.setTop (mkF m 37 #[.val (.int p1)] [(.int (122 : Int32)), (.int p1)])) t → Steps p.tables e below (s₁.setTop (entryFrame m #[(.int p1)] 1)) t := by
            intro t k
            refine pre137 t ?_
            show Steps p.tables e below (s₁.setTop (mkF m 31 #[.val (.int p1)] [(.int (97 : Int32)), (.int p1)])) _
            refine XS.icmpNo X0.here hx rfl (hb hby d2_31) rfl (flt hc31).1 ?_
            show Steps p.tables e below (s₁.setTop (mkF m 34 #[.val (.int p1)] [])) _
            refine XS.iloadN X0.here hx rfl (hb hby d2_34) rfl ?_
            show Steps p.tables e below (s₁.setTop (mkF m 35 #[.val (.int p1)] [(.int p1)])) _
            refine XS.bipush X0.here hx rfl (hb hby d2_35) ?_
            exact k
          by_cases hc37 : (122 : Int32) < p1
          · have pre170 : ∀ t, Steps p.tables e below (s₁.setTop (mkF m 45 #[.val (.int p1)] [(.int (33 : Int32)), (.int p1)])) t → Steps p.tables e below (s₁.setTop (entryFrame m #[(.int p1)] 1)) t := by
              intro t k
              refine pre169 t ?_
              show Steps p.tables e below (s₁.setTop (mkF m 37 #[.val (.int p1)] [(.int (122 : Int32)), (.int p1)])) _
              refine XS.icmpYes X0.here hx rfl (pc0 := 37) (pc' := 42) rfl (hb hby d2_37) rfl (tlt hc37).2.2.1 (by decide) (by decide) ?_
              show Steps p.tables e below (s₁.setTop (mkF m 42 #[.val (.int p1)] [])) _
              refine XS.iloadN X0.here hx rfl (hb hby d2_42) rfl ?_
              show Steps p.tables e below (s₁.setTop (mkF m 43 #[.val (.int p1)] [(.int p1)])) _
              refine XS.bipush X0.here hx rfl (hb hby d2_43) ?_
              exact k
            by_cases hc45 : p1 = (33 : Int32)
            · have eq171 : (f2 p1) = (1 : Int32) := by unfold f2; simp only [if_neg hc3, if_pos hc9, if_pos hc17, if_neg hc31, if_pos hc37, if_pos hc45]
              obtain ⟨fs, hr, hrun, hended, hW, hsame⟩ := X0.leave (v := some (.int (1 : Int32))) (fun h => by rw [Bd.returns] at h; cases h)
              refine ⟨_, _, pre170 _ ?_, hrun, hended, _, _, rfl, ?_, ⟨_, rfl⟩, hW, hsame.mono (by decide) (by decide)⟩
              · show Steps p.tables e below (s₁.setTop (mkF m 45 #[.val (.int p1)] [(.int (33 : Int32)), (.int p1)])) _
                refine XS.icmpYes X0.here hx rfl (pc0 := 45) (pc' := 132) rfl (hb hby d2_45) rfl (teq hc45).1 (by decide) (by decide) ?_
                show Steps p.tables e below (s₁.setTop (mkF m 132 #[.val (.int p1)] [])) _
                refine XS.iconst X0.here hx rfl (hb hby d2_132) ?_
                show Steps p.tables e below (s₁.setTop (mkF m 133 #[.val (.int p1)] [(.int (1 : Int32))])) _
                refine XS.goto X0.here hx rfl (pc0 := 133) (pc' := 137) rfl (hb hby d2_133) (by decide) (by decide) ?_
                show Steps p.tables e below (s₁.setTop (mkF m 137 #[.val (.int p1)] [(.int (1 : Int32))])) _
                exact retN X0 hx (t := .boolean) Bd.returns (by simp) (hb hby d2_137) hr
              · show Q2 Z p1 h0 n0 _ s₁.heap _
                rw [e0]
                exact ⟨by rw [eq171], N0, rfl⟩
            · have pre172 : ∀ t, Steps p.tables e below (s₁.setTop (mkF m 51 #[.val (.int p1)] [(.int (35 : Int32)), (.int p1)])) t → Steps p.tables e below (s₁.setTop (entryFrame m #[(.int p1)] 1)) t := by
                intro t k
                refine pre170 t ?_
                show Steps p.tables e below (s₁.setTop (mkF m 45 #[.val (.int p1)] [(.int (33 : Int32)), (.int p1)])) _
                refine XS.icmpNo X0.here hx rfl (hb hby d2_45) rfl (feq hc45).1 ?_
                show Steps p.tables e below (s₁.setTop (mkF m 48 #[.val (.int p1)] [])) _
                refine XS.iloadN X0.here hx rfl (hb hby d2_48) rfl ?_
                show Steps p.tables e below (s₁.setTop (mkF m 49 #[.val (.int p1)] [(.int p1)])) _
                refine XS.bipush X0.here hx rfl (hb hby d2_49) ?_
                exact k
              by_cases hc51 : p1 = (35 : Int32)
              · have eq173 : (f2 p1) = (1 : Int32) := by unfold f2; simp only [if_neg hc3, if_pos hc9, if_pos hc17, if_neg hc31, if_pos hc37, if_neg hc45, if_pos hc51]
                obtain ⟨fs, hr, hrun, hended, hW, hsame⟩ := X0.leave (v := some (.int (1 : Int32))) (fun h => by rw [Bd.returns] at h; cases h)
                refine ⟨_, _, pre172 _ ?_, hrun, hended, _, _, rfl, ?_, ⟨_, rfl⟩, hW, hsame.mono (by decide) (by decide)⟩
                · show Steps p.tables e below (s₁.setTop (mkF m 51 #[.val (.int p1)] [(.int (35 : Int32)), (.int p1)])) _
                  refine XS.icmpYes X0.here hx rfl (pc0 := 51) (pc' := 132) rfl (hb hby d2_51) rfl (teq hc51).1 (by decide) (by decide) ?_
                  show Steps p.tables e below (s₁.setTop (mkF m 132 #[.val (.int p1)] [])) _
                  refine XS.iconst X0.here hx rfl (hb hby d2_132) ?_
                  show Steps p.tables e below (s₁.setTop (mkF m 133 #[.val (.int p1)] [(.int (1 : Int32))])) _
                  refine XS.goto X0.here hx rfl (pc0 := 133) (pc' := 137) rfl (hb hby d2_133) (by decide) (by decide) ?_
                  show Steps p.tables e below (s₁.setTop (mkF m 137 #[.val (.int p1)] [(.int (1 : Int32))])) _
                  exact retN X0 hx (t := .boolean) Bd.returns (by simp) (hb hby d2_137) hr
                · show Q2 Z p1 h0 n0 _ s₁.heap _
                  rw [e0]
                  exact ⟨by rw [eq173], N0, rfl⟩
              · have pre174 : ∀ t, Steps p.tables e below (s₁.setTop (mkF m 57 #[.val (.int p1)] [(.int (36 : Int32)), (.int p1)])) t → Steps p.tables e below (s₁.setTop (entryFrame m #[(.int p1)] 1)) t := by
                  intro t k
                  refine pre172 t ?_
                  show Steps p.tables e below (s₁.setTop (mkF m 51 #[.val (.int p1)] [(.int (35 : Int32)), (.int p1)])) _
                  refine XS.icmpNo X0.here hx rfl (hb hby d2_51) rfl (feq hc51).1 ?_
                  show Steps p.tables e below (s₁.setTop (mkF m 54 #[.val (.int p1)] [])) _
                  refine XS.iloadN X0.here hx rfl (hb hby d2_54) rfl ?_
                  show Steps p.tables e below (s₁.setTop (mkF m 55 #[.val (.int p1)] [(.int p1)])) _
                  refine XS.bipush X0.here hx rfl (hb hby d2_55) ?_
                  exact k
                by_cases hc57 : p1 = (36 : Int32)
                · have eq175 : (f2 p1) = (1 : Int32) := by unfold f2; simp only [if_neg hc3, if_pos hc9, if_pos hc17, if_neg hc31, if_pos hc37, if_neg hc45, if_neg hc51, if_pos hc57]
                  obtain ⟨fs, hr, hrun, hended, hW, hsame⟩ := X0.leave (v := some (.int (1 : Int32))) (fun h => by rw [Bd.returns] at h; cases h)
                  refine ⟨_, _, pre174 _ ?_, hrun, hended, _, _, rfl, ?_, ⟨_, rfl⟩, hW, hsame.mono (by decide) (by decide)⟩
                  · show Steps p.tables e below (s₁.setTop (mkF m 57 #[.val (.int p1)] [(.int (36 : Int32)), (.int p1)])) _
                    refine XS.icmpYes X0.here hx rfl (pc0 := 57) (pc' := 132) rfl (hb hby d2_57) rfl (teq hc57).1 (by decide) (by decide) ?_
                    show Steps p.tables e below (s₁.setTop (mkF m 132 #[.val (.int p1)] [])) _
                    refine XS.iconst X0.here hx rfl (hb hby d2_132) ?_
                    show Steps p.tables e below (s₁.setTop (mkF m 133 #[.val (.int p1)] [(.int (1 : Int32))])) _
                    refine XS.goto X0.here hx rfl (pc0 := 133) (pc' := 137) rfl (hb hby d2_133) (by decide) (by decide) ?_
                    show Steps p.tables e below (s₁.setTop (mkF m 137 #[.val (.int p1)] [(.int (1 : Int32))])) _
                    exact retN X0 hx (t := .boolean) Bd.returns (by simp) (hb hby d2_137) hr
                  · show Q2 Z p1 h0 n0 _ s₁.heap _
                    rw [e0]
                    exact ⟨by rw [eq175], N0, rfl⟩
                · have pre176 : ∀ t, Steps p.tables e below (s₁.setTop (mkF m 63 #[.val (.int p1)] [(.int (37 : Int32)), (.int p1)])) t → Steps p.tables e below (s₁.setTop (entryFrame m #[(.int p1)] 1)) t := by
                    intro t k
                    refine pre174 t ?_
                    show Steps p.tables e below (s₁.setTop (mkF m 57 #[.val (.int p1)] [(.int (36 : Int32)), (.int p1)])) _
                    refine XS.icmpNo X0.here hx rfl (hb hby d2_57) rfl (feq hc57).1 ?_
                    show Steps p.tables e below (s₁.setTop (mkF m 60 #[.val (.int p1)] [])) _
                    refine XS.iloadN X0.here hx rfl (hb hby d2_60) rfl ?_
                    show Steps p.tables e below (s₁.setTop (mkF m 61 #[.val (.int p1)] [(.int p1)])) _
                    refine XS.bipush X0.here hx rfl (hb hby d2_61) ?_
                    exact k
                  by_cases hc63 : p1 = (37 : Int32)
                  · have eq177 : (f2 p1) = (1 : Int32) := by unfold f2; simp only [if_neg hc3, if_pos hc9, if_pos hc17, if_neg hc31, if_pos hc37, if_neg hc45, if_neg hc51, if_neg hc57, if_pos hc63]
                    obtain ⟨fs, hr, hrun, hended, hW, hsame⟩ := X0.leave (v := some (.int (1 : Int32))) (fun h => by rw [Bd.returns] at h; cases h)
                    refine ⟨_, _, pre176 _ ?_, hrun, hended, _, _, rfl, ?_, ⟨_, rfl⟩, hW, hsame.mono (by decide) (by decide)⟩
                    · show Steps p.tables e below (s₁.setTop (mkF m 63 #[.val (.int p1)] [(.int (37 : Int32)), (.int p1)])) _
                      refine XS.icmpYes X0.here hx rfl (pc0 := 63) (pc' := 132) rfl (hb hby d2_63) rfl (teq hc63).1 (by decide) (by decide) ?_
                      show Steps p.tables e below (s₁.setTop (mkF m 132 #[.val (.int p1)] [])) _
                      refine XS.iconst X0.here hx rfl (hb hby d2_132) ?_
                      show Steps p.tables e below (s₁.setTop (mkF m 133 #[.val (.int p1)] [(.int (1 : Int32))])) _
                      refine XS.goto X0.here hx rfl (pc0 := 133) (pc' := 137) rfl (hb hby d2_133) (by decide) (by decide) ?_
                      show Steps p.tables e below (s₁.setTop (mkF m 137 #[.val (.int p1)] [(.int (1 : Int32))])) _
                      exact retN X0 hx (t := .boolean) Bd.returns (by simp) (hb hby d2_137) hr
                    · show Q2 Z p1 h0 n0 _ s₁.heap _
                      rw [e0]
                      exact ⟨by rw [eq177], N0, rfl⟩
                  · have pre178 : ∀ t, Steps p.tables e below (s₁.setTop (mkF m 69 #[.val (.int p1)] [(.int (38 : Int32)), (.int p1)])) t → Steps p.tables e below (s₁.setTop (entryFrame m #[(.int p1)] 1)) t := by
                      intro t k
                      refine pre176 t ?_
                      show Steps p.tables e below (s₁.setTop (mkF m 63 #[.val (.int p1)] [(.int (37 : Int32)), (.int p1)])) _
                      refine XS.icmpNo X0.here hx rfl (hb hby d2_63) rfl (feq hc63).1 ?_
                      show Steps p.tables e below (s₁.setTop (mkF m 66 #[.val (.int p1)] [])) _
                      refine XS.iloadN X0.here hx rfl (hb hby d2_66) rfl ?_
                      show Steps p.tables e below (s₁.setTop (mkF m 67 #[.val (.int p1)] [(.int p1)])) _
                      refine XS.bipush X0.here hx rfl (hb hby d2_67) ?_
                      exact k
                    by_cases hc69 : p1 = (38 : Int32)
                    · have eq179 : (f2 p1) = (1 : Int32) := by unfold f2; simp only [if_neg hc3, if_pos hc9, if_pos hc17, if_neg hc31, if_pos hc37, if_neg hc45, if_neg hc51, if_neg hc57, if_neg hc63, if_pos hc69]
                      obtain ⟨fs, hr, hrun, hended, hW, hsame⟩ := X0.leave (v := some (.int (1 : Int32))) (fun h => by rw [Bd.returns] at h; cases h)
                      refine ⟨_, _, pre178 _ ?_, hrun, hended, _, _, rfl, ?_, ⟨_, rfl⟩, hW, hsame.mono (by decide) (by decide)⟩
                      · show Steps p.tables e below (s₁.setTop (mkF m 69 #[.val (.int p1)] [(.int (38 : Int32)), (.int p1)])) _
                        refine XS.icmpYes X0.here hx rfl (pc0 := 69) (pc' := 132) rfl (hb hby d2_69) rfl (teq hc69).1 (by decide) (by decide) ?_
                        show Steps p.tables e below (s₁.setTop (mkF m 132 #[.val (.int p1)] [])) _
                        refine XS.iconst X0.here hx rfl (hb hby d2_132) ?_
                        show Steps p.tables e below (s₁.setTop (mkF m 133 #[.val (.int p1)] [(.int (1 : Int32))])) _
                        refine XS.goto X0.here hx rfl (pc0 := 133) (pc' := 137) rfl (hb hby d2_133) (by decide) (by decide) ?_
                        show Steps p.tables e below (s₁.setTop (mkF m 137 #[.val (.int p1)] [(.int (1 : Int32))])) _
                        exact retN X0 hx (t := .boolean) Bd.returns (by simp) (hb hby d2_137) hr
                      · show Q2 Z p1 h0 n0 _ s₁.heap _
                        rw [e0]
                        exact ⟨by rw [eq179], N0, rfl⟩
                    · have pre180 : ∀ t, Steps p.tables e below (s₁.setTop (mkF m 75 #[.val (.int p1)] [(.int (39 : Int32)), (.int p1)])) t → Steps p.tables e below (s₁.setTop (entryFrame m #[(.int p1)] 1)) t := by
                        intro t k
                        refine pre178 t ?_
                        show Steps p.tables e below (s₁.setTop (mkF m 69 #[.val (.int p1)] [(.int (38 : Int32)), (.int p1)])) _
                        refine XS.icmpNo X0.here hx rfl (hb hby d2_69) rfl (feq hc69).1 ?_
                        show Steps p.tables e below (s₁.setTop (mkF m 72 #[.val (.int p1)] [])) _
                        refine XS.iloadN X0.here hx rfl (hb hby d2_72) rfl ?_
                        show Steps p.tables e below (s₁.setTop (mkF m 73 #[.val (.int p1)] [(.int p1)])) _
                        refine XS.bipush X0.here hx rfl (hb hby d2_73) ?_
                        exact k
                      by_cases hc75 : p1 = (39 : Int32)
                      · have eq181 : (f2 p1) = (1 : Int32) := by unfold f2; simp only [if_neg hc3, if_pos hc9, if_pos hc17, if_neg hc31, if_pos hc37, if_neg hc45, if_neg hc51, if_neg hc57, if_neg hc63, if_neg hc69, if_pos hc75]
                        obtain ⟨fs, hr, hrun, hended, hW, hsame⟩ := X0.leave (v := some (.int (1 : Int32))) (fun h => by rw [Bd.returns] at h; cases h)
                        refine ⟨_, _, pre180 _ ?_, hrun, hended, _, _, rfl, ?_, ⟨_, rfl⟩, hW, hsame.mono (by decide) (by decide)⟩
                        · show Steps p.tables e below (s₁.setTop (mkF m 75 #[.val (.int p1)] [(.int (39 : Int32)), (.int p1)])) _
                          refine XS.icmpYes X0.here hx rfl (pc0 := 75) (pc' := 132) rfl (hb hby d2_75) rfl (teq hc75).1 (by decide) (by decide) ?_
                          show Steps p.tables e below (s₁.setTop (mkF m 132 #[.val (.int p1)] [])) _
                          refine XS.iconst X0.here hx rfl (hb hby d2_132) ?_
                          show Steps p.tables e below (s₁.setTop (mkF m 133 #[.val (.int p1)] [(.int (1 : Int32))])) _
                          refine XS.goto X0.here hx rfl (pc0 := 133) (pc' := 137) rfl (hb hby d2_133) (by decide) (by decide) ?_
                          show Steps p.tables e below (s₁.setTop (mkF m 137 #[.val (.int p1)] [(.int (1 : Int32))])) _
                          exact retN X0 hx (t := .boolean) Bd.returns (by simp) (hb hby d2_137) hr
                        · show Q2 Z p1 h0 n0 _ s₁.heap _
                          rw [e0]
                          exact ⟨by rw [eq181], N0, rfl⟩
                      · have pre182 : ∀ t, Steps p.tables e below (s₁.setTop (mkF m 81 #[.val (.int p1)] [(.int (42 : Int32)), (.int p1)])) t → Steps p.tables e below (s₁.setTop (entryFrame m #[(.int p1)] 1)) t := by
                          intro t k
                          refine pre180 t ?_
                          show Steps p.tables e below (s₁.setTop (mkF m 75 #[.val (.int p1)] [(.int (39 : Int32)), (.int p1)])) _
                          refine XS.icmpNo X0.here hx rfl (hb hby d2_75) rfl (feq hc75).1 ?_
                          show Steps p.tables e below (s₁.setTop (mkF m 78 #[.val (.int p1)] [])) _
                          refine XS.iloadN X0.here hx rfl (hb hby d2_78) rfl ?_
                          show Steps p.tables e below (s₁.setTop (mkF m 79 #[.val (.int p1)] [(.int p1)])) _
                          refine XS.bipush X0.here hx rfl (hb hby d2_79) ?_
                          exact k
                        by_cases hc81 : p1 = (42 : Int32)
                        · have eq183 : (f2 p1) = (1 : Int32) := by unfold f2; simp only [if_neg hc3, if_pos hc9, if_pos hc17, if_neg hc31, if_pos hc37, if_neg hc45, if_neg hc51, if_neg hc57, if_neg hc63, if_neg hc69, if_neg hc75, if_pos hc81]
                          obtain ⟨fs, hr, hrun, hended, hW, hsame⟩ := X0.leave (v := some (.int (1 : Int32))) (fun h => by rw [Bd.returns] at h; cases h)
                          refine ⟨_, _, pre182 _ ?_, hrun, hended, _, _, rfl, ?_, ⟨_, rfl⟩, hW, hsame.mono (by decide) (by decide)⟩
                          · show Steps p.tables e below (s₁.setTop (mkF m 81 #[.val (.int p1)] [(.int (42 : Int32)), (.int p1)])) _
                            refine XS.icmpYes X0.here hx rfl (pc0 := 81) (pc' := 132) rfl (hb hby d2_81) rfl (teq hc81).1 (by decide) (by decide) ?_
                            show Steps p.tables e below (s₁.setTop (mkF m 132 #[.val (.int p1)] [])) _
                            refine XS.iconst X0.here hx rfl (hb hby d2_132) ?_
                            show Steps p.tables e below (s₁.setTop (mkF m 133 #[.val (.int p1)] [(.int (1 : Int32))])) _
                            refine XS.goto X0.here hx rfl (pc0 := 133) (pc' := 137) rfl (hb hby d2_133) (by decide) (by decide) ?_
                            show Steps p.tables e below (s₁.setTop (mkF m 137 #[.val (.int p1)] [(.int (1 : Int32))])) _
                            exact retN X0 hx (t := .boolean) Bd.returns (by simp) (hb hby d2_137) hr
                          · show Q2 Z p1 h0 n0 _ s₁.heap _
                            rw [e0]
                            exact ⟨by rw [eq183], N0, rfl⟩
                        · have pre184 : ∀ t, Steps p.tables e below (s₁.setTop (mkF m 87 #[.val (.int p1)] [(.int (43 : Int32)), (.int p1)])) t → Steps p.tables e below (s₁.setTop (entryFrame m #[(.int p1)] 1)) t := by
                            intro t k
                            refine pre182 t ?_
                            show Steps p.tables e below (s₁.setTop (mkF m 81 #[.val (.int p1)] [(.int (42 : Int32)), (.int p1)])) _
                            refine XS.icmpNo X0.here hx rfl (hb hby d2_81) rfl (feq hc81).1 ?_
                            show Steps p.tables e below (s₁.setTop (mkF m 84 #[.val (.int p1)] [])) _
                            refine XS.iloadN X0.here hx rfl (hb hby d2_84) rfl ?_
                            show Steps p.tables e below (s₁.setTop (mkF m 85 #[.val (.int p1)] [(.int p1)])) _
                            refine XS.bipush X0.here hx rfl (hb hby d2_85) ?_
                            exact k
                          by_cases hc87 : p1 = (43 : Int32)
                          · have eq185 : (f2 p1) = (1 : Int32) := by unfold f2; simp only [if_neg hc3, if_pos hc9, if_pos hc17, if_neg hc31, if_pos hc37, if_neg hc45, if_neg hc51, if_neg hc57, if_neg hc63, if_neg hc69, if_neg hc75, if_neg hc81, if_pos hc87]
                            obtain ⟨fs, hr, hrun, hended, hW, hsame⟩ := X0.leave (v := some (.int (1 : Int32))) (fun h => by rw [Bd.returns] at h; cases h)
                            refine ⟨_, _, pre184 _ ?_, hrun, hended, _, _, rfl, ?_, ⟨_, rfl⟩, hW, hsame.mono (by decide) (by decide)⟩
                            · show Steps p.tables e below (s₁.setTop (mkF m 87 #[.val (.int p1)] [(.int (43 : Int32)), (.int p1)])) _
                              refine XS.icmpYes X0.here hx rfl (pc0 := 87) (pc' := 132) rfl (hb hby d2_87) rfl (teq hc87).1 (by decide) (by decide) ?_
                              show Steps p.tables e below (s₁.setTop (mkF m 132 #[.val (.int p1)] [])) _
                              refine XS.iconst X0.here hx rfl (hb hby d2_132) ?_
                              show Steps p.tables e below (s₁.setTop (mkF m 133 #[.val (.int p1)] [(.int (1 : Int32))])) _
                              refine XS.goto X0.here hx rfl (pc0 := 133) (pc' := 137) rfl (hb hby d2_133) (by decide) (by decide) ?_
                              show Steps p.tables e below (s₁.setTop (mkF m 137 #[.val (.int p1)] [(.int (1 : Int32))])) _
                              exact retN X0 hx (t := .boolean) Bd.returns (by simp) (hb hby d2_137) hr
                            · show Q2 Z p1 h0 n0 _ s₁.heap _
                              rw [e0]
                              exact ⟨by rw [eq185], N0, rfl⟩
                          · have pre186 : ∀ t, Steps p.tables e below (s₁.setTop (mkF m 93 #[.val (.int p1)] [(.int (45 : Int32)), (.int p1)])) t → Steps p.tables e below (s₁.setTop (entryFrame m #[(.int p1)] 1)) t := by
                              intro t k
                              refine pre184 t ?_
                              show Steps p.tables e below (s₁.setTop (mkF m 87 #[.val (.int p1)] [(.int (43 : Int32)), (.int p1)])) _
                              refine XS.icmpNo X0.here hx rfl (hb hby d2_87) rfl (feq hc87).1 ?_
                              show Steps p.tables e below (s₁.setTop (mkF m 90 #[.val (.int p1)] [])) _
                              refine XS.iloadN X0.here hx rfl (hb hby d2_90) rfl ?_
                              show Steps p.tables e below (s₁.setTop (mkF m 91 #[.val (.int p1)] [(.int p1)])) _
                              refine XS.bipush X0.here hx rfl (hb hby d2_91) ?_
                              exact k
                            by_cases hc93 : p1 = (45 : Int32)
                            · have eq187 : (f2 p1) = (1 : Int32) := by unfold f2; simp only [if_neg hc3, if_pos hc9, if_pos hc17, if_neg hc31, if_pos hc37, if_neg hc45, if_neg hc51, if_neg hc57, if_neg hc63, if_neg hc69, if_neg hc75, if_neg hc81, if_neg hc87, if_pos hc93]
                              obtain ⟨fs, hr, hrun, hended, hW, hsame⟩ := X0.leave (v := some (.int (1 : Int32))) (fun h => by rw [Bd.returns] at h; cases h)
                              refine ⟨_, _, pre186 _ ?_, hrun, hended, _, _, rfl, ?_, ⟨_, rfl⟩, hW, hsame.mono (by decide) (by decide)⟩
                              · show Steps p.tables e below (s₁.setTop (mkF m 93 #[.val (.int p1)] [(.int (45 : Int32)), (.int p1)])) _
                                refine XS.icmpYes X0.here hx rfl (pc0 := 93) (pc' := 132) rfl (hb hby d2_93) rfl (teq hc93).1 (by decide) (by decide) ?_
                                show Steps p.tables e below (s₁.setTop (mkF m 132 #[.val (.int p1)] [])) _
                                refine XS.iconst X0.here hx rfl (hb hby d2_132) ?_
                                show Steps p.tables e below (s₁.setTop (mkF m 133 #[.val (.int p1)] [(.int (1 : Int32))])) _
                                refine XS.goto X0.here hx rfl (pc0 := 133) (pc' := 137) rfl (hb hby d2_133) (by decide) (by decide) ?_
                                show Steps p.tables e below (s₁.setTop (mkF m 137 #[.val (.int p1)] [(.int (1 : Int32))])) _
                                exact retN X0 hx (t := .boolean) Bd.returns (by simp) (hb hby d2_137) hr
                              · show Q2 Z p1 h0 n0 _ s₁.heap _
                                rw [e0]
                                exact ⟨by rw [eq187], N0, rfl⟩
                            · have pre188 : ∀ t, Steps p.tables e below (s₁.setTop (mkF m 99 #[.val (.int p1)] [(.int (46 : Int32)), (.int p1)])) t → Steps p.tables e below (s₁.setTop (entryFrame m #[(.int p1)] 1)) t := by
                                intro t k
                                refine pre186 t ?_
                                show Steps p.tables e below (s₁.setTop (mkF m 93 #[.val (.int p1)] [(.int (45 : Int32)), (.int p1)])) _
                                refine XS.icmpNo X0.here hx rfl (hb hby d2_93) rfl (feq hc93).1 ?_
                                show Steps p.tables e below (s₁.setTop (mkF m 96 #[.val (.int p1)] [])) _
                                refine XS.iloadN X0.here hx rfl (hb hby d2_96) rfl ?_
                                show Steps p.tables e below (s₁.setTop (mkF m 97 #[.val (.int p1)] [(.int p1)])) _
                                refine XS.bipush X0.here hx rfl (hb hby d2_97) ?_
                                exact k
                              by_cases hc99 : p1 = (46 : Int32)
                              · have eq189 : (f2 p1) = (1 : Int32) := by unfold f2; simp only [if_neg hc3, if_pos hc9, if_pos hc17, if_neg hc31, if_pos hc37, if_neg hc45, if_neg hc51, if_neg hc57, if_neg hc63, if_neg hc69, if_neg hc75, if_neg hc81, if_neg hc87, if_neg hc93, if_pos hc99]
                                obtain ⟨fs, hr, hrun, hended, hW, hsame⟩ := X0.leave (v := some (.int (1 : Int32))) (fun h => by rw [Bd.returns] at h; cases h)
                                refine ⟨_, _, pre188 _ ?_, hrun, hended, _, _, rfl, ?_, ⟨_, rfl⟩, hW, hsame.mono (by decide) (by decide)⟩
                                · show Steps p.tables e below (s₁.setTop (mkF m 99 #[.val (.int p1)] [(.int (46 : Int32)), (.int p1)])) _
                                  refine XS.icmpYes X0.here hx rfl (pc0 := 99) (pc' := 132) rfl (hb hby d2_99) rfl (teq hc99).1 (by decide) (by decide) ?_
                                  show Steps p.tables e below (s₁.setTop (mkF m 132 #[.val (.int p1)] [])) _
                                  refine XS.iconst X0.here hx rfl (hb hby d2_132) ?_
                                  show Steps p.tables e below (s₁.setTop (mkF m 133 #[.val (.int p1)] [(.int (1 : Int32))])) _
                                  refine XS.goto X0.here hx rfl (pc0 := 133) (pc' := 137) rfl (hb hby d2_133) (by decide) (by decide) ?_
                                  show Steps p.tables e below (s₁.setTop (mkF m 137 #[.val (.int p1)] [(.int (1 : Int32))])) _
                                  exact retN X0 hx (t := .boolean) Bd.returns (by simp) (hb hby d2_137) hr
                                · show Q2 Z p1 h0 n0 _ s₁.heap _
                                  rw [e0]
                                  exact ⟨by rw [eq189], N0, rfl⟩
                              · have pre190 : ∀ t, Steps p.tables e below (s₁.setTop (mkF m 105 #[.val (.int p1)] [(.int (94 : Int32)), (.int p1)])) t → Steps p.tables e below (s₁.setTop (entryFrame m #[(.int p1)] 1)) t := by
                                  intro t k
                                  refine pre188 t ?_
                                  show Steps p.tables e below (s₁.setTop (mkF m 99 #[.val (.int p1)] [(.int (46 : Int32)), (.int p1)])) _
                                  refine XS.icmpNo X0.here hx rfl (hb hby d2_99) rfl (feq hc99).1 ?_
                                  show Steps p.tables e below (s₁.setTop (mkF m 102 #[.val (.int p1)] [])) _
                                  refine XS.iloadN X0.here hx rfl (hb hby d2_102) rfl ?_
                                  show Steps p.tables e below (s₁.setTop (mkF m 103 #[.val (.int p1)] [(.int p1)])) _
                                  refine XS.bipush X0.here hx rfl (hb hby d2_103) ?_
                                  exact k
                                by_cases hc105 : p1 = (94 : Int32)
                                · have eq191 : (f2 p1) = (1 : Int32) := by unfold f2; simp only [if_neg hc3, if_pos hc9, if_pos hc17, if_neg hc31, if_pos hc37, if_neg hc45, if_neg hc51, if_neg hc57, if_neg hc63, if_neg hc69, if_neg hc75, if_neg hc81, if_neg hc87, if_neg hc93, if_neg hc99, if_pos hc105]
                                  obtain ⟨fs, hr, hrun, hended, hW, hsame⟩ := X0.leave (v := some (.int (1 : Int32))) (fun h => by rw [Bd.returns] at h; cases h)
                                  refine ⟨_, _, pre190 _ ?_, hrun, hended, _, _, rfl, ?_, ⟨_, rfl⟩, hW, hsame.mono (by decide) (by decide)⟩
                                  · show Steps p.tables e below (s₁.setTop (mkF m 105 #[.val (.int p1)] [(.int (94 : Int32)), (.int p1)])) _
                                    refine XS.icmpYes X0.here hx rfl (pc0 := 105) (pc' := 132) rfl (hb hby d2_105) rfl (teq hc105).1 (by decide) (by decide) ?_
                                    show Steps p.tables e below (s₁.setTop (mkF m 132 #[.val (.int p1)] [])) _
                                    refine XS.iconst X0.here hx rfl (hb hby d2_132) ?_
                                    show Steps p.tables e below (s₁.setTop (mkF m 133 #[.val (.int p1)] [(.int (1 : Int32))])) _
                                    refine XS.goto X0.here hx rfl (pc0 := 133) (pc' := 137) rfl (hb hby d2_133) (by decide) (by decide) ?_
                                    show Steps p.tables e below (s₁.setTop (mkF m 137 #[.val (.int p1)] [(.int (1 : Int32))])) _
                                    exact retN X0 hx (t := .boolean) Bd.returns (by simp) (hb hby d2_137) hr
                                  · show Q2 Z p1 h0 n0 _ s₁.heap _
                                    rw [e0]
                                    exact ⟨by rw [eq191], N0, rfl⟩
                                · have pre192 : ∀ t, Steps p.tables e below (s₁.setTop (mkF m 111 #[.val (.int p1)] [(.int (95 : Int32)), (.int p1)])) t → Steps p.tables e below (s₁.setTop (entryFrame m #[(.int p1)] 1)) t := by
                                    intro t k
                                    refine pre190 t ?_
                                    show Steps p.tables e below (s₁.setTop (mkF m 105 #[.val (.int p1)] [(.int (94 : Int32)), (.int p1)])) _
                                    refine XS.icmpNo X0.here hx rfl (hb hby d2_105) rfl (feq hc105).1 ?_
                                    show Steps p.tables e below (s₁.setTop (mkF m 108 #[.val (.int p1)] [])) _
                                    refine XS.iloadN X0.here hx rfl (hb hby d2_108) rfl ?_
                                    show Steps p.tables e below (s₁.setTop (mkF m 109 #[.val (.int p1)] [(.int p1)])) _
                                    refine XS.bipush X0.here hx rfl (hb hby d2_109) ?_
                                    exact k
                                  by_cases hc111 : p1 = (95 : Int32)
                                  · have eq193 : (f2 p1) = (1 : Int32) := by unfold f2; simp only [if_neg hc3, if_pos hc9, if_pos hc17, if_neg hc31, if_pos hc37, if_neg hc45, if_neg hc51, if_neg hc57, if_neg hc63, if_neg hc69, if_neg hc75, if_neg hc81, if_neg hc87, if_neg hc93, if_neg hc99, if_neg hc105, if_pos hc111]
                                    obtain ⟨fs, hr, hrun, hended, hW, hsame⟩ := X0.leave (v := some (.int (1 : Int32))) (fun h => by rw [Bd.returns] at h; cases h)
                                    refine ⟨_, _, pre192 _ ?_, hrun, hended, _, _, rfl, ?_, ⟨_, rfl⟩, hW, hsame.mono (by decide) (by decide)⟩
                                    · show Steps p.tables e below (s₁.setTop (mkF m 111 #[.val (.int p1)] [(.int (95 : Int32)), (.int p1)])) _
                                      refine XS.icmpYes X0.here hx rfl (pc0 := 111) (pc' := 132) rfl (hb hby d2_111) rfl (teq hc111).1 (by decide) (by decide) ?_
                                      show Steps p.tables e below (s₁.setTop (mkF m 132 #[.val (.int p1)] [])) _
                                      refine XS.iconst X0.here hx rfl (hb hby d2_132) ?_
                                      show Steps p.tables e below (s₁.setTop (mkF m 133 #[.val (.int p1)] [(.int (1 : Int32))])) _
                                      refine XS.goto X0.here hx rfl (pc0 := 133) (pc' := 137) rfl (hb hby d2_133) (by decide) (by decide) ?_
                                      show Steps p.tables e below (s₁.setTop (mkF m 137 #[.val (.int p1)] [(.int (1 : Int32))])) _
                                      exact retN X0 hx (t := .boolean) Bd.returns (by simp) (hb hby d2_137) hr
                                    · show Q2 Z p1 h0 n0 _ s₁.heap _
                                      rw [e0]
                                      exact ⟨by rw [eq193], N0, rfl⟩
                                  · have pre194 : ∀ t, Steps p.tables e below (s₁.setTop (mkF m 117 #[.val (.int p1)] [(.int (96 : Int32)), (.int p1)])) t → Steps p.tables e below (s₁.setTop (entryFrame m #[(.int p1)] 1)) t := by
                                      intro t k
                                      refine pre192 t ?_
                                      show Steps p.tables e below (s₁.setTop (mkF m 111 #[.val (.int p1)] [(.int (95 : Int32)), (.int p1)])) _
                                      refine XS.icmpNo X0.here hx rfl (hb hby d2_111) rfl (feq hc111).1 ?_
                                      show Steps p.tables e below (s₁.setTop (mkF m 114 #[.val (.int p1)] [])) _
                                      refine XS.iloadN X0.here hx rfl (hb hby d2_114) rfl ?_
                                      show Steps p.tables e below (s₁.setTop (mkF m 115 #[.val (.int p1)] [(.int p1)])) _
                                      refine XS.bipush X0.here hx rfl (hb hby d2_115) ?_
                                      exact k
                                    by_cases hc117 : p1 = (96 : Int32)
                                    · have eq195 : (f2 p1) = (1 : Int32) := by unfold f2; simp only [if_neg hc3, if_pos hc9, if_pos hc17, if_neg hc31, if_pos hc37, if_neg hc45, if_neg hc51, if_neg hc57, if_neg hc63, if_neg hc69, if_neg hc75, if_neg hc81, if_neg hc87, if_neg hc93, if_neg hc99, if_neg hc105, if_neg hc111, if_pos hc117]
                                      obtain ⟨fs, hr, hrun, hended, hW, hsame⟩ := X0.leave (v := some (.int (1 : Int32))) (fun h => by rw [Bd.returns] at h; cases h)
                                      refine ⟨_, _, pre194 _ ?_, hrun, hended, _, _, rfl, ?_, ⟨_, rfl⟩, hW, hsame.mono (by decide) (by decide)⟩
                                      · show Steps p.tables e below (s₁.setTop (mkF m 117 #[.val (.int p1)] [(.int (96 : Int32)), (.int p1)])) _
                                        refine XS.icmpYes X0.here hx rfl (pc0 := 117) (pc' := 132) rfl (hb hby d2_117) rfl (teq hc117).1 (by decide) (by decide) ?_
                                        show Steps p.tables e below (s₁.setTop (mkF m 132 #[.val (.int p1)] [])) _
                                        refine XS.iconst X0.here hx rfl (hb hby d2_132) ?_
                                        show Steps p.tables e below (s₁.setTop (mkF m 133 #[.val (.int p1)] [(.int (1 : Int32))])) _
                                        refine XS.goto X0.here hx rfl (pc0 := 133) (pc' := 137) rfl (hb hby d2_133) (by decide) (by decide) ?_
                                        show Steps p.tables e below (s₁.setTop (mkF m 137 #[.val (.int p1)] [(.int (1 : Int32))])) _
                                        exact retN X0 hx (t := .boolean) Bd.returns (by simp) (hb hby d2_137) hr
                                      · show Q2 Z p1 h0 n0 _ s₁.heap _
                                        rw [e0]
                                        exact ⟨by rw [eq195], N0, rfl⟩
                                    · have pre196 : ∀ t, Steps p.tables e below (s₁.setTop (mkF m 123 #[.val (.int p1)] [(.int (124 : Int32)), (.int p1)])) t → Steps p.tables e below (s₁.setTop (entryFrame m #[(.int p1)] 1)) t := by
                                        intro t k
                                        refine pre194 t ?_
                                        show Steps p.tables e below (s₁.setTop (mkF m 117 #[.val (.int p1)] [(.int (96 : Int32)), (.int p1)])) _
                                        refine XS.icmpNo X0.here hx rfl (hb hby d2_117) rfl (feq hc117).1 ?_
                                        show Steps p.tables e below (s₁.setTop (mkF m 120 #[.val (.int p1)] [])) _
                                        refine XS.iloadN X0.here hx rfl (hb hby d2_120) rfl ?_
                                        show Steps p.tables e below (s₁.setTop (mkF m 121 #[.val (.int p1)] [(.int p1)])) _
                                        refine XS.bipush X0.here hx rfl (hb hby d2_121) ?_
                                        exact k
                                      by_cases hc123 : p1 = (124 : Int32)
                                      · have eq197 : (f2 p1) = (1 : Int32) := by unfold f2; simp only [if_neg hc3, if_pos hc9, if_pos hc17, if_neg hc31, if_pos hc37, if_neg hc45, if_neg hc51, if_neg hc57, if_neg hc63, if_neg hc69, if_neg hc75, if_neg hc81, if_neg hc87, if_neg hc93, if_neg hc99, if_neg hc105, if_neg hc111, if_neg hc117, if_pos hc123]
                                        obtain ⟨fs, hr, hrun, hended, hW, hsame⟩ := X0.leave (v := some (.int (1 : Int32))) (fun h => by rw [Bd.returns] at h; cases h)
                                        refine ⟨_, _, pre196 _ ?_, hrun, hended, _, _, rfl, ?_, ⟨_, rfl⟩, hW, hsame.mono (by decide) (by decide)⟩
                                        · show Steps p.tables e below (s₁.setTop (mkF m 123 #[.val (.int p1)] [(.int (124 : Int32)), (.int p1)])) _
                                          refine XS.icmpYes X0.here hx rfl (pc0 := 123) (pc' := 132) rfl (hb hby d2_123) rfl (teq hc123).1 (by decide) (by decide) ?_
                                          show Steps p.tables e below (s₁.setTop (mkF m 132 #[.val (.int p1)] [])) _
                                          refine XS.iconst X0.here hx rfl (hb hby d2_132) ?_
                                          show Steps p.tables e below (s₁.setTop (mkF m 133 #[.val (.int p1)] [(.int (1 : Int32))])) _
                                          refine XS.goto X0.here hx rfl (pc0 := 133) (pc' := 137) rfl (hb hby d2_133) (by decide) (by decide) ?_
                                          show Steps p.tables e below (s₁.setTop (mkF m 137 #[.val (.int p1)] [(.int (1 : Int32))])) _
                                          exact retN X0 hx (t := .boolean) Bd.returns (by simp) (hb hby d2_137) hr
                                        · show Q2 Z p1 h0 n0 _ s₁.heap _
                                          rw [e0]
                                          exact ⟨by rw [eq197], N0, rfl⟩
                                      · have pre198 : ∀ t, Steps p.tables e below (s₁.setTop (mkF m 129 #[.val (.int p1)] [(.int (126 : Int32)), (.int p1)])) t → Steps p.tables e below (s₁.setTop (entryFrame m #[(.int p1)] 1)) t := by
                                          intro t k
                                          refine pre196 t ?_
                                          show Steps p.tables e below (s₁.setTop (mkF m 123 #[.val (.int p1)] [(.int (124 : Int32)), (.int p1)])) _
                                          refine XS.icmpNo X0.here hx rfl (hb hby d2_123) rfl (feq hc123).1 ?_
                                          show Steps p.tables e below (s₁.setTop (mkF m 126 #[.val (.int p1)] [])) _
                                          refine XS.iloadN X0.here hx rfl (hb hby d2_126) rfl ?_
                                          show Steps p.tables e below (s₁.setTop (mkF m 127 #[.val (.int p1)] [(.int p1)])) _
                                          refine XS.bipush X0.here hx rfl (hb hby d2_127) ?_
                                          exact k
                                        by_cases hc129 : p1 = (126 : Int32)
                                        · have eq199 : (f2 p1) = (1 : Int32) := by unfold f2; simp only [if_neg hc3, if_pos hc9, if_pos hc17, if_neg hc31, if_pos hc37, if_neg hc45, if_neg hc51, if_neg hc57, if_neg hc63, if_neg hc69, if_neg hc75, if_neg hc81, if_neg hc87, if_neg hc93, if_neg hc99, if_neg hc105, if_neg hc111, if_neg hc117, if_neg hc123, if_pos hc129]
                                          obtain ⟨fs, hr, hrun, hended, hW, hsame⟩ := X0.leave (v := some (.int (1 : Int32))) (fun h => by rw [Bd.returns] at h; cases h)
                                          refine ⟨_, _, pre198 _ ?_, hrun, hended, _, _, rfl, ?_, ⟨_, rfl⟩, hW, hsame.mono (by decide) (by decide)⟩
                                          · show Steps p.tables e below (s₁.setTop (mkF m 129 #[.val (.int p1)] [(.int (126 : Int32)), (.int p1)])) _
                                            refine XS.icmpNo X0.here hx rfl (hb hby d2_129) rfl (teq hc129).2 ?_
                                            show Steps p.tables e below (s₁.setTop (mkF m 132 #[.val (.int p1)] [])) _
                                            refine XS.iconst X0.here hx rfl (hb hby d2_132) ?_
                                            show Steps p.tables e below (s₁.setTop (mkF m 133 #[.val (.int p1)] [(.int (1 : Int32))])) _
                                            refine XS.goto X0.here hx rfl (pc0 := 133) (pc' := 137) rfl (hb hby d2_133) (by decide) (by decide) ?_
                                            show Steps p.tables e below (s₁.setTop (mkF m 137 #[.val (.int p1)] [(.int (1 : Int32))])) _
                                            exact retN X0 hx (t := .boolean) Bd.returns (by simp) (hb hby d2_137) hr
                                          · show Q2 Z p1 h0 n0 _ s₁.heap _
                                            rw [e0]
                                            exact ⟨by rw [eq199], N0, rfl⟩
                                        · have eq200 : (f2 p1) = (0 : Int32) := by unfold f2; simp only [if_neg hc3, if_pos hc9, if_pos hc17, if_neg hc31, if_pos hc37, if_neg hc45, if_neg hc51, if_neg hc57, if_neg hc63, if_neg hc69, if_neg hc75, if_neg hc81, if_neg hc87, if_neg hc93, if_neg hc99, if_neg hc105, if_neg hc111, if_neg hc117, if_neg hc123, if_neg hc129]
                                          obtain ⟨fs, hr, hrun, hended, hW, hsame⟩ := X0.leave (v := some (.int (0 : Int32))) (fun h => by rw [Bd.returns] at h; cases h)
                                          refine ⟨_, _, pre198 _ ?_, hrun, hended, _, _, rfl, ?_, ⟨_, rfl⟩, hW, hsame.mono (by decide) (by decide)⟩
                                          · show Steps p.tables e below (s₁.setTop (mkF m 129 #[.val (.int p1)] [(.int (126 : Int32)), (.int p1)])) _
                                            refine XS.icmpYes X0.here hx rfl (pc0 := 129) (pc' := 136) rfl (hb hby d2_129) rfl (feq hc129).2 (by decide) (by decide) ?_
                                            show Steps p.tables e below (s₁.setTop (mkF m 136 #[.val (.int p1)] [])) _
                                            refine XS.iconst X0.here hx rfl (hb hby d2_136) ?_
                                            show Steps p.tables e below (s₁.setTop (mkF m 137 #[.val (.int p1)] [(.int (0 : Int32))])) _
                                            exact retN X0 hx (t := .boolean) Bd.returns (by simp) (hb hby d2_137) hr
                                          · show Q2 Z p1 h0 n0 _ s₁.heap _
                                            rw [e0]
                                            exact ⟨by rw [eq200], N0, rfl⟩
          · have eq201 : (f2 p1) = (1 : Int32) := by unfold f2; simp only [if_neg hc3, if_pos hc9, if_pos hc17, if_neg hc31, if_neg hc37]
            obtain ⟨fs, hr, hrun, hended, hW, hsame⟩ := X0.leave (v := some (.int (1 : Int32))) (fun h => by rw [Bd.returns] at h; cases h)
            refine ⟨_, _, pre169 _ ?_, hrun, hended, _, _, rfl, ?_, ⟨_, rfl⟩, hW, hsame.mono (by decide) (by decide)⟩
            · show Steps p.tables e below (s₁.setTop (mkF m 37 #[.val (.int p1)] [(.int (122 : Int32)), (.int p1)])) _
              refine XS.icmpNo X0.here hx rfl (hb hby d2_37) rfl (flt hc37).2.2.1 ?_
              show Steps p.tables e below (s₁.setTop (mkF m 40 #[.val (.int p1)] [])) _
              refine XS.iconst X0.here hx rfl (hb hby d2_40) ?_
              show Steps p.tables e below (s₁.setTop (mkF m 41 #[.val (.int p1)] [(.int (1 : Int32))])) _
              exact retN X0 hx (t := .boolean) Bd.returns (by simp) (hb hby d2_41) hr
            · show Q2 Z p1 h0 n0 _ s₁.heap _
              rw [e0]
              exact ⟨by rw [eq201], N0, rfl⟩
      · have pre202 : ∀ t, Steps p.tables e below (s₁.setTop (mkF m 23 #[.val (.int p1)] [(.int (90 : Int32)), (.int p1)])) t → Steps p.tables e below (s₁.setTop (entryFrame m #[(.int p1)] 1)) t := by
          intro t k
          refine pre136 t ?_
          show Steps p.tables e below (s₁.setTop (mkF m 17 #[.val (.int p1)] [(.int (65 : Int32)), (.int p1)])) _
          refine XS.icmpNo X0.here hx rfl (hb hby d2_17) rfl (flt hc17).1 ?_
          show Steps p.tables e below (s₁.setTop (mkF m 20 #[.val (.int p1)] [])) _
          refine XS.iloadN X0.here hx rfl (hb hby d2_20) rfl ?_
          show Steps p.tables e below (s₁.setTop (mkF m 21 #[.val (.int p1)] [(.int p1)])) _
          refine XS.bipush X0.here hx rfl (hb hby d2_21) ?_
          exact k
        by_cases hc23 : (90 : Int32) < p1
        · have pre203 : ∀ t, Steps p.tables e below (s₁.setTop (mkF m 31 #[.val (.int p1)] [(.int (97 : Int32)), (.int p1)])) t → Steps p.tables e below (s₁.setTop (entryFrame m #[(.int p1)] 1)) t := by
            intro t k
            refine pre202 t ?_
            show Steps p.tables e below (s₁.setTop (mkF m 23 #[.val (.int p1)] [(.int (90 : Int32)), (.int p1)])) _
            refine XS.icmpYes X0.here hx rfl (pc0 := 23) (pc' := 28) rfl (hb hby d2_23) rfl (tlt hc23).2.2.1 (by decide) (by decide) ?_
            show Steps p.tables e below (s₁.setTop (mkF m 28 #[.val (.int p1)] [])) _
            refine XS.iloadN X0.here hx rfl (hb hby d2_28) rfl ?_
            show Steps p.tables e below (s₁.setTop (mkF m 29 #[.val (.int p1)] [(.int p1)])) _
            refine XS.bipush X0.here hx rfl (hb hby d2_29) ?_
            exact k
          by_cases hc31 : p1 < (97 : Int32)
          · have pre204 : ∀ t, Steps p.tables e below (s₁.setTop (mkF m 45 #[.val (.int p1)] [(.int (33 : Int32)), (.int p1)])) t → Steps p.tables e below (s₁.setTop (entryFrame m #[(.int p1)] 1)) t := by
              intro t k
              refine pre203 t ?_
              show Steps p.tables e below (s₁.setTop (mkF m 31 #[.val (.int p1)] [(.int (97 : Int32)), (.int p1)])) _
              refine XS.icmpYes X0.here hx rfl (pc0 := 31) (pc' := 42) rfl (hb hby d2_31) rfl (tlt hc31).1 (by decide) (by decide) ?_
              show Steps p.tables e below (s₁.setTop (mkF m 42 #[.val (.int p1)] [])) _
              refine XS.iloadN X0.here hx rfl (hb hby d2_42) rfl ?_
              show Steps p.tables e below (s₁.setTop (mkF m 43 #[.val (.int p1)] [(.int p1)])) _
              refine XS.bipush X0.here hx rfl (hb hby d2_43) ?_
              exact k
            by_cases hc45 : p1 = (33 : Int32)
            · have eq205 : (f2 p1) = (1 : Int32) := by unfold f2; simp only [if_neg hc3, if_pos hc9, if_neg hc17, if_pos hc23, if_pos hc31, if_pos hc45]
              obtain ⟨fs, hr, hrun, hended, hW, hsame⟩ := X0.leave (v := some (.int (1 : Int32))) (fun h => by rw [Bd.returns] at h; cases h)
              refine ⟨_, _, pre204 _ ?_, hrun, hended, _, _, rfl, ?_, ⟨_, rfl⟩, hW, hsame.mono (by decide) (by decide)⟩
              · show Steps p.tables e below (s₁.setTop (mkF m 45 #[.val (.int p1)] [(.int (33 : Int32)), (.int p1)])) _
                refine XS.icmpYes X0.here hx rfl (pc0 := 45) (pc' := 132) rfl (hb hby d2_45) rfl (teq hc45).1 (by decide) (by decide) ?_
                show Steps p.tables e below (s₁.setTop (mkF m 132 #[.val (.int p1)] [])) _
                refine XS.iconst X0.here hx rfl (hb hby d2_132) ?_
                show Steps p.tables e below (s₁.setTop (mkF m 133 #[.val (.int p1)] [(.int (1 : Int32))])) _
                refine XS.goto X0.here hx rfl (pc0 := 133) (pc' := 137) rfl (hb hby d2_133) (by decide) (by decide) ?_
                show Steps p.tables e below (s₁.setTop (mkF m 137 #[.val (.int p1)] [(.int (1 : Int32))])) _
                exact retN X0 hx (t := .boolean) Bd.returns (by simp) (hb hby d2_137) hr
              · show Q2 Z p1 h0 n0 _ s₁.heap _
                rw [e0]
                exact ⟨by rw [eq205], N0, rfl⟩
            · have pre206 : ∀ t, Steps p.tables e below (s₁.setTop (mkF m 51 #[.val (.int p1)] [(.int (35 : Int32)), (.int p1)])) t → Steps p.tables e below (s₁.setTop (entryFrame m #[(.int p1)] 1)) t := by
                intro t k
                refine pre204 t ?_
                show Steps p.tables e below (s₁.setTop (mkF m 45 #[.val (.int p1)] [(.int (33 : Int32)), (.int p1)])) _
                refine XS.icmpNo X0.here hx rfl (hb hby d2_45) rfl (feq hc45).1 ?_
                show Steps p.tables e below (s₁.setTop (mkF m 48 #[.val (.int p1)] [])) _
                refine XS.iloadN X0.here hx rfl (hb hby d2_48) rfl ?_
                show Steps p.tables e below (s₁.setTop (mkF m 49 #[.val (.int p1)] [(.int p1)])) _
                refine XS.bipush X0.here hx rfl (hb hby d2_49) ?_
                exact k
              by_cases hc51 : p1 = (35 : Int32)
              · have eq207 : (f2 p1) = (1 : Int32) := by unfold f2; simp only [if_neg hc3, if_pos hc9, if_neg hc17, if_pos hc23, if_pos hc31, if_neg hc45, if_pos hc51]
                obtain ⟨fs, hr, hrun, hended, hW, hsame⟩ := X0.leave (v := some (.int (1 : Int32))) (fun h => by rw [Bd.returns] at h; cases h)
                refine ⟨_, _, pre206 _ ?_, hrun, hended, _, _, rfl, ?_, ⟨_, rfl⟩, hW, hsame.mono (by decide) (by decide)⟩
                · show Steps p.tables e below (s₁.setTop (mkF m 51 #[.val (.int p1)] [(.int (35 : Int32)), (.int p1)])) _
                  refine XS.icmpYes X0.here hx rfl (pc0 := 51) (pc' := 132) rfl (hb hby d2_51) rfl (teq hc51).1 (by decide) (by decide) ?_
                  show Steps p.tables e below (s₁.setTop (mkF m 132 #[.val (.int p1)] [])) _
                  refine XS.iconst X0.here hx rfl (hb hby d2_132) ?_
                  show Steps p.tables e below (s₁.setTop (mkF m 133 #[.val (.int p1)] [(.int (1 : Int32))])) _
                  refine XS.goto X0.here hx rfl (pc0 := 133) (pc' := 137) rfl (hb hby d2_133) (by decide) (by decide) ?_
                  show Steps p.tables e below (s₁.setTop (mkF m 137 #[.val (.int p1)] [(.int (1 : Int32))])) _
                  exact retN X0 hx (t := .boolean) Bd.returns (by simp) (hb hby d2_137) hr
                · show Q2 Z p1 h0 n0 _ s₁.heap _
                  rw [e0]
                  exact ⟨by rw [eq207], N0, rfl⟩
              · have pre208 : ∀ t, Steps p.tables e below (s₁.setTop (mkF m 57 #[.val (.int p1)] [(.int (36 : Int32)), (.int p1)])) t → Steps p.tables e below (s₁.setTop (entryFrame m #[(.int p1)] 1)) t := by
                  intro t k
                  refine pre206 t ?_
                  show Steps p.tables e below (s₁.setTop (mkF m 51 #[.val (.int p1)] [(.int (35 : Int32)), (.int p1)])) _
                  refine XS.icmpNo X0.here hx rfl (hb hby d2_51) rfl (feq hc51).1 ?_
                  show Steps p.tables e below (s₁.setTop (mkF m 54 #[.val (.int p1)] [])) _
                  refine XS.iloadN X0.here hx rfl (hb hby d2_54) rfl ?_
                  show Steps p.tables e below (s₁.setTop (mkF m 55 #[.val (.int p1)] [(.int p1)])) _
                  refine XS.bipush X0.here hx rfl (hb hby d2_55) ?_
                  exact k
                by_cases hc57 : p1 = (36 : Int32)
                · have eq209 : (f2 p1) = (1 : Int32) := by unfold f2; simp only [if_neg hc3, if_pos hc9, if_neg hc17, if_pos hc23, if_pos hc31, if_neg hc45, if_neg hc51, if_pos hc57]
                  obtain ⟨fs, hr, hrun, hended, hW, hsame⟩ := X0.leave (v := some (.int (1 : Int32))) (fun h => by rw [Bd.returns] at h; cases h)
                  refine ⟨_, _, pre208 _ ?_, hrun, hended, _, _, rfl, ?_, ⟨_, rfl⟩, hW, hsame.mono (by decide) (by decide)⟩
                  · show Steps p.tables e below (s₁.setTop (mkF m 57 #[.val (.int p1)] [(.int (36 : Int32)), (.int p1)])) _
                    refine XS.icmpYes X0.here hx rfl (pc0 := 57) (pc' := 132) rfl (hb hby d2_57) rfl (teq hc57).1 (by decide) (by decide) ?_
                    show Steps p.tables e below (s₁.setTop (mkF m 132 #[.val (.int p1)] [])) _
                    refine XS.iconst X0.here hx rfl (hb hby d2_132) ?_
                    show Steps p.tables e below (s₁.setTop (mkF m 133 #[.val (.int p1)] [(.int (1 : Int32))])) _
                    refine XS.goto X0.here hx rfl (pc0 := 133) (pc' := 137) rfl (hb hby d2_133) (by decide) (by decide) ?_
                    show Steps p.tables e below (s₁.setTop (mkF m 137 #[.val (.int p1)] [(.int (1 : Int32))])) _
                    exact retN X0 hx (t := .boolean) Bd.returns (by simp) (hb hby d2_137) hr
                  · show Q2 Z p1 h0 n0 _ s₁.heap _
                    rw [e0]
                    exact ⟨by rw [eq209], N0, rfl⟩
                · have pre210 : ∀ t, Steps p.tables e below (s₁.setTop (mkF m 63 #[.val (.int p1)] [(.int (37 : Int32)), (.int p1)])) t → Steps p.tables e below (s₁.setTop (entryFrame m #[(.int p1)] 1)) t := by
                    intro t k
                    refine pre208 t ?_
                    show Steps p.tables e below (s₁.setTop (mkF m 57 #[.val (.int p1)] [(.int (36 : Int32)), (.int p1)])) _
                    refine XS.icmpNo X0.here hx rfl (hb hby d2_57) rfl (feq hc57).1 ?_
                    show Steps p.tables e below (s₁.setTop (mkF m 60 #[.val (.int p1)] [])) _
                    refine XS.iloadN X0.here hx rfl (hb hby d2_60) rfl ?_
                    show Steps p.tables e below (s₁.setTop (mkF m 61 #[.val (.int p1)] [(.int p1)])) _
                    refine XS.bipush X0.here hx rfl (hb hby d2_61) ?_
                    exact k
                  by_cases hc63 : p1 = (37 : Int32)
                  · have eq211 : (f2 p1) = (1 : Int32) := by unfold f2; simp only [if_neg hc3, if_pos hc9, if_neg hc17, if_pos hc23, if_pos hc31, if_neg hc45, if_neg hc51, if_neg hc57, if_pos hc63]
                    obtain ⟨fs, hr, hrun, hended, hW, hsame⟩ := X0.leave (v := some (.int (1 : Int32))) (fun h => by rw [Bd.returns] at h; cases h)
                    refine ⟨_, _, pre210 _ ?_, hrun, hended, _, _, rfl, ?_, ⟨_, rfl⟩, hW, hsame.mono (by decide) (by decide)⟩
                    · show Steps p.tables e below (s₁.setTop (mkF m 63 #[.val (.int p1)] [(.int (37 : Int32)), (.int p1)])) _
                      refine XS.icmpYes X0.here hx rfl (pc0 := 63) (pc' := 132) rfl (hb hby d2_63) rfl (teq hc63).1 (by decide) (by decide) ?_
                      show Steps p.tables e below (s₁.setTop (mkF m 132 #[.val (.int p1)] [])) _
                      refine XS.iconst X0.here hx rfl (hb hby d2_132) ?_
                      show Steps p.tables e below (s₁.setTop (mkF m 133 #[.val (.int p1)] [(.int (1 : Int32))])) _
                      refine XS.goto X0.here hx rfl (pc0 := 133) (pc' := 137) rfl (hb hby d2_133) (by decide) (by decide) ?_
                      show Steps p.tables e below (s₁.setTop (mkF m 137 #[.val (.int p1)] [(.int (1 : Int32))])) _
                      exact retN X0 hx (t := .boolean) Bd.returns (by simp) (hb hby d2_137) hr
                    · show Q2 Z p1 h0 n0 _ s₁.heap _
                      rw [e0]
                      exact ⟨by rw [eq211], N0, rfl⟩
                  · have pre212 : ∀ t, Steps p.tables e below (s₁.setTop (mkF m 69 #[.val (.int p1)] [(.int (38 : Int32)), (.int p1)])) t → Steps p.tables e below (s₁.setTop (entryFrame m #[(.int p1)] 1)) t := by
                      intro t k
                      refine pre210 t ?_
                      show Steps p.tables e below (s₁.setTop (mkF m 63 #[.val (.int p1)] [(.int (37 : Int32)), (.int p1)])) _
                      refine XS.icmpNo X0.here hx rfl (hb hby d2_63) rfl (feq hc63).1 ?_
                      show Steps p.tables e below (s₁.setTop (mkF m 66 #[.val (.int p1)] [])) _
                      refine XS.iloadN X0.here hx rfl (hb hby d2_66) rfl ?_
                      show Steps p.tables e below (s₁.setTop (mkF m 67 #[.val (.int p1)] [(.int p1)])) _
                      refine XS.bipush X0.here hx rfl (hb hby d2_67) ?_
                      exact k
                    by_cases hc69 : p1 = (38 : Int32)
                    · have eq213 : (f2 p1) = (1 : Int32) := by unfold f2; simp only [if_neg hc3, if_pos hc9, if_neg hc17, if_pos hc23, if_pos hc31, if_neg hc45, if_neg hc51, if_neg hc57, if_neg hc63, if_pos hc69]
                      obtain ⟨fs, hr, hrun, hended, hW, hsame⟩ := X0.leave (v := some (.int (1 : Int32))) (fun h => by rw [Bd.returns] at h; cases h)
                      refine ⟨_, _, pre212 _ ?_, hrun, hended, _, _, rfl, ?_, ⟨_, rfl⟩, hW, hsame.mono (by decide) (by decide)⟩
                      · show Steps p.tables e below (s₁.setTop (mkF m 69 #[.val (.int p1)] [(.int (38 : Int32)), (.int p1)])) _
                        refine XS.icmpYes X0.here hx rfl (pc0 := 69) (pc' := 132) rfl (hb hby d2_69) rfl (teq hc69).1 (by decide) (by decide) ?_
                        show Steps p.tables e below (s₁.setTop (mkF m 132 #[.val (.int p1)] [])) _
                        refine XS.iconst X0.here hx rfl (hb hby d2_132) ?_
                        show Steps p.tables e below (s₁.setTop (mkF m 133 #[.val (.int p1)] [(.int (1 : Int32))])) _
                        refine XS.goto X0.here hx rfl (pc0 := 133) (pc' := 137) rfl (hb hby d2_133) (by decide) (by decide) ?_
                        show Steps p.tables e below (s₁.setTop (mkF m 137 #[.val (.int p1)] [(.int (1 : Int32))])) _
                        exact retN X0 hx (t := .boolean) Bd.returns (by simp) (hb hby d2_137) hr
                      · show Q2 Z p1 h0 n0 _ s₁.heap _
                        rw [e0]
                        exact ⟨by rw [eq213], N0, rfl⟩
                    · have pre214 : ∀ t, Steps p.tables e below (s₁.setTop (mkF m 75 #[.val (.int p1)] [(.int (39 : Int32)), (.int p1)])) t → Steps p.tables e below (s₁.setTop (entryFrame m #[(.int p1)] 1)) t := by
                        intro t k
                        refine pre212 t ?_
                        show Steps p.tables e below (s₁.setTop (mkF m 69 #[.val (.int p1)] [(.int (38 : Int32)), (.int p1)])) _
                        refine XS.icmpNo X0.here hx rfl (hb hby d2_69) rfl (feq hc69).1 ?_
                        show Steps p.tables e below (s₁.setTop (mkF m 72 #[.val (.int p1)] [])) _
                        refine XS.iloadN X0.here hx rfl (hb hby d2_72) rfl ?_
                        show Steps p.tables e below (s₁.setTop (mkF m 73 #[.val (.int p1)] [(.int p1)])) _
                        refine XS.bipush X0.here hx rfl (hb hby d2_73) ?_
                        exact k
                      by_cases hc75 : p1 = (39 : Int32)
                      · have eq215 : (f2 p1) = (1 : Int32) := by unfold f2; simp only [if_neg hc3, if_pos hc9, if_neg hc17, if_pos hc23, if_pos hc31, if_neg hc45, if_neg hc51, if_neg hc57, if_neg hc63, if_neg hc69, if_pos hc75]
                        obtain ⟨fs, hr, hrun, hended, hW, hsame⟩ := X0.leave (v := some (.int (1 : Int32))) (fun h => by rw [Bd.returns] at h; cases h)
                        refine ⟨_, _, pre214 _ ?_, hrun, hended, _, _, rfl, ?_, ⟨_, rfl⟩, hW, hsame.mono (by decide) (by decide)⟩
                        · show Steps p.tables e below (s₁.setTop (mkF m 75 #[.val (.int p1)] [(.int (39 : Int32)), (.int p1)])) _
                          refine XS.icmpYes X0.here hx rfl (pc0 := 75) (pc' := 132) rfl (hb hby d2_75) rfl (teq hc75).1 (by decide) (by decide) ?_
                          show Steps p.tables e below (s₁.setTop (mkF m 132 #[.val (.int p1)] [])) _
                          refine XS.iconst X0.here hx rfl (hb hby d2_132) ?_
                          show Steps p.tables e below (s₁.setTop (mkF m 133 #[.val (.int p1)] [(.int (1 : Int32))])) _
                          refine XS.goto X0.here hx rfl (pc0 := 133) (pc' := 137) rfl (hb hby d2_133) (by decide) (by decide) ?_
                          show Steps p.tables e below (s₁.setTop (mkF m 137 #[.val (.int p1)] [(.int (1 : Int32))])) _
                          exact retN X0 hx (t := .boolean) Bd.returns (by simp) (hb hby d2_137) hr
                        · show Q2 Z p1 h0 n0 _ s₁.heap _
                          rw [e0]
                          exact ⟨by rw [eq215], N0, rfl⟩
                      · have pre216 : ∀ t, Steps p.tables e below (s₁.setTop (mkF m 81 #[.val (.int p1)] [(.int (42 : Int32)), (.int p1)])) t → Steps p.tables e below (s₁.setTop (entryFrame m #[(.int p1)] 1)) t := by
                          intro t k
                          refine pre214 t ?_
                          show Steps p.tables e below (s₁.setTop (mkF m 75 #[.val (.int p1)] [(.int (39 : Int32)), (.int p1)])) _
                          refine XS.icmpNo X0.here hx rfl (hb hby d2_75) rfl (feq hc75).1 ?_
                          show Steps p.tables e below (s₁.setTop (mkF m 78 #[.val (.int p1)] [])) _
                          refine XS.iloadN X0.here hx rfl (hb hby d2_78) rfl ?_
                          show Steps p.tables e below (s₁.setTop (mkF m 79 #[.val (.int p1)] [(.int p1)])) _
                          refine XS.bipush X0.here hx rfl (hb hby d2_79) ?_
                          exact k
                        by_cases hc81 : p1 = (42 : Int32)
                        · have eq217 : (f2 p1) = (1 : Int32) := by unfold f2; simp only [if_neg hc3, if_pos hc9, if_neg hc17, if_pos hc23, if_pos hc31, if_neg hc45, if_neg hc51, if_neg hc57, if_neg hc63, if_neg hc69, if_neg hc75, if_pos hc81]
                          obtain ⟨fs, hr, hrun, hended, hW, hsame⟩ := X0.leave (v := some (.int (1 : Int32))) (fun h => by rw [Bd.returns] at h; cases h)
                          refine ⟨_, _, pre216 _ ?_, hrun, hended, _, _, rfl, ?_, ⟨_, rfl⟩, hW, hsame.mono (by decide) (by decide)⟩
                          · show Steps p.tables e below (s₁.setTop (mkF m 81 #[.val (.int p1)] [(.int (42 : Int32)), (.int p1)])) _
                            refine XS.icmpYes X0.here hx rfl (pc0 := 81) (pc' := 132) rfl (hb hby d2_81) rfl (teq hc81).1 (by decide) (by decide) ?_
                            show Steps p.tables e below (s₁.setTop (mkF m 132 #[.val (.int p1)] [])) _
                            refine XS.iconst X0.here hx rfl (hb hby d2_132) ?_
                            show Steps p.tables e below (s₁.setTop (mkF m 133 #[.val (.int p1)] [(.int (1 : Int32))])) _
                            refine XS.goto X0.here hx rfl (pc0 := 133) (pc' := 137) rfl (hb hby d2_133) (by decide) (by decide) ?_
                            show Steps p.tables e below (s₁.setTop (mkF m 137 #[.val (.int p1)] [(.int (1 : Int32))])) _
                            exact retN X0 hx (t := .boolean) Bd.returns (by simp) (hb hby d2_137) hr
                          · show Q2 Z p1 h0 n0 _ s₁.heap _
                            rw [e0]
                            exact ⟨by rw [eq217], N0, rfl⟩
                        · have pre218 : ∀ t, Steps p.tables e below (s₁.setTop (mkF m 87 #[.val (.int p1)] [(.int (43 : Int32)), (.int p1)])) t → Steps p.tables e below (s₁.setTop (entryFrame m #[(.int p1)] 1)) t := by
                            intro t k
                            refine pre216 t ?_
                            show Steps p.tables e below (s₁.setTop (mkF m 81 #[.val (.int p1)] [(.int (42 : Int32)), (.int p1)])) _
                            refine XS.icmpNo X0.here hx rfl (hb hby d2_81) rfl (feq hc81).1 ?_
                            show Steps p.tables e below (s₁.setTop (mkF m 84 #[.val (.int p1)] [])) _
                            refine XS.iloadN X0.here hx rfl (hb hby d2_84) rfl ?_
                            show Steps p.tables e below (s₁.setTop (mkF m 85 #[.val (.int p1)] [(.int p1)])) _
                            refine XS.bipush X0.here hx rfl (hb hby d2_85) ?_
                            exact k
                          by_cases hc87 : p1 = (43 : Int32)
                          · have eq219 : (f2 p1) = (1 : Int32) := by unfold f2; simp only [if_neg hc3, if_pos hc9, if_neg hc17, if_pos hc23, if_pos hc31, if_neg hc45, if_neg hc51, if_neg hc57, if_neg hc63, if_neg hc69, if_neg hc75, if_neg hc81, if_pos hc87]
                            obtain ⟨fs, hr, hrun, hended, hW, hsame⟩ := X0.leave (v := some (.int (1 : Int32))) (fun h => by rw [Bd.returns] at h; cases h)
                            refine ⟨_, _, pre218 _ ?_, hrun, hended, _, _, rfl, ?_, ⟨_, rfl⟩, hW, hsame.mono (by decide) (by decide)⟩
                            · show Steps p.tables e below (s₁.setTop (mkF m 87 #[.val (.int p1)] [(.int (43 : Int32)), (.int p1)])) _
                              refine XS.icmpYes X0.here hx rfl (pc0 := 87) (pc' := 132) rfl (hb hby d2_87) rfl (teq hc87).1 (by decide) (by decide) ?_
                              show Steps p.tables e below (s₁.setTop (mkF m 132 #[.val (.int p1)] [])) _
                              refine XS.iconst X0.here hx rfl (hb hby d2_132) ?_
                              show Steps p.tables e below (s₁.setTop (mkF m 133 #[.val (.int p1)] [(.int (1 : Int32))])) _
                              refine XS.goto X0.here hx rfl (pc0 := 133) (pc' := 137) rfl (hb hby d2_133) (by decide) (by decide) ?_
                              show Steps p.tables e below (s₁.setTop (mkF m 137 #[.val (.int p1)] [(.int (1 : Int32))])) _
                              exact retN X0 hx (t := .boolean) Bd.returns (by simp) (hb hby d2_137) hr
                            · show Q2 Z p1 h0 n0 _ s₁.heap _
                              rw [e0]
                              exact ⟨by rw [eq219], N0, rfl⟩
                          · have pre220 : ∀ t, Steps p.tables e below (s₁.setTop (mkF m 93 #[.val (.int p1)] [(.int (45 : Int32)), (.int p1)])) t → Steps p.tables e below (s₁.setTop (entryFrame m #[(.int p1)] 1)) t := by
                              intro t k
                              refine pre218 t ?_
                              show Steps p.tables e below (s₁.setTop (mkF m 87 #[.val (.int p1)] [(.int (43 : Int32)), (.int p1)])) _
                              refine XS.icmpNo X0.here hx rfl (hb hby d2_87) rfl (feq hc87).1 ?_
                              show Steps p.tables e below (s₁.setTop (mkF m 90 #[.val (.int p1)] [])) _
                              refine XS.iloadN X0.here hx rfl (hb hby d2_90) rfl ?_
                              show Steps p.tables e below (s₁.setTop (mkF m 91 #[.val (.int p1)] [(.int p1)])) _
                              refine XS.bipush X0.here hx rfl (hb hby d2_91) ?_
                              exact k
                            by_cases hc93 : p1 = (45 : Int32)
                            · have eq221 : (f2 p1) = (1 : Int32) := by unfold f2; simp only [if_neg hc3, if_pos hc9, if_neg hc17, if_pos hc23, if_pos hc31, if_neg hc45, if_neg hc51, if_neg hc57, if_neg hc63, if_neg hc69, if_neg hc75, if_neg hc81, if_neg hc87, if_pos hc93]
                              obtain ⟨fs, hr, hrun, hended, hW, hsame⟩ := X0.leave (v := some (.int (1 : Int32))) (fun h => by rw [Bd.returns] at h; cases h)
                              refine ⟨_, _, pre220 _ ?_, hrun, hended, _, _, rfl, ?_, ⟨_, rfl⟩, hW, hsame.mono (by decide) (by decide)⟩
                              · show Steps p.tables e below (s₁.setTop (mkF m 93 #[.val (.int p1)] [(.int (45 : Int32)), (.int p1)])) _
                                refine XS.icmpYes X0.here hx rfl (pc0 := 93) (pc' := 132) rfl (hb hby d2_93) rfl (teq hc93).1 (by decide) (by decide) ?_
                                show Steps p.tables e below (s₁.setTop (mkF m 132 #[.val (.int p1)] [])) _
                                refine XS.iconst X0.here hx rfl (hb hby d2_132) ?_
                                show Steps p.tables e below (s₁.setTop (mkF m 133 #[.val (.int p1)] [(.int (1 : Int32))])) _
                                refine XS.goto X0.here hx rfl (pc0 := 133) (pc' := 137) rfl (hb hby d2_133) (by decide) (by decide) ?_
                                show Steps p.tables e below (s₁.setTop (mkF m 137 #[.val (.int p1)] [(.int (1 : Int32))])) _
                                exact retN X0 hx (t := .boolean) Bd.returns (by simp) (hb hby d2_137) hr
                              · show Q2 Z p1 h0 n0 _ s₁.heap _
                                rw [e0]
                                exact ⟨by rw [eq221], N0, rfl⟩
                            · have pre222 : ∀ t, Steps p.tables e below (s₁.setTop (mkF m 99 #[.val (.int p1)] [(.int (46 : Int32)), (.int p1)])) t → Steps p.tables e below (s₁.setTop (entryFrame m #[(.int p1)] 1)) t := by
                                intro t k
                                refine pre220 t ?_
                                show Steps p.tables e below (s₁.setTop (mkF m 93 #[.val (.int p1)] [(.int (45 : Int32)), (.int p1)])) _
                                refine XS.icmpNo X0.here hx rfl (hb hby d2_93) rfl (feq hc93).1 ?_
                                show Steps p.tables e below (s₁.setTop (mkF m 96 #[.val (.int p1)] [])) _
                                refine XS.iloadN X0.here hx rfl (hb hby d2_96) rfl ?_
                                show Steps p.tables e below (s₁.setTop (mkF m 97 #[.val (.int p1)] [(.int p1)])) _
                                refine XS.bipush X0.here hx rfl (hb hby d2_97) ?_
                                exact k
                              by_cases hc99 : p1 = (46 : Int32)
                              · have eq223 : (f2 p1) = (1 : Int32) := by unfold f2; simp only [if_neg hc3, if_pos hc9, if_neg hc17, if_pos hc23, if_pos hc31, if_neg hc45, if_neg hc51, if_neg hc57, if_neg hc63, if_neg hc69, if_neg hc75, if_neg hc81, if_neg hc87, if_neg hc93, if_pos hc99]
                                obtain ⟨fs, hr, hrun, hended, hW, hsame⟩ := X0.leave (v := some (.int (1 : Int32))) (fun h => by rw [Bd.returns] at h; cases h)
                                refine ⟨_, _, pre222 _ ?_, hrun, hended, _, _, rfl, ?_, ⟨_, rfl⟩, hW, hsame.mono (by decide) (by decide)⟩
                                · show Steps p.tables e below (s₁.setTop (mkF m 99 #[.val (.int p1)] [(.int (46 : Int32)), (.int p1)])) _
                                  refine XS.icmpYes X0.here hx rfl (pc0 := 99) (pc' := 132) rfl (hb hby d2_99) rfl (teq hc99).1 (by decide) (by decide) ?_
                                  show Steps p.tables e below (s₁.setTop (mkF m 132 #[.val (.int p1)] [])) _
                                  refine XS.iconst X0.here hx rfl (hb hby d2_132) ?_
                                  show Steps p.tables e below (s₁.setTop (mkF m 133 #[.val (.int p1)] [(.int (1 : Int32))])) _
                                  refine XS.goto X0.here hx rfl (pc0 := 133) (pc' := 137) rfl (hb hby d2_133) (by decide) (by decide) ?_
                                  show Steps p.tables e below (s₁.setTop (mkF m 137 #[.val (.int p1)] [(.int (1 : Int32))])) _
                                  exact retN X0 hx (t := .boolean) Bd.returns (by simp) (hb hby d2_137) hr
                                · show Q2 Z p1 h0 n0 _ s₁.heap _
                                  rw [e0]
                                  exact ⟨by rw [eq223], N0, rfl⟩
                              · have pre224 : ∀ t, Steps p.tables e below (s₁.setTop (mkF m 105 #[.val (.int p1)] [(.int (94 : Int32)), (.int p1)])) t → Steps p.tables e below (s₁.setTop (entryFrame m #[(.int p1)] 1)) t := by
                                  intro t k
                                  refine pre222 t ?_
                                  show Steps p.tables e below (s₁.setTop (mkF m 99 #[.val (.int p1)] [(.int (46 : Int32)), (.int p1)])) _
                                  refine XS.icmpNo X0.here hx rfl (hb hby d2_99) rfl (feq hc99).1 ?_
                                  show Steps p.tables e below (s₁.setTop (mkF m 102 #[.val (.int p1)] [])) _
                                  refine XS.iloadN X0.here hx rfl (hb hby d2_102) rfl ?_
                                  show Steps p.tables e below (s₁.setTop (mkF m 103 #[.val (.int p1)] [(.int p1)])) _
                                  refine XS.bipush X0.here hx rfl (hb hby d2_103) ?_
                                  exact k
                                by_cases hc105 : p1 = (94 : Int32)
                                · have eq225 : (f2 p1) = (1 : Int32) := by unfold f2; simp only [if_neg hc3, if_pos hc9, if_neg hc17, if_pos hc23, if_pos hc31, if_neg hc45, if_neg hc51, if_neg hc57, if_neg hc63, if_neg hc69, if_neg hc75, if_neg hc81, if_neg hc87, if_neg hc93, if_neg hc99, if_pos hc105]
                                  obtain ⟨fs, hr, hrun, hended, hW, hsame⟩ := X0.leave (v := some (.int (1 : Int32))) (fun h => by rw [Bd.returns] at h; cases h)
                                  refine ⟨_, _, pre224 _ ?_, hrun, hended, _, _, rfl, ?_, ⟨_, rfl⟩, hW, hsame.mono (by decide) (by decide)⟩
                                  · show Steps p.tables e below (s₁.setTop (mkF m 105 #[.val (.int p1)] [(.int (94 : Int32)), (.int p1)])) _
                                    refine XS.icmpYes X0.here hx rfl (pc0 := 105) (pc' := 132) rfl (hb hby d2_105) rfl (teq hc105).1 (by decide) (by decide) ?_
                                    show Steps p.tables e below (s₁.setTop (mkF m 132 #[.val (.int p1)] [])) _
                                    refine XS.iconst X0.here hx rfl (hb hby d2_132) ?_
                                    show Steps p.tables e below (s₁.setTop (mkF m 133 #[.val (.int p1)] [(.int (1 : Int32))])) _
                                    refine XS.goto X0.here hx rfl (pc0 := 133) (pc' := 137) rfl (hb hby d2_133) (by decide) (by decide) ?_
                                    show Steps p.tables e below (s₁.setTop (mkF m 137 #[.val (.int p1)] [(.int (1 : Int32))])) _
                                    exact retN X0 hx (t := .boolean) Bd.returns (by simp) (hb hby d2_137) hr
                                  · show Q2 Z p1 h0 n0 _ s₁.heap _
                                    rw [e0]
                                    exact ⟨by rw [eq225], N0, rfl⟩
                                · have pre226 : ∀ t, Steps p.tables e below (s₁.setTop (mkF m 111 #[.val (.int p1)] [(.int (95 : Int32)), (.int p1)])) t → Steps p.tables e below (s₁.setTop (entryFrame m #[(.int p1)] 1)) t := by
                                    intro t k
                                    refine pre224 t ?_
                                    show Steps p.tables e below (s₁.setTop (mkF m 105 #[.val (.int p1)] [(.int (94 : Int32)), (.int p1)])) _
                                    refine XS.icmpNo X0.here hx rfl (hb hby d2_105) rfl (feq hc105).1 ?_
                                    show Steps p.tables e below (s₁.setTop (mkF m 108 #[.val (.int p1)] [])) _
                                    refine XS.iloadN X0.here hx rfl (hb hby d2_108) rfl ?_
                                    show Steps p.tables e below (s₁.setTop (mkF m 109 #[.val (.int p1)] [(.int p1)])) _
                                    refine XS.bipush X0.here hx rfl (hb hby d2_109) ?_
                                    exact k
                                  by_cases hc111 : p1 = (95 : Int32)
                                  · have eq227 : (f2 p1) = (1 : Int32) := by unfold f2; simp only [if_neg hc3, if_pos hc9, if_neg hc17, if_pos hc23, if_pos hc31, if_neg hc45, if_neg hc51, if_neg hc57, if_neg hc63, if_neg hc69, if_neg hc75, if_neg hc81, if_neg hc87, if_neg hc93, if_neg hc99, if_neg hc105, if_pos hc111]
                                    obtain ⟨fs, hr, hrun, hended, hW, hsame⟩ := X0.leave (v := some (.int (1 : Int32))) (fun h => by rw [Bd.returns] at h; cases h)
                                    refine ⟨_, _, pre226 _ ?_, hrun, hended, _, _, rfl, ?_, ⟨_, rfl⟩, hW, hsame.mono (by decide) (by decide)⟩
                                    · show Steps p.tables e below (s₁.setTop (mkF m 111 #[.val (.int p1)] [(.int (95 : Int32)), (.int p1)])) _
                                      refine XS.icmpYes X0.here hx rfl (pc0 := 111) (pc' := 132) rfl (hb hby d2_111) rfl (teq hc111).1 (by decide) (by decide) ?_
                                      show Steps p.tables e below (s₁.setTop (mkF m 132 #[.val (.int p1)] [])) _
                                      refine XS.iconst X0.here hx rfl (hb hby d2_132) ?_
                                      show Steps p.tables e below (s₁.setTop (mkF m 133 #[.val (.int p1)] [(.int (1 : Int32))])) _
                                      refine XS.goto X0.here hx rfl (pc0 := 133) (pc' := 137) rfl (hb hby d2_133) (by decide) (by decide) ?_
                                      show Steps p.tables e below (s₁.setTop (mkF m 137 #[.val (.int p1)] [(.int (1 : Int32))])) _
                                      exact retN X0 hx (t := .boolean) Bd.returns (by simp) (hb hby d2_137) hr
                                    · show Q2 Z p1 h0 n0 _ s₁.heap _
                                      rw [e0]
                                      exact ⟨by rw [eq227], N0, rfl⟩
                                  · have pre228 : ∀ t, Steps p.tables e below (s₁.setTop (mkF m 117 #[.val (.int p1)] [(.int (96 : Int32)), (.int p1)])) t → Steps p.tables e below (s₁.setTop (entryFrame m #[(.int p1)] 1)) t := by
                                      intro t k
                                      refine pre226 t ?_
                                      show Steps p.tables e below (s₁.setTop (mkF m 111 #[.val (.int p1)] [(.int (95 : Int32)), (.int p1)])) _
                                      refine XS.icmpNo X0.here hx rfl (hb hby d2_111) rfl (feq hc111).1 ?_
                                      show Steps p.tables e below (s₁.setTop (mkF m 114 #[.val (.int p1)] [])) _
                                      refine XS.iloadN X0.here hx rfl (hb hby d2_114) rfl ?_
                                      show Steps p.tables e below (s₁.setTop (mkF m 115 #[.val (.int p1)] [(.int p1)])) _
                                      refine XS.bipush X0.here hx rfl (hb hby d2_115) ?_
                                      exact k
                                    by_cases hc117 : p1 = (96 : Int32)
                                    · have eq229 : (f2 p1) = (1 : Int32) := by unfold f2; simp only [if_neg hc3, if_pos hc9, if_neg hc17, if_pos hc23, if_pos hc31, if_neg hc45, if_neg hc51, if_neg hc57, if_neg hc63, if_neg hc69, if_neg hc75, if_neg hc81, if_neg hc87, if_neg hc93, if_neg hc99, if_neg hc105, if_neg hc111, if_pos hc117]
                                      obtain ⟨fs, hr, hrun, hended, hW, hsame⟩ := X0.leave (v := some (.int (1 : Int32))) (fun h => by rw [Bd.returns] at h; cases h)
                                      refine ⟨_, _, pre228 _ ?_, hrun, hended, _, _, rfl, ?_, ⟨_, rfl⟩, hW, hsame.mono (by decide) (by decide)⟩
                                      · show Steps p.tables e below (s₁.setTop (mkF m 117 #[.val (.int p1)] [(.int (96 : Int32)), (.int p1)])) _
                                        refine XS.icmpYes X0.here hx rfl (pc0 := 117) (pc' := 132) rfl (hb hby d2_117) rfl (teq hc117).1 (by decide) (by decide) ?_
                                        show Steps p.tables e below (s₁.setTop (mkF m 132 #[.val (.int p1)] [])) _
                                        refine XS.iconst X0.here hx rfl (hb hby d2_132) ?_
                                        show Steps p.tables e below (s₁.setTop (mkF m 133 #[.val (.int p1)] [(.int (1 : Int32))])) _
                                        refine XS.goto X0.here hx rfl (pc0 := 133) (pc' := 137) rfl (hb hby d2_133) (by decide) (by decide) ?_
                                        show Steps p.tables e below (s₁.setTop (mkF m 137 #[.val (.int p1)] [(.int (1 : Int32))])) _
                                        exact retN X0 hx (t := .boolean) Bd.returns (by simp) (hb hby d2_137) hr
                                      · show Q2 Z p1 h0 n0 _ s₁.heap _
                                        rw [e0]
                                        exact ⟨by rw [eq229], N0, rfl⟩
                                    · have pre230 : ∀ t, Steps p.tables e below (s₁.setTop (mkF m 123 #[.val (.int p1)] [(.int (124 : Int32)), (.int p1)])) t → Steps p.tables e below (s₁.setTop (entryFrame m #[(.int p1)] 1)) t := by
                                        intro t k
                                        refine pre228 t ?_
                                        show Steps p.tables e below (s₁.setTop (mkF m 117 #[.val (.int p1)] [(.int (96 : Int32)), (.int p1)])) _
                                        refine XS.icmpNo X0.here hx rfl (hb hby d2_117) rfl (feq hc117).1 ?_
                                        show Steps p.tables e below (s₁.setTop (mkF m 120 #[.val (.int p1)] [])) _
                                        refine XS.iloadN X0.here hx rfl (hb hby d2_120) rfl ?_
                                        show Steps p.tables e below (s₁.setTop (mkF m 121 #[.val (.int p1)] [(.int p1)])) _
                                        refine XS.bipush X0.here hx rfl (hb hby d2_121) ?_
                                        exact k
                                      by_cases hc123 : p1 = (124 : Int32)
                                      · have eq231 : (f2 p1) = (1 : Int32) := by unfold f2; simp only [if_neg hc3, if_pos hc9, if_neg hc17, if_pos hc23, if_pos hc31, if_neg hc45, if_neg hc51, if_neg hc57, if_neg hc63, if_neg hc69, if_neg hc75, if_neg hc81, if_neg hc87, if_neg hc93, if_neg hc99, if_neg hc105, if_neg hc111, if_neg hc117, if_pos hc123]
                                        obtain ⟨fs, hr, hrun, hended, hW, hsame⟩ := X0.leave (v := some (.int (1 : Int32))) (fun h => by rw [Bd.returns] at h; cases h)
                                        refine ⟨_, _, pre230 _ ?_, hrun, hended, _, _, rfl, ?_, ⟨_, rfl⟩, hW, hsame.mono (by decide) (by decide)⟩
                                        · show Steps p.tables e below (s₁.setTop (mkF m 123 #[.val (.int p1)] [(.int (124 : Int32)), (.int p1)])) _
                                          refine XS.icmpYes X0.here hx rfl (pc0 := 123) (pc' := 132) rfl (hb hby d2_123) rfl (teq hc123).1 (by decide) (by decide) ?_
                                          show Steps p.tables e below (s₁.setTop (mkF m 132 #[.val (.int p1)] [])) _
                                          refine XS.iconst X0.here hx rfl (hb hby d2_132) ?_
                                          show Steps p.tables e below (s₁.setTop (mkF m 133 #[.val (.int p1)] [(.int (1 : Int32))])) _
                                          refine XS.goto X0.here hx rfl (pc0 := 133) (pc' := 137) rfl (hb hby d2_133) (by decide) (by decide) ?_
                                          show Steps p.tables e below (s₁.setTop (mkF m 137 #[.val (.int p1)] [(.int (1 : Int32))])) _
                                          exact retN X0 hx (t := .boolean) Bd.returns (by simp) (hb hby d2_137) hr
                                        · show Q2 Z p1 h0 n0 _ s₁.heap _
                                          rw [e0]
                                          exact ⟨by rw [eq231], N0, rfl⟩
                                      · have pre232 : ∀ t, Steps p.tables e below (s₁.setTop (mkF m 129 #[.val (.int p1)] [(.int (126 : Int32)), (.int p1)])) t → Steps p.tables e below (s₁.setTop (entryFrame m #[(.int p1)] 1)) t := by
                                          intro t k
                                          refine pre230 t ?_
                                          show Steps p.tables e below (s₁.setTop (mkF m 123 #[.val (.int p1)] [(.int (124 : Int32)), (.int p1)])) _
                                          refine XS.icmpNo X0.here hx rfl (hb hby d2_123) rfl (feq hc123).1 ?_
                                          show Steps p.tables e below (s₁.setTop (mkF m 126 #[.val (.int p1)] [])) _
                                          refine XS.iloadN X0.here hx rfl (hb hby d2_126) rfl ?_
                                          show Steps p.tables e below (s₁.setTop (mkF m 127 #[.val (.int p1)] [(.int p1)])) _
                                          refine XS.bipush X0.here hx rfl (hb hby d2_127) ?_
                                          exact k
                                        by_cases hc129 : p1 = (126 : Int32)
                                        · have eq233 : (f2 p1) = (1 : Int32) := by unfold f2; simp only [if_neg hc3, if_pos hc9, if_neg hc17, if_pos hc23, if_pos hc31, if_neg hc45, if_neg hc51, if_neg hc57, if_neg hc63, if_neg hc69, if_neg hc75, if_neg hc81, if_neg hc87, if_neg hc93, if_neg hc99, if_neg hc105, if_neg hc111, if_neg hc117, if_neg hc123, if_pos hc129]
                                          obtain ⟨fs, hr, hrun, hended, hW, hsame⟩ := X0.leave (v := some (.int (1 : Int32))) (fun h => by rw [Bd.returns] at h; cases h)
                                          refine ⟨_, _, pre232 _ ?_, hrun, hended, _, _, rfl, ?_, ⟨_, rfl⟩, hW, hsame.mono (by decide) (by decide)⟩
                                          · show Steps p.tables e below (s₁.setTop (mkF m 129 #[.val (.int p1)] [(.int (126 : Int32)), (.int p1)])) _
                                            refine XS.icmpNo X0.here hx rfl (hb hby d2_129) rfl (teq hc129).2 ?_
                                            show Steps p.tables e below (s₁.setTop (mkF m 132 #[.val (.int p1)] [])) _
                                            refine XS.iconst X0.here hx rfl (hb hby d2_132) ?_
                                            show Steps p.tables e below (s₁.setTop (mkF m 133 #[.val (.int p1)] [(.int (1 : Int32))])) _
                                            refine XS.goto X0.here hx rfl (pc0 := 133) (pc' := 137) rfl (hb hby d2_133) (by decide) (by decide) ?_
                                            show Steps p.tables e below (s₁.setTop (mkF m 137 #[.val (.int p1)] [(.int (1 : Int32))])) _
                                            exact retN X0 hx (t := .boolean) Bd.returns (by simp) (hb hby d2_137) hr
                                          · show Q2 Z p1 h0 n0 _ s₁.heap _
                                            rw [e0]
                                            exact ⟨by rw [eq233], N0, rfl⟩
                                        · have eq234 : (f2 p1) = (0 : Int32) := by unfold f2; simp only [if_neg hc3, if_pos hc9, if_neg hc17, if_pos hc23, if_pos hc31, if_neg hc45, if_neg hc51, if_neg hc57, if_neg hc63, if_neg hc69, if_neg hc75, if_neg hc81, if_neg hc87, if_neg hc93, if_neg hc99, if_neg hc105, if_neg hc111, if_neg hc117, if_neg hc123, if_neg hc129]
                                          obtain ⟨fs, hr, hrun, hended, hW, hsame⟩ := X0.leave (v := some (.int (0 : Int32))) (fun h => by rw [Bd.returns] at h; cases h)
                                          refine ⟨_, _, pre232 _ ?_, hrun, hended, _, _, rfl, ?_, ⟨_, rfl⟩, hW, hsame.mono (by decide) (by decide)⟩
                                          · show Steps p.tables e below (s₁.setTop (mkF m 129 #[.val (.int p1)] [(.int (126 : Int32)), (.int p1)])) _
                                            refine XS.icmpYes X0.here hx rfl (pc0 := 129) (pc' := 136) rfl (hb hby d2_129) rfl (feq hc129).2 (by decide) (by decide) ?_
                                            show Steps p.tables e below (s₁.setTop (mkF m 136 #[.val (.int p1)] [])) _
                                            refine XS.iconst X0.here hx rfl (hb hby d2_136) ?_
                                            show Steps p.tables e below (s₁.setTop (mkF m 137 #[.val (.int p1)] [(.int (0 : Int32))])) _
                                            exact retN X0 hx (t := .boolean) Bd.returns (by simp) (hb hby d2_137) hr
                                          · show Q2 Z p1 h0 n0 _ s₁.heap _
                                            rw [e0]
                                            exact ⟨by rw [eq234], N0, rfl⟩
          · have pre235 : ∀ t, Steps p.tables e below (s₁.setTop (mkF m 37 #[.val (.int p1)] [(.int (122 : Int32)), (.int p1)])) t → Steps p.tables e below (s₁.setTop (entryFrame m #[(.int p1)] 1)) t := by
              intro t k
              refine pre203 t ?_
              show Steps p.tables e below (s₁.setTop (mkF m 31 #[.val (.int p1)] [(.int (97 : Int32)), (.int p1)])) _
              refine XS.icmpNo X0.here hx rfl (hb hby d2_31) rfl (flt hc31).1 ?_
              show Steps p.tables e below (s₁.setTop (mkF m 34 #[.val (.int p1)] [])) _
              refine XS.iloadN X0.here hx rfl (hb hby d2_34) rfl ?_
              show Steps p.tables e below (s₁.setTop (mkF m 35 #[.val (.int p1)] [(.int p1)])) _
              refine XS.bipush X0.here hx rfl (hb hby d2_35) ?_
              exact k
            by_cases hc37 : (122 : Int32) < p1
            · have pre236 : ∀ t, Steps p.tables e below (s₁.setTop (mkF m 45 #[.val (.int p1)] [(.int (33 : Int32)), (.int p1)])) t → Steps p.tables e below (s₁.setTop (entryFrame m #[(.int p1)] 1)) t := by
                intro t k
                refine pre235 t ?_
                show Steps p.tables e below (s₁.setTop (mkF m 37 #[.val (.int p1)] [(.int (122 : Int32)), (.int p1)])) _
                refine XS.icmpYes X0.here hx rfl (pc0 := 37) (pc' := 42) rfl (hb hby d2_37) rfl (tlt hc37).2.2.1 (by decide) (by decide) ?_
                show Steps p.tables e below (s₁.setTop (mkF m 42 #[.val (.int p1)] [])) _
                refine XS.iloadN X0.here hx rfl (hb hby d2_42) rfl ?_
                show Steps p.tables e below (s₁.setTop (mkF m 43 #[.val (.int p1)] [(.int p1)])) _
                refine XS.bipush X0.here hx rfl (hb hby d2_43) ?_
                exact k
              by_cases hc45 : p1 = (33 : Int32)
              · have eq237 : (f2 p1) = (1 : Int32) := by unfold f2; simp only [if_neg hc3, if_pos hc9, if_neg hc17, if_pos hc23, if_neg hc31, if_pos hc37, if_pos hc45]
                obtain ⟨fs, hr, hrun, hended, hW, hsame⟩ := X0.leave (v := some (.int (1 : Int32))) (fun h => by rw [Bd.returns] at h; cases h)
                refine ⟨_, _, pre236 _ ?_, hrun, hended, _, _, rfl, ?_, ⟨_, rfl⟩, hW, hsame.mono (by decide) (by decide)⟩
                · show Steps p.tables e below (s₁.setTop (mkF m 45 #[.val (.int p1)] [(.int (33 : Int32)), (.int p1)])) _
                  refine XS.icmpYes X0.here hx rfl (pc0 := 45) (pc' := 132) rfl (hb hby d2_45) rfl (teq hc45).1 (by decide) (by decide) ?_
                  show Steps p.tables e below (s₁.setTop (mkF m 132 #[.val (.int p1)] [])) _
                  refine XS.iconst X0.here hx rfl (hb hby d2_132) ?_
                  show Steps p.tables e below (s₁.setTop (mkF m 133 #[.val (.int p1)] [(.int (1 : Int32))])) _
                  refine XS.goto X0.here hx rfl (pc0 := 133) (pc' := 137) rfl (hb hby d2_133) (by decide) (by decide) ?_
                  show Steps p.tables e below (s₁.setTop (mkF m 137 #[.val (.int p1)] [(.int (1 : Int32))])) _
                  exact retN X0 hx (t := .boolean) Bd.returns (by simp) (hb hby d2_137) hr
                · show Q2 Z p1 h0 n0 _ s₁.heap _
                  rw [e0]
                  exact ⟨by rw [eq237], N0, rfl⟩
              · have pre238 : ∀ t, Steps p.tables e below (s₁.setTop (mkF m 51 #[.val (.int p1)] [(.int (35 : Int32)), (.int p1)])) t → Steps p.tables e below (s₁.setTop (entryFrame m #[(.int p1)] 1)) t := by
                  intro t k
                  refine pre236 t ?_
                  show Steps p.tables e below (s₁.setTop (mkF m 45 #[.val (.int p1)] [(.int (33 : Int32)), (.int p1)])) _
                  refine XS.icmpNo X0.here hx rfl (hb hby d2_45) rfl (feq hc45).1 ?_
                  show Steps p.tables e below (s₁.setTop (mkF m 48 #[.val (.int p1)] [])) _
                  refine XS.iloadN X0.here hx rfl (hb hby d2_48) rfl ?_
                  show Steps p.tables e below (s₁.setTop (mkF m 49 #[.val (.int p1)] [(.int p1)])) _
                  refine XS.bipush X0.here hx rfl (hb hby d2_49) ?_
                  exact k
                by_cases hc51 : p1 = (35 : Int32)
                · have eq239 : (f2 p1) = (1 : Int32) := by unfold f2; simp only [if_neg hc3, if_pos hc9, if_neg hc17, if_pos hc23, if_neg hc31, if_pos hc37, if_neg hc45, if_pos hc51]
                  obtain ⟨fs, hr, hrun, hended, hW, hsame⟩ := X0.leave (v := some (.int (1 : Int32))) (fun h => by rw [Bd.returns] at h; cases h)
                  refine ⟨_, _, pre238 _ ?_, hrun, hended, _, _, rfl, ?_, ⟨_, rfl⟩, hW, hsame.mono (by decide) (by decide)⟩
                  · show Steps p.tables e below (s₁.setTop (mkF m 51 #[.val (.int p1)] [(.int (35 : Int32)), (.int p1)])) _
                    refine XS.icmpYes X0.here hx rfl (pc0 := 51) (pc' := 132) rfl (hb hby d2_51) rfl (teq hc51).1 (by decide) (by decide) ?_
                    show Steps p.tables e below (s₁.setTop (mkF m 132 #[.val (.int p1)] [])) _
                    refine XS.iconst X0.here hx rfl (hb hby d2_132) ?_
                    show Steps p.tables e below (s₁.setTop (mkF m 133 #[.val (.int p1)] [(.int (1 : Int32))])) _
                    refine XS.goto X0.here hx rfl (pc0 := 133) (pc' := 137) rfl (hb hby d2_133) (by decide) (by decide) ?_
                    show Steps p.tables e below (s₁.setTop (mkF m 137 #[.val (.int p1)] [(.int (1 : Int32))])) _
                    exact retN X0 hx (t := .boolean) Bd.returns (by simp) (hb hby d2_137) hr
                  · show Q2 Z p1 h0 n0 _ s₁.heap _
                    rw [e0]
                    exact ⟨by rw [eq239], N0, rfl⟩
                · have pre240 : ∀ t, Steps p.tables e below (s₁.setTop (mkF m 57 #[.val (.int p1)] [(.int (36 : Int32)), (.int p1)])) t → Steps p.tables e below (s₁.setTop (entryFrame m #[(.int p1)] 1)) t := by
                    intro t k
                    refine pre238 t ?_
                    show Steps p.tables e below (s₁.setTop (mkF m 51 #[.val (.int p1)] [(.int (35 : Int32)), (.int p1)])) _
                    refine XS.icmpNo X0.here hx rfl (hb hby d2_51) rfl (feq hc51).1 ?_
                    show Steps p.tables e below (s₁.setTop (mkF m 54 #[.val (.int p1)] [])) _
                    refine XS.iloadN X0.here hx rfl (hb hby d2_54) rfl ?_
                    show Steps p.tables e below (s₁.setTop (mkF m 55 #[.val (.int p1)] [(.int p1)])) _
                    refine XS.bipush X0.here hx rfl (hb hby d2_55) ?_
                    exact k
                  by_cases hc57 : p1 = (36 : Int32)
                  · have eq241 : (f2 p1) = (1 : Int32) := by unfold f2; simp only [if_neg hc3, if_pos hc9, if_neg hc17, if_pos hc23, if_neg hc31, if_pos hc37, if_neg hc45, if_neg hc51, if_pos hc57]
                    obtain ⟨fs, hr, hrun, hended, hW, hsame⟩ := X0.leave (v := some (.int (1 : Int32))) (fun h => by rw [Bd.returns] at h; cases h)
                    refine ⟨_, _, pre240 _ ?_, hrun, hended, _, _, rfl, ?_, ⟨_, rfl⟩, hW, hsame.mono (by decide) (by decide)⟩
                    · show Steps p.tables e below (s₁.setTop (mkF m 57 #[.val (.int p1)] [(.int (36 : Int32)), (.int p1)])) _
                      refine XS.icmpYes X0.here hx rfl (pc0 := 57) (pc' := 132) rfl (hb hby d2_57) rfl (teq hc57).1 (by decide) (by decide) ?_
                      show Steps p.tables e below (s₁.setTop (mkF m 132 #[.val (.int p1)] [])) _
                      refine XS.iconst X0.here hx rfl (hb hby d2_132) ?_
                      show Steps p.tables e below (s₁.setTop (mkF m 133 #[.val (.int p1)] [(.int (1 : Int32))])) _
                      refine XS.goto X0.here hx rfl (pc0 := 133) (pc' := 137) rfl (hb hby d2_133) (by decide) (by decide) ?_
                      show Steps p.tables e below (s₁.setTop (mkF m 137 #[.val (.int p1)] [(.int (1 : Int32))])) _
                      exact retN X0 hx (t := .boolean) Bd.returns (by simp) (hb hby d2_137) hr
                    · show Q2 Z p1 h0 n0 _ s₁.heap _
                      rw [e0]
                      exact ⟨by rw [eq241], N0, rfl⟩
                  · have pre242 : ∀ t, Steps p.tables e below (s₁.setTop (mkF m 63 #[.val (.int p1)] [(.int (37 : Int32)), (.int p1)])) t → Steps p.tables e below (s₁.setTop (entryFrame m #[(.int p1)] 1)) t := by
                      intro t k
                      refine pre240 t ?_
                      show Steps p.tables e below (s₁.setTop (mkF m 57 #[.val (.int p1)] [(.int (36 : Int32)), (.int p1)])) _
                      refine XS.icmpNo X0.here hx rfl (hb hby d2_57) rfl (feq hc57).1 ?_
                      show Steps p.tables e below (s₁.setTop (mkF m 60 #[.val (.int p1)] [])) _
                      refine XS.iloadN X0.here hx rfl (hb hby d2_60) rfl ?_
                      show Steps p.tables e below (s₁.setTop (mkF m 61 #[.val (.int p1)] [(.int p1)])) _
                      refine XS.bipush X0.here hx rfl (hb hby d2_61) ?_
                      exact k
                    by_cases hc63 : p1 = (37 : Int32)
                    · have eq243 : (f2 p1) = (1 : Int32) := by unfold f2; simp only [if_neg hc3, if_pos hc9, if_neg hc17, if_pos hc23, if_neg hc31, if_pos hc37, if_neg hc45, if_neg hc51, if_neg hc57, if_pos hc63]
                      obtain ⟨fs, hr, hrun, hended, hW, hsame⟩ := X0.leave (v := some (.int (1 : Int32))) (fun h => by rw [Bd.returns] at h; cases h)
                      refine ⟨_, _, pre242 _ ?_, hrun, hended, _, _, rfl, ?_, ⟨_, rfl⟩, hW, hsame.mono (by decide) (by decide)⟩
                      · show Steps p.tables e below (s₁.setTop (mkF m 63 #[.val (.int p1)] [(.int (37 : Int32)), (.int p1)])) _
                        refine XS.icmpYes X0.here hx rfl (pc0 := 63) (pc' := 132) rfl (hb hby d2_63) rfl (teq hc63).1 (by decide) (by decide) ?_
                        show Steps p.tables e below (s₁.setTop (mkF m 132 #[.val (.int p1)] [])) _
                        refine XS.iconst X0.here hx rfl (hb hby d2_132) ?_
                        show Steps p.tables e below (s₁.setTop (mkF m 133 #[.val (.int p1)] [(.int (1 : Int32))])) _
                        refine XS.goto X0.here hx rfl (pc0 := 133) (pc' := 137) rfl (hb hby d2_133) (by decide) (by decide) ?_
                        show Steps p.tables e below (s₁.setTop (mkF m 137 #[.val (.int p1)] [(.int (1 : Int32))])) _
                        exact retN X0 hx (t := .boolean) Bd.returns (by simp) (hb hby d2_137) hr
                      · show Q2 Z p1 h0 n0 _ s₁.heap _
                        rw [e0]
                        exact ⟨by rw [eq243], N0, rfl⟩
                    · have pre244 : ∀ t, Steps p.tables e below (s₁.setTop (mkF m 69 #[.val (.int p1)] [(.int (38 : Int32)), (.int p1)])) t → Steps p.tables e below (s₁.setTop (entryFrame m #[(.int p1)] 1)) t := by
                        intro t k
                        refine pre242 t ?_
                        show Steps p.tables e below (s₁.setTop (mkF m 63 #[.val (.int p1)] [(.int (37 : Int32)), (.int p1)])) _
                        refine XS.icmpNo X0.here hx rfl (hb hby d2_63) rfl (feq hc63).1 ?_
                        show Steps p.tables e below (s₁.setTop (mkF m 66 #[.val (.int p1)] [])) _
                        refine XS.iloadN X0.here hx rfl (hb hby d2_66) rfl ?_
                        show Steps p.tables e below (s₁.setTop (mkF m 67 #[.val (.int p1)] [(.int p1)])) _
                        refine XS.bipush X0.here hx rfl (hb hby d2_67) ?_
                        exact k
                      by_cases hc69 : p1 = (38 : Int32)
                      · have eq245 : (f2 p1) = (1 : Int32) := by unfold f2; simp only [if_neg hc3, if_pos hc9, if_neg hc17, if_pos hc23, if_neg hc31, if_pos hc37, if_neg hc45, if_neg hc51, if_neg hc57, if_neg hc63, if_pos hc69]
                        obtain ⟨fs, hr, hrun, hended, hW, hsame⟩ := X0.leave (v := some (.int (1 : Int32))) (fun h => by rw [Bd.returns] at h; cases h)
                        refine ⟨_, _, pre244 _ ?_, hrun, hended, _, _, rfl, ?_, ⟨_, rfl⟩, hW, hsame.mono (by decide) (by decide)⟩
                        · show Steps p.tables e below (s₁.setTop (mkF m 69 #[.val (.int p1)] [(.int (38 : Int32)), (.int p1)])) _
                          refine XS.icmpYes X0.here hx rfl (pc0 := 69) (pc' := 132) rfl (hb hby d2_69) rfl (teq hc69).1 (by decide) (by decide) ?_
                          show Steps p.tables e below (s₁.setTop (mkF m 132 #[.val (.int p1)] [])) _
                          refine XS.iconst X0.here hx rfl (hb hby d2_132) ?_
                          show Steps p.tables e below (s₁.setTop (mkF m 133 #[.val (.int p1)] [(.int (1 : Int32))])) _
                          refine XS.goto X0.here hx rfl (pc0 := 133) (pc' := 137) rfl (hb hby d2_133) (by decide) (by decide) ?_
                          show Steps p.tables e below (s₁.setTop (mkF m 137 #[.val (.int p1)] [(.int (1 : Int32))])) _
                          exact retN X0 hx (t := .boolean) Bd.returns (by simp) (hb hby d2_137) hr
                        · show Q2 Z p1 h0 n0 _ s₁.heap _
                          rw [e0]
                          exact ⟨by rw [eq245], N0, rfl⟩
                      · have pre246 : ∀ t, Steps p.tables e below (s₁.setTop (mkF m 75 #[.val (.int p1)] [(.int (39 : Int32)), (.int p1)])) t → Steps p.tables e below (s₁.setTop (entryFrame m #[(.int p1)] 1)) t := by
                          intro t k
                          refine pre244 t ?_
                          show Steps p.tables e below (s₁.setTop (mkF m 69 #[.val (.int p1)] [(.int (38 : Int32)), (.int p1)])) _
                          refine XS.icmpNo X0.here hx rfl (hb hby d2_69) rfl (feq hc69).1 ?_
                          show Steps p.tables e below (s₁.setTop (mkF m 72 #[.val (.int p1)] [])) _
                          refine XS.iloadN X0.here hx rfl (hb hby d2_72) rfl ?_
                          show Steps p.tables e below (s₁.setTop (mkF m 73 #[.val (.int p1)] [(.int p1)])) _
                          refine XS.bipush X0.here hx rfl (hb hby d2_73) ?_
                          exact k
                        by_cases hc75 : p1 = (39 : Int32)
                        · have eq247 : (f2 p1) = (1 : Int32) := by unfold f2; simp only [if_neg hc3, if_pos hc9, if_neg hc17, if_pos hc23, if_neg hc31, if_pos hc37, if_neg hc45, if_neg hc51, if_neg hc57, if_neg hc63, if_neg hc69, if_pos hc75]
                          obtain ⟨fs, hr, hrun, hended, hW, hsame⟩ := X0.leave (v := some (.int (1 : Int32))) (fun h => by rw [Bd.returns] at h; cases h)
                          refine ⟨_, _, pre246 _ ?_, hrun, hended, _, _, rfl, ?_, ⟨_, rfl⟩, hW, hsame.mono (by decide) (by decide)⟩
                          · show Steps p.tables e below (s₁.setTop (mkF m 75 #[.val (.int p1)] [(.int (39 : Int32)), (.int p1)])) _
                            refine XS.icmpYes X0.here hx rfl (pc0 := 75) (pc' := 132) rfl (hb hby d2_75) rfl (teq hc75).1 (by decide) (by decide) ?_
                            show Steps p.tables e below (s₁.setTop (mkF m 132 #[.val (.int p1)] [])) _
                            refine XS.iconst X0.here hx rfl (hb hby d2_132) ?_
                            show Steps p.tables e below (s₁.setTop (mkF m 133 #[.val (.int p1)] [(.int (1 : Int32))])) _
                            refine XS.goto X0.here hx rfl (pc0 := 133) (pc' := 137) rfl (hb hby d2_133) (by decide) (by decide) ?_
                            show Steps p.tables e below (s₁.setTop (mkF m 137 #[.val (.int p1)] [(.int (1 : Int32))])) _
                            exact retN X0 hx (t := .boolean) Bd.returns (by simp) (hb hby d2_137) hr
                          · show Q2 Z p1 h0 n0 _ s₁.heap _
                            rw [e0]
                            exact ⟨by rw [eq247], N0, rfl⟩
                        · have pre248 : ∀ t, Steps p.tables e below (s₁.setTop (mkF m 81 #[.val (.int p1)] [(.int (42 : Int32)), (.int p1)])) t → Steps p.tables e below (s₁.setTop (entryFrame m #[(.int p1)] 1)) t := by
                            intro t k
                            refine pre246 t ?_
                            show Steps p.tables e below (s₁.setTop (mkF m 75 #[.val (.int p1)] [(.int (39 : Int32)), (.int p1)])) _
                            refine XS.icmpNo X0.here hx rfl (hb hby d2_75) rfl (feq hc75).1 ?_
                            show Steps p.tables e below (s₁.setTop (mkF m 78 #[.val (.int p1)] [])) _
                            refine XS.iloadN X0.here hx rfl (hb hby d2_78) rfl ?_
                            show Steps p.tables e below (s₁.setTop (mkF m 79 #[.val (.int p1)] [(.int p1)])) _
                            refine XS.bipush X0.here hx rfl (hb hby d2_79) ?_
                            exact k
                          by_cases hc81 : p1 = (42 : Int32)
                          · have eq249 : (f2 p1) = (1 : Int32) := by unfold f2; simp only [if_neg hc3, if_pos hc9, if_neg hc17, if_pos hc23, if_neg hc31, if_pos hc37, if_neg hc45, if_neg hc51, if_neg hc57, if_neg hc63, if_neg hc69, if_neg hc75, if_pos hc81]
                            obtain ⟨fs, hr, hrun, hended, hW, hsame⟩ := X0.leave (v := some (.int (1 : Int32))) (fun h => by rw [Bd.returns] at h; cases h)
                            refine ⟨_, _, pre248 _ ?_, hrun, hended, _, _, rfl, ?_, ⟨_, rfl⟩, hW, hsame.mono (by decide) (by decide)⟩
                            · show Steps p.tables e below (s₁.setTop (mkF m 81 #[.val (.int p1)] [(.int (42 : Int32)), (.int p1)])) _
                              refine XS.icmpYes X0.here hx rfl (pc0 := 81) (pc' := 132) rfl (hb hby d2_81) rfl (teq hc81).1 (by decide) (by decide) ?_
                              show Steps p.tables e below (s₁.setTop (mkF m 132 #[.val (.int p1)] [])) _
                              refine XS.iconst X0.here hx rfl (hb hby d2_132) ?_
                              show Steps p.tables e below (s₁.setTop (mkF m 133 #[.val (.int p1)] [(.int (1 : Int32))])) _
                              refine XS.goto X0.here hx rfl (pc0 := 133) (pc' := 137) rfl (hb hby d2_133) (by decide) (by decide) ?_
                              show Steps p.tables e below (s₁.setTop (mkF m 137 #[.val (.int p1)] [(.int (1 : Int32))])) _
                              exact retN X0 hx (t := .boolean) Bd.returns (by simp) (hb hby d2_137) hr
                            · show Q2 Z p1 h0 n0 _ s₁.heap _
                              rw [e0]
                              exact ⟨by rw [eq249], N0, rfl⟩
                          · have pre250 : ∀ t, Steps p.tables e below (s₁.setTop (mkF m 87 #[.val (.int p1)] [(.int (43 : Int32)), (.int p1)])) t → Steps p.tables e below (s₁.setTop (entryFrame m #[(.int p1)] 1)) t := by
                              intro t k
                              refine pre248 t ?_
                              show Steps p.tables e below (s₁.setTop (mkF m 81 #[.val (.int p1)] [(.int (42 : Int32)), (.int p1)])) _
                              refine XS.icmpNo X0.here hx rfl (hb hby d2_81) rfl (feq hc81).1 ?_
                              show Steps p.tables e below (s₁.setTop (mkF m 84 #[.val (.int p1)] [])) _
                              refine XS.iloadN X0.here hx rfl (hb hby d2_84) rfl ?_
                              show Steps p.tables e below (s₁.setTop (mkF m 85 #[.val (.int p1)] [(.int p1)])) _
                              refine XS.bipush X0.here hx rfl (hb hby d2_85) ?_
                              exact k
                            by_cases hc87 : p1 = (43 : Int32)
                            · have eq251 : (f2 p1) = (1 : Int32) := by unfold f2; simp only [if_neg hc3, if_pos hc9, if_neg hc17, if_pos hc23, if_neg hc31, if_pos hc37, if_neg hc45, if_neg hc51, if_neg hc57, if_neg hc63, if_neg hc69, if_neg hc75, if_neg hc81, if_pos hc87]
                              obtain ⟨fs, hr, hrun, hended, hW, hsame⟩ := X0.leave (v := some (.int (1 : Int32))) (fun h => by rw [Bd.returns] at h; cases h)
                              refine ⟨_, _, pre250 _ ?_, hrun, hended, _, _, rfl, ?_, ⟨_, rfl⟩, hW, hsame.mono (by decide) (by decide)⟩
                              · show Steps p.tables e below (s₁.setTop (mkF m 87 #[.val (.int p1)] [(.int (43 : Int32)), (.int p1)])) _
                                refine XS.icmpYes X0.here hx rfl (pc0 := 87) (pc' := 132) rfl (hb hby d2_87) rfl (teq hc87).1 (by decide) (by decide) ?_
                                show Steps p.tables e below (s₁.setTop (mkF m 132 #[.val (.int p1)] [])) _
                                refine XS.iconst X0.here hx rfl (hb hby d2_132) ?_
                                show Steps p.tables e below (s₁.setTop (mkF m 133 #[.val (.int p1)] [(.int (1 : Int32))])) _
                                refine XS.goto X0.here hx rfl (pc0 := 133) (pc' := 137) rfl (hb hby d2_133) (by decide) (by decide) ?_
                                show Steps p.tables e below (s₁.setTop (mkF m 137 #[.val (.int p1)] [(.int (1 : Int32))])) _
                                exact retN X0 hx (t := .boolean) Bd.returns (by simp) (hb hby d2_137) hr
                              · show Q2 Z p1 h0 n0 _ s₁.heap _
                                rw [e0]
                                exact ⟨by rw [eq251], N0, rfl⟩
                            · have pre252 : ∀ t, Steps p.tables e below (s₁.setTop (mkF m 93 #[.val (.int p1)] [(.int (45 : Int32)), (.int p1)])) t → Steps p.tables e below (s₁.setTop (entryFrame m #[(.int p1)] 1)) t := by
                                intro t k
                                refine pre250 t ?_
                                show Steps p.tables e below (s₁.setTop (mkF m 87 #[.val (.int p1)] [(.int (43 : Int32)), (.int p1)])) _
                                refine XS.icmpNo X0.here hx rfl (hb hby d2_87) rfl (feq hc87).1 ?_
                                show Steps p.tables e below (s₁.setTop (mkF m 90 #[.val (.int p1)] [])) _
                                refine XS.iloadN X0.here hx rfl (hb hby d2_90) rfl ?_
                                show Steps p.tables e below (s₁.setTop (mkF m 91 #[.val (.int p1)] [(.int p1)])) _
                                refine XS.bipush X0.here hx rfl (hb hby d2_91) ?_
                                exact k
                              by_cases hc93 : p1 = (45 : Int32)
                              · have eq253 : (f2 p1) = (1 : Int32) := by unfold f2; simp only [if_neg hc3, if_pos hc9, if_neg hc17, if_pos hc23, if_neg hc31, if_pos hc37, if_neg hc45, if_neg hc51, if_neg hc57, if_neg hc63, if_neg hc69, if_neg hc75, if_neg hc81, if_neg hc87, if_pos hc93]
                                obtain ⟨fs, hr, hrun, hended, hW, hsame⟩ := X0.leave (v := some (.int (1 : Int32))) (fun h => by rw [Bd.returns] at h; cases h)
                                refine ⟨_, _, pre252 _ ?_, hrun, hended, _, _, rfl, ?_, ⟨_, rfl⟩, hW, hsame.mono (by decide) (by decide)⟩
                                · show Steps p.tables e below (s₁.setTop (mkF m 93 #[.val (.int p1)] [(.int (45 : Int32)), (.int p1)])) _
                                  refine XS.icmpYes X0.here hx rfl (pc0 := 93) (pc' := 132) rfl (hb hby d2_93) rfl (teq hc93).1 (by decide) (by decide) ?_
                                  show Steps p.tables e below (s₁.setTop (mkF m 132 #[.val (.int p1)] [])) _
                                  refine XS.iconst X0.here hx rfl (hb hby d2_132) ?_
                                  show Steps p.tables e below (s₁.setTop (mkF m 133 #[.val (.int p1)] [(.int (1 : Int32))])) _
                                  refine XS.goto X0.here hx rfl (pc0 := 133) (pc' := 137) rfl (hb hby d2_133) (by decide) (by decide) ?_
                                  show Steps p.tables e below (s₁.setTop (mkF m 137 #[.val (.int p1)] [(.int (1 : Int32))])) _
                                  exact retN X0 hx (t := .boolean) Bd.returns (by simp) (hb hby d2_137) hr
                                · show Q2 Z p1 h0 n0 _ s₁.heap _
                                  rw [e0]
                                  exact ⟨by rw [eq253], N0, rfl⟩
                              · have pre254 : ∀ t, Steps p.tables e below (s₁.setTop (mkF m 99 #[.val (.int p1)] [(.int (46 : Int32)), (.int p1)])) t → Steps p.tables e below (s₁.setTop (entryFrame m #[(.int p1)] 1)) t := by
                                  intro t k
                                  refine pre252 t ?_
                                  show Steps p.tables e below (s₁.setTop (mkF m 93 #[.val (.int p1)] [(.int (45 : Int32)), (.int p1)])) _
                                  refine XS.icmpNo X0.here hx rfl (hb hby d2_93) rfl (feq hc93).1 ?_
                                  show Steps p.tables e below (s₁.setTop (mkF m 96 #[.val (.int p1)] [])) _
                                  refine XS.iloadN X0.here hx rfl (hb hby d2_96) rfl ?_
                                  show Steps p.tables e below (s₁.setTop (mkF m 97 #[.val (.int p1)] [(.int p1)])) _
                                  refine XS.bipush X0.here hx rfl (hb hby d2_97) ?_
                                  exact k
                                by_cases hc99 : p1 = (46 : Int32)
                                · have eq255 : (f2 p1) = (1 : Int32) := by unfold f2; simp only [if_neg hc3, if_pos hc9, if_neg hc17, if_pos hc23, if_neg hc31, if_pos hc37, if_neg hc45, if_neg hc51, if_neg hc57, if_neg hc63, if_neg hc69, if_neg hc75, if_neg hc81, if_neg hc87, if_neg hc93, if_pos hc99]
                                  obtain ⟨fs, hr, hrun, hended, hW, hsame⟩ := X0.leave (v := some (.int (1 : Int32))) (fun h => by rw [Bd.returns] at h; cases h)
                                  refine ⟨_, _, pre254 _ ?_, hrun, hended, _, _, rfl, ?_, ⟨_, rfl⟩, hW, hsame.mono (by decide) (by decide)⟩
                                  · show Steps p.tables e below (s₁.setTop (mkF m 99 #[.val (.int p1)] [(.int (46 : Int32)), (.int p1)])) _
                                    refine XS.icmpYes X0.here hx rfl (pc0 := 99) (pc' := 132) rfl (hb hby d2_99) rfl (teq hc99).1 (by decide) (by decide) ?_
                                    show Steps p.tables e below (s₁.setTop (mkF m 132 #[.val (.int p1)] [])) _
                                    refine XS.iconst X0.here hx rfl (hb hby d2_132) ?_
                                    show Steps p.tables e below (s₁.setTop (mkF m 133 #[.val (.int p1)] [(.int (1 : Int32))])) _
                                    refine XS.goto X0.here hx rfl (pc0 := 133) (pc' := 137) rfl (hb hby d2_133) (by decide) (by decide) ?_
                                    show Steps p.tables e below (s₁.setTop (mkF m 137 #[.val (.int p1)] [(.int (1 : Int32))])) _
                                    exact retN X0 hx (t := .boolean) Bd.returns (by simp) (hb hby d2_137) hr
                                  · show Q2 Z p1 h0 n0 _ s₁.heap _
                                    rw [e0]
                                    exact ⟨by rw [eq255], N0, rfl⟩
                                · have pre256 : ∀ t, Steps p.tables e below (s₁.setTop (mkF m 105 #[.val (.int p1)] [(.int (94 : Int32)), (.int p1)])) t → Steps p.tables e below (s₁.setTop (entryFrame m #[(.int p1)] 1)) t := by
                                    intro t k
                                    refine pre254 t ?_
                                    show Steps p.tables e below (s₁.setTop (mkF m 99 #[.val (.int p1)] [(.int (46 : Int32)), (.int p1)])) _
                                    refine XS.icmpNo X0.here hx rfl (hb hby d2_99) rfl (feq hc99).1 ?_
                                    show Steps p.tables e below (s₁.setTop (mkF m 102 #[.val (.int p1)] [])) _
                                    refine XS.iloadN X0.here hx rfl (hb hby d2_102) rfl ?_
                                    show Steps p.tables e below (s₁.setTop (mkF m 103 #[.val (.int p1)] [(.int p1)])) _
                                    refine XS.bipush X0.here hx rfl (hb hby d2_103) ?_
                                    exact k
                                  by_cases hc105 : p1 = (94 : Int32)
                                  · have eq257 : (f2 p1) = (1 : Int32) := by unfold f2; simp only [if_neg hc3, if_pos hc9, if_neg hc17, if_pos hc23, if_neg hc31, if_pos hc37, if_neg hc45, if_neg hc51, if_neg hc57, if_neg hc63, if_neg hc69, if_neg hc75, if_neg hc81, if_neg hc87, if_neg hc93, if_neg hc99, if_pos hc105]
                                    obtain ⟨fs, hr, hrun, hended, hW, hsame⟩ := X0.leave (v := some (.int (1 : Int32))) (fun h => by rw [Bd.returns] at h; cases h)
                                    refine ⟨_, _, pre256 _ ?_, hrun, hended, _, _, rfl, ?_, ⟨_, rfl⟩, hW, hsame.mono (by decide) (by decide)⟩
                                    · show Steps p.tables e below (s₁.setTop (mkF m 105 #[.val (.int p1)] [(.int (94 : Int32)), (.int p1)])) _
                                      refine XS.icmpYes X0.here hx rfl (pc0 := 105) (pc' := 132) rfl (hb hby d2_105) rfl (teq hc105).1 (by decide) (by decide) ?_
                                      show Steps p.tables e below (s₁.setTop (mkF m 132 #[.val (.int p1)] [])) _
                                      refine XS.iconst X0.here hx rfl (hb hby d2_132) ?_
                                      show Steps p.tables e below (s₁.setTop (mkF m 133 #[.val (.int p1)] [(.int (1 : Int32))])) _
                                      refine XS.goto X0.here hx rfl (pc0 := 133) (pc' := 137) rfl (hb hby d2_133) (by decide) (by decide) ?_
                                      show Steps p.tables e below (s₁.setTop (mkF m 137 #[.val (.int p1)] [(.int (1 : Int32))])) _
                                      exact retN X0 hx (t := .boolean) Bd.returns (by simp) (hb hby d2_137) hr
                                    · show Q2 Z p1 h0 n0 _ s₁.heap _
                                      rw [e0]
                                      exact ⟨by rw [eq257], N0, rfl⟩
                                  · have pre258 : ∀ t, Steps p.tables e below (s₁.setTop (mkF m 111 #[.val (.int p1)] [(.int (95 : Int32)), (.int p1)])) t → Steps p.tables e below (s₁.setTop (entryFrame m #[(.int p1)] 1)) t := by
                                      intro t k
                                      refine pre256 t ?_
                                      show Steps p.tables e below (s₁.setTop (mkF m 105 #[.val (.int p1)] [(.int (94 : Int32)), (.int p1)])) _
                                      refine XS.icmpNo X0.here hx rfl (hb hby d2_105) rfl (feq hc105).1 ?_
                                      show Steps p.tables e below (s₁.setTop (mkF m 108 #[.val (.int p1)] [])) _
                                      refine XS.iloadN X0.here hx rfl (hb hby d2_108) rfl ?_
                                      show Steps p.tables e below (s₁.setTop (mkF m 109 #[.val (.int p1)] [(.int p1)])) _
                                      refine XS.bipush X0.here hx rfl (hb hby d2_109) ?_
                                      exact k
                                    by_cases hc111 : p1 = (95 : Int32)
                                    · have eq259 : (f2 p1) = (1 : Int32) := by unfold f2; simp only [if_neg hc3, if_pos hc9, if_neg hc17, if_pos hc23, if_neg hc31, if_pos hc37, if_neg hc45, if_neg hc51, if_neg hc57, if_neg hc63, if_neg hc69, if_neg hc75, if_neg hc81, if_neg hc87, if_neg hc93, if_neg hc99, if_neg hc105, if_pos hc111]
                                      obtain ⟨fs, hr, hrun, hended, hW, hsame⟩ := X0.leave (v := some (.int (1 : Int32))) (fun h => by rw [Bd.returns] at h; cases h)
                                      refine ⟨_, _, pre258 _ ?_, hrun, hended, _, _, rfl, ?_, ⟨_, rfl⟩, hW, hsame.mono (by decide) (by decide)⟩
                                      · show Steps p.tables e below (s₁.setTop (mkF m 111 #[.val (.int p1)] [(.int (95 : Int32)), (.int p1)])) _
                                        refine XS.icmpYes X0.here hx rfl (pc0 := 111) (pc' := 132) rfl (hb hby d2_111) rfl (teq hc111).1 (by decide) (by decide) ?_
                                        show Steps p.tables e below (s₁.setTop (mkF m 132 #[.val (.int p1)] [])) _
                                        refine XS.iconst X0.here hx rfl (hb hby d2_132) ?_
                                        show Steps p.tables e below (s₁.setTop (mkF m 133 #[.val (.int p1)] [(.int (1 : Int32))])) _
                                        refine XS.goto X0.here hx rfl (pc0 := 133) (pc' := 137) rfl (hb hby d2_133) (by decide) (by decide) ?_
                                        show Steps p.tables e below (s₁.setTop (mkF m 137 #[.val (.int p1)] [(.int (1 : Int32))])) _
                                        exact retN X0 hx (t := .boolean) Bd.returns (by simp) (hb hby d2_137) hr
                                      · show Q2 Z p1 h0 n0 _ s₁.heap _
                                        rw [e0]
                                        exact ⟨by rw [eq259], N0, rfl⟩
                                    · have pre260 : ∀ t, Steps p.tables e below (s₁.setTop (mkF m 117 #[.val (.int p1)] [(.int (96 : Int32)), (.int p1)])) t → Steps p.tables e below (s₁.setTop (entryFrame m #[(.int p1)] 1)) t := by
                                        intro t k
                                        refine pre258 t ?_
                                        show Steps p.tables e below (s₁.setTop (mkF m 111 #[.val (.int p1)] [(.int (95 : Int32)), (.int p1)])) _
                                        refine XS.icmpNo X0.here hx rfl (hb hby d2_111) rfl (feq hc111).1 ?_
                                        show Steps p.tables e below (s₁.setTop (mkF m 114 #[.val (.int p1)] [])) _
                                        refine XS.iloadN X0.here hx rfl (hb hby d2_114) rfl ?_
                                        show Steps p.tables e below (s₁.setTop (mkF m 115 #[.val (.int p1)] [(.int p1)])) _
                                        refine XS.bipush X0.here hx rfl (hb hby d2_115) ?_
                                        exact k
                                      by_cases hc117 : p1 = (96 : Int32)
                                      · have eq261 : (f2 p1) = (1 : Int32) := by unfold f2; simp only [if_neg hc3, if_pos hc9, if_neg hc17, if_pos hc23, if_neg hc31, if_pos hc37, if_neg hc45, if_neg hc51, if_neg hc57, if_neg hc63, if_neg hc69, if_neg hc75, if_neg hc81, if_neg hc87, if_neg hc93, if_neg hc99, if_neg hc105, if_neg hc111, if_pos hc117]
                                        obtain ⟨fs, hr, hrun, hended, hW, hsame⟩ := X0.leave (v := some (.int (1 : Int32))) (fun h => by rw [Bd.returns] at h; cases h)
                                        refine ⟨_, _, pre260 _ ?_, hrun, hended, _, _, rfl, ?_, ⟨_, rfl⟩, hW, hsame.mono (by decide) (by decide)⟩
                                        · show Steps p.tables e below (s₁.setTop (mkF m 117 #[.val (.int p1)] [(.int (96 : Int32)), (.int p1)])) _
                                          refine XS.icmpYes X0.here hx rfl (pc0 := 117) (pc' := 132) rfl (hb hby d2_117) rfl (teq hc117).1 (by decide) (by decide) ?_
                                          show Steps p.tables e below (s₁.setTop (mkF m 132 #[.val (.int p1)] [])) _
                                          refine XS.iconst X0.here hx rfl (hb hby d2_132) ?_
                                          show Steps p.tables e below (s₁.setTop (mkF m 133 #[.val (.int p1)] [(.int (1 : Int32))])) _
                                          refine XS.goto X0.here hx rfl (pc0 := 133) (pc' := 137) rfl (hb hby d2_133) (by decide) (by decide) ?_
                                          show Steps p.tables e below (s₁.setTop (mkF m 137 #[.val (.int p1)] [(.int (1 : Int32))])) _
                                          exact retN X0 hx (t := .boolean) Bd.returns (by simp) (hb hby d2_137) hr
                                        · show Q2 Z p1 h0 n0 _ s₁.heap _
                                          rw [e0]
                                          exact ⟨by rw [eq261], N0, rfl⟩
                                      · have pre262 : ∀ t, Steps p.tables e below (s₁.setTop (mkF m 123 #[.val (.int p1)] [(.int (124 : Int32)), (.int p1)])) t → Steps p.tables e below (s₁.setTop (entryFrame m #[(.int p1)] 1)) t := by
                                          intro t k
                                          refine pre260 t ?_
                                          show Steps p.tables e below (s₁.setTop (mkF m 117 #[.val (.int p1)] [(.int (96 : Int32)), (.int p1)])) _
                                          refine XS.icmpNo X0.here hx rfl (hb hby d2_117) rfl (feq hc117).1 ?_
                                          show Steps p.tables e below (s₁.setTop (mkF m 120 #[.val (.int p1)] [])) _
                                          refine XS.iloadN X0.here hx rfl (hb hby d2_120) rfl ?_
                                          show Steps p.tables e below (s₁.setTop (mkF m 121 #[.val (.int p1)] [(.int p1)])) _
                                          refine XS.bipush X0.here hx rfl (hb hby d2_121) ?_
                                          exact k
                                        by_cases hc123 : p1 = (124 : Int32)
                                        · have eq263 : (f2 p1) = (1 : Int32) := by unfold f2; simp only [if_neg hc3, if_pos hc9, if_neg hc17, if_pos hc23, if_neg hc31, if_pos hc37, if_neg hc45, if_neg hc51, if_neg hc57, if_neg hc63, if_neg hc69, if_neg hc75, if_neg hc81, if_neg hc87, if_neg hc93, if_neg hc99, if_neg hc105, if_neg hc111, if_neg hc117, if_pos hc123]
                                          obtain ⟨fs, hr, hrun, hended, hW, hsame⟩ := X0.leave (v := some (.int (1 : Int32))) (fun h => by rw [Bd.returns] at h; cases h)
                                          refine ⟨_, _, pre262 _ ?_, hrun, hended, _, _, rfl, ?_, ⟨_, rfl⟩, hW, hsame.mono (by decide) (by decide)⟩
                                          · show Steps p.tables e below (s₁.setTop (mkF m 123 #[.val (.int p1)] [(.int (124 : Int32)), (.int p1)])) _
                                            refine XS.icmpYes X0.here hx rfl (pc0 := 123) (pc' := 132) rfl (hb hby d2_123) rfl (teq hc123).1 (by decide) (by decide) ?_
                                            show Steps p.tables e below (s₁.setTop (mkF m 132 #[.val (.int p1)] [])) _
                                            refine XS.iconst X0.here hx rfl (hb hby d2_132) ?_
                                            show Steps p.tables e below (s₁.setTop (mkF m 133 #[.val (.int p1)] [(.int (1 : Int32))])) _
                                            refine XS.goto X0.here hx rfl (pc0 := 133) (pc' := 137) rfl (hb hby d2_133) (by decide) (by decide) ?_
                                            show Steps p.tables e below (s₁.setTop (mkF m 137 #[.val (.int p1)] [(.int (1 : Int32))])) _
                                            exact retN X0 hx (t := .boolean) Bd.returns (by simp) (hb hby d2_137) hr
                                          · show Q2 Z p1 h0 n0 _ s₁.heap _
                                            rw [e0]
                                            exact ⟨by rw [eq263], N0, rfl⟩
                                        · have pre264 : ∀ t, Steps p.tables e below (s₁.setTop (mkF m 129 #[.val (.int p1)] [(.int (126 : Int32)), (.int p1)])) t → Steps p.tables e below (s₁.setTop (entryFrame m #[(.int p1)] 1)) t := by
                                            intro t k
                                            refine pre262 t ?_
                                            show Steps p.tables e below (s₁.setTop (mkF m 123 #[.val (.int p1)] [(.int (124 : Int32)), (.int p1)])) _
                                            refine XS.icmpNo X0.here hx rfl (hb hby d2_123) rfl (feq hc123).1 ?_
                                            show Steps p.tables e below (s₁.setTop (mkF m 126 #[.val (.int p1)] [])) _
                                            refine XS.iloadN X0.here hx rfl (hb hby d2_126) rfl ?_
                                            show Steps p.tables e below (s₁.setTop (mkF m 127 #[.val (.int p1)] [(.int p1)])) _
                                            refine XS.bipush X0.here hx rfl (hb hby d2_127) ?_
                                            exact k
                                          by_cases hc129 : p1 = (126 : Int32)
                                          · have eq265 : (f2 p1) = (1 : Int32) := by unfold f2; simp only [if_neg hc3, if_pos hc9, if_neg hc17, if_pos hc23, if_neg hc31, if_pos hc37, if_neg hc45, if_neg hc51, if_neg hc57, if_neg hc63, if_neg hc69, if_neg hc75, if_neg hc81, if_neg hc87, if_neg hc93, if_neg hc99, if_neg hc105, if_neg hc111, if_neg hc117, if_neg hc123, if_pos hc129]
                                            obtain ⟨fs, hr, hrun, hended, hW, hsame⟩ := X0.leave (v := some (.int (1 : Int32))) (fun h => by rw [Bd.returns] at h; cases h)
                                            refine ⟨_, _, pre264 _ ?_, hrun, hended, _, _, rfl, ?_, ⟨_, rfl⟩, hW, hsame.mono (by decide) (by decide)⟩
                                            · show Steps p.tables e below (s₁.setTop (mkF m 129 #[.val (.int p1)] [(.int (126 : Int32)), (.int p1)])) _
                                              refine XS.icmpNo X0.here hx rfl (hb hby d2_129) rfl (teq hc129).2 ?_
                                              show Steps p.tables e below (s₁.setTop (mkF m 132 #[.val (.int p1)] [])) _
                                              refine XS.iconst X0.here hx rfl (hb hby d2_132) ?_
                                              show Steps p.tables e below (s₁.setTop (mkF m 133 #[.val (.int p1)] [(.int (1 : Int32))])) _
                                              refine XS.goto X0.here hx rfl (pc0 := 133) (pc' := 137) rfl (hb hby d2_133) (by decide) (by decide) ?_
                                              show Steps p.tables e below (s₁.setTop (mkF m 137 #[.val (.int p1)] [(.int (1 : Int32))])) _
                                              exact retN X0 hx (t := .boolean) Bd.returns (by simp) (hb hby d2_137) hr
                                            · show Q2 Z p1 h0 n0 _ s₁.heap _
                                              rw [e0]
                                              exact ⟨by rw [eq265], N0, rfl⟩
                                          · have eq266 : (f2 p1) = (0 : Int32) := by unfold f2; simp only [if_neg hc3, if_pos hc9, if_neg hc17, if_pos hc23, if_neg hc31, if_pos hc37, if_neg hc45, if_neg hc51, if_neg hc57, if_neg hc63, if_neg hc69, if_neg hc75, if_neg hc81, if_neg hc87, if_neg hc93, if_neg hc99, if_neg hc105, if_neg hc111, if_neg hc117, if_neg hc123, if_neg hc129]
                                            obtain ⟨fs, hr, hrun, hended, hW, hsame⟩ := X0.leave (v := some (.int (0 : Int32))) (fun h => by rw [Bd.returns] at h; cases h)
                                            refine ⟨_, _, pre264 _ ?_, hrun, hended, _, _, rfl, ?_, ⟨_, rfl⟩, hW, hsame.mono (by decide) (by decide)⟩
                                            · show Steps p.tables e below (s₁.setTop (mkF m 129 #[.val (.int p1)] [(.int (126 : Int32)), (.int p1)])) _
                                              refine XS.icmpYes X0.here hx rfl (pc0 := 129) (pc' := 136) rfl (hb hby d2_129) rfl (feq hc129).2 (by decide) (by decide) ?_
                                              show Steps p.tables e below (s₁.setTop (mkF m 136 #[.val (.int p1)] [])) _
                                              refine XS.iconst X0.here hx rfl (hb hby d2_136) ?_
                                              show Steps p.tables e below (s₁.setTop (mkF m 137 #[.val (.int p1)] [(.int (0 : Int32))])) _
                                              exact retN X0 hx (t := .boolean) Bd.returns (by simp) (hb hby d2_137) hr
                                            · show Q2 Z p1 h0 n0 _ s₁.heap _
                                              rw [e0]
                                              exact ⟨by rw [eq266], N0, rfl⟩
            · have eq267 : (f2 p1) = (1 : Int32) := by unfold f2; simp only [if_neg hc3, if_pos hc9, if_neg hc17, if_pos hc23, if_neg hc31, if_neg hc37]
              obtain ⟨fs, hr, hrun, hended, hW, hsame⟩ := X0.leave (v := some (.int (1 : Int32))) (fun h => by rw [Bd.returns] at h; cases h)
              refine ⟨_, _, pre235 _ ?_, hrun, hended, _, _, rfl, ?_, ⟨_, rfl⟩, hW, hsame.mono (by decide) (by decide)⟩
              · show Steps p.tables e below (s₁.setTop (mkF m 37 #[.val (.int p1)] [(.int (122 : Int32)), (.int p1)])) _
                refine XS.icmpNo X0.here hx rfl (hb hby d2_37) rfl (flt hc37).2.2.1 ?_
                show Steps p.tables e below (s₁.setTop (mkF m 40 #[.val (.int p1)] [])) _
                refine XS.iconst X0.here hx rfl (hb hby d2_40) ?_
                show Steps p.tables e below (s₁.setTop (mkF m 41 #[.val (.int p1)] [(.int (1 : Int32))])) _
                exact retN X0 hx (t := .boolean) Bd.returns (by simp) (hb hby d2_41) hr
              · show Q2 Z p1 h0 n0 _ s₁.heap _
                rw [e0]
                exact ⟨by rw [eq267], N0, rfl⟩
        · have eq268 : (f2 p1) = (1 : Int32) := by unfold f2; simp only [if_neg hc3, if_pos hc9, if_neg hc17, if_neg hc23]
          obtain ⟨fs, hr, hrun, hended, hW, hsame⟩ := X0.leave (v := some (.int (1 : Int32))) (fun h => by rw [Bd.returns] at h; cases h)
          refine ⟨_, _, pre202 _ ?_, hrun, hended, _, _, rfl, ?_, ⟨_, rfl⟩, hW, hsame.mono (by decide) (by decide)⟩
          · show Steps p.tables e below (s₁.setTop (mkF m 23 #[.val (.int p1)] [(.int (90 : Int32)), (.int p1)])) _
            refine XS.icmpNo X0.here hx rfl (hb hby d2_23) rfl (flt hc23).2.2.1 ?_
            show Steps p.tables e below (s₁.setTop (mkF m 26 #[.val (.int p1)] [])) _
            refine XS.iconst X0.here hx rfl (hb hby d2_26) ?_
            show Steps p.tables e below (s₁.setTop (mkF m 27 #[.val (.int p1)] [(.int (1 : Int32))])) _
            exact retN X0 hx (t := .boolean) Bd.returns (by simp) (hb hby d2_27) hr
          · show Q2 Z p1 h0 n0 _ s₁.heap _
            rw [e0]
            exact ⟨by rw [eq268], N0, rfl⟩
    · have eq269 : (f2 p1) = (1 : Int32) := by unfold f2; simp only [if_neg hc3, if_neg hc9]
      obtain ⟨fs, hr, hrun, hended, hW, hsame⟩ := X0.leave (v := some (.int (1 : Int32))) (fun h => by rw [Bd.returns] at h; cases h)
      refine ⟨_, _, pre135 _ ?_, hrun, hended, _, _, rfl, ?_, ⟨_, rfl⟩, hW, hsame.mono (by decide) (by decide)⟩
      · show Steps p.tables e below (s₁.setTop (mkF m 9 #[.val (.int p1)] [(.int (57 : Int32)), (.int p1)])) _
        refine XS.icmpNo X0.here hx rfl (hb hby d2_9) rfl (flt hc9).2.2.1 ?_
        show Steps p.tables e below (s₁.setTop (mkF m 12 #[.val (.int p1)] [])) _
        refine XS.iconst X0.here hx rfl (hb hby d2_12) ?_
        show Steps p.tables e below (s₁.setTop (mkF m 13 #[.val (.int p1)] [(.int (1 : Int32))])) _
        exact retN X0 hx (t := .boolean) Bd.returns (by simp) (hb hby d2_13) hr
      · show Q2 Z p1 h0 n0 _ s₁.heap _
        rw [e0]
        exact ⟨by rw [eq269], N0, rfl⟩
theorem pd_0 : parseMethodDescriptor "(I)Z" = some ⟨[.int], some .boolean⟩ := by decide +kernel
theorem d1_0 : decode method_3_code 0 = .ok (.iload_n 0, 1) := by decide +kernel
theorem d1_1 : decode method_3_code 1 = .ok (.iload_n 1, 1) := by decide +kernel
theorem d1_2 : decode method_3_code 2 = .ok (.if_icmp .lt 8, 3) := by decide +kernel
theorem d1_5 : decode method_3_code 5 = .ok (.iload_n 0, 1) := by decide +kernel
theorem d1_6 : decode method_3_code 6 = .ok (.iload_n 2, 1) := by decide +kernel
theorem d1_7 : decode method_3_code 7 = .ok (.if_icmp .lt 5, 3) := by decide +kernel
theorem d1_10 : decode method_3_code 10 = .ok (.iconst 1, 1) := by decide +kernel
theorem d1_11 : decode method_3_code 11 = .ok (.ireturn, 1) := by decide +kernel
theorem d1_12 : decode method_3_code 12 = .ok (.iload_n 3, 1) := by decide +kernel
theorem d1_13 : decode method_3_code 13 = .ok (.sipush 255, 3) := by decide +kernel
theorem d1_16 : decode method_3_code 16 = .ok (.iand, 1) := by decide +kernel
theorem d1_17 : decode method_3_code 17 = .ok (.invokestatic 7, 3) := by decide +kernel
theorem d1_20 : decode method_3_code 20 = .ok (.ireturn, 1) := by decide +kernel
theorem ef_1 (m : MethodId) (x0 : Int32) (x1 : Int32) (x2 : Int32) (x3 : Int32) : entryFrame m #[(.int x0), (.int x1), (.int x2), (.int x3)] 4 = mkF m 0 #[.val (.int x0), .val (.int x1), .val (.int x2), .val (.int x3)] [] := by first | (simp [entryFrame, mkF, argsToLocals, Value.category]; done) | rfl
def f1 (p1 : Int32) (p2 : Int32) (p3 : Int32) (p4 : Int32) : Int32 := (if p1 < p2 then (1 : Int32) else (if p1 < p3 then (nar .boolean (f2 (p4 &&& (255 : Int32)))) else (1 : Int32)))
def Q1 (Z : State) (p1 : Int32) (p2 : Int32) (p3 : Int32) (p4 : Int32) (h0 : Heap) (n0 : Nat) (v : Option Value) (h : Heap) (L : List Loc) : Prop := v = some (.int (f1 p1 p2 p3 p4)) ∧ Fr n0 L ∧ h = h0
set_option maxRecDepth 65536 in
set_option maxHeartbeats 40000000 in
theorem rm1 (l : Launch) (Z : State) (a0 : Array Value) (hw : ∀ d ∈ tables_1, d.before a0 Z = true) (ws : List Jvm.Cond) (p1 : Int32) (p2 : Int32) (p3 : Int32) (p4 : Int32) (h0 : Heap) (n0 : Nat) (Z0 : n0 ≤ h0.size) :
    MetFree l (⟨"com/example/hoardr/hoardr/http/FramingIsTokenPinLaw", "okAt", "(IIIB)Z"⟩ : MethodName) (head1 (Jvm.Cond.code (⟨"com/example/hoardr/hoardr/http/FramingIsTokenPinLaw", "okAt", "(IIIB)Z"⟩ : MethodName) method_3_code 4 (some .boolean) :: ws) ({ frames := 1, cells := 0, slots := 0, locals := 12 } : Room)) (fun a U => a = #[(.int p1), (.int p2), (.int p3), (.int p4)] ∧ Z.Warmed39 U.vm ∧ U.heap = h0) (fun _ _ _ _ _ => True) (fun _ U o U' => ∃ v L, o = .returned v ∧ Q1 Z p1 p2 p3 p4 h0 n0 v U'.heap L ∧ FrameEnd U o U' L ({ frames := 1, cells := 0, slots := 0, locals := 12 } : Room).cells ({ frames := 1, cells := 0, slots := 0, locals := 12 } : Room).slots) := by
  refine MetFree.of_bodySF (plainFor_of_name pn_0) hisR ?_
  intro p e s m args below meth c s₁ Bd hml0 hP hK
  obtain ⟨rfl, hZ, hh⟩ := hP
  have hx := Bd.exec
  have hby := Bd.bytes
  have hml : c.maxLocals = 4 := hml0
  have hown : s.vm.findClass "com/example/hoardr/hoardr/http/FramingIsTokenPinLaw" = some m.cls := findClass_of_methodNamed Bd.named
  have hnm := (name_of_methodNamed Bd.named Bd.method).1
  have X0 : Stand p l e ({ frames := 1, cells := 0, slots := 0, locals := 12 } : Room) s m #[(.int p1), (.int p2), (.int p3), (.int p4)] below meth c s₁ [] 0 0 := Stand.of_body Bd
  have e0 : s₁.heap = h0 := by rw [← hh, Bd.state]; rfl
  have N0 := Fr.nil n0
  have pre0 : ∀ t, Steps p.tables e below (s₁.setTop (mkF m 0 #[.val (.int p1), .val (.int p2), .val (.int p3), .val (.int p4)] [])) t → Steps p.tables e below (s₁.setTop (entryFrame m #[(.int p1), (.int p2), (.int p3), (.int p4)] 4)) t := fun t k => castTop (ef_1 m p1 p2 p3 p4) k
  have pre1 : ∀ t, Steps p.tables e below (s₁.setTop (mkF m 2 #[.val (.int p1), .val (.int p2), .val (.int p3), .val (.int p4)] [(.int p2), (.int p1)])) t → Steps p.tables e below (s₁.setTop (entryFrame m #[(.int p1), (.int p2), (.int p3), (.int p4)] 4)) t := by
    intro t k
    refine pre0 t ?_
    show Steps p.tables e below (s₁.setTop (mkF m 0 #[.val (.int p1), .val (.int p2), .val (.int p3), .val (.int p4)] [])) _
    refine XS.iloadN X0.here hx rfl (hb hby d1_0) rfl ?_
    show Steps p.tables e below (s₁.setTop (mkF m 1 #[.val (.int p1), .val (.int p2), .val (.int p3), .val (.int p4)] [(.int p1)])) _
    refine XS.iloadN X0.here hx rfl (hb hby d1_1) rfl ?_
    exact k
  by_cases hc2 : p1 < p2
  · have eq2 : (f1 p1 p2 p3 p4) = (1 : Int32) := by unfold f1; simp only [if_pos hc2]
    obtain ⟨fs, hr, hrun, hended, hW, hsame⟩ := X0.leave (v := some (.int (1 : Int32))) (fun h => by rw [Bd.returns] at h; cases h)
    refine ⟨_, _, pre1 _ ?_, hrun, hended, _, _, rfl, ?_, ⟨_, rfl⟩, hW, hsame.mono (by decide) (by decide)⟩
    · show Steps p.tables e below (s₁.setTop (mkF m 2 #[.val (.int p1), .val (.int p2), .val (.int p3), .val (.int p4)] [(.int p2), (.int p1)])) _
      refine XS.icmpYes X0.here hx rfl (pc0 := 2) (pc' := 10) rfl (hb hby d1_2) rfl (tlt hc2).1 (by decide) (by decide) ?_
      show Steps p.tables e below (s₁.setTop (mkF m 10 #[.val (.int p1), .val (.int p2), .val (.int p3), .val (.int p4)] [])) _
      refine XS.iconst X0.here hx rfl (hb hby d1_10) ?_
      show Steps p.tables e below (s₁.setTop (mkF m 11 #[.val (.int p1), .val (.int p2), .val (.int p3), .val (.int p4)] [(.int (1 : Int32))])) _
      exact retN X0 hx (t := .boolean) Bd.returns (by simp) (hb hby d1_11) hr
    · show Q1 Z p1 p2 p3 p4 h0 n0 _ s₁.heap _
      rw [e0]
      exact ⟨by rw [eq2], N0, rfl⟩
  · have pre3 : ∀ t, Steps p.tables e below (s₁.setTop (mkF m 7 #[.val (.int p1), .val (.int p2), .val (.int p3), .val (.int p4)] [(.int p3), (.int p1)])) t → Steps p.tables e below (s₁.setTop (entryFrame m #[(.int p1), (.int p2), (.int p3), (.int p4)] 4)) t := by
      intro t k
      refine pre1 t ?_
      show Steps p.tables e below (s₁.setTop (mkF m 2 #[.val (.int p1), .val (.int p2), .val (.int p3), .val (.int p4)] [(.int p2), (.int p1)])) _
      refine XS.icmpNo X0.here hx rfl (hb hby d1_2) rfl (flt hc2).1 ?_
      show Steps p.tables e below (s₁.setTop (mkF m 5 #[.val (.int p1), .val (.int p2), .val (.int p3), .val (.int p4)] [])) _
      refine XS.iloadN X0.here hx rfl (hb hby d1_5) rfl ?_
      show Steps p.tables e below (s₁.setTop (mkF m 6 #[.val (.int p1), .val (.int p2), .val (.int p3), .val (.int p4)] [(.int p1)])) _
      refine XS.iloadN X0.here hx rfl (hb hby d1_6) rfl ?_
      exact k
    by_cases hc7 : p1 < p3
    · obtain ⟨_, _, ⟨T5, L5, k5, n5⟩, -, X5, ⟨Lc5, hQ5, l5, y5, z5⟩, st5⟩ := Jvm.LawKit.callS X0 hx (y := (⟨"com/example/hoardr/hoardr/http/FramingIsTokenPinLaw", "tchar", "(I)Z"⟩ : MethodName)) hown (mvT hZ (hw _ (List.mem_of_getElem? (i := 6) rfl))) (mvT hZ (hw _ (List.mem_of_getElem? (i := 7) rfl))) (mvT hZ (hw _ (List.mem_of_getElem? (i := 4) rfl))) (mvT hZ (hw _ (List.mem_of_getElem? (i := 8) rfl))) (by decide) (backOf (W := 0) (rm2 l Z a0 hw [] (p4 &&& (255 : Int32)) h0 n0 Z0 ) hZ (hw _ (List.mem_of_getElem? (i := 8) rfl)) (hw _ (List.mem_of_getElem? (i := 4) rfl)) (by decide) (by decide)) (g := (mkF m 17 #[.val (.int p1), .val (.int p2), .val (.int p3), .val (.int p4)] [(.int (p4 &&& (255 : Int32)))])) rfl (by rw [hml]; rfl) (argsL := [(.int (p4 &&& (255 : Int32)))]) (rest := []) (lenOf pd_0 rfl) rfl (by show 2 * 0 + _ ≤ _; exact Nat.le_of_eq rfl) (hb hby d1_17) (fun _ _ => ⟨rfl, e0, (by decide : 0 + 0 ≤ _), (by decide : 0 + 0 ≤ _)⟩)
      dsimp only [Pt.U, Pt.locs, Pt.cells, Pt.slots] at X5 l5 y5 z5 st5 hQ5
      subst l5 y5 z5
      obtain ⟨rfl, N5q, e5⟩ := hQ5
      have N5 := Fr.app N0 N5q
      have eq4 : (f1 p1 p2 p3 p4) = (nar .boolean (f2 (p4 &&& (255 : Int32)))) := by unfold f1; simp only [if_neg hc2, if_pos hc7]
      obtain ⟨fs, hr, hrun, hended, hW, hsame⟩ := X5.leave (v := some (.int (nar .boolean (f2 (p4 &&& (255 : Int32)))))) (fun h => by rw [Bd.returns] at h; cases h)
      refine ⟨_, _, pre3 _ ?_, hrun, hended, _, _, rfl, ?_, ⟨_, rfl⟩, hW, hsame.mono (by decide) (by decide)⟩
      · show Steps p.tables e below (s₁.setTop (mkF m 7 #[.val (.int p1), .val (.int p2), .val (.int p3), .val (.int p4)] [(.int p3), (.int p1)])) _
        refine XS.icmpYes X0.here hx rfl (pc0 := 7) (pc' := 12) rfl (hb hby d1_7) rfl (tlt hc7).1 (by decide) (by decide) ?_
        show Steps p.tables e below (s₁.setTop (mkF m 12 #[.val (.int p1), .val (.int p2), .val (.int p3), .val (.int p4)] [])) _
        refine XS.iloadN X0.here hx rfl (hb hby d1_12) rfl ?_
        show Steps p.tables e below (s₁.setTop (mkF m 13 #[.val (.int p1), .val (.int p2), .val (.int p3), .val (.int p4)] [(.int p4)])) _
        refine XS.sipush X0.here hx rfl (hb hby d1_13) ?_
        show Steps p.tables e below (s₁.setTop (mkF m 16 #[.val (.int p1), .val (.int p2), .val (.int p3), .val (.int p4)] [(.int (255 : Int32)), (.int p4)])) _
        refine XS.iand X0.here hx rfl (hb hby d1_16) rfl ?_
        show Steps p.tables e below (s₁.setTop (mkF m 17 #[.val (.int p1), .val (.int p2), .val (.int p3), .val (.int p4)] [(.int (p4 &&& (255 : Int32)))])) _
        refine st5 _ ?_
        show Steps p.tables e below (T5.setTop (mkF m 20 #[.val (.int p1), .val (.int p2), .val (.int p3), .val (.int p4)] [(.int (f2 (p4 &&& (255 : Int32))))])) _
        exact retN X5 hx (t := .boolean) Bd.returns (by simp) (hb hby d1_20) hr
      · show Q1 Z p1 p2 p3 p4 h0 n0 _ T5.heap _
        rw [e5]
        exact ⟨by rw [eq4], N5, rfl⟩
    · have eq5 : (f1 p1 p2 p3 p4) = (1 : Int32) := by unfold f1; simp only [if_neg hc2, if_neg hc7]
      obtain ⟨fs, hr, hrun, hended, hW, hsame⟩ := X0.leave (v := some (.int (1 : Int32))) (fun h => by rw [Bd.returns] at h; cases h)
      refine ⟨_, _, pre3 _ ?_, hrun, hended, _, _, rfl, ?_, ⟨_, rfl⟩, hW, hsame.mono (by decide) (by decide)⟩
      · show Steps p.tables e below (s₁.setTop (mkF m 7 #[.val (.int p1), .val (.int p2), .val (.int p3), .val (.int p4)] [(.int p3), (.int p1)])) _
        refine XS.icmpNo X0.here hx rfl (hb hby d1_7) rfl (flt hc7).1 ?_
        show Steps p.tables e below (s₁.setTop (mkF m 10 #[.val (.int p1), .val (.int p2), .val (.int p3), .val (.int p4)] [])) _
        refine XS.iconst X0.here hx rfl (hb hby d1_10) ?_
        show Steps p.tables e below (s₁.setTop (mkF m 11 #[.val (.int p1), .val (.int p2), .val (.int p3), .val (.int p4)] [(.int (1 : Int32))])) _
        exact retN X0 hx (t := .boolean) Bd.returns (by simp) (hb hby d1_11) hr
      · show Q1 Z p1 p2 p3 p4 h0 n0 _ s₁.heap _
        rw [e0]
        exact ⟨by rw [eq5], N0, rfl⟩
theorem pn_1 : plainName "com/example/hoardr/hoardr/http/Framing" = true := by first | (simp [plainName, overriddenIn]; done) | decide +kernel
theorem d3_0 : decode prog_49_method_2_code 0 = .ok (.iload_n 1, 1) := by decide +kernel
theorem d3_1 : decode prog_49_method_2_code 1 = .ok (.iload_n 2, 1) := by decide +kernel
theorem d3_2 : decode prog_49_method_2_code 2 = .ok (.if_icmp .lt 5, 3) := by decide +kernel
theorem d3_5 : decode prog_49_method_2_code 5 = .ok (.iconst 0, 1) := by decide +kernel
theorem d3_6 : decode prog_49_method_2_code 6 = .ok (.ireturn, 1) := by decide +kernel
theorem d3_7 : decode prog_49_method_2_code 7 = .ok (.iload_n 1, 1) := by decide +kernel
theorem d3_8 : decode prog_49_method_2_code 8 = .ok (.istore_n 3, 1) := by decide +kernel
theorem d3_9 : decode prog_49_method_2_code 9 = .ok (.iload_n 3, 1) := by decide +kernel
theorem d3_10 : decode prog_49_method_2_code 10 = .ok (.iload_n 2, 1) := by decide +kernel
theorem d3_11 : decode prog_49_method_2_code 11 = .ok (.if_icmp .ge 25, 3) := by decide +kernel
theorem d3_14 : decode prog_49_method_2_code 14 = .ok (.getstatic 9, 3) := by decide +kernel
theorem d3_17 : decode prog_49_method_2_code 17 = .ok (.aload_n 0, 1) := by decide +kernel
theorem d3_18 : decode prog_49_method_2_code 18 = .ok (.iload_n 3, 1) := by decide +kernel
theorem d3_19 : decode prog_49_method_2_code 19 = .ok (.baload, 1) := by decide +kernel
theorem d3_20 : decode prog_49_method_2_code 20 = .ok (.sipush 255, 3) := by decide +kernel
theorem d3_23 : decode prog_49_method_2_code 23 = .ok (.iand, 1) := by decide +kernel
theorem d3_24 : decode prog_49_method_2_code 24 = .ok (.baload, 1) := by decide +kernel
theorem d3_25 : decode prog_49_method_2_code 25 = .ok (.ifCond .ne 5, 3) := by decide +kernel
theorem d3_28 : decode prog_49_method_2_code 28 = .ok (.iconst 0, 1) := by decide +kernel
theorem d3_29 : decode prog_49_method_2_code 29 = .ok (.ireturn, 1) := by decide +kernel
theorem d3_30 : decode prog_49_method_2_code 30 = .ok (.iinc 3 1, 3) := by decide +kernel
theorem d3_33 : decode prog_49_method_2_code 33 = .ok (.goto (-24), 3) := by decide +kernel
theorem d3_36 : decode prog_49_method_2_code 36 = .ok (.iconst 1, 1) := by decide +kernel
theorem d3_37 : decode prog_49_method_2_code 37 = .ok (.ireturn, 1) := by decide +kernel
theorem ef_3 (m : MethodId) (x0 : Addr) (x1 : Int32) (x2 : Int32) : entryFrame m #[(.ref x0), (.int x1), (.int x2)] 4 = mkF m 0 #[.val (.ref x0), .val (.int x1), .val (.int x2), .unset] [] := by first | (simp [entryFrame, mkF, argsToLocals, Value.category]; done) | rfl
def g3_9 (p2 : Int32) (p3 : Int32) (z_a1 : Int32) (c_a1 : Nat → Int32) (z_w_TOK : Int32) (c_w_TOK : Nat → Int32) : Nat → Int32 → Int32
  | 0, _ => 0
  | k + 1, i3 => (if i3 < p3 then (if (c_w_TOK (((c_a1 (i3).toNatClampNeg) &&& (255 : Int32))).toNatClampNeg) = (0 : Int32) then (0 : Int32) else (g3_9 p2 p3 z_a1 c_a1 z_w_TOK c_w_TOK k (i3 + (1 : Int32)))) else (1 : Int32))
def f3 (p2 : Int32) (p3 : Int32) (z_a1 : Int32) (c_a1 : Nat → Int32) (z_w_TOK : Int32) (c_w_TOK : Nat → Int32) : Int32 := (if p2 < p3 then (g3_9 p2 p3 z_a1 c_a1 z_w_TOK c_w_TOK (5) p2) else (0 : Int32))
def Q3 (Z : State) (a1 : Addr) (p2 : Int32) (p3 : Int32) (z_a1 : Int32) (c_a1 : Nat → Int32) (w_TOK : Addr) (z_w_TOK : Int32) (c_w_TOK : Nat → Int32) (h0 : Heap) (n0 : Nat) (v : Option Value) (h : Heap) (L : List Loc) : Prop := v = some (.int (f3 p2 p3 z_a1 c_a1 z_w_TOK c_w_TOK)) ∧ Fr n0 L ∧ h = h0
set_option maxRecDepth 65536 in
set_option maxHeartbeats 40000000 in
theorem rm3 (l : Launch) (Z : State) (a0 : Array Value) (hw : ∀ d ∈ tables_1, d.before a0 Z = true) (ws : List Jvm.Cond) (a1 : Addr) (p2 : Int32) (p3 : Int32) (z_a1 : Int32) (c_a1 : Nat → Int32) (w_TOK : Addr) (z_w_TOK : Int32) (c_w_TOK : Nat → Int32) (h0 : Heap) (n0 : Nat) (Z0 : n0 ≤ h0.size) (V_a1 : IAr Z h0 a1 .byte z_a1 c_a1) (S_TOKEN_CHARACTERS : Sta Z h0 "com/example/hoardr/hoardr/http/Framing" "TOKEN_CHARACTERS" "[Z" (.ref w_TOK)) (V_w_TOK : IAr Z h0 w_TOK .boolean z_w_TOK c_w_TOK) (hz : z_w_TOK = 256) (hq1 : 0 ≤ p2.toInt ∧ p3.toInt ≤ z_a1.toInt ∧ p3.toInt ≤ 4) :
    MetFree l (⟨"com/example/hoardr/hoardr/http/Framing", "isToken", "([BII)Z"⟩ : MethodName) (head1 (Jvm.Cond.code (⟨"com/example/hoardr/hoardr/http/Framing", "isToken", "([BII)Z"⟩ : MethodName) prog_49_method_2_code 4 (some .boolean) :: ws) ({ frames := 0, cells := 0, slots := 0, locals := 0 } : Room)) (fun a U => a = #[(.ref a1), (.int p2), (.int p3)] ∧ Z.Warmed39 U.vm ∧ U.heap = h0) (fun _ _ _ _ _ => True) (fun _ U o U' => ∃ v L, o = .returned v ∧ Q3 Z a1 p2 p3 z_a1 c_a1 w_TOK z_w_TOK c_w_TOK h0 n0 v U'.heap L ∧ FrameEnd U o U' L ({ frames := 0, cells := 0, slots := 0, locals := 0 } : Room).cells ({ frames := 0, cells := 0, slots := 0, locals := 0 } : Room).slots) := by
  refine MetFree.of_bodySF (plainFor_of_name pn_1) hisR ?_
  intro p e s m args below meth c s₁ Bd hml0 hP hK
  obtain ⟨rfl, hZ, hh⟩ := hP
  have hx := Bd.exec
  have hby := Bd.bytes
  have hml : c.maxLocals = 4 := hml0
  have hown : s.vm.findClass "com/example/hoardr/hoardr/http/Framing" = some m.cls := findClass_of_methodNamed Bd.named
  have hnm := (name_of_methodNamed Bd.named Bd.method).1
  have X0 : Stand p l e ({ frames := 0, cells := 0, slots := 0, locals := 0 } : Room) s m #[(.ref a1), (.int p2), (.int p3)] below meth c s₁ [] 0 0 := Stand.of_body Bd
  have e0 : s₁.heap = h0 := by rw [← hh, Bd.state]; rfl
  have N0 := Fr.nil n0
  have pre0 : ∀ t, Steps p.tables e below (s₁.setTop (mkF m 0 #[.val (.ref a1), .val (.int p2), .val (.int p3), .unset] [])) t → Steps p.tables e below (s₁.setTop (entryFrame m #[(.ref a1), (.int p2), (.int p3)] 4)) t := fun t k => castTop (ef_3 m a1 p2 p3) k
  have pre1 : ∀ t, Steps p.tables e below (s₁.setTop (mkF m 2 #[.val (.ref a1), .val (.int p2), .val (.int p3), .unset] [(.int p3), (.int p2)])) t → Steps p.tables e below (s₁.setTop (entryFrame m #[(.ref a1), (.int p2), (.int p3)] 4)) t := by
    intro t k
    refine pre0 t ?_
    show Steps p.tables e below (s₁.setTop (mkF m 0 #[.val (.ref a1), .val (.int p2), .val (.int p3), .unset] [])) _
    refine XS.iloadN X0.here hx rfl (hb hby d3_0) rfl ?_
    show Steps p.tables e below (s₁.setTop (mkF m 1 #[.val (.ref a1), .val (.int p2), .val (.int p3), .unset] [(.int p2)])) _
    refine XS.iloadN X0.here hx rfl (hb hby d3_1) rfl ?_
    exact k
  by_cases hc2 : p2 < p3
  · have pre2 : ∀ t, Steps p.tables e below (s₁.setTop (mkF m 9 #[.val (.ref a1), .val (.int p2), .val (.int p3), .val (.int p2)] [])) t → Steps p.tables e below (s₁.setTop (entryFrame m #[(.ref a1), (.int p2), (.int p3)] 4)) t := by
      intro t k
      refine pre1 t ?_
      show Steps p.tables e below (s₁.setTop (mkF m 2 #[.val (.ref a1), .val (.int p2), .val (.int p3), .unset] [(.int p3), (.int p2)])) _
      refine XS.icmpYes X0.here hx rfl (pc0 := 2) (pc' := 7) rfl (hb hby d3_2) rfl (tlt hc2).1 (by decide) (by decide) ?_
      show Steps p.tables e below (s₁.setTop (mkF m 7 #[.val (.ref a1), .val (.int p2), .val (.int p3), .unset] [])) _
      refine XS.iloadN X0.here hx rfl (hb hby d3_7) rfl ?_
      show Steps p.tables e below (s₁.setTop (mkF m 8 #[.val (.ref a1), .val (.int p2), .val (.int p3), .unset] [(.int p2)])) _
      refine XS.istoreN X0.here hx rfl (hb hby d3_8) rfl (l' := #[.val (.ref a1), .val (.int p2), .val (.int p3), .val (.int p2)]) rfl ?_
      exact k
    have loop9 : ∀ (k : Nat) (i3 : Int32) (T4 : State) (LT4 : List Loc), 0 ≤ i3.toInt ∧ i3.toInt ≤ p3.toInt ∧ p3.toInt ≤ z_a1.toInt ∧ p3.toInt - i3.toInt < (k : Int) → Stand p l e ({ frames := 0, cells := 0, slots := 0, locals := 0 } : Room) s m #[(.ref a1), (.int p2), (.int p3)] below meth c T4 LT4 0 0 → T4.heap = h0 → Fr n0 LT4 → (g3_9 p2 p3 z_a1 c_a1 z_w_TOK c_w_TOK k i3) = (f3 p2 p3 z_a1 c_a1 z_w_TOK c_w_TOK) → (∀ t, Steps p.tables e below (T4.setTop (mkF m 9 #[.val (.ref a1), .val (.int p2), .val (.int p3), .val (.int i3)] [])) t → Steps p.tables e below (s₁.setTop (entryFrame m #[(.ref a1), (.int p2), (.int p3)] 4)) t) → ∃ s₂ o, Steps p.tables e below (s₁.setTop (entryFrame m #[(.ref a1), (.int p2), (.int p3)] 4)) s₂ ∧ s₂.status = .running ∧ Ended s₂ below o ∧ ∃ v L, o = .returned v ∧ Q3 Z a1 p2 p3 z_a1 c_a1 w_TOK z_w_TOK c_w_TOK h0 n0 v s₂.heap L ∧ FrameEnd s o s₂ L ({ frames := 0, cells := 0, slots := 0, locals := 0 } : Room).cells ({ frames := 0, cells := 0, slots := 0, locals := 0 } : Room).slots := by
      intro k
      induction k with
      | zero => intro i3 T4 LT4 hI X4 e4 N4 hg preL; exact absurd hI (by omega)
      | succ k ih =>
        intro i3 T4 LT4 hI X4 e4 N4 hg preL
        have pre3 : ∀ t, Steps p.tables e below (T4.setTop (mkF m 11 #[.val (.ref a1), .val (.int p2), .val (.int p3), .val (.int i3)] [(.int p3), (.int i3)])) t → Steps p.tables e below (s₁.setTop (entryFrame m #[(.ref a1), (.int p2), (.int p3)] 4)) t := by
          intro t k
          refine preL t ?_
          show Steps p.tables e below (T4.setTop (mkF m 9 #[.val (.ref a1), .val (.int p2), .val (.int p3), .val (.int i3)] [])) _
          refine XS.iloadN X4.here hx rfl (hb hby d3_9) rfl ?_
          show Steps p.tables e below (T4.setTop (mkF m 10 #[.val (.ref a1), .val (.int p2), .val (.int p3), .val (.int i3)] [(.int i3)])) _
          refine XS.iloadN X4.here hx rfl (hb hby d3_10) rfl ?_
          exact k
        by_cases hc11 : i3 < p3
        · obtain ⟨T5, X5, e5, st5⟩ := getS2 X4 hx hZ hown (host := "") (Or.inl (hw _ (List.mem_of_getElem? (i := 13) rfl))) Via.refl e4 S_TOKEN_CHARACTERS (g := (mkF m 14 #[.val (.ref a1), .val (.int p2), .val (.int p3), .val (.int i3)] [])) rfl (hb hby d3_14)
          have pre4 : ∀ t, Steps p.tables e below (T5.setTop (mkF m 25 #[.val (.ref a1), .val (.int p2), .val (.int p3), .val (.int i3)] [(.int (c_w_TOK (((c_a1 (i3).toNatClampNeg) &&& (255 : Int32))).toNatClampNeg))])) t → Steps p.tables e below (s₁.setTop (entryFrame m #[(.ref a1), (.int p2), (.int p3)] 4)) t := by
            intro t k
            refine pre3 t ?_
            show Steps p.tables e below (T4.setTop (mkF m 11 #[.val (.ref a1), .val (.int p2), .val (.int p3), .val (.int i3)] [(.int p3), (.int i3)])) _
            refine XS.icmpNo X4.here hx rfl (hb hby d3_11) rfl (tlt hc11).2.1 ?_
            show Steps p.tables e below (T4.setTop (mkF m 14 #[.val (.ref a1), .val (.int p2), .val (.int p3), .val (.int i3)] [])) _
            refine st5 _ ?_
            show Steps p.tables e below (T5.setTop (mkF m 17 #[.val (.ref a1), .val (.int p2), .val (.int p3), .val (.int i3)] [(.ref w_TOK)])) _
            refine XS.aloadN X5.here hx rfl (hb hby d3_17) rfl rfl ?_
            show Steps p.tables e below (T5.setTop (mkF m 18 #[.val (.ref a1), .val (.int p2), .val (.int p3), .val (.int i3)] [(.ref a1), (.ref w_TOK)])) _
            refine XS.iloadN X5.here hx rfl (hb hby d3_18) rfl ?_
            show Steps p.tables e below (T5.setTop (mkF m 19 #[.val (.ref a1), .val (.int p2), .val (.int p3), .val (.int i3)] [(.int i3), (.ref a1), (.ref w_TOK)])) _
            refine ldB X5 hx hZ e5 V_a1 (j := i3) (own_in hI hc11) (g := (mkF m 19 #[.val (.ref a1), .val (.int p2), .val (.int p3), .val (.int i3)] [(.int i3), (.ref a1), (.ref w_TOK)])) rfl rfl (hb hby d3_19) ?_
            show Steps p.tables e below (T5.setTop (mkF m 20 #[.val (.ref a1), .val (.int p2), .val (.int p3), .val (.int i3)] [(.int (c_a1 (i3).toNatClampNeg)), (.ref w_TOK)])) _
            refine XS.sipush X5.here hx rfl (hb hby d3_20) ?_
            show Steps p.tables e below (T5.setTop (mkF m 23 #[.val (.ref a1), .val (.int p2), .val (.int p3), .val (.int i3)] [(.int (255 : Int32)), (.int (c_a1 (i3).toNatClampNeg)), (.ref w_TOK)])) _
            refine XS.iand X5.here hx rfl (hb hby d3_23) rfl ?_
            show Steps p.tables e below (T5.setTop (mkF m 24 #[.val (.ref a1), .val (.int p2), .val (.int p3), .val (.int i3)] [(.int ((c_a1 (i3).toNatClampNeg) &&& (255 : Int32))), (.ref w_TOK)])) _
            refine ldZ X5 hx hZ e5 V_w_TOK (j := ((c_a1 (i3).toNatClampNeg) &&& (255 : Int32))) (by rw [hz]; exact own_i256 _) (g := (mkF m 24 #[.val (.ref a1), .val (.int p2), .val (.int p3), .val (.int i3)] [(.int ((c_a1 (i3).toNatClampNeg) &&& (255 : Int32))), (.ref w_TOK)])) rfl rfl (hb hby d3_24) ?_
            exact k
          by_cases hc25 : (c_w_TOK (((c_a1 (i3).toNatClampNeg) &&& (255 : Int32))).toNatClampNeg) = (0 : Int32)
          · have eq5 : (f3 p2 p3 z_a1 c_a1 z_w_TOK c_w_TOK) = (0 : Int32) := by rw [← hg]; simp only [g3_9, if_pos hc11, if_pos hc25]
            obtain ⟨fs, hr, hrun, hended, hW, hsame⟩ := X5.leave (v := some (.int (0 : Int32))) (fun h => by rw [Bd.returns] at h; cases h)
            refine ⟨_, _, pre4 _ ?_, hrun, hended, _, _, rfl, ?_, ⟨_, rfl⟩, hW, hsame.mono (by decide) (by decide)⟩
            · show Steps p.tables e below (T5.setTop (mkF m 25 #[.val (.ref a1), .val (.int p2), .val (.int p3), .val (.int i3)] [(.int (c_w_TOK (((c_a1 (i3).toNatClampNeg) &&& (255 : Int32))).toNatClampNeg))])) _
              refine XS.ifNo X5.here hx rfl (hb hby d3_25) rfl ((if0 _ _).trans (teq hc25).2) ?_
              show Steps p.tables e below (T5.setTop (mkF m 28 #[.val (.ref a1), .val (.int p2), .val (.int p3), .val (.int i3)] [])) _
              refine XS.iconst X5.here hx rfl (hb hby d3_28) ?_
              show Steps p.tables e below (T5.setTop (mkF m 29 #[.val (.ref a1), .val (.int p2), .val (.int p3), .val (.int i3)] [(.int (0 : Int32))])) _
              exact retN X5 hx (t := .boolean) Bd.returns (by simp) (hb hby d3_29) hr
            · show Q3 Z a1 p2 p3 z_a1 c_a1 w_TOK z_w_TOK c_w_TOK h0 n0 _ T5.heap _
              rw [e5]
              exact ⟨by rw [eq5], N4, rfl⟩
          · have eq6 : (f3 p2 p3 z_a1 c_a1 z_w_TOK c_w_TOK) = (g3_9 p2 p3 z_a1 c_a1 z_w_TOK c_w_TOK k (i3 + (1 : Int32))) := by rw [← hg]; simp only [g3_9, if_pos hc11, if_neg hc25]
            have pre7 : ∀ t, Steps p.tables e below (T5.setTop (mkF m 9 #[.val (.ref a1), .val (.int p2), .val (.int p3), .val (.int (i3 + (1 : Int32)))] [])) t → Steps p.tables e below (s₁.setTop (entryFrame m #[(.ref a1), (.int p2), (.int p3)] 4)) t := by
              intro t k
              refine pre4 t ?_
              show Steps p.tables e below (T5.setTop (mkF m 25 #[.val (.ref a1), .val (.int p2), .val (.int p3), .val (.int i3)] [(.int (c_w_TOK (((c_a1 (i3).toNatClampNeg) &&& (255 : Int32))).toNatClampNeg))])) _
              refine XS.ifYes X5.here hx rfl (pc0 := 25) (pc' := 30) rfl (hb hby d3_25) rfl ((if0 _ _).trans (feq hc25).2) (by decide) (by decide) ?_
              show Steps p.tables e below (T5.setTop (mkF m 30 #[.val (.ref a1), .val (.int p2), .val (.int p3), .val (.int i3)] [])) _
              refine XS.iinc X5.here hx rfl (hb hby d3_30) rfl (l' := #[.val (.ref a1), .val (.int p2), .val (.int p3), .val (.int (i3 + (1 : Int32)))]) rfl ?_
              show Steps p.tables e below (T5.setTop (mkF m 33 #[.val (.ref a1), .val (.int p2), .val (.int p3), .val (.int (i3 + (1 : Int32)))] [])) _
              refine XS.goto X5.here hx rfl (pc0 := 33) (pc' := 9) rfl (hb hby d3_33) (by decide) (by decide) ?_
              exact k
            exact ih (i3 + (1 : Int32)) T5 _  (own_step hI hc11) X5 e5 N4  (eq6).symm pre7
        · have eq8 : (f3 p2 p3 z_a1 c_a1 z_w_TOK c_w_TOK) = (1 : Int32) := by rw [← hg]; simp only [g3_9, if_neg hc11]
          obtain ⟨fs, hr, hrun, hended, hW, hsame⟩ := X4.leave (v := some (.int (1 : Int32))) (fun h => by rw [Bd.returns] at h; cases h)
          refine ⟨_, _, pre3 _ ?_, hrun, hended, _, _, rfl, ?_, ⟨_, rfl⟩, hW, hsame.mono (by decide) (by decide)⟩
          · show Steps p.tables e below (T4.setTop (mkF m 11 #[.val (.ref a1), .val (.int p2), .val (.int p3), .val (.int i3)] [(.int p3), (.int i3)])) _
            refine XS.icmpYes X4.here hx rfl (pc0 := 11) (pc' := 36) rfl (hb hby d3_11) rfl (flt hc11).2.1 (by decide) (by decide) ?_
            show Steps p.tables e below (T4.setTop (mkF m 36 #[.val (.ref a1), .val (.int p2), .val (.int p3), .val (.int i3)] [])) _
            refine XS.iconst X4.here hx rfl (hb hby d3_36) ?_
            show Steps p.tables e below (T4.setTop (mkF m 37 #[.val (.ref a1), .val (.int p2), .val (.int p3), .val (.int i3)] [(.int (1 : Int32))])) _
            exact retN X4 hx (t := .boolean) Bd.returns (by simp) (hb hby d3_37) hr
          · show Q3 Z a1 p2 p3 z_a1 c_a1 w_TOK z_w_TOK c_w_TOK h0 n0 _ T4.heap _
            rw [e4]
            exact ⟨by rw [eq8], N4, rfl⟩
    exact loop9 5 p2 s₁ _  (own_init hq1 hc2) X0 e0 N0 (by unfold f3; simp only [if_pos hc2]) pre2
  · have eq9 : (f3 p2 p3 z_a1 c_a1 z_w_TOK c_w_TOK) = (0 : Int32) := by unfold f3; simp only [if_neg hc2]
    obtain ⟨fs, hr, hrun, hended, hW, hsame⟩ := X0.leave (v := some (.int (0 : Int32))) (fun h => by rw [Bd.returns] at h; cases h)
    refine ⟨_, _, pre1 _ ?_, hrun, hended, _, _, rfl, ?_, ⟨_, rfl⟩, hW, hsame.mono (by decide) (by decide)⟩
    · show Steps p.tables e below (s₁.setTop (mkF m 2 #[.val (.ref a1), .val (.int p2), .val (.int p3), .unset] [(.int p3), (.int p2)])) _
      refine XS.icmpNo X0.here hx rfl (hb hby d3_2) rfl (flt hc2).1 ?_
      show Steps p.tables e below (s₁.setTop (mkF m 5 #[.val (.ref a1), .val (.int p2), .val (.int p3), .unset] [])) _
      refine XS.iconst X0.here hx rfl (hb hby d3_5) ?_
      show Steps p.tables e below (s₁.setTop (mkF m 6 #[.val (.ref a1), .val (.int p2), .val (.int p3), .unset] [(.int (0 : Int32))])) _
      exact retN X0 hx (t := .boolean) Bd.returns (by simp) (hb hby d3_6) hr
    · show Q3 Z a1 p2 p3 z_a1 c_a1 w_TOK z_w_TOK c_w_TOK h0 n0 _ s₁.heap _
      rw [e0]
      exact ⟨by rw [eq9], N0, rfl⟩
theorem pd_1 : parseMethodDescriptor "(IIIB)Z" = some ⟨[.int, .int, .int, .byte], some .boolean⟩ := by decide +kernel
theorem pd_2 : parseMethodDescriptor "([BII)Z" = some ⟨[(.array .byte), .int, .int], some .boolean⟩ := by decide +kernel
theorem ef_0 (m : MethodId) (x0 : Int32) (x1 : Int32) (x2 : Int32) (x3 : Int32) (x4 : Int32) (x5 : Int32) : entryFrame m #[(.int x0), (.int x1), (.int x2), (.int x3), (.int x4), (.int x5)] maxLocals = mkF m 0 #[.val (.int x0), .val (.int x1), .val (.int x2), .val (.int x3), .val (.int x4), .val (.int x5), .unset, .unset, .unset, .unset, .unset] [] := by first | (simp [entryFrame, mkF, argsToLocals, Value.category, maxLocals]; done) | rfl
def f0_v10 (p1 : Int32) : Nat → Int32 := (ownU (fun _ => 0) ((0 : Int32)).toNatClampNeg (nar .byte (p1.toInt8.toInt32)))
def f0_v16 (p1 : Int32) (p2 : Int32) : Nat → Int32 := (ownU (f0_v10 p1) ((1 : Int32)).toNatClampNeg (nar .byte (p2.toInt8.toInt32)))
def f0_v22 (p1 : Int32) (p2 : Int32) (p3 : Int32) : Nat → Int32 := (ownU (f0_v16 p1 p2) ((2 : Int32)).toNatClampNeg (nar .byte (p3.toInt8.toInt32)))
def f0_v28 (p1 : Int32) (p2 : Int32) (p3 : Int32) (p4 : Int32) : Nat → Int32 := (ownU (f0_v22 p1 p2 p3) ((3 : Int32)).toNatClampNeg (nar .byte (p4.toInt8.toInt32)))
def f0_v35 (p5 : Int32) : Int32 := ((p5 &&& (2147483647 : Int32)) - ((p5 &&& (2147483647 : Int32)) / (5 : Int32)) * (5 : Int32))
def f0_v44 (p6 : Int32) : Int32 := ((p6 &&& (2147483647 : Int32)) - ((p6 &&& (2147483647 : Int32)) / (5 : Int32)) * (5 : Int32))
def f0_s0_119 (p1 : Int32) (p2 : Int32) (p3 : Int32) (p4 : Int32) (p5 : Int32) (p6 : Int32) : Int32 := (if (f0_v35 p5) < (f0_v44 p6) then (if (f1 (0 : Int32) (f0_v35 p5) (f0_v44 p6) ((f0_v28 p1 p2 p3 p4) ((0 : Int32)).toNatClampNeg)) = (0 : Int32) then (0 : Int32) else (if (f1 (1 : Int32) (f0_v35 p5) (f0_v44 p6) ((f0_v28 p1 p2 p3 p4) ((1 : Int32)).toNatClampNeg)) = (0 : Int32) then (0 : Int32) else (if (f1 (2 : Int32) (f0_v35 p5) (f0_v44 p6) ((f0_v28 p1 p2 p3 p4) ((2 : Int32)).toNatClampNeg)) = (0 : Int32) then (0 : Int32) else (if (f1 (3 : Int32) (f0_v35 p5) (f0_v44 p6) ((f0_v28 p1 p2 p3 p4) ((3 : Int32)).toNatClampNeg)) = (0 : Int32) then (0 : Int32) else (1 : Int32))))) else (0 : Int32))
def f0 (p1 : Int32) (p2 : Int32) (p3 : Int32) (p4 : Int32) (p5 : Int32) (p6 : Int32) (z_w_TOK : Int32) (c_w_TOK : Nat → Int32) : Int32 := (if (f3 (f0_v35 p5) (f0_v44 p6) (4 : Int32) (f0_v28 p1 p2 p3 p4) z_w_TOK c_w_TOK) = (f0_s0_119 p1 p2 p3 p4 p5 p6) then (1 : Int32) else (0 : Int32))
def Q0 (Z : State) (p1 : Int32) (p2 : Int32) (p3 : Int32) (p4 : Int32) (p5 : Int32) (p6 : Int32) (w_TOK : Addr) (z_w_TOK : Int32) (c_w_TOK : Nat → Int32) (h0 : Heap) (n0 : Nat) (v : Option Value) (h : Heap) (L : List Loc) : Prop := v = some (.int (f0 p1 p2 p3 p4 p5 p6 z_w_TOK c_w_TOK)) ∧ Fr n0 L ∧ True
set_option maxRecDepth 65536 in
set_option maxHeartbeats 40000000 in
theorem rm0 (l : Launch) (Z : State) (a0 : Array Value) (hw : ∀ d ∈ tables_1, d.before a0 Z = true) (ws : List Jvm.Cond) (p1 : Int32) (p2 : Int32) (p3 : Int32) (p4 : Int32) (p5 : Int32) (p6 : Int32) (w_TOK : Addr) (z_w_TOK : Int32) (c_w_TOK : Nat → Int32) (h0 : Heap) (n0 : Nat) (Z0 : n0 ≤ h0.size) (S_TOKEN_CHARACTERS : Sta Z h0 "com/example/hoardr/hoardr/http/Framing" "TOKEN_CHARACTERS" "[Z" (.ref w_TOK)) (V_w_TOK : IAr Z h0 w_TOK .boolean z_w_TOK c_w_TOK) (hz : z_w_TOK = 256) :
    MetFree l x (head1 (Jvm.Cond.code x code maxLocals ret :: ws) room_1) (fun a U => a = #[(.int p1), (.int p2), (.int p3), (.int p4), (.int p5), (.int p6)] ∧ Z.Warmed39 U.vm ∧ U.heap = h0) (fun _ _ _ _ _ => True) (fun _ U o U' => ∃ v L, o = .returned v ∧ Q0 Z p1 p2 p3 p4 p5 p6 w_TOK z_w_TOK c_w_TOK h0 n0 v U'.heap L ∧ FrameEnd U o U' L room_1.cells room_1.slots) := by
  refine MetFree.of_bodySF (plainFor_of_name pn_0) hisR ?_
  intro p e s m args below meth c s₁ Bd hml0 hP hK
  obtain ⟨rfl, hZ, hh⟩ := hP
  have hx := Bd.exec
  have hby := Bd.bytes
  have hml : c.maxLocals = 11 := hml0
  have hown : s.vm.findClass "com/example/hoardr/hoardr/http/FramingIsTokenPinLaw" = some m.cls := findClass_of_methodNamed Bd.named
  have hnm := (name_of_methodNamed Bd.named Bd.method).1
  have X0 : Stand p l e room_1 s m #[(.int p1), (.int p2), (.int p3), (.int p4), (.int p5), (.int p6)] below meth c s₁ [] 0 0 := Stand.of_body Bd
  have e0 : s₁.heap = h0 := by rw [← hh, Bd.state]; rfl
  have N0 := Fr.nil n0
  have pre0 : ∀ t, Steps p.tables e below (s₁.setTop (mkF m 0 #[.val (.int p1), .val (.int p2), .val (.int p3), .val (.int p4), .val (.int p5), .val (.int p6), .unset, .unset, .unset, .unset, .unset] [])) t → Steps p.tables e below (s₁.setTop (entryFrame m #[(.int p1), (.int p2), (.int p3), (.int p4), (.int p5), (.int p6)] maxLocals)) t := fun t k => castTop (ef_0 m p1 p2 p3 p4 p5 p6) k
  obtain ⟨T7, h7, k7, X7, e7, E7, A7, st7⟩ := newP X0 hx hZ (hw _ (List.mem_of_getElem? (i := 0) rfl)) e0 (g := (mkF m 1 #[.val (.int p1), .val (.int p2), .val (.int p3), .val (.int p4), .val (.int p5), .val (.int p6), .unset, .unset, .unset, .unset, .unset] [(.int (4 : Int32))])) rfl (hb hby at_1) rfl (by decide) (cap := 4) (by decide) (by decide) (by decide) (by decide)
  obtain ⟨b7, g7⟩ : ∃ z, z = h0.size := ⟨_, rfl⟩
  rw [← g7] at A7 st7
  have ne_w_TOK_b7 : w_TOK ≠ b7 := Nat.ne_of_lt (Nat.lt_of_lt_of_le V_w_TOK.lt (Nat.le_of_eq g7.symm))
  have g_b7 : n0 ≤ b7 := Nat.le_trans Z0 (Nat.le_of_eq g7.symm)
  have c8 : n0 ≤ h7.size := Nat.le_trans Z0 E7.1
  have c9 : Sta Z h7 "com/example/hoardr/hoardr/http/Framing" "TOKEN_CHARACTERS" "[Z" (.ref w_TOK) := S_TOKEN_CHARACTERS.ext E7
  have c10 : IAr Z h7 w_TOK .boolean z_w_TOK c_w_TOK := V_w_TOK.ext E7
  have c11 : IAr Z h7 b7 .byte (4 : Int32) (fun _ => 0) := IAr.new A7 (by decide) rfl
  obtain ⟨T12, h12, X12, e12, W12, V12, st12⟩ := sB X7 hx hZ e7 c11 (j := (0 : Int32)) ⟨by decide, by first | decide | assumption⟩ (g := (mkF m 10 #[.val (.int p1), .val (.int p2), .val (.int p3), .val (.int p4), .val (.int p5), .val (.int p6), .val (.ref b7), .unset, .unset, .unset, .unset] [(.int (p1.toInt8.toInt32)), (.int (0 : Int32)), (.ref b7)])) rfl rfl (hb hby at_10)
  have N12 := Fr.snoc X12 N0 g_b7
  have c13 : n0 ≤ h12.size := Nat.le_trans c8 (Keep.of_wr W12).1
  have c14 : Sta Z h12 "com/example/hoardr/hoardr/http/Framing" "TOKEN_CHARACTERS" "[Z" (.ref w_TOK) := c9.wr W12
  have c15 : IAr Z h12 w_TOK .boolean z_w_TOK c_w_TOK := c10.other W12 ne_w_TOK_b7
  have c16 : IAr Z h12 b7 .byte (4 : Int32) (f0_v10 p1) := V12
  obtain ⟨T17, h17, X17, e17, W17, V17, st17⟩ := sB X12 hx hZ e12 c16 (j := (1 : Int32)) ⟨by decide, by first | decide | assumption⟩ (g := (mkF m 16 #[.val (.int p1), .val (.int p2), .val (.int p3), .val (.int p4), .val (.int p5), .val (.int p6), .val (.ref b7), .unset, .unset, .unset, .unset] [(.int (p2.toInt8.toInt32)), (.int (1 : Int32)), (.ref b7)])) rfl rfl (hb hby at_16)
  have N17 := Fr.snoc X17 N12 g_b7
  have c18 : n0 ≤ h17.size := Nat.le_trans c13 (Keep.of_wr W17).1
  have c19 : Sta Z h17 "com/example/hoardr/hoardr/http/Framing" "TOKEN_CHARACTERS" "[Z" (.ref w_TOK) := c14.wr W17
  have c20 : IAr Z h17 w_TOK .boolean z_w_TOK c_w_TOK := c15.other W17 ne_w_TOK_b7
  have c21 : IAr Z h17 b7 .byte (4 : Int32) (f0_v16 p1 p2) := V17
  obtain ⟨T22, h22, X22, e22, W22, V22, st22⟩ := sB X17 hx hZ e17 c21 (j := (2 : Int32)) ⟨by decide, by first | decide | assumption⟩ (g := (mkF m 22 #[.val (.int p1), .val (.int p2), .val (.int p3), .val (.int p4), .val (.int p5), .val (.int p6), .val (.ref b7), .unset, .unset, .unset, .unset] [(.int (p3.toInt8.toInt32)), (.int (2 : Int32)), (.ref b7)])) rfl rfl (hb hby at_22)
  have N22 := Fr.snoc X22 N17 g_b7
  have c23 : n0 ≤ h22.size := Nat.le_trans c18 (Keep.of_wr W22).1
  have c24 : Sta Z h22 "com/example/hoardr/hoardr/http/Framing" "TOKEN_CHARACTERS" "[Z" (.ref w_TOK) := c19.wr W22
  have c25 : IAr Z h22 w_TOK .boolean z_w_TOK c_w_TOK := c20.other W22 ne_w_TOK_b7
  have c26 : IAr Z h22 b7 .byte (4 : Int32) (f0_v22 p1 p2 p3) := V22
  obtain ⟨T27, h27, X27, e27, W27, V27, st27⟩ := sB X22 hx hZ e22 c26 (j := (3 : Int32)) ⟨by decide, by first | decide | assumption⟩ (g := (mkF m 28 #[.val (.int p1), .val (.int p2), .val (.int p3), .val (.int p4), .val (.int p5), .val (.int p6), .val (.ref b7), .unset, .unset, .unset, .unset] [(.int (p4.toInt8.toInt32)), (.int (3 : Int32)), (.ref b7)])) rfl rfl (hb hby at_28)
  have N27 := Fr.snoc X27 N22 g_b7
  have c28 : n0 ≤ h27.size := Nat.le_trans c23 (Keep.of_wr W27).1
  have c29 : Sta Z h27 "com/example/hoardr/hoardr/http/Framing" "TOKEN_CHARACTERS" "[Z" (.ref w_TOK) := c24.wr W27
  have c30 : IAr Z h27 w_TOK .boolean z_w_TOK c_w_TOK := c25.other W27 ne_w_TOK_b7
  have c31 : IAr Z h27 b7 .byte (4 : Int32) (f0_v28 p1 p2 p3 p4) := V27
  have pre1 : ∀ t, Steps p.tables e below (T27.setTop (mkF m 51 #[.val (.int p1), .val (.int p2), .val (.int p3), .val (.int p4), .val (.int p5), .val (.int p6), .val (.ref b7), .val (.int (f0_v35 p5)), .val (.int (f0_v44 p6)), .unset, .unset] [(.int (f0_v44 p6)), (.int (f0_v35 p5))])) t → Steps p.tables e below (s₁.setTop (entryFrame m #[(.int p1), (.int p2), (.int p3), (.int p4), (.int p5), (.int p6)] maxLocals)) t := by
    intro t k
    refine pre0 t ?_
    show Steps p.tables e below (s₁.setTop (mkF m 0 #[.val (.int p1), .val (.int p2), .val (.int p3), .val (.int p4), .val (.int p5), .val (.int p6), .unset, .unset, .unset, .unset, .unset] [])) _
    refine XS.iconst X0.here hx rfl (hb hby at_0) ?_
    show Steps p.tables e below (s₁.setTop (mkF m 1 #[.val (.int p1), .val (.int p2), .val (.int p3), .val (.int p4), .val (.int p5), .val (.int p6), .unset, .unset, .unset, .unset, .unset] [(.int (4 : Int32))])) _
    refine st7 _ ?_
    show Steps p.tables e below (T7.setTop (mkF m 3 #[.val (.int p1), .val (.int p2), .val (.int p3), .val (.int p4), .val (.int p5), .val (.int p6), .unset, .unset, .unset, .unset, .unset] [(.ref b7)])) _
    refine XS.astore X7.here hx rfl (hb hby at_3) rfl rfl (l' := #[.val (.int p1), .val (.int p2), .val (.int p3), .val (.int p4), .val (.int p5), .val (.int p6), .val (.ref b7), .unset, .unset, .unset, .unset]) rfl ?_
    show Steps p.tables e below (T7.setTop (mkF m 5 #[.val (.int p1), .val (.int p2), .val (.int p3), .val (.int p4), .val (.int p5), .val (.int p6), .val (.ref b7), .unset, .unset, .unset, .unset] [])) _
    refine XS.aload X7.here hx rfl (hb hby at_5) rfl rfl ?_
    show Steps p.tables e below (T7.setTop (mkF m 7 #[.val (.int p1), .val (.int p2), .val (.int p3), .val (.int p4), .val (.int p5), .val (.int p6), .val (.ref b7), .unset, .unset, .unset, .unset] [(.ref b7)])) _
    refine XS.iconst X7.here hx rfl (hb hby at_7) ?_
    show Steps p.tables e below (T7.setTop (mkF m 8 #[.val (.int p1), .val (.int p2), .val (.int p3), .val (.int p4), .val (.int p5), .val (.int p6), .val (.ref b7), .unset, .unset, .unset, .unset] [(.int (0 : Int32)), (.ref b7)])) _
    refine XS.iloadN X7.here hx rfl (hb hby at_8) rfl ?_
    show Steps p.tables e below (T7.setTop (mkF m 9 #[.val (.int p1), .val (.int p2), .val (.int p3), .val (.int p4), .val (.int p5), .val (.int p6), .val (.ref b7), .unset, .unset, .unset, .unset] [(.int p1), (.int (0 : Int32)), (.ref b7)])) _
    refine XS.i2b X7.here hx rfl (hb hby at_9) rfl ?_
    show Steps p.tables e below (T7.setTop (mkF m 10 #[.val (.int p1), .val (.int p2), .val (.int p3), .val (.int p4), .val (.int p5), .val (.int p6), .val (.ref b7), .unset, .unset, .unset, .unset] [(.int (p1.toInt8.toInt32)), (.int (0 : Int32)), (.ref b7)])) _
    refine st12 _ ?_
    show Steps p.tables e below (T12.setTop (mkF m 11 #[.val (.int p1), .val (.int p2), .val (.int p3), .val (.int p4), .val (.int p5), .val (.int p6), .val (.ref b7), .unset, .unset, .unset, .unset] [])) _
    refine XS.aload X12.here hx rfl (hb hby at_11) rfl rfl ?_
    show Steps p.tables e below (T12.setTop (mkF m 13 #[.val (.int p1), .val (.int p2), .val (.int p3), .val (.int p4), .val (.int p5), .val (.int p6), .val (.ref b7), .unset, .unset, .unset, .unset] [(.ref b7)])) _
    refine XS.iconst X12.here hx rfl (hb hby at_13) ?_
    show Steps p.tables e below (T12.setTop (mkF m 14 #[.val (.int p1), .val (.int p2), .val (.int p3), .val (.int p4), .val (.int p5), .val (.int p6), .val (.ref b7), .unset, .unset, .unset, .unset] [(.int (1 : Int32)), (.ref b7)])) _
    refine XS.iloadN X12.here hx rfl (hb hby at_14) rfl ?_
    show Steps p.tables e below (T12.setTop (mkF m 15 #[.val (.int p1), .val (.int p2), .val (.int p3), .val (.int p4), .val (.int p5), .val (.int p6), .val (.ref b7), .unset, .unset, .unset, .unset] [(.int p2), (.int (1 : Int32)), (.ref b7)])) _
    refine XS.i2b X12.here hx rfl (hb hby at_15) rfl ?_
    show Steps p.tables e below (T12.setTop (mkF m 16 #[.val (.int p1), .val (.int p2), .val (.int p3), .val (.int p4), .val (.int p5), .val (.int p6), .val (.ref b7), .unset, .unset, .unset, .unset] [(.int (p2.toInt8.toInt32)), (.int (1 : Int32)), (.ref b7)])) _
    refine st17 _ ?_
    show Steps p.tables e below (T17.setTop (mkF m 17 #[.val (.int p1), .val (.int p2), .val (.int p3), .val (.int p4), .val (.int p5), .val (.int p6), .val (.ref b7), .unset, .unset, .unset, .unset] [])) _
    refine XS.aload X17.here hx rfl (hb hby at_17) rfl rfl ?_
    show Steps p.tables e below (T17.setTop (mkF m 19 #[.val (.int p1), .val (.int p2), .val (.int p3), .val (.int p4), .val (.int p5), .val (.int p6), .val (.ref b7), .unset, .unset, .unset, .unset] [(.ref b7)])) _
    refine XS.iconst X17.here hx rfl (hb hby at_19) ?_
    show Steps p.tables e below (T17.setTop (mkF m 20 #[.val (.int p1), .val (.int p2), .val (.int p3), .val (.int p4), .val (.int p5), .val (.int p6), .val (.ref b7), .unset, .unset, .unset, .unset] [(.int (2 : Int32)), (.ref b7)])) _
    refine XS.iloadN X17.here hx rfl (hb hby at_20) rfl ?_
    show Steps p.tables e below (T17.setTop (mkF m 21 #[.val (.int p1), .val (.int p2), .val (.int p3), .val (.int p4), .val (.int p5), .val (.int p6), .val (.ref b7), .unset, .unset, .unset, .unset] [(.int p3), (.int (2 : Int32)), (.ref b7)])) _
    refine XS.i2b X17.here hx rfl (hb hby at_21) rfl ?_
    show Steps p.tables e below (T17.setTop (mkF m 22 #[.val (.int p1), .val (.int p2), .val (.int p3), .val (.int p4), .val (.int p5), .val (.int p6), .val (.ref b7), .unset, .unset, .unset, .unset] [(.int (p3.toInt8.toInt32)), (.int (2 : Int32)), (.ref b7)])) _
    refine st22 _ ?_
    show Steps p.tables e below (T22.setTop (mkF m 23 #[.val (.int p1), .val (.int p2), .val (.int p3), .val (.int p4), .val (.int p5), .val (.int p6), .val (.ref b7), .unset, .unset, .unset, .unset] [])) _
    refine XS.aload X22.here hx rfl (hb hby at_23) rfl rfl ?_
    show Steps p.tables e below (T22.setTop (mkF m 25 #[.val (.int p1), .val (.int p2), .val (.int p3), .val (.int p4), .val (.int p5), .val (.int p6), .val (.ref b7), .unset, .unset, .unset, .unset] [(.ref b7)])) _
    refine XS.iconst X22.here hx rfl (hb hby at_25) ?_
    show Steps p.tables e below (T22.setTop (mkF m 26 #[.val (.int p1), .val (.int p2), .val (.int p3), .val (.int p4), .val (.int p5), .val (.int p6), .val (.ref b7), .unset, .unset, .unset, .unset] [(.int (3 : Int32)), (.ref b7)])) _
    refine XS.iloadN X22.here hx rfl (hb hby at_26) rfl ?_
    show Steps p.tables e below (T22.setTop (mkF m 27 #[.val (.int p1), .val (.int p2), .val (.int p3), .val (.int p4), .val (.int p5), .val (.int p6), .val (.ref b7), .unset, .unset, .unset, .unset] [(.int p4), (.int (3 : Int32)), (.ref b7)])) _
    refine XS.i2b X22.here hx rfl (hb hby at_27) rfl ?_
    show Steps p.tables e below (T22.setTop (mkF m 28 #[.val (.int p1), .val (.int p2), .val (.int p3), .val (.int p4), .val (.int p5), .val (.int p6), .val (.ref b7), .unset, .unset, .unset, .unset] [(.int (p4.toInt8.toInt32)), (.int (3 : Int32)), (.ref b7)])) _
    refine st27 _ ?_
    show Steps p.tables e below (T27.setTop (mkF m 29 #[.val (.int p1), .val (.int p2), .val (.int p3), .val (.int p4), .val (.int p5), .val (.int p6), .val (.ref b7), .unset, .unset, .unset, .unset] [])) _
    refine XS.iload X27.here hx rfl (hb hby at_29) rfl ?_
    show Steps p.tables e below (T27.setTop (mkF m 31 #[.val (.int p1), .val (.int p2), .val (.int p3), .val (.int p4), .val (.int p5), .val (.int p6), .val (.ref b7), .unset, .unset, .unset, .unset] [(.int p5)])) _
    refine X27.ldcInt hx hown (mvT hZ (hw _ (List.mem_of_getElem? (i := 1) rfl))) (g := (mkF m 31 #[.val (.int p1), .val (.int p2), .val (.int p3), .val (.int p4), .val (.int p5), .val (.int p6), .val (.ref b7), .unset, .unset, .unset, .unset] [(.int p5)])) rfl (hb hby at_31) _ ?_
    show Steps p.tables e below (T27.setTop (mkF m 33 #[.val (.int p1), .val (.int p2), .val (.int p3), .val (.int p4), .val (.int p5), .val (.int p6), .val (.ref b7), .unset, .unset, .unset, .unset] [(.int (2147483647 : Int32)), (.int p5)])) _
    refine XS.iand X27.here hx rfl (hb hby at_33) rfl ?_
    show Steps p.tables e below (T27.setTop (mkF m 34 #[.val (.int p1), .val (.int p2), .val (.int p3), .val (.int p4), .val (.int p5), .val (.int p6), .val (.ref b7), .unset, .unset, .unset, .unset] [(.int (p5 &&& (2147483647 : Int32)))])) _
    refine XS.iconst X27.here hx rfl (hb hby at_34) ?_
    show Steps p.tables e below (T27.setTop (mkF m 35 #[.val (.int p1), .val (.int p2), .val (.int p3), .val (.int p4), .val (.int p5), .val (.int p6), .val (.ref b7), .unset, .unset, .unset, .unset] [(.int (5 : Int32)), (.int (p5 &&& (2147483647 : Int32)))])) _
    refine XS.irem X27.here hx rfl (hb hby at_35) rfl (by decide) ?_
    show Steps p.tables e below (T27.setTop (mkF m 36 #[.val (.int p1), .val (.int p2), .val (.int p3), .val (.int p4), .val (.int p5), .val (.int p6), .val (.ref b7), .unset, .unset, .unset, .unset] [(.int (f0_v35 p5))])) _
    refine XS.istore X27.here hx rfl (hb hby at_36) rfl (l' := #[.val (.int p1), .val (.int p2), .val (.int p3), .val (.int p4), .val (.int p5), .val (.int p6), .val (.ref b7), .val (.int (f0_v35 p5)), .unset, .unset, .unset]) rfl ?_
    show Steps p.tables e below (T27.setTop (mkF m 38 #[.val (.int p1), .val (.int p2), .val (.int p3), .val (.int p4), .val (.int p5), .val (.int p6), .val (.ref b7), .val (.int (f0_v35 p5)), .unset, .unset, .unset] [])) _
    refine XS.iload X27.here hx rfl (hb hby at_38) rfl ?_
    show Steps p.tables e below (T27.setTop (mkF m 40 #[.val (.int p1), .val (.int p2), .val (.int p3), .val (.int p4), .val (.int p5), .val (.int p6), .val (.ref b7), .val (.int (f0_v35 p5)), .unset, .unset, .unset] [(.int p6)])) _
    refine X27.ldcInt hx hown (mvT hZ (hw _ (List.mem_of_getElem? (i := 1) rfl))) (g := (mkF m 40 #[.val (.int p1), .val (.int p2), .val (.int p3), .val (.int p4), .val (.int p5), .val (.int p6), .val (.ref b7), .val (.int (f0_v35 p5)), .unset, .unset, .unset] [(.int p6)])) rfl (hb hby at_40) _ ?_
    show Steps p.tables e below (T27.setTop (mkF m 42 #[.val (.int p1), .val (.int p2), .val (.int p3), .val (.int p4), .val (.int p5), .val (.int p6), .val (.ref b7), .val (.int (f0_v35 p5)), .unset, .unset, .unset] [(.int (2147483647 : Int32)), (.int p6)])) _
    refine XS.iand X27.here hx rfl (hb hby at_42) rfl ?_
    show Steps p.tables e below (T27.setTop (mkF m 43 #[.val (.int p1), .val (.int p2), .val (.int p3), .val (.int p4), .val (.int p5), .val (.int p6), .val (.ref b7), .val (.int (f0_v35 p5)), .unset, .unset, .unset] [(.int (p6 &&& (2147483647 : Int32)))])) _
    refine XS.iconst X27.here hx rfl (hb hby at_43) ?_
    show Steps p.tables e below (T27.setTop (mkF m 44 #[.val (.int p1), .val (.int p2), .val (.int p3), .val (.int p4), .val (.int p5), .val (.int p6), .val (.ref b7), .val (.int (f0_v35 p5)), .unset, .unset, .unset] [(.int (5 : Int32)), (.int (p6 &&& (2147483647 : Int32)))])) _
    refine XS.irem X27.here hx rfl (hb hby at_44) rfl (by decide) ?_
    show Steps p.tables e below (T27.setTop (mkF m 45 #[.val (.int p1), .val (.int p2), .val (.int p3), .val (.int p4), .val (.int p5), .val (.int p6), .val (.ref b7), .val (.int (f0_v35 p5)), .unset, .unset, .unset] [(.int (f0_v44 p6))])) _
    refine XS.istore X27.here hx rfl (hb hby at_45) rfl (l' := #[.val (.int p1), .val (.int p2), .val (.int p3), .val (.int p4), .val (.int p5), .val (.int p6), .val (.ref b7), .val (.int (f0_v35 p5)), .val (.int (f0_v44 p6)), .unset, .unset]) rfl ?_
    show Steps p.tables e below (T27.setTop (mkF m 47 #[.val (.int p1), .val (.int p2), .val (.int p3), .val (.int p4), .val (.int p5), .val (.int p6), .val (.ref b7), .val (.int (f0_v35 p5)), .val (.int (f0_v44 p6)), .unset, .unset] [])) _
    refine XS.iload X27.here hx rfl (hb hby at_47) rfl ?_
    show Steps p.tables e below (T27.setTop (mkF m 49 #[.val (.int p1), .val (.int p2), .val (.int p3), .val (.int p4), .val (.int p5), .val (.int p6), .val (.ref b7), .val (.int (f0_v35 p5)), .val (.int (f0_v44 p6)), .unset, .unset] [(.int (f0_v35 p5))])) _
    refine XS.iload X27.here hx rfl (hb hby at_49) rfl ?_
    exact k
  obtain ⟨T36, Lmpre2, X36, e36, N36, pre2⟩ : ∃ (T' : State) (L' : List Loc), Stand p l e room_1 s m #[(.int p1), (.int p2), (.int p3), (.int p4), (.int p5), (.int p6)] below meth c T' L' 1 4 ∧ T'.heap = h27 ∧ Fr n0 L' ∧ ∀ t, Steps p.tables e below (T'.setTop (mkF m 119 #[.val (.int p1), .val (.int p2), .val (.int p3), .val (.int p4), .val (.int p5), .val (.int p6), .val (.ref b7), .val (.int (f0_v35 p5)), .val (.int (f0_v44 p6)), .unset, .unset] [(.int (f0_s0_119 p1 p2 p3 p4 p5 p6))])) t → Steps p.tables e below (s₁.setTop (entryFrame m #[(.int p1), (.int p2), (.int p3), (.int p4), (.int p5), (.int p6)] maxLocals)) t := by
    by_cases hc51 : (f0_v35 p5) < (f0_v44 p6)
    · obtain ⟨_, _, ⟨T32, L32, k32, n32⟩, -, X32, ⟨Lc32, hQ32, l32, y32, z32⟩, st32⟩ := Jvm.LawKit.callS X27 hx (y := (⟨"com/example/hoardr/hoardr/http/FramingIsTokenPinLaw", "okAt", "(IIIB)Z"⟩ : MethodName)) hown (mvT hZ (hw _ (List.mem_of_getElem? (i := 2) rfl))) (mvT hZ (hw _ (List.mem_of_getElem? (i := 3) rfl))) (mvT hZ (hw _ (List.mem_of_getElem? (i := 4) rfl))) (mvT hZ (hw _ (List.mem_of_getElem? (i := 5) rfl))) (by decide) (backOf (W := 0) (rm1 l Z a0 hw [] (0 : Int32) (f0_v35 p5) (f0_v44 p6) ((f0_v28 p1 p2 p3 p4) ((0 : Int32)).toNatClampNeg) h27 n0 c28 ) hZ (hw _ (List.mem_of_getElem? (i := 5) rfl)) (hw _ (List.mem_of_getElem? (i := 4) rfl)) (by decide) (by decide)) (g := (mkF m 63 #[.val (.int p1), .val (.int p2), .val (.int p3), .val (.int p4), .val (.int p5), .val (.int p6), .val (.ref b7), .val (.int (f0_v35 p5)), .val (.int (f0_v44 p6)), .unset, .unset] [(.int ((f0_v28 p1 p2 p3 p4) ((0 : Int32)).toNatClampNeg)), (.int (f0_v44 p6)), (.int (f0_v35 p5)), (.int (0 : Int32))])) rfl (by rw [hml]; rfl) (argsL := [(.int (0 : Int32)), (.int (f0_v35 p5)), (.int (f0_v44 p6)), (.int ((f0_v28 p1 p2 p3 p4) ((0 : Int32)).toNatClampNeg))]) (rest := []) (lenOf pd_1 rfl) rfl (by show 2 * 0 + _ ≤ _; exact Nat.le_of_eq rfl) (hb hby at_63) (fun _ _ => ⟨rfl, e27, (by decide : 1 + 0 ≤ _), (by decide : 4 + 0 ≤ _)⟩)
      dsimp only [Pt.U, Pt.locs, Pt.cells, Pt.slots] at X32 l32 y32 z32 st32 hQ32
      subst l32 y32 z32
      obtain ⟨rfl, N32q, e32⟩ := hQ32
      have N32 := Fr.app N27 N32q
      have pre3 : ∀ t, Steps p.tables e below (T32.setTop (mkF m 66 #[.val (.int p1), .val (.int p2), .val (.int p3), .val (.int p4), .val (.int p5), .val (.int p6), .val (.ref b7), .val (.int (f0_v35 p5)), .val (.int (f0_v44 p6)), .unset, .unset] [(.int (f1 (0 : Int32) (f0_v35 p5) (f0_v44 p6) ((f0_v28 p1 p2 p3 p4) ((0 : Int32)).toNatClampNeg)))])) t → Steps p.tables e below (s₁.setTop (entryFrame m #[(.int p1), (.int p2), (.int p3), (.int p4), (.int p5), (.int p6)] maxLocals)) t := by
        intro t k
        refine pre1 t ?_
        show Steps p.tables e below (T27.setTop (mkF m 51 #[.val (.int p1), .val (.int p2), .val (.int p3), .val (.int p4), .val (.int p5), .val (.int p6), .val (.ref b7), .val (.int (f0_v35 p5)), .val (.int (f0_v44 p6)), .unset, .unset] [(.int (f0_v44 p6)), (.int (f0_v35 p5))])) _
        refine XS.icmpNo X27.here hx rfl (hb hby at_51) rfl (tlt hc51).2.1 ?_
        show Steps p.tables e below (T27.setTop (mkF m 54 #[.val (.int p1), .val (.int p2), .val (.int p3), .val (.int p4), .val (.int p5), .val (.int p6), .val (.ref b7), .val (.int (f0_v35 p5)), .val (.int (f0_v44 p6)), .unset, .unset] [])) _
        refine XS.iconst X27.here hx rfl (hb hby at_54) ?_
        show Steps p.tables e below (T27.setTop (mkF m 55 #[.val (.int p1), .val (.int p2), .val (.int p3), .val (.int p4), .val (.int p5), .val (.int p6), .val (.ref b7), .val (.int (f0_v35 p5)), .val (.int (f0_v44 p6)), .unset, .unset] [(.int (0 : Int32))])) _
        refine XS.iload X27.here hx rfl (hb hby at_55) rfl ?_
        show Steps p.tables e below (T27.setTop (mkF m 57 #[.val (.int p1), .val (.int p2), .val (.int p3), .val (.int p4), .val (.int p5), .val (.int p6), .val (.ref b7), .val (.int (f0_v35 p5)), .val (.int (f0_v44 p6)), .unset, .unset] [(.int (f0_v35 p5)), (.int (0 : Int32))])) _
        refine XS.iload X27.here hx rfl (hb hby at_57) rfl ?_
        show Steps p.tables e below (T27.setTop (mkF m 59 #[.val (.int p1), .val (.int p2), .val (.int p3), .val (.int p4), .val (.int p5), .val (.int p6), .val (.ref b7), .val (.int (f0_v35 p5)), .val (.int (f0_v44 p6)), .unset, .unset] [(.int (f0_v44 p6)), (.int (f0_v35 p5)), (.int (0 : Int32))])) _
        refine XS.aload X27.here hx rfl (hb hby at_59) rfl rfl ?_
        show Steps p.tables e below (T27.setTop (mkF m 61 #[.val (.int p1), .val (.int p2), .val (.int p3), .val (.int p4), .val (.int p5), .val (.int p6), .val (.ref b7), .val (.int (f0_v35 p5)), .val (.int (f0_v44 p6)), .unset, .unset] [(.ref b7), (.int (f0_v44 p6)), (.int (f0_v35 p5)), (.int (0 : Int32))])) _
        refine XS.iconst X27.here hx rfl (hb hby at_61) ?_
        show Steps p.tables e below (T27.setTop (mkF m 62 #[.val (.int p1), .val (.int p2), .val (.int p3), .val (.int p4), .val (.int p5), .val (.int p6), .val (.ref b7), .val (.int (f0_v35 p5)), .val (.int (f0_v44 p6)), .unset, .unset] [(.int (0 : Int32)), (.ref b7), (.int (f0_v44 p6)), (.int (f0_v35 p5)), (.int (0 : Int32))])) _
        refine ldB X27 hx hZ e27 c31 (j := (0 : Int32)) ⟨by decide, by first | decide | assumption⟩ (g := (mkF m 62 #[.val (.int p1), .val (.int p2), .val (.int p3), .val (.int p4), .val (.int p5), .val (.int p6), .val (.ref b7), .val (.int (f0_v35 p5)), .val (.int (f0_v44 p6)), .unset, .unset] [(.int (0 : Int32)), (.ref b7), (.int (f0_v44 p6)), (.int (f0_v35 p5)), (.int (0 : Int32))])) rfl rfl (hb hby at_62) ?_
        show Steps p.tables e below (T27.setTop (mkF m 63 #[.val (.int p1), .val (.int p2), .val (.int p3), .val (.int p4), .val (.int p5), .val (.int p6), .val (.ref b7), .val (.int (f0_v35 p5)), .val (.int (f0_v44 p6)), .unset, .unset] [(.int ((f0_v28 p1 p2 p3 p4) ((0 : Int32)).toNatClampNeg)), (.int (f0_v44 p6)), (.int (f0_v35 p5)), (.int (0 : Int32))])) _
        refine st32 _ ?_
        exact k
      by_cases hc66 : (f1 (0 : Int32) (f0_v35 p5) (f0_v44 p6) ((f0_v28 p1 p2 p3 p4) ((0 : Int32)).toNatClampNeg)) = (0 : Int32)
      · have eq4 := (show (f0_s0_119 p1 p2 p3 p4 p5 p6) = (0 : Int32) from by unfold f0_s0_119; simp only [if_pos hc51, if_pos hc66])
        refine ⟨T32, _, X32, e32, N32, fun t k => ?_⟩
        try rw [eq4] at k
        refine pre3 t ?_
        show Steps p.tables e below (T32.setTop (mkF m 66 #[.val (.int p1), .val (.int p2), .val (.int p3), .val (.int p4), .val (.int p5), .val (.int p6), .val (.ref b7), .val (.int (f0_v35 p5)), .val (.int (f0_v44 p6)), .unset, .unset] [(.int (f1 (0 : Int32) (f0_v35 p5) (f0_v44 p6) ((f0_v28 p1 p2 p3 p4) ((0 : Int32)).toNatClampNeg)))])) _
        refine XS.ifYes X32.here hx rfl (pc0 := 66) (pc' := 118) rfl (hb hby at_66) rfl ((if0 _ _).trans (teq hc66).1) (by decide) (by decide) ?_
        show Steps p.tables e below (T32.setTop (mkF m 118 #[.val (.int p1), .val (.int p2), .val (.int p3), .val (.int p4), .val (.int p5), .val (.int p6), .val (.ref b7), .val (.int (f0_v35 p5)), .val (.int (f0_v44 p6)), .unset, .unset] [])) _
        refine XS.iconst X32.here hx rfl (hb hby at_118) ?_
        exact k
      · obtain ⟨_, _, ⟨T33, L33, k33, n33⟩, -, X33, ⟨Lc33, hQ33, l33, y33, z33⟩, st33⟩ := Jvm.LawKit.callS X32 hx (y := (⟨"com/example/hoardr/hoardr/http/FramingIsTokenPinLaw", "okAt", "(IIIB)Z"⟩ : MethodName)) hown (mvT hZ (hw _ (List.mem_of_getElem? (i := 2) rfl))) (mvT hZ (hw _ (List.mem_of_getElem? (i := 3) rfl))) (mvT hZ (hw _ (List.mem_of_getElem? (i := 4) rfl))) (mvT hZ (hw _ (List.mem_of_getElem? (i := 5) rfl))) (by decide) (backOf (W := 0) (rm1 l Z a0 hw [] (1 : Int32) (f0_v35 p5) (f0_v44 p6) ((f0_v28 p1 p2 p3 p4) ((1 : Int32)).toNatClampNeg) h27 n0 c28 ) hZ (hw _ (List.mem_of_getElem? (i := 5) rfl)) (hw _ (List.mem_of_getElem? (i := 4) rfl)) (by decide) (by decide)) (g := (mkF m 78 #[.val (.int p1), .val (.int p2), .val (.int p3), .val (.int p4), .val (.int p5), .val (.int p6), .val (.ref b7), .val (.int (f0_v35 p5)), .val (.int (f0_v44 p6)), .unset, .unset] [(.int ((f0_v28 p1 p2 p3 p4) ((1 : Int32)).toNatClampNeg)), (.int (f0_v44 p6)), (.int (f0_v35 p5)), (.int (1 : Int32))])) rfl (by rw [hml]; rfl) (argsL := [(.int (1 : Int32)), (.int (f0_v35 p5)), (.int (f0_v44 p6)), (.int ((f0_v28 p1 p2 p3 p4) ((1 : Int32)).toNatClampNeg))]) (rest := []) (lenOf pd_1 rfl) rfl (by show 2 * 0 + _ ≤ _; exact Nat.le_of_eq rfl) (hb hby at_78) (fun _ _ => ⟨rfl, e32, (by decide : 1 + 0 ≤ _), (by decide : 4 + 0 ≤ _)⟩)
        dsimp only [Pt.U, Pt.locs, Pt.cells, Pt.slots] at X33 l33 y33 z33 st33 hQ33
        subst l33 y33 z33
        obtain ⟨rfl, N33q, e33⟩ := hQ33
        have N33 := Fr.app N32 N33q
        have pre5 : ∀ t, Steps p.tables e below (T33.setTop (mkF m 81 #[.val (.int p1), .val (.int p2), .val (.int p3), .val (.int p4), .val (.int p5), .val (.int p6), .val (.ref b7), .val (.int (f0_v35 p5)), .val (.int (f0_v44 p6)), .unset, .unset] [(.int (f1 (1 : Int32) (f0_v35 p5) (f0_v44 p6) ((f0_v28 p1 p2 p3 p4) ((1 : Int32)).toNatClampNeg)))])) t → Steps p.tables e below (s₁.setTop (entryFrame m #[(.int p1), (.int p2), (.int p3), (.int p4), (.int p5), (.int p6)] maxLocals)) t := by
          intro t k
          refine pre3 t ?_
          show Steps p.tables e below (T32.setTop (mkF m 66 #[.val (.int p1), .val (.int p2), .val (.int p3), .val (.int p4), .val (.int p5), .val (.int p6), .val (.ref b7), .val (.int (f0_v35 p5)), .val (.int (f0_v44 p6)), .unset, .unset] [(.int (f1 (0 : Int32) (f0_v35 p5) (f0_v44 p6) ((f0_v28 p1 p2 p3 p4) ((0 : Int32)).toNatClampNeg)))])) _
          refine XS.ifNo X32.here hx rfl (hb hby at_66) rfl ((if0 _ _).trans (feq hc66).1) ?_
          show Steps p.tables e below (T32.setTop (mkF m 69 #[.val (.int p1), .val (.int p2), .val (.int p3), .val (.int p4), .val (.int p5), .val (.int p6), .val (.ref b7), .val (.int (f0_v35 p5)), .val (.int (f0_v44 p6)), .unset, .unset] [])) _
          refine XS.iconst X32.here hx rfl (hb hby at_69) ?_
          show Steps p.tables e below (T32.setTop (mkF m 70 #[.val (.int p1), .val (.int p2), .val (.int p3), .val (.int p4), .val (.int p5), .val (.int p6), .val (.ref b7), .val (.int (f0_v35 p5)), .val (.int (f0_v44 p6)), .unset, .unset] [(.int (1 : Int32))])) _
          refine XS.iload X32.here hx rfl (hb hby at_70) rfl ?_
          show Steps p.tables e below (T32.setTop (mkF m 72 #[.val (.int p1), .val (.int p2), .val (.int p3), .val (.int p4), .val (.int p5), .val (.int p6), .val (.ref b7), .val (.int (f0_v35 p5)), .val (.int (f0_v44 p6)), .unset, .unset] [(.int (f0_v35 p5)), (.int (1 : Int32))])) _
          refine XS.iload X32.here hx rfl (hb hby at_72) rfl ?_
          show Steps p.tables e below (T32.setTop (mkF m 74 #[.val (.int p1), .val (.int p2), .val (.int p3), .val (.int p4), .val (.int p5), .val (.int p6), .val (.ref b7), .val (.int (f0_v35 p5)), .val (.int (f0_v44 p6)), .unset, .unset] [(.int (f0_v44 p6)), (.int (f0_v35 p5)), (.int (1 : Int32))])) _
          refine XS.aload X32.here hx rfl (hb hby at_74) rfl rfl ?_
          show Steps p.tables e below (T32.setTop (mkF m 76 #[.val (.int p1), .val (.int p2), .val (.int p3), .val (.int p4), .val (.int p5), .val (.int p6), .val (.ref b7), .val (.int (f0_v35 p5)), .val (.int (f0_v44 p6)), .unset, .unset] [(.ref b7), (.int (f0_v44 p6)), (.int (f0_v35 p5)), (.int (1 : Int32))])) _
          refine XS.iconst X32.here hx rfl (hb hby at_76) ?_
          show Steps p.tables e below (T32.setTop (mkF m 77 #[.val (.int p1), .val (.int p2), .val (.int p3), .val (.int p4), .val (.int p5), .val (.int p6), .val (.ref b7), .val (.int (f0_v35 p5)), .val (.int (f0_v44 p6)), .unset, .unset] [(.int (1 : Int32)), (.ref b7), (.int (f0_v44 p6)), (.int (f0_v35 p5)), (.int (1 : Int32))])) _
          refine ldB X32 hx hZ e32 c31 (j := (1 : Int32)) ⟨by decide, by first | decide | assumption⟩ (g := (mkF m 77 #[.val (.int p1), .val (.int p2), .val (.int p3), .val (.int p4), .val (.int p5), .val (.int p6), .val (.ref b7), .val (.int (f0_v35 p5)), .val (.int (f0_v44 p6)), .unset, .unset] [(.int (1 : Int32)), (.ref b7), (.int (f0_v44 p6)), (.int (f0_v35 p5)), (.int (1 : Int32))])) rfl rfl (hb hby at_77) ?_
          show Steps p.tables e below (T32.setTop (mkF m 78 #[.val (.int p1), .val (.int p2), .val (.int p3), .val (.int p4), .val (.int p5), .val (.int p6), .val (.ref b7), .val (.int (f0_v35 p5)), .val (.int (f0_v44 p6)), .unset, .unset] [(.int ((f0_v28 p1 p2 p3 p4) ((1 : Int32)).toNatClampNeg)), (.int (f0_v44 p6)), (.int (f0_v35 p5)), (.int (1 : Int32))])) _
          refine st33 _ ?_
          exact k
        by_cases hc81 : (f1 (1 : Int32) (f0_v35 p5) (f0_v44 p6) ((f0_v28 p1 p2 p3 p4) ((1 : Int32)).toNatClampNeg)) = (0 : Int32)
        · have eq6 := (show (f0_s0_119 p1 p2 p3 p4 p5 p6) = (0 : Int32) from by unfold f0_s0_119; simp only [if_pos hc51, if_neg hc66, if_pos hc81])
          refine ⟨T33, _, X33, e33, N33, fun t k => ?_⟩
          try rw [eq6] at k
          refine pre5 t ?_
          show Steps p.tables e below (T33.setTop (mkF m 81 #[.val (.int p1), .val (.int p2), .val (.int p3), .val (.int p4), .val (.int p5), .val (.int p6), .val (.ref b7), .val (.int (f0_v35 p5)), .val (.int (f0_v44 p6)), .unset, .unset] [(.int (f1 (1 : Int32) (f0_v35 p5) (f0_v44 p6) ((f0_v28 p1 p2 p3 p4) ((1 : Int32)).toNatClampNeg)))])) _
          refine XS.ifYes X33.here hx rfl (pc0 := 81) (pc' := 118) rfl (hb hby at_81) rfl ((if0 _ _).trans (teq hc81).1) (by decide) (by decide) ?_
          show Steps p.tables e below (T33.setTop (mkF m 118 #[.val (.int p1), .val (.int p2), .val (.int p3), .val (.int p4), .val (.int p5), .val (.int p6), .val (.ref b7), .val (.int (f0_v35 p5)), .val (.int (f0_v44 p6)), .unset, .unset] [])) _
          refine XS.iconst X33.here hx rfl (hb hby at_118) ?_
          exact k
        · obtain ⟨_, _, ⟨T34, L34, k34, n34⟩, -, X34, ⟨Lc34, hQ34, l34, y34, z34⟩, st34⟩ := Jvm.LawKit.callS X33 hx (y := (⟨"com/example/hoardr/hoardr/http/FramingIsTokenPinLaw", "okAt", "(IIIB)Z"⟩ : MethodName)) hown (mvT hZ (hw _ (List.mem_of_getElem? (i := 2) rfl))) (mvT hZ (hw _ (List.mem_of_getElem? (i := 3) rfl))) (mvT hZ (hw _ (List.mem_of_getElem? (i := 4) rfl))) (mvT hZ (hw _ (List.mem_of_getElem? (i := 5) rfl))) (by decide) (backOf (W := 0) (rm1 l Z a0 hw [] (2 : Int32) (f0_v35 p5) (f0_v44 p6) ((f0_v28 p1 p2 p3 p4) ((2 : Int32)).toNatClampNeg) h27 n0 c28 ) hZ (hw _ (List.mem_of_getElem? (i := 5) rfl)) (hw _ (List.mem_of_getElem? (i := 4) rfl)) (by decide) (by decide)) (g := (mkF m 93 #[.val (.int p1), .val (.int p2), .val (.int p3), .val (.int p4), .val (.int p5), .val (.int p6), .val (.ref b7), .val (.int (f0_v35 p5)), .val (.int (f0_v44 p6)), .unset, .unset] [(.int ((f0_v28 p1 p2 p3 p4) ((2 : Int32)).toNatClampNeg)), (.int (f0_v44 p6)), (.int (f0_v35 p5)), (.int (2 : Int32))])) rfl (by rw [hml]; rfl) (argsL := [(.int (2 : Int32)), (.int (f0_v35 p5)), (.int (f0_v44 p6)), (.int ((f0_v28 p1 p2 p3 p4) ((2 : Int32)).toNatClampNeg))]) (rest := []) (lenOf pd_1 rfl) rfl (by show 2 * 0 + _ ≤ _; exact Nat.le_of_eq rfl) (hb hby at_93) (fun _ _ => ⟨rfl, e33, (by decide : 1 + 0 ≤ _), (by decide : 4 + 0 ≤ _)⟩)
          dsimp only [Pt.U, Pt.locs, Pt.cells, Pt.slots] at X34 l34 y34 z34 st34 hQ34
          subst l34 y34 z34
          obtain ⟨rfl, N34q, e34⟩ := hQ34
          have N34 := Fr.app N33 N34q
          have pre7 : ∀ t, Steps p.tables e below (T34.setTop (mkF m 96 #[.val (.int p1), .val (.int p2), .val (.int p3), .val (.int p4), .val (.int p5), .val (.int p6), .val (.ref b7), .val (.int (f0_v35 p5)), .val (.int (f0_v44 p6)), .unset, .unset] [(.int (f1 (2 : Int32) (f0_v35 p5) (f0_v44 p6) ((f0_v28 p1 p2 p3 p4) ((2 : Int32)).toNatClampNeg)))])) t → Steps p.tables e below (s₁.setTop (entryFrame m #[(.int p1), (.int p2), (.int p3), (.int p4), (.int p5), (.int p6)] maxLocals)) t := by
            intro t k
            refine pre5 t ?_
            show Steps p.tables e below (T33.setTop (mkF m 81 #[.val (.int p1), .val (.int p2), .val (.int p3), .val (.int p4), .val (.int p5), .val (.int p6), .val (.ref b7), .val (.int (f0_v35 p5)), .val (.int (f0_v44 p6)), .unset, .unset] [(.int (f1 (1 : Int32) (f0_v35 p5) (f0_v44 p6) ((f0_v28 p1 p2 p3 p4) ((1 : Int32)).toNatClampNeg)))])) _
            refine XS.ifNo X33.here hx rfl (hb hby at_81) rfl ((if0 _ _).trans (feq hc81).1) ?_
            show Steps p.tables e below (T33.setTop (mkF m 84 #[.val (.int p1), .val (.int p2), .val (.int p3), .val (.int p4), .val (.int p5), .val (.int p6), .val (.ref b7), .val (.int (f0_v35 p5)), .val (.int (f0_v44 p6)), .unset, .unset] [])) _
            refine XS.iconst X33.here hx rfl (hb hby at_84) ?_
            show Steps p.tables e below (T33.setTop (mkF m 85 #[.val (.int p1), .val (.int p2), .val (.int p3), .val (.int p4), .val (.int p5), .val (.int p6), .val (.ref b7), .val (.int (f0_v35 p5)), .val (.int (f0_v44 p6)), .unset, .unset] [(.int (2 : Int32))])) _
            refine XS.iload X33.here hx rfl (hb hby at_85) rfl ?_
            show Steps p.tables e below (T33.setTop (mkF m 87 #[.val (.int p1), .val (.int p2), .val (.int p3), .val (.int p4), .val (.int p5), .val (.int p6), .val (.ref b7), .val (.int (f0_v35 p5)), .val (.int (f0_v44 p6)), .unset, .unset] [(.int (f0_v35 p5)), (.int (2 : Int32))])) _
            refine XS.iload X33.here hx rfl (hb hby at_87) rfl ?_
            show Steps p.tables e below (T33.setTop (mkF m 89 #[.val (.int p1), .val (.int p2), .val (.int p3), .val (.int p4), .val (.int p5), .val (.int p6), .val (.ref b7), .val (.int (f0_v35 p5)), .val (.int (f0_v44 p6)), .unset, .unset] [(.int (f0_v44 p6)), (.int (f0_v35 p5)), (.int (2 : Int32))])) _
            refine XS.aload X33.here hx rfl (hb hby at_89) rfl rfl ?_
            show Steps p.tables e below (T33.setTop (mkF m 91 #[.val (.int p1), .val (.int p2), .val (.int p3), .val (.int p4), .val (.int p5), .val (.int p6), .val (.ref b7), .val (.int (f0_v35 p5)), .val (.int (f0_v44 p6)), .unset, .unset] [(.ref b7), (.int (f0_v44 p6)), (.int (f0_v35 p5)), (.int (2 : Int32))])) _
            refine XS.iconst X33.here hx rfl (hb hby at_91) ?_
            show Steps p.tables e below (T33.setTop (mkF m 92 #[.val (.int p1), .val (.int p2), .val (.int p3), .val (.int p4), .val (.int p5), .val (.int p6), .val (.ref b7), .val (.int (f0_v35 p5)), .val (.int (f0_v44 p6)), .unset, .unset] [(.int (2 : Int32)), (.ref b7), (.int (f0_v44 p6)), (.int (f0_v35 p5)), (.int (2 : Int32))])) _
            refine ldB X33 hx hZ e33 c31 (j := (2 : Int32)) ⟨by decide, by first | decide | assumption⟩ (g := (mkF m 92 #[.val (.int p1), .val (.int p2), .val (.int p3), .val (.int p4), .val (.int p5), .val (.int p6), .val (.ref b7), .val (.int (f0_v35 p5)), .val (.int (f0_v44 p6)), .unset, .unset] [(.int (2 : Int32)), (.ref b7), (.int (f0_v44 p6)), (.int (f0_v35 p5)), (.int (2 : Int32))])) rfl rfl (hb hby at_92) ?_
            show Steps p.tables e below (T33.setTop (mkF m 93 #[.val (.int p1), .val (.int p2), .val (.int p3), .val (.int p4), .val (.int p5), .val (.int p6), .val (.ref b7), .val (.int (f0_v35 p5)), .val (.int (f0_v44 p6)), .unset, .unset] [(.int ((f0_v28 p1 p2 p3 p4) ((2 : Int32)).toNatClampNeg)), (.int (f0_v44 p6)), (.int (f0_v35 p5)), (.int (2 : Int32))])) _
            refine st34 _ ?_
            exact k
          by_cases hc96 : (f1 (2 : Int32) (f0_v35 p5) (f0_v44 p6) ((f0_v28 p1 p2 p3 p4) ((2 : Int32)).toNatClampNeg)) = (0 : Int32)
          · have eq8 := (show (f0_s0_119 p1 p2 p3 p4 p5 p6) = (0 : Int32) from by unfold f0_s0_119; simp only [if_pos hc51, if_neg hc66, if_neg hc81, if_pos hc96])
            refine ⟨T34, _, X34, e34, N34, fun t k => ?_⟩
            try rw [eq8] at k
            refine pre7 t ?_
            show Steps p.tables e below (T34.setTop (mkF m 96 #[.val (.int p1), .val (.int p2), .val (.int p3), .val (.int p4), .val (.int p5), .val (.int p6), .val (.ref b7), .val (.int (f0_v35 p5)), .val (.int (f0_v44 p6)), .unset, .unset] [(.int (f1 (2 : Int32) (f0_v35 p5) (f0_v44 p6) ((f0_v28 p1 p2 p3 p4) ((2 : Int32)).toNatClampNeg)))])) _
            refine XS.ifYes X34.here hx rfl (pc0 := 96) (pc' := 118) rfl (hb hby at_96) rfl ((if0 _ _).trans (teq hc96).1) (by decide) (by decide) ?_
            show Steps p.tables e below (T34.setTop (mkF m 118 #[.val (.int p1), .val (.int p2), .val (.int p3), .val (.int p4), .val (.int p5), .val (.int p6), .val (.ref b7), .val (.int (f0_v35 p5)), .val (.int (f0_v44 p6)), .unset, .unset] [])) _
            refine XS.iconst X34.here hx rfl (hb hby at_118) ?_
            exact k
          · obtain ⟨_, _, ⟨T35, L35, k35, n35⟩, -, X35, ⟨Lc35, hQ35, l35, y35, z35⟩, st35⟩ := Jvm.LawKit.callS X34 hx (y := (⟨"com/example/hoardr/hoardr/http/FramingIsTokenPinLaw", "okAt", "(IIIB)Z"⟩ : MethodName)) hown (mvT hZ (hw _ (List.mem_of_getElem? (i := 2) rfl))) (mvT hZ (hw _ (List.mem_of_getElem? (i := 3) rfl))) (mvT hZ (hw _ (List.mem_of_getElem? (i := 4) rfl))) (mvT hZ (hw _ (List.mem_of_getElem? (i := 5) rfl))) (by decide) (backOf (W := 0) (rm1 l Z a0 hw [] (3 : Int32) (f0_v35 p5) (f0_v44 p6) ((f0_v28 p1 p2 p3 p4) ((3 : Int32)).toNatClampNeg) h27 n0 c28 ) hZ (hw _ (List.mem_of_getElem? (i := 5) rfl)) (hw _ (List.mem_of_getElem? (i := 4) rfl)) (by decide) (by decide)) (g := (mkF m 108 #[.val (.int p1), .val (.int p2), .val (.int p3), .val (.int p4), .val (.int p5), .val (.int p6), .val (.ref b7), .val (.int (f0_v35 p5)), .val (.int (f0_v44 p6)), .unset, .unset] [(.int ((f0_v28 p1 p2 p3 p4) ((3 : Int32)).toNatClampNeg)), (.int (f0_v44 p6)), (.int (f0_v35 p5)), (.int (3 : Int32))])) rfl (by rw [hml]; rfl) (argsL := [(.int (3 : Int32)), (.int (f0_v35 p5)), (.int (f0_v44 p6)), (.int ((f0_v28 p1 p2 p3 p4) ((3 : Int32)).toNatClampNeg))]) (rest := []) (lenOf pd_1 rfl) rfl (by show 2 * 0 + _ ≤ _; exact Nat.le_of_eq rfl) (hb hby at_108) (fun _ _ => ⟨rfl, e34, (by decide : 1 + 0 ≤ _), (by decide : 4 + 0 ≤ _)⟩)
            dsimp only [Pt.U, Pt.locs, Pt.cells, Pt.slots] at X35 l35 y35 z35 st35 hQ35
            subst l35 y35 z35
            obtain ⟨rfl, N35q, e35⟩ := hQ35
            have N35 := Fr.app N34 N35q
            have pre9 : ∀ t, Steps p.tables e below (T35.setTop (mkF m 111 #[.val (.int p1), .val (.int p2), .val (.int p3), .val (.int p4), .val (.int p5), .val (.int p6), .val (.ref b7), .val (.int (f0_v35 p5)), .val (.int (f0_v44 p6)), .unset, .unset] [(.int (f1 (3 : Int32) (f0_v35 p5) (f0_v44 p6) ((f0_v28 p1 p2 p3 p4) ((3 : Int32)).toNatClampNeg)))])) t → Steps p.tables e below (s₁.setTop (entryFrame m #[(.int p1), (.int p2), (.int p3), (.int p4), (.int p5), (.int p6)] maxLocals)) t := by
              intro t k
              refine pre7 t ?_
              show Steps p.tables e below (T34.setTop (mkF m 96 #[.val (.int p1), .val (.int p2), .val (.int p3), .val (.int p4), .val (.int p5), .val (.int p6), .val (.ref b7), .val (.int (f0_v35 p5)), .val (.int (f0_v44 p6)), .unset, .unset] [(.int (f1 (2 : Int32) (f0_v35 p5) (f0_v44 p6) ((f0_v28 p1 p2 p3 p4) ((2 : Int32)).toNatClampNeg)))])) _
              refine XS.ifNo X34.here hx rfl (hb hby at_96) rfl ((if0 _ _).trans (feq hc96).1) ?_
              show Steps p.tables e below (T34.setTop (mkF m 99 #[.val (.int p1), .val (.int p2), .val (.int p3), .val (.int p4), .val (.int p5), .val (.int p6), .val (.ref b7), .val (.int (f0_v35 p5)), .val (.int (f0_v44 p6)), .unset, .unset] [])) _
              refine XS.iconst X34.here hx rfl (hb hby at_99) ?_
              show Steps p.tables e below (T34.setTop (mkF m 100 #[.val (.int p1), .val (.int p2), .val (.int p3), .val (.int p4), .val (.int p5), .val (.int p6), .val (.ref b7), .val (.int (f0_v35 p5)), .val (.int (f0_v44 p6)), .unset, .unset] [(.int (3 : Int32))])) _
              refine XS.iload X34.here hx rfl (hb hby at_100) rfl ?_
              show Steps p.tables e below (T34.setTop (mkF m 102 #[.val (.int p1), .val (.int p2), .val (.int p3), .val (.int p4), .val (.int p5), .val (.int p6), .val (.ref b7), .val (.int (f0_v35 p5)), .val (.int (f0_v44 p6)), .unset, .unset] [(.int (f0_v35 p5)), (.int (3 : Int32))])) _
              refine XS.iload X34.here hx rfl (hb hby at_102) rfl ?_
              show Steps p.tables e below (T34.setTop (mkF m 104 #[.val (.int p1), .val (.int p2), .val (.int p3), .val (.int p4), .val (.int p5), .val (.int p6), .val (.ref b7), .val (.int (f0_v35 p5)), .val (.int (f0_v44 p6)), .unset, .unset] [(.int (f0_v44 p6)), (.int (f0_v35 p5)), (.int (3 : Int32))])) _
              refine XS.aload X34.here hx rfl (hb hby at_104) rfl rfl ?_
              show Steps p.tables e below (T34.setTop (mkF m 106 #[.val (.int p1), .val (.int p2), .val (.int p3), .val (.int p4), .val (.int p5), .val (.int p6), .val (.ref b7), .val (.int (f0_v35 p5)), .val (.int (f0_v44 p6)), .unset, .unset] [(.ref b7), (.int (f0_v44 p6)), (.int (f0_v35 p5)), (.int (3 : Int32))])) _
              refine XS.iconst X34.here hx rfl (hb hby at_106) ?_
              show Steps p.tables e below (T34.setTop (mkF m 107 #[.val (.int p1), .val (.int p2), .val (.int p3), .val (.int p4), .val (.int p5), .val (.int p6), .val (.ref b7), .val (.int (f0_v35 p5)), .val (.int (f0_v44 p6)), .unset, .unset] [(.int (3 : Int32)), (.ref b7), (.int (f0_v44 p6)), (.int (f0_v35 p5)), (.int (3 : Int32))])) _
              refine ldB X34 hx hZ e34 c31 (j := (3 : Int32)) ⟨by decide, by first | decide | assumption⟩ (g := (mkF m 107 #[.val (.int p1), .val (.int p2), .val (.int p3), .val (.int p4), .val (.int p5), .val (.int p6), .val (.ref b7), .val (.int (f0_v35 p5)), .val (.int (f0_v44 p6)), .unset, .unset] [(.int (3 : Int32)), (.ref b7), (.int (f0_v44 p6)), (.int (f0_v35 p5)), (.int (3 : Int32))])) rfl rfl (hb hby at_107) ?_
              show Steps p.tables e below (T34.setTop (mkF m 108 #[.val (.int p1), .val (.int p2), .val (.int p3), .val (.int p4), .val (.int p5), .val (.int p6), .val (.ref b7), .val (.int (f0_v35 p5)), .val (.int (f0_v44 p6)), .unset, .unset] [(.int ((f0_v28 p1 p2 p3 p4) ((3 : Int32)).toNatClampNeg)), (.int (f0_v44 p6)), (.int (f0_v35 p5)), (.int (3 : Int32))])) _
              refine st35 _ ?_
              exact k
            by_cases hc111 : (f1 (3 : Int32) (f0_v35 p5) (f0_v44 p6) ((f0_v28 p1 p2 p3 p4) ((3 : Int32)).toNatClampNeg)) = (0 : Int32)
            · have eq10 := (show (f0_s0_119 p1 p2 p3 p4 p5 p6) = (0 : Int32) from by unfold f0_s0_119; simp only [if_pos hc51, if_neg hc66, if_neg hc81, if_neg hc96, if_pos hc111])
              refine ⟨T35, _, X35, e35, N35, fun t k => ?_⟩
              try rw [eq10] at k
              refine pre9 t ?_
              show Steps p.tables e below (T35.setTop (mkF m 111 #[.val (.int p1), .val (.int p2), .val (.int p3), .val (.int p4), .val (.int p5), .val (.int p6), .val (.ref b7), .val (.int (f0_v35 p5)), .val (.int (f0_v44 p6)), .unset, .unset] [(.int (f1 (3 : Int32) (f0_v35 p5) (f0_v44 p6) ((f0_v28 p1 p2 p3 p4) ((3 : Int32)).toNatClampNeg)))])) _
              refine XS.ifYes X35.here hx rfl (pc0 := 111) (pc' := 118) rfl (hb hby at_111) rfl ((if0 _ _).trans (teq hc111).1) (by decide) (by decide) ?_
              show Steps p.tables e below (T35.setTop (mkF m 118 #[.val (.int p1), .val (.int p2), .val (.int p3), .val (.int p4), .val (.int p5), .val (.int p6), .val (.ref b7), .val (.int (f0_v35 p5)), .val (.int (f0_v44 p6)), .unset, .unset] [])) _
              refine XS.iconst X35.here hx rfl (hb hby at_118) ?_
              exact k
            · have eq11 := (show (f0_s0_119 p1 p2 p3 p4 p5 p6) = (1 : Int32) from by unfold f0_s0_119; simp only [if_pos hc51, if_neg hc66, if_neg hc81, if_neg hc96, if_neg hc111])
              refine ⟨T35, _, X35, e35, N35, fun t k => ?_⟩
              try rw [eq11] at k
              refine pre9 t ?_
              show Steps p.tables e below (T35.setTop (mkF m 111 #[.val (.int p1), .val (.int p2), .val (.int p3), .val (.int p4), .val (.int p5), .val (.int p6), .val (.ref b7), .val (.int (f0_v35 p5)), .val (.int (f0_v44 p6)), .unset, .unset] [(.int (f1 (3 : Int32) (f0_v35 p5) (f0_v44 p6) ((f0_v28 p1 p2 p3 p4) ((3 : Int32)).toNatClampNeg)))])) _
              refine XS.ifNo X35.here hx rfl (hb hby at_111) rfl ((if0 _ _).trans (feq hc111).1) ?_
              show Steps p.tables e below (T35.setTop (mkF m 114 #[.val (.int p1), .val (.int p2), .val (.int p3), .val (.int p4), .val (.int p5), .val (.int p6), .val (.ref b7), .val (.int (f0_v35 p5)), .val (.int (f0_v44 p6)), .unset, .unset] [])) _
              refine XS.iconst X35.here hx rfl (hb hby at_114) ?_
              show Steps p.tables e below (T35.setTop (mkF m 115 #[.val (.int p1), .val (.int p2), .val (.int p3), .val (.int p4), .val (.int p5), .val (.int p6), .val (.ref b7), .val (.int (f0_v35 p5)), .val (.int (f0_v44 p6)), .unset, .unset] [(.int (1 : Int32))])) _
              refine XS.goto X35.here hx rfl (pc0 := 115) (pc' := 119) rfl (hb hby at_115) (by decide) (by decide) ?_
              exact k
    · have eq12 := (show (f0_s0_119 p1 p2 p3 p4 p5 p6) = (0 : Int32) from by unfold f0_s0_119; simp only [if_neg hc51])
      refine ⟨T27, _, X27, e27, N27, fun t k => ?_⟩
      try rw [eq12] at k
      refine pre1 t ?_
      show Steps p.tables e below (T27.setTop (mkF m 51 #[.val (.int p1), .val (.int p2), .val (.int p3), .val (.int p4), .val (.int p5), .val (.int p6), .val (.ref b7), .val (.int (f0_v35 p5)), .val (.int (f0_v44 p6)), .unset, .unset] [(.int (f0_v44 p6)), (.int (f0_v35 p5))])) _
      refine XS.icmpYes X27.here hx rfl (pc0 := 51) (pc' := 118) rfl (hb hby at_51) rfl (flt hc51).2.1 (by decide) (by decide) ?_
      show Steps p.tables e below (T27.setTop (mkF m 118 #[.val (.int p1), .val (.int p2), .val (.int p3), .val (.int p4), .val (.int p5), .val (.int p6), .val (.ref b7), .val (.int (f0_v35 p5)), .val (.int (f0_v44 p6)), .unset, .unset] [])) _
      refine XS.iconst X27.here hx rfl (hb hby at_118) ?_
      exact k
  obtain ⟨_, _, ⟨T37, L37, k37, n37⟩, -, X37, ⟨Lc37, hQ37, l37, y37, z37⟩, st37⟩ := Jvm.LawKit.callS X36 hx (y := (⟨"com/example/hoardr/hoardr/http/Framing", "isToken", "([BII)Z"⟩ : MethodName)) hown (mvT hZ (hw _ (List.mem_of_getElem? (i := 9) rfl))) (mvT hZ (hw _ (List.mem_of_getElem? (i := 10) rfl))) (mvT hZ (hw _ (List.mem_of_getElem? (i := 11) rfl))) (mvT hZ (hw _ (List.mem_of_getElem? (i := 12) rfl))) (by decide) (backOf (W := 0) (rm3 l Z a0 hw [] b7 (f0_v35 p5) (f0_v44 p6) (4 : Int32) (f0_v28 p1 p2 p3 p4) w_TOK z_w_TOK c_w_TOK h27 n0 c28 c31 c29 c30 hz ⟨(own_r5 p5).1, Int.lt_add_one_iff.mp (own_r5 p6).2, Int.lt_add_one_iff.mp (own_r5 p6).2⟩) hZ (hw _ (List.mem_of_getElem? (i := 12) rfl)) (hw _ (List.mem_of_getElem? (i := 11) rfl)) (by decide) (by decide)) (g := (mkF m 127 #[.val (.int p1), .val (.int p2), .val (.int p3), .val (.int p4), .val (.int p5), .val (.int p6), .val (.ref b7), .val (.int (f0_v35 p5)), .val (.int (f0_v44 p6)), .val (.int (f0_s0_119 p1 p2 p3 p4 p5 p6)), .unset] [(.int (f0_v44 p6)), (.int (f0_v35 p5)), (.ref b7)])) rfl (by rw [hml]; rfl) (argsL := [(.ref b7), (.int (f0_v35 p5)), (.int (f0_v44 p6))]) (rest := []) (lenOf pd_2 rfl) rfl (by show 2 * 0 + _ ≤ _; exact Nat.le_of_eq rfl) (hb hby at_127) (fun _ _ => ⟨rfl, e36, (by decide : 1 + 0 ≤ _), (by decide : 4 + 0 ≤ _)⟩)
  dsimp only [Pt.U, Pt.locs, Pt.cells, Pt.slots] at X37 l37 y37 z37 st37 hQ37
  subst l37 y37 z37
  obtain ⟨rfl, N37q, e37⟩ := hQ37
  have N37 := Fr.app N36 N37q
  have pre13 : ∀ t, Steps p.tables e below (T37.setTop (mkF m 136 #[.val (.int p1), .val (.int p2), .val (.int p3), .val (.int p4), .val (.int p5), .val (.int p6), .val (.ref b7), .val (.int (f0_v35 p5)), .val (.int (f0_v44 p6)), .val (.int (f0_s0_119 p1 p2 p3 p4 p5 p6)), .val (.int (f3 (f0_v35 p5) (f0_v44 p6) (4 : Int32) (f0_v28 p1 p2 p3 p4) z_w_TOK c_w_TOK))] [(.int (f0_s0_119 p1 p2 p3 p4 p5 p6)), (.int (f3 (f0_v35 p5) (f0_v44 p6) (4 : Int32) (f0_v28 p1 p2 p3 p4) z_w_TOK c_w_TOK))])) t → Steps p.tables e below (s₁.setTop (entryFrame m #[(.int p1), (.int p2), (.int p3), (.int p4), (.int p5), (.int p6)] maxLocals)) t := by
    intro t k
    refine pre2 t ?_
    show Steps p.tables e below (T36.setTop (mkF m 119 #[.val (.int p1), .val (.int p2), .val (.int p3), .val (.int p4), .val (.int p5), .val (.int p6), .val (.ref b7), .val (.int (f0_v35 p5)), .val (.int (f0_v44 p6)), .unset, .unset] [(.int (f0_s0_119 p1 p2 p3 p4 p5 p6))])) _
    refine XS.istore X36.here hx rfl (hb hby at_119) rfl (l' := #[.val (.int p1), .val (.int p2), .val (.int p3), .val (.int p4), .val (.int p5), .val (.int p6), .val (.ref b7), .val (.int (f0_v35 p5)), .val (.int (f0_v44 p6)), .val (.int (f0_s0_119 p1 p2 p3 p4 p5 p6)), .unset]) rfl ?_
    show Steps p.tables e below (T36.setTop (mkF m 121 #[.val (.int p1), .val (.int p2), .val (.int p3), .val (.int p4), .val (.int p5), .val (.int p6), .val (.ref b7), .val (.int (f0_v35 p5)), .val (.int (f0_v44 p6)), .val (.int (f0_s0_119 p1 p2 p3 p4 p5 p6)), .unset] [])) _
    refine XS.aload X36.here hx rfl (hb hby at_121) rfl rfl ?_
    show Steps p.tables e below (T36.setTop (mkF m 123 #[.val (.int p1), .val (.int p2), .val (.int p3), .val (.int p4), .val (.int p5), .val (.int p6), .val (.ref b7), .val (.int (f0_v35 p5)), .val (.int (f0_v44 p6)), .val (.int (f0_s0_119 p1 p2 p3 p4 p5 p6)), .unset] [(.ref b7)])) _
    refine XS.iload X36.here hx rfl (hb hby at_123) rfl ?_
    show Steps p.tables e below (T36.setTop (mkF m 125 #[.val (.int p1), .val (.int p2), .val (.int p3), .val (.int p4), .val (.int p5), .val (.int p6), .val (.ref b7), .val (.int (f0_v35 p5)), .val (.int (f0_v44 p6)), .val (.int (f0_s0_119 p1 p2 p3 p4 p5 p6)), .unset] [(.int (f0_v35 p5)), (.ref b7)])) _
    refine XS.iload X36.here hx rfl (hb hby at_125) rfl ?_
    show Steps p.tables e below (T36.setTop (mkF m 127 #[.val (.int p1), .val (.int p2), .val (.int p3), .val (.int p4), .val (.int p5), .val (.int p6), .val (.ref b7), .val (.int (f0_v35 p5)), .val (.int (f0_v44 p6)), .val (.int (f0_s0_119 p1 p2 p3 p4 p5 p6)), .unset] [(.int (f0_v44 p6)), (.int (f0_v35 p5)), (.ref b7)])) _
    refine st37 _ ?_
    show Steps p.tables e below (T37.setTop (mkF m 130 #[.val (.int p1), .val (.int p2), .val (.int p3), .val (.int p4), .val (.int p5), .val (.int p6), .val (.ref b7), .val (.int (f0_v35 p5)), .val (.int (f0_v44 p6)), .val (.int (f0_s0_119 p1 p2 p3 p4 p5 p6)), .unset] [(.int (f3 (f0_v35 p5) (f0_v44 p6) (4 : Int32) (f0_v28 p1 p2 p3 p4) z_w_TOK c_w_TOK))])) _
    refine XS.istore X37.here hx rfl (hb hby at_130) rfl (l' := #[.val (.int p1), .val (.int p2), .val (.int p3), .val (.int p4), .val (.int p5), .val (.int p6), .val (.ref b7), .val (.int (f0_v35 p5)), .val (.int (f0_v44 p6)), .val (.int (f0_s0_119 p1 p2 p3 p4 p5 p6)), .val (.int (f3 (f0_v35 p5) (f0_v44 p6) (4 : Int32) (f0_v28 p1 p2 p3 p4) z_w_TOK c_w_TOK))]) rfl ?_
    show Steps p.tables e below (T37.setTop (mkF m 132 #[.val (.int p1), .val (.int p2), .val (.int p3), .val (.int p4), .val (.int p5), .val (.int p6), .val (.ref b7), .val (.int (f0_v35 p5)), .val (.int (f0_v44 p6)), .val (.int (f0_s0_119 p1 p2 p3 p4 p5 p6)), .val (.int (f3 (f0_v35 p5) (f0_v44 p6) (4 : Int32) (f0_v28 p1 p2 p3 p4) z_w_TOK c_w_TOK))] [])) _
    refine XS.iload X37.here hx rfl (hb hby at_132) rfl ?_
    show Steps p.tables e below (T37.setTop (mkF m 134 #[.val (.int p1), .val (.int p2), .val (.int p3), .val (.int p4), .val (.int p5), .val (.int p6), .val (.ref b7), .val (.int (f0_v35 p5)), .val (.int (f0_v44 p6)), .val (.int (f0_s0_119 p1 p2 p3 p4 p5 p6)), .val (.int (f3 (f0_v35 p5) (f0_v44 p6) (4 : Int32) (f0_v28 p1 p2 p3 p4) z_w_TOK c_w_TOK))] [(.int (f3 (f0_v35 p5) (f0_v44 p6) (4 : Int32) (f0_v28 p1 p2 p3 p4) z_w_TOK c_w_TOK))])) _
    refine XS.iload X37.here hx rfl (hb hby at_134) rfl ?_
    exact k
  by_cases hc136 : (f3 (f0_v35 p5) (f0_v44 p6) (4 : Int32) (f0_v28 p1 p2 p3 p4) z_w_TOK c_w_TOK) = (f0_s0_119 p1 p2 p3 p4 p5 p6)
  · have eq14 : (f0 p1 p2 p3 p4 p5 p6 z_w_TOK c_w_TOK) = (1 : Int32) := by unfold f0; simp only [if_pos hc136]
    obtain ⟨fs, hr, hrun, hended, hW, hsame⟩ := X37.leave (v := some (.int (1 : Int32))) (fun h => by rw [Bd.returns] at h; cases h)
    refine ⟨_, _, pre13 _ ?_, hrun, hended, _, _, rfl, ?_, ⟨_, rfl⟩, hW, hsame.mono (by decide) (by decide)⟩
    · show Steps p.tables e below (T37.setTop (mkF m 136 #[.val (.int p1), .val (.int p2), .val (.int p3), .val (.int p4), .val (.int p5), .val (.int p6), .val (.ref b7), .val (.int (f0_v35 p5)), .val (.int (f0_v44 p6)), .val (.int (f0_s0_119 p1 p2 p3 p4 p5 p6)), .val (.int (f3 (f0_v35 p5) (f0_v44 p6) (4 : Int32) (f0_v28 p1 p2 p3 p4) z_w_TOK c_w_TOK))] [(.int (f0_s0_119 p1 p2 p3 p4 p5 p6)), (.int (f3 (f0_v35 p5) (f0_v44 p6) (4 : Int32) (f0_v28 p1 p2 p3 p4) z_w_TOK c_w_TOK))])) _
      refine XS.icmpNo X37.here hx rfl (hb hby at_136) rfl (teq hc136).2 ?_
      show Steps p.tables e below (T37.setTop (mkF m 139 #[.val (.int p1), .val (.int p2), .val (.int p3), .val (.int p4), .val (.int p5), .val (.int p6), .val (.ref b7), .val (.int (f0_v35 p5)), .val (.int (f0_v44 p6)), .val (.int (f0_s0_119 p1 p2 p3 p4 p5 p6)), .val (.int (f3 (f0_v35 p5) (f0_v44 p6) (4 : Int32) (f0_v28 p1 p2 p3 p4) z_w_TOK c_w_TOK))] [])) _
      refine XS.iconst X37.here hx rfl (hb hby at_139) ?_
      show Steps p.tables e below (T37.setTop (mkF m 140 #[.val (.int p1), .val (.int p2), .val (.int p3), .val (.int p4), .val (.int p5), .val (.int p6), .val (.ref b7), .val (.int (f0_v35 p5)), .val (.int (f0_v44 p6)), .val (.int (f0_s0_119 p1 p2 p3 p4 p5 p6)), .val (.int (f3 (f0_v35 p5) (f0_v44 p6) (4 : Int32) (f0_v28 p1 p2 p3 p4) z_w_TOK c_w_TOK))] [(.int (1 : Int32))])) _
      refine XS.goto X37.here hx rfl (pc0 := 140) (pc' := 144) rfl (hb hby at_140) (by decide) (by decide) ?_
      show Steps p.tables e below (T37.setTop (mkF m 144 #[.val (.int p1), .val (.int p2), .val (.int p3), .val (.int p4), .val (.int p5), .val (.int p6), .val (.ref b7), .val (.int (f0_v35 p5)), .val (.int (f0_v44 p6)), .val (.int (f0_s0_119 p1 p2 p3 p4 p5 p6)), .val (.int (f3 (f0_v35 p5) (f0_v44 p6) (4 : Int32) (f0_v28 p1 p2 p3 p4) z_w_TOK c_w_TOK))] [(.int (1 : Int32))])) _
      exact retN X37 hx (t := .boolean) Bd.returns (by simp) (hb hby at_144) hr
    · show Q0 Z p1 p2 p3 p4 p5 p6 w_TOK z_w_TOK c_w_TOK h0 n0 _ T37.heap _
      rw [e37]
      exact ⟨by rw [eq14], N37, trivial⟩
  · have eq15 : (f0 p1 p2 p3 p4 p5 p6 z_w_TOK c_w_TOK) = (0 : Int32) := by unfold f0; simp only [if_neg hc136]
    obtain ⟨fs, hr, hrun, hended, hW, hsame⟩ := X37.leave (v := some (.int (0 : Int32))) (fun h => by rw [Bd.returns] at h; cases h)
    refine ⟨_, _, pre13 _ ?_, hrun, hended, _, _, rfl, ?_, ⟨_, rfl⟩, hW, hsame.mono (by decide) (by decide)⟩
    · show Steps p.tables e below (T37.setTop (mkF m 136 #[.val (.int p1), .val (.int p2), .val (.int p3), .val (.int p4), .val (.int p5), .val (.int p6), .val (.ref b7), .val (.int (f0_v35 p5)), .val (.int (f0_v44 p6)), .val (.int (f0_s0_119 p1 p2 p3 p4 p5 p6)), .val (.int (f3 (f0_v35 p5) (f0_v44 p6) (4 : Int32) (f0_v28 p1 p2 p3 p4) z_w_TOK c_w_TOK))] [(.int (f0_s0_119 p1 p2 p3 p4 p5 p6)), (.int (f3 (f0_v35 p5) (f0_v44 p6) (4 : Int32) (f0_v28 p1 p2 p3 p4) z_w_TOK c_w_TOK))])) _
      refine XS.icmpYes X37.here hx rfl (pc0 := 136) (pc' := 143) rfl (hb hby at_136) rfl (feq hc136).2 (by decide) (by decide) ?_
      show Steps p.tables e below (T37.setTop (mkF m 143 #[.val (.int p1), .val (.int p2), .val (.int p3), .val (.int p4), .val (.int p5), .val (.int p6), .val (.ref b7), .val (.int (f0_v35 p5)), .val (.int (f0_v44 p6)), .val (.int (f0_s0_119 p1 p2 p3 p4 p5 p6)), .val (.int (f3 (f0_v35 p5) (f0_v44 p6) (4 : Int32) (f0_v28 p1 p2 p3 p4) z_w_TOK c_w_TOK))] [])) _
      refine XS.iconst X37.here hx rfl (hb hby at_143) ?_
      show Steps p.tables e below (T37.setTop (mkF m 144 #[.val (.int p1), .val (.int p2), .val (.int p3), .val (.int p4), .val (.int p5), .val (.int p6), .val (.ref b7), .val (.int (f0_v35 p5)), .val (.int (f0_v44 p6)), .val (.int (f0_s0_119 p1 p2 p3 p4 p5 p6)), .val (.int (f3 (f0_v35 p5) (f0_v44 p6) (4 : Int32) (f0_v28 p1 p2 p3 p4) z_w_TOK c_w_TOK))] [(.int (0 : Int32))])) _
      exact retN X37 hx (t := .boolean) Bd.returns (by simp) (hb hby at_144) hr
    · show Q0 Z p1 p2 p3 p4 p5 p6 w_TOK z_w_TOK c_w_TOK h0 n0 _ T37.heap _
      rw [e37]
      exact ⟨by rw [eq15], N37, trivial⟩
def own_tok (j : Nat) : Int32 := if j < 33 then 0 else if j = 33 then 1 else if j = 34 then 0 else if j < 40 then 1 else if j = 40 then 0 else if j = 41 then 0 else if j = 42 then 1 else if j = 43 then 1 else if j = 44 then 0 else if j = 45 then 1 else if j = 46 then 1 else if j = 47 then 0 else if j < 58 then 1 else if j < 65 then 0 else if j < 91 then 1 else if j = 91 then 0 else if j = 92 then 0 else if j = 93 then 0 else if j < 123 then 1 else if j = 123 then 0 else if j = 124 then 1 else if j = 125 then 0 else if j = 126 then 1 else if j < 256 then 0 else 0
theorem own_hT (A : Nat → Int32) (rg0 : ∀ j : Nat, 0 ≤ j → j < 33 → A j = 0) (pt33 : A 33 = 1) (pt34 : A 34 = 0) (rg35 : ∀ j : Nat, 35 ≤ j → j < 40 → A j = 1) (pt40 : A 40 = 0) (pt41 : A 41 = 0) (pt42 : A 42 = 1) (pt43 : A 43 = 1) (pt44 : A 44 = 0) (pt45 : A 45 = 1) (pt46 : A 46 = 1) (pt47 : A 47 = 0) (rg48 : ∀ j : Nat, 48 ≤ j → j < 58 → A j = 1) (rg58 : ∀ j : Nat, 58 ≤ j → j < 65 → A j = 0) (rg65 : ∀ j : Nat, 65 ≤ j → j < 91 → A j = 1) (pt91 : A 91 = 0) (pt92 : A 92 = 0) (pt93 : A 93 = 0) (rg94 : ∀ j : Nat, 94 ≤ j → j < 123 → A j = 1) (pt123 : A 123 = 0) (pt124 : A 124 = 1) (pt125 : A 125 = 0) (pt126 : A 126 = 1) (rg127 : ∀ j : Nat, 127 ≤ j → j < 256 → A j = 0) : ∀ j : Nat, j < 256 → A j = own_tok j := by
  intro j hj
  unfold own_tok
  by_cases c0 : j < 33
  · rw [if_pos c0]; exact rg0 j (by omega) c0
  rw [if_neg c0]
  by_cases c1 : j = 33
  · rw [if_pos c1]; exact c1 ▸ pt33
  rw [if_neg c1]
  by_cases c2 : j = 34
  · rw [if_pos c2]; exact c2 ▸ pt34
  rw [if_neg c2]
  by_cases c3 : j < 40
  · rw [if_pos c3]; exact rg35 j (by omega) c3
  rw [if_neg c3]
  by_cases c4 : j = 40
  · rw [if_pos c4]; exact c4 ▸ pt40
  rw [if_neg c4]
  by_cases c5 : j = 41
  · rw [if_pos c5]; exact c5 ▸ pt41
  rw [if_neg c5]
  by_cases c6 : j = 42
  · rw [if_pos c6]; exact c6 ▸ pt42
  rw [if_neg c6]
  by_cases c7 : j = 43
  · rw [if_pos c7]; exact c7 ▸ pt43
  rw [if_neg c7]
  by_cases c8 : j = 44
  · rw [if_pos c8]; exact c8 ▸ pt44
  rw [if_neg c8]
  by_cases c9 : j = 45
  · rw [if_pos c9]; exact c9 ▸ pt45
  rw [if_neg c9]
  by_cases c10 : j = 46
  · rw [if_pos c10]; exact c10 ▸ pt46
  rw [if_neg c10]
  by_cases c11 : j = 47
  · rw [if_pos c11]; exact c11 ▸ pt47
  rw [if_neg c11]
  by_cases c12 : j < 58
  · rw [if_pos c12]; exact rg48 j (by omega) c12
  rw [if_neg c12]
  by_cases c13 : j < 65
  · rw [if_pos c13]; exact rg58 j (by omega) c13
  rw [if_neg c13]
  by_cases c14 : j < 91
  · rw [if_pos c14]; exact rg65 j (by omega) c14
  rw [if_neg c14]
  by_cases c15 : j = 91
  · rw [if_pos c15]; exact c15 ▸ pt91
  rw [if_neg c15]
  by_cases c16 : j = 92
  · rw [if_pos c16]; exact c16 ▸ pt92
  rw [if_neg c16]
  by_cases c17 : j = 93
  · rw [if_pos c17]; exact c17 ▸ pt93
  rw [if_neg c17]
  by_cases c18 : j < 123
  · rw [if_pos c18]; exact rg94 j (by omega) c18
  rw [if_neg c18]
  by_cases c19 : j = 123
  · rw [if_pos c19]; exact c19 ▸ pt123
  rw [if_neg c19]
  by_cases c20 : j = 124
  · rw [if_pos c20]; exact c20 ▸ pt124
  rw [if_neg c20]
  by_cases c21 : j = 125
  · rw [if_pos c21]; exact c21 ▸ pt125
  rw [if_neg c21]
  by_cases c22 : j = 126
  · rw [if_pos c22]; exact c22 ▸ pt126
  rw [if_neg c22]
  by_cases c23 : j < 256
  · rw [if_pos c23]; exact rg127 j (by omega) c23
  rw [if_neg c23]
  exact absurd hj (by omega)
theorem own_tc0 : ∀ b : Fin 256, f2 (Int32.ofNat b.val) = own_tok b.val := by decide +kernel
theorem own_tc (x : Int32) : f2 (x &&& 255) = own_tok (x &&& 255).toNatClampNeg := by
  have h := c_mask x 255 8 (by decide) (by decide)
  have e : (x &&& 255).toNatClampNeg < 256 := by
    show (x &&& 255).toInt.toNat < 256
    omega
  have e2 : Int32.ofNat (x &&& 255).toNatClampNeg = x &&& 255 := by
    apply Int32.toInt_inj.mp
    rw [Int32.toInt_ofNat_of_lt (by omega)]
    show ((x &&& 255).toInt.toNat : Int) = _
    omega
  have q := own_tc0 ⟨_, e⟩
  simp only at q
  rw [e2] at q
  exact q
theorem own_five {x : Int32} (h : 0 ≤ x.toInt ∧ x.toInt < 5) : x = 0 ∨ x = 1 ∨ x = 2 ∨ x = 3 ∨ x = 4 := by
  have c : x.toInt = 0 ∨ x.toInt = 1 ∨ x.toInt = 2 ∨ x.toInt = 3 ∨ x.toInt = 4 := by omega
  rcases c with c | c | c | c | c
  · exact Or.inl (Int32.toInt_inj.mp c)
  · exact Or.inr (Or.inl (Int32.toInt_inj.mp c))
  · exact Or.inr (Or.inr (Or.inl (Int32.toInt_inj.mp c)))
  · exact Or.inr (Or.inr (Or.inr (Or.inl (Int32.toInt_inj.mp c))))
  · exact Or.inr (Or.inr (Or.inr (Or.inr (Int32.toInt_inj.mp c))))
theorem own_ite {c : Prop} [Decidable c] {a b : Int32} (ha : a = 0 ∨ a = 1) (hb : b = 0 ∨ b = 1) : (if c then a else b) = 0 ∨ (if c then a else b) = 1 := by
  by_cases h : c
  · rw [if_pos h]; exact ha
  · rw [if_neg h]; exact hb
theorem own_tok01 (j : Nat) : own_tok j = 0 ∨ own_tok j = 1 := by
  unfold own_tok
  repeat' first | exact Or.inl rfl | exact Or.inr rfl | apply own_ite
theorem own_nar (j : Nat) : nar .boolean (own_tok j) = own_tok j := by
  rcases own_tok01 j with h | h <;> rw [h] <;> rfl
theorem own_key (F T : Int32) (c k : Nat → Int32) (hk : ∀ x : Int32, k (x &&& 255).toNatClampNeg = own_tok (x &&& 255).toNatClampNeg) (hF : 0 ≤ F.toInt ∧ F.toInt < 5) (hT : 0 ≤ T.toInt ∧ T.toInt < 5) (z : Int32) : f3 F T 4 c z k = (if F < T then (if f1 0 F T (c (0 : Int32).toNatClampNeg) = 0 then 0 else if f1 1 F T (c (1 : Int32).toNatClampNeg) = 0 then 0 else if f1 2 F T (c (2 : Int32).toNatClampNeg) = 0 then 0 else if f1 3 F T (c (3 : Int32).toNatClampNeg) = 0 then (0 : Int32) else 1) else 0) := by
  rcases own_five hF with rfl | rfl | rfl | rfl | rfl <;> rcases own_five hT with rfl | rfl | rfl | rfl | rfl <;> simp [f3, f1, g3_9, hk, own_tc, own_nar] <;> repeat' split
  all_goals first | rfl | (simp_all; done)
theorem own_law (a b c d f t : Int32) (z : Int32) (k : Nat → Int32) (hk : ∀ x : Int32, k (x &&& 255).toNatClampNeg = own_tok (x &&& 255).toNatClampNeg) : f0 a b c d f t z k = 1 := by
  unfold f0 f0_s0_119
  rw [own_key (f0_v35 f) (f0_v44 t) (f0_v28 a b c d) k hk (own_r5 f) (own_r5 t) z, if_pos rfl]

set_option maxRecDepth 65536 in
set_option maxHeartbeats 40000000 in
theorem comes_1 {Post : Tables → Env → Array Value → State → Outcome → State → Prop} (hpost : ∀ tb e args s v u, (limb_1_1.after args s (.returned v) u = true ∧ limb_1_2.after args s (.returned v) u = true ∧ True) → FrameEnd s (.returned v) u (Jvm.fieldLocs frame_1_writes args s ++ Jvm.arrayLocs frame_1_arrays args s ++ Jvm.staticLocs frame_1_statics s) 16 128 → Post tb e args s (.returned v) u) :
    ArmFor flags0 classFile x code maxLocals ret World_1 tables_1 room_1 Calls_1 rest_1 Pre_1 Post := by
  intro l hfl _ _ p e ha hc hk s m args below hf hA hF happ hP
  obtain ⟨hcalls, hrest, hpre⟩ := hP
  obtain ⟨-, -, -, hnamed, -, -, -, hat⟩ := (Spec.applies_iff hf).mp happ
  obtain ⟨hg, hn⟩ := and_e (Cond.before_iff.mp (show (Jvm.Cond.and given_1 narrow_1).before args s = true from hpre))
  obtain ⟨g1, g2⟩ := and_e hg
  obtain ⟨g3, g4⟩ := and_e g2
  obtain ⟨g5, g6⟩ := and_e g4
  obtain ⟨g7, g8⟩ := and_e g6
  obtain ⟨g9, g10⟩ := and_e g8
  obtain ⟨g11, g12⟩ := and_e g10
  obtain ⟨w0, w1, w2, w3, w4, w5, rfl⟩ : ∃ w0 w1 w2 w3 w4 w5 : Value, args = #[w0, w1, w2, w3, w4, w5] := by
    have hs : args.size = 6 := by simpa [Cond.value, given_1] using g1
    obtain ⟨L⟩ := args
    match L, hs with
    | [w0, w1, w2, w3, w4, w5], _ => exact ⟨w0, w1, w2, w3, w4, w5, rfl⟩
  have hw := fun d (hd : d ∈ tables_1) => atoms_spec (ws := Jvm.Cond.code x code maxLocals ret :: tables_1) hat d (List.mem_cons_of_mem _ hd)
  have hfit : Fit s := fun {y c} hc i hi => by
    obtain ⟨ha, rfl⟩ := Array.getElem?_eq_some_iff.mp hc
    have q := List.all_eq_true.mp ((Array.all_eq_true_iff_forall_mem.mp hF) _ (Array.getElem_mem ha)) i (List.mem_range.mpr hi)
    simpa [Array.getElem?_eq_getElem hi] using q
  obtain ⟨i0, ei0⟩ := is_v g3
  obtain rfl : w0 = (.int i0) := Option.some.inj ei0
  obtain ⟨i1, ei1⟩ := is_v g5
  obtain rfl : w1 = (.int i1) := Option.some.inj ei1
  obtain ⟨i2, ei2⟩ := is_v g7
  obtain rfl : w2 = (.int i2) := Option.some.inj ei2
  obtain ⟨i3, ei3⟩ := is_v g9
  obtain rfl : w3 = (.int i3) := Option.some.inj ei3
  obtain ⟨i4, ei4⟩ := is_v g11
  obtain rfl : w4 = (.int i4) := Option.some.inj ei4
  obtain ⟨i5, ei5⟩ := is_v g12
  obtain rfl : w5 = (.int i5) := Option.some.inj ei5
  obtain ⟨n1, n2⟩ := and_e hn
  obtain ⟨n3, n4⟩ := and_e n2
  obtain ⟨n5, n6⟩ := and_e n4
  obtain ⟨n7, n8⟩ := and_e n6
  obtain ⟨n9, n10⟩ := and_e n8
  obtain ⟨n11, n12⟩ := and_e n10
  obtain ⟨n13, n14⟩ := and_e n12
  obtain ⟨n15, n16⟩ := and_e n14
  obtain ⟨n17, n18⟩ := and_e n16
  obtain ⟨n19, n20⟩ := and_e n18
  obtain ⟨n21, n22⟩ := and_e n20
  obtain ⟨n23, n24⟩ := and_e n22
  obtain ⟨n25, n26⟩ := and_e n24
  obtain ⟨n27, n28⟩ := and_e n26
  obtain ⟨n29, n30⟩ := and_e n28
  obtain ⟨n31, n32⟩ := and_e n30
  obtain ⟨n33, n34⟩ := and_e n32
  obtain ⟨n35, n36⟩ := and_e n34
  obtain ⟨n37, n38⟩ := and_e n36
  obtain ⟨n39, n40⟩ := and_e n38
  obtain ⟨n41, n42⟩ := and_e n40
  obtain ⟨n43, n44⟩ := and_e n42
  obtain ⟨n45, n46⟩ := and_e n44
  obtain ⟨n47, n48⟩ := and_e n46
  obtain ⟨n49, n50⟩ := and_e n48
  obtain ⟨a_T, ea⟩ := arr_v n1
  obtain ⟨cl, Ac⟩ := Arr.start ea n1
  have hat := Arr.fin (Vm.Alike.refl _) Ac
  obtain ⟨hl, hsz⟩ := own_len ea hat n3
  have hsn : cl.slots.size = 256 := by
    have h9 := len_toInt hl
    rw [hsz, show (256 : Int32).toInt = 256 from rfl] at h9
    omega
  have S_T : Sta s s.heap "com/example/hoardr/hoardr/http/Framing" "TOKEN_CHARACTERS" "[Z" (.ref a_T) := Sta.start ea (Or.inr ⟨(hw _ (List.mem_of_getElem? (i := 11) rfl)), (hw _ (List.mem_of_getElem? (i := 14) rfl))⟩)
  have VT := own_ofTab (Tab.start hfit Ac (Or.inr (Or.inl rfl)) hl hsz (by decide)) hl
  have rg0 : ∀ j : Nat, 0 ≤ j → j < 33 → atv cl j.toInt32 = 0 := fun j h1 h2 => by
    have eJ : j.toInt32.toInt = j := len_toInt (by omega)
    have q0 := Cond.all_elim ea hat n5 j (by omega)
    rcases own_orv q0 with q | q1
    · exact absurd (gotT (Cond.le_ints rfl rfl) q) (by rw [Int32.le_iff_toInt_le, eJ, show (33 : Int32).toInt = 33 from rfl]; omega)
    exact own_elemv (idx := [j]) (t := (Term.static "com/example/hoardr/hoardr/http/Framing" "TOKEN_CHARACTERS" "[Z")) (u := .index 0) (show Term.eval _ _ _ [j] _ (Term.static "com/example/hoardr/hoardr/http/Framing" "TOKEN_CHARACTERS" "[Z") = _ from ea) rfl Ac.1 q1
  have pt33 : atv cl (33 : Int32) = 1 := own_elemv ea rfl Ac.1 n7
  have pt34 : atv cl (34 : Int32) = 0 := own_elemv ea rfl Ac.1 n9
  have rg35 : ∀ j : Nat, 35 ≤ j → j < 40 → atv cl j.toInt32 = 1 := fun j h1 h2 => by
    have eJ : j.toInt32.toInt = j := len_toInt (by omega)
    have q0 := Cond.all_elim ea hat n11 j (by omega)
    rcases own_orv q0 with q | q1
    · exact absurd (gotT (Cond.lt_ints rfl rfl) q) (by rw [Int32.lt_iff_toInt_lt, eJ, show (35 : Int32).toInt = 35 from rfl]; omega)
    rcases own_orv q1 with q | q2
    · exact absurd (gotT (Cond.le_ints rfl rfl) q) (by rw [Int32.le_iff_toInt_le, eJ, show (40 : Int32).toInt = 40 from rfl]; omega)
    exact own_elemv (idx := [j]) (t := (Term.static "com/example/hoardr/hoardr/http/Framing" "TOKEN_CHARACTERS" "[Z")) (u := .index 0) (show Term.eval _ _ _ [j] _ (Term.static "com/example/hoardr/hoardr/http/Framing" "TOKEN_CHARACTERS" "[Z") = _ from ea) rfl Ac.1 q2
  have pt40 : atv cl (40 : Int32) = 0 := own_elemv ea rfl Ac.1 n13
  have pt41 : atv cl (41 : Int32) = 0 := own_elemv ea rfl Ac.1 n15
  have pt42 : atv cl (42 : Int32) = 1 := own_elemv ea rfl Ac.1 n17
  have pt43 : atv cl (43 : Int32) = 1 := own_elemv ea rfl Ac.1 n19
  have pt44 : atv cl (44 : Int32) = 0 := own_elemv ea rfl Ac.1 n21
  have pt45 : atv cl (45 : Int32) = 1 := own_elemv ea rfl Ac.1 n23
  have pt46 : atv cl (46 : Int32) = 1 := own_elemv ea rfl Ac.1 n25
  have pt47 : atv cl (47 : Int32) = 0 := own_elemv ea rfl Ac.1 n27
  have rg48 : ∀ j : Nat, 48 ≤ j → j < 58 → atv cl j.toInt32 = 1 := fun j h1 h2 => by
    have eJ : j.toInt32.toInt = j := len_toInt (by omega)
    have q0 := Cond.all_elim ea hat n29 j (by omega)
    rcases own_orv q0 with q | q1
    · exact absurd (gotT (Cond.lt_ints rfl rfl) q) (by rw [Int32.lt_iff_toInt_lt, eJ, show (48 : Int32).toInt = 48 from rfl]; omega)
    rcases own_orv q1 with q | q2
    · exact absurd (gotT (Cond.le_ints rfl rfl) q) (by rw [Int32.le_iff_toInt_le, eJ, show (58 : Int32).toInt = 58 from rfl]; omega)
    exact own_elemv (idx := [j]) (t := (Term.static "com/example/hoardr/hoardr/http/Framing" "TOKEN_CHARACTERS" "[Z")) (u := .index 0) (show Term.eval _ _ _ [j] _ (Term.static "com/example/hoardr/hoardr/http/Framing" "TOKEN_CHARACTERS" "[Z") = _ from ea) rfl Ac.1 q2
  have rg58 : ∀ j : Nat, 58 ≤ j → j < 65 → atv cl j.toInt32 = 0 := fun j h1 h2 => by
    have eJ : j.toInt32.toInt = j := len_toInt (by omega)
    have q0 := Cond.all_elim ea hat n31 j (by omega)
    rcases own_orv q0 with q | q1
    · exact absurd (gotT (Cond.lt_ints rfl rfl) q) (by rw [Int32.lt_iff_toInt_lt, eJ, show (58 : Int32).toInt = 58 from rfl]; omega)
    rcases own_orv q1 with q | q2
    · exact absurd (gotT (Cond.le_ints rfl rfl) q) (by rw [Int32.le_iff_toInt_le, eJ, show (65 : Int32).toInt = 65 from rfl]; omega)
    exact own_elemv (idx := [j]) (t := (Term.static "com/example/hoardr/hoardr/http/Framing" "TOKEN_CHARACTERS" "[Z")) (u := .index 0) (show Term.eval _ _ _ [j] _ (Term.static "com/example/hoardr/hoardr/http/Framing" "TOKEN_CHARACTERS" "[Z") = _ from ea) rfl Ac.1 q2
  have rg65 : ∀ j : Nat, 65 ≤ j → j < 91 → atv cl j.toInt32 = 1 := fun j h1 h2 => by
    have eJ : j.toInt32.toInt = j := len_toInt (by omega)
    have q0 := Cond.all_elim ea hat n33 j (by omega)
    rcases own_orv q0 with q | q1
    · exact absurd (gotT (Cond.lt_ints rfl rfl) q) (by rw [Int32.lt_iff_toInt_lt, eJ, show (65 : Int32).toInt = 65 from rfl]; omega)
    rcases own_orv q1 with q | q2
    · exact absurd (gotT (Cond.le_ints rfl rfl) q) (by rw [Int32.le_iff_toInt_le, eJ, show (91 : Int32).toInt = 91 from rfl]; omega)
    exact own_elemv (idx := [j]) (t := (Term.static "com/example/hoardr/hoardr/http/Framing" "TOKEN_CHARACTERS" "[Z")) (u := .index 0) (show Term.eval _ _ _ [j] _ (Term.static "com/example/hoardr/hoardr/http/Framing" "TOKEN_CHARACTERS" "[Z") = _ from ea) rfl Ac.1 q2
  have pt91 : atv cl (91 : Int32) = 0 := own_elemv ea rfl Ac.1 n35
  have pt92 : atv cl (92 : Int32) = 0 := own_elemv ea rfl Ac.1 n37
  have pt93 : atv cl (93 : Int32) = 0 := own_elemv ea rfl Ac.1 n39
  have rg94 : ∀ j : Nat, 94 ≤ j → j < 123 → atv cl j.toInt32 = 1 := fun j h1 h2 => by
    have eJ : j.toInt32.toInt = j := len_toInt (by omega)
    have q0 := Cond.all_elim ea hat n41 j (by omega)
    rcases own_orv q0 with q | q1
    · exact absurd (gotT (Cond.lt_ints rfl rfl) q) (by rw [Int32.lt_iff_toInt_lt, eJ, show (94 : Int32).toInt = 94 from rfl]; omega)
    rcases own_orv q1 with q | q2
    · exact absurd (gotT (Cond.le_ints rfl rfl) q) (by rw [Int32.le_iff_toInt_le, eJ, show (123 : Int32).toInt = 123 from rfl]; omega)
    exact own_elemv (idx := [j]) (t := (Term.static "com/example/hoardr/hoardr/http/Framing" "TOKEN_CHARACTERS" "[Z")) (u := .index 0) (show Term.eval _ _ _ [j] _ (Term.static "com/example/hoardr/hoardr/http/Framing" "TOKEN_CHARACTERS" "[Z") = _ from ea) rfl Ac.1 q2
  have pt123 : atv cl (123 : Int32) = 0 := own_elemv ea rfl Ac.1 n43
  have pt124 : atv cl (124 : Int32) = 1 := own_elemv ea rfl Ac.1 n45
  have pt125 : atv cl (125 : Int32) = 0 := own_elemv ea rfl Ac.1 n47
  have pt126 : atv cl (126 : Int32) = 1 := own_elemv ea rfl Ac.1 n49
  have rg127 : ∀ j : Nat, 127 ≤ j → j < 256 → atv cl j.toInt32 = 0 := fun j h1 h2 => by
    have eJ : j.toInt32.toInt = j := len_toInt (by omega)
    have q0 := Cond.all_elim ea hat n50 j (by omega)
    rcases own_orv q0 with q | q1
    · exact absurd (gotT (Cond.lt_ints rfl rfl) q) (by rw [Int32.lt_iff_toInt_lt, eJ, show (127 : Int32).toInt = 127 from rfl]; omega)
    exact own_elemv (idx := [j]) (t := (Term.static "com/example/hoardr/hoardr/http/Framing" "TOKEN_CHARACTERS" "[Z")) (u := .index 0) (show Term.eval _ _ _ [j] _ (Term.static "com/example/hoardr/hoardr/http/Framing" "TOKEN_CHARACTERS" "[Z") = _ from ea) rfl Ac.1 q1
  have hT := own_hT (fun i => atv cl i.toInt32) rg0 pt33 pt34 rg35 pt40 pt41 pt42 pt43 pt44 pt45 pt46 pt47 rg48 rg58 rg65 pt91 pt92 pt93 rg94 pt123 pt124 pt125 pt126 rg127
  have hkT : ∀ x : Int32, atv cl (x &&& 255).toNatClampNeg.toInt32 = own_tok (x &&& 255).toNatClampNeg := fun x => hT _ (by
    have h8 := c_mask x 255 8 (by decide) (by decide)
    show (x &&& 255).toInt.toNat < 256
    omega)
  obtain ⟨n, o, h1, h2, h3, v', L, rfl, ⟨hv', N, -⟩, hq⟩ := rm0 l s _ hw tables_1 i0 i1 i2 i3 i4 i5 a_T 256 (fun i => atv cl i.toInt32) s.heap s.heap.size (Nat.le_refl _) S_T VT rfl p e ha hc hk s m _ below hf ((Spec.applies_iff_loose hf).mp happ).1 ⟨rfl, State.Warmed39.refl s, rfl⟩ trivial
  rw [own_law i0 i1 i2 i3 i4 i5 256 (fun i => atv cl i.toInt32) hkT] at hv'
  subst hv'
  refine ⟨n, _, h1, h2, h3, hpost _ _ _ _ _ _ ⟨Cond.after_iff.mpr rfl, Cond.after_iff.mpr (eq_i res_at (Term.int_eval (1)) rfl), trivial⟩ ⟨hq.1, hq.2.1, (hq.2.2.sift fun y hy => Or.inr (N y hy)).mono (by decide) (by decide)⟩⟩
theorem main_1_1 : Claimed_1_1 := comes_1 fun _ _ _ _ _ _ h hF => ⟨h.1, hF⟩
theorem main_1_2 : Claimed_1_2 := comes_1 fun _ _ _ _ _ _ h hF => ⟨h.2.1, hF⟩
end Jvm.Pilot.@@N@@
namespace Jvm.Pilot.@@N@@
open Jvm Jvm.ClassFile Sem Op Lib Jvm.Free Jvm.Stand Jvm.Pilot.@@N@@.Jvm.D
/-! MADE BY PROGRAM (witnessworld.py) out of the Statement's table words and the real class files: 11 classes; the members and pool entries that the words name. The judged class is class 1, her method 3. -/
namespace start1
open Jvm.ClassFile
def u (s : String) : CpInfo := .utf8 (stringToUtf16 s)
/-- a pool by its gaps: so many unusable entries, then the entry; so many at the end -/
def gap : Nat → List CpInfo → List CpInfo
  | 0, r => r
  | n + 1, r => .unusable :: gap n r
def poolList (es : List (Nat × CpInfo)) (last : Nat) : List CpInfo := es.foldr (fun e r => gap e.1 (e.2 :: r)) (gap last [])
def pool (es : List (Nat × CpInfo)) (last : Nat) : Array CpInfo := ⟨poolList es last⟩
def fileOf (pool : Array CpInfo) (this : Nat) (attrs : Array Attribute := #[]) (ms : Array MethodInfo := #[]) (fl : Nat := 33) (sup : Nat := 0) (ifs : Array Nat := #[]) (fds : Array FieldInfo := #[]) : ClassFile where
  minorVersion := 0
  majorVersion := 65
  constantPool := pool
  accessFlags := fl
  thisClass := this
  superClass := sup
  interfaces := ifs
  fields := fds
  methods := ms
  attributes := attrs
def plain (name : String) (sup : Option ClassId) : Class where
  name := name
  kind := .ordinary
  loader := none
  accessFlags := 33
  super := sup
  interfaces := #[]
  cf := none
  fields := #[]
  methods := #[]
  instanceTypes := #[]
  staticTypes := #[]
  resolved := #[]
  callSites := []
  init := .initialized
  statics := none
  mirror := none

def pool0 : Array CpInfo := pool [(5, u "<init>"), (0, u "()V"), (1, .class_ 10), (1, u "java/lang/Object")] 113

def k0m0 : Method := { name := "<init>", desc := "()V", sig := { parameters := [], returnType := none }, accessFlags := 1, code := none }
/-- java/lang/Object -/
def k0 : Class := { plain "java/lang/Object" none with
  accessFlags := 33
  interfaces := #[]
  cf := some (fileOf pool0 8 #[] #[{ accessFlags := 1, nameIndex := 5, descriptorIndex := 6, attributes := #[] }] 33 0 #[] #[])
  fields := #[]
  methods := #[k0m0]
  instanceTypes := #[]
  staticTypes := #[]
  resolved := Array.replicate 124 none
  statics := none }

def pool1 : Array CpInfo := pool [(2, .class_ 4), (1, u "java/lang/Object"), (0, u "<init>"), (0, u "()V"), (0, .methodref 8 9), (0, .class_ 10), (0, .nameAndType 11 12), (0, u "com/example/hoardr/hoardr/http/FramingIsTokenPinLaw"), (0, u "tchar"), (0, u "(I)Z"), (0, .integer 2147483647), (0, .methodref 8 15), (0, .nameAndType 16 17), (0, u "okAt"), (0, u "(IIIB)Z"), (0, .methodref 19 20), (0, .class_ 21), (0, .nameAndType 22 23), (0, u "com/example/hoardr/hoardr/http/Framing"), (0, u "isToken"), (0, u "([BII)Z"), (3, u "law"), (0, u "(IIIIII)Z")] 4

def k1m0 : Method := { name := "<init>", desc := "()V", sig := { parameters := [], returnType := none }, accessFlags := 2, code := none }
def k1c1 : Code := { maxStack := 2, maxLocals := 1, code := method_2_code, exceptionTable := #[], attributes := #[] }
def k1m1 : Method := { name := "tchar", desc := "(I)Z", sig := { parameters := [.int], returnType := some .boolean }, accessFlags := 10, code := some k1c1 }
def k1c2 : Code := { maxStack := 2, maxLocals := 4, code := method_3_code, exceptionTable := #[], attributes := #[] }
def k1m2 : Method := { name := "okAt", desc := "(IIIB)Z", sig := { parameters := [.int, .int, .int, .byte], returnType := some .boolean }, accessFlags := 10, code := some k1c2 }
def k1c3 : Code := { maxStack := 5, maxLocals := 11, code := code, exceptionTable := #[], attributes := #[] }
def k1m3 : Method := { name := "law", desc := "(IIIIII)Z", sig := { parameters := [.int, .int, .int, .int, .int, .int], returnType := some .boolean }, accessFlags := 9, code := some k1c3 }
/-- com/example/hoardr/hoardr/http/FramingIsTokenPinLaw -/
def k1 : Class := { plain "com/example/hoardr/hoardr/http/FramingIsTokenPinLaw" (some 0) with
  accessFlags := 49
  interfaces := #[]
  cf := some (fileOf pool1 8 #[] #[{ accessFlags := 2, nameIndex := 5, descriptorIndex := 6, attributes := #[] }, { accessFlags := 10, nameIndex := 11, descriptorIndex := 12, attributes := #[] }, { accessFlags := 10, nameIndex := 16, descriptorIndex := 17, attributes := #[] }, { accessFlags := 9, nameIndex := 27, descriptorIndex := 28, attributes := #[] }] 49 2 #[] #[])
  fields := #[]
  methods := #[k1m0, k1m1, k1m2, k1m3]
  instanceTypes := #[]
  staticTypes := #[]
  resolved := Array.replicate 33 none
  statics := none }

def pool2 : Array CpInfo := pool [(1, .class_ 2), (0, u "com/example/hoardr/hoardr/http/Framing"), (1, .class_ 6), (1, u "java/lang/Object"), (0, u "<init>"), (0, u "()V"), (0, .fieldref 1 10), (0, .nameAndType 11 12), (0, u "TOKEN_CHARACTERS"), (0, u "[Z"), (19, u "([BII)Z"), (24, u "MAX_CHUNK_SIZE_DIGITS"), (0, u "I"), (2, u "PAST_ANY_CHUNK"), (0, u "J"), (0, u "MAX_LENGTH_DIGITS"), (3, u "isToken")] 9

def k2m0 : Method := { name := "<init>", desc := "()V", sig := { parameters := [], returnType := none }, accessFlags := 2, code := none }
def k2c1 : Code := { maxStack := 3, maxLocals := 4, code := prog_49_method_2_code, exceptionTable := #[], attributes := #[] }
def k2m1 : Method := { name := "isToken", desc := "([BII)Z", sig := { parameters := [(.array .byte), .int, .int], returnType := some .boolean }, accessFlags := 8, code := some k2c1 }
/-- com/example/hoardr/hoardr/http/Framing -/
def k2 : Class := { plain "com/example/hoardr/hoardr/http/Framing" (some 0) with
  accessFlags := 48
  interfaces := #[]
  cf := some (fileOf pool2 1 #[] #[{ accessFlags := 2, nameIndex := 7, descriptorIndex := 8, attributes := #[] }, { accessFlags := 8, nameIndex := 67, descriptorIndex := 32, attributes := #[] }] 48 4 #[] #[{ accessFlags := 24, nameIndex := 57, descriptorIndex := 58, attributes := #[] }, { accessFlags := 24, nameIndex := 61, descriptorIndex := 62, attributes := #[] }, { accessFlags := 26, nameIndex := 63, descriptorIndex := 58, attributes := #[] }, { accessFlags := 26, nameIndex := 11, descriptorIndex := 12, attributes := #[] }])
  fields := #[{ name := "MAX_CHUNK_SIZE_DIGITS", type := .int, accessFlags := 24, slot := 0, constantValue := 0 }, { name := "PAST_ANY_CHUNK", type := .long, accessFlags := 24, slot := 1, constantValue := 0 }, { name := "MAX_LENGTH_DIGITS", type := .int, accessFlags := 26, slot := 2, constantValue := 0 }, { name := "TOKEN_CHARACTERS", type := (.array .boolean), accessFlags := 26, slot := 3, constantValue := 0 }]
  methods := #[k2m0, k2m1]
  instanceTypes := #[]
  staticTypes := #[.int, .long, .int, (.array .boolean)]
  resolved := Array.replicate 77 none
  statics := some 0 }

def pool3 : Array CpInfo := pool [(1, u "java/lang/Cloneable"), (0, .class_ 1), (0, u "java/lang/Object"), (0, .class_ 3)] 3

/-- java/lang/Cloneable -/
def k3 : Class := { plain "java/lang/Cloneable" (some 0) with
  accessFlags := 1537
  interfaces := #[]
  cf := some (fileOf pool3 2 #[] #[] 1537 4 #[] #[])
  fields := #[]
  methods := #[]
  instanceTypes := #[]
  staticTypes := #[]
  resolved := Array.replicate 8 none
  statics := none }

def pool4 : Array CpInfo := pool [(1, u "java/io/Serializable"), (0, .class_ 1), (0, u "java/lang/Object"), (0, .class_ 3)] 3

/-- java/io/Serializable -/
def k4 : Class := { plain "java/io/Serializable" (some 0) with
  accessFlags := 1537
  interfaces := #[]
  cf := some (fileOf pool4 2 #[] #[] 1537 4 #[] #[])
  fields := #[]
  methods := #[]
  instanceTypes := #[]
  staticTypes := #[]
  resolved := Array.replicate 8 none
  statics := none }

/-- the primitive boolean -/
def k5 : Class := { plain "boolean" none with kind := .primitive 'Z', accessFlags := 0x411 }
/-- [Z -/
def k6 : Class := { plain "[Z" (some 0) with kind := .array 5 .boolean, interfaces := #[3, 4], accessFlags := 1041 }

/-- the primitive byte -/
def k7 : Class := { plain "byte" none with kind := .primitive 'B', accessFlags := 0x411 }
/-- [B -/
def k8 : Class := { plain "[B" (some 0) with kind := .array 7 .byte, interfaces := #[3, 4], accessFlags := 1041 }

/-- the primitive int -/
def k9 : Class := { plain "int" none with kind := .primitive 'I', accessFlags := 0x411 }
/-- [I -/
def k10 : Class := { plain "[I" (some 0) with kind := .array 9 .int, interfaces := #[3, 4], accessFlags := 1041 }

def heap : Heap := #[{ cls := 2, slots := #[.int 0, .long 0, .int 0, .ref 1], vm := .statics 2 },
  { cls := 6, slots := #[.int 0, .int 0, .int 0, .int 0, .int 0, .int 0, .int 0, .int 0, .int 0, .int 0, .int 0, .int 0, .int 0, .int 0, .int 0, .int 0, .int 0, .int 0, .int 0, .int 0, .int 0, .int 0, .int 0, .int 0, .int 0, .int 0, .int 0, .int 0, .int 0, .int 0, .int 0, .int 0, .int 0, .int 1, .int 0, .int 1, .int 1, .int 1, .int 1, .int 1, .int 0, .int 0, .int 1, .int 1, .int 0, .int 1, .int 1, .int 0, .int 1, .int 1, .int 1, .int 1, .int 1, .int 1, .int 1, .int 1, .int 1, .int 1, .int 0, .int 0, .int 0, .int 0, .int 0, .int 0, .int 0, .int 1, .int 1, .int 1, .int 1, .int 1, .int 1, .int 1, .int 1, .int 1, .int 1, .int 1, .int 1, .int 1, .int 1, .int 1, .int 1, .int 1, .int 1, .int 1, .int 1, .int 1, .int 1, .int 1, .int 1, .int 1, .int 1, .int 0, .int 0, .int 0, .int 1, .int 1, .int 1, .int 1, .int 1, .int 1, .int 1, .int 1, .int 1, .int 1, .int 1, .int 1, .int 1, .int 1, .int 1, .int 1, .int 1, .int 1, .int 1, .int 1, .int 1, .int 1, .int 1, .int 1, .int 1, .int 1, .int 1, .int 1, .int 1, .int 0, .int 1, .int 0, .int 1, .int 0, .int 0, .int 0, .int 0, .int 0, .int 0, .int 0, .int 0, .int 0, .int 0, .int 0, .int 0, .int 0, .int 0, .int 0, .int 0, .int 0, .int 0, .int 0, .int 0, .int 0, .int 0, .int 0, .int 0, .int 0, .int 0, .int 0, .int 0, .int 0, .int 0, .int 0, .int 0, .int 0, .int 0, .int 0, .int 0, .int 0, .int 0, .int 0, .int 0, .int 0, .int 0, .int 0, .int 0, .int 0, .int 0, .int 0, .int 0, .int 0, .int 0, .int 0, .int 0, .int 0, .int 0, .int 0, .int 0, .int 0, .int 0, .int 0, .int 0, .int 0, .int 0, .int 0, .int 0, .int 0, .int 0, .int 0, .int 0, .int 0, .int 0, .int 0, .int 0, .int 0, .int 0, .int 0, .int 0, .int 0, .int 0, .int 0, .int 0, .int 0, .int 0, .int 0, .int 0, .int 0, .int 0, .int 0, .int 0, .int 0, .int 0, .int 0, .int 0, .int 0, .int 0, .int 0, .int 0, .int 0, .int 0, .int 0, .int 0, .int 0, .int 0, .int 0, .int 0, .int 0, .int 0, .int 0, .int 0, .int 0, .int 0, .int 0, .int 0, .int 0, .int 0, .int 0, .int 0, .int 0, .int 0, .int 0, .int 0, .int 0, .int 0, .int 0, .int 0, .int 0, .int 0, .int 0, .int 0, .int 0], vm := .none }]
def classes : Array Class := #[k0, k1, k2, k3, k4, k5, k6, k7, k8, k9, k10]
def interned : List (Array UInt16 × Addr) := []
def slotsUsed : Nat := 260
def theMethod : MethodId := ⟨1, 3⟩
def args0 : Array Value := #[.int 65, .int 66, .int 67, .int 68, .int 0, .int 3]
def aboutOver (below : List Frame) : State where
  vm := { classes := classes, interned := interned.toArray }
  heap := heap
  slotsUsed := slotsUsed
  threads := #[{ frames := .invoking theMethod args0 :: below }]
def below0 : List Frame := [.native { method := ⟨0, 0⟩, args := #[] }]
def about1 : State := aboutOver below0
def p0 : Program := .bare "" "" ""
def e0 : Env := launch0.env 0 0 0
theorem w_frames : about1.frames = Frame.invoking theMethod args0 :: below0 := rfl
set_option maxRecDepth 65536 in
theorem w_args : argsFit about1.vm theMethod args0 = true := by decide +kernel
set_option maxRecDepth 65536 in
theorem w_heap : heapFits about1 = true := by decide +kernel
set_option maxRecDepth 65536 in
theorem w_runnable : about1.curStatus? = some .runnable := by decide +kernel
set_option maxRecDepth 65536 in
theorem w_alone : about1.alone = true := by decide +kernel
set_option maxRecDepth 65536 in
theorem w_named : about1.methodNamed? x = some theMethod := by decide +kernel
set_option maxRecDepth 65536 in
theorem w_hears : about1.hears theMethod below0 = true := by decide +kernel
set_option maxRecDepth 65536 in
theorem w_ripe : about1.ripe theMethod args0 below0 = true := by decide +kernel
theorem w_running : about1.status = .running := rfl
set_option maxRecDepth 65536 in
theorem w_room : about1.hasRoom e0.platform room_1 = true :=
  launch0.hasRoom_least _ room_1 (by decide +kernel) (by decide +kernel) (by decide +kernel) (by decide +kernel) (by decide +kernel) (by decide +kernel)
theorem allAtoms_all (ts : List Jvm.Cond) (a : Array Jvm.Value) (st : Jvm.State) : (allAtoms ts).before a st = ts.all (fun c => c.before a st) := by
  induction ts with
  | nil => rfl
  | cons c t ih =>
    show (Jvm.Cond.and c (allAtoms t)).before a st = _
    rw [Jvm.Cond.before_and, ih, List.all_cons]
def words1 : List Jvm.Cond := Jvm.Cond.code x code maxLocals ret :: tables_1
/-- a 'code' word, met by the world's own term for the bytes: nothing is compared byte by byte -/
theorem code_word {y : MethodName} {bytes : ByteArray} {mx : Nat} {rt : Option FieldType} {a : Array Value} {s : State} {m : MethodId} {meth : Method} {c : Code} (h1 : s.methodNamed? y = some m) (h2 : s.vm.method? m = some meth) (h3 : meth.code = some c) (h4 : c.code = bytes)
    (h5 : (c.maxLocals == mx && c.exceptionTable.isEmpty && decide (c.maxStack ≤ mostOperands) && decide (meth.sig.returnType = rt) && !meth.locks && decide (parseMethodDescriptor y.desc = some meth.sig)) = true) : (Jvm.Cond.code y bytes mx rt).before a s = true := by
  simp only [Bool.and_eq_true, beq_iff_eq, Bool.not_eq_true', decide_eq_true_eq] at h5
  obtain ⟨⟨⟨⟨⟨g1, g2⟩, g3⟩, g4⟩, g5⟩, g6⟩ := h5
  simp [Cond.before, Cond.holds, Cond.value, h1, h2, h3, h4, g1, g2, g3, g4, g5, g6]
def isCode : Jvm.Cond → Bool
  | .code _ _ _ _ => true
  | _ => false
theorem all_split {L : List Jvm.Cond} {P : Jvm.Cond → Bool} (h1 : L.all (fun c => isCode c || P c) = true) (h2 : ∀ c ∈ L.filter isCode, P c = true) : L.all P = true := by
  refine List.all_eq_true.mpr fun c hc => ?_
  have h := List.all_eq_true.mp h1 c hc
  rcases Bool.eq_false_or_eq_true (isCode c) with hi | hi
  · exact h2 c (List.mem_filter.mpr ⟨hc, hi⟩)
  · simpa [hi] using h
set_option maxRecDepth 65536 in
theorem w_c0 : (Jvm.Cond.code x code maxLocals ret).before args0 about1 = true := code_word (m := ⟨1, 3⟩) (meth := k1m3) (c := k1c3) (by decide +kernel) rfl rfl rfl (by decide +kernel)
set_option maxRecDepth 65536 in
theorem w_c1 : (Jvm.Cond.code ({ cls := "com/example/hoardr/hoardr/http/FramingIsTokenPinLaw", name := "okAt", desc := "(IIIB)Z" } : Jvm.MethodName) method_3_code (4 : Nat) (Option.some Jvm.ClassFile.FieldType.boolean)).before args0 about1 = true := code_word (m := ⟨1, 2⟩) (meth := k1m2) (c := k1c2) (by decide +kernel) rfl rfl rfl (by decide +kernel)
set_option maxRecDepth 65536 in
theorem w_c2 : (Jvm.Cond.code ({ cls := "com/example/hoardr/hoardr/http/FramingIsTokenPinLaw", name := "tchar", desc := "(I)Z" } : Jvm.MethodName) method_2_code (1 : Nat) (Option.some Jvm.ClassFile.FieldType.boolean)).before args0 about1 = true := code_word (m := ⟨1, 1⟩) (meth := k1m1) (c := k1c1) (by decide +kernel) rfl rfl rfl (by decide +kernel)
set_option maxRecDepth 65536 in
theorem w_c3 : (Jvm.Cond.code ({ cls := "com/example/hoardr/hoardr/http/Framing", name := "isToken", desc := "([BII)Z" } : Jvm.MethodName) prog_49_method_2_code (4 : Nat) (Option.some Jvm.ClassFile.FieldType.boolean)).before args0 about1 = true := code_word (m := ⟨2, 1⟩) (meth := k2m1) (c := k2c1) (by decide +kernel) rfl rfl rfl (by decide +kernel)
def codes1 : List Jvm.Cond := [Jvm.Cond.code x code maxLocals ret, Jvm.Cond.code ({ cls := "com/example/hoardr/hoardr/http/FramingIsTokenPinLaw", name := "okAt", desc := "(IIIB)Z" } : Jvm.MethodName) method_3_code (4 : Nat) (Option.some Jvm.ClassFile.FieldType.boolean), Jvm.Cond.code ({ cls := "com/example/hoardr/hoardr/http/FramingIsTokenPinLaw", name := "tchar", desc := "(I)Z" } : Jvm.MethodName) method_2_code (1 : Nat) (Option.some Jvm.ClassFile.FieldType.boolean), Jvm.Cond.code ({ cls := "com/example/hoardr/hoardr/http/Framing", name := "isToken", desc := "([BII)Z" } : Jvm.MethodName) prog_49_method_2_code (4 : Nat) (Option.some Jvm.ClassFile.FieldType.boolean)]
set_option maxRecDepth 65536 in
theorem codes_eq : words1.filter isCode = codes1 := rfl
theorem w_codes : ∀ c ∈ words1.filter isCode, c.before args0 about1 = true := by
  rw [codes_eq]
  intro c hc
  simp only [codes1, List.mem_cons, List.not_mem_nil, or_false] at hc
  rcases hc with rfl | rfl | rfl | rfl
  · exact w_c0
  · exact w_c1
  · exact w_c2
  · exact w_c3
set_option maxRecDepth 65536 in
theorem w_t1 : words1.all (fun c => isCode c || c.before args0 about1) = true := by decide +kernel
theorem w_tables : (allAtoms (Jvm.Cond.code x code maxLocals ret :: tables_1)).before args0 about1 = true := by
  rw [allAtoms_all]
  show words1.all (fun c => c.before args0 about1) = true
  refine all_split ?_ w_codes
  rw [w_t1]
set_option maxRecDepth 65536 in
theorem w_case : (Jvm.Cond.and given_1 narrow_1).before args0 about1 = true := by decide +kernel
theorem w_applies : (headSpec (Jvm.Cond.code x code maxLocals ret :: tables_1) room_1).applies x e0.platform about1 = true :=
  (Spec.applies_iff w_frames).mpr ⟨w_running, w_runnable, w_alone, w_named, w_hears, w_ripe, w_room, w_tables⟩
theorem atStart : AtStart classFile x code maxLocals ret World_1 tables_1 room_1 Calls_1 rest_1 Pre_1 launch0 p0 e0 about1 theMethod args0 below0 :=
  ⟨lists_1, trivial, launch0.admits_env _ _ _, launch0.least_env, fairChoices_fair.cas, fairChoices_fair.clock, w_frames, w_args, w_heap, w_applies, trivial, trivial, w_case⟩
end start1
theorem witness_1 : WitnessClaimed_1 := ⟨start1.p0, start1.e0, start1.about1, start1.theMethod, start1.args0, start1.below0, start1.atStart⟩
end Jvm.Pilot.@@N@@
