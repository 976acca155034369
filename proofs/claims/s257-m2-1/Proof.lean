import JvmDerived
import JvmDerived.Pilot.@@N@@Statement
import JvmDerived.Pilot.@@N@@Code
set_option linter.unusedVariables false
set_option linter.unusedSimpArgs false
namespace Jvm.RoadKit
open Sem ClassFile Op Lib Jvm.Stand Jvm.Free Jvm.LawKit
def IAr (Z : State) (h : Heap) (a : Addr) (ty : FieldType) (n : Int32) (f : Nat → Int32) : Prop := ∃ c : Cell, Arr Z h a c ty ∧ c.slots.size = n.toNatClampNeg ∧ ¬ n < 0 ∧ ∀ i, i < c.slots.size → c.slots[i]? = some (.int (f i))
def ownU (f : Nat → Int32) (j : Nat) (v : Int32) : Nat → Int32 := fun i => if i = j then v else f i
section
variable {Z : State} {h h' : Heap} {a b : Addr} {ty : FieldType} {n : Int32} {f : Nat → Int32} {sl : Nat} {v : Value} {ws : List Addr}
theorem IAr.lt (F : IAr Z h a ty n f) : a < h.size := by obtain ⟨c, A, -⟩ := F; exact A.lt
theorem IAr.ext (F : IAr Z h a ty n f) (E : Ext h h') : IAr Z h' a ty n f := by obtain ⟨c, A, r⟩ := F; exact ⟨c, A.ext E, r⟩
theorem IAr.other (F : IAr Z h b ty n f) (W : Wr h h' a sl v) (q : b ≠ a) : IAr Z h' b ty n f := by obtain ⟨c, A, r⟩ := F; exact ⟨c, A.other W q, r⟩
theorem IAr.keep (F : IAr Z h a ty n f) (K : Keep h h' ws) (q : a ∉ ws) : IAr Z h' a ty n f := by obtain ⟨c, A, r⟩ := F; exact ⟨c, ⟨K.2.1 a c A.1 q, A.2⟩, r⟩
theorem IAr.nn (F : IAr Z h a ty n f) : ¬ n < 0 := by obtain ⟨c, A, S, q, r⟩ := F; exact q
theorem IAr.new {k : ClassId} {z : Int32} (A : Arr Z h a (newA k ty z) ty) (q : ¬ z < 0) (hd : defaultValue ty = .int 0) : IAr Z h a ty z (fun _ => 0) := by
  obtain ⟨c, A', -, S, q', H, -⟩ := Arv.new A q
  exact ⟨c, A', S, q', fun i hi => by have h1 := H i hi; rw [hd] at h1; simpa using h1⟩
theorem IAr.set {j : Nat} {x : Int32} (F : IAr Z h a ty n f) (W : Wr h h' a j (.int x)) : IAr Z h' a ty n (ownU f j x) := by
  obtain ⟨c, A, S, q, H⟩ := F
  refine ⟨c.setSlot j (.int x), A.same W, ?_, q, fun i hi => ?_⟩
  · simpa [Cell.setSlot] using S
  · have hi' : i < c.slots.size := by simpa [Cell.setSlot] using hi
    show (c.slots.setIfInBounds j (.int x))[i]? = some (.int (if i = j then x else f i))
    by_cases e : i = j
    · subst e
      rw [if_pos rfl, Array.getElem?_setIfInBounds_self_of_lt hi']
    · rw [if_neg e, Array.getElem?_setIfInBounds_ne (Ne.symm e)]
      exact H i hi'
end
section New
variable {p : Program} {l : Launch} {e : Env} {R : Room} {s : State} {m : MethodId} {args : Array Value} {below : List Frame} {meth : Method} {c : Code} {T : State} {locs : List Loc} {cells slots : Nat}
theorem retI (X : Stand p l e R s m args below meth c T locs cells slots) (hx : p.tables.exec = Jvm.exec) {pc : Nat} {Ls : Array Slot} {z : Int32} {rest : List Value} (hret : meth.sig.returnType = some .int) (hd : decode c.code pc = .ok (.ireturn, 1)) {fs : List Frame}
    (hl : ∀ (f : JFrame) (acts : List Action), f.method = m → f.locked = none → f.entered = [] → (doReturn e (T.setTop f) acts (some (.int z))).1 = T.setFrames fs) : Steps p.tables e below (T.setTop (mkF m pc Ls (.int z :: rest))) (T.setFrames fs) := by
  have hm' : T.vm.method? m = some meth := X.method'
  have hn : narrow .int (.int z) = .int z := rfl
  show Steps p.tables e below (T.setTop { method := m, pc := pc, locals := Ls, stack := _ :: rest, locked := none }) _
  jvm_step X.here [X.here.top, hx, hd, hm', hret, hn]
  first | (intro acts; rw [hl _ acts rfl rfl rfl]) | rw [hl _ _ rfl rfl rfl]
  exact Steps.refl _
theorem ldB {Z : State} {h : Heap} (X : Stand p l e R s m args below meth c T locs cells slots) (hx : p.tables.exec = Jvm.exec) (hZ : Z.Warmed39 s.vm) (eT : T.heap = h) {a : Addr} {n : Int32} {f : Nat → Int32} (F : IAr Z h a .byte n f) {j : Int32} (hj : ¬ j < 0 ∧ j < n) {g : JFrame} (hg : g.method = m) {rest : List Value} (hs : g.stack = .int j :: .ref a :: rest) (hd : decode c.code g.pc = .ok (.baload, 1)) {target : State}
    (hr : Steps p.tables e below (T.setTop { g with pc := g.pc + 1, stack := .int (f j.toNatClampNeg) :: rest }) target) : Steps p.tables e below (T.setTop g) target := by
  obtain ⟨cl, A, S, q, H⟩ := F
  exact X.baloadBytes hx (by rw [eT]; exact A.1) (State.isArrayOf_alike hZ.alike A.2.1) A.2.2 (inb_of S hj) (H _ (Nat.lt_of_not_le fun y => inb_of S hj (Or.inr y))) hg hs hd _ hr
theorem sB {Z : State} {h : Heap} (X : Stand p l e R s m args below meth c T locs cells slots) (hx : p.tables.exec = Jvm.exec) (hZ : Z.Warmed39 s.vm) (eT : T.heap = h) {a : Addr} {n : Int32} {f : Nat → Int32} (F : IAr Z h a .byte n f) {j : Int32} {x : Int32} (hj : ¬ j < 0 ∧ j < n) {g : JFrame} (hg : g.method = m) {rest : List Value} (hs : g.stack = .int x :: .int j :: .ref a :: rest) (hd : decode c.code g.pc = .ok (.bastore, 1)) :
    ∃ T' h', Stand p l e R s m args below meth c T' (locs ++ [⟨a, j.toNatClampNeg⟩]) cells slots ∧ T'.heap = h' ∧ Wr h h' a j.toNatClampNeg (.int (nar .byte x)) ∧ IAr Z h' a .byte n (ownU f j.toNatClampNeg (nar .byte x)) ∧ ∀ target, Steps p.tables e below (T'.setTop { g with pc := g.pc + 1, stack := rest }) target → Steps p.tables e below (T.setTop g) target := by
  have F' := F
  obtain ⟨cl, A, S, q, H⟩ := F
  obtain ⟨T', h', X', e', W', st'⟩ := stB X hx hZ eT A (inb_of S hj) hg hs hd
  exact ⟨T', h', X', e', W', F'.set W', st'⟩
theorem alen {Z : State} {h : Heap} (X : Stand p l e R s m args below meth c T locs cells slots) (hx : p.tables.exec = Jvm.exec) (hZ : Z.Warmed39 s.vm) (eT : T.heap = h) {a : Addr} {ty : FieldType} {n : Int32} {f : Nat → Int32} (F : IAr Z h a ty n f) {g : JFrame} (hg : g.method = m) {rest : List Value} (hs : g.stack = .ref a :: rest) (hd : decode c.code g.pc = .ok (.arraylength, 1)) {target : State}
    (hr : Steps p.tables e below (T.setTop { g with pc := g.pc + 1, stack := .int n :: rest }) target) : Steps p.tables e below (T.setTop g) target := by
  obtain ⟨cl, A, S, q, H⟩ := F
  refine X.arraylength hx (by rw [eT]; exact A.1) (State.isArrayOf_alike hZ.alike A.2.1) hg hs hd _ ?_
  rw [len_of S q]
  exact hr
end New
end Jvm.RoadKit
namespace Jvm.Pilot.@@N@@
open Jvm Jvm.ClassFile Sem Op Lib Jvm.Free Jvm.Stand Jvm.LawKit Jvm.RoadKit Bundle Jvm.Pilot.@@N@@.Jvm.D
theorem own_rem (x y : Int32) : x - (x / y) * y = x % y := by
  apply Int32.toInt_inj.mp
  have h1 := Int32.le_toInt (x % y)
  have h2 := Int32.toInt_lt (x % y)
  rw [Int32.toInt_sub, Int32.toInt_mul, Int32.toInt_div, Int.bmod_mul_bmod, Int.sub_bmod_bmod, Int.mul_comm (x.toInt.tdiv y.toInt), ← Int.tmod_def, ← Int32.toInt_mod]
  exact Int.bmod_eq_of_le_mul_two (by omega) (by omega)
theorem own_nat (x : Int32) : (x.toBitVec.toNat : Int) = x.toInt % 4294967296 := by
  have h := x.toBitVec.isLt
  show _ = x.toBitVec.toInt % 4294967296
  rw [BitVec.toInt_eq_toNat_cond]; split <;> omega
theorem own_mask (x m : Int32) (k : Nat) (hm : m.toBitVec.toNat = 2 ^ k - 1) : (x &&& m).toBitVec.toNat = x.toBitVec.toNat % 2 ^ k := by
  show (x.toBitVec &&& m.toBitVec).toNat = _
  rw [BitVec.toNat_and, hm, Nat.and_two_pow_sub_one_eq_mod]
theorem own_add (x y : Int32) (h1 : -100 ≤ x.toInt ∧ x.toInt ≤ 100) (h2 : -100 ≤ y.toInt ∧ y.toInt ≤ 100) : (x + y).toInt = x.toInt + y.toInt := by
  have a := c_iadd x y; have r := rng32 (x + y); omega
def own_sz (pr cr : Int32) : Int32 := if pr = 0 then 0 else if cr = 0 then 1 else 2
theorem own_szr (pr cr : Int32) : 0 ≤ (own_sz pr cr).toInt ∧ (own_sz pr cr).toInt ≤ 2 := by
  unfold own_sz
  split
  · decide
  · split <;> decide
theorem own_pq (a pr cr Z : Int32) (h : 0 ≤ a.toInt ∧ a.toInt + (own_sz pr cr).toInt ≤ Z.toInt ∧ Z.toInt ≤ 13) : (¬ pr = 0 → ¬ a < 0 ∧ a < Z) ∧ (¬ pr = 0 → ¬ cr = 0 → ¬ (a + 1) < 0 ∧ (a + 1) < Z) := by
  have e0 : (0 : Int32).toInt = 0 := rfl
  have e1 : (1 : Int32).toInt = 1 := rfl
  have e2 : (2 : Int32).toInt = 2 := rfl
  have r := own_szr pr cr
  have q := own_add a 1 (by omega) (by omega)
  simp only [Int32.lt_iff_toInt_lt]
  constructor
  · intro h1
    have w : 1 ≤ (own_sz pr cr).toInt := by
      unfold own_sz; rw [if_neg h1]; split <;> decide
    omega
  · intro h1 h2
    have w : (own_sz pr cr).toInt = 2 := by
      unfold own_sz; rw [if_neg h1, if_neg h2]; rfl
    omega
theorem own_i1 {p2 p3 z : Int32} (h : 0 ≤ p2.toInt ∧ p2.toInt ≤ z.toInt ∧ p3.toInt ≤ z.toInt ∧ z.toInt ≤ 13) (h1 : p2 < p3) : ¬ p2 < 0 ∧ p2 < z := by
  simp only [Int32.lt_iff_toInt_lt, show (0 : Int32).toInt = 0 from rfl] at h1 ⊢
  omega
theorem own_i2 {p2 p3 z : Int32} (h : 0 ≤ p2.toInt ∧ p2.toInt ≤ z.toInt ∧ p3.toInt ≤ z.toInt ∧ z.toInt ≤ 13) (h1 : (p2 + 1) < p3) : ¬ p2 < 0 ∧ p2 < z := by
  have e1 : (1 : Int32).toInt = 1 := rfl
  have q := own_add p2 1 (by omega) (by omega)
  simp only [Int32.lt_iff_toInt_lt, show (0 : Int32).toInt = 0 from rfl] at h1 ⊢
  omega
theorem own_i3 {p2 p3 z : Int32} (h : 0 ≤ p2.toInt ∧ p2.toInt ≤ z.toInt ∧ p3.toInt ≤ z.toInt ∧ z.toInt ≤ 13) (h1 : (p2 + 1) < p3) : ¬ (p2 + 1) < 0 ∧ (p2 + 1) < z := by
  have e1 : (1 : Int32).toInt = 1 := rfl
  have q := own_add p2 1 (by omega) (by omega)
  simp only [Int32.lt_iff_toInt_lt, show (0 : Int32).toInt = 0 from rfl] at h1 ⊢
  omega
theorem own_n1 {p2 p3 z i : Int32} {k : Nat} (hI : 0 ≤ p2.toInt ∧ p2.toInt ≤ i.toInt ∧ i.toInt ≤ p2.toInt + 5 ∧ p2.toInt + 5 ≤ z.toInt ∧ z.toInt ≤ 13 ∧ p2.toInt + 5 - i.toInt < ((k + 1 : Nat) : Int)) (hp : p3 = 5) (h : i < p2 + p3) : ¬ i < 0 ∧ i < z := by
  subst hp
  have e5 : (5 : Int32).toInt = 5 := rfl
  have q := own_add p2 5 (by omega) (by omega)
  simp only [Int32.lt_iff_toInt_lt, show (0 : Int32).toInt = 0 from rfl] at h ⊢
  omega
theorem own_n2 {p2 p3 z i : Int32} {k : Nat} (hI : 0 ≤ p2.toInt ∧ p2.toInt ≤ i.toInt ∧ i.toInt ≤ p2.toInt + 5 ∧ p2.toInt + 5 ≤ z.toInt ∧ z.toInt ≤ 13 ∧ p2.toInt + 5 - i.toInt < ((k + 1 : Nat) : Int)) (hp : p3 = 5) (h : i < p2 + p3) : 0 ≤ p2.toInt ∧ p2.toInt ≤ (i + 1).toInt ∧ (i + 1).toInt ≤ p2.toInt + 5 ∧ p2.toInt + 5 ≤ z.toInt ∧ z.toInt ≤ 13 ∧ p2.toInt + 5 - (i + 1).toInt < (k : Int) := by
  subst hp
  have e5 : (5 : Int32).toInt = 5 := rfl
  have e1 : (1 : Int32).toInt = 1 := rfl
  have q := own_add p2 5 (by omega) (by omega)
  have q1 := own_add i 1 (by omega) (by omega)
  simp only [Int32.lt_iff_toInt_lt] at h
  omega
theorem own_n3 {p2 z : Int32} (h : 0 ≤ p2.toInt ∧ p2.toInt + 5 ≤ z.toInt ∧ z.toInt ≤ 13) : 0 ≤ p2.toInt ∧ p2.toInt ≤ p2.toInt ∧ p2.toInt ≤ p2.toInt + 5 ∧ p2.toInt + 5 ≤ z.toInt ∧ z.toInt ≤ 13 ∧ p2.toInt + 5 - p2.toInt < ((6 : Nat) : Int) := by omega
theorem pn_0 : plainName "com/example/titlepoint/titlepoint/Iso2709ReaderBeginsWithRecordLengthPinLaw" = true := by first | (simp [plainName, overriddenIn]; done) | decide +kernel
theorem d1_0 : decode method_3_code 0 = .ok (.lload_n 0, 1) := by decide +kernel
theorem d1_1 : decode method_3_code 1 = .ok (.iconst 4, 1) := by decide +kernel
theorem d1_2 : decode method_3_code 2 = .ok (.iload 4, 2) := by decide +kernel
theorem d1_4 : decode method_3_code 4 = .ok (.imul, 1) := by decide +kernel
theorem d1_5 : decode method_3_code 5 = .ok (.lushr, 1) := by decide +kernel
theorem d1_6 : decode method_3_code 6 = .ok (.ldc2_w 31, 3) := by decide +kernel
theorem d1_9 : decode method_3_code 9 = .ok (.land, 1) := by decide +kernel
theorem d1_10 : decode method_3_code 10 = .ok (.l2i, 1) := by decide +kernel
theorem d1_11 : decode method_3_code 11 = .ok (.istore 5, 2) := by decide +kernel
theorem d1_13 : decode method_3_code 13 = .ok (.lload_n 2, 1) := by decide +kernel
theorem d1_14 : decode method_3_code 14 = .ok (.bipush 8, 2) := by decide +kernel
theorem d1_16 : decode method_3_code 16 = .ok (.iload 4, 2) := by decide +kernel
theorem d1_18 : decode method_3_code 18 = .ok (.imul, 1) := by decide +kernel
theorem d1_19 : decode method_3_code 19 = .ok (.lushr, 1) := by decide +kernel
theorem d1_20 : decode method_3_code 20 = .ok (.ldc2_w 33, 3) := by decide +kernel
theorem d1_23 : decode method_3_code 23 = .ok (.land, 1) := by decide +kernel
theorem d1_24 : decode method_3_code 24 = .ok (.l2i, 1) := by decide +kernel
theorem d1_25 : decode method_3_code 25 = .ok (.istore 6, 2) := by decide +kernel
theorem d1_27 : decode method_3_code 27 = .ok (.iload 5, 2) := by decide +kernel
theorem d1_29 : decode method_3_code 29 = .ok (.bipush 9, 2) := by decide +kernel
theorem d1_31 : decode method_3_code 31 = .ok (.if_icmp .gt 13, 3) := by decide +kernel
theorem d1_34 : decode method_3_code 34 = .ok (.bipush 48, 2) := by decide +kernel
theorem d1_36 : decode method_3_code 36 = .ok (.iload 6, 2) := by decide +kernel
theorem d1_38 : decode method_3_code 38 = .ok (.bipush 10, 2) := by decide +kernel
theorem d1_40 : decode method_3_code 40 = .ok (.irem, 1) := by decide +kernel
theorem d1_41 : decode method_3_code 41 = .ok (.iadd, 1) := by decide +kernel
theorem d1_42 : decode method_3_code 42 = .ok (.i2b, 1) := by decide +kernel
theorem d1_43 : decode method_3_code 43 = .ok (.ireturn, 1) := by decide +kernel
theorem d1_44 : decode method_3_code 44 = .ok (.iload 5, 2) := by decide +kernel
theorem d1_46 : decode method_3_code 46 = .ok (.bipush 10, 2) := by decide +kernel
theorem d1_48 : decode method_3_code 48 = .ok (.if_icmp .ne 6, 3) := by decide +kernel
theorem d1_51 : decode method_3_code 51 = .ok (.bipush 47, 2) := by decide +kernel
theorem d1_53 : decode method_3_code 53 = .ok (.ireturn, 1) := by decide +kernel
theorem d1_54 : decode method_3_code 54 = .ok (.iload 5, 2) := by decide +kernel
theorem d1_56 : decode method_3_code 56 = .ok (.bipush 11, 2) := by decide +kernel
theorem d1_58 : decode method_3_code 58 = .ok (.if_icmp .ne 6, 3) := by decide +kernel
theorem d1_61 : decode method_3_code 61 = .ok (.bipush 58, 2) := by decide +kernel
theorem d1_63 : decode method_3_code 63 = .ok (.ireturn, 1) := by decide +kernel
theorem d1_64 : decode method_3_code 64 = .ok (.iload 5, 2) := by decide +kernel
theorem d1_66 : decode method_3_code 66 = .ok (.bipush 12, 2) := by decide +kernel
theorem d1_68 : decode method_3_code 68 = .ok (.if_icmp .ne 6, 3) := by decide +kernel
theorem d1_71 : decode method_3_code 71 = .ok (.bipush 10, 2) := by decide +kernel
theorem d1_73 : decode method_3_code 73 = .ok (.ireturn, 1) := by decide +kernel
theorem d1_74 : decode method_3_code 74 = .ok (.iload 5, 2) := by decide +kernel
theorem d1_76 : decode method_3_code 76 = .ok (.bipush 13, 2) := by decide +kernel
theorem d1_78 : decode method_3_code 78 = .ok (.if_icmp .ne 6, 3) := by decide +kernel
theorem d1_81 : decode method_3_code 81 = .ok (.bipush 13, 2) := by decide +kernel
theorem d1_83 : decode method_3_code 83 = .ok (.ireturn, 1) := by decide +kernel
theorem d1_84 : decode method_3_code 84 = .ok (.iload 6, 2) := by decide +kernel
theorem d1_86 : decode method_3_code 86 = .ok (.i2b, 1) := by decide +kernel
theorem d1_87 : decode method_3_code 87 = .ok (.ireturn, 1) := by decide +kernel
theorem ef_1 (m : MethodId) (x0 : Int64) (x1 : Int64) (x2 : Int32) : entryFrame m #[(.long x0), (.long x1), (.int x2)] 7 = mkF m 0 #[.val (.long x0), .second, .val (.long x1), .second, .val (.int x2), .unset, .unset] [] := by first | (simp [entryFrame, mkF, argsToLocals, Value.category]; done) | rfl
def f1_v11 (q1 : Int64) (p3 : Int32) : Int32 := ((((q1.toUInt64 >>> (((4 : Int32) * p3) &&& 0x3f).toInt64.toUInt64).toInt64) &&& (15 : Int64)).toInt32)
def f1_v25 (q2 : Int64) (p3 : Int32) : Int32 := ((((q2.toUInt64 >>> (((8 : Int32) * p3) &&& 0x3f).toInt64.toUInt64).toInt64) &&& (255 : Int64)).toInt32)
def f1_v40 (q2 : Int64) (p3 : Int32) : Int32 := ((f1_v25 q2 p3) - ((f1_v25 q2 p3) / (10 : Int32)) * (10 : Int32))
def f1 (q1 : Int64) (q2 : Int64) (p3 : Int32) : Int32 := (if (9 : Int32) < (f1_v11 q1 p3) then (if (f1_v11 q1 p3) = (10 : Int32) then (nar .byte (47 : Int32)) else (if (f1_v11 q1 p3) = (11 : Int32) then (nar .byte (58 : Int32)) else (if (f1_v11 q1 p3) = (12 : Int32) then (nar .byte (10 : Int32)) else (if (f1_v11 q1 p3) = (13 : Int32) then (nar .byte (13 : Int32)) else (nar .byte ((f1_v25 q2 p3).toInt8.toInt32)))))) else (nar .byte (((48 : Int32) + (f1_v40 q2 p3)).toInt8.toInt32)))
def Q1 (Z : State) (q1 : Int64) (q2 : Int64) (p3 : Int32) (h0 : Heap) (n0 : Nat) (v : Option Value) (h : Heap) (L : List Loc) : Prop := v = some (.int (f1 q1 q2 p3)) ∧ Fr n0 L ∧ h = h0
set_option maxRecDepth 65536 in
set_option maxHeartbeats 40000000 in
theorem rm1 (l : Launch) (Z : State) (a0 : Array Value) (hw : ∀ d ∈ tables_1, d.before a0 Z = true) (ws : List Jvm.Cond) (q1 : Int64) (q2 : Int64) (p3 : Int32) (h0 : Heap) (n0 : Nat) (Z0 : n0 ≤ h0.size) :
    MetFree l (⟨"com/example/titlepoint/titlepoint/Iso2709ReaderBeginsWithRecordLengthPinLaw", "pick", "(JJI)B"⟩ : MethodName) (head1 (Jvm.Cond.code (⟨"com/example/titlepoint/titlepoint/Iso2709ReaderBeginsWithRecordLengthPinLaw", "pick", "(JJI)B"⟩ : MethodName) method_3_code 7 (some .byte) :: ws) ({ frames := 0, cells := 0, slots := 0, locals := 0 } : Room)) (fun a U => a = #[(.long q1), (.long q2), (.int p3)] ∧ Z.Warmed39 U.vm ∧ U.heap = h0) (fun _ _ _ _ _ => True) (fun _ U o U' => ∃ v L, o = .returned v ∧ Q1 Z q1 q2 p3 h0 n0 v U'.heap L ∧ FrameEnd U o U' L ({ frames := 0, cells := 0, slots := 0, locals := 0 } : Room).cells ({ frames := 0, cells := 0, slots := 0, locals := 0 } : Room).slots) := by
  refine MetFree.of_bodySF (plainFor_of_name pn_0) hisR ?_
  intro p e s m args below meth c s₁ Bd hml0 hP hK
  obtain ⟨rfl, hZ, hh⟩ := hP
  have hx := Bd.exec
  have hby := Bd.bytes
  have hml : c.maxLocals = 7 := hml0
  have hown : s.vm.findClass "com/example/titlepoint/titlepoint/Iso2709ReaderBeginsWithRecordLengthPinLaw" = some m.cls := findClass_of_methodNamed Bd.named
  have hnm := (name_of_methodNamed Bd.named Bd.method).1
  have X0 : Stand p l e ({ frames := 0, cells := 0, slots := 0, locals := 0 } : Room) s m #[(.long q1), (.long q2), (.int p3)] below meth c s₁ [] 0 0 := Stand.of_body Bd
  have e0 : s₁.heap = h0 := by rw [← hh, Bd.state]; rfl
  have N0 := Fr.nil n0
  have pre0 : ∀ t, Steps p.tables e below (s₁.setTop (mkF m 0 #[.val (.long q1), .second, .val (.long q2), .second, .val (.int p3), .unset, .unset] [])) t → Steps p.tables e below (s₁.setTop (entryFrame m #[(.long q1), (.long q2), (.int p3)] 7)) t := fun t k => castTop (ef_1 m q1 q2 p3) k
  have pre1 : ∀ t, Steps p.tables e below (s₁.setTop (mkF m 31 #[.val (.long q1), .second, .val (.long q2), .second, .val (.int p3), .val (.int (f1_v11 q1 p3)), .val (.int (f1_v25 q2 p3))] [(.int (9 : Int32)), (.int (f1_v11 q1 p3))])) t → Steps p.tables e below (s₁.setTop (entryFrame m #[(.long q1), (.long q2), (.int p3)] 7)) t := by
    intro t k
    refine pre0 t ?_
    show Steps p.tables e below (s₁.setTop (mkF m 0 #[.val (.long q1), .second, .val (.long q2), .second, .val (.int p3), .unset, .unset] [])) _
    refine XS.lloadN X0.here hx rfl (hb hby d1_0) rfl ?_
    show Steps p.tables e below (s₁.setTop (mkF m 1 #[.val (.long q1), .second, .val (.long q2), .second, .val (.int p3), .unset, .unset] [(.long q1)])) _
    refine XS.iconst X0.here hx rfl (hb hby d1_1) ?_
    show Steps p.tables e below (s₁.setTop (mkF m 2 #[.val (.long q1), .second, .val (.long q2), .second, .val (.int p3), .unset, .unset] [(.int (4 : Int32)), (.long q1)])) _
    refine XS.iload X0.here hx rfl (hb hby d1_2) rfl ?_
    show Steps p.tables e below (s₁.setTop (mkF m 4 #[.val (.long q1), .second, .val (.long q2), .second, .val (.int p3), .unset, .unset] [(.int p3), (.int (4 : Int32)), (.long q1)])) _
    refine XS.imul X0.here hx rfl (hb hby d1_4) rfl ?_
    show Steps p.tables e below (s₁.setTop (mkF m 5 #[.val (.long q1), .second, .val (.long q2), .second, .val (.int p3), .unset, .unset] [(.int ((4 : Int32) * p3)), (.long q1)])) _
    refine XS.lushr X0.here hx rfl (hb hby d1_5) rfl ?_
    show Steps p.tables e below (s₁.setTop (mkF m 6 #[.val (.long q1), .second, .val (.long q2), .second, .val (.int p3), .unset, .unset] [(.long ((q1.toUInt64 >>> (((4 : Int32) * p3) &&& 0x3f).toInt64.toUInt64).toInt64))])) _
    refine X0.ldc2Long hx hown (mvT hZ (hw _ (List.mem_of_getElem? (i := 4) rfl))) (g := (mkF m 6 #[.val (.long q1), .second, .val (.long q2), .second, .val (.int p3), .unset, .unset] [(.long ((q1.toUInt64 >>> (((4 : Int32) * p3) &&& 0x3f).toInt64.toUInt64).toInt64))])) rfl (hb hby d1_6) _ ?_
    show Steps p.tables e below (s₁.setTop (mkF m 9 #[.val (.long q1), .second, .val (.long q2), .second, .val (.int p3), .unset, .unset] [(.long (15 : Int64)), (.long ((q1.toUInt64 >>> (((4 : Int32) * p3) &&& 0x3f).toInt64.toUInt64).toInt64))])) _
    refine XS.land X0.here hx rfl (hb hby d1_9) rfl ?_
    show Steps p.tables e below (s₁.setTop (mkF m 10 #[.val (.long q1), .second, .val (.long q2), .second, .val (.int p3), .unset, .unset] [(.long (((q1.toUInt64 >>> (((4 : Int32) * p3) &&& 0x3f).toInt64.toUInt64).toInt64) &&& (15 : Int64)))])) _
    refine XS.l2i X0.here hx rfl (hb hby d1_10) rfl ?_
    show Steps p.tables e below (s₁.setTop (mkF m 11 #[.val (.long q1), .second, .val (.long q2), .second, .val (.int p3), .unset, .unset] [(.int ((((q1.toUInt64 >>> (((4 : Int32) * p3) &&& 0x3f).toInt64.toUInt64).toInt64) &&& (15 : Int64)).toInt32))])) _
    refine XS.istore X0.here hx rfl (hb hby d1_11) rfl (l' := #[.val (.long q1), .second, .val (.long q2), .second, .val (.int p3), .val (.int (f1_v11 q1 p3)), .unset]) rfl ?_
    show Steps p.tables e below (s₁.setTop (mkF m 13 #[.val (.long q1), .second, .val (.long q2), .second, .val (.int p3), .val (.int (f1_v11 q1 p3)), .unset] [])) _
    refine XS.lloadN X0.here hx rfl (hb hby d1_13) rfl ?_
    show Steps p.tables e below (s₁.setTop (mkF m 14 #[.val (.long q1), .second, .val (.long q2), .second, .val (.int p3), .val (.int (f1_v11 q1 p3)), .unset] [(.long q2)])) _
    refine XS.bipush X0.here hx rfl (hb hby d1_14) ?_
    show Steps p.tables e below (s₁.setTop (mkF m 16 #[.val (.long q1), .second, .val (.long q2), .second, .val (.int p3), .val (.int (f1_v11 q1 p3)), .unset] [(.int (8 : Int32)), (.long q2)])) _
    refine XS.iload X0.here hx rfl (hb hby d1_16) rfl ?_
    show Steps p.tables e below (s₁.setTop (mkF m 18 #[.val (.long q1), .second, .val (.long q2), .second, .val (.int p3), .val (.int (f1_v11 q1 p3)), .unset] [(.int p3), (.int (8 : Int32)), (.long q2)])) _
    refine XS.imul X0.here hx rfl (hb hby d1_18) rfl ?_
    show Steps p.tables e below (s₁.setTop (mkF m 19 #[.val (.long q1), .second, .val (.long q2), .second, .val (.int p3), .val (.int (f1_v11 q1 p3)), .unset] [(.int ((8 : Int32) * p3)), (.long q2)])) _
    refine XS.lushr X0.here hx rfl (hb hby d1_19) rfl ?_
    show Steps p.tables e below (s₁.setTop (mkF m 20 #[.val (.long q1), .second, .val (.long q2), .second, .val (.int p3), .val (.int (f1_v11 q1 p3)), .unset] [(.long ((q2.toUInt64 >>> (((8 : Int32) * p3) &&& 0x3f).toInt64.toUInt64).toInt64))])) _
    refine X0.ldc2Long hx hown (mvT hZ (hw _ (List.mem_of_getElem? (i := 5) rfl))) (g := (mkF m 20 #[.val (.long q1), .second, .val (.long q2), .second, .val (.int p3), .val (.int (f1_v11 q1 p3)), .unset] [(.long ((q2.toUInt64 >>> (((8 : Int32) * p3) &&& 0x3f).toInt64.toUInt64).toInt64))])) rfl (hb hby d1_20) _ ?_
    show Steps p.tables e below (s₁.setTop (mkF m 23 #[.val (.long q1), .second, .val (.long q2), .second, .val (.int p3), .val (.int (f1_v11 q1 p3)), .unset] [(.long (255 : Int64)), (.long ((q2.toUInt64 >>> (((8 : Int32) * p3) &&& 0x3f).toInt64.toUInt64).toInt64))])) _
    refine XS.land X0.here hx rfl (hb hby d1_23) rfl ?_
    show Steps p.tables e below (s₁.setTop (mkF m 24 #[.val (.long q1), .second, .val (.long q2), .second, .val (.int p3), .val (.int (f1_v11 q1 p3)), .unset] [(.long (((q2.toUInt64 >>> (((8 : Int32) * p3) &&& 0x3f).toInt64.toUInt64).toInt64) &&& (255 : Int64)))])) _
    refine XS.l2i X0.here hx rfl (hb hby d1_24) rfl ?_
    show Steps p.tables e below (s₁.setTop (mkF m 25 #[.val (.long q1), .second, .val (.long q2), .second, .val (.int p3), .val (.int (f1_v11 q1 p3)), .unset] [(.int ((((q2.toUInt64 >>> (((8 : Int32) * p3) &&& 0x3f).toInt64.toUInt64).toInt64) &&& (255 : Int64)).toInt32))])) _
    refine XS.istore X0.here hx rfl (hb hby d1_25) rfl (l' := #[.val (.long q1), .second, .val (.long q2), .second, .val (.int p3), .val (.int (f1_v11 q1 p3)), .val (.int (f1_v25 q2 p3))]) rfl ?_
    show Steps p.tables e below (s₁.setTop (mkF m 27 #[.val (.long q1), .second, .val (.long q2), .second, .val (.int p3), .val (.int (f1_v11 q1 p3)), .val (.int (f1_v25 q2 p3))] [])) _
    refine XS.iload X0.here hx rfl (hb hby d1_27) rfl ?_
    show Steps p.tables e below (s₁.setTop (mkF m 29 #[.val (.long q1), .second, .val (.long q2), .second, .val (.int p3), .val (.int (f1_v11 q1 p3)), .val (.int (f1_v25 q2 p3))] [(.int (f1_v11 q1 p3))])) _
    refine XS.bipush X0.here hx rfl (hb hby d1_29) ?_
    exact k
  by_cases hc31 : (9 : Int32) < (f1_v11 q1 p3)
  · have pre2 : ∀ t, Steps p.tables e below (s₁.setTop (mkF m 48 #[.val (.long q1), .second, .val (.long q2), .second, .val (.int p3), .val (.int (f1_v11 q1 p3)), .val (.int (f1_v25 q2 p3))] [(.int (10 : Int32)), (.int (f1_v11 q1 p3))])) t → Steps p.tables e below (s₁.setTop (entryFrame m #[(.long q1), (.long q2), (.int p3)] 7)) t := by
      intro t k
      refine pre1 t ?_
      show Steps p.tables e below (s₁.setTop (mkF m 31 #[.val (.long q1), .second, .val (.long q2), .second, .val (.int p3), .val (.int (f1_v11 q1 p3)), .val (.int (f1_v25 q2 p3))] [(.int (9 : Int32)), (.int (f1_v11 q1 p3))])) _
      refine XS.icmpYes X0.here hx rfl (pc0 := 31) (pc' := 44) rfl (hb hby d1_31) rfl (tlt hc31).2.2.1 (by decide) (by decide) ?_
      show Steps p.tables e below (s₁.setTop (mkF m 44 #[.val (.long q1), .second, .val (.long q2), .second, .val (.int p3), .val (.int (f1_v11 q1 p3)), .val (.int (f1_v25 q2 p3))] [])) _
      refine XS.iload X0.here hx rfl (hb hby d1_44) rfl ?_
      show Steps p.tables e below (s₁.setTop (mkF m 46 #[.val (.long q1), .second, .val (.long q2), .second, .val (.int p3), .val (.int (f1_v11 q1 p3)), .val (.int (f1_v25 q2 p3))] [(.int (f1_v11 q1 p3))])) _
      refine XS.bipush X0.here hx rfl (hb hby d1_46) ?_
      exact k
    by_cases hc48 : (f1_v11 q1 p3) = (10 : Int32)
    · have eq3 : (f1 q1 q2 p3) = (nar .byte (47 : Int32)) := by unfold f1; simp only [if_pos hc31, if_pos hc48]
      obtain ⟨fs, hr, hrun, hended, hW, hsame⟩ := X0.leave (v := some (.int (nar .byte (47 : Int32)))) (fun h => by rw [Bd.returns] at h; cases h)
      refine ⟨_, _, pre2 _ ?_, hrun, hended, _, _, rfl, ?_, ⟨_, rfl⟩, hW, hsame.mono (by decide) (by decide)⟩
      · show Steps p.tables e below (s₁.setTop (mkF m 48 #[.val (.long q1), .second, .val (.long q2), .second, .val (.int p3), .val (.int (f1_v11 q1 p3)), .val (.int (f1_v25 q2 p3))] [(.int (10 : Int32)), (.int (f1_v11 q1 p3))])) _
        refine XS.icmpNo X0.here hx rfl (hb hby d1_48) rfl (teq hc48).2 ?_
        show Steps p.tables e below (s₁.setTop (mkF m 51 #[.val (.long q1), .second, .val (.long q2), .second, .val (.int p3), .val (.int (f1_v11 q1 p3)), .val (.int (f1_v25 q2 p3))] [])) _
        refine XS.bipush X0.here hx rfl (hb hby d1_51) ?_
        show Steps p.tables e below (s₁.setTop (mkF m 53 #[.val (.long q1), .second, .val (.long q2), .second, .val (.int p3), .val (.int (f1_v11 q1 p3)), .val (.int (f1_v25 q2 p3))] [(.int (47 : Int32))])) _
        exact retN X0 hx (t := .byte) Bd.returns (by simp) (hb hby d1_53) hr
      · show Q1 Z q1 q2 p3 h0 n0 _ s₁.heap _
        rw [e0]
        exact ⟨by rw [eq3], N0, rfl⟩
    · have pre4 : ∀ t, Steps p.tables e below (s₁.setTop (mkF m 58 #[.val (.long q1), .second, .val (.long q2), .second, .val (.int p3), .val (.int (f1_v11 q1 p3)), .val (.int (f1_v25 q2 p3))] [(.int (11 : Int32)), (.int (f1_v11 q1 p3))])) t → Steps p.tables e below (s₁.setTop (entryFrame m #[(.long q1), (.long q2), (.int p3)] 7)) t := by
        intro t k
        refine pre2 t ?_
        show Steps p.tables e below (s₁.setTop (mkF m 48 #[.val (.long q1), .second, .val (.long q2), .second, .val (.int p3), .val (.int (f1_v11 q1 p3)), .val (.int (f1_v25 q2 p3))] [(.int (10 : Int32)), (.int (f1_v11 q1 p3))])) _
        refine XS.icmpYes X0.here hx rfl (pc0 := 48) (pc' := 54) rfl (hb hby d1_48) rfl (feq hc48).2 (by decide) (by decide) ?_
        show Steps p.tables e below (s₁.setTop (mkF m 54 #[.val (.long q1), .second, .val (.long q2), .second, .val (.int p3), .val (.int (f1_v11 q1 p3)), .val (.int (f1_v25 q2 p3))] [])) _
        refine XS.iload X0.here hx rfl (hb hby d1_54) rfl ?_
        show Steps p.tables e below (s₁.setTop (mkF m 56 #[.val (.long q1), .second, .val (.long q2), .second, .val (.int p3), .val (.int (f1_v11 q1 p3)), .val (.int (f1_v25 q2 p3))] [(.int (f1_v11 q1 p3))])) _
        refine XS.bipush X0.here hx rfl (hb hby d1_56) ?_
        exact k
      by_cases hc58 : (f1_v11 q1 p3) = (11 : Int32)
      · have eq5 : (f1 q1 q2 p3) = (nar .byte (58 : Int32)) := by unfold f1; simp only [if_pos hc31, if_neg hc48, if_pos hc58]
        obtain ⟨fs, hr, hrun, hended, hW, hsame⟩ := X0.leave (v := some (.int (nar .byte (58 : Int32)))) (fun h => by rw [Bd.returns] at h; cases h)
        refine ⟨_, _, pre4 _ ?_, hrun, hended, _, _, rfl, ?_, ⟨_, rfl⟩, hW, hsame.mono (by decide) (by decide)⟩
        · show Steps p.tables e below (s₁.setTop (mkF m 58 #[.val (.long q1), .second, .val (.long q2), .second, .val (.int p3), .val (.int (f1_v11 q1 p3)), .val (.int (f1_v25 q2 p3))] [(.int (11 : Int32)), (.int (f1_v11 q1 p3))])) _
          refine XS.icmpNo X0.here hx rfl (hb hby d1_58) rfl (teq hc58).2 ?_
          show Steps p.tables e below (s₁.setTop (mkF m 61 #[.val (.long q1), .second, .val (.long q2), .second, .val (.int p3), .val (.int (f1_v11 q1 p3)), .val (.int (f1_v25 q2 p3))] [])) _
          refine XS.bipush X0.here hx rfl (hb hby d1_61) ?_
          show Steps p.tables e below (s₁.setTop (mkF m 63 #[.val (.long q1), .second, .val (.long q2), .second, .val (.int p3), .val (.int (f1_v11 q1 p3)), .val (.int (f1_v25 q2 p3))] [(.int (58 : Int32))])) _
          exact retN X0 hx (t := .byte) Bd.returns (by simp) (hb hby d1_63) hr
        · show Q1 Z q1 q2 p3 h0 n0 _ s₁.heap _
          rw [e0]
          exact ⟨by rw [eq5], N0, rfl⟩
      · have pre6 : ∀ t, Steps p.tables e below (s₁.setTop (mkF m 68 #[.val (.long q1), .second, .val (.long q2), .second, .val (.int p3), .val (.int (f1_v11 q1 p3)), .val (.int (f1_v25 q2 p3))] [(.int (12 : Int32)), (.int (f1_v11 q1 p3))])) t → Steps p.tables e below (s₁.setTop (entryFrame m #[(.long q1), (.long q2), (.int p3)] 7)) t := by
          intro t k
          refine pre4 t ?_
          show Steps p.tables e below (s₁.setTop (mkF m 58 #[.val (.long q1), .second, .val (.long q2), .second, .val (.int p3), .val (.int (f1_v11 q1 p3)), .val (.int (f1_v25 q2 p3))] [(.int (11 : Int32)), (.int (f1_v11 q1 p3))])) _
          refine XS.icmpYes X0.here hx rfl (pc0 := 58) (pc' := 64) rfl (hb hby d1_58) rfl (feq hc58).2 (by decide) (by decide) ?_
          show Steps p.tables e below (s₁.setTop (mkF m 64 #[.val (.long q1), .second, .val (.long q2), .second, .val (.int p3), .val (.int (f1_v11 q1 p3)), .val (.int (f1_v25 q2 p3))] [])) _
          refine XS.iload X0.here hx rfl (hb hby d1_64) rfl ?_
          show Steps p.tables e below (s₁.setTop (mkF m 66 #[.val (.long q1), .second, .val (.long q2), .second, .val (.int p3), .val (.int (f1_v11 q1 p3)), .val (.int (f1_v25 q2 p3))] [(.int (f1_v11 q1 p3))])) _
          refine XS.bipush X0.here hx rfl (hb hby d1_66) ?_
          exact k
        by_cases hc68 : (f1_v11 q1 p3) = (12 : Int32)
        · have eq7 : (f1 q1 q2 p3) = (nar .byte (10 : Int32)) := by unfold f1; simp only [if_pos hc31, if_neg hc48, if_neg hc58, if_pos hc68]
          obtain ⟨fs, hr, hrun, hended, hW, hsame⟩ := X0.leave (v := some (.int (nar .byte (10 : Int32)))) (fun h => by rw [Bd.returns] at h; cases h)
          refine ⟨_, _, pre6 _ ?_, hrun, hended, _, _, rfl, ?_, ⟨_, rfl⟩, hW, hsame.mono (by decide) (by decide)⟩
          · show Steps p.tables e below (s₁.setTop (mkF m 68 #[.val (.long q1), .second, .val (.long q2), .second, .val (.int p3), .val (.int (f1_v11 q1 p3)), .val (.int (f1_v25 q2 p3))] [(.int (12 : Int32)), (.int (f1_v11 q1 p3))])) _
            refine XS.icmpNo X0.here hx rfl (hb hby d1_68) rfl (teq hc68).2 ?_
            show Steps p.tables e below (s₁.setTop (mkF m 71 #[.val (.long q1), .second, .val (.long q2), .second, .val (.int p3), .val (.int (f1_v11 q1 p3)), .val (.int (f1_v25 q2 p3))] [])) _
            refine XS.bipush X0.here hx rfl (hb hby d1_71) ?_
            show Steps p.tables e below (s₁.setTop (mkF m 73 #[.val (.long q1), .second, .val (.long q2), .second, .val (.int p3), .val (.int (f1_v11 q1 p3)), .val (.int (f1_v25 q2 p3))] [(.int (10 : Int32))])) _
            exact retN X0 hx (t := .byte) Bd.returns (by simp) (hb hby d1_73) hr
          · show Q1 Z q1 q2 p3 h0 n0 _ s₁.heap _
            rw [e0]
            exact ⟨by rw [eq7], N0, rfl⟩
        · have pre8 : ∀ t, Steps p.tables e below (s₁.setTop (mkF m 78 #[.val (.long q1), .second, .val (.long q2), .second, .val (.int p3), .val (.int (f1_v11 q1 p3)), .val (.int (f1_v25 q2 p3))] [(.int (13 : Int32)), (.int (f1_v11 q1 p3))])) t → Steps p.tables e below (s₁.setTop (entryFrame m #[(.long q1), (.long q2), (.int p3)] 7)) t := by
            intro t k
            refine pre6 t ?_
            show Steps p.tables e below (s₁.setTop (mkF m 68 #[.val (.long q1), .second, .val (.long q2), .second, .val (.int p3), .val (.int (f1_v11 q1 p3)), .val (.int (f1_v25 q2 p3))] [(.int (12 : Int32)), (.int (f1_v11 q1 p3))])) _
            refine XS.icmpYes X0.here hx rfl (pc0 := 68) (pc' := 74) rfl (hb hby d1_68) rfl (feq hc68).2 (by decide) (by decide) ?_
            show Steps p.tables e below (s₁.setTop (mkF m 74 #[.val (.long q1), .second, .val (.long q2), .second, .val (.int p3), .val (.int (f1_v11 q1 p3)), .val (.int (f1_v25 q2 p3))] [])) _
            refine XS.iload X0.here hx rfl (hb hby d1_74) rfl ?_
            show Steps p.tables e below (s₁.setTop (mkF m 76 #[.val (.long q1), .second, .val (.long q2), .second, .val (.int p3), .val (.int (f1_v11 q1 p3)), .val (.int (f1_v25 q2 p3))] [(.int (f1_v11 q1 p3))])) _
            refine XS.bipush X0.here hx rfl (hb hby d1_76) ?_
            exact k
          by_cases hc78 : (f1_v11 q1 p3) = (13 : Int32)
          · have eq9 : (f1 q1 q2 p3) = (nar .byte (13 : Int32)) := by unfold f1; simp only [if_pos hc31, if_neg hc48, if_neg hc58, if_neg hc68, if_pos hc78]
            obtain ⟨fs, hr, hrun, hended, hW, hsame⟩ := X0.leave (v := some (.int (nar .byte (13 : Int32)))) (fun h => by rw [Bd.returns] at h; cases h)
            refine ⟨_, _, pre8 _ ?_, hrun, hended, _, _, rfl, ?_, ⟨_, rfl⟩, hW, hsame.mono (by decide) (by decide)⟩
            · show Steps p.tables e below (s₁.setTop (mkF m 78 #[.val (.long q1), .second, .val (.long q2), .second, .val (.int p3), .val (.int (f1_v11 q1 p3)), .val (.int (f1_v25 q2 p3))] [(.int (13 : Int32)), (.int (f1_v11 q1 p3))])) _
              refine XS.icmpNo X0.here hx rfl (hb hby d1_78) rfl (teq hc78).2 ?_
              show Steps p.tables e below (s₁.setTop (mkF m 81 #[.val (.long q1), .second, .val (.long q2), .second, .val (.int p3), .val (.int (f1_v11 q1 p3)), .val (.int (f1_v25 q2 p3))] [])) _
              refine XS.bipush X0.here hx rfl (hb hby d1_81) ?_
              show Steps p.tables e below (s₁.setTop (mkF m 83 #[.val (.long q1), .second, .val (.long q2), .second, .val (.int p3), .val (.int (f1_v11 q1 p3)), .val (.int (f1_v25 q2 p3))] [(.int (13 : Int32))])) _
              exact retN X0 hx (t := .byte) Bd.returns (by simp) (hb hby d1_83) hr
            · show Q1 Z q1 q2 p3 h0 n0 _ s₁.heap _
              rw [e0]
              exact ⟨by rw [eq9], N0, rfl⟩
          · have eq10 : (f1 q1 q2 p3) = (nar .byte ((f1_v25 q2 p3).toInt8.toInt32)) := by unfold f1; simp only [if_pos hc31, if_neg hc48, if_neg hc58, if_neg hc68, if_neg hc78]
            obtain ⟨fs, hr, hrun, hended, hW, hsame⟩ := X0.leave (v := some (.int (nar .byte ((f1_v25 q2 p3).toInt8.toInt32)))) (fun h => by rw [Bd.returns] at h; cases h)
            refine ⟨_, _, pre8 _ ?_, hrun, hended, _, _, rfl, ?_, ⟨_, rfl⟩, hW, hsame.mono (by decide) (by decide)⟩
            · show Steps p.tables e below (s₁.setTop (mkF m 78 #[.val (.long q1), .second, .val (.long q2), .second, .val (.int p3), .val (.int (f1_v11 q1 p3)), .val (.int (f1_v25 q2 p3))] [(.int (13 : Int32)), (.int (f1_v11 q1 p3))])) _
              refine XS.icmpYes X0.here hx rfl (pc0 := 78) (pc' := 84) rfl (hb hby d1_78) rfl (feq hc78).2 (by decide) (by decide) ?_
              show Steps p.tables e below (s₁.setTop (mkF m 84 #[.val (.long q1), .second, .val (.long q2), .second, .val (.int p3), .val (.int (f1_v11 q1 p3)), .val (.int (f1_v25 q2 p3))] [])) _
              refine XS.iload X0.here hx rfl (hb hby d1_84) rfl ?_
              show Steps p.tables e below (s₁.setTop (mkF m 86 #[.val (.long q1), .second, .val (.long q2), .second, .val (.int p3), .val (.int (f1_v11 q1 p3)), .val (.int (f1_v25 q2 p3))] [(.int (f1_v25 q2 p3))])) _
              refine XS.i2b X0.here hx rfl (hb hby d1_86) rfl ?_
              show Steps p.tables e below (s₁.setTop (mkF m 87 #[.val (.long q1), .second, .val (.long q2), .second, .val (.int p3), .val (.int (f1_v11 q1 p3)), .val (.int (f1_v25 q2 p3))] [(.int ((f1_v25 q2 p3).toInt8.toInt32))])) _
              exact retN X0 hx (t := .byte) Bd.returns (by simp) (hb hby d1_87) hr
            · show Q1 Z q1 q2 p3 h0 n0 _ s₁.heap _
              rw [e0]
              exact ⟨by rw [eq10], N0, rfl⟩
  · have eq11 : (f1 q1 q2 p3) = (nar .byte (((48 : Int32) + (f1_v40 q2 p3)).toInt8.toInt32)) := by unfold f1; simp only [if_neg hc31]
    obtain ⟨fs, hr, hrun, hended, hW, hsame⟩ := X0.leave (v := some (.int (nar .byte (((48 : Int32) + (f1_v40 q2 p3)).toInt8.toInt32)))) (fun h => by rw [Bd.returns] at h; cases h)
    refine ⟨_, _, pre1 _ ?_, hrun, hended, _, _, rfl, ?_, ⟨_, rfl⟩, hW, hsame.mono (by decide) (by decide)⟩
    · show Steps p.tables e below (s₁.setTop (mkF m 31 #[.val (.long q1), .second, .val (.long q2), .second, .val (.int p3), .val (.int (f1_v11 q1 p3)), .val (.int (f1_v25 q2 p3))] [(.int (9 : Int32)), (.int (f1_v11 q1 p3))])) _
      refine XS.icmpNo X0.here hx rfl (hb hby d1_31) rfl (flt hc31).2.2.1 ?_
      show Steps p.tables e below (s₁.setTop (mkF m 34 #[.val (.long q1), .second, .val (.long q2), .second, .val (.int p3), .val (.int (f1_v11 q1 p3)), .val (.int (f1_v25 q2 p3))] [])) _
      refine XS.bipush X0.here hx rfl (hb hby d1_34) ?_
      show Steps p.tables e below (s₁.setTop (mkF m 36 #[.val (.long q1), .second, .val (.long q2), .second, .val (.int p3), .val (.int (f1_v11 q1 p3)), .val (.int (f1_v25 q2 p3))] [(.int (48 : Int32))])) _
      refine XS.iload X0.here hx rfl (hb hby d1_36) rfl ?_
      show Steps p.tables e below (s₁.setTop (mkF m 38 #[.val (.long q1), .second, .val (.long q2), .second, .val (.int p3), .val (.int (f1_v11 q1 p3)), .val (.int (f1_v25 q2 p3))] [(.int (f1_v25 q2 p3)), (.int (48 : Int32))])) _
      refine XS.bipush X0.here hx rfl (hb hby d1_38) ?_
      show Steps p.tables e below (s₁.setTop (mkF m 40 #[.val (.long q1), .second, .val (.long q2), .second, .val (.int p3), .val (.int (f1_v11 q1 p3)), .val (.int (f1_v25 q2 p3))] [(.int (10 : Int32)), (.int (f1_v25 q2 p3)), (.int (48 : Int32))])) _
      refine XS.irem X0.here hx rfl (hb hby d1_40) rfl (by decide) ?_
      show Steps p.tables e below (s₁.setTop (mkF m 41 #[.val (.long q1), .second, .val (.long q2), .second, .val (.int p3), .val (.int (f1_v11 q1 p3)), .val (.int (f1_v25 q2 p3))] [(.int (f1_v40 q2 p3)), (.int (48 : Int32))])) _
      refine XS.iadd X0.here hx rfl (hb hby d1_41) rfl ?_
      show Steps p.tables e below (s₁.setTop (mkF m 42 #[.val (.long q1), .second, .val (.long q2), .second, .val (.int p3), .val (.int (f1_v11 q1 p3)), .val (.int (f1_v25 q2 p3))] [(.int ((48 : Int32) + (f1_v40 q2 p3)))])) _
      refine XS.i2b X0.here hx rfl (hb hby d1_42) rfl ?_
      show Steps p.tables e below (s₁.setTop (mkF m 43 #[.val (.long q1), .second, .val (.long q2), .second, .val (.int p3), .val (.int (f1_v11 q1 p3)), .val (.int (f1_v25 q2 p3))] [(.int (((48 : Int32) + (f1_v40 q2 p3)).toInt8.toInt32))])) _
      exact retN X0 hx (t := .byte) Bd.returns (by simp) (hb hby d1_43) hr
    · show Q1 Z q1 q2 p3 h0 n0 _ s₁.heap _
      rw [e0]
      exact ⟨by rw [eq11], N0, rfl⟩
theorem d2_0 : decode method_4_code 0 = .ok (.iload_n 2, 1) := by decide +kernel
theorem d2_1 : decode method_4_code 1 = .ok (.ifCond .ne 5, 3) := by decide +kernel
theorem d2_4 : decode method_4_code 4 = .ok (.iload_n 1, 1) := by decide +kernel
theorem d2_5 : decode method_4_code 5 = .ok (.ireturn, 1) := by decide +kernel
theorem d2_6 : decode method_4_code 6 = .ok (.iload_n 3, 1) := by decide +kernel
theorem d2_7 : decode method_4_code 7 = .ok (.ifCond .eq 19, 3) := by decide +kernel
theorem d2_10 : decode method_4_code 10 = .ok (.aload_n 0, 1) := by decide +kernel
theorem d2_11 : decode method_4_code 11 = .ok (.iload_n 1, 1) := by decide +kernel
theorem d2_12 : decode method_4_code 12 = .ok (.bipush 13, 2) := by decide +kernel
theorem d2_14 : decode method_4_code 14 = .ok (.bastore, 1) := by decide +kernel
theorem d2_15 : decode method_4_code 15 = .ok (.aload_n 0, 1) := by decide +kernel
theorem d2_16 : decode method_4_code 16 = .ok (.iload_n 1, 1) := by decide +kernel
theorem d2_17 : decode method_4_code 17 = .ok (.iconst 1, 1) := by decide +kernel
theorem d2_18 : decode method_4_code 18 = .ok (.iadd, 1) := by decide +kernel
theorem d2_19 : decode method_4_code 19 = .ok (.bipush 10, 2) := by decide +kernel
theorem d2_21 : decode method_4_code 21 = .ok (.bastore, 1) := by decide +kernel
theorem d2_22 : decode method_4_code 22 = .ok (.iload_n 1, 1) := by decide +kernel
theorem d2_23 : decode method_4_code 23 = .ok (.iconst 2, 1) := by decide +kernel
theorem d2_24 : decode method_4_code 24 = .ok (.iadd, 1) := by decide +kernel
theorem d2_25 : decode method_4_code 25 = .ok (.ireturn, 1) := by decide +kernel
theorem d2_26 : decode method_4_code 26 = .ok (.aload_n 0, 1) := by decide +kernel
theorem d2_27 : decode method_4_code 27 = .ok (.iload_n 1, 1) := by decide +kernel
theorem d2_28 : decode method_4_code 28 = .ok (.bipush 10, 2) := by decide +kernel
theorem d2_30 : decode method_4_code 30 = .ok (.bastore, 1) := by decide +kernel
theorem d2_31 : decode method_4_code 31 = .ok (.iload_n 1, 1) := by decide +kernel
theorem d2_32 : decode method_4_code 32 = .ok (.iconst 1, 1) := by decide +kernel
theorem d2_33 : decode method_4_code 33 = .ok (.iadd, 1) := by decide +kernel
theorem d2_34 : decode method_4_code 34 = .ok (.ireturn, 1) := by decide +kernel
theorem ef_2 (m : MethodId) (x0 : Addr) (x1 : Int32) (x2 : Int32) (x3 : Int32) : entryFrame m #[(.ref x0), (.int x1), (.int x2), (.int x3)] 4 = mkF m 0 #[.val (.ref x0), .val (.int x1), .val (.int x2), .val (.int x3)] [] := by first | (simp [entryFrame, mkF, argsToLocals, Value.category]; done) | rfl
def f2_v30 (p2 : Int32) (c_a1 : Nat → Int32) : Nat → Int32 := (ownU c_a1 (p2).toNatClampNeg (nar .byte (10 : Int32)))
def f2_v14 (p2 : Int32) (c_a1 : Nat → Int32) : Nat → Int32 := (ownU c_a1 (p2).toNatClampNeg (nar .byte (13 : Int32)))
def f2_v21 (p2 : Int32) (c_a1 : Nat → Int32) : Nat → Int32 := (ownU (f2_v14 p2 c_a1) ((p2 + (1 : Int32))).toNatClampNeg (nar .byte (10 : Int32)))
def f2 (p2 : Int32) (p3 : Int32) (p4 : Int32) (z_a1 : Int32) (c_a1 : Nat → Int32) : Int32 := (if p3 = (0 : Int32) then p2 else (if p4 = (0 : Int32) then (p2 + (1 : Int32)) else (p2 + (2 : Int32))))
def f2_o0 (p2 : Int32) (p3 : Int32) (p4 : Int32) (z_a1 : Int32) (c_a1 : Nat → Int32) : Nat → Int32 := (if p3 = (0 : Int32) then c_a1 else (if p4 = (0 : Int32) then (f2_v30 p2 c_a1) else (f2_v21 p2 c_a1)))
def Q2 (Z : State) (a1 : Addr) (p2 : Int32) (p3 : Int32) (p4 : Int32) (z_a1 : Int32) (c_a1 : Nat → Int32) (h0 : Heap) (n0 : Nat) (v : Option Value) (h : Heap) (L : List Loc) : Prop := v = some (.int (f2 p2 p3 p4 z_a1 c_a1)) ∧ Fr n0 L ∧ Keep h0 h [a1] ∧ IAr Z h a1 .byte z_a1 (f2_o0 p2 p3 p4 z_a1 c_a1)
set_option maxRecDepth 65536 in
set_option maxHeartbeats 40000000 in
theorem rm2 (l : Launch) (Z : State) (a0 : Array Value) (hw : ∀ d ∈ tables_1, d.before a0 Z = true) (ws : List Jvm.Cond) (a1 : Addr) (p2 : Int32) (p3 : Int32) (p4 : Int32) (z_a1 : Int32) (c_a1 : Nat → Int32) (h0 : Heap) (n0 : Nat) (Z0 : n0 ≤ h0.size) (V_a1 : IAr Z h0 a1 .byte z_a1 c_a1) (g_a1 : n0 ≤ a1) (hq1 : ¬ p3 = 0 → ¬ p2 < 0 ∧ p2 < z_a1) (hq2 : ¬ p3 = 0 → ¬ p4 = 0 → ¬ (p2 + 1) < 0 ∧ (p2 + 1) < z_a1) :
    MetFree l (⟨"com/example/titlepoint/titlepoint/Iso2709ReaderBeginsWithRecordLengthPinLaw", "putLineEnd", "([BIZZ)I"⟩ : MethodName) (head1 (Jvm.Cond.code (⟨"com/example/titlepoint/titlepoint/Iso2709ReaderBeginsWithRecordLengthPinLaw", "putLineEnd", "([BIZZ)I"⟩ : MethodName) method_4_code 4 (some .int) :: ws) ({ frames := 0, cells := 0, slots := 0, locals := 0 } : Room)) (fun a U => a = #[(.ref a1), (.int p2), (.int p3), (.int p4)] ∧ Z.Warmed39 U.vm ∧ U.heap = h0) (fun _ _ _ _ _ => True) (fun _ U o U' => ∃ v L, o = .returned v ∧ Q2 Z a1 p2 p3 p4 z_a1 c_a1 h0 n0 v U'.heap L ∧ FrameEnd U o U' L ({ frames := 0, cells := 0, slots := 0, locals := 0 } : Room).cells ({ frames := 0, cells := 0, slots := 0, locals := 0 } : Room).slots) := by
  refine MetFree.of_bodySF (plainFor_of_name pn_0) hisR ?_
  intro p e s m args below meth c s₁ Bd hml0 hP hK
  obtain ⟨rfl, hZ, hh⟩ := hP
  have hx := Bd.exec
  have hby := Bd.bytes
  have hml : c.maxLocals = 4 := hml0
  have hown : s.vm.findClass "com/example/titlepoint/titlepoint/Iso2709ReaderBeginsWithRecordLengthPinLaw" = some m.cls := findClass_of_methodNamed Bd.named
  have hnm := (name_of_methodNamed Bd.named Bd.method).1
  have X0 : Stand p l e ({ frames := 0, cells := 0, slots := 0, locals := 0 } : Room) s m #[(.ref a1), (.int p2), (.int p3), (.int p4)] below meth c s₁ [] 0 0 := Stand.of_body Bd
  have e0 : s₁.heap = h0 := by rw [← hh, Bd.state]; rfl
  have N0 := Fr.nil n0
  have pre0 : ∀ t, Steps p.tables e below (s₁.setTop (mkF m 0 #[.val (.ref a1), .val (.int p2), .val (.int p3), .val (.int p4)] [])) t → Steps p.tables e below (s₁.setTop (entryFrame m #[(.ref a1), (.int p2), (.int p3), (.int p4)] 4)) t := fun t k => castTop (ef_2 m a1 p2 p3 p4) k
  have pre1 : ∀ t, Steps p.tables e below (s₁.setTop (mkF m 1 #[.val (.ref a1), .val (.int p2), .val (.int p3), .val (.int p4)] [(.int p3)])) t → Steps p.tables e below (s₁.setTop (entryFrame m #[(.ref a1), (.int p2), (.int p3), (.int p4)] 4)) t := by
    intro t k
    refine pre0 t ?_
    show Steps p.tables e below (s₁.setTop (mkF m 0 #[.val (.ref a1), .val (.int p2), .val (.int p3), .val (.int p4)] [])) _
    refine XS.iloadN X0.here hx rfl (hb hby d2_0) rfl ?_
    exact k
  by_cases hc1 : p3 = (0 : Int32)
  · have eq2 : (f2 p2 p3 p4 z_a1 c_a1) = p2 := by unfold f2; simp only [if_pos hc1]
    have eq3 : (f2_o0 p2 p3 p4 z_a1 c_a1) = c_a1 := by unfold f2_o0; simp only [if_pos hc1]
    obtain ⟨fs, hr, hrun, hended, hW, hsame⟩ := X0.leave (v := some (.int p2)) (fun h => by rw [Bd.returns] at h; cases h)
    refine ⟨_, _, pre1 _ ?_, hrun, hended, _, _, rfl, ?_, ⟨_, rfl⟩, hW, hsame.mono (by decide) (by decide)⟩
    · show Steps p.tables e below (s₁.setTop (mkF m 1 #[.val (.ref a1), .val (.int p2), .val (.int p3), .val (.int p4)] [(.int p3)])) _
      refine XS.ifNo X0.here hx rfl (hb hby d2_1) rfl ((if0 _ _).trans (teq hc1).2) ?_
      show Steps p.tables e below (s₁.setTop (mkF m 4 #[.val (.ref a1), .val (.int p2), .val (.int p3), .val (.int p4)] [])) _
      refine XS.iloadN X0.here hx rfl (hb hby d2_4) rfl ?_
      show Steps p.tables e below (s₁.setTop (mkF m 5 #[.val (.ref a1), .val (.int p2), .val (.int p3), .val (.int p4)] [(.int p2)])) _
      exact retI X0 hx Bd.returns (hb hby d2_5) hr
    · show Q2 Z a1 p2 p3 p4 z_a1 c_a1 h0 n0 _ s₁.heap _
      rw [e0]
      exact ⟨by rw [eq2], N0, (Keep.refl h0 [a1]), (by rw [eq3]; exact V_a1)⟩
  · have pre4 : ∀ t, Steps p.tables e below (s₁.setTop (mkF m 7 #[.val (.ref a1), .val (.int p2), .val (.int p3), .val (.int p4)] [(.int p4)])) t → Steps p.tables e below (s₁.setTop (entryFrame m #[(.ref a1), (.int p2), (.int p3), (.int p4)] 4)) t := by
      intro t k
      refine pre1 t ?_
      show Steps p.tables e below (s₁.setTop (mkF m 1 #[.val (.ref a1), .val (.int p2), .val (.int p3), .val (.int p4)] [(.int p3)])) _
      refine XS.ifYes X0.here hx rfl (pc0 := 1) (pc' := 6) rfl (hb hby d2_1) rfl ((if0 _ _).trans (feq hc1).2) (by decide) (by decide) ?_
      show Steps p.tables e below (s₁.setTop (mkF m 6 #[.val (.ref a1), .val (.int p2), .val (.int p3), .val (.int p4)] [])) _
      refine XS.iloadN X0.here hx rfl (hb hby d2_6) rfl ?_
      exact k
    by_cases hc7 : p4 = (0 : Int32)
    · obtain ⟨T5, h5, X5, e5, W5, V5, st5⟩ := sB X0 hx hZ e0 V_a1 (j := p2) (hq1 hc1) (g := (mkF m 30 #[.val (.ref a1), .val (.int p2), .val (.int p3), .val (.int p4)] [(.int (10 : Int32)), (.int p2), (.ref a1)])) rfl rfl (hb hby d2_30)
      have N5 := Fr.snoc X5 N0 g_a1
      have c6 : n0 ≤ h5.size := Nat.le_trans Z0 (Keep.of_wr W5).1
      have c7 : IAr Z h5 a1 .byte z_a1 (f2_v30 p2 c_a1) := V5
      have c8 : Keep h0 h5 [a1] := (Keep.refl h0 [a1]).wr W5 (Or.inl (List.mem_of_getElem? (i := 0) rfl))
      have eq5 : (f2 p2 p3 p4 z_a1 c_a1) = (p2 + (1 : Int32)) := by unfold f2; simp only [if_neg hc1, if_pos hc7]
      have eq6 : (f2_o0 p2 p3 p4 z_a1 c_a1) = (f2_v30 p2 c_a1) := by unfold f2_o0; simp only [if_neg hc1, if_pos hc7]
      obtain ⟨fs, hr, hrun, hended, hW, hsame⟩ := X5.leave (v := some (.int (p2 + (1 : Int32)))) (fun h => by rw [Bd.returns] at h; cases h)
      refine ⟨_, _, pre4 _ ?_, hrun, hended, _, _, rfl, ?_, ⟨_, rfl⟩, hW, hsame.mono (by decide) (by decide)⟩
      · show Steps p.tables e below (s₁.setTop (mkF m 7 #[.val (.ref a1), .val (.int p2), .val (.int p3), .val (.int p4)] [(.int p4)])) _
        refine XS.ifYes X0.here hx rfl (pc0 := 7) (pc' := 26) rfl (hb hby d2_7) rfl ((if0 _ _).trans (teq hc7).1) (by decide) (by decide) ?_
        show Steps p.tables e below (s₁.setTop (mkF m 26 #[.val (.ref a1), .val (.int p2), .val (.int p3), .val (.int p4)] [])) _
        refine XS.aloadN X0.here hx rfl (hb hby d2_26) rfl rfl ?_
        show Steps p.tables e below (s₁.setTop (mkF m 27 #[.val (.ref a1), .val (.int p2), .val (.int p3), .val (.int p4)] [(.ref a1)])) _
        refine XS.iloadN X0.here hx rfl (hb hby d2_27) rfl ?_
        show Steps p.tables e below (s₁.setTop (mkF m 28 #[.val (.ref a1), .val (.int p2), .val (.int p3), .val (.int p4)] [(.int p2), (.ref a1)])) _
        refine XS.bipush X0.here hx rfl (hb hby d2_28) ?_
        show Steps p.tables e below (s₁.setTop (mkF m 30 #[.val (.ref a1), .val (.int p2), .val (.int p3), .val (.int p4)] [(.int (10 : Int32)), (.int p2), (.ref a1)])) _
        refine st5 _ ?_
        show Steps p.tables e below (T5.setTop (mkF m 31 #[.val (.ref a1), .val (.int p2), .val (.int p3), .val (.int p4)] [])) _
        refine XS.iloadN X5.here hx rfl (hb hby d2_31) rfl ?_
        show Steps p.tables e below (T5.setTop (mkF m 32 #[.val (.ref a1), .val (.int p2), .val (.int p3), .val (.int p4)] [(.int p2)])) _
        refine XS.iconst X5.here hx rfl (hb hby d2_32) ?_
        show Steps p.tables e below (T5.setTop (mkF m 33 #[.val (.ref a1), .val (.int p2), .val (.int p3), .val (.int p4)] [(.int (1 : Int32)), (.int p2)])) _
        refine XS.iadd X5.here hx rfl (hb hby d2_33) rfl ?_
        show Steps p.tables e below (T5.setTop (mkF m 34 #[.val (.ref a1), .val (.int p2), .val (.int p3), .val (.int p4)] [(.int (p2 + (1 : Int32)))])) _
        exact retI X5 hx Bd.returns (hb hby d2_34) hr
      · show Q2 Z a1 p2 p3 p4 z_a1 c_a1 h0 n0 _ T5.heap _
        rw [e5]
        exact ⟨by rw [eq5], N5, c8, (by rw [eq6]; exact c7)⟩
    · obtain ⟨T9, h9, X9, e9, W9, V9, st9⟩ := sB X0 hx hZ e0 V_a1 (j := p2) (hq1 hc1) (g := (mkF m 14 #[.val (.ref a1), .val (.int p2), .val (.int p3), .val (.int p4)] [(.int (13 : Int32)), (.int p2), (.ref a1)])) rfl rfl (hb hby d2_14)
      have N9 := Fr.snoc X9 N0 g_a1
      have c10 : n0 ≤ h9.size := Nat.le_trans Z0 (Keep.of_wr W9).1
      have c11 : IAr Z h9 a1 .byte z_a1 (f2_v14 p2 c_a1) := V9
      have c12 : Keep h0 h9 [a1] := (Keep.refl h0 [a1]).wr W9 (Or.inl (List.mem_of_getElem? (i := 0) rfl))
      obtain ⟨T13, h13, X13, e13, W13, V13, st13⟩ := sB X9 hx hZ e9 c11 (j := (p2 + (1 : Int32))) (hq2 hc1 hc7) (g := (mkF m 21 #[.val (.ref a1), .val (.int p2), .val (.int p3), .val (.int p4)] [(.int (10 : Int32)), (.int (p2 + (1 : Int32))), (.ref a1)])) rfl rfl (hb hby d2_21)
      have N13 := Fr.snoc X13 N9 g_a1
      have c14 : n0 ≤ h13.size := Nat.le_trans c10 (Keep.of_wr W13).1
      have c15 : IAr Z h13 a1 .byte z_a1 (f2_v21 p2 c_a1) := V13
      have c16 : Keep h0 h13 [a1] := c12.wr W13 (Or.inl (List.mem_of_getElem? (i := 0) rfl))
      have eq7 : (f2 p2 p3 p4 z_a1 c_a1) = (p2 + (2 : Int32)) := by unfold f2; simp only [if_neg hc1, if_neg hc7]
      have eq8 : (f2_o0 p2 p3 p4 z_a1 c_a1) = (f2_v21 p2 c_a1) := by unfold f2_o0; simp only [if_neg hc1, if_neg hc7]
      obtain ⟨fs, hr, hrun, hended, hW, hsame⟩ := X13.leave (v := some (.int (p2 + (2 : Int32)))) (fun h => by rw [Bd.returns] at h; cases h)
      refine ⟨_, _, pre4 _ ?_, hrun, hended, _, _, rfl, ?_, ⟨_, rfl⟩, hW, hsame.mono (by decide) (by decide)⟩
      · show Steps p.tables e below (s₁.setTop (mkF m 7 #[.val (.ref a1), .val (.int p2), .val (.int p3), .val (.int p4)] [(.int p4)])) _
        refine XS.ifNo X0.here hx rfl (hb hby d2_7) rfl ((if0 _ _).trans (feq hc7).1) ?_
        show Steps p.tables e below (s₁.setTop (mkF m 10 #[.val (.ref a1), .val (.int p2), .val (.int p3), .val (.int p4)] [])) _
        refine XS.aloadN X0.here hx rfl (hb hby d2_10) rfl rfl ?_
        show Steps p.tables e below (s₁.setTop (mkF m 11 #[.val (.ref a1), .val (.int p2), .val (.int p3), .val (.int p4)] [(.ref a1)])) _
        refine XS.iloadN X0.here hx rfl (hb hby d2_11) rfl ?_
        show Steps p.tables e below (s₁.setTop (mkF m 12 #[.val (.ref a1), .val (.int p2), .val (.int p3), .val (.int p4)] [(.int p2), (.ref a1)])) _
        refine XS.bipush X0.here hx rfl (hb hby d2_12) ?_
        show Steps p.tables e below (s₁.setTop (mkF m 14 #[.val (.ref a1), .val (.int p2), .val (.int p3), .val (.int p4)] [(.int (13 : Int32)), (.int p2), (.ref a1)])) _
        refine st9 _ ?_
        show Steps p.tables e below (T9.setTop (mkF m 15 #[.val (.ref a1), .val (.int p2), .val (.int p3), .val (.int p4)] [])) _
        refine XS.aloadN X9.here hx rfl (hb hby d2_15) rfl rfl ?_
        show Steps p.tables e below (T9.setTop (mkF m 16 #[.val (.ref a1), .val (.int p2), .val (.int p3), .val (.int p4)] [(.ref a1)])) _
        refine XS.iloadN X9.here hx rfl (hb hby d2_16) rfl ?_
        show Steps p.tables e below (T9.setTop (mkF m 17 #[.val (.ref a1), .val (.int p2), .val (.int p3), .val (.int p4)] [(.int p2), (.ref a1)])) _
        refine XS.iconst X9.here hx rfl (hb hby d2_17) ?_
        show Steps p.tables e below (T9.setTop (mkF m 18 #[.val (.ref a1), .val (.int p2), .val (.int p3), .val (.int p4)] [(.int (1 : Int32)), (.int p2), (.ref a1)])) _
        refine XS.iadd X9.here hx rfl (hb hby d2_18) rfl ?_
        show Steps p.tables e below (T9.setTop (mkF m 19 #[.val (.ref a1), .val (.int p2), .val (.int p3), .val (.int p4)] [(.int (p2 + (1 : Int32))), (.ref a1)])) _
        refine XS.bipush X9.here hx rfl (hb hby d2_19) ?_
        show Steps p.tables e below (T9.setTop (mkF m 21 #[.val (.ref a1), .val (.int p2), .val (.int p3), .val (.int p4)] [(.int (10 : Int32)), (.int (p2 + (1 : Int32))), (.ref a1)])) _
        refine st13 _ ?_
        show Steps p.tables e below (T13.setTop (mkF m 22 #[.val (.ref a1), .val (.int p2), .val (.int p3), .val (.int p4)] [])) _
        refine XS.iloadN X13.here hx rfl (hb hby d2_22) rfl ?_
        show Steps p.tables e below (T13.setTop (mkF m 23 #[.val (.ref a1), .val (.int p2), .val (.int p3), .val (.int p4)] [(.int p2)])) _
        refine XS.iconst X13.here hx rfl (hb hby d2_23) ?_
        show Steps p.tables e below (T13.setTop (mkF m 24 #[.val (.ref a1), .val (.int p2), .val (.int p3), .val (.int p4)] [(.int (2 : Int32)), (.int p2)])) _
        refine XS.iadd X13.here hx rfl (hb hby d2_24) rfl ?_
        show Steps p.tables e below (T13.setTop (mkF m 25 #[.val (.ref a1), .val (.int p2), .val (.int p3), .val (.int p4)] [(.int (p2 + (2 : Int32)))])) _
        exact retI X13 hx Bd.returns (hb hby d2_25) hr
      · show Q2 Z a1 p2 p3 p4 z_a1 c_a1 h0 n0 _ T13.heap _
        rw [e13]
        exact ⟨by rw [eq7], N13, c16, (by rw [eq8]; exact c15)⟩
theorem own_f2 (a pr cr Z : Int32) (C : Nat → Int32) : f2 a pr cr Z C = a + own_sz pr cr := by
  unfold f2 own_sz
  split
  · exact (Int32.add_zero a).symm
  · split <;> rfl
theorem d3_0 : decode method_5_code 0 = .ok (.iload_n 1, 1) := by decide +kernel
theorem d3_1 : decode method_5_code 1 = .ok (.aload_n 0, 1) := by decide +kernel
theorem d3_2 : decode method_5_code 2 = .ok (.arraylength, 1) := by decide +kernel
theorem d3_3 : decode method_5_code 3 = .ok (.if_icmp .ge 7, 3) := by decide +kernel
theorem d3_6 : decode method_5_code 6 = .ok (.aload_n 0, 1) := by decide +kernel
theorem d3_7 : decode method_5_code 7 = .ok (.iload_n 1, 1) := by decide +kernel
theorem d3_8 : decode method_5_code 8 = .ok (.iload_n 2, 1) := by decide +kernel
theorem d3_9 : decode method_5_code 9 = .ok (.bastore, 1) := by decide +kernel
theorem d3_10 : decode method_5_code 10 = .ok (.return_, 1) := by decide +kernel
theorem ef_3 (m : MethodId) (x0 : Addr) (x1 : Int32) (x2 : Int32) : entryFrame m #[(.ref x0), (.int x1), (.int x2)] 3 = mkF m 0 #[.val (.ref x0), .val (.int x1), .val (.int x2)] [] := by first | (simp [entryFrame, mkF, argsToLocals, Value.category]; done) | rfl
def f3_v9 (p2 : Int32) (p3 : Int32) (c_a1 : Nat → Int32) : Nat → Int32 := (ownU c_a1 (p2).toNatClampNeg (nar .byte p3))
def f3_o0 (p2 : Int32) (p3 : Int32) (z_a1 : Int32) (c_a1 : Nat → Int32) : Nat → Int32 := (if p2 < z_a1 then (f3_v9 p2 p3 c_a1) else c_a1)
def Q3 (Z : State) (a1 : Addr) (p2 : Int32) (p3 : Int32) (z_a1 : Int32) (c_a1 : Nat → Int32) (h0 : Heap) (n0 : Nat) (v : Option Value) (h : Heap) (L : List Loc) : Prop := v = none ∧ Fr n0 L ∧ Keep h0 h [a1] ∧ IAr Z h a1 .byte z_a1 (f3_o0 p2 p3 z_a1 c_a1)
set_option maxRecDepth 65536 in
set_option maxHeartbeats 40000000 in
theorem rm3 (l : Launch) (Z : State) (a0 : Array Value) (hw : ∀ d ∈ tables_1, d.before a0 Z = true) (ws : List Jvm.Cond) (a1 : Addr) (p2 : Int32) (p3 : Int32) (z_a1 : Int32) (c_a1 : Nat → Int32) (h0 : Heap) (n0 : Nat) (Z0 : n0 ≤ h0.size) (V_a1 : IAr Z h0 a1 .byte z_a1 c_a1) (g_a1 : n0 ≤ a1) (hq : ¬ p2 < 0) :
    MetFree l (⟨"com/example/titlepoint/titlepoint/Iso2709ReaderBeginsWithRecordLengthPinLaw", "put", "([BIB)V"⟩ : MethodName) (head1 (Jvm.Cond.code (⟨"com/example/titlepoint/titlepoint/Iso2709ReaderBeginsWithRecordLengthPinLaw", "put", "([BIB)V"⟩ : MethodName) method_5_code 3 none :: ws) ({ frames := 0, cells := 0, slots := 0, locals := 0 } : Room)) (fun a U => a = #[(.ref a1), (.int p2), (.int p3)] ∧ Z.Warmed39 U.vm ∧ U.heap = h0) (fun _ _ _ _ _ => True) (fun _ U o U' => ∃ v L, o = .returned v ∧ Q3 Z a1 p2 p3 z_a1 c_a1 h0 n0 v U'.heap L ∧ FrameEnd U o U' L ({ frames := 0, cells := 0, slots := 0, locals := 0 } : Room).cells ({ frames := 0, cells := 0, slots := 0, locals := 0 } : Room).slots) := by
  refine MetFree.of_bodySF (plainFor_of_name pn_0) hisR ?_
  intro p e s m args below meth c s₁ Bd hml0 hP hK
  obtain ⟨rfl, hZ, hh⟩ := hP
  have hx := Bd.exec
  have hby := Bd.bytes
  have hml : c.maxLocals = 3 := hml0
  have hown : s.vm.findClass "com/example/titlepoint/titlepoint/Iso2709ReaderBeginsWithRecordLengthPinLaw" = some m.cls := findClass_of_methodNamed Bd.named
  have hnm := (name_of_methodNamed Bd.named Bd.method).1
  have X0 : Stand p l e ({ frames := 0, cells := 0, slots := 0, locals := 0 } : Room) s m #[(.ref a1), (.int p2), (.int p3)] below meth c s₁ [] 0 0 := Stand.of_body Bd
  have e0 : s₁.heap = h0 := by rw [← hh, Bd.state]; rfl
  have N0 := Fr.nil n0
  have pre0 : ∀ t, Steps p.tables e below (s₁.setTop (mkF m 0 #[.val (.ref a1), .val (.int p2), .val (.int p3)] [])) t → Steps p.tables e below (s₁.setTop (entryFrame m #[(.ref a1), (.int p2), (.int p3)] 3)) t := fun t k => castTop (ef_3 m a1 p2 p3) k
  have pre1 : ∀ t, Steps p.tables e below (s₁.setTop (mkF m 3 #[.val (.ref a1), .val (.int p2), .val (.int p3)] [(.int z_a1), (.int p2)])) t → Steps p.tables e below (s₁.setTop (entryFrame m #[(.ref a1), (.int p2), (.int p3)] 3)) t := by
    intro t k
    refine pre0 t ?_
    show Steps p.tables e below (s₁.setTop (mkF m 0 #[.val (.ref a1), .val (.int p2), .val (.int p3)] [])) _
    refine XS.iloadN X0.here hx rfl (hb hby d3_0) rfl ?_
    show Steps p.tables e below (s₁.setTop (mkF m 1 #[.val (.ref a1), .val (.int p2), .val (.int p3)] [(.int p2)])) _
    refine XS.aloadN X0.here hx rfl (hb hby d3_1) rfl rfl ?_
    show Steps p.tables e below (s₁.setTop (mkF m 2 #[.val (.ref a1), .val (.int p2), .val (.int p3)] [(.ref a1), (.int p2)])) _
    refine alen X0 hx hZ e0 V_a1 (g := (mkF m 2 #[.val (.ref a1), .val (.int p2), .val (.int p3)] [(.ref a1), (.int p2)])) rfl rfl (hb hby d3_2) ?_
    exact k
  by_cases hc3 : p2 < z_a1
  · obtain ⟨T4, h4, X4, e4, W4, V4, st4⟩ := sB X0 hx hZ e0 V_a1 (j := p2) ⟨hq, hc3⟩ (g := (mkF m 9 #[.val (.ref a1), .val (.int p2), .val (.int p3)] [(.int p3), (.int p2), (.ref a1)])) rfl rfl (hb hby d3_9)
    have N4 := Fr.snoc X4 N0 g_a1
    have c5 : n0 ≤ h4.size := Nat.le_trans Z0 (Keep.of_wr W4).1
    have c6 : IAr Z h4 a1 .byte z_a1 (f3_v9 p2 p3 c_a1) := V4
    have c7 : Keep h0 h4 [a1] := (Keep.refl h0 [a1]).wr W4 (Or.inl (List.mem_of_getElem? (i := 0) rfl))
    have eq2 : (f3_o0 p2 p3 z_a1 c_a1) = (f3_v9 p2 p3 c_a1) := by unfold f3_o0; simp only [if_pos hc3]
    obtain ⟨fs, hr, hrun, hended, hW, hsame⟩ := X4.leave (v := none) (fun _ => rfl)
    refine ⟨_, _, pre1 _ ?_, hrun, hended, _, _, rfl, ?_, ⟨_, rfl⟩, hW, hsame.mono (by decide) (by decide)⟩
    · show Steps p.tables e below (s₁.setTop (mkF m 3 #[.val (.ref a1), .val (.int p2), .val (.int p3)] [(.int z_a1), (.int p2)])) _
      refine XS.icmpNo X0.here hx rfl (hb hby d3_3) rfl (tlt hc3).2.1 ?_
      show Steps p.tables e below (s₁.setTop (mkF m 6 #[.val (.ref a1), .val (.int p2), .val (.int p3)] [])) _
      refine XS.aloadN X0.here hx rfl (hb hby d3_6) rfl rfl ?_
      show Steps p.tables e below (s₁.setTop (mkF m 7 #[.val (.ref a1), .val (.int p2), .val (.int p3)] [(.ref a1)])) _
      refine XS.iloadN X0.here hx rfl (hb hby d3_7) rfl ?_
      show Steps p.tables e below (s₁.setTop (mkF m 8 #[.val (.ref a1), .val (.int p2), .val (.int p3)] [(.int p2), (.ref a1)])) _
      refine XS.iloadN X0.here hx rfl (hb hby d3_8) rfl ?_
      show Steps p.tables e below (s₁.setTop (mkF m 9 #[.val (.ref a1), .val (.int p2), .val (.int p3)] [(.int p3), (.int p2), (.ref a1)])) _
      refine st4 _ ?_
      show Steps p.tables e below (T4.setTop (mkF m 10 #[.val (.ref a1), .val (.int p2), .val (.int p3)] [])) _
      exact X4.returnOut hx Bd.returns (hb hby d3_10) hr
    · show Q3 Z a1 p2 p3 z_a1 c_a1 h0 n0 _ T4.heap _
      rw [e4]
      exact ⟨rfl, N4, c7, (by rw [eq2]; exact c6)⟩
  · have eq3 : (f3_o0 p2 p3 z_a1 c_a1) = c_a1 := by unfold f3_o0; simp only [if_neg hc3]
    obtain ⟨fs, hr, hrun, hended, hW, hsame⟩ := X0.leave (v := none) (fun _ => rfl)
    refine ⟨_, _, pre1 _ ?_, hrun, hended, _, _, rfl, ?_, ⟨_, rfl⟩, hW, hsame.mono (by decide) (by decide)⟩
    · show Steps p.tables e below (s₁.setTop (mkF m 3 #[.val (.ref a1), .val (.int p2), .val (.int p3)] [(.int z_a1), (.int p2)])) _
      refine XS.icmpYes X0.here hx rfl (pc0 := 3) (pc' := 10) rfl (hb hby d3_3) rfl (flt hc3).2.1 (by decide) (by decide) ?_
      show Steps p.tables e below (s₁.setTop (mkF m 10 #[.val (.ref a1), .val (.int p2), .val (.int p3)] [])) _
      exact X0.returnOut hx Bd.returns (hb hby d3_10) hr
    · show Q3 Z a1 p2 p3 z_a1 c_a1 h0 n0 _ s₁.heap _
      rw [e0]
      exact ⟨rfl, N0, (Keep.refl h0 [a1]), (by rw [eq3]; exact V_a1)⟩
theorem d6_0 : decode method_6_code 0 = .ok (.iload_n 0, 1) := by decide +kernel
theorem d6_1 : decode method_6_code 1 = .ok (.bipush 48, 2) := by decide +kernel
theorem d6_3 : decode method_6_code 3 = .ok (.if_icmp .lt 13, 3) := by decide +kernel
theorem d6_6 : decode method_6_code 6 = .ok (.iload_n 0, 1) := by decide +kernel
theorem d6_7 : decode method_6_code 7 = .ok (.bipush 57, 2) := by decide +kernel
theorem d6_9 : decode method_6_code 9 = .ok (.if_icmp .gt 7, 3) := by decide +kernel
theorem d6_12 : decode method_6_code 12 = .ok (.iconst 1, 1) := by decide +kernel
theorem d6_13 : decode method_6_code 13 = .ok (.goto 4, 3) := by decide +kernel
theorem d6_16 : decode method_6_code 16 = .ok (.iconst 0, 1) := by decide +kernel
theorem d6_17 : decode method_6_code 17 = .ok (.ireturn, 1) := by decide +kernel
theorem ef_6 (m : MethodId) (x0 : Int32) : entryFrame m #[(.int x0)] 1 = mkF m 0 #[.val (.int x0)] [] := by first | (simp [entryFrame, mkF, argsToLocals, Value.category]; done) | rfl
def f6 (p1 : Int32) : Int32 := (if p1 < (48 : Int32) then (0 : Int32) else (if (57 : Int32) < p1 then (0 : Int32) else (1 : Int32)))
def Q6 (Z : State) (p1 : Int32) (h0 : Heap) (n0 : Nat) (v : Option Value) (h : Heap) (L : List Loc) : Prop := v = some (.int (f6 p1)) ∧ Fr n0 L ∧ h = h0
set_option maxRecDepth 65536 in
set_option maxHeartbeats 40000000 in
theorem rm6 (l : Launch) (Z : State) (a0 : Array Value) (hw : ∀ d ∈ tables_1, d.before a0 Z = true) (ws : List Jvm.Cond) (p1 : Int32) (h0 : Heap) (n0 : Nat) (Z0 : n0 ≤ h0.size) :
    MetFree l (⟨"com/example/titlepoint/titlepoint/Iso2709ReaderBeginsWithRecordLengthPinLaw", "digit", "(B)Z"⟩ : MethodName) (head1 (Jvm.Cond.code (⟨"com/example/titlepoint/titlepoint/Iso2709ReaderBeginsWithRecordLengthPinLaw", "digit", "(B)Z"⟩ : MethodName) method_6_code 1 (some .boolean) :: ws) ({ frames := 0, cells := 0, slots := 0, locals := 0 } : Room)) (fun a U => a = #[(.int p1)] ∧ Z.Warmed39 U.vm ∧ U.heap = h0) (fun _ _ _ _ _ => True) (fun _ U o U' => ∃ v L, o = .returned v ∧ Q6 Z p1 h0 n0 v U'.heap L ∧ FrameEnd U o U' L ({ frames := 0, cells := 0, slots := 0, locals := 0 } : Room).cells ({ frames := 0, cells := 0, slots := 0, locals := 0 } : Room).slots) := by
  refine MetFree.of_bodySF (plainFor_of_name pn_0) hisR ?_
  intro p e s m args below meth c s₁ Bd hml0 hP hK
  obtain ⟨rfl, hZ, hh⟩ := hP
  have hx := Bd.exec
  have hby := Bd.bytes
  have hml : c.maxLocals = 1 := hml0
  have hown : s.vm.findClass "com/example/titlepoint/titlepoint/Iso2709ReaderBeginsWithRecordLengthPinLaw" = some m.cls := findClass_of_methodNamed Bd.named
  have hnm := (name_of_methodNamed Bd.named Bd.method).1
  have X0 : Stand p l e ({ frames := 0, cells := 0, slots := 0, locals := 0 } : Room) s m #[(.int p1)] below meth c s₁ [] 0 0 := Stand.of_body Bd
  have e0 : s₁.heap = h0 := by rw [← hh, Bd.state]; rfl
  have N0 := Fr.nil n0
  have pre0 : ∀ t, Steps p.tables e below (s₁.setTop (mkF m 0 #[.val (.int p1)] [])) t → Steps p.tables e below (s₁.setTop (entryFrame m #[(.int p1)] 1)) t := fun t k => castTop (ef_6 m p1) k
  have pre1 : ∀ t, Steps p.tables e below (s₁.setTop (mkF m 3 #[.val (.int p1)] [(.int (48 : Int32)), (.int p1)])) t → Steps p.tables e below (s₁.setTop (entryFrame m #[(.int p1)] 1)) t := by
    intro t k
    refine pre0 t ?_
    show Steps p.tables e below (s₁.setTop (mkF m 0 #[.val (.int p1)] [])) _
    refine XS.iloadN X0.here hx rfl (hb hby d6_0) rfl ?_
    show Steps p.tables e below (s₁.setTop (mkF m 1 #[.val (.int p1)] [(.int p1)])) _
    refine XS.bipush X0.here hx rfl (hb hby d6_1) ?_
    exact k
  by_cases hc3 : p1 < (48 : Int32)
  · have eq2 : (f6 p1) = (0 : Int32) := by unfold f6; simp only [if_pos hc3]
    obtain ⟨fs, hr, hrun, hended, hW, hsame⟩ := X0.leave (v := some (.int (0 : Int32))) (fun h => by rw [Bd.returns] at h; cases h)
    refine ⟨_, _, pre1 _ ?_, hrun, hended, _, _, rfl, ?_, ⟨_, rfl⟩, hW, hsame.mono (by decide) (by decide)⟩
    · show Steps p.tables e below (s₁.setTop (mkF m 3 #[.val (.int p1)] [(.int (48 : Int32)), (.int p1)])) _
      refine XS.icmpYes X0.here hx rfl (pc0 := 3) (pc' := 16) rfl (hb hby d6_3) rfl (tlt hc3).1 (by decide) (by decide) ?_
      show Steps p.tables e below (s₁.setTop (mkF m 16 #[.val (.int p1)] [])) _
      refine XS.iconst X0.here hx rfl (hb hby d6_16) ?_
      show Steps p.tables e below (s₁.setTop (mkF m 17 #[.val (.int p1)] [(.int (0 : Int32))])) _
      exact retN X0 hx (t := .boolean) Bd.returns (by simp) (hb hby d6_17) hr
    · show Q6 Z p1 h0 n0 _ s₁.heap _
      rw [e0]
      exact ⟨by rw [eq2], N0, rfl⟩
  · have pre3 : ∀ t, Steps p.tables e below (s₁.setTop (mkF m 9 #[.val (.int p1)] [(.int (57 : Int32)), (.int p1)])) t → Steps p.tables e below (s₁.setTop (entryFrame m #[(.int p1)] 1)) t := by
      intro t k
      refine pre1 t ?_
      show Steps p.tables e below (s₁.setTop (mkF m 3 #[.val (.int p1)] [(.int (48 : Int32)), (.int p1)])) _
      refine XS.icmpNo X0.here hx rfl (hb hby d6_3) rfl (flt hc3).1 ?_
      show Steps p.tables e below (s₁.setTop (mkF m 6 #[.val (.int p1)] [])) _
      refine XS.iloadN X0.here hx rfl (hb hby d6_6) rfl ?_
      show Steps p.tables e below (s₁.setTop (mkF m 7 #[.val (.int p1)] [(.int p1)])) _
      refine XS.bipush X0.here hx rfl (hb hby d6_7) ?_
      exact k
    by_cases hc9 : (57 : Int32) < p1
    · have eq4 : (f6 p1) = (0 : Int32) := by unfold f6; simp only [if_neg hc3, if_pos hc9]
      obtain ⟨fs, hr, hrun, hended, hW, hsame⟩ := X0.leave (v := some (.int (0 : Int32))) (fun h => by rw [Bd.returns] at h; cases h)
      refine ⟨_, _, pre3 _ ?_, hrun, hended, _, _, rfl, ?_, ⟨_, rfl⟩, hW, hsame.mono (by decide) (by decide)⟩
      · show Steps p.tables e below (s₁.setTop (mkF m 9 #[.val (.int p1)] [(.int (57 : Int32)), (.int p1)])) _
        refine XS.icmpYes X0.here hx rfl (pc0 := 9) (pc' := 16) rfl (hb hby d6_9) rfl (tlt hc9).2.2.1 (by decide) (by decide) ?_
        show Steps p.tables e below (s₁.setTop (mkF m 16 #[.val (.int p1)] [])) _
        refine XS.iconst X0.here hx rfl (hb hby d6_16) ?_
        show Steps p.tables e below (s₁.setTop (mkF m 17 #[.val (.int p1)] [(.int (0 : Int32))])) _
        exact retN X0 hx (t := .boolean) Bd.returns (by simp) (hb hby d6_17) hr
      · show Q6 Z p1 h0 n0 _ s₁.heap _
        rw [e0]
        exact ⟨by rw [eq4], N0, rfl⟩
    · have eq5 : (f6 p1) = (1 : Int32) := by unfold f6; simp only [if_neg hc3, if_neg hc9]
      obtain ⟨fs, hr, hrun, hended, hW, hsame⟩ := X0.leave (v := some (.int (1 : Int32))) (fun h => by rw [Bd.returns] at h; cases h)
      refine ⟨_, _, pre3 _ ?_, hrun, hended, _, _, rfl, ?_, ⟨_, rfl⟩, hW, hsame.mono (by decide) (by decide)⟩
      · show Steps p.tables e below (s₁.setTop (mkF m 9 #[.val (.int p1)] [(.int (57 : Int32)), (.int p1)])) _
        refine XS.icmpNo X0.here hx rfl (hb hby d6_9) rfl (flt hc9).2.2.1 ?_
        show Steps p.tables e below (s₁.setTop (mkF m 12 #[.val (.int p1)] [])) _
        refine XS.iconst X0.here hx rfl (hb hby d6_12) ?_
        show Steps p.tables e below (s₁.setTop (mkF m 13 #[.val (.int p1)] [(.int (1 : Int32))])) _
        refine XS.goto X0.here hx rfl (pc0 := 13) (pc' := 17) rfl (hb hby d6_13) (by decide) (by decide) ?_
        show Steps p.tables e below (s₁.setTop (mkF m 17 #[.val (.int p1)] [(.int (1 : Int32))])) _
        exact retN X0 hx (t := .boolean) Bd.returns (by simp) (hb hby d6_17) hr
      · show Q6 Z p1 h0 n0 _ s₁.heap _
        rw [e0]
        exact ⟨by rw [eq5], N0, rfl⟩
theorem pn_1 : plainName "com/example/titlepoint/titlepoint/Iso2709Reader" = true := by first | (simp [plainName, overriddenIn]; done) | decide +kernel
theorem d5_0 : decode prog_8_method_3_code 0 = .ok (.iload_n 1, 1) := by decide +kernel
theorem d5_1 : decode prog_8_method_3_code 1 = .ok (.iload_n 2, 1) := by decide +kernel
theorem d5_2 : decode prog_8_method_3_code 2 = .ok (.if_icmp .ge 13, 3) := by decide +kernel
theorem d5_5 : decode prog_8_method_3_code 5 = .ok (.aload_n 0, 1) := by decide +kernel
theorem d5_6 : decode prog_8_method_3_code 6 = .ok (.iload_n 1, 1) := by decide +kernel
theorem d5_7 : decode prog_8_method_3_code 7 = .ok (.baload, 1) := by decide +kernel
theorem d5_8 : decode prog_8_method_3_code 8 = .ok (.bipush 10, 2) := by decide +kernel
theorem d5_10 : decode prog_8_method_3_code 10 = .ok (.if_icmp .ne 5, 3) := by decide +kernel
theorem d5_13 : decode prog_8_method_3_code 13 = .ok (.iconst 1, 1) := by decide +kernel
theorem d5_14 : decode prog_8_method_3_code 14 = .ok (.ireturn, 1) := by decide +kernel
theorem d5_15 : decode prog_8_method_3_code 15 = .ok (.iload_n 1, 1) := by decide +kernel
theorem d5_16 : decode prog_8_method_3_code 16 = .ok (.iconst 1, 1) := by decide +kernel
theorem d5_17 : decode prog_8_method_3_code 17 = .ok (.iadd, 1) := by decide +kernel
theorem d5_18 : decode prog_8_method_3_code 18 = .ok (.iload_n 2, 1) := by decide +kernel
theorem d5_19 : decode prog_8_method_3_code 19 = .ok (.if_icmp .ge 23, 3) := by decide +kernel
theorem d5_22 : decode prog_8_method_3_code 22 = .ok (.aload_n 0, 1) := by decide +kernel
theorem d5_23 : decode prog_8_method_3_code 23 = .ok (.iload_n 1, 1) := by decide +kernel
theorem d5_24 : decode prog_8_method_3_code 24 = .ok (.baload, 1) := by decide +kernel
theorem d5_25 : decode prog_8_method_3_code 25 = .ok (.bipush 13, 2) := by decide +kernel
theorem d5_27 : decode prog_8_method_3_code 27 = .ok (.if_icmp .ne 15, 3) := by decide +kernel
theorem d5_30 : decode prog_8_method_3_code 30 = .ok (.aload_n 0, 1) := by decide +kernel
theorem d5_31 : decode prog_8_method_3_code 31 = .ok (.iload_n 1, 1) := by decide +kernel
theorem d5_32 : decode prog_8_method_3_code 32 = .ok (.iconst 1, 1) := by decide +kernel
theorem d5_33 : decode prog_8_method_3_code 33 = .ok (.iadd, 1) := by decide +kernel
theorem d5_34 : decode prog_8_method_3_code 34 = .ok (.baload, 1) := by decide +kernel
theorem d5_35 : decode prog_8_method_3_code 35 = .ok (.bipush 10, 2) := by decide +kernel
theorem d5_37 : decode prog_8_method_3_code 37 = .ok (.if_icmp .ne 5, 3) := by decide +kernel
theorem d5_40 : decode prog_8_method_3_code 40 = .ok (.iconst 2, 1) := by decide +kernel
theorem d5_41 : decode prog_8_method_3_code 41 = .ok (.ireturn, 1) := by decide +kernel
theorem d5_42 : decode prog_8_method_3_code 42 = .ok (.iconst 0, 1) := by decide +kernel
theorem d5_43 : decode prog_8_method_3_code 43 = .ok (.ireturn, 1) := by decide +kernel
theorem ef_5 (m : MethodId) (x0 : Addr) (x1 : Int32) (x2 : Int32) : entryFrame m #[(.ref x0), (.int x1), (.int x2)] 3 = mkF m 0 #[.val (.ref x0), .val (.int x1), .val (.int x2)] [] := by first | (simp [entryFrame, mkF, argsToLocals, Value.category]; done) | rfl
def f5 (p2 : Int32) (p3 : Int32) (z_a1 : Int32) (c_a1 : Nat → Int32) : Int32 := (if p2 < p3 then (if (c_a1 (p2).toNatClampNeg) = (10 : Int32) then (1 : Int32) else (if (p2 + (1 : Int32)) < p3 then (if (c_a1 (p2).toNatClampNeg) = (13 : Int32) then (if (c_a1 ((p2 + (1 : Int32))).toNatClampNeg) = (10 : Int32) then (2 : Int32) else (0 : Int32)) else (0 : Int32)) else (0 : Int32))) else (if (p2 + (1 : Int32)) < p3 then (if (c_a1 (p2).toNatClampNeg) = (13 : Int32) then (if (c_a1 ((p2 + (1 : Int32))).toNatClampNeg) = (10 : Int32) then (2 : Int32) else (0 : Int32)) else (0 : Int32)) else (0 : Int32)))
def Q5 (Z : State) (a1 : Addr) (p2 : Int32) (p3 : Int32) (z_a1 : Int32) (c_a1 : Nat → Int32) (h0 : Heap) (n0 : Nat) (v : Option Value) (h : Heap) (L : List Loc) : Prop := v = some (.int (f5 p2 p3 z_a1 c_a1)) ∧ Fr n0 L ∧ h = h0
set_option maxRecDepth 65536 in
set_option maxHeartbeats 40000000 in
theorem rm5 (l : Launch) (Z : State) (a0 : Array Value) (hw : ∀ d ∈ tables_1, d.before a0 Z = true) (ws : List Jvm.Cond) (a1 : Addr) (p2 : Int32) (p3 : Int32) (z_a1 : Int32) (c_a1 : Nat → Int32) (h0 : Heap) (n0 : Nat) (Z0 : n0 ≤ h0.size) (V_a1 : IAr Z h0 a1 .byte z_a1 c_a1) (hq : 0 ≤ p2.toInt ∧ p2.toInt ≤ z_a1.toInt ∧ p3.toInt ≤ z_a1.toInt ∧ z_a1.toInt ≤ 13) :
    MetFree l (⟨"com/example/titlepoint/titlepoint/Iso2709Reader", "lineEnd", "([BII)I"⟩ : MethodName) (head1 (Jvm.Cond.code (⟨"com/example/titlepoint/titlepoint/Iso2709Reader", "lineEnd", "([BII)I"⟩ : MethodName) prog_8_method_3_code 3 (some .int) :: ws) ({ frames := 0, cells := 0, slots := 0, locals := 0 } : Room)) (fun a U => a = #[(.ref a1), (.int p2), (.int p3)] ∧ Z.Warmed39 U.vm ∧ U.heap = h0) (fun _ _ _ _ _ => True) (fun _ U o U' => ∃ v L, o = .returned v ∧ Q5 Z a1 p2 p3 z_a1 c_a1 h0 n0 v U'.heap L ∧ FrameEnd U o U' L ({ frames := 0, cells := 0, slots := 0, locals := 0 } : Room).cells ({ frames := 0, cells := 0, slots := 0, locals := 0 } : Room).slots) := by
  refine MetFree.of_bodySF (plainFor_of_name pn_1) hisR ?_
  intro p e s m args below meth c s₁ Bd hml0 hP hK
  obtain ⟨rfl, hZ, hh⟩ := hP
  have hx := Bd.exec
  have hby := Bd.bytes
  have hml : c.maxLocals = 3 := hml0
  have hown : s.vm.findClass "com/example/titlepoint/titlepoint/Iso2709Reader" = some m.cls := findClass_of_methodNamed Bd.named
  have hnm := (name_of_methodNamed Bd.named Bd.method).1
  have X0 : Stand p l e ({ frames := 0, cells := 0, slots := 0, locals := 0 } : Room) s m #[(.ref a1), (.int p2), (.int p3)] below meth c s₁ [] 0 0 := Stand.of_body Bd
  have e0 : s₁.heap = h0 := by rw [← hh, Bd.state]; rfl
  have N0 := Fr.nil n0
  have pre0 : ∀ t, Steps p.tables e below (s₁.setTop (mkF m 0 #[.val (.ref a1), .val (.int p2), .val (.int p3)] [])) t → Steps p.tables e below (s₁.setTop (entryFrame m #[(.ref a1), (.int p2), (.int p3)] 3)) t := fun t k => castTop (ef_5 m a1 p2 p3) k
  have pre1 : ∀ t, Steps p.tables e below (s₁.setTop (mkF m 2 #[.val (.ref a1), .val (.int p2), .val (.int p3)] [(.int p3), (.int p2)])) t → Steps p.tables e below (s₁.setTop (entryFrame m #[(.ref a1), (.int p2), (.int p3)] 3)) t := by
    intro t k
    refine pre0 t ?_
    show Steps p.tables e below (s₁.setTop (mkF m 0 #[.val (.ref a1), .val (.int p2), .val (.int p3)] [])) _
    refine XS.iloadN X0.here hx rfl (hb hby d5_0) rfl ?_
    show Steps p.tables e below (s₁.setTop (mkF m 1 #[.val (.ref a1), .val (.int p2), .val (.int p3)] [(.int p2)])) _
    refine XS.iloadN X0.here hx rfl (hb hby d5_1) rfl ?_
    exact k
  by_cases hc2 : p2 < p3
  · have pre2 : ∀ t, Steps p.tables e below (s₁.setTop (mkF m 10 #[.val (.ref a1), .val (.int p2), .val (.int p3)] [(.int (10 : Int32)), (.int (c_a1 (p2).toNatClampNeg))])) t → Steps p.tables e below (s₁.setTop (entryFrame m #[(.ref a1), (.int p2), (.int p3)] 3)) t := by
      intro t k
      refine pre1 t ?_
      show Steps p.tables e below (s₁.setTop (mkF m 2 #[.val (.ref a1), .val (.int p2), .val (.int p3)] [(.int p3), (.int p2)])) _
      refine XS.icmpNo X0.here hx rfl (hb hby d5_2) rfl (tlt hc2).2.1 ?_
      show Steps p.tables e below (s₁.setTop (mkF m 5 #[.val (.ref a1), .val (.int p2), .val (.int p3)] [])) _
      refine XS.aloadN X0.here hx rfl (hb hby d5_5) rfl rfl ?_
      show Steps p.tables e below (s₁.setTop (mkF m 6 #[.val (.ref a1), .val (.int p2), .val (.int p3)] [(.ref a1)])) _
      refine XS.iloadN X0.here hx rfl (hb hby d5_6) rfl ?_
      show Steps p.tables e below (s₁.setTop (mkF m 7 #[.val (.ref a1), .val (.int p2), .val (.int p3)] [(.int p2), (.ref a1)])) _
      refine ldB X0 hx hZ e0 V_a1 (j := p2) (own_i1 hq hc2) (g := (mkF m 7 #[.val (.ref a1), .val (.int p2), .val (.int p3)] [(.int p2), (.ref a1)])) rfl rfl (hb hby d5_7) ?_
      show Steps p.tables e below (s₁.setTop (mkF m 8 #[.val (.ref a1), .val (.int p2), .val (.int p3)] [(.int (c_a1 (p2).toNatClampNeg))])) _
      refine XS.bipush X0.here hx rfl (hb hby d5_8) ?_
      exact k
    by_cases hc10 : (c_a1 (p2).toNatClampNeg) = (10 : Int32)
    · have eq3 : (f5 p2 p3 z_a1 c_a1) = (1 : Int32) := by unfold f5; simp only [if_pos hc2, if_pos hc10]
      obtain ⟨fs, hr, hrun, hended, hW, hsame⟩ := X0.leave (v := some (.int (1 : Int32))) (fun h => by rw [Bd.returns] at h; cases h)
      refine ⟨_, _, pre2 _ ?_, hrun, hended, _, _, rfl, ?_, ⟨_, rfl⟩, hW, hsame.mono (by decide) (by decide)⟩
      · show Steps p.tables e below (s₁.setTop (mkF m 10 #[.val (.ref a1), .val (.int p2), .val (.int p3)] [(.int (10 : Int32)), (.int (c_a1 (p2).toNatClampNeg))])) _
        refine XS.icmpNo X0.here hx rfl (hb hby d5_10) rfl (teq hc10).2 ?_
        show Steps p.tables e below (s₁.setTop (mkF m 13 #[.val (.ref a1), .val (.int p2), .val (.int p3)] [])) _
        refine XS.iconst X0.here hx rfl (hb hby d5_13) ?_
        show Steps p.tables e below (s₁.setTop (mkF m 14 #[.val (.ref a1), .val (.int p2), .val (.int p3)] [(.int (1 : Int32))])) _
        exact retI X0 hx Bd.returns (hb hby d5_14) hr
      · show Q5 Z a1 p2 p3 z_a1 c_a1 h0 n0 _ s₁.heap _
        rw [e0]
        exact ⟨by rw [eq3], N0, rfl⟩
    · have pre4 : ∀ t, Steps p.tables e below (s₁.setTop (mkF m 19 #[.val (.ref a1), .val (.int p2), .val (.int p3)] [(.int p3), (.int (p2 + (1 : Int32)))])) t → Steps p.tables e below (s₁.setTop (entryFrame m #[(.ref a1), (.int p2), (.int p3)] 3)) t := by
        intro t k
        refine pre2 t ?_
        show Steps p.tables e below (s₁.setTop (mkF m 10 #[.val (.ref a1), .val (.int p2), .val (.int p3)] [(.int (10 : Int32)), (.int (c_a1 (p2).toNatClampNeg))])) _
        refine XS.icmpYes X0.here hx rfl (pc0 := 10) (pc' := 15) rfl (hb hby d5_10) rfl (feq hc10).2 (by decide) (by decide) ?_
        show Steps p.tables e below (s₁.setTop (mkF m 15 #[.val (.ref a1), .val (.int p2), .val (.int p3)] [])) _
        refine XS.iloadN X0.here hx rfl (hb hby d5_15) rfl ?_
        show Steps p.tables e below (s₁.setTop (mkF m 16 #[.val (.ref a1), .val (.int p2), .val (.int p3)] [(.int p2)])) _
        refine XS.iconst X0.here hx rfl (hb hby d5_16) ?_
        show Steps p.tables e below (s₁.setTop (mkF m 17 #[.val (.ref a1), .val (.int p2), .val (.int p3)] [(.int (1 : Int32)), (.int p2)])) _
        refine XS.iadd X0.here hx rfl (hb hby d5_17) rfl ?_
        show Steps p.tables e below (s₁.setTop (mkF m 18 #[.val (.ref a1), .val (.int p2), .val (.int p3)] [(.int (p2 + (1 : Int32)))])) _
        refine XS.iloadN X0.here hx rfl (hb hby d5_18) rfl ?_
        exact k
      by_cases hc19 : (p2 + (1 : Int32)) < p3
      · have pre5 : ∀ t, Steps p.tables e below (s₁.setTop (mkF m 27 #[.val (.ref a1), .val (.int p2), .val (.int p3)] [(.int (13 : Int32)), (.int (c_a1 (p2).toNatClampNeg))])) t → Steps p.tables e below (s₁.setTop (entryFrame m #[(.ref a1), (.int p2), (.int p3)] 3)) t := by
          intro t k
          refine pre4 t ?_
          show Steps p.tables e below (s₁.setTop (mkF m 19 #[.val (.ref a1), .val (.int p2), .val (.int p3)] [(.int p3), (.int (p2 + (1 : Int32)))])) _
          refine XS.icmpNo X0.here hx rfl (hb hby d5_19) rfl (tlt hc19).2.1 ?_
          show Steps p.tables e below (s₁.setTop (mkF m 22 #[.val (.ref a1), .val (.int p2), .val (.int p3)] [])) _
          refine XS.aloadN X0.here hx rfl (hb hby d5_22) rfl rfl ?_
          show Steps p.tables e below (s₁.setTop (mkF m 23 #[.val (.ref a1), .val (.int p2), .val (.int p3)] [(.ref a1)])) _
          refine XS.iloadN X0.here hx rfl (hb hby d5_23) rfl ?_
          show Steps p.tables e below (s₁.setTop (mkF m 24 #[.val (.ref a1), .val (.int p2), .val (.int p3)] [(.int p2), (.ref a1)])) _
          refine ldB X0 hx hZ e0 V_a1 (j := p2) (own_i2 hq hc19) (g := (mkF m 24 #[.val (.ref a1), .val (.int p2), .val (.int p3)] [(.int p2), (.ref a1)])) rfl rfl (hb hby d5_24) ?_
          show Steps p.tables e below (s₁.setTop (mkF m 25 #[.val (.ref a1), .val (.int p2), .val (.int p3)] [(.int (c_a1 (p2).toNatClampNeg))])) _
          refine XS.bipush X0.here hx rfl (hb hby d5_25) ?_
          exact k
        by_cases hc27 : (c_a1 (p2).toNatClampNeg) = (13 : Int32)
        · have pre6 : ∀ t, Steps p.tables e below (s₁.setTop (mkF m 37 #[.val (.ref a1), .val (.int p2), .val (.int p3)] [(.int (10 : Int32)), (.int (c_a1 ((p2 + (1 : Int32))).toNatClampNeg))])) t → Steps p.tables e below (s₁.setTop (entryFrame m #[(.ref a1), (.int p2), (.int p3)] 3)) t := by
            intro t k
            refine pre5 t ?_
            show Steps p.tables e below (s₁.setTop (mkF m 27 #[.val (.ref a1), .val (.int p2), .val (.int p3)] [(.int (13 : Int32)), (.int (c_a1 (p2).toNatClampNeg))])) _
            refine XS.icmpNo X0.here hx rfl (hb hby d5_27) rfl (teq hc27).2 ?_
            show Steps p.tables e below (s₁.setTop (mkF m 30 #[.val (.ref a1), .val (.int p2), .val (.int p3)] [])) _
            refine XS.aloadN X0.here hx rfl (hb hby d5_30) rfl rfl ?_
            show Steps p.tables e below (s₁.setTop (mkF m 31 #[.val (.ref a1), .val (.int p2), .val (.int p3)] [(.ref a1)])) _
            refine XS.iloadN X0.here hx rfl (hb hby d5_31) rfl ?_
            show Steps p.tables e below (s₁.setTop (mkF m 32 #[.val (.ref a1), .val (.int p2), .val (.int p3)] [(.int p2), (.ref a1)])) _
            refine XS.iconst X0.here hx rfl (hb hby d5_32) ?_
            show Steps p.tables e below (s₁.setTop (mkF m 33 #[.val (.ref a1), .val (.int p2), .val (.int p3)] [(.int (1 : Int32)), (.int p2), (.ref a1)])) _
            refine XS.iadd X0.here hx rfl (hb hby d5_33) rfl ?_
            show Steps p.tables e below (s₁.setTop (mkF m 34 #[.val (.ref a1), .val (.int p2), .val (.int p3)] [(.int (p2 + (1 : Int32))), (.ref a1)])) _
            refine ldB X0 hx hZ e0 V_a1 (j := (p2 + (1 : Int32))) (own_i3 hq hc19) (g := (mkF m 34 #[.val (.ref a1), .val (.int p2), .val (.int p3)] [(.int (p2 + (1 : Int32))), (.ref a1)])) rfl rfl (hb hby d5_34) ?_
            show Steps p.tables e below (s₁.setTop (mkF m 35 #[.val (.ref a1), .val (.int p2), .val (.int p3)] [(.int (c_a1 ((p2 + (1 : Int32))).toNatClampNeg))])) _
            refine XS.bipush X0.here hx rfl (hb hby d5_35) ?_
            exact k
          by_cases hc37 : (c_a1 ((p2 + (1 : Int32))).toNatClampNeg) = (10 : Int32)
          · have eq7 : (f5 p2 p3 z_a1 c_a1) = (2 : Int32) := by unfold f5; simp only [if_pos hc2, if_neg hc10, if_pos hc19, if_pos hc27, if_pos hc37]
            obtain ⟨fs, hr, hrun, hended, hW, hsame⟩ := X0.leave (v := some (.int (2 : Int32))) (fun h => by rw [Bd.returns] at h; cases h)
            refine ⟨_, _, pre6 _ ?_, hrun, hended, _, _, rfl, ?_, ⟨_, rfl⟩, hW, hsame.mono (by decide) (by decide)⟩
            · show Steps p.tables e below (s₁.setTop (mkF m 37 #[.val (.ref a1), .val (.int p2), .val (.int p3)] [(.int (10 : Int32)), (.int (c_a1 ((p2 + (1 : Int32))).toNatClampNeg))])) _
              refine XS.icmpNo X0.here hx rfl (hb hby d5_37) rfl (teq hc37).2 ?_
              show Steps p.tables e below (s₁.setTop (mkF m 40 #[.val (.ref a1), .val (.int p2), .val (.int p3)] [])) _
              refine XS.iconst X0.here hx rfl (hb hby d5_40) ?_
              show Steps p.tables e below (s₁.setTop (mkF m 41 #[.val (.ref a1), .val (.int p2), .val (.int p3)] [(.int (2 : Int32))])) _
              exact retI X0 hx Bd.returns (hb hby d5_41) hr
            · show Q5 Z a1 p2 p3 z_a1 c_a1 h0 n0 _ s₁.heap _
              rw [e0]
              exact ⟨by rw [eq7], N0, rfl⟩
          · have eq8 : (f5 p2 p3 z_a1 c_a1) = (0 : Int32) := by unfold f5; simp only [if_pos hc2, if_neg hc10, if_pos hc19, if_pos hc27, if_neg hc37]
            obtain ⟨fs, hr, hrun, hended, hW, hsame⟩ := X0.leave (v := some (.int (0 : Int32))) (fun h => by rw [Bd.returns] at h; cases h)
            refine ⟨_, _, pre6 _ ?_, hrun, hended, _, _, rfl, ?_, ⟨_, rfl⟩, hW, hsame.mono (by decide) (by decide)⟩
            · show Steps p.tables e below (s₁.setTop (mkF m 37 #[.val (.ref a1), .val (.int p2), .val (.int p3)] [(.int (10 : Int32)), (.int (c_a1 ((p2 + (1 : Int32))).toNatClampNeg))])) _
              refine XS.icmpYes X0.here hx rfl (pc0 := 37) (pc' := 42) rfl (hb hby d5_37) rfl (feq hc37).2 (by decide) (by decide) ?_
              show Steps p.tables e below (s₁.setTop (mkF m 42 #[.val (.ref a1), .val (.int p2), .val (.int p3)] [])) _
              refine XS.iconst X0.here hx rfl (hb hby d5_42) ?_
              show Steps p.tables e below (s₁.setTop (mkF m 43 #[.val (.ref a1), .val (.int p2), .val (.int p3)] [(.int (0 : Int32))])) _
              exact retI X0 hx Bd.returns (hb hby d5_43) hr
            · show Q5 Z a1 p2 p3 z_a1 c_a1 h0 n0 _ s₁.heap _
              rw [e0]
              exact ⟨by rw [eq8], N0, rfl⟩
        · have eq9 : (f5 p2 p3 z_a1 c_a1) = (0 : Int32) := by unfold f5; simp only [if_pos hc2, if_neg hc10, if_pos hc19, if_neg hc27]
          obtain ⟨fs, hr, hrun, hended, hW, hsame⟩ := X0.leave (v := some (.int (0 : Int32))) (fun h => by rw [Bd.returns] at h; cases h)
          refine ⟨_, _, pre5 _ ?_, hrun, hended, _, _, rfl, ?_, ⟨_, rfl⟩, hW, hsame.mono (by decide) (by decide)⟩
          · show Steps p.tables e below (s₁.setTop (mkF m 27 #[.val (.ref a1), .val (.int p2), .val (.int p3)] [(.int (13 : Int32)), (.int (c_a1 (p2).toNatClampNeg))])) _
            refine XS.icmpYes X0.here hx rfl (pc0 := 27) (pc' := 42) rfl (hb hby d5_27) rfl (feq hc27).2 (by decide) (by decide) ?_
            show Steps p.tables e below (s₁.setTop (mkF m 42 #[.val (.ref a1), .val (.int p2), .val (.int p3)] [])) _
            refine XS.iconst X0.here hx rfl (hb hby d5_42) ?_
            show Steps p.tables e below (s₁.setTop (mkF m 43 #[.val (.ref a1), .val (.int p2), .val (.int p3)] [(.int (0 : Int32))])) _
            exact retI X0 hx Bd.returns (hb hby d5_43) hr
          · show Q5 Z a1 p2 p3 z_a1 c_a1 h0 n0 _ s₁.heap _
            rw [e0]
            exact ⟨by rw [eq9], N0, rfl⟩
      · have eq10 : (f5 p2 p3 z_a1 c_a1) = (0 : Int32) := by unfold f5; simp only [if_pos hc2, if_neg hc10, if_neg hc19]
        obtain ⟨fs, hr, hrun, hended, hW, hsame⟩ := X0.leave (v := some (.int (0 : Int32))) (fun h => by rw [Bd.returns] at h; cases h)
        refine ⟨_, _, pre4 _ ?_, hrun, hended, _, _, rfl, ?_, ⟨_, rfl⟩, hW, hsame.mono (by decide) (by decide)⟩
        · show Steps p.tables e below (s₁.setTop (mkF m 19 #[.val (.ref a1), .val (.int p2), .val (.int p3)] [(.int p3), (.int (p2 + (1 : Int32)))])) _
          refine XS.icmpYes X0.here hx rfl (pc0 := 19) (pc' := 42) rfl (hb hby d5_19) rfl (flt hc19).2.1 (by decide) (by decide) ?_
          show Steps p.tables e below (s₁.setTop (mkF m 42 #[.val (.ref a1), .val (.int p2), .val (.int p3)] [])) _
          refine XS.iconst X0.here hx rfl (hb hby d5_42) ?_
          show Steps p.tables e below (s₁.setTop (mkF m 43 #[.val (.ref a1), .val (.int p2), .val (.int p3)] [(.int (0 : Int32))])) _
          exact retI X0 hx Bd.returns (hb hby d5_43) hr
        · show Q5 Z a1 p2 p3 z_a1 c_a1 h0 n0 _ s₁.heap _
          rw [e0]
          exact ⟨by rw [eq10], N0, rfl⟩
  · have pre11 : ∀ t, Steps p.tables e below (s₁.setTop (mkF m 19 #[.val (.ref a1), .val (.int p2), .val (.int p3)] [(.int p3), (.int (p2 + (1 : Int32)))])) t → Steps p.tables e below (s₁.setTop (entryFrame m #[(.ref a1), (.int p2), (.int p3)] 3)) t := by
      intro t k
      refine pre1 t ?_
      show Steps p.tables e below (s₁.setTop (mkF m 2 #[.val (.ref a1), .val (.int p2), .val (.int p3)] [(.int p3), (.int p2)])) _
      refine XS.icmpYes X0.here hx rfl (pc0 := 2) (pc' := 15) rfl (hb hby d5_2) rfl (flt hc2).2.1 (by decide) (by decide) ?_
      show Steps p.tables e below (s₁.setTop (mkF m 15 #[.val (.ref a1), .val (.int p2), .val (.int p3)] [])) _
      refine XS.iloadN X0.here hx rfl (hb hby d5_15) rfl ?_
      show Steps p.tables e below (s₁.setTop (mkF m 16 #[.val (.ref a1), .val (.int p2), .val (.int p3)] [(.int p2)])) _
      refine XS.iconst X0.here hx rfl (hb hby d5_16) ?_
      show Steps p.tables e below (s₁.setTop (mkF m 17 #[.val (.ref a1), .val (.int p2), .val (.int p3)] [(.int (1 : Int32)), (.int p2)])) _
      refine XS.iadd X0.here hx rfl (hb hby d5_17) rfl ?_
      show Steps p.tables e below (s₁.setTop (mkF m 18 #[.val (.ref a1), .val (.int p2), .val (.int p3)] [(.int (p2 + (1 : Int32)))])) _
      refine XS.iloadN X0.here hx rfl (hb hby d5_18) rfl ?_
      exact k
    by_cases hc19 : (p2 + (1 : Int32)) < p3
    · have pre12 : ∀ t, Steps p.tables e below (s₁.setTop (mkF m 27 #[.val (.ref a1), .val (.int p2), .val (.int p3)] [(.int (13 : Int32)), (.int (c_a1 (p2).toNatClampNeg))])) t → Steps p.tables e below (s₁.setTop (entryFrame m #[(.ref a1), (.int p2), (.int p3)] 3)) t := by
        intro t k
        refine pre11 t ?_
        show Steps p.tables e below (s₁.setTop (mkF m 19 #[.val (.ref a1), .val (.int p2), .val (.int p3)] [(.int p3), (.int (p2 + (1 : Int32)))])) _
        refine XS.icmpNo X0.here hx rfl (hb hby d5_19) rfl (tlt hc19).2.1 ?_
        show Steps p.tables e below (s₁.setTop (mkF m 22 #[.val (.ref a1), .val (.int p2), .val (.int p3)] [])) _
        refine XS.aloadN X0.here hx rfl (hb hby d5_22) rfl rfl ?_
        show Steps p.tables e below (s₁.setTop (mkF m 23 #[.val (.ref a1), .val (.int p2), .val (.int p3)] [(.ref a1)])) _
        refine XS.iloadN X0.here hx rfl (hb hby d5_23) rfl ?_
        show Steps p.tables e below (s₁.setTop (mkF m 24 #[.val (.ref a1), .val (.int p2), .val (.int p3)] [(.int p2), (.ref a1)])) _
        refine ldB X0 hx hZ e0 V_a1 (j := p2) (own_i2 hq hc19) (g := (mkF m 24 #[.val (.ref a1), .val (.int p2), .val (.int p3)] [(.int p2), (.ref a1)])) rfl rfl (hb hby d5_24) ?_
        show Steps p.tables e below (s₁.setTop (mkF m 25 #[.val (.ref a1), .val (.int p2), .val (.int p3)] [(.int (c_a1 (p2).toNatClampNeg))])) _
        refine XS.bipush X0.here hx rfl (hb hby d5_25) ?_
        exact k
      by_cases hc27 : (c_a1 (p2).toNatClampNeg) = (13 : Int32)
      · have pre13 : ∀ t, Steps p.tables e below (s₁.setTop (mkF m 37 #[.val (.ref a1), .val (.int p2), .val (.int p3)] [(.int (10 : Int32)), (.int (c_a1 ((p2 + (1 : Int32))).toNatClampNeg))])) t → Steps p.tables e below (s₁.setTop (entryFrame m #[(.ref a1), (.int p2), (.int p3)] 3)) t := by
          intro t k
          refine pre12 t ?_
          show Steps p.tables e below (s₁.setTop (mkF m 27 #[.val (.ref a1), .val (.int p2), .val (.int p3)] [(.int (13 : Int32)), (.int (c_a1 (p2).toNatClampNeg))])) _
          refine XS.icmpNo X0.here hx rfl (hb hby d5_27) rfl (teq hc27).2 ?_
          show Steps p.tables e below (s₁.setTop (mkF m 30 #[.val (.ref a1), .val (.int p2), .val (.int p3)] [])) _
          refine XS.aloadN X0.here hx rfl (hb hby d5_30) rfl rfl ?_
          show Steps p.tables e below (s₁.setTop (mkF m 31 #[.val (.ref a1), .val (.int p2), .val (.int p3)] [(.ref a1)])) _
          refine XS.iloadN X0.here hx rfl (hb hby d5_31) rfl ?_
          show Steps p.tables e below (s₁.setTop (mkF m 32 #[.val (.ref a1), .val (.int p2), .val (.int p3)] [(.int p2), (.ref a1)])) _
          refine XS.iconst X0.here hx rfl (hb hby d5_32) ?_
          show Steps p.tables e below (s₁.setTop (mkF m 33 #[.val (.ref a1), .val (.int p2), .val (.int p3)] [(.int (1 : Int32)), (.int p2), (.ref a1)])) _
          refine XS.iadd X0.here hx rfl (hb hby d5_33) rfl ?_
          show Steps p.tables e below (s₁.setTop (mkF m 34 #[.val (.ref a1), .val (.int p2), .val (.int p3)] [(.int (p2 + (1 : Int32))), (.ref a1)])) _
          refine ldB X0 hx hZ e0 V_a1 (j := (p2 + (1 : Int32))) (own_i3 hq hc19) (g := (mkF m 34 #[.val (.ref a1), .val (.int p2), .val (.int p3)] [(.int (p2 + (1 : Int32))), (.ref a1)])) rfl rfl (hb hby d5_34) ?_
          show Steps p.tables e below (s₁.setTop (mkF m 35 #[.val (.ref a1), .val (.int p2), .val (.int p3)] [(.int (c_a1 ((p2 + (1 : Int32))).toNatClampNeg))])) _
          refine XS.bipush X0.here hx rfl (hb hby d5_35) ?_
          exact k
        by_cases hc37 : (c_a1 ((p2 + (1 : Int32))).toNatClampNeg) = (10 : Int32)
        · have eq14 : (f5 p2 p3 z_a1 c_a1) = (2 : Int32) := by unfold f5; simp only [if_neg hc2, if_pos hc19, if_pos hc27, if_pos hc37]
          obtain ⟨fs, hr, hrun, hended, hW, hsame⟩ := X0.leave (v := some (.int (2 : Int32))) (fun h => by rw [Bd.returns] at h; cases h)
          refine ⟨_, _, pre13 _ ?_, hrun, hended, _, _, rfl, ?_, ⟨_, rfl⟩, hW, hsame.mono (by decide) (by decide)⟩
          · show Steps p.tables e below (s₁.setTop (mkF m 37 #[.val (.ref a1), .val (.int p2), .val (.int p3)] [(.int (10 : Int32)), (.int (c_a1 ((p2 + (1 : Int32))).toNatClampNeg))])) _
            refine XS.icmpNo X0.here hx rfl (hb hby d5_37) rfl (teq hc37).2 ?_
            show Steps p.tables e below (s₁.setTop (mkF m 40 #[.val (.ref a1), .val (.int p2), .val (.int p3)] [])) _
            refine XS.iconst X0.here hx rfl (hb hby d5_40) ?_
            show Steps p.tables e below (s₁.setTop (mkF m 41 #[.val (.ref a1), .val (.int p2), .val (.int p3)] [(.int (2 : Int32))])) _
            exact retI X0 hx Bd.returns (hb hby d5_41) hr
          · show Q5 Z a1 p2 p3 z_a1 c_a1 h0 n0 _ s₁.heap _
            rw [e0]
            exact ⟨by rw [eq14], N0, rfl⟩
        · have eq15 : (f5 p2 p3 z_a1 c_a1) = (0 : Int32) := by unfold f5; simp only [if_neg hc2, if_pos hc19, if_pos hc27, if_neg hc37]
          obtain ⟨fs, hr, hrun, hended, hW, hsame⟩ := X0.leave (v := some (.int (0 : Int32))) (fun h => by rw [Bd.returns] at h; cases h)
          refine ⟨_, _, pre13 _ ?_, hrun, hended, _, _, rfl, ?_, ⟨_, rfl⟩, hW, hsame.mono (by decide) (by decide)⟩
          · show Steps p.tables e below (s₁.setTop (mkF m 37 #[.val (.ref a1), .val (.int p2), .val (.int p3)] [(.int (10 : Int32)), (.int (c_a1 ((p2 + (1 : Int32))).toNatClampNeg))])) _
            refine XS.icmpYes X0.here hx rfl (pc0 := 37) (pc' := 42) rfl (hb hby d5_37) rfl (feq hc37).2 (by decide) (by decide) ?_
            show Steps p.tables e below (s₁.setTop (mkF m 42 #[.val (.ref a1), .val (.int p2), .val (.int p3)] [])) _
            refine XS.iconst X0.here hx rfl (hb hby d5_42) ?_
            show Steps p.tables e below (s₁.setTop (mkF m 43 #[.val (.ref a1), .val (.int p2), .val (.int p3)] [(.int (0 : Int32))])) _
            exact retI X0 hx Bd.returns (hb hby d5_43) hr
          · show Q5 Z a1 p2 p3 z_a1 c_a1 h0 n0 _ s₁.heap _
            rw [e0]
            exact ⟨by rw [eq15], N0, rfl⟩
      · have eq16 : (f5 p2 p3 z_a1 c_a1) = (0 : Int32) := by unfold f5; simp only [if_neg hc2, if_pos hc19, if_neg hc27]
        obtain ⟨fs, hr, hrun, hended, hW, hsame⟩ := X0.leave (v := some (.int (0 : Int32))) (fun h => by rw [Bd.returns] at h; cases h)
        refine ⟨_, _, pre12 _ ?_, hrun, hended, _, _, rfl, ?_, ⟨_, rfl⟩, hW, hsame.mono (by decide) (by decide)⟩
        · show Steps p.tables e below (s₁.setTop (mkF m 27 #[.val (.ref a1), .val (.int p2), .val (.int p3)] [(.int (13 : Int32)), (.int (c_a1 (p2).toNatClampNeg))])) _
          refine XS.icmpYes X0.here hx rfl (pc0 := 27) (pc' := 42) rfl (hb hby d5_27) rfl (feq hc27).2 (by decide) (by decide) ?_
          show Steps p.tables e below (s₁.setTop (mkF m 42 #[.val (.ref a1), .val (.int p2), .val (.int p3)] [])) _
          refine XS.iconst X0.here hx rfl (hb hby d5_42) ?_
          show Steps p.tables e below (s₁.setTop (mkF m 43 #[.val (.ref a1), .val (.int p2), .val (.int p3)] [(.int (0 : Int32))])) _
          exact retI X0 hx Bd.returns (hb hby d5_43) hr
        · show Q5 Z a1 p2 p3 z_a1 c_a1 h0 n0 _ s₁.heap _
          rw [e0]
          exact ⟨by rw [eq16], N0, rfl⟩
    · have eq17 : (f5 p2 p3 z_a1 c_a1) = (0 : Int32) := by unfold f5; simp only [if_neg hc2, if_neg hc19]
      obtain ⟨fs, hr, hrun, hended, hW, hsame⟩ := X0.leave (v := some (.int (0 : Int32))) (fun h => by rw [Bd.returns] at h; cases h)
      refine ⟨_, _, pre11 _ ?_, hrun, hended, _, _, rfl, ?_, ⟨_, rfl⟩, hW, hsame.mono (by decide) (by decide)⟩
      · show Steps p.tables e below (s₁.setTop (mkF m 19 #[.val (.ref a1), .val (.int p2), .val (.int p3)] [(.int p3), (.int (p2 + (1 : Int32)))])) _
        refine XS.icmpYes X0.here hx rfl (pc0 := 19) (pc' := 42) rfl (hb hby d5_19) rfl (flt hc19).2.1 (by decide) (by decide) ?_
        show Steps p.tables e below (s₁.setTop (mkF m 42 #[.val (.ref a1), .val (.int p2), .val (.int p3)] [])) _
        refine XS.iconst X0.here hx rfl (hb hby d5_42) ?_
        show Steps p.tables e below (s₁.setTop (mkF m 43 #[.val (.ref a1), .val (.int p2), .val (.int p3)] [(.int (0 : Int32))])) _
        exact retI X0 hx Bd.returns (hb hby d5_43) hr
      · show Q5 Z a1 p2 p3 z_a1 c_a1 h0 n0 _ s₁.heap _
        rw [e0]
        exact ⟨by rw [eq17], N0, rfl⟩
theorem own_f5r (a Z : Int32) (C : Nat → Int32) (h : 0 ≤ a.toInt ∧ a.toInt ≤ Z.toInt ∧ Z.toInt ≤ 13) : 0 ≤ (f5 a Z Z C).toInt ∧ (f5 a Z Z C).toInt ≤ 2 ∧ (0 < (f5 a Z Z C).toInt → a.toInt + (f5 a Z Z C).toInt ≤ Z.toInt) := by
  have e1 : (1 : Int32).toInt = 1 := rfl
  have e2 : (2 : Int32).toInt = 2 := rfl
  have e0 : (0 : Int32).toInt = 0 := rfl
  have q := own_add a 1 (by omega) (by omega)
  unfold f5
  simp only [Int32.lt_iff_toInt_lt]
  repeat' split
  all_goals omega
theorem own_w1 {i1 i2 z : Int32} {k : Nat} (hI : 0 ≤ i1.toInt ∧ i1.toInt ≤ z.toInt ∧ z.toInt ≤ 13 ∧ 0 ≤ i2.toInt ∧ i2.toInt ≤ 2 ∧ (0 < i2.toInt → i1.toInt + i2.toInt ≤ z.toInt) ∧ z.toInt - i1.toInt < ((k + 1 : Nat) : Int)) (h : (0 : Int32) < i2) : 0 ≤ (i1 + i2).toInt ∧ (i1 + i2).toInt ≤ z.toInt ∧ z.toInt ≤ z.toInt ∧ z.toInt ≤ 13 := by
  rw [Int32.lt_iff_toInt_lt, show (0 : Int32).toInt = 0 from rfl] at h
  have q := own_add i1 i2 (by omega) (by omega)
  omega
theorem own_w2 {i1 i2 z : Int32} {C : Nat → Int32} {k : Nat} (hI : 0 ≤ i1.toInt ∧ i1.toInt ≤ z.toInt ∧ z.toInt ≤ 13 ∧ 0 ≤ i2.toInt ∧ i2.toInt ≤ 2 ∧ (0 < i2.toInt → i1.toInt + i2.toInt ≤ z.toInt) ∧ z.toInt - i1.toInt < ((k + 1 : Nat) : Int)) (h : (0 : Int32) < i2) : 0 ≤ (i1 + i2).toInt ∧ (i1 + i2).toInt ≤ z.toInt ∧ z.toInt ≤ 13 ∧ 0 ≤ (f5 (i1 + i2) z z C).toInt ∧ (f5 (i1 + i2) z z C).toInt ≤ 2 ∧ (0 < (f5 (i1 + i2) z z C).toInt → (i1 + i2).toInt + (f5 (i1 + i2) z z C).toInt ≤ z.toInt) ∧ z.toInt - (i1 + i2).toInt < (k : Int) := by
  have w := own_w1 hI h
  have r := own_f5r (i1 + i2) z C ⟨w.1, w.2.1, w.2.2.2⟩
  rw [Int32.lt_iff_toInt_lt, show (0 : Int32).toInt = 0 from rfl] at h
  have q := own_add i1 i2 (by omega) (by omega)
  refine ⟨w.1, w.2.1, w.2.2.2, r.1, r.2.1, r.2.2, by omega⟩
theorem own_w3 {z : Int32} {C : Nat → Int32} (hz : 0 ≤ z.toInt ∧ z.toInt ≤ 13) : 0 ≤ (0 : Int32).toInt ∧ (0 : Int32).toInt ≤ z.toInt ∧ z.toInt ≤ 13 ∧ 0 ≤ (f5 0 z z C).toInt ∧ (f5 0 z z C).toInt ≤ 2 ∧ (0 < (f5 0 z z C).toInt → (0 : Int32).toInt + (f5 0 z z C).toInt ≤ z.toInt) ∧ z.toInt - (0 : Int32).toInt < ((14 : Nat) : Int) := by
  have e0 : (0 : Int32).toInt = 0 := rfl
  have r := own_f5r 0 z C (by rw [e0]; omega)
  refine ⟨by decide, by omega, hz.2, r.1, r.2.1, r.2.2, by omega⟩
theorem own_w4 {i1 i2 z : Int32} {k : Nat} (hI : 0 ≤ i1.toInt ∧ i1.toInt ≤ z.toInt ∧ z.toInt ≤ 13 ∧ 0 ≤ i2.toInt ∧ i2.toInt ≤ 2 ∧ (0 < i2.toInt → i1.toInt + i2.toInt ≤ z.toInt) ∧ z.toInt - i1.toInt < ((k + 1 : Nat) : Int)) (h : ¬ (z - i1) < 5) : 0 ≤ i1.toInt ∧ i1.toInt + 5 ≤ z.toInt ∧ z.toInt ≤ 13 := by
  rw [Int32.lt_iff_toInt_lt, show (5 : Int32).toInt = 5 from rfl] at h
  have a := c_isub z i1
  have r := rng32 (z - i1)
  omega
theorem d7_0 : decode prog_8_method_36_code 0 = .ok (.iconst 0, 1) := by decide +kernel
theorem d7_1 : decode prog_8_method_36_code 1 = .ok (.istore_n 3, 1) := by decide +kernel
theorem d7_2 : decode prog_8_method_36_code 2 = .ok (.iload_n 1, 1) := by decide +kernel
theorem d7_3 : decode prog_8_method_36_code 3 = .ok (.istore 4, 2) := by decide +kernel
theorem d7_5 : decode prog_8_method_36_code 5 = .ok (.iload 4, 2) := by decide +kernel
theorem d7_7 : decode prog_8_method_36_code 7 = .ok (.iload_n 1, 1) := by decide +kernel
theorem d7_8 : decode prog_8_method_36_code 8 = .ok (.iload_n 2, 1) := by decide +kernel
theorem d7_9 : decode prog_8_method_36_code 9 = .ok (.iadd, 1) := by decide +kernel
theorem d7_10 : decode prog_8_method_36_code 10 = .ok (.if_icmp .ge 40, 3) := by decide +kernel
theorem d7_13 : decode prog_8_method_36_code 13 = .ok (.aload_n 0, 1) := by decide +kernel
theorem d7_14 : decode prog_8_method_36_code 14 = .ok (.iload 4, 2) := by decide +kernel
theorem d7_16 : decode prog_8_method_36_code 16 = .ok (.baload, 1) := by decide +kernel
theorem d7_17 : decode prog_8_method_36_code 17 = .ok (.bipush 48, 2) := by decide +kernel
theorem d7_19 : decode prog_8_method_36_code 19 = .ok (.isub, 1) := by decide +kernel
theorem d7_20 : decode prog_8_method_36_code 20 = .ok (.istore 5, 2) := by decide +kernel
theorem d7_22 : decode prog_8_method_36_code 22 = .ok (.iload 5, 2) := by decide +kernel
theorem d7_24 : decode prog_8_method_36_code 24 = .ok (.ifCond .lt 10, 3) := by decide +kernel
theorem d7_27 : decode prog_8_method_36_code 27 = .ok (.iload 5, 2) := by decide +kernel
theorem d7_29 : decode prog_8_method_36_code 29 = .ok (.bipush 9, 2) := by decide +kernel
theorem d7_31 : decode prog_8_method_36_code 31 = .ok (.if_icmp .le 5, 3) := by decide +kernel
theorem d7_34 : decode prog_8_method_36_code 34 = .ok (.iconst (-1), 1) := by decide +kernel
theorem d7_35 : decode prog_8_method_36_code 35 = .ok (.ireturn, 1) := by decide +kernel
theorem d7_36 : decode prog_8_method_36_code 36 = .ok (.iload_n 3, 1) := by decide +kernel
theorem d7_37 : decode prog_8_method_36_code 37 = .ok (.bipush 10, 2) := by decide +kernel
theorem d7_39 : decode prog_8_method_36_code 39 = .ok (.imul, 1) := by decide +kernel
theorem d7_40 : decode prog_8_method_36_code 40 = .ok (.iload 5, 2) := by decide +kernel
theorem d7_42 : decode prog_8_method_36_code 42 = .ok (.iadd, 1) := by decide +kernel
theorem d7_43 : decode prog_8_method_36_code 43 = .ok (.istore_n 3, 1) := by decide +kernel
theorem d7_44 : decode prog_8_method_36_code 44 = .ok (.iinc 4 1, 3) := by decide +kernel
theorem d7_47 : decode prog_8_method_36_code 47 = .ok (.goto (-42), 3) := by decide +kernel
theorem d7_50 : decode prog_8_method_36_code 50 = .ok (.iload_n 3, 1) := by decide +kernel
theorem d7_51 : decode prog_8_method_36_code 51 = .ok (.ireturn, 1) := by decide +kernel
theorem ef_7 (m : MethodId) (x0 : Addr) (x1 : Int32) (x2 : Int32) : entryFrame m #[(.ref x0), (.int x1), (.int x2)] 6 = mkF m 0 #[.val (.ref x0), .val (.int x1), .val (.int x2), .unset, .unset, .unset] [] := by first | (simp [entryFrame, mkF, argsToLocals, Value.category]; done) | rfl
def g7_5 (p2 : Int32) (p3 : Int32) (z_a1 : Int32) (c_a1 : Nat → Int32) : Nat → Int32 → Int32 → Int32
  | 0, _, _ => 0
  | k + 1, i3, i4 => (if i4 < (p2 + p3) then (if ((c_a1 (i4).toNatClampNeg) - (48 : Int32)) < (0 : Int32) then (-1 : Int32) else (if (9 : Int32) < ((c_a1 (i4).toNatClampNeg) - (48 : Int32)) then (-1 : Int32) else (g7_5 p2 p3 z_a1 c_a1 k ((i3 * (10 : Int32)) + ((c_a1 (i4).toNatClampNeg) - (48 : Int32))) (i4 + (1 : Int32))))) else i3)
def f7 (p2 : Int32) (p3 : Int32) (z_a1 : Int32) (c_a1 : Nat → Int32) : Int32 := (g7_5 p2 p3 z_a1 c_a1 (6) (0 : Int32) p2)
def Q7 (Z : State) (a1 : Addr) (p2 : Int32) (p3 : Int32) (z_a1 : Int32) (c_a1 : Nat → Int32) (h0 : Heap) (n0 : Nat) (v : Option Value) (h : Heap) (L : List Loc) : Prop := v = some (.int (f7 p2 p3 z_a1 c_a1)) ∧ Fr n0 L ∧ h = h0
set_option maxRecDepth 65536 in
set_option maxHeartbeats 40000000 in
theorem rm7 (l : Launch) (Z : State) (a0 : Array Value) (hw : ∀ d ∈ tables_1, d.before a0 Z = true) (ws : List Jvm.Cond) (a1 : Addr) (p2 : Int32) (p3 : Int32) (z_a1 : Int32) (c_a1 : Nat → Int32) (h0 : Heap) (n0 : Nat) (Z0 : n0 ≤ h0.size) (V_a1 : IAr Z h0 a1 .byte z_a1 c_a1) (hp : p3 = 5) (hq : 0 ≤ p2.toInt ∧ p2.toInt + 5 ≤ z_a1.toInt ∧ z_a1.toInt ≤ 13) :
    MetFree l (⟨"com/example/titlepoint/titlepoint/Iso2709Reader", "number", "([BII)I"⟩ : MethodName) (head1 (Jvm.Cond.code (⟨"com/example/titlepoint/titlepoint/Iso2709Reader", "number", "([BII)I"⟩ : MethodName) prog_8_method_36_code 6 (some .int) :: ws) ({ frames := 0, cells := 0, slots := 0, locals := 0 } : Room)) (fun a U => a = #[(.ref a1), (.int p2), (.int p3)] ∧ Z.Warmed39 U.vm ∧ U.heap = h0) (fun _ _ _ _ _ => True) (fun _ U o U' => ∃ v L, o = .returned v ∧ Q7 Z a1 p2 p3 z_a1 c_a1 h0 n0 v U'.heap L ∧ FrameEnd U o U' L ({ frames := 0, cells := 0, slots := 0, locals := 0 } : Room).cells ({ frames := 0, cells := 0, slots := 0, locals := 0 } : Room).slots) := by
  refine MetFree.of_bodySF (plainFor_of_name pn_1) hisR ?_
  intro p e s m args below meth c s₁ Bd hml0 hP hK
  obtain ⟨rfl, hZ, hh⟩ := hP
  have hx := Bd.exec
  have hby := Bd.bytes
  have hml : c.maxLocals = 6 := hml0
  have hown : s.vm.findClass "com/example/titlepoint/titlepoint/Iso2709Reader" = some m.cls := findClass_of_methodNamed Bd.named
  have hnm := (name_of_methodNamed Bd.named Bd.method).1
  have X0 : Stand p l e ({ frames := 0, cells := 0, slots := 0, locals := 0 } : Room) s m #[(.ref a1), (.int p2), (.int p3)] below meth c s₁ [] 0 0 := Stand.of_body Bd
  have e0 : s₁.heap = h0 := by rw [← hh, Bd.state]; rfl
  have N0 := Fr.nil n0
  have pre0 : ∀ t, Steps p.tables e below (s₁.setTop (mkF m 0 #[.val (.ref a1), .val (.int p2), .val (.int p3), .unset, .unset, .unset] [])) t → Steps p.tables e below (s₁.setTop (entryFrame m #[(.ref a1), (.int p2), (.int p3)] 6)) t := fun t k => castTop (ef_7 m a1 p2 p3) k
  have pre1 : ∀ t, Steps p.tables e below (s₁.setTop (mkF m 5 #[.val (.ref a1), .val (.int p2), .val (.int p3), .val (.int (0 : Int32)), .val (.int p2), .unset] [])) t → Steps p.tables e below (s₁.setTop (entryFrame m #[(.ref a1), (.int p2), (.int p3)] 6)) t := by
    intro t k
    refine pre0 t ?_
    show Steps p.tables e below (s₁.setTop (mkF m 0 #[.val (.ref a1), .val (.int p2), .val (.int p3), .unset, .unset, .unset] [])) _
    refine XS.iconst X0.here hx rfl (hb hby d7_0) ?_
    show Steps p.tables e below (s₁.setTop (mkF m 1 #[.val (.ref a1), .val (.int p2), .val (.int p3), .unset, .unset, .unset] [(.int (0 : Int32))])) _
    refine XS.istoreN X0.here hx rfl (hb hby d7_1) rfl (l' := #[.val (.ref a1), .val (.int p2), .val (.int p3), .val (.int (0 : Int32)), .unset, .unset]) rfl ?_
    show Steps p.tables e below (s₁.setTop (mkF m 2 #[.val (.ref a1), .val (.int p2), .val (.int p3), .val (.int (0 : Int32)), .unset, .unset] [])) _
    refine XS.iloadN X0.here hx rfl (hb hby d7_2) rfl ?_
    show Steps p.tables e below (s₁.setTop (mkF m 3 #[.val (.ref a1), .val (.int p2), .val (.int p3), .val (.int (0 : Int32)), .unset, .unset] [(.int p2)])) _
    refine XS.istore X0.here hx rfl (hb hby d7_3) rfl (l' := #[.val (.ref a1), .val (.int p2), .val (.int p3), .val (.int (0 : Int32)), .val (.int p2), .unset]) rfl ?_
    exact k
  have loop5 : ∀ (k : Nat) (i3 : Int32) (i4 : Int32) (s5 : Slot) (T4 : State) (LT4 : List Loc), One s5 → 0 ≤ p2.toInt ∧ p2.toInt ≤ i4.toInt ∧ i4.toInt ≤ p2.toInt + 5 ∧ p2.toInt + 5 ≤ z_a1.toInt ∧ z_a1.toInt ≤ 13 ∧ p2.toInt + 5 - i4.toInt < (k : Int) → Stand p l e ({ frames := 0, cells := 0, slots := 0, locals := 0 } : Room) s m #[(.ref a1), (.int p2), (.int p3)] below meth c T4 LT4 0 0 → T4.heap = h0 → Fr n0 LT4 → (g7_5 p2 p3 z_a1 c_a1 k i3 i4) = (f7 p2 p3 z_a1 c_a1) → (∀ t, Steps p.tables e below (T4.setTop (mkF m 5 #[.val (.ref a1), .val (.int p2), .val (.int p3), .val (.int i3), .val (.int i4), s5] [])) t → Steps p.tables e below (s₁.setTop (entryFrame m #[(.ref a1), (.int p2), (.int p3)] 6)) t) → ∃ s₂ o, Steps p.tables e below (s₁.setTop (entryFrame m #[(.ref a1), (.int p2), (.int p3)] 6)) s₂ ∧ s₂.status = .running ∧ Ended s₂ below o ∧ ∃ v L, o = .returned v ∧ Q7 Z a1 p2 p3 z_a1 c_a1 h0 n0 v s₂.heap L ∧ FrameEnd s o s₂ L ({ frames := 0, cells := 0, slots := 0, locals := 0 } : Room).cells ({ frames := 0, cells := 0, slots := 0, locals := 0 } : Room).slots := by
    intro k
    induction k with
    | zero => intro i3 i4 s5 T4 LT4 hs5 hI X4 e4 N4 hg preL; exact absurd hI (by omega)
    | succ k ih =>
      intro i3 i4 s5 T4 LT4 hs5 hI X4 e4 N4 hg preL
      have pre2 : ∀ t, Steps p.tables e below (T4.setTop (mkF m 10 #[.val (.ref a1), .val (.int p2), .val (.int p3), .val (.int i3), .val (.int i4), s5] [(.int (p2 + p3)), (.int i4)])) t → Steps p.tables e below (s₁.setTop (entryFrame m #[(.ref a1), (.int p2), (.int p3)] 6)) t := by
        intro t k
        refine preL t ?_
        show Steps p.tables e below (T4.setTop (mkF m 5 #[.val (.ref a1), .val (.int p2), .val (.int p3), .val (.int i3), .val (.int i4), s5] [])) _
        refine XS.iload X4.here hx rfl (hb hby d7_5) rfl ?_
        show Steps p.tables e below (T4.setTop (mkF m 7 #[.val (.ref a1), .val (.int p2), .val (.int p3), .val (.int i3), .val (.int i4), s5] [(.int i4)])) _
        refine XS.iloadN X4.here hx rfl (hb hby d7_7) rfl ?_
        show Steps p.tables e below (T4.setTop (mkF m 8 #[.val (.ref a1), .val (.int p2), .val (.int p3), .val (.int i3), .val (.int i4), s5] [(.int p2), (.int i4)])) _
        refine XS.iloadN X4.here hx rfl (hb hby d7_8) rfl ?_
        show Steps p.tables e below (T4.setTop (mkF m 9 #[.val (.ref a1), .val (.int p2), .val (.int p3), .val (.int i3), .val (.int i4), s5] [(.int p3), (.int p2), (.int i4)])) _
        refine XS.iadd X4.here hx rfl (hb hby d7_9) rfl ?_
        exact k
      by_cases hc10 : i4 < (p2 + p3)
      · have pre3 : ∀ t, Steps p.tables e below (T4.setTop (mkF m 24 #[.val (.ref a1), .val (.int p2), .val (.int p3), .val (.int i3), .val (.int i4), .val (.int ((c_a1 (i4).toNatClampNeg) - (48 : Int32)))] [(.int ((c_a1 (i4).toNatClampNeg) - (48 : Int32)))])) t → Steps p.tables e below (s₁.setTop (entryFrame m #[(.ref a1), (.int p2), (.int p3)] 6)) t := by
          intro t k
          refine pre2 t ?_
          show Steps p.tables e below (T4.setTop (mkF m 10 #[.val (.ref a1), .val (.int p2), .val (.int p3), .val (.int i3), .val (.int i4), s5] [(.int (p2 + p3)), (.int i4)])) _
          refine XS.icmpNo X4.here hx rfl (hb hby d7_10) rfl (tlt hc10).2.1 ?_
          show Steps p.tables e below (T4.setTop (mkF m 13 #[.val (.ref a1), .val (.int p2), .val (.int p3), .val (.int i3), .val (.int i4), s5] [])) _
          refine XS.aloadN X4.here hx rfl (hb hby d7_13) rfl rfl ?_
          show Steps p.tables e below (T4.setTop (mkF m 14 #[.val (.ref a1), .val (.int p2), .val (.int p3), .val (.int i3), .val (.int i4), s5] [(.ref a1)])) _
          refine XS.iload X4.here hx rfl (hb hby d7_14) rfl ?_
          show Steps p.tables e below (T4.setTop (mkF m 16 #[.val (.ref a1), .val (.int p2), .val (.int p3), .val (.int i3), .val (.int i4), s5] [(.int i4), (.ref a1)])) _
          refine ldB X4 hx hZ e4 V_a1 (j := i4) (own_n1 hI hp hc10) (g := (mkF m 16 #[.val (.ref a1), .val (.int p2), .val (.int p3), .val (.int i3), .val (.int i4), s5] [(.int i4), (.ref a1)])) rfl rfl (hb hby d7_16) ?_
          show Steps p.tables e below (T4.setTop (mkF m 17 #[.val (.ref a1), .val (.int p2), .val (.int p3), .val (.int i3), .val (.int i4), s5] [(.int (c_a1 (i4).toNatClampNeg))])) _
          refine XS.bipush X4.here hx rfl (hb hby d7_17) ?_
          show Steps p.tables e below (T4.setTop (mkF m 19 #[.val (.ref a1), .val (.int p2), .val (.int p3), .val (.int i3), .val (.int i4), s5] [(.int (48 : Int32)), (.int (c_a1 (i4).toNatClampNeg))])) _
          refine XS.isub X4.here hx rfl (hb hby d7_19) rfl ?_
          show Steps p.tables e below (T4.setTop (mkF m 20 #[.val (.ref a1), .val (.int p2), .val (.int p3), .val (.int i3), .val (.int i4), s5] [(.int ((c_a1 (i4).toNatClampNeg) - (48 : Int32)))])) _
          refine XS.istoreS X4.here hx rfl (hb hby d7_20) rfl (o := s5) rfl hs5 ?_
          show Steps p.tables e below (T4.setTop (mkF m 22 #[.val (.ref a1), .val (.int p2), .val (.int p3), .val (.int i3), .val (.int i4), .val (.int ((c_a1 (i4).toNatClampNeg) - (48 : Int32)))] [])) _
          refine XS.iload X4.here hx rfl (hb hby d7_22) rfl ?_
          exact k
        by_cases hc24 : ((c_a1 (i4).toNatClampNeg) - (48 : Int32)) < (0 : Int32)
        · have eq4 : (f7 p2 p3 z_a1 c_a1) = (-1 : Int32) := by rw [← hg]; simp only [g7_5, if_pos hc10, if_pos hc24]
          obtain ⟨fs, hr, hrun, hended, hW, hsame⟩ := X4.leave (v := some (.int (-1 : Int32))) (fun h => by rw [Bd.returns] at h; cases h)
          refine ⟨_, _, pre3 _ ?_, hrun, hended, _, _, rfl, ?_, ⟨_, rfl⟩, hW, hsame.mono (by decide) (by decide)⟩
          · show Steps p.tables e below (T4.setTop (mkF m 24 #[.val (.ref a1), .val (.int p2), .val (.int p3), .val (.int i3), .val (.int i4), .val (.int ((c_a1 (i4).toNatClampNeg) - (48 : Int32)))] [(.int ((c_a1 (i4).toNatClampNeg) - (48 : Int32)))])) _
            refine XS.ifYes X4.here hx rfl (pc0 := 24) (pc' := 34) rfl (hb hby d7_24) rfl ((if0 _ _).trans (tlt hc24).1) (by decide) (by decide) ?_
            show Steps p.tables e below (T4.setTop (mkF m 34 #[.val (.ref a1), .val (.int p2), .val (.int p3), .val (.int i3), .val (.int i4), .val (.int ((c_a1 (i4).toNatClampNeg) - (48 : Int32)))] [])) _
            refine XS.iconst X4.here hx rfl (hb hby d7_34) ?_
            show Steps p.tables e below (T4.setTop (mkF m 35 #[.val (.ref a1), .val (.int p2), .val (.int p3), .val (.int i3), .val (.int i4), .val (.int ((c_a1 (i4).toNatClampNeg) - (48 : Int32)))] [(.int (-1 : Int32))])) _
            exact retI X4 hx Bd.returns (hb hby d7_35) hr
          · show Q7 Z a1 p2 p3 z_a1 c_a1 h0 n0 _ T4.heap _
            rw [e4]
            exact ⟨by rw [eq4], N4, rfl⟩
        · have pre5 : ∀ t, Steps p.tables e below (T4.setTop (mkF m 31 #[.val (.ref a1), .val (.int p2), .val (.int p3), .val (.int i3), .val (.int i4), .val (.int ((c_a1 (i4).toNatClampNeg) - (48 : Int32)))] [(.int (9 : Int32)), (.int ((c_a1 (i4).toNatClampNeg) - (48 : Int32)))])) t → Steps p.tables e below (s₁.setTop (entryFrame m #[(.ref a1), (.int p2), (.int p3)] 6)) t := by
            intro t k
            refine pre3 t ?_
            show Steps p.tables e below (T4.setTop (mkF m 24 #[.val (.ref a1), .val (.int p2), .val (.int p3), .val (.int i3), .val (.int i4), .val (.int ((c_a1 (i4).toNatClampNeg) - (48 : Int32)))] [(.int ((c_a1 (i4).toNatClampNeg) - (48 : Int32)))])) _
            refine XS.ifNo X4.here hx rfl (hb hby d7_24) rfl ((if0 _ _).trans (flt hc24).1) ?_
            show Steps p.tables e below (T4.setTop (mkF m 27 #[.val (.ref a1), .val (.int p2), .val (.int p3), .val (.int i3), .val (.int i4), .val (.int ((c_a1 (i4).toNatClampNeg) - (48 : Int32)))] [])) _
            refine XS.iload X4.here hx rfl (hb hby d7_27) rfl ?_
            show Steps p.tables e below (T4.setTop (mkF m 29 #[.val (.ref a1), .val (.int p2), .val (.int p3), .val (.int i3), .val (.int i4), .val (.int ((c_a1 (i4).toNatClampNeg) - (48 : Int32)))] [(.int ((c_a1 (i4).toNatClampNeg) - (48 : Int32)))])) _
            refine XS.bipush X4.here hx rfl (hb hby d7_29) ?_
            exact k
          by_cases hc31 : (9 : Int32) < ((c_a1 (i4).toNatClampNeg) - (48 : Int32))
          · have eq6 : (f7 p2 p3 z_a1 c_a1) = (-1 : Int32) := by rw [← hg]; simp only [g7_5, if_pos hc10, if_neg hc24, if_pos hc31]
            obtain ⟨fs, hr, hrun, hended, hW, hsame⟩ := X4.leave (v := some (.int (-1 : Int32))) (fun h => by rw [Bd.returns] at h; cases h)
            refine ⟨_, _, pre5 _ ?_, hrun, hended, _, _, rfl, ?_, ⟨_, rfl⟩, hW, hsame.mono (by decide) (by decide)⟩
            · show Steps p.tables e below (T4.setTop (mkF m 31 #[.val (.ref a1), .val (.int p2), .val (.int p3), .val (.int i3), .val (.int i4), .val (.int ((c_a1 (i4).toNatClampNeg) - (48 : Int32)))] [(.int (9 : Int32)), (.int ((c_a1 (i4).toNatClampNeg) - (48 : Int32)))])) _
              refine XS.icmpNo X4.here hx rfl (hb hby d7_31) rfl (tlt hc31).2.2.2 ?_
              show Steps p.tables e below (T4.setTop (mkF m 34 #[.val (.ref a1), .val (.int p2), .val (.int p3), .val (.int i3), .val (.int i4), .val (.int ((c_a1 (i4).toNatClampNeg) - (48 : Int32)))] [])) _
              refine XS.iconst X4.here hx rfl (hb hby d7_34) ?_
              show Steps p.tables e below (T4.setTop (mkF m 35 #[.val (.ref a1), .val (.int p2), .val (.int p3), .val (.int i3), .val (.int i4), .val (.int ((c_a1 (i4).toNatClampNeg) - (48 : Int32)))] [(.int (-1 : Int32))])) _
              exact retI X4 hx Bd.returns (hb hby d7_35) hr
            · show Q7 Z a1 p2 p3 z_a1 c_a1 h0 n0 _ T4.heap _
              rw [e4]
              exact ⟨by rw [eq6], N4, rfl⟩
          · have eq7 : (f7 p2 p3 z_a1 c_a1) = (g7_5 p2 p3 z_a1 c_a1 k ((i3 * (10 : Int32)) + ((c_a1 (i4).toNatClampNeg) - (48 : Int32))) (i4 + (1 : Int32))) := by rw [← hg]; simp only [g7_5, if_pos hc10, if_neg hc24, if_neg hc31]
            have pre8 : ∀ t, Steps p.tables e below (T4.setTop (mkF m 5 #[.val (.ref a1), .val (.int p2), .val (.int p3), .val (.int ((i3 * (10 : Int32)) + ((c_a1 (i4).toNatClampNeg) - (48 : Int32)))), .val (.int (i4 + (1 : Int32))), .val (.int ((c_a1 (i4).toNatClampNeg) - (48 : Int32)))] [])) t → Steps p.tables e below (s₁.setTop (entryFrame m #[(.ref a1), (.int p2), (.int p3)] 6)) t := by
              intro t k
              refine pre5 t ?_
              show Steps p.tables e below (T4.setTop (mkF m 31 #[.val (.ref a1), .val (.int p2), .val (.int p3), .val (.int i3), .val (.int i4), .val (.int ((c_a1 (i4).toNatClampNeg) - (48 : Int32)))] [(.int (9 : Int32)), (.int ((c_a1 (i4).toNatClampNeg) - (48 : Int32)))])) _
              refine XS.icmpYes X4.here hx rfl (pc0 := 31) (pc' := 36) rfl (hb hby d7_31) rfl (flt hc31).2.2.2 (by decide) (by decide) ?_
              show Steps p.tables e below (T4.setTop (mkF m 36 #[.val (.ref a1), .val (.int p2), .val (.int p3), .val (.int i3), .val (.int i4), .val (.int ((c_a1 (i4).toNatClampNeg) - (48 : Int32)))] [])) _
              refine XS.iloadN X4.here hx rfl (hb hby d7_36) rfl ?_
              show Steps p.tables e below (T4.setTop (mkF m 37 #[.val (.ref a1), .val (.int p2), .val (.int p3), .val (.int i3), .val (.int i4), .val (.int ((c_a1 (i4).toNatClampNeg) - (48 : Int32)))] [(.int i3)])) _
              refine XS.bipush X4.here hx rfl (hb hby d7_37) ?_
              show Steps p.tables e below (T4.setTop (mkF m 39 #[.val (.ref a1), .val (.int p2), .val (.int p3), .val (.int i3), .val (.int i4), .val (.int ((c_a1 (i4).toNatClampNeg) - (48 : Int32)))] [(.int (10 : Int32)), (.int i3)])) _
              refine XS.imul X4.here hx rfl (hb hby d7_39) rfl ?_
              show Steps p.tables e below (T4.setTop (mkF m 40 #[.val (.ref a1), .val (.int p2), .val (.int p3), .val (.int i3), .val (.int i4), .val (.int ((c_a1 (i4).toNatClampNeg) - (48 : Int32)))] [(.int (i3 * (10 : Int32)))])) _
              refine XS.iload X4.here hx rfl (hb hby d7_40) rfl ?_
              show Steps p.tables e below (T4.setTop (mkF m 42 #[.val (.ref a1), .val (.int p2), .val (.int p3), .val (.int i3), .val (.int i4), .val (.int ((c_a1 (i4).toNatClampNeg) - (48 : Int32)))] [(.int ((c_a1 (i4).toNatClampNeg) - (48 : Int32))), (.int (i3 * (10 : Int32)))])) _
              refine XS.iadd X4.here hx rfl (hb hby d7_42) rfl ?_
              show Steps p.tables e below (T4.setTop (mkF m 43 #[.val (.ref a1), .val (.int p2), .val (.int p3), .val (.int i3), .val (.int i4), .val (.int ((c_a1 (i4).toNatClampNeg) - (48 : Int32)))] [(.int ((i3 * (10 : Int32)) + ((c_a1 (i4).toNatClampNeg) - (48 : Int32))))])) _
              refine XS.istoreN X4.here hx rfl (hb hby d7_43) rfl (l' := #[.val (.ref a1), .val (.int p2), .val (.int p3), .val (.int ((i3 * (10 : Int32)) + ((c_a1 (i4).toNatClampNeg) - (48 : Int32)))), .val (.int i4), .val (.int ((c_a1 (i4).toNatClampNeg) - (48 : Int32)))]) rfl ?_
              show Steps p.tables e below (T4.setTop (mkF m 44 #[.val (.ref a1), .val (.int p2), .val (.int p3), .val (.int ((i3 * (10 : Int32)) + ((c_a1 (i4).toNatClampNeg) - (48 : Int32)))), .val (.int i4), .val (.int ((c_a1 (i4).toNatClampNeg) - (48 : Int32)))] [])) _
              refine XS.iinc X4.here hx rfl (hb hby d7_44) rfl (l' := #[.val (.ref a1), .val (.int p2), .val (.int p3), .val (.int ((i3 * (10 : Int32)) + ((c_a1 (i4).toNatClampNeg) - (48 : Int32)))), .val (.int (i4 + (1 : Int32))), .val (.int ((c_a1 (i4).toNatClampNeg) - (48 : Int32)))]) rfl ?_
              show Steps p.tables e below (T4.setTop (mkF m 47 #[.val (.ref a1), .val (.int p2), .val (.int p3), .val (.int ((i3 * (10 : Int32)) + ((c_a1 (i4).toNatClampNeg) - (48 : Int32)))), .val (.int (i4 + (1 : Int32))), .val (.int ((c_a1 (i4).toNatClampNeg) - (48 : Int32)))] [])) _
              refine XS.goto X4.here hx rfl (pc0 := 47) (pc' := 5) rfl (hb hby d7_47) (by decide) (by decide) ?_
              exact k
            exact ih ((i3 * (10 : Int32)) + ((c_a1 (i4).toNatClampNeg) - (48 : Int32))) (i4 + (1 : Int32)) (.val (.int ((c_a1 (i4).toNatClampNeg) - (48 : Int32)))) T4 _  (One.val rfl) (own_n2 hI hp hc10) X4 e4 N4  (eq7).symm pre8
      · have eq9 : (f7 p2 p3 z_a1 c_a1) = i3 := by rw [← hg]; simp only [g7_5, if_neg hc10]
        obtain ⟨fs, hr, hrun, hended, hW, hsame⟩ := X4.leave (v := some (.int i3)) (fun h => by rw [Bd.returns] at h; cases h)
        refine ⟨_, _, pre2 _ ?_, hrun, hended, _, _, rfl, ?_, ⟨_, rfl⟩, hW, hsame.mono (by decide) (by decide)⟩
        · show Steps p.tables e below (T4.setTop (mkF m 10 #[.val (.ref a1), .val (.int p2), .val (.int p3), .val (.int i3), .val (.int i4), s5] [(.int (p2 + p3)), (.int i4)])) _
          refine XS.icmpYes X4.here hx rfl (pc0 := 10) (pc' := 50) rfl (hb hby d7_10) rfl (flt hc10).2.1 (by decide) (by decide) ?_
          show Steps p.tables e below (T4.setTop (mkF m 50 #[.val (.ref a1), .val (.int p2), .val (.int p3), .val (.int i3), .val (.int i4), s5] [])) _
          refine XS.iloadN X4.here hx rfl (hb hby d7_50) rfl ?_
          show Steps p.tables e below (T4.setTop (mkF m 51 #[.val (.ref a1), .val (.int p2), .val (.int p3), .val (.int i3), .val (.int i4), s5] [(.int i3)])) _
          exact retI X4 hx Bd.returns (hb hby d7_51) hr
        · show Q7 Z a1 p2 p3 z_a1 c_a1 h0 n0 _ T4.heap _
          rw [e4]
          exact ⟨by rw [eq9], N4, rfl⟩
  exact loop5 6 (0 : Int32) p2 .unset s₁ _ (One.u) (own_n3 hq) X0 e0 N0 (rfl) pre1
theorem pd_0 : parseMethodDescriptor "([BII)I" = some ⟨[(.array .byte), .int, .int], some .int⟩ := by decide +kernel
theorem d4_0 : decode prog_8_method_2_code 0 = .ok (.iconst 0, 1) := by decide +kernel
theorem d4_1 : decode prog_8_method_2_code 1 = .ok (.istore_n 1, 1) := by decide +kernel
theorem d4_2 : decode prog_8_method_2_code 2 = .ok (.aload_n 0, 1) := by decide +kernel
theorem d4_3 : decode prog_8_method_2_code 3 = .ok (.iconst 0, 1) := by decide +kernel
theorem d4_4 : decode prog_8_method_2_code 4 = .ok (.aload_n 0, 1) := by decide +kernel
theorem d4_5 : decode prog_8_method_2_code 5 = .ok (.arraylength, 1) := by decide +kernel
theorem d4_6 : decode prog_8_method_2_code 6 = .ok (.invokestatic 53, 3) := by decide +kernel
theorem d4_9 : decode prog_8_method_2_code 9 = .ok (.istore_n 2, 1) := by decide +kernel
theorem d4_10 : decode prog_8_method_2_code 10 = .ok (.iload_n 2, 1) := by decide +kernel
theorem d4_11 : decode prog_8_method_2_code 11 = .ok (.ifCond .le 18, 3) := by decide +kernel
theorem d4_14 : decode prog_8_method_2_code 14 = .ok (.iload_n 1, 1) := by decide +kernel
theorem d4_15 : decode prog_8_method_2_code 15 = .ok (.iload_n 2, 1) := by decide +kernel
theorem d4_16 : decode prog_8_method_2_code 16 = .ok (.iadd, 1) := by decide +kernel
theorem d4_17 : decode prog_8_method_2_code 17 = .ok (.istore_n 1, 1) := by decide +kernel
theorem d4_18 : decode prog_8_method_2_code 18 = .ok (.aload_n 0, 1) := by decide +kernel
theorem d4_19 : decode prog_8_method_2_code 19 = .ok (.iload_n 1, 1) := by decide +kernel
theorem d4_20 : decode prog_8_method_2_code 20 = .ok (.aload_n 0, 1) := by decide +kernel
theorem d4_21 : decode prog_8_method_2_code 21 = .ok (.arraylength, 1) := by decide +kernel
theorem d4_22 : decode prog_8_method_2_code 22 = .ok (.invokestatic 53, 3) := by decide +kernel
theorem d4_25 : decode prog_8_method_2_code 25 = .ok (.istore_n 2, 1) := by decide +kernel
theorem d4_26 : decode prog_8_method_2_code 26 = .ok (.goto (-16), 3) := by decide +kernel
theorem d4_29 : decode prog_8_method_2_code 29 = .ok (.aload_n 0, 1) := by decide +kernel
theorem d4_30 : decode prog_8_method_2_code 30 = .ok (.arraylength, 1) := by decide +kernel
theorem d4_31 : decode prog_8_method_2_code 31 = .ok (.iload_n 1, 1) := by decide +kernel
theorem d4_32 : decode prog_8_method_2_code 32 = .ok (.isub, 1) := by decide +kernel
theorem d4_33 : decode prog_8_method_2_code 33 = .ok (.iconst 5, 1) := by decide +kernel
theorem d4_34 : decode prog_8_method_2_code 34 = .ok (.if_icmp .lt 16, 3) := by decide +kernel
theorem d4_37 : decode prog_8_method_2_code 37 = .ok (.aload_n 0, 1) := by decide +kernel
theorem d4_38 : decode prog_8_method_2_code 38 = .ok (.iload_n 1, 1) := by decide +kernel
theorem d4_39 : decode prog_8_method_2_code 39 = .ok (.iconst 5, 1) := by decide +kernel
theorem d4_40 : decode prog_8_method_2_code 40 = .ok (.invokestatic 57, 3) := by decide +kernel
theorem d4_43 : decode prog_8_method_2_code 43 = .ok (.ifCond .lt 7, 3) := by decide +kernel
theorem d4_46 : decode prog_8_method_2_code 46 = .ok (.iconst 1, 1) := by decide +kernel
theorem d4_47 : decode prog_8_method_2_code 47 = .ok (.goto 4, 3) := by decide +kernel
theorem d4_50 : decode prog_8_method_2_code 50 = .ok (.iconst 0, 1) := by decide +kernel
theorem d4_51 : decode prog_8_method_2_code 51 = .ok (.ireturn, 1) := by decide +kernel
theorem ef_4 (m : MethodId) (x0 : Addr) : entryFrame m #[(.ref x0)] 3 = mkF m 0 #[.val (.ref x0), .unset, .unset] [] := by first | (simp [entryFrame, mkF, argsToLocals, Value.category]; done) | rfl
def g4_10 (z_a1 : Int32) (c_a1 : Nat → Int32) : Nat → Int32 → Int32 → Int32
  | 0, _, _ => 0
  | k + 1, i1, i2 => (if (0 : Int32) < i2 then (g4_10 z_a1 c_a1 k (i1 + i2) (f5 (i1 + i2) z_a1 z_a1 c_a1)) else (if (z_a1 - i1) < (5 : Int32) then (0 : Int32) else (if (f7 i1 (5 : Int32) z_a1 c_a1) < (0 : Int32) then (0 : Int32) else (1 : Int32))))
def f4 (z_a1 : Int32) (c_a1 : Nat → Int32) : Int32 := (g4_10 z_a1 c_a1 (14) (0 : Int32) (f5 (0 : Int32) z_a1 z_a1 c_a1))
def Q4 (Z : State) (a1 : Addr) (z_a1 : Int32) (c_a1 : Nat → Int32) (h0 : Heap) (n0 : Nat) (v : Option Value) (h : Heap) (L : List Loc) : Prop := v = some (.int (f4 z_a1 c_a1)) ∧ Fr n0 L ∧ h = h0
set_option maxRecDepth 65536 in
set_option maxHeartbeats 40000000 in
theorem rm4 (l : Launch) (Z : State) (a0 : Array Value) (hw : ∀ d ∈ tables_1, d.before a0 Z = true) (ws : List Jvm.Cond) (a1 : Addr) (z_a1 : Int32) (c_a1 : Nat → Int32) (h0 : Heap) (n0 : Nat) (Z0 : n0 ≤ h0.size) (V_a1 : IAr Z h0 a1 .byte z_a1 c_a1) (hz : 0 ≤ z_a1.toInt ∧ z_a1.toInt ≤ 13) :
    MetFree l (⟨"com/example/titlepoint/titlepoint/Iso2709Reader", "beginsWithRecordLength", "([B)Z"⟩ : MethodName) (head1 (Jvm.Cond.code (⟨"com/example/titlepoint/titlepoint/Iso2709Reader", "beginsWithRecordLength", "([B)Z"⟩ : MethodName) prog_8_method_2_code 3 (some .boolean) :: ws) ({ frames := 1, cells := 0, slots := 0, locals := 17 } : Room)) (fun a U => a = #[(.ref a1)] ∧ Z.Warmed39 U.vm ∧ U.heap = h0) (fun _ _ _ _ _ => True) (fun _ U o U' => ∃ v L, o = .returned v ∧ Q4 Z a1 z_a1 c_a1 h0 n0 v U'.heap L ∧ FrameEnd U o U' L ({ frames := 1, cells := 0, slots := 0, locals := 17 } : Room).cells ({ frames := 1, cells := 0, slots := 0, locals := 17 } : Room).slots) := by
  refine MetFree.of_bodySF (plainFor_of_name pn_1) hisR ?_
  intro p e s m args below meth c s₁ Bd hml0 hP hK
  obtain ⟨rfl, hZ, hh⟩ := hP
  have hx := Bd.exec
  have hby := Bd.bytes
  have hml : c.maxLocals = 3 := hml0
  have hown : s.vm.findClass "com/example/titlepoint/titlepoint/Iso2709Reader" = some m.cls := findClass_of_methodNamed Bd.named
  have hnm := (name_of_methodNamed Bd.named Bd.method).1
  have X0 : Stand p l e ({ frames := 1, cells := 0, slots := 0, locals := 17 } : Room) s m #[(.ref a1)] below meth c s₁ [] 0 0 := Stand.of_body Bd
  have e0 : s₁.heap = h0 := by rw [← hh, Bd.state]; rfl
  have N0 := Fr.nil n0
  have pre0 : ∀ t, Steps p.tables e below (s₁.setTop (mkF m 0 #[.val (.ref a1), .unset, .unset] [])) t → Steps p.tables e below (s₁.setTop (entryFrame m #[(.ref a1)] 3)) t := fun t k => castTop (ef_4 m a1) k
  obtain ⟨_, _, ⟨T2, L2, k2, n2⟩, -, X2, ⟨Lc2, hQ2, l2, y2, z2⟩, st2⟩ := Jvm.LawKit.callS X0 hx (y := (⟨"com/example/titlepoint/titlepoint/Iso2709Reader", "lineEnd", "([BII)I"⟩ : MethodName)) hown (mvT hZ (hw _ (List.mem_of_getElem? (i := 17) rfl))) (mvT hZ (hw _ (List.mem_of_getElem? (i := 18) rfl))) (mvT hZ (hw _ (List.mem_of_getElem? (i := 15) rfl))) (mvT hZ (hw _ (List.mem_of_getElem? (i := 19) rfl))) (by decide) (backOf (W := 0) (rm5 l Z a0 hw [] a1 (0 : Int32) z_a1 z_a1 c_a1 h0 n0 Z0 V_a1 ⟨by decide, hz.1, Int.le_refl _, hz.2⟩) hZ (hw _ (List.mem_of_getElem? (i := 19) rfl)) (hw _ (List.mem_of_getElem? (i := 15) rfl)) (by decide) (by decide)) (g := (mkF m 6 #[.val (.ref a1), .val (.int (0 : Int32)), .unset] [(.int z_a1), (.int (0 : Int32)), (.ref a1)])) rfl (by rw [hml]; rfl) (argsL := [(.ref a1), (.int (0 : Int32)), (.int z_a1)]) (rest := []) (lenOf pd_0 rfl) rfl (by show 2 * 0 + _ ≤ _; exact Nat.le_of_eq rfl) (hb hby d4_6) (fun _ _ => ⟨rfl, e0, (by decide : 0 + 0 ≤ _), (by decide : 0 + 0 ≤ _)⟩)
  dsimp only [Pt.U, Pt.locs, Pt.cells, Pt.slots] at X2 l2 y2 z2 st2 hQ2
  subst l2 y2 z2
  obtain ⟨rfl, N2q, e2⟩ := hQ2
  have N2 := Fr.app N0 N2q
  have pre1 : ∀ t, Steps p.tables e below (T2.setTop (mkF m 10 #[.val (.ref a1), .val (.int (0 : Int32)), .val (.int (f5 (0 : Int32) z_a1 z_a1 c_a1))] [])) t → Steps p.tables e below (s₁.setTop (entryFrame m #[(.ref a1)] 3)) t := by
    intro t k
    refine pre0 t ?_
    show Steps p.tables e below (s₁.setTop (mkF m 0 #[.val (.ref a1), .unset, .unset] [])) _
    refine XS.iconst X0.here hx rfl (hb hby d4_0) ?_
    show Steps p.tables e below (s₁.setTop (mkF m 1 #[.val (.ref a1), .unset, .unset] [(.int (0 : Int32))])) _
    refine XS.istoreN X0.here hx rfl (hb hby d4_1) rfl (l' := #[.val (.ref a1), .val (.int (0 : Int32)), .unset]) rfl ?_
    show Steps p.tables e below (s₁.setTop (mkF m 2 #[.val (.ref a1), .val (.int (0 : Int32)), .unset] [])) _
    refine XS.aloadN X0.here hx rfl (hb hby d4_2) rfl rfl ?_
    show Steps p.tables e below (s₁.setTop (mkF m 3 #[.val (.ref a1), .val (.int (0 : Int32)), .unset] [(.ref a1)])) _
    refine XS.iconst X0.here hx rfl (hb hby d4_3) ?_
    show Steps p.tables e below (s₁.setTop (mkF m 4 #[.val (.ref a1), .val (.int (0 : Int32)), .unset] [(.int (0 : Int32)), (.ref a1)])) _
    refine XS.aloadN X0.here hx rfl (hb hby d4_4) rfl rfl ?_
    show Steps p.tables e below (s₁.setTop (mkF m 5 #[.val (.ref a1), .val (.int (0 : Int32)), .unset] [(.ref a1), (.int (0 : Int32)), (.ref a1)])) _
    refine alen X0 hx hZ e0 V_a1 (g := (mkF m 5 #[.val (.ref a1), .val (.int (0 : Int32)), .unset] [(.ref a1), (.int (0 : Int32)), (.ref a1)])) rfl rfl (hb hby d4_5) ?_
    show Steps p.tables e below (s₁.setTop (mkF m 6 #[.val (.ref a1), .val (.int (0 : Int32)), .unset] [(.int z_a1), (.int (0 : Int32)), (.ref a1)])) _
    refine st2 _ ?_
    show Steps p.tables e below (T2.setTop (mkF m 9 #[.val (.ref a1), .val (.int (0 : Int32)), .unset] [(.int (f5 (0 : Int32) z_a1 z_a1 c_a1))])) _
    refine XS.istoreN X2.here hx rfl (hb hby d4_9) rfl (l' := #[.val (.ref a1), .val (.int (0 : Int32)), .val (.int (f5 (0 : Int32) z_a1 z_a1 c_a1))]) rfl ?_
    exact k
  have loop10 : ∀ (k : Nat) (i1 : Int32) (i2 : Int32) (T3 : State) (LT3 : List Loc), 0 ≤ i1.toInt ∧ i1.toInt ≤ z_a1.toInt ∧ z_a1.toInt ≤ 13 ∧ 0 ≤ i2.toInt ∧ i2.toInt ≤ 2 ∧ (0 < i2.toInt → i1.toInt + i2.toInt ≤ z_a1.toInt) ∧ z_a1.toInt - i1.toInt < (k : Int) → Stand p l e ({ frames := 1, cells := 0, slots := 0, locals := 17 } : Room) s m #[(.ref a1)] below meth c T3 LT3 0 0 → T3.heap = h0 → Fr n0 LT3 → (g4_10 z_a1 c_a1 k i1 i2) = (f4 z_a1 c_a1) → (∀ t, Steps p.tables e below (T3.setTop (mkF m 10 #[.val (.ref a1), .val (.int i1), .val (.int i2)] [])) t → Steps p.tables e below (s₁.setTop (entryFrame m #[(.ref a1)] 3)) t) → ∃ s₂ o, Steps p.tables e below (s₁.setTop (entryFrame m #[(.ref a1)] 3)) s₂ ∧ s₂.status = .running ∧ Ended s₂ below o ∧ ∃ v L, o = .returned v ∧ Q4 Z a1 z_a1 c_a1 h0 n0 v s₂.heap L ∧ FrameEnd s o s₂ L ({ frames := 1, cells := 0, slots := 0, locals := 17 } : Room).cells ({ frames := 1, cells := 0, slots := 0, locals := 17 } : Room).slots := by
    intro k
    induction k with
    | zero => intro i1 i2 T3 LT3 hI X3 e3 N3 hg preL; exact absurd hI (by omega)
    | succ k ih =>
      intro i1 i2 T3 LT3 hI X3 e3 N3 hg preL
      have pre2 : ∀ t, Steps p.tables e below (T3.setTop (mkF m 11 #[.val (.ref a1), .val (.int i1), .val (.int i2)] [(.int i2)])) t → Steps p.tables e below (s₁.setTop (entryFrame m #[(.ref a1)] 3)) t := by
        intro t k
        refine preL t ?_
        show Steps p.tables e below (T3.setTop (mkF m 10 #[.val (.ref a1), .val (.int i1), .val (.int i2)] [])) _
        refine XS.iloadN X3.here hx rfl (hb hby d4_10) rfl ?_
        exact k
      by_cases hc11 : (0 : Int32) < i2
      · obtain ⟨_, _, ⟨T4, L4, k4, n4⟩, -, X4, ⟨Lc4, hQ4, l4, y4, z4⟩, st4⟩ := Jvm.LawKit.callS X3 hx (y := (⟨"com/example/titlepoint/titlepoint/Iso2709Reader", "lineEnd", "([BII)I"⟩ : MethodName)) hown (mvT hZ (hw _ (List.mem_of_getElem? (i := 17) rfl))) (mvT hZ (hw _ (List.mem_of_getElem? (i := 18) rfl))) (mvT hZ (hw _ (List.mem_of_getElem? (i := 15) rfl))) (mvT hZ (hw _ (List.mem_of_getElem? (i := 19) rfl))) (by decide) (backOf (W := 0) (rm5 l Z a0 hw [] a1 (i1 + i2) z_a1 z_a1 c_a1 h0 n0 Z0 V_a1 (own_w1 hI hc11)) hZ (hw _ (List.mem_of_getElem? (i := 19) rfl)) (hw _ (List.mem_of_getElem? (i := 15) rfl)) (by decide) (by decide)) (g := (mkF m 22 #[.val (.ref a1), .val (.int (i1 + i2)), .val (.int i2)] [(.int z_a1), (.int (i1 + i2)), (.ref a1)])) rfl (by rw [hml]; rfl) (argsL := [(.ref a1), (.int (i1 + i2)), (.int z_a1)]) (rest := []) (lenOf pd_0 rfl) rfl (by show 2 * 0 + _ ≤ _; exact Nat.le_of_eq rfl) (hb hby d4_22) (fun _ _ => ⟨rfl, e3, (by decide : 0 + 0 ≤ _), (by decide : 0 + 0 ≤ _)⟩)
        dsimp only [Pt.U, Pt.locs, Pt.cells, Pt.slots] at X4 l4 y4 z4 st4 hQ4
        subst l4 y4 z4
        obtain ⟨rfl, N4q, e4⟩ := hQ4
        have N4 := Fr.app N3 N4q
        have eq3 : (f4 z_a1 c_a1) = (g4_10 z_a1 c_a1 k (i1 + i2) (f5 (i1 + i2) z_a1 z_a1 c_a1)) := by rw [← hg]; simp only [g4_10, if_pos hc11]
        have pre4 : ∀ t, Steps p.tables e below (T4.setTop (mkF m 10 #[.val (.ref a1), .val (.int (i1 + i2)), .val (.int (f5 (i1 + i2) z_a1 z_a1 c_a1))] [])) t → Steps p.tables e below (s₁.setTop (entryFrame m #[(.ref a1)] 3)) t := by
          intro t k
          refine pre2 t ?_
          show Steps p.tables e below (T3.setTop (mkF m 11 #[.val (.ref a1), .val (.int i1), .val (.int i2)] [(.int i2)])) _
          refine XS.ifNo X3.here hx rfl (hb hby d4_11) rfl ((if0 _ _).trans (tlt hc11).2.2.2) ?_
          show Steps p.tables e below (T3.setTop (mkF m 14 #[.val (.ref a1), .val (.int i1), .val (.int i2)] [])) _
          refine XS.iloadN X3.here hx rfl (hb hby d4_14) rfl ?_
          show Steps p.tables e below (T3.setTop (mkF m 15 #[.val (.ref a1), .val (.int i1), .val (.int i2)] [(.int i1)])) _
          refine XS.iloadN X3.here hx rfl (hb hby d4_15) rfl ?_
          show Steps p.tables e below (T3.setTop (mkF m 16 #[.val (.ref a1), .val (.int i1), .val (.int i2)] [(.int i2), (.int i1)])) _
          refine XS.iadd X3.here hx rfl (hb hby d4_16) rfl ?_
          show Steps p.tables e below (T3.setTop (mkF m 17 #[.val (.ref a1), .val (.int i1), .val (.int i2)] [(.int (i1 + i2))])) _
          refine XS.istoreN X3.here hx rfl (hb hby d4_17) rfl (l' := #[.val (.ref a1), .val (.int (i1 + i2)), .val (.int i2)]) rfl ?_
          show Steps p.tables e below (T3.setTop (mkF m 18 #[.val (.ref a1), .val (.int (i1 + i2)), .val (.int i2)] [])) _
          refine XS.aloadN X3.here hx rfl (hb hby d4_18) rfl rfl ?_
          show Steps p.tables e below (T3.setTop (mkF m 19 #[.val (.ref a1), .val (.int (i1 + i2)), .val (.int i2)] [(.ref a1)])) _
          refine XS.iloadN X3.here hx rfl (hb hby d4_19) rfl ?_
          show Steps p.tables e below (T3.setTop (mkF m 20 #[.val (.ref a1), .val (.int (i1 + i2)), .val (.int i2)] [(.int (i1 + i2)), (.ref a1)])) _
          refine XS.aloadN X3.here hx rfl (hb hby d4_20) rfl rfl ?_
          show Steps p.tables e below (T3.setTop (mkF m 21 #[.val (.ref a1), .val (.int (i1 + i2)), .val (.int i2)] [(.ref a1), (.int (i1 + i2)), (.ref a1)])) _
          refine alen X3 hx hZ e3 V_a1 (g := (mkF m 21 #[.val (.ref a1), .val (.int (i1 + i2)), .val (.int i2)] [(.ref a1), (.int (i1 + i2)), (.ref a1)])) rfl rfl (hb hby d4_21) ?_
          show Steps p.tables e below (T3.setTop (mkF m 22 #[.val (.ref a1), .val (.int (i1 + i2)), .val (.int i2)] [(.int z_a1), (.int (i1 + i2)), (.ref a1)])) _
          refine st4 _ ?_
          show Steps p.tables e below (T4.setTop (mkF m 25 #[.val (.ref a1), .val (.int (i1 + i2)), .val (.int i2)] [(.int (f5 (i1 + i2) z_a1 z_a1 c_a1))])) _
          refine XS.istoreN X4.here hx rfl (hb hby d4_25) rfl (l' := #[.val (.ref a1), .val (.int (i1 + i2)), .val (.int (f5 (i1 + i2) z_a1 z_a1 c_a1))]) rfl ?_
          show Steps p.tables e below (T4.setTop (mkF m 26 #[.val (.ref a1), .val (.int (i1 + i2)), .val (.int (f5 (i1 + i2) z_a1 z_a1 c_a1))] [])) _
          refine XS.goto X4.here hx rfl (pc0 := 26) (pc' := 10) rfl (hb hby d4_26) (by decide) (by decide) ?_
          exact k
        exact ih (i1 + i2) (f5 (i1 + i2) z_a1 z_a1 c_a1) T4 _  (own_w2 hI hc11) X4 e4 N4  (eq3).symm pre4
      · have pre5 : ∀ t, Steps p.tables e below (T3.setTop (mkF m 34 #[.val (.ref a1), .val (.int i1), .val (.int i2)] [(.int (5 : Int32)), (.int (z_a1 - i1))])) t → Steps p.tables e below (s₁.setTop (entryFrame m #[(.ref a1)] 3)) t := by
          intro t k
          refine pre2 t ?_
          show Steps p.tables e below (T3.setTop (mkF m 11 #[.val (.ref a1), .val (.int i1), .val (.int i2)] [(.int i2)])) _
          refine XS.ifYes X3.here hx rfl (pc0 := 11) (pc' := 29) rfl (hb hby d4_11) rfl ((if0 _ _).trans (flt hc11).2.2.2) (by decide) (by decide) ?_
          show Steps p.tables e below (T3.setTop (mkF m 29 #[.val (.ref a1), .val (.int i1), .val (.int i2)] [])) _
          refine XS.aloadN X3.here hx rfl (hb hby d4_29) rfl rfl ?_
          show Steps p.tables e below (T3.setTop (mkF m 30 #[.val (.ref a1), .val (.int i1), .val (.int i2)] [(.ref a1)])) _
          refine alen X3 hx hZ e3 V_a1 (g := (mkF m 30 #[.val (.ref a1), .val (.int i1), .val (.int i2)] [(.ref a1)])) rfl rfl (hb hby d4_30) ?_
          show Steps p.tables e below (T3.setTop (mkF m 31 #[.val (.ref a1), .val (.int i1), .val (.int i2)] [(.int z_a1)])) _
          refine XS.iloadN X3.here hx rfl (hb hby d4_31) rfl ?_
          show Steps p.tables e below (T3.setTop (mkF m 32 #[.val (.ref a1), .val (.int i1), .val (.int i2)] [(.int i1), (.int z_a1)])) _
          refine XS.isub X3.here hx rfl (hb hby d4_32) rfl ?_
          show Steps p.tables e below (T3.setTop (mkF m 33 #[.val (.ref a1), .val (.int i1), .val (.int i2)] [(.int (z_a1 - i1))])) _
          refine XS.iconst X3.here hx rfl (hb hby d4_33) ?_
          exact k
        by_cases hc34 : (z_a1 - i1) < (5 : Int32)
        · have eq6 : (f4 z_a1 c_a1) = (0 : Int32) := by rw [← hg]; simp only [g4_10, if_neg hc11, if_pos hc34]
          obtain ⟨fs, hr, hrun, hended, hW, hsame⟩ := X3.leave (v := some (.int (0 : Int32))) (fun h => by rw [Bd.returns] at h; cases h)
          refine ⟨_, _, pre5 _ ?_, hrun, hended, _, _, rfl, ?_, ⟨_, rfl⟩, hW, hsame.mono (by decide) (by decide)⟩
          · show Steps p.tables e below (T3.setTop (mkF m 34 #[.val (.ref a1), .val (.int i1), .val (.int i2)] [(.int (5 : Int32)), (.int (z_a1 - i1))])) _
            refine XS.icmpYes X3.here hx rfl (pc0 := 34) (pc' := 50) rfl (hb hby d4_34) rfl (tlt hc34).1 (by decide) (by decide) ?_
            show Steps p.tables e below (T3.setTop (mkF m 50 #[.val (.ref a1), .val (.int i1), .val (.int i2)] [])) _
            refine XS.iconst X3.here hx rfl (hb hby d4_50) ?_
            show Steps p.tables e below (T3.setTop (mkF m 51 #[.val (.ref a1), .val (.int i1), .val (.int i2)] [(.int (0 : Int32))])) _
            exact retN X3 hx (t := .boolean) Bd.returns (by simp) (hb hby d4_51) hr
          · show Q4 Z a1 z_a1 c_a1 h0 n0 _ T3.heap _
            rw [e3]
            exact ⟨by rw [eq6], N3, rfl⟩
        · obtain ⟨_, _, ⟨T5, L5, k5, n5⟩, -, X5, ⟨Lc5, hQ5, l5, y5, z5⟩, st5⟩ := Jvm.LawKit.callS X3 hx (y := (⟨"com/example/titlepoint/titlepoint/Iso2709Reader", "number", "([BII)I"⟩ : MethodName)) hown (mvT hZ (hw _ (List.mem_of_getElem? (i := 23) rfl))) (mvT hZ (hw _ (List.mem_of_getElem? (i := 24) rfl))) (mvT hZ (hw _ (List.mem_of_getElem? (i := 15) rfl))) (mvT hZ (hw _ (List.mem_of_getElem? (i := 25) rfl))) (by decide) (backOf (W := 0) (rm7 l Z a0 hw [] a1 i1 (5 : Int32) z_a1 c_a1 h0 n0 Z0 V_a1 rfl (own_w4 hI hc34)) hZ (hw _ (List.mem_of_getElem? (i := 25) rfl)) (hw _ (List.mem_of_getElem? (i := 15) rfl)) (by decide) (by decide)) (g := (mkF m 40 #[.val (.ref a1), .val (.int i1), .val (.int i2)] [(.int (5 : Int32)), (.int i1), (.ref a1)])) rfl (by rw [hml]; rfl) (argsL := [(.ref a1), (.int i1), (.int (5 : Int32))]) (rest := []) (lenOf pd_0 rfl) rfl (by show 2 * 0 + _ ≤ _; exact Nat.le_of_eq rfl) (hb hby d4_40) (fun _ _ => ⟨rfl, e3, (by decide : 0 + 0 ≤ _), (by decide : 0 + 0 ≤ _)⟩)
          dsimp only [Pt.U, Pt.locs, Pt.cells, Pt.slots] at X5 l5 y5 z5 st5 hQ5
          subst l5 y5 z5
          obtain ⟨rfl, N5q, e5⟩ := hQ5
          have N5 := Fr.app N3 N5q
          have pre7 : ∀ t, Steps p.tables e below (T5.setTop (mkF m 43 #[.val (.ref a1), .val (.int i1), .val (.int i2)] [(.int (f7 i1 (5 : Int32) z_a1 c_a1))])) t → Steps p.tables e below (s₁.setTop (entryFrame m #[(.ref a1)] 3)) t := by
            intro t k
            refine pre5 t ?_
            show Steps p.tables e below (T3.setTop (mkF m 34 #[.val (.ref a1), .val (.int i1), .val (.int i2)] [(.int (5 : Int32)), (.int (z_a1 - i1))])) _
            refine XS.icmpNo X3.here hx rfl (hb hby d4_34) rfl (flt hc34).1 ?_
            show Steps p.tables e below (T3.setTop (mkF m 37 #[.val (.ref a1), .val (.int i1), .val (.int i2)] [])) _
            refine XS.aloadN X3.here hx rfl (hb hby d4_37) rfl rfl ?_
            show Steps p.tables e below (T3.setTop (mkF m 38 #[.val (.ref a1), .val (.int i1), .val (.int i2)] [(.ref a1)])) _
            refine XS.iloadN X3.here hx rfl (hb hby d4_38) rfl ?_
            show Steps p.tables e below (T3.setTop (mkF m 39 #[.val (.ref a1), .val (.int i1), .val (.int i2)] [(.int i1), (.ref a1)])) _
            refine XS.iconst X3.here hx rfl (hb hby d4_39) ?_
            show Steps p.tables e below (T3.setTop (mkF m 40 #[.val (.ref a1), .val (.int i1), .val (.int i2)] [(.int (5 : Int32)), (.int i1), (.ref a1)])) _
            refine st5 _ ?_
            exact k
          by_cases hc43 : (f7 i1 (5 : Int32) z_a1 c_a1) < (0 : Int32)
          · have eq8 : (f4 z_a1 c_a1) = (0 : Int32) := by rw [← hg]; simp only [g4_10, if_neg hc11, if_neg hc34, if_pos hc43]
            obtain ⟨fs, hr, hrun, hended, hW, hsame⟩ := X5.leave (v := some (.int (0 : Int32))) (fun h => by rw [Bd.returns] at h; cases h)
            refine ⟨_, _, pre7 _ ?_, hrun, hended, _, _, rfl, ?_, ⟨_, rfl⟩, hW, hsame.mono (by decide) (by decide)⟩
            · show Steps p.tables e below (T5.setTop (mkF m 43 #[.val (.ref a1), .val (.int i1), .val (.int i2)] [(.int (f7 i1 (5 : Int32) z_a1 c_a1))])) _
              refine XS.ifYes X5.here hx rfl (pc0 := 43) (pc' := 50) rfl (hb hby d4_43) rfl ((if0 _ _).trans (tlt hc43).1) (by decide) (by decide) ?_
              show Steps p.tables e below (T5.setTop (mkF m 50 #[.val (.ref a1), .val (.int i1), .val (.int i2)] [])) _
              refine XS.iconst X5.here hx rfl (hb hby d4_50) ?_
              show Steps p.tables e below (T5.setTop (mkF m 51 #[.val (.ref a1), .val (.int i1), .val (.int i2)] [(.int (0 : Int32))])) _
              exact retN X5 hx (t := .boolean) Bd.returns (by simp) (hb hby d4_51) hr
            · show Q4 Z a1 z_a1 c_a1 h0 n0 _ T5.heap _
              rw [e5]
              exact ⟨by rw [eq8], N5, rfl⟩
          · have eq9 : (f4 z_a1 c_a1) = (1 : Int32) := by rw [← hg]; simp only [g4_10, if_neg hc11, if_neg hc34, if_neg hc43]
            obtain ⟨fs, hr, hrun, hended, hW, hsame⟩ := X5.leave (v := some (.int (1 : Int32))) (fun h => by rw [Bd.returns] at h; cases h)
            refine ⟨_, _, pre7 _ ?_, hrun, hended, _, _, rfl, ?_, ⟨_, rfl⟩, hW, hsame.mono (by decide) (by decide)⟩
            · show Steps p.tables e below (T5.setTop (mkF m 43 #[.val (.ref a1), .val (.int i1), .val (.int i2)] [(.int (f7 i1 (5 : Int32) z_a1 c_a1))])) _
              refine XS.ifNo X5.here hx rfl (hb hby d4_43) rfl ((if0 _ _).trans (flt hc43).1) ?_
              show Steps p.tables e below (T5.setTop (mkF m 46 #[.val (.ref a1), .val (.int i1), .val (.int i2)] [])) _
              refine XS.iconst X5.here hx rfl (hb hby d4_46) ?_
              show Steps p.tables e below (T5.setTop (mkF m 47 #[.val (.ref a1), .val (.int i1), .val (.int i2)] [(.int (1 : Int32))])) _
              refine XS.goto X5.here hx rfl (pc0 := 47) (pc' := 51) rfl (hb hby d4_47) (by decide) (by decide) ?_
              show Steps p.tables e below (T5.setTop (mkF m 51 #[.val (.ref a1), .val (.int i1), .val (.int i2)] [(.int (1 : Int32))])) _
              exact retN X5 hx (t := .boolean) Bd.returns (by simp) (hb hby d4_51) hr
            · show Q4 Z a1 z_a1 c_a1 h0 n0 _ T5.heap _
              rw [e5]
              exact ⟨by rw [eq9], N5, rfl⟩
  exact loop10 14 (0 : Int32) (f5 (0 : Int32) z_a1 z_a1 c_a1) T2 _  (own_w3 hz) X2 e2 N2 (rfl) pre1
theorem pd_1 : parseMethodDescriptor "(JJI)B" = some ⟨[.long, .long, .int], some .byte⟩ := by decide +kernel
theorem pd_2 : parseMethodDescriptor "([BIZZ)I" = some ⟨[(.array .byte), .int, .boolean, .boolean], some .int⟩ := by decide +kernel
theorem pd_3 : parseMethodDescriptor "([BIB)V" = some ⟨[(.array .byte), .int, .byte], none⟩ := by decide +kernel
theorem pd_4 : parseMethodDescriptor "(B)Z" = some ⟨[.byte], some .boolean⟩ := by decide +kernel
theorem pd_5 : parseMethodDescriptor "([B)Z" = some ⟨[(.array .byte)], some .boolean⟩ := by decide +kernel
theorem ef_0 (m : MethodId) (x0 : Int32) (x1 : Int64) (x2 : Int64) : entryFrame m #[(.int x0), (.long x1), (.long x2)] maxLocals = mkF m 0 #[.val (.int x0), .val (.long x1), .second, .val (.long x2), .second, .unset, .unset, .unset, .unset, .unset, .unset, .unset, .unset, .unset, .unset, .unset, .unset, .unset, .unset, .unset, .unset] [] := by first | (simp [entryFrame, mkF, argsToLocals, Value.category, maxLocals]; done) | rfl
def f0_s0_16 (p1 : Int32) : Int32 := (if (p1 &&& (4 : Int32)) = (0 : Int32) then (0 : Int32) else (1 : Int32))
def f0_s0_30 (p1 : Int32) : Int32 := (if (p1 &&& (8 : Int32)) = (0 : Int32) then (0 : Int32) else (1 : Int32))
def f0_s0_44 (p1 : Int32) : Int32 := (if (p1 &&& (16 : Int32)) = (0 : Int32) then (0 : Int32) else (1 : Int32))
def f0_v52 (p1 : Int32) : Int32 := (((p1.toUInt32 >>> ((5 : Int32) &&& 31).toUInt32).toInt32) &&& (7 : Int32))
def f0_s0_73 (p1 : Int32) : Int32 := (if (0 : Int32) < (p1 &&& (3 : Int32)) then (if (f0_s0_16 p1) = (0 : Int32) then (1 : Int32) else (2 : Int32)) else (0 : Int32))
def f0_s0_93 (p1 : Int32) : Int32 := (if (1 : Int32) < (p1 &&& (3 : Int32)) then (if (f0_s0_30 p1) = (0 : Int32) then (1 : Int32) else (2 : Int32)) else (0 : Int32))
def f0_s0_114 (p1 : Int32) : Int32 := (if (2 : Int32) < (p1 &&& (3 : Int32)) then (if (f0_s0_44 p1) = (0 : Int32) then (1 : Int32) else (2 : Int32)) else (0 : Int32))
def f0_v115 (p1 : Int32) : Int32 := (((f0_s0_73 p1) + (f0_s0_93 p1)) + (f0_s0_114 p1))
def f0_l11_185 (q2 : Int64) (q3 : Int64) : Int32 := (if (f1 q2 q3 (0 : Int32)) = (10 : Int32) then (65 : Int32) else (f1 q2 q3 (0 : Int32)))
def f0_l12_203 (q2 : Int64) (q3 : Int64) : Int32 := (if (f0_l11_185 q2 q3) = (13 : Int32) then (if (f1 q2 q3 (1 : Int32)) = (10 : Int32) then (65 : Int32) else (f1 q2 q3 (1 : Int32))) else (f1 q2 q3 (1 : Int32)))
def f0_s0_229 (p1 : Int32) : Int32 := (if (0 : Int32) < (p1 &&& (3 : Int32)) then (1 : Int32) else (0 : Int32))
def f0_v234 (p1 : Int32) : Int32 := (f2 (0 : Int32) (f0_s0_229 p1) (f0_s0_16 p1) ((f0_v115 p1) + (f0_v52 p1)) (fun _ => 0))
def f0_s0_251 (p1 : Int32) : Int32 := (if (1 : Int32) < (p1 &&& (3 : Int32)) then (1 : Int32) else (0 : Int32))
def f0_v256 (p1 : Int32) : Int32 := (f2 (f0_v234 p1) (f0_s0_251 p1) (f0_s0_30 p1) ((f0_v115 p1) + (f0_v52 p1)) (f2_o0 (0 : Int32) (f0_s0_229 p1) (f0_s0_16 p1) ((f0_v115 p1) + (f0_v52 p1)) (fun _ => 0)))
def f0_s0_273 (p1 : Int32) : Int32 := (if (2 : Int32) < (p1 &&& (3 : Int32)) then (1 : Int32) else (0 : Int32))
def f0_v278 (p1 : Int32) : Int32 := (f2 (f0_v256 p1) (f0_s0_273 p1) (f0_s0_44 p1) ((f0_v115 p1) + (f0_v52 p1)) (f2_o0 (f0_v234 p1) (f0_s0_251 p1) (f0_s0_30 p1) ((f0_v115 p1) + (f0_v52 p1)) (f2_o0 (0 : Int32) (f0_s0_229 p1) (f0_s0_16 p1) ((f0_v115 p1) + (f0_v52 p1)) (fun _ => 0))))
def f0_s0_407 (p1 : Int32) (q2 : Int64) (q3 : Int64) : Int32 := (if (f0_v52 p1) < (5 : Int32) then (0 : Int32) else (if (f6 (f0_l11_185 q2 q3)) = (0 : Int32) then (0 : Int32) else (if (f6 (f0_l12_203 q2 q3)) = (0 : Int32) then (0 : Int32) else (if (f6 (f1 q2 q3 (2 : Int32))) = (0 : Int32) then (0 : Int32) else (if (f6 (f1 q2 q3 (3 : Int32))) = (0 : Int32) then (0 : Int32) else (if (f6 (f1 q2 q3 (4 : Int32))) = (0 : Int32) then (0 : Int32) else (1 : Int32)))))))
theorem own_r1 (p : Int32) : f0_s0_73 p = own_sz (f0_s0_229 p) (f0_s0_16 p) := by
  unfold f0_s0_73 f0_s0_229 own_sz
  split <;> simp
theorem own_r2 (p : Int32) : f0_s0_93 p = own_sz (f0_s0_251 p) (f0_s0_30 p) := by
  unfold f0_s0_93 f0_s0_251 own_sz
  split <;> simp
theorem own_r3 (p : Int32) : f0_s0_114 p = own_sz (f0_s0_273 p) (f0_s0_44 p) := by
  unfold f0_s0_114 f0_s0_273 own_sz
  split <;> simp
theorem own_at1 (p : Int32) : f0_v234 p = 0 + f0_s0_73 p := by rw [own_r1]; exact own_f2 _ _ _ _ _
theorem own_at2 (p : Int32) : f0_v256 p = 0 + f0_s0_73 p + f0_s0_93 p := by rw [← own_at1, own_r2]; exact own_f2 _ _ _ _ _
theorem own_at3 (p : Int32) : f0_v278 p = 0 + f0_s0_73 p + f0_s0_93 p + f0_s0_114 p := by rw [← own_at2, own_r3]; exact own_f2 _ _ _ _ _
theorem own_all (p : Int32) : (f0_v234 p).toInt = (f0_s0_73 p).toInt ∧ (f0_v256 p).toInt = (f0_s0_73 p).toInt + (f0_s0_93 p).toInt ∧ (f0_v278 p).toInt = (f0_s0_73 p).toInt + (f0_s0_93 p).toInt + (f0_s0_114 p).toInt ∧ ((f0_v115 p) + (f0_v52 p)).toInt = (f0_v278 p).toInt + (f0_v52 p).toInt ∧ (0 ≤ (f0_s0_73 p).toInt ∧ (f0_s0_73 p).toInt ≤ 2) ∧ (0 ≤ (f0_s0_93 p).toInt ∧ (f0_s0_93 p).toInt ≤ 2) ∧ (0 ≤ (f0_s0_114 p).toInt ∧ (f0_s0_114 p).toInt ≤ 2) ∧ 0 ≤ (f0_v52 p).toInt ∧ (f0_v52 p).toInt ≤ 7 := by
  have m : 0 ≤ (f0_v52 p).toInt ∧ (f0_v52 p).toInt ≤ 7 := by
    unfold f0_v52
    rw [c_mask _ 7 3 (by decide) (by decide)]
    omega
  have b1 : 0 ≤ (f0_s0_73 p).toInt ∧ (f0_s0_73 p).toInt ≤ 2 := by rw [own_r1]; exact own_szr _ _
  have b2 : 0 ≤ (f0_s0_93 p).toInt ∧ (f0_s0_93 p).toInt ≤ 2 := by rw [own_r2]; exact own_szr _ _
  have b3 : 0 ≤ (f0_s0_114 p).toInt ∧ (f0_s0_114 p).toInt ≤ 2 := by rw [own_r3]; exact own_szr _ _
  have e115 : f0_v115 p = f0_s0_73 p + f0_s0_93 p + f0_s0_114 p := rfl
  rw [own_at1, own_at2, own_at3, e115]
  generalize f0_s0_73 p = x at *
  generalize f0_s0_93 p = y at *
  generalize f0_s0_114 p = z at *
  generalize f0_v52 p = w at *
  have e0 : (0 : Int32).toInt = 0 := rfl
  have a1 := own_add 0 x (by omega) (by omega)
  have a2 := own_add (0 + x) y (by omega) (by omega)
  have a3 := own_add (0 + x + y) z (by omega) (by omega)
  have c2 := own_add x y (by omega) (by omega)
  have c3 := own_add (x + y) z (by omega) (by omega)
  have c4 := own_add (x + y + z) w (by omega) (by omega)
  refine ⟨by omega, by omega, by omega, by omega, b1, b2, b3, m⟩
theorem own_Z (p : Int32) : 0 ≤ ((f0_v115 p) + (f0_v52 p)).toInt ∧ ((f0_v115 p) + (f0_v52 p)).toInt ≤ 13 := by
  have h := own_all p
  omega
theorem own_neg (p : Int32) : ¬ ((f0_v115 p) + (f0_v52 p)) < 0 := by
  have h := own_Z p
  rw [Int32.lt_iff_toInt_lt, show (0 : Int32).toInt = 0 from rfl]; omega
theorem own_cap (p : Int32) : ((f0_v115 p) + (f0_v52 p)).toNatClampNeg ≤ 13 := by
  have h := own_Z p
  show ((f0_v115 p) + (f0_v52 p)).toInt.toNat ≤ 13
  omega
theorem own_q1 (p : Int32) : (¬ (f0_s0_229 p) = 0 → ¬ (0 : Int32) < 0 ∧ (0 : Int32) < ((f0_v115 p) + (f0_v52 p))) ∧ (¬ (f0_s0_229 p) = 0 → ¬ (f0_s0_16 p) = 0 → ¬ ((0 : Int32) + 1) < 0 ∧ ((0 : Int32) + 1) < ((f0_v115 p) + (f0_v52 p))) := own_pq 0 (f0_s0_229 p) (f0_s0_16 p) ((f0_v115 p) + (f0_v52 p)) (by have h := own_all p; rw [← own_r1, show (0 : Int32).toInt = 0 from rfl]; omega)
theorem own_q2 (p : Int32) : (¬ (f0_s0_251 p) = 0 → ¬ (f0_v234 p) < 0 ∧ (f0_v234 p) < ((f0_v115 p) + (f0_v52 p))) ∧ (¬ (f0_s0_251 p) = 0 → ¬ (f0_s0_30 p) = 0 → ¬ ((f0_v234 p) + 1) < 0 ∧ ((f0_v234 p) + 1) < ((f0_v115 p) + (f0_v52 p))) := own_pq (f0_v234 p) (f0_s0_251 p) (f0_s0_30 p) ((f0_v115 p) + (f0_v52 p)) (by have h := own_all p; rw [← own_r2]; omega)
theorem own_q3 (p : Int32) : (¬ (f0_s0_273 p) = 0 → ¬ (f0_v256 p) < 0 ∧ (f0_v256 p) < ((f0_v115 p) + (f0_v52 p))) ∧ (¬ (f0_s0_273 p) = 0 → ¬ (f0_s0_44 p) = 0 → ¬ ((f0_v256 p) + 1) < 0 ∧ ((f0_v256 p) + 1) < ((f0_v115 p) + (f0_v52 p))) := own_pq (f0_v256 p) (f0_s0_273 p) (f0_s0_44 p) ((f0_v115 p) + (f0_v52 p)) (by have h := own_all p; rw [← own_r3]; omega)
theorem own_pa (p : Int32) (i : Int32) (hi : 0 ≤ i.toInt ∧ i.toInt ≤ 7) : ((f0_v278 p) + i).toInt = (f0_v278 p).toInt + i.toInt := by
  have h := own_all p
  exact own_add _ _ (by omega) (by omega)
theorem own_put (p : Int32) (i : Int32) (hi : 0 ≤ i.toInt ∧ i.toInt ≤ 7) : ¬ ((f0_v278 p) + i) < 0 := by
  have h := own_all p
  have h2 := own_pa p i hi
  rw [Int32.lt_iff_toInt_lt, show (0 : Int32).toInt = 0 from rfl]; omega
theorem own_put0 (p : Int32) : ¬ (f0_v278 p) < 0 := by
  have h := own_all p
  rw [Int32.lt_iff_toInt_lt, show (0 : Int32).toInt = 0 from rfl]; omega
def f0 (p1 : Int32) (q2 : Int64) (q3 : Int64) : Int32 := (if (f4 ((f0_v115 p1) + (f0_v52 p1)) (f3_o0 ((f0_v278 p1) + (6 : Int32)) (f1 q2 q3 (6 : Int32)) ((f0_v115 p1) + (f0_v52 p1)) (f3_o0 ((f0_v278 p1) + (5 : Int32)) (f1 q2 q3 (5 : Int32)) ((f0_v115 p1) + (f0_v52 p1)) (f3_o0 ((f0_v278 p1) + (4 : Int32)) (f1 q2 q3 (4 : Int32)) ((f0_v115 p1) + (f0_v52 p1)) (f3_o0 ((f0_v278 p1) + (3 : Int32)) (f1 q2 q3 (3 : Int32)) ((f0_v115 p1) + (f0_v52 p1)) (f3_o0 ((f0_v278 p1) + (2 : Int32)) (f1 q2 q3 (2 : Int32)) ((f0_v115 p1) + (f0_v52 p1)) (f3_o0 ((f0_v278 p1) + (1 : Int32)) (f0_l12_203 q2 q3) ((f0_v115 p1) + (f0_v52 p1)) (f3_o0 (f0_v278 p1) (f0_l11_185 q2 q3) ((f0_v115 p1) + (f0_v52 p1)) (f2_o0 (f0_v256 p1) (f0_s0_273 p1) (f0_s0_44 p1) ((f0_v115 p1) + (f0_v52 p1)) (f2_o0 (f0_v234 p1) (f0_s0_251 p1) (f0_s0_30 p1) ((f0_v115 p1) + (f0_v52 p1)) (f2_o0 (0 : Int32) (f0_s0_229 p1) (f0_s0_16 p1) ((f0_v115 p1) + (f0_v52 p1)) (fun _ => 0)))))))))))) = (f0_s0_407 p1 q2 q3) then (1 : Int32) else (0 : Int32))
def Q0 (Z : State) (p1 : Int32) (q2 : Int64) (q3 : Int64) (h0 : Heap) (n0 : Nat) (v : Option Value) (h : Heap) (L : List Loc) : Prop := v = some (.int (f0 p1 q2 q3)) ∧ Fr n0 L ∧ True
set_option maxRecDepth 65536 in
set_option maxHeartbeats 40000000 in
theorem rm0 (l : Launch) (Z : State) (a0 : Array Value) (hw : ∀ d ∈ tables_1, d.before a0 Z = true) (ws : List Jvm.Cond) (p1 : Int32) (q2 : Int64) (q3 : Int64) (h0 : Heap) (n0 : Nat) (Z0 : n0 ≤ h0.size) :
    MetFree l x (head1 (Jvm.Cond.code x code maxLocals ret :: ws) room_1) (fun a U => a = #[(.int p1), (.long q2), (.long q3)] ∧ Z.Warmed39 U.vm ∧ U.heap = h0) (fun _ _ _ _ _ => True) (fun _ U o U' => ∃ v L, o = .returned v ∧ Q0 Z p1 q2 q3 h0 n0 v U'.heap L ∧ FrameEnd U o U' L room_1.cells room_1.slots) := by
  refine MetFree.of_bodySF (plainFor_of_name pn_0) hisR ?_
  intro p e s m args below meth c s₁ Bd hml0 hP hK
  obtain ⟨rfl, hZ, hh⟩ := hP
  have hx := Bd.exec
  have hby := Bd.bytes
  have hml : c.maxLocals = 21 := hml0
  have hown : s.vm.findClass "com/example/titlepoint/titlepoint/Iso2709ReaderBeginsWithRecordLengthPinLaw" = some m.cls := findClass_of_methodNamed Bd.named
  have hnm := (name_of_methodNamed Bd.named Bd.method).1
  have X0 : Stand p l e room_1 s m #[(.int p1), (.long q2), (.long q3)] below meth c s₁ [] 0 0 := Stand.of_body Bd
  have e0 : s₁.heap = h0 := by rw [← hh, Bd.state]; rfl
  have N0 := Fr.nil n0
  have pre0 : ∀ t, Steps p.tables e below (s₁.setTop (mkF m 0 #[.val (.int p1), .val (.long q2), .second, .val (.long q3), .second, .unset, .unset, .unset, .unset, .unset, .unset, .unset, .unset, .unset, .unset, .unset, .unset, .unset, .unset, .unset, .unset] [])) t → Steps p.tables e below (s₁.setTop (entryFrame m #[(.int p1), (.long q2), (.long q3)] maxLocals)) t := fun t k => castTop (ef_0 m p1 q2 q3) k
  have pre1 : ∀ t, Steps p.tables e below (s₁.setTop (mkF m 8 #[.val (.int p1), .val (.long q2), .second, .val (.long q3), .second, .val (.int (p1 &&& (3 : Int32))), .unset, .unset, .unset, .unset, .unset, .unset, .unset, .unset, .unset, .unset, .unset, .unset, .unset, .unset, .unset] [(.int (p1 &&& (4 : Int32)))])) t → Steps p.tables e below (s₁.setTop (entryFrame m #[(.int p1), (.long q2), (.long q3)] maxLocals)) t := by
    intro t k
    refine pre0 t ?_
    show Steps p.tables e below (s₁.setTop (mkF m 0 #[.val (.int p1), .val (.long q2), .second, .val (.long q3), .second, .unset, .unset, .unset, .unset, .unset, .unset, .unset, .unset, .unset, .unset, .unset, .unset, .unset, .unset, .unset, .unset] [])) _
    refine XS.iloadN X0.here hx rfl (hb hby at_0) rfl ?_
    show Steps p.tables e below (s₁.setTop (mkF m 1 #[.val (.int p1), .val (.long q2), .second, .val (.long q3), .second, .unset, .unset, .unset, .unset, .unset, .unset, .unset, .unset, .unset, .unset, .unset, .unset, .unset, .unset, .unset, .unset] [(.int p1)])) _
    refine XS.iconst X0.here hx rfl (hb hby at_1) ?_
    show Steps p.tables e below (s₁.setTop (mkF m 2 #[.val (.int p1), .val (.long q2), .second, .val (.long q3), .second, .unset, .unset, .unset, .unset, .unset, .unset, .unset, .unset, .unset, .unset, .unset, .unset, .unset, .unset, .unset, .unset] [(.int (3 : Int32)), (.int p1)])) _
    refine XS.iand X0.here hx rfl (hb hby at_2) rfl ?_
    show Steps p.tables e below (s₁.setTop (mkF m 3 #[.val (.int p1), .val (.long q2), .second, .val (.long q3), .second, .unset, .unset, .unset, .unset, .unset, .unset, .unset, .unset, .unset, .unset, .unset, .unset, .unset, .unset, .unset, .unset] [(.int (p1 &&& (3 : Int32)))])) _
    refine XS.istore X0.here hx rfl (hb hby at_3) rfl (l' := #[.val (.int p1), .val (.long q2), .second, .val (.long q3), .second, .val (.int (p1 &&& (3 : Int32))), .unset, .unset, .unset, .unset, .unset, .unset, .unset, .unset, .unset, .unset, .unset, .unset, .unset, .unset, .unset]) rfl ?_
    show Steps p.tables e below (s₁.setTop (mkF m 5 #[.val (.int p1), .val (.long q2), .second, .val (.long q3), .second, .val (.int (p1 &&& (3 : Int32))), .unset, .unset, .unset, .unset, .unset, .unset, .unset, .unset, .unset, .unset, .unset, .unset, .unset, .unset, .unset] [])) _
    refine XS.iloadN X0.here hx rfl (hb hby at_5) rfl ?_
    show Steps p.tables e below (s₁.setTop (mkF m 6 #[.val (.int p1), .val (.long q2), .second, .val (.long q3), .second, .val (.int (p1 &&& (3 : Int32))), .unset, .unset, .unset, .unset, .unset, .unset, .unset, .unset, .unset, .unset, .unset, .unset, .unset, .unset, .unset] [(.int p1)])) _
    refine XS.iconst X0.here hx rfl (hb hby at_6) ?_
    show Steps p.tables e below (s₁.setTop (mkF m 7 #[.val (.int p1), .val (.long q2), .second, .val (.long q3), .second, .val (.int (p1 &&& (3 : Int32))), .unset, .unset, .unset, .unset, .unset, .unset, .unset, .unset, .unset, .unset, .unset, .unset, .unset, .unset, .unset] [(.int (4 : Int32)), (.int p1)])) _
    refine XS.iand X0.here hx rfl (hb hby at_7) rfl ?_
    exact k
  have pre2 : ∀ t, Steps p.tables e below (s₁.setTop (mkF m 16 #[.val (.int p1), .val (.long q2), .second, .val (.long q3), .second, .val (.int (p1 &&& (3 : Int32))), .unset, .unset, .unset, .unset, .unset, .unset, .unset, .unset, .unset, .unset, .unset, .unset, .unset, .unset, .unset] [(.int (f0_s0_16 p1))])) t → Steps p.tables e below (s₁.setTop (entryFrame m #[(.int p1), (.long q2), (.long q3)] maxLocals)) t := by
    intro t k
    by_cases hc8 : (p1 &&& (4 : Int32)) = (0 : Int32)
    · have eq3 := (show (f0_s0_16 p1) = (0 : Int32) from by unfold f0_s0_16; simp only [if_pos hc8])
      try rw [eq3] at k
      refine pre1 t ?_
      show Steps p.tables e below (s₁.setTop (mkF m 8 #[.val (.int p1), .val (.long q2), .second, .val (.long q3), .second, .val (.int (p1 &&& (3 : Int32))), .unset, .unset, .unset, .unset, .unset, .unset, .unset, .unset, .unset, .unset, .unset, .unset, .unset, .unset, .unset] [(.int (p1 &&& (4 : Int32)))])) _
      refine XS.ifYes X0.here hx rfl (pc0 := 8) (pc' := 15) rfl (hb hby at_8) rfl ((if0 _ _).trans (teq hc8).1) (by decide) (by decide) ?_
      show Steps p.tables e below (s₁.setTop (mkF m 15 #[.val (.int p1), .val (.long q2), .second, .val (.long q3), .second, .val (.int (p1 &&& (3 : Int32))), .unset, .unset, .unset, .unset, .unset, .unset, .unset, .unset, .unset, .unset, .unset, .unset, .unset, .unset, .unset] [])) _
      refine XS.iconst X0.here hx rfl (hb hby at_15) ?_
      exact k
    · have eq4 := (show (f0_s0_16 p1) = (1 : Int32) from by unfold f0_s0_16; simp only [if_neg hc8])
      try rw [eq4] at k
      refine pre1 t ?_
      show Steps p.tables e below (s₁.setTop (mkF m 8 #[.val (.int p1), .val (.long q2), .second, .val (.long q3), .second, .val (.int (p1 &&& (3 : Int32))), .unset, .unset, .unset, .unset, .unset, .unset, .unset, .unset, .unset, .unset, .unset, .unset, .unset, .unset, .unset] [(.int (p1 &&& (4 : Int32)))])) _
      refine XS.ifNo X0.here hx rfl (hb hby at_8) rfl ((if0 _ _).trans (feq hc8).1) ?_
      show Steps p.tables e below (s₁.setTop (mkF m 11 #[.val (.int p1), .val (.long q2), .second, .val (.long q3), .second, .val (.int (p1 &&& (3 : Int32))), .unset, .unset, .unset, .unset, .unset, .unset, .unset, .unset, .unset, .unset, .unset, .unset, .unset, .unset, .unset] [])) _
      refine XS.iconst X0.here hx rfl (hb hby at_11) ?_
      show Steps p.tables e below (s₁.setTop (mkF m 12 #[.val (.int p1), .val (.long q2), .second, .val (.long q3), .second, .val (.int (p1 &&& (3 : Int32))), .unset, .unset, .unset, .unset, .unset, .unset, .unset, .unset, .unset, .unset, .unset, .unset, .unset, .unset, .unset] [(.int (1 : Int32))])) _
      refine XS.goto X0.here hx rfl (pc0 := 12) (pc' := 16) rfl (hb hby at_12) (by decide) (by decide) ?_
      exact k
  have pre5 : ∀ t, Steps p.tables e below (s₁.setTop (mkF m 22 #[.val (.int p1), .val (.long q2), .second, .val (.long q3), .second, .val (.int (p1 &&& (3 : Int32))), .val (.int (f0_s0_16 p1)), .unset, .unset, .unset, .unset, .unset, .unset, .unset, .unset, .unset, .unset, .unset, .unset, .unset, .unset] [(.int (p1 &&& (8 : Int32)))])) t → Steps p.tables e below (s₁.setTop (entryFrame m #[(.int p1), (.long q2), (.long q3)] maxLocals)) t := by
    intro t k
    refine pre2 t ?_
    show Steps p.tables e below (s₁.setTop (mkF m 16 #[.val (.int p1), .val (.long q2), .second, .val (.long q3), .second, .val (.int (p1 &&& (3 : Int32))), .unset, .unset, .unset, .unset, .unset, .unset, .unset, .unset, .unset, .unset, .unset, .unset, .unset, .unset, .unset] [(.int (f0_s0_16 p1))])) _
    refine XS.istore X0.here hx rfl (hb hby at_16) rfl (l' := #[.val (.int p1), .val (.long q2), .second, .val (.long q3), .second, .val (.int (p1 &&& (3 : Int32))), .val (.int (f0_s0_16 p1)), .unset, .unset, .unset, .unset, .unset, .unset, .unset, .unset, .unset, .unset, .unset, .unset, .unset, .unset]) rfl ?_
    show Steps p.tables e below (s₁.setTop (mkF m 18 #[.val (.int p1), .val (.long q2), .second, .val (.long q3), .second, .val (.int (p1 &&& (3 : Int32))), .val (.int (f0_s0_16 p1)), .unset, .unset, .unset, .unset, .unset, .unset, .unset, .unset, .unset, .unset, .unset, .unset, .unset, .unset] [])) _
    refine XS.iloadN X0.here hx rfl (hb hby at_18) rfl ?_
    show Steps p.tables e below (s₁.setTop (mkF m 19 #[.val (.int p1), .val (.long q2), .second, .val (.long q3), .second, .val (.int (p1 &&& (3 : Int32))), .val (.int (f0_s0_16 p1)), .unset, .unset, .unset, .unset, .unset, .unset, .unset, .unset, .unset, .unset, .unset, .unset, .unset, .unset] [(.int p1)])) _
    refine XS.bipush X0.here hx rfl (hb hby at_19) ?_
    show Steps p.tables e below (s₁.setTop (mkF m 21 #[.val (.int p1), .val (.long q2), .second, .val (.long q3), .second, .val (.int (p1 &&& (3 : Int32))), .val (.int (f0_s0_16 p1)), .unset, .unset, .unset, .unset, .unset, .unset, .unset, .unset, .unset, .unset, .unset, .unset, .unset, .unset] [(.int (8 : Int32)), (.int p1)])) _
    refine XS.iand X0.here hx rfl (hb hby at_21) rfl ?_
    exact k
  have pre6 : ∀ t, Steps p.tables e below (s₁.setTop (mkF m 30 #[.val (.int p1), .val (.long q2), .second, .val (.long q3), .second, .val (.int (p1 &&& (3 : Int32))), .val (.int (f0_s0_16 p1)), .unset, .unset, .unset, .unset, .unset, .unset, .unset, .unset, .unset, .unset, .unset, .unset, .unset, .unset] [(.int (f0_s0_30 p1))])) t → Steps p.tables e below (s₁.setTop (entryFrame m #[(.int p1), (.long q2), (.long q3)] maxLocals)) t := by
    intro t k
    by_cases hc22 : (p1 &&& (8 : Int32)) = (0 : Int32)
    · have eq7 := (show (f0_s0_30 p1) = (0 : Int32) from by unfold f0_s0_30; simp only [if_pos hc22])
      try rw [eq7] at k
      refine pre5 t ?_
      show Steps p.tables e below (s₁.setTop (mkF m 22 #[.val (.int p1), .val (.long q2), .second, .val (.long q3), .second, .val (.int (p1 &&& (3 : Int32))), .val (.int (f0_s0_16 p1)), .unset, .unset, .unset, .unset, .unset, .unset, .unset, .unset, .unset, .unset, .unset, .unset, .unset, .unset] [(.int (p1 &&& (8 : Int32)))])) _
      refine XS.ifYes X0.here hx rfl (pc0 := 22) (pc' := 29) rfl (hb hby at_22) rfl ((if0 _ _).trans (teq hc22).1) (by decide) (by decide) ?_
      show Steps p.tables e below (s₁.setTop (mkF m 29 #[.val (.int p1), .val (.long q2), .second, .val (.long q3), .second, .val (.int (p1 &&& (3 : Int32))), .val (.int (f0_s0_16 p1)), .unset, .unset, .unset, .unset, .unset, .unset, .unset, .unset, .unset, .unset, .unset, .unset, .unset, .unset] [])) _
      refine XS.iconst X0.here hx rfl (hb hby at_29) ?_
      exact k
    · have eq8 := (show (f0_s0_30 p1) = (1 : Int32) from by unfold f0_s0_30; simp only [if_neg hc22])
      try rw [eq8] at k
      refine pre5 t ?_
      show Steps p.tables e below (s₁.setTop (mkF m 22 #[.val (.int p1), .val (.long q2), .second, .val (.long q3), .second, .val (.int (p1 &&& (3 : Int32))), .val (.int (f0_s0_16 p1)), .unset, .unset, .unset, .unset, .unset, .unset, .unset, .unset, .unset, .unset, .unset, .unset, .unset, .unset] [(.int (p1 &&& (8 : Int32)))])) _
      refine XS.ifNo X0.here hx rfl (hb hby at_22) rfl ((if0 _ _).trans (feq hc22).1) ?_
      show Steps p.tables e below (s₁.setTop (mkF m 25 #[.val (.int p1), .val (.long q2), .second, .val (.long q3), .second, .val (.int (p1 &&& (3 : Int32))), .val (.int (f0_s0_16 p1)), .unset, .unset, .unset, .unset, .unset, .unset, .unset, .unset, .unset, .unset, .unset, .unset, .unset, .unset] [])) _
      refine XS.iconst X0.here hx rfl (hb hby at_25) ?_
      show Steps p.tables e below (s₁.setTop (mkF m 26 #[.val (.int p1), .val (.long q2), .second, .val (.long q3), .second, .val (.int (p1 &&& (3 : Int32))), .val (.int (f0_s0_16 p1)), .unset, .unset, .unset, .unset, .unset, .unset, .unset, .unset, .unset, .unset, .unset, .unset, .unset, .unset] [(.int (1 : Int32))])) _
      refine XS.goto X0.here hx rfl (pc0 := 26) (pc' := 30) rfl (hb hby at_26) (by decide) (by decide) ?_
      exact k
  have pre9 : ∀ t, Steps p.tables e below (s₁.setTop (mkF m 36 #[.val (.int p1), .val (.long q2), .second, .val (.long q3), .second, .val (.int (p1 &&& (3 : Int32))), .val (.int (f0_s0_16 p1)), .val (.int (f0_s0_30 p1)), .unset, .unset, .unset, .unset, .unset, .unset, .unset, .unset, .unset, .unset, .unset, .unset, .unset] [(.int (p1 &&& (16 : Int32)))])) t → Steps p.tables e below (s₁.setTop (entryFrame m #[(.int p1), (.long q2), (.long q3)] maxLocals)) t := by
    intro t k
    refine pre6 t ?_
    show Steps p.tables e below (s₁.setTop (mkF m 30 #[.val (.int p1), .val (.long q2), .second, .val (.long q3), .second, .val (.int (p1 &&& (3 : Int32))), .val (.int (f0_s0_16 p1)), .unset, .unset, .unset, .unset, .unset, .unset, .unset, .unset, .unset, .unset, .unset, .unset, .unset, .unset] [(.int (f0_s0_30 p1))])) _
    refine XS.istore X0.here hx rfl (hb hby at_30) rfl (l' := #[.val (.int p1), .val (.long q2), .second, .val (.long q3), .second, .val (.int (p1 &&& (3 : Int32))), .val (.int (f0_s0_16 p1)), .val (.int (f0_s0_30 p1)), .unset, .unset, .unset, .unset, .unset, .unset, .unset, .unset, .unset, .unset, .unset, .unset, .unset]) rfl ?_
    show Steps p.tables e below (s₁.setTop (mkF m 32 #[.val (.int p1), .val (.long q2), .second, .val (.long q3), .second, .val (.int (p1 &&& (3 : Int32))), .val (.int (f0_s0_16 p1)), .val (.int (f0_s0_30 p1)), .unset, .unset, .unset, .unset, .unset, .unset, .unset, .unset, .unset, .unset, .unset, .unset, .unset] [])) _
    refine XS.iloadN X0.here hx rfl (hb hby at_32) rfl ?_
    show Steps p.tables e below (s₁.setTop (mkF m 33 #[.val (.int p1), .val (.long q2), .second, .val (.long q3), .second, .val (.int (p1 &&& (3 : Int32))), .val (.int (f0_s0_16 p1)), .val (.int (f0_s0_30 p1)), .unset, .unset, .unset, .unset, .unset, .unset, .unset, .unset, .unset, .unset, .unset, .unset, .unset] [(.int p1)])) _
    refine XS.bipush X0.here hx rfl (hb hby at_33) ?_
    show Steps p.tables e below (s₁.setTop (mkF m 35 #[.val (.int p1), .val (.long q2), .second, .val (.long q3), .second, .val (.int (p1 &&& (3 : Int32))), .val (.int (f0_s0_16 p1)), .val (.int (f0_s0_30 p1)), .unset, .unset, .unset, .unset, .unset, .unset, .unset, .unset, .unset, .unset, .unset, .unset, .unset] [(.int (16 : Int32)), (.int p1)])) _
    refine XS.iand X0.here hx rfl (hb hby at_35) rfl ?_
    exact k
  have pre10 : ∀ t, Steps p.tables e below (s₁.setTop (mkF m 44 #[.val (.int p1), .val (.long q2), .second, .val (.long q3), .second, .val (.int (p1 &&& (3 : Int32))), .val (.int (f0_s0_16 p1)), .val (.int (f0_s0_30 p1)), .unset, .unset, .unset, .unset, .unset, .unset, .unset, .unset, .unset, .unset, .unset, .unset, .unset] [(.int (f0_s0_44 p1))])) t → Steps p.tables e below (s₁.setTop (entryFrame m #[(.int p1), (.long q2), (.long q3)] maxLocals)) t := by
    intro t k
    by_cases hc36 : (p1 &&& (16 : Int32)) = (0 : Int32)
    · have eq11 := (show (f0_s0_44 p1) = (0 : Int32) from by unfold f0_s0_44; simp only [if_pos hc36])
      try rw [eq11] at k
      refine pre9 t ?_
      show Steps p.tables e below (s₁.setTop (mkF m 36 #[.val (.int p1), .val (.long q2), .second, .val (.long q3), .second, .val (.int (p1 &&& (3 : Int32))), .val (.int (f0_s0_16 p1)), .val (.int (f0_s0_30 p1)), .unset, .unset, .unset, .unset, .unset, .unset, .unset, .unset, .unset, .unset, .unset, .unset, .unset] [(.int (p1 &&& (16 : Int32)))])) _
      refine XS.ifYes X0.here hx rfl (pc0 := 36) (pc' := 43) rfl (hb hby at_36) rfl ((if0 _ _).trans (teq hc36).1) (by decide) (by decide) ?_
      show Steps p.tables e below (s₁.setTop (mkF m 43 #[.val (.int p1), .val (.long q2), .second, .val (.long q3), .second, .val (.int (p1 &&& (3 : Int32))), .val (.int (f0_s0_16 p1)), .val (.int (f0_s0_30 p1)), .unset, .unset, .unset, .unset, .unset, .unset, .unset, .unset, .unset, .unset, .unset, .unset, .unset] [])) _
      refine XS.iconst X0.here hx rfl (hb hby at_43) ?_
      exact k
    · have eq12 := (show (f0_s0_44 p1) = (1 : Int32) from by unfold f0_s0_44; simp only [if_neg hc36])
      try rw [eq12] at k
      refine pre9 t ?_
      show Steps p.tables e below (s₁.setTop (mkF m 36 #[.val (.int p1), .val (.long q2), .second, .val (.long q3), .second, .val (.int (p1 &&& (3 : Int32))), .val (.int (f0_s0_16 p1)), .val (.int (f0_s0_30 p1)), .unset, .unset, .unset, .unset, .unset, .unset, .unset, .unset, .unset, .unset, .unset, .unset, .unset] [(.int (p1 &&& (16 : Int32)))])) _
      refine XS.ifNo X0.here hx rfl (hb hby at_36) rfl ((if0 _ _).trans (feq hc36).1) ?_
      show Steps p.tables e below (s₁.setTop (mkF m 39 #[.val (.int p1), .val (.long q2), .second, .val (.long q3), .second, .val (.int (p1 &&& (3 : Int32))), .val (.int (f0_s0_16 p1)), .val (.int (f0_s0_30 p1)), .unset, .unset, .unset, .unset, .unset, .unset, .unset, .unset, .unset, .unset, .unset, .unset, .unset] [])) _
      refine XS.iconst X0.here hx rfl (hb hby at_39) ?_
      show Steps p.tables e below (s₁.setTop (mkF m 40 #[.val (.int p1), .val (.long q2), .second, .val (.long q3), .second, .val (.int (p1 &&& (3 : Int32))), .val (.int (f0_s0_16 p1)), .val (.int (f0_s0_30 p1)), .unset, .unset, .unset, .unset, .unset, .unset, .unset, .unset, .unset, .unset, .unset, .unset, .unset] [(.int (1 : Int32))])) _
      refine XS.goto X0.here hx rfl (pc0 := 40) (pc' := 44) rfl (hb hby at_40) (by decide) (by decide) ?_
      exact k
  have pre13 : ∀ t, Steps p.tables e below (s₁.setTop (mkF m 56 #[.val (.int p1), .val (.long q2), .second, .val (.long q3), .second, .val (.int (p1 &&& (3 : Int32))), .val (.int (f0_s0_16 p1)), .val (.int (f0_s0_30 p1)), .val (.int (f0_s0_44 p1)), .val (.int (f0_v52 p1)), .unset, .unset, .unset, .unset, .unset, .unset, .unset, .unset, .unset, .unset, .unset] [(.int (p1 &&& (3 : Int32)))])) t → Steps p.tables e below (s₁.setTop (entryFrame m #[(.int p1), (.long q2), (.long q3)] maxLocals)) t := by
    intro t k
    refine pre10 t ?_
    show Steps p.tables e below (s₁.setTop (mkF m 44 #[.val (.int p1), .val (.long q2), .second, .val (.long q3), .second, .val (.int (p1 &&& (3 : Int32))), .val (.int (f0_s0_16 p1)), .val (.int (f0_s0_30 p1)), .unset, .unset, .unset, .unset, .unset, .unset, .unset, .unset, .unset, .unset, .unset, .unset, .unset] [(.int (f0_s0_44 p1))])) _
    refine XS.istore X0.here hx rfl (hb hby at_44) rfl (l' := #[.val (.int p1), .val (.long q2), .second, .val (.long q3), .second, .val (.int (p1 &&& (3 : Int32))), .val (.int (f0_s0_16 p1)), .val (.int (f0_s0_30 p1)), .val (.int (f0_s0_44 p1)), .unset, .unset, .unset, .unset, .unset, .unset, .unset, .unset, .unset, .unset, .unset, .unset]) rfl ?_
    show Steps p.tables e below (s₁.setTop (mkF m 46 #[.val (.int p1), .val (.long q2), .second, .val (.long q3), .second, .val (.int (p1 &&& (3 : Int32))), .val (.int (f0_s0_16 p1)), .val (.int (f0_s0_30 p1)), .val (.int (f0_s0_44 p1)), .unset, .unset, .unset, .unset, .unset, .unset, .unset, .unset, .unset, .unset, .unset, .unset] [])) _
    refine XS.iloadN X0.here hx rfl (hb hby at_46) rfl ?_
    show Steps p.tables e below (s₁.setTop (mkF m 47 #[.val (.int p1), .val (.long q2), .second, .val (.long q3), .second, .val (.int (p1 &&& (3 : Int32))), .val (.int (f0_s0_16 p1)), .val (.int (f0_s0_30 p1)), .val (.int (f0_s0_44 p1)), .unset, .unset, .unset, .unset, .unset, .unset, .unset, .unset, .unset, .unset, .unset, .unset] [(.int p1)])) _
    refine XS.iconst X0.here hx rfl (hb hby at_47) ?_
    show Steps p.tables e below (s₁.setTop (mkF m 48 #[.val (.int p1), .val (.long q2), .second, .val (.long q3), .second, .val (.int (p1 &&& (3 : Int32))), .val (.int (f0_s0_16 p1)), .val (.int (f0_s0_30 p1)), .val (.int (f0_s0_44 p1)), .unset, .unset, .unset, .unset, .unset, .unset, .unset, .unset, .unset, .unset, .unset, .unset] [(.int (5 : Int32)), (.int p1)])) _
    refine XS.iushr X0.here hx rfl (hb hby at_48) rfl ?_
    show Steps p.tables e below (s₁.setTop (mkF m 49 #[.val (.int p1), .val (.long q2), .second, .val (.long q3), .second, .val (.int (p1 &&& (3 : Int32))), .val (.int (f0_s0_16 p1)), .val (.int (f0_s0_30 p1)), .val (.int (f0_s0_44 p1)), .unset, .unset, .unset, .unset, .unset, .unset, .unset, .unset, .unset, .unset, .unset, .unset] [(.int ((p1.toUInt32 >>> ((5 : Int32) &&& 31).toUInt32).toInt32))])) _
    refine XS.bipush X0.here hx rfl (hb hby at_49) ?_
    show Steps p.tables e below (s₁.setTop (mkF m 51 #[.val (.int p1), .val (.long q2), .second, .val (.long q3), .second, .val (.int (p1 &&& (3 : Int32))), .val (.int (f0_s0_16 p1)), .val (.int (f0_s0_30 p1)), .val (.int (f0_s0_44 p1)), .unset, .unset, .unset, .unset, .unset, .unset, .unset, .unset, .unset, .unset, .unset, .unset] [(.int (7 : Int32)), (.int ((p1.toUInt32 >>> ((5 : Int32) &&& 31).toUInt32).toInt32))])) _
    refine XS.iand X0.here hx rfl (hb hby at_51) rfl ?_
    show Steps p.tables e below (s₁.setTop (mkF m 52 #[.val (.int p1), .val (.long q2), .second, .val (.long q3), .second, .val (.int (p1 &&& (3 : Int32))), .val (.int (f0_s0_16 p1)), .val (.int (f0_s0_30 p1)), .val (.int (f0_s0_44 p1)), .unset, .unset, .unset, .unset, .unset, .unset, .unset, .unset, .unset, .unset, .unset, .unset] [(.int (((p1.toUInt32 >>> ((5 : Int32) &&& 31).toUInt32).toInt32) &&& (7 : Int32)))])) _
    refine XS.istore X0.here hx rfl (hb hby at_52) rfl (l' := #[.val (.int p1), .val (.long q2), .second, .val (.long q3), .second, .val (.int (p1 &&& (3 : Int32))), .val (.int (f0_s0_16 p1)), .val (.int (f0_s0_30 p1)), .val (.int (f0_s0_44 p1)), .val (.int (f0_v52 p1)), .unset, .unset, .unset, .unset, .unset, .unset, .unset, .unset, .unset, .unset, .unset]) rfl ?_
    show Steps p.tables e below (s₁.setTop (mkF m 54 #[.val (.int p1), .val (.long q2), .second, .val (.long q3), .second, .val (.int (p1 &&& (3 : Int32))), .val (.int (f0_s0_16 p1)), .val (.int (f0_s0_30 p1)), .val (.int (f0_s0_44 p1)), .val (.int (f0_v52 p1)), .unset, .unset, .unset, .unset, .unset, .unset, .unset, .unset, .unset, .unset, .unset] [])) _
    refine XS.iload X0.here hx rfl (hb hby at_54) rfl ?_
    exact k
  have pre14 : ∀ t, Steps p.tables e below (s₁.setTop (mkF m 73 #[.val (.int p1), .val (.long q2), .second, .val (.long q3), .second, .val (.int (p1 &&& (3 : Int32))), .val (.int (f0_s0_16 p1)), .val (.int (f0_s0_30 p1)), .val (.int (f0_s0_44 p1)), .val (.int (f0_v52 p1)), .unset, .unset, .unset, .unset, .unset, .unset, .unset, .unset, .unset, .unset, .unset] [(.int (f0_s0_73 p1))])) t → Steps p.tables e below (s₁.setTop (entryFrame m #[(.int p1), (.long q2), (.long q3)] maxLocals)) t := by
    intro t k
    by_cases hc56 : (0 : Int32) < (p1 &&& (3 : Int32))
    · have pre15 : ∀ t, Steps p.tables e below (s₁.setTop (mkF m 61 #[.val (.int p1), .val (.long q2), .second, .val (.long q3), .second, .val (.int (p1 &&& (3 : Int32))), .val (.int (f0_s0_16 p1)), .val (.int (f0_s0_30 p1)), .val (.int (f0_s0_44 p1)), .val (.int (f0_v52 p1)), .unset, .unset, .unset, .unset, .unset, .unset, .unset, .unset, .unset, .unset, .unset] [(.int (f0_s0_16 p1))])) t → Steps p.tables e below (s₁.setTop (entryFrame m #[(.int p1), (.long q2), (.long q3)] maxLocals)) t := by
        intro t k
        refine pre13 t ?_
        show Steps p.tables e below (s₁.setTop (mkF m 56 #[.val (.int p1), .val (.long q2), .second, .val (.long q3), .second, .val (.int (p1 &&& (3 : Int32))), .val (.int (f0_s0_16 p1)), .val (.int (f0_s0_30 p1)), .val (.int (f0_s0_44 p1)), .val (.int (f0_v52 p1)), .unset, .unset, .unset, .unset, .unset, .unset, .unset, .unset, .unset, .unset, .unset] [(.int (p1 &&& (3 : Int32)))])) _
        refine XS.ifNo X0.here hx rfl (hb hby at_56) rfl ((if0 _ _).trans (tlt hc56).2.2.2) ?_
        show Steps p.tables e below (s₁.setTop (mkF m 59 #[.val (.int p1), .val (.long q2), .second, .val (.long q3), .second, .val (.int (p1 &&& (3 : Int32))), .val (.int (f0_s0_16 p1)), .val (.int (f0_s0_30 p1)), .val (.int (f0_s0_44 p1)), .val (.int (f0_v52 p1)), .unset, .unset, .unset, .unset, .unset, .unset, .unset, .unset, .unset, .unset, .unset] [])) _
        refine XS.iload X0.here hx rfl (hb hby at_59) rfl ?_
        exact k
      by_cases hc61 : (f0_s0_16 p1) = (0 : Int32)
      · have eq16 := (show (f0_s0_73 p1) = (1 : Int32) from by unfold f0_s0_73; simp only [if_pos hc56, if_pos hc61])
        try rw [eq16] at k
        refine pre15 t ?_
        show Steps p.tables e below (s₁.setTop (mkF m 61 #[.val (.int p1), .val (.long q2), .second, .val (.long q3), .second, .val (.int (p1 &&& (3 : Int32))), .val (.int (f0_s0_16 p1)), .val (.int (f0_s0_30 p1)), .val (.int (f0_s0_44 p1)), .val (.int (f0_v52 p1)), .unset, .unset, .unset, .unset, .unset, .unset, .unset, .unset, .unset, .unset, .unset] [(.int (f0_s0_16 p1))])) _
        refine XS.ifYes X0.here hx rfl (pc0 := 61) (pc' := 68) rfl (hb hby at_61) rfl ((if0 _ _).trans (teq hc61).1) (by decide) (by decide) ?_
        show Steps p.tables e below (s₁.setTop (mkF m 68 #[.val (.int p1), .val (.long q2), .second, .val (.long q3), .second, .val (.int (p1 &&& (3 : Int32))), .val (.int (f0_s0_16 p1)), .val (.int (f0_s0_30 p1)), .val (.int (f0_s0_44 p1)), .val (.int (f0_v52 p1)), .unset, .unset, .unset, .unset, .unset, .unset, .unset, .unset, .unset, .unset, .unset] [])) _
        refine XS.iconst X0.here hx rfl (hb hby at_68) ?_
        show Steps p.tables e below (s₁.setTop (mkF m 69 #[.val (.int p1), .val (.long q2), .second, .val (.long q3), .second, .val (.int (p1 &&& (3 : Int32))), .val (.int (f0_s0_16 p1)), .val (.int (f0_s0_30 p1)), .val (.int (f0_s0_44 p1)), .val (.int (f0_v52 p1)), .unset, .unset, .unset, .unset, .unset, .unset, .unset, .unset, .unset, .unset, .unset] [(.int (1 : Int32))])) _
        refine XS.goto X0.here hx rfl (pc0 := 69) (pc' := 73) rfl (hb hby at_69) (by decide) (by decide) ?_
        exact k
      · have eq17 := (show (f0_s0_73 p1) = (2 : Int32) from by unfold f0_s0_73; simp only [if_pos hc56, if_neg hc61])
        try rw [eq17] at k
        refine pre15 t ?_
        show Steps p.tables e below (s₁.setTop (mkF m 61 #[.val (.int p1), .val (.long q2), .second, .val (.long q3), .second, .val (.int (p1 &&& (3 : Int32))), .val (.int (f0_s0_16 p1)), .val (.int (f0_s0_30 p1)), .val (.int (f0_s0_44 p1)), .val (.int (f0_v52 p1)), .unset, .unset, .unset, .unset, .unset, .unset, .unset, .unset, .unset, .unset, .unset] [(.int (f0_s0_16 p1))])) _
        refine XS.ifNo X0.here hx rfl (hb hby at_61) rfl ((if0 _ _).trans (feq hc61).1) ?_
        show Steps p.tables e below (s₁.setTop (mkF m 64 #[.val (.int p1), .val (.long q2), .second, .val (.long q3), .second, .val (.int (p1 &&& (3 : Int32))), .val (.int (f0_s0_16 p1)), .val (.int (f0_s0_30 p1)), .val (.int (f0_s0_44 p1)), .val (.int (f0_v52 p1)), .unset, .unset, .unset, .unset, .unset, .unset, .unset, .unset, .unset, .unset, .unset] [])) _
        refine XS.iconst X0.here hx rfl (hb hby at_64) ?_
        show Steps p.tables e below (s₁.setTop (mkF m 65 #[.val (.int p1), .val (.long q2), .second, .val (.long q3), .second, .val (.int (p1 &&& (3 : Int32))), .val (.int (f0_s0_16 p1)), .val (.int (f0_s0_30 p1)), .val (.int (f0_s0_44 p1)), .val (.int (f0_v52 p1)), .unset, .unset, .unset, .unset, .unset, .unset, .unset, .unset, .unset, .unset, .unset] [(.int (2 : Int32))])) _
        refine XS.goto X0.here hx rfl (pc0 := 65) (pc' := 73) rfl (hb hby at_65) (by decide) (by decide) ?_
        exact k
    · have eq18 := (show (f0_s0_73 p1) = (0 : Int32) from by unfold f0_s0_73; simp only [if_neg hc56])
      try rw [eq18] at k
      refine pre13 t ?_
      show Steps p.tables e below (s₁.setTop (mkF m 56 #[.val (.int p1), .val (.long q2), .second, .val (.long q3), .second, .val (.int (p1 &&& (3 : Int32))), .val (.int (f0_s0_16 p1)), .val (.int (f0_s0_30 p1)), .val (.int (f0_s0_44 p1)), .val (.int (f0_v52 p1)), .unset, .unset, .unset, .unset, .unset, .unset, .unset, .unset, .unset, .unset, .unset] [(.int (p1 &&& (3 : Int32)))])) _
      refine XS.ifYes X0.here hx rfl (pc0 := 56) (pc' := 72) rfl (hb hby at_56) rfl ((if0 _ _).trans (flt hc56).2.2.2) (by decide) (by decide) ?_
      show Steps p.tables e below (s₁.setTop (mkF m 72 #[.val (.int p1), .val (.long q2), .second, .val (.long q3), .second, .val (.int (p1 &&& (3 : Int32))), .val (.int (f0_s0_16 p1)), .val (.int (f0_s0_30 p1)), .val (.int (f0_s0_44 p1)), .val (.int (f0_v52 p1)), .unset, .unset, .unset, .unset, .unset, .unset, .unset, .unset, .unset, .unset, .unset] [])) _
      refine XS.iconst X0.here hx rfl (hb hby at_72) ?_
      exact k
  have pre19 : ∀ t, Steps p.tables e below (s₁.setTop (mkF m 76 #[.val (.int p1), .val (.long q2), .second, .val (.long q3), .second, .val (.int (p1 &&& (3 : Int32))), .val (.int (f0_s0_16 p1)), .val (.int (f0_s0_30 p1)), .val (.int (f0_s0_44 p1)), .val (.int (f0_v52 p1)), .unset, .unset, .unset, .unset, .unset, .unset, .unset, .unset, .unset, .unset, .unset] [(.int (1 : Int32)), (.int (p1 &&& (3 : Int32))), (.int (f0_s0_73 p1))])) t → Steps p.tables e below (s₁.setTop (entryFrame m #[(.int p1), (.long q2), (.long q3)] maxLocals)) t := by
    intro t k
    refine pre14 t ?_
    show Steps p.tables e below (s₁.setTop (mkF m 73 #[.val (.int p1), .val (.long q2), .second, .val (.long q3), .second, .val (.int (p1 &&& (3 : Int32))), .val (.int (f0_s0_16 p1)), .val (.int (f0_s0_30 p1)), .val (.int (f0_s0_44 p1)), .val (.int (f0_v52 p1)), .unset, .unset, .unset, .unset, .unset, .unset, .unset, .unset, .unset, .unset, .unset] [(.int (f0_s0_73 p1))])) _
    refine XS.iload X0.here hx rfl (hb hby at_73) rfl ?_
    show Steps p.tables e below (s₁.setTop (mkF m 75 #[.val (.int p1), .val (.long q2), .second, .val (.long q3), .second, .val (.int (p1 &&& (3 : Int32))), .val (.int (f0_s0_16 p1)), .val (.int (f0_s0_30 p1)), .val (.int (f0_s0_44 p1)), .val (.int (f0_v52 p1)), .unset, .unset, .unset, .unset, .unset, .unset, .unset, .unset, .unset, .unset, .unset] [(.int (p1 &&& (3 : Int32))), (.int (f0_s0_73 p1))])) _
    refine XS.iconst X0.here hx rfl (hb hby at_75) ?_
    exact k
  have pre20 : ∀ t, Steps p.tables e below (s₁.setTop (mkF m 93 #[.val (.int p1), .val (.long q2), .second, .val (.long q3), .second, .val (.int (p1 &&& (3 : Int32))), .val (.int (f0_s0_16 p1)), .val (.int (f0_s0_30 p1)), .val (.int (f0_s0_44 p1)), .val (.int (f0_v52 p1)), .unset, .unset, .unset, .unset, .unset, .unset, .unset, .unset, .unset, .unset, .unset] [(.int (f0_s0_93 p1)), (.int (f0_s0_73 p1))])) t → Steps p.tables e below (s₁.setTop (entryFrame m #[(.int p1), (.long q2), (.long q3)] maxLocals)) t := by
    intro t k
    by_cases hc76 : (1 : Int32) < (p1 &&& (3 : Int32))
    · have pre21 : ∀ t, Steps p.tables e below (s₁.setTop (mkF m 81 #[.val (.int p1), .val (.long q2), .second, .val (.long q3), .second, .val (.int (p1 &&& (3 : Int32))), .val (.int (f0_s0_16 p1)), .val (.int (f0_s0_30 p1)), .val (.int (f0_s0_44 p1)), .val (.int (f0_v52 p1)), .unset, .unset, .unset, .unset, .unset, .unset, .unset, .unset, .unset, .unset, .unset] [(.int (f0_s0_30 p1)), (.int (f0_s0_73 p1))])) t → Steps p.tables e below (s₁.setTop (entryFrame m #[(.int p1), (.long q2), (.long q3)] maxLocals)) t := by
        intro t k
        refine pre19 t ?_
        show Steps p.tables e below (s₁.setTop (mkF m 76 #[.val (.int p1), .val (.long q2), .second, .val (.long q3), .second, .val (.int (p1 &&& (3 : Int32))), .val (.int (f0_s0_16 p1)), .val (.int (f0_s0_30 p1)), .val (.int (f0_s0_44 p1)), .val (.int (f0_v52 p1)), .unset, .unset, .unset, .unset, .unset, .unset, .unset, .unset, .unset, .unset, .unset] [(.int (1 : Int32)), (.int (p1 &&& (3 : Int32))), (.int (f0_s0_73 p1))])) _
        refine XS.icmpNo X0.here hx rfl (hb hby at_76) rfl (tlt hc76).2.2.2 ?_
        show Steps p.tables e below (s₁.setTop (mkF m 79 #[.val (.int p1), .val (.long q2), .second, .val (.long q3), .second, .val (.int (p1 &&& (3 : Int32))), .val (.int (f0_s0_16 p1)), .val (.int (f0_s0_30 p1)), .val (.int (f0_s0_44 p1)), .val (.int (f0_v52 p1)), .unset, .unset, .unset, .unset, .unset, .unset, .unset, .unset, .unset, .unset, .unset] [(.int (f0_s0_73 p1))])) _
        refine XS.iload X0.here hx rfl (hb hby at_79) rfl ?_
        exact k
      by_cases hc81 : (f0_s0_30 p1) = (0 : Int32)
      · have eq22 := (show (f0_s0_93 p1) = (1 : Int32) from by unfold f0_s0_93; simp only [if_pos hc76, if_pos hc81])
        try rw [eq22] at k
        refine pre21 t ?_
        show Steps p.tables e below (s₁.setTop (mkF m 81 #[.val (.int p1), .val (.long q2), .second, .val (.long q3), .second, .val (.int (p1 &&& (3 : Int32))), .val (.int (f0_s0_16 p1)), .val (.int (f0_s0_30 p1)), .val (.int (f0_s0_44 p1)), .val (.int (f0_v52 p1)), .unset, .unset, .unset, .unset, .unset, .unset, .unset, .unset, .unset, .unset, .unset] [(.int (f0_s0_30 p1)), (.int (f0_s0_73 p1))])) _
        refine XS.ifYes X0.here hx rfl (pc0 := 81) (pc' := 88) rfl (hb hby at_81) rfl ((if0 _ _).trans (teq hc81).1) (by decide) (by decide) ?_
        show Steps p.tables e below (s₁.setTop (mkF m 88 #[.val (.int p1), .val (.long q2), .second, .val (.long q3), .second, .val (.int (p1 &&& (3 : Int32))), .val (.int (f0_s0_16 p1)), .val (.int (f0_s0_30 p1)), .val (.int (f0_s0_44 p1)), .val (.int (f0_v52 p1)), .unset, .unset, .unset, .unset, .unset, .unset, .unset, .unset, .unset, .unset, .unset] [(.int (f0_s0_73 p1))])) _
        refine XS.iconst X0.here hx rfl (hb hby at_88) ?_
        show Steps p.tables e below (s₁.setTop (mkF m 89 #[.val (.int p1), .val (.long q2), .second, .val (.long q3), .second, .val (.int (p1 &&& (3 : Int32))), .val (.int (f0_s0_16 p1)), .val (.int (f0_s0_30 p1)), .val (.int (f0_s0_44 p1)), .val (.int (f0_v52 p1)), .unset, .unset, .unset, .unset, .unset, .unset, .unset, .unset, .unset, .unset, .unset] [(.int (1 : Int32)), (.int (f0_s0_73 p1))])) _
        refine XS.goto X0.here hx rfl (pc0 := 89) (pc' := 93) rfl (hb hby at_89) (by decide) (by decide) ?_
        exact k
      · have eq23 := (show (f0_s0_93 p1) = (2 : Int32) from by unfold f0_s0_93; simp only [if_pos hc76, if_neg hc81])
        try rw [eq23] at k
        refine pre21 t ?_
        show Steps p.tables e below (s₁.setTop (mkF m 81 #[.val (.int p1), .val (.long q2), .second, .val (.long q3), .second, .val (.int (p1 &&& (3 : Int32))), .val (.int (f0_s0_16 p1)), .val (.int (f0_s0_30 p1)), .val (.int (f0_s0_44 p1)), .val (.int (f0_v52 p1)), .unset, .unset, .unset, .unset, .unset, .unset, .unset, .unset, .unset, .unset, .unset] [(.int (f0_s0_30 p1)), (.int (f0_s0_73 p1))])) _
        refine XS.ifNo X0.here hx rfl (hb hby at_81) rfl ((if0 _ _).trans (feq hc81).1) ?_
        show Steps p.tables e below (s₁.setTop (mkF m 84 #[.val (.int p1), .val (.long q2), .second, .val (.long q3), .second, .val (.int (p1 &&& (3 : Int32))), .val (.int (f0_s0_16 p1)), .val (.int (f0_s0_30 p1)), .val (.int (f0_s0_44 p1)), .val (.int (f0_v52 p1)), .unset, .unset, .unset, .unset, .unset, .unset, .unset, .unset, .unset, .unset, .unset] [(.int (f0_s0_73 p1))])) _
        refine XS.iconst X0.here hx rfl (hb hby at_84) ?_
        show Steps p.tables e below (s₁.setTop (mkF m 85 #[.val (.int p1), .val (.long q2), .second, .val (.long q3), .second, .val (.int (p1 &&& (3 : Int32))), .val (.int (f0_s0_16 p1)), .val (.int (f0_s0_30 p1)), .val (.int (f0_s0_44 p1)), .val (.int (f0_v52 p1)), .unset, .unset, .unset, .unset, .unset, .unset, .unset, .unset, .unset, .unset, .unset] [(.int (2 : Int32)), (.int (f0_s0_73 p1))])) _
        refine XS.goto X0.here hx rfl (pc0 := 85) (pc' := 93) rfl (hb hby at_85) (by decide) (by decide) ?_
        exact k
    · have eq24 := (show (f0_s0_93 p1) = (0 : Int32) from by unfold f0_s0_93; simp only [if_neg hc76])
      try rw [eq24] at k
      refine pre19 t ?_
      show Steps p.tables e below (s₁.setTop (mkF m 76 #[.val (.int p1), .val (.long q2), .second, .val (.long q3), .second, .val (.int (p1 &&& (3 : Int32))), .val (.int (f0_s0_16 p1)), .val (.int (f0_s0_30 p1)), .val (.int (f0_s0_44 p1)), .val (.int (f0_v52 p1)), .unset, .unset, .unset, .unset, .unset, .unset, .unset, .unset, .unset, .unset, .unset] [(.int (1 : Int32)), (.int (p1 &&& (3 : Int32))), (.int (f0_s0_73 p1))])) _
      refine XS.icmpYes X0.here hx rfl (pc0 := 76) (pc' := 92) rfl (hb hby at_76) rfl (flt hc76).2.2.2 (by decide) (by decide) ?_
      show Steps p.tables e below (s₁.setTop (mkF m 92 #[.val (.int p1), .val (.long q2), .second, .val (.long q3), .second, .val (.int (p1 &&& (3 : Int32))), .val (.int (f0_s0_16 p1)), .val (.int (f0_s0_30 p1)), .val (.int (f0_s0_44 p1)), .val (.int (f0_v52 p1)), .unset, .unset, .unset, .unset, .unset, .unset, .unset, .unset, .unset, .unset, .unset] [(.int (f0_s0_73 p1))])) _
      refine XS.iconst X0.here hx rfl (hb hby at_92) ?_
      exact k
  have pre25 : ∀ t, Steps p.tables e below (s₁.setTop (mkF m 97 #[.val (.int p1), .val (.long q2), .second, .val (.long q3), .second, .val (.int (p1 &&& (3 : Int32))), .val (.int (f0_s0_16 p1)), .val (.int (f0_s0_30 p1)), .val (.int (f0_s0_44 p1)), .val (.int (f0_v52 p1)), .unset, .unset, .unset, .unset, .unset, .unset, .unset, .unset, .unset, .unset, .unset] [(.int (2 : Int32)), (.int (p1 &&& (3 : Int32))), (.int ((f0_s0_73 p1) + (f0_s0_93 p1)))])) t → Steps p.tables e below (s₁.setTop (entryFrame m #[(.int p1), (.long q2), (.long q3)] maxLocals)) t := by
    intro t k
    refine pre20 t ?_
    show Steps p.tables e below (s₁.setTop (mkF m 93 #[.val (.int p1), .val (.long q2), .second, .val (.long q3), .second, .val (.int (p1 &&& (3 : Int32))), .val (.int (f0_s0_16 p1)), .val (.int (f0_s0_30 p1)), .val (.int (f0_s0_44 p1)), .val (.int (f0_v52 p1)), .unset, .unset, .unset, .unset, .unset, .unset, .unset, .unset, .unset, .unset, .unset] [(.int (f0_s0_93 p1)), (.int (f0_s0_73 p1))])) _
    refine XS.iadd X0.here hx rfl (hb hby at_93) rfl ?_
    show Steps p.tables e below (s₁.setTop (mkF m 94 #[.val (.int p1), .val (.long q2), .second, .val (.long q3), .second, .val (.int (p1 &&& (3 : Int32))), .val (.int (f0_s0_16 p1)), .val (.int (f0_s0_30 p1)), .val (.int (f0_s0_44 p1)), .val (.int (f0_v52 p1)), .unset, .unset, .unset, .unset, .unset, .unset, .unset, .unset, .unset, .unset, .unset] [(.int ((f0_s0_73 p1) + (f0_s0_93 p1)))])) _
    refine XS.iload X0.here hx rfl (hb hby at_94) rfl ?_
    show Steps p.tables e below (s₁.setTop (mkF m 96 #[.val (.int p1), .val (.long q2), .second, .val (.long q3), .second, .val (.int (p1 &&& (3 : Int32))), .val (.int (f0_s0_16 p1)), .val (.int (f0_s0_30 p1)), .val (.int (f0_s0_44 p1)), .val (.int (f0_v52 p1)), .unset, .unset, .unset, .unset, .unset, .unset, .unset, .unset, .unset, .unset, .unset] [(.int (p1 &&& (3 : Int32))), (.int ((f0_s0_73 p1) + (f0_s0_93 p1)))])) _
    refine XS.iconst X0.here hx rfl (hb hby at_96) ?_
    exact k
  have pre26 : ∀ t, Steps p.tables e below (s₁.setTop (mkF m 114 #[.val (.int p1), .val (.long q2), .second, .val (.long q3), .second, .val (.int (p1 &&& (3 : Int32))), .val (.int (f0_s0_16 p1)), .val (.int (f0_s0_30 p1)), .val (.int (f0_s0_44 p1)), .val (.int (f0_v52 p1)), .unset, .unset, .unset, .unset, .unset, .unset, .unset, .unset, .unset, .unset, .unset] [(.int (f0_s0_114 p1)), (.int ((f0_s0_73 p1) + (f0_s0_93 p1)))])) t → Steps p.tables e below (s₁.setTop (entryFrame m #[(.int p1), (.long q2), (.long q3)] maxLocals)) t := by
    intro t k
    by_cases hc97 : (2 : Int32) < (p1 &&& (3 : Int32))
    · have pre27 : ∀ t, Steps p.tables e below (s₁.setTop (mkF m 102 #[.val (.int p1), .val (.long q2), .second, .val (.long q3), .second, .val (.int (p1 &&& (3 : Int32))), .val (.int (f0_s0_16 p1)), .val (.int (f0_s0_30 p1)), .val (.int (f0_s0_44 p1)), .val (.int (f0_v52 p1)), .unset, .unset, .unset, .unset, .unset, .unset, .unset, .unset, .unset, .unset, .unset] [(.int (f0_s0_44 p1)), (.int ((f0_s0_73 p1) + (f0_s0_93 p1)))])) t → Steps p.tables e below (s₁.setTop (entryFrame m #[(.int p1), (.long q2), (.long q3)] maxLocals)) t := by
        intro t k
        refine pre25 t ?_
        show Steps p.tables e below (s₁.setTop (mkF m 97 #[.val (.int p1), .val (.long q2), .second, .val (.long q3), .second, .val (.int (p1 &&& (3 : Int32))), .val (.int (f0_s0_16 p1)), .val (.int (f0_s0_30 p1)), .val (.int (f0_s0_44 p1)), .val (.int (f0_v52 p1)), .unset, .unset, .unset, .unset, .unset, .unset, .unset, .unset, .unset, .unset, .unset] [(.int (2 : Int32)), (.int (p1 &&& (3 : Int32))), (.int ((f0_s0_73 p1) + (f0_s0_93 p1)))])) _
        refine XS.icmpNo X0.here hx rfl (hb hby at_97) rfl (tlt hc97).2.2.2 ?_
        show Steps p.tables e below (s₁.setTop (mkF m 100 #[.val (.int p1), .val (.long q2), .second, .val (.long q3), .second, .val (.int (p1 &&& (3 : Int32))), .val (.int (f0_s0_16 p1)), .val (.int (f0_s0_30 p1)), .val (.int (f0_s0_44 p1)), .val (.int (f0_v52 p1)), .unset, .unset, .unset, .unset, .unset, .unset, .unset, .unset, .unset, .unset, .unset] [(.int ((f0_s0_73 p1) + (f0_s0_93 p1)))])) _
        refine XS.iload X0.here hx rfl (hb hby at_100) rfl ?_
        exact k
      by_cases hc102 : (f0_s0_44 p1) = (0 : Int32)
      · have eq28 := (show (f0_s0_114 p1) = (1 : Int32) from by unfold f0_s0_114; simp only [if_pos hc97, if_pos hc102])
        try rw [eq28] at k
        refine pre27 t ?_
        show Steps p.tables e below (s₁.setTop (mkF m 102 #[.val (.int p1), .val (.long q2), .second, .val (.long q3), .second, .val (.int (p1 &&& (3 : Int32))), .val (.int (f0_s0_16 p1)), .val (.int (f0_s0_30 p1)), .val (.int (f0_s0_44 p1)), .val (.int (f0_v52 p1)), .unset, .unset, .unset, .unset, .unset, .unset, .unset, .unset, .unset, .unset, .unset] [(.int (f0_s0_44 p1)), (.int ((f0_s0_73 p1) + (f0_s0_93 p1)))])) _
        refine XS.ifYes X0.here hx rfl (pc0 := 102) (pc' := 109) rfl (hb hby at_102) rfl ((if0 _ _).trans (teq hc102).1) (by decide) (by decide) ?_
        show Steps p.tables e below (s₁.setTop (mkF m 109 #[.val (.int p1), .val (.long q2), .second, .val (.long q3), .second, .val (.int (p1 &&& (3 : Int32))), .val (.int (f0_s0_16 p1)), .val (.int (f0_s0_30 p1)), .val (.int (f0_s0_44 p1)), .val (.int (f0_v52 p1)), .unset, .unset, .unset, .unset, .unset, .unset, .unset, .unset, .unset, .unset, .unset] [(.int ((f0_s0_73 p1) + (f0_s0_93 p1)))])) _
        refine XS.iconst X0.here hx rfl (hb hby at_109) ?_
        show Steps p.tables e below (s₁.setTop (mkF m 110 #[.val (.int p1), .val (.long q2), .second, .val (.long q3), .second, .val (.int (p1 &&& (3 : Int32))), .val (.int (f0_s0_16 p1)), .val (.int (f0_s0_30 p1)), .val (.int (f0_s0_44 p1)), .val (.int (f0_v52 p1)), .unset, .unset, .unset, .unset, .unset, .unset, .unset, .unset, .unset, .unset, .unset] [(.int (1 : Int32)), (.int ((f0_s0_73 p1) + (f0_s0_93 p1)))])) _
        refine XS.goto X0.here hx rfl (pc0 := 110) (pc' := 114) rfl (hb hby at_110) (by decide) (by decide) ?_
        exact k
      · have eq29 := (show (f0_s0_114 p1) = (2 : Int32) from by unfold f0_s0_114; simp only [if_pos hc97, if_neg hc102])
        try rw [eq29] at k
        refine pre27 t ?_
        show Steps p.tables e below (s₁.setTop (mkF m 102 #[.val (.int p1), .val (.long q2), .second, .val (.long q3), .second, .val (.int (p1 &&& (3 : Int32))), .val (.int (f0_s0_16 p1)), .val (.int (f0_s0_30 p1)), .val (.int (f0_s0_44 p1)), .val (.int (f0_v52 p1)), .unset, .unset, .unset, .unset, .unset, .unset, .unset, .unset, .unset, .unset, .unset] [(.int (f0_s0_44 p1)), (.int ((f0_s0_73 p1) + (f0_s0_93 p1)))])) _
        refine XS.ifNo X0.here hx rfl (hb hby at_102) rfl ((if0 _ _).trans (feq hc102).1) ?_
        show Steps p.tables e below (s₁.setTop (mkF m 105 #[.val (.int p1), .val (.long q2), .second, .val (.long q3), .second, .val (.int (p1 &&& (3 : Int32))), .val (.int (f0_s0_16 p1)), .val (.int (f0_s0_30 p1)), .val (.int (f0_s0_44 p1)), .val (.int (f0_v52 p1)), .unset, .unset, .unset, .unset, .unset, .unset, .unset, .unset, .unset, .unset, .unset] [(.int ((f0_s0_73 p1) + (f0_s0_93 p1)))])) _
        refine XS.iconst X0.here hx rfl (hb hby at_105) ?_
        show Steps p.tables e below (s₁.setTop (mkF m 106 #[.val (.int p1), .val (.long q2), .second, .val (.long q3), .second, .val (.int (p1 &&& (3 : Int32))), .val (.int (f0_s0_16 p1)), .val (.int (f0_s0_30 p1)), .val (.int (f0_s0_44 p1)), .val (.int (f0_v52 p1)), .unset, .unset, .unset, .unset, .unset, .unset, .unset, .unset, .unset, .unset, .unset] [(.int (2 : Int32)), (.int ((f0_s0_73 p1) + (f0_s0_93 p1)))])) _
        refine XS.goto X0.here hx rfl (pc0 := 106) (pc' := 114) rfl (hb hby at_106) (by decide) (by decide) ?_
        exact k
    · have eq30 := (show (f0_s0_114 p1) = (0 : Int32) from by unfold f0_s0_114; simp only [if_neg hc97])
      try rw [eq30] at k
      refine pre25 t ?_
      show Steps p.tables e below (s₁.setTop (mkF m 97 #[.val (.int p1), .val (.long q2), .second, .val (.long q3), .second, .val (.int (p1 &&& (3 : Int32))), .val (.int (f0_s0_16 p1)), .val (.int (f0_s0_30 p1)), .val (.int (f0_s0_44 p1)), .val (.int (f0_v52 p1)), .unset, .unset, .unset, .unset, .unset, .unset, .unset, .unset, .unset, .unset, .unset] [(.int (2 : Int32)), (.int (p1 &&& (3 : Int32))), (.int ((f0_s0_73 p1) + (f0_s0_93 p1)))])) _
      refine XS.icmpYes X0.here hx rfl (pc0 := 97) (pc' := 113) rfl (hb hby at_97) rfl (flt hc97).2.2.2 (by decide) (by decide) ?_
      show Steps p.tables e below (s₁.setTop (mkF m 113 #[.val (.int p1), .val (.long q2), .second, .val (.long q3), .second, .val (.int (p1 &&& (3 : Int32))), .val (.int (f0_s0_16 p1)), .val (.int (f0_s0_30 p1)), .val (.int (f0_s0_44 p1)), .val (.int (f0_v52 p1)), .unset, .unset, .unset, .unset, .unset, .unset, .unset, .unset, .unset, .unset, .unset] [(.int ((f0_s0_73 p1) + (f0_s0_93 p1)))])) _
      refine XS.iconst X0.here hx rfl (hb hby at_113) ?_
      exact k
  obtain ⟨_, _, ⟨T4, L4, k4, n4⟩, -, X4, ⟨Lc4, hQ4, l4, y4, z4⟩, st4⟩ := Jvm.LawKit.callS X0 hx (y := (⟨"com/example/titlepoint/titlepoint/Iso2709ReaderBeginsWithRecordLengthPinLaw", "pick", "(JJI)B"⟩ : MethodName)) hown (mvT hZ (hw _ (List.mem_of_getElem? (i := 0) rfl))) (mvT hZ (hw _ (List.mem_of_getElem? (i := 1) rfl))) (mvT hZ (hw _ (List.mem_of_getElem? (i := 2) rfl))) (mvT hZ (hw _ (List.mem_of_getElem? (i := 3) rfl))) (by decide) (backOf (W := 0) (rm1 l Z a0 hw [] q2 q3 (0 : Int32) h0 n0 Z0 ) hZ (hw _ (List.mem_of_getElem? (i := 3) rfl)) (hw _ (List.mem_of_getElem? (i := 2) rfl)) (by decide) (by decide)) (g := (mkF m 120 #[.val (.int p1), .val (.long q2), .second, .val (.long q3), .second, .val (.int (p1 &&& (3 : Int32))), .val (.int (f0_s0_16 p1)), .val (.int (f0_s0_30 p1)), .val (.int (f0_s0_44 p1)), .val (.int (f0_v52 p1)), .val (.int (f0_v115 p1)), .unset, .unset, .unset, .unset, .unset, .unset, .unset, .unset, .unset, .unset] [(.int (0 : Int32)), (.long q3), (.long q2)])) rfl (by rw [hml]; rfl) (argsL := [(.long q2), (.long q3), (.int (0 : Int32))]) (rest := []) (lenOf pd_1 rfl) rfl (by show 2 * 0 + _ ≤ _; exact Nat.le_of_eq rfl) (hb hby at_120) (fun _ _ => ⟨rfl, e0, (by decide : 0 + 0 ≤ _), (by decide : 0 + 0 ≤ _)⟩)
  dsimp only [Pt.U, Pt.locs, Pt.cells, Pt.slots] at X4 l4 y4 z4 st4 hQ4
  subst l4 y4 z4
  obtain ⟨rfl, N4q, e4⟩ := hQ4
  have N4 := Fr.app N0 N4q
  obtain ⟨_, _, ⟨T5, L5, k5, n5⟩, -, X5, ⟨Lc5, hQ5, l5, y5, z5⟩, st5⟩ := Jvm.LawKit.callS X4 hx (y := (⟨"com/example/titlepoint/titlepoint/Iso2709ReaderBeginsWithRecordLengthPinLaw", "pick", "(JJI)B"⟩ : MethodName)) hown (mvT hZ (hw _ (List.mem_of_getElem? (i := 0) rfl))) (mvT hZ (hw _ (List.mem_of_getElem? (i := 1) rfl))) (mvT hZ (hw _ (List.mem_of_getElem? (i := 2) rfl))) (mvT hZ (hw _ (List.mem_of_getElem? (i := 3) rfl))) (by decide) (backOf (W := 0) (rm1 l Z a0 hw [] q2 q3 (1 : Int32) h0 n0 Z0 ) hZ (hw _ (List.mem_of_getElem? (i := 3) rfl)) (hw _ (List.mem_of_getElem? (i := 2) rfl)) (by decide) (by decide)) (g := (mkF m 128 #[.val (.int p1), .val (.long q2), .second, .val (.long q3), .second, .val (.int (p1 &&& (3 : Int32))), .val (.int (f0_s0_16 p1)), .val (.int (f0_s0_30 p1)), .val (.int (f0_s0_44 p1)), .val (.int (f0_v52 p1)), .val (.int (f0_v115 p1)), .val (.int (f1 q2 q3 (0 : Int32))), .unset, .unset, .unset, .unset, .unset, .unset, .unset, .unset, .unset] [(.int (1 : Int32)), (.long q3), (.long q2)])) rfl (by rw [hml]; rfl) (argsL := [(.long q2), (.long q3), (.int (1 : Int32))]) (rest := []) (lenOf pd_1 rfl) rfl (by show 2 * 0 + _ ≤ _; exact Nat.le_of_eq rfl) (hb hby at_128) (fun _ _ => ⟨rfl, e4, (by decide : 0 + 0 ≤ _), (by decide : 0 + 0 ≤ _)⟩)
  dsimp only [Pt.U, Pt.locs, Pt.cells, Pt.slots] at X5 l5 y5 z5 st5 hQ5
  subst l5 y5 z5
  obtain ⟨rfl, N5q, e5⟩ := hQ5
  have N5 := Fr.app N4 N5q
  obtain ⟨_, _, ⟨T6, L6, k6, n6⟩, -, X6, ⟨Lc6, hQ6, l6, y6, z6⟩, st6⟩ := Jvm.LawKit.callS X5 hx (y := (⟨"com/example/titlepoint/titlepoint/Iso2709ReaderBeginsWithRecordLengthPinLaw", "pick", "(JJI)B"⟩ : MethodName)) hown (mvT hZ (hw _ (List.mem_of_getElem? (i := 0) rfl))) (mvT hZ (hw _ (List.mem_of_getElem? (i := 1) rfl))) (mvT hZ (hw _ (List.mem_of_getElem? (i := 2) rfl))) (mvT hZ (hw _ (List.mem_of_getElem? (i := 3) rfl))) (by decide) (backOf (W := 0) (rm1 l Z a0 hw [] q2 q3 (2 : Int32) h0 n0 Z0 ) hZ (hw _ (List.mem_of_getElem? (i := 3) rfl)) (hw _ (List.mem_of_getElem? (i := 2) rfl)) (by decide) (by decide)) (g := (mkF m 136 #[.val (.int p1), .val (.long q2), .second, .val (.long q3), .second, .val (.int (p1 &&& (3 : Int32))), .val (.int (f0_s0_16 p1)), .val (.int (f0_s0_30 p1)), .val (.int (f0_s0_44 p1)), .val (.int (f0_v52 p1)), .val (.int (f0_v115 p1)), .val (.int (f1 q2 q3 (0 : Int32))), .val (.int (f1 q2 q3 (1 : Int32))), .unset, .unset, .unset, .unset, .unset, .unset, .unset, .unset] [(.int (2 : Int32)), (.long q3), (.long q2)])) rfl (by rw [hml]; rfl) (argsL := [(.long q2), (.long q3), (.int (2 : Int32))]) (rest := []) (lenOf pd_1 rfl) rfl (by show 2 * 0 + _ ≤ _; exact Nat.le_of_eq rfl) (hb hby at_136) (fun _ _ => ⟨rfl, e5, (by decide : 0 + 0 ≤ _), (by decide : 0 + 0 ≤ _)⟩)
  dsimp only [Pt.U, Pt.locs, Pt.cells, Pt.slots] at X6 l6 y6 z6 st6 hQ6
  subst l6 y6 z6
  obtain ⟨rfl, N6q, e6⟩ := hQ6
  have N6 := Fr.app N5 N6q
  obtain ⟨_, _, ⟨T7, L7, k7, n7⟩, -, X7, ⟨Lc7, hQ7, l7, y7, z7⟩, st7⟩ := Jvm.LawKit.callS X6 hx (y := (⟨"com/example/titlepoint/titlepoint/Iso2709ReaderBeginsWithRecordLengthPinLaw", "pick", "(JJI)B"⟩ : MethodName)) hown (mvT hZ (hw _ (List.mem_of_getElem? (i := 0) rfl))) (mvT hZ (hw _ (List.mem_of_getElem? (i := 1) rfl))) (mvT hZ (hw _ (List.mem_of_getElem? (i := 2) rfl))) (mvT hZ (hw _ (List.mem_of_getElem? (i := 3) rfl))) (by decide) (backOf (W := 0) (rm1 l Z a0 hw [] q2 q3 (3 : Int32) h0 n0 Z0 ) hZ (hw _ (List.mem_of_getElem? (i := 3) rfl)) (hw _ (List.mem_of_getElem? (i := 2) rfl)) (by decide) (by decide)) (g := (mkF m 144 #[.val (.int p1), .val (.long q2), .second, .val (.long q3), .second, .val (.int (p1 &&& (3 : Int32))), .val (.int (f0_s0_16 p1)), .val (.int (f0_s0_30 p1)), .val (.int (f0_s0_44 p1)), .val (.int (f0_v52 p1)), .val (.int (f0_v115 p1)), .val (.int (f1 q2 q3 (0 : Int32))), .val (.int (f1 q2 q3 (1 : Int32))), .val (.int (f1 q2 q3 (2 : Int32))), .unset, .unset, .unset, .unset, .unset, .unset, .unset] [(.int (3 : Int32)), (.long q3), (.long q2)])) rfl (by rw [hml]; rfl) (argsL := [(.long q2), (.long q3), (.int (3 : Int32))]) (rest := []) (lenOf pd_1 rfl) rfl (by show 2 * 0 + _ ≤ _; exact Nat.le_of_eq rfl) (hb hby at_144) (fun _ _ => ⟨rfl, e6, (by decide : 0 + 0 ≤ _), (by decide : 0 + 0 ≤ _)⟩)
  dsimp only [Pt.U, Pt.locs, Pt.cells, Pt.slots] at X7 l7 y7 z7 st7 hQ7
  subst l7 y7 z7
  obtain ⟨rfl, N7q, e7⟩ := hQ7
  have N7 := Fr.app N6 N7q
  obtain ⟨_, _, ⟨T8, L8, k8, n8⟩, -, X8, ⟨Lc8, hQ8, l8, y8, z8⟩, st8⟩ := Jvm.LawKit.callS X7 hx (y := (⟨"com/example/titlepoint/titlepoint/Iso2709ReaderBeginsWithRecordLengthPinLaw", "pick", "(JJI)B"⟩ : MethodName)) hown (mvT hZ (hw _ (List.mem_of_getElem? (i := 0) rfl))) (mvT hZ (hw _ (List.mem_of_getElem? (i := 1) rfl))) (mvT hZ (hw _ (List.mem_of_getElem? (i := 2) rfl))) (mvT hZ (hw _ (List.mem_of_getElem? (i := 3) rfl))) (by decide) (backOf (W := 0) (rm1 l Z a0 hw [] q2 q3 (4 : Int32) h0 n0 Z0 ) hZ (hw _ (List.mem_of_getElem? (i := 3) rfl)) (hw _ (List.mem_of_getElem? (i := 2) rfl)) (by decide) (by decide)) (g := (mkF m 152 #[.val (.int p1), .val (.long q2), .second, .val (.long q3), .second, .val (.int (p1 &&& (3 : Int32))), .val (.int (f0_s0_16 p1)), .val (.int (f0_s0_30 p1)), .val (.int (f0_s0_44 p1)), .val (.int (f0_v52 p1)), .val (.int (f0_v115 p1)), .val (.int (f1 q2 q3 (0 : Int32))), .val (.int (f1 q2 q3 (1 : Int32))), .val (.int (f1 q2 q3 (2 : Int32))), .val (.int (f1 q2 q3 (3 : Int32))), .unset, .unset, .unset, .unset, .unset, .unset] [(.int (4 : Int32)), (.long q3), (.long q2)])) rfl (by rw [hml]; rfl) (argsL := [(.long q2), (.long q3), (.int (4 : Int32))]) (rest := []) (lenOf pd_1 rfl) rfl (by show 2 * 0 + _ ≤ _; exact Nat.le_of_eq rfl) (hb hby at_152) (fun _ _ => ⟨rfl, e7, (by decide : 0 + 0 ≤ _), (by decide : 0 + 0 ≤ _)⟩)
  dsimp only [Pt.U, Pt.locs, Pt.cells, Pt.slots] at X8 l8 y8 z8 st8 hQ8
  subst l8 y8 z8
  obtain ⟨rfl, N8q, e8⟩ := hQ8
  have N8 := Fr.app N7 N8q
  obtain ⟨_, _, ⟨T9, L9, k9, n9⟩, -, X9, ⟨Lc9, hQ9, l9, y9, z9⟩, st9⟩ := Jvm.LawKit.callS X8 hx (y := (⟨"com/example/titlepoint/titlepoint/Iso2709ReaderBeginsWithRecordLengthPinLaw", "pick", "(JJI)B"⟩ : MethodName)) hown (mvT hZ (hw _ (List.mem_of_getElem? (i := 0) rfl))) (mvT hZ (hw _ (List.mem_of_getElem? (i := 1) rfl))) (mvT hZ (hw _ (List.mem_of_getElem? (i := 2) rfl))) (mvT hZ (hw _ (List.mem_of_getElem? (i := 3) rfl))) (by decide) (backOf (W := 0) (rm1 l Z a0 hw [] q2 q3 (5 : Int32) h0 n0 Z0 ) hZ (hw _ (List.mem_of_getElem? (i := 3) rfl)) (hw _ (List.mem_of_getElem? (i := 2) rfl)) (by decide) (by decide)) (g := (mkF m 160 #[.val (.int p1), .val (.long q2), .second, .val (.long q3), .second, .val (.int (p1 &&& (3 : Int32))), .val (.int (f0_s0_16 p1)), .val (.int (f0_s0_30 p1)), .val (.int (f0_s0_44 p1)), .val (.int (f0_v52 p1)), .val (.int (f0_v115 p1)), .val (.int (f1 q2 q3 (0 : Int32))), .val (.int (f1 q2 q3 (1 : Int32))), .val (.int (f1 q2 q3 (2 : Int32))), .val (.int (f1 q2 q3 (3 : Int32))), .val (.int (f1 q2 q3 (4 : Int32))), .unset, .unset, .unset, .unset, .unset] [(.int (5 : Int32)), (.long q3), (.long q2)])) rfl (by rw [hml]; rfl) (argsL := [(.long q2), (.long q3), (.int (5 : Int32))]) (rest := []) (lenOf pd_1 rfl) rfl (by show 2 * 0 + _ ≤ _; exact Nat.le_of_eq rfl) (hb hby at_160) (fun _ _ => ⟨rfl, e8, (by decide : 0 + 0 ≤ _), (by decide : 0 + 0 ≤ _)⟩)
  dsimp only [Pt.U, Pt.locs, Pt.cells, Pt.slots] at X9 l9 y9 z9 st9 hQ9
  subst l9 y9 z9
  obtain ⟨rfl, N9q, e9⟩ := hQ9
  have N9 := Fr.app N8 N9q
  obtain ⟨_, _, ⟨T10, L10, k10, n10⟩, -, X10, ⟨Lc10, hQ10, l10, y10, z10⟩, st10⟩ := Jvm.LawKit.callS X9 hx (y := (⟨"com/example/titlepoint/titlepoint/Iso2709ReaderBeginsWithRecordLengthPinLaw", "pick", "(JJI)B"⟩ : MethodName)) hown (mvT hZ (hw _ (List.mem_of_getElem? (i := 0) rfl))) (mvT hZ (hw _ (List.mem_of_getElem? (i := 1) rfl))) (mvT hZ (hw _ (List.mem_of_getElem? (i := 2) rfl))) (mvT hZ (hw _ (List.mem_of_getElem? (i := 3) rfl))) (by decide) (backOf (W := 0) (rm1 l Z a0 hw [] q2 q3 (6 : Int32) h0 n0 Z0 ) hZ (hw _ (List.mem_of_getElem? (i := 3) rfl)) (hw _ (List.mem_of_getElem? (i := 2) rfl)) (by decide) (by decide)) (g := (mkF m 169 #[.val (.int p1), .val (.long q2), .second, .val (.long q3), .second, .val (.int (p1 &&& (3 : Int32))), .val (.int (f0_s0_16 p1)), .val (.int (f0_s0_30 p1)), .val (.int (f0_s0_44 p1)), .val (.int (f0_v52 p1)), .val (.int (f0_v115 p1)), .val (.int (f1 q2 q3 (0 : Int32))), .val (.int (f1 q2 q3 (1 : Int32))), .val (.int (f1 q2 q3 (2 : Int32))), .val (.int (f1 q2 q3 (3 : Int32))), .val (.int (f1 q2 q3 (4 : Int32))), .val (.int (f1 q2 q3 (5 : Int32))), .unset, .unset, .unset, .unset] [(.int (6 : Int32)), (.long q3), (.long q2)])) rfl (by rw [hml]; rfl) (argsL := [(.long q2), (.long q3), (.int (6 : Int32))]) (rest := []) (lenOf pd_1 rfl) rfl (by show 2 * 0 + _ ≤ _; exact Nat.le_of_eq rfl) (hb hby at_169) (fun _ _ => ⟨rfl, e9, (by decide : 0 + 0 ≤ _), (by decide : 0 + 0 ≤ _)⟩)
  dsimp only [Pt.U, Pt.locs, Pt.cells, Pt.slots] at X10 l10 y10 z10 st10 hQ10
  subst l10 y10 z10
  obtain ⟨rfl, N10q, e10⟩ := hQ10
  have N10 := Fr.app N9 N10q
  have pre31 : ∀ t, Steps p.tables e below (T10.setTop (mkF m 178 #[.val (.int p1), .val (.long q2), .second, .val (.long q3), .second, .val (.int (p1 &&& (3 : Int32))), .val (.int (f0_s0_16 p1)), .val (.int (f0_s0_30 p1)), .val (.int (f0_s0_44 p1)), .val (.int (f0_v52 p1)), .val (.int (f0_v115 p1)), .val (.int (f1 q2 q3 (0 : Int32))), .val (.int (f1 q2 q3 (1 : Int32))), .val (.int (f1 q2 q3 (2 : Int32))), .val (.int (f1 q2 q3 (3 : Int32))), .val (.int (f1 q2 q3 (4 : Int32))), .val (.int (f1 q2 q3 (5 : Int32))), .val (.int (f1 q2 q3 (6 : Int32))), .unset, .unset, .unset] [(.int (10 : Int32)), (.int (f1 q2 q3 (0 : Int32)))])) t → Steps p.tables e below (s₁.setTop (entryFrame m #[(.int p1), (.long q2), (.long q3)] maxLocals)) t := by
    intro t k
    refine pre26 t ?_
    show Steps p.tables e below (s₁.setTop (mkF m 114 #[.val (.int p1), .val (.long q2), .second, .val (.long q3), .second, .val (.int (p1 &&& (3 : Int32))), .val (.int (f0_s0_16 p1)), .val (.int (f0_s0_30 p1)), .val (.int (f0_s0_44 p1)), .val (.int (f0_v52 p1)), .unset, .unset, .unset, .unset, .unset, .unset, .unset, .unset, .unset, .unset, .unset] [(.int (f0_s0_114 p1)), (.int ((f0_s0_73 p1) + (f0_s0_93 p1)))])) _
    refine XS.iadd X0.here hx rfl (hb hby at_114) rfl ?_
    show Steps p.tables e below (s₁.setTop (mkF m 115 #[.val (.int p1), .val (.long q2), .second, .val (.long q3), .second, .val (.int (p1 &&& (3 : Int32))), .val (.int (f0_s0_16 p1)), .val (.int (f0_s0_30 p1)), .val (.int (f0_s0_44 p1)), .val (.int (f0_v52 p1)), .unset, .unset, .unset, .unset, .unset, .unset, .unset, .unset, .unset, .unset, .unset] [(.int (((f0_s0_73 p1) + (f0_s0_93 p1)) + (f0_s0_114 p1)))])) _
    refine XS.istore X0.here hx rfl (hb hby at_115) rfl (l' := #[.val (.int p1), .val (.long q2), .second, .val (.long q3), .second, .val (.int (p1 &&& (3 : Int32))), .val (.int (f0_s0_16 p1)), .val (.int (f0_s0_30 p1)), .val (.int (f0_s0_44 p1)), .val (.int (f0_v52 p1)), .val (.int (f0_v115 p1)), .unset, .unset, .unset, .unset, .unset, .unset, .unset, .unset, .unset, .unset]) rfl ?_
    show Steps p.tables e below (s₁.setTop (mkF m 117 #[.val (.int p1), .val (.long q2), .second, .val (.long q3), .second, .val (.int (p1 &&& (3 : Int32))), .val (.int (f0_s0_16 p1)), .val (.int (f0_s0_30 p1)), .val (.int (f0_s0_44 p1)), .val (.int (f0_v52 p1)), .val (.int (f0_v115 p1)), .unset, .unset, .unset, .unset, .unset, .unset, .unset, .unset, .unset, .unset] [])) _
    refine XS.lloadN X0.here hx rfl (hb hby at_117) rfl ?_
    show Steps p.tables e below (s₁.setTop (mkF m 118 #[.val (.int p1), .val (.long q2), .second, .val (.long q3), .second, .val (.int (p1 &&& (3 : Int32))), .val (.int (f0_s0_16 p1)), .val (.int (f0_s0_30 p1)), .val (.int (f0_s0_44 p1)), .val (.int (f0_v52 p1)), .val (.int (f0_v115 p1)), .unset, .unset, .unset, .unset, .unset, .unset, .unset, .unset, .unset, .unset] [(.long q2)])) _
    refine XS.lloadN X0.here hx rfl (hb hby at_118) rfl ?_
    show Steps p.tables e below (s₁.setTop (mkF m 119 #[.val (.int p1), .val (.long q2), .second, .val (.long q3), .second, .val (.int (p1 &&& (3 : Int32))), .val (.int (f0_s0_16 p1)), .val (.int (f0_s0_30 p1)), .val (.int (f0_s0_44 p1)), .val (.int (f0_v52 p1)), .val (.int (f0_v115 p1)), .unset, .unset, .unset, .unset, .unset, .unset, .unset, .unset, .unset, .unset] [(.long q3), (.long q2)])) _
    refine XS.iconst X0.here hx rfl (hb hby at_119) ?_
    show Steps p.tables e below (s₁.setTop (mkF m 120 #[.val (.int p1), .val (.long q2), .second, .val (.long q3), .second, .val (.int (p1 &&& (3 : Int32))), .val (.int (f0_s0_16 p1)), .val (.int (f0_s0_30 p1)), .val (.int (f0_s0_44 p1)), .val (.int (f0_v52 p1)), .val (.int (f0_v115 p1)), .unset, .unset, .unset, .unset, .unset, .unset, .unset, .unset, .unset, .unset] [(.int (0 : Int32)), (.long q3), (.long q2)])) _
    refine st4 _ ?_
    show Steps p.tables e below (T4.setTop (mkF m 123 #[.val (.int p1), .val (.long q2), .second, .val (.long q3), .second, .val (.int (p1 &&& (3 : Int32))), .val (.int (f0_s0_16 p1)), .val (.int (f0_s0_30 p1)), .val (.int (f0_s0_44 p1)), .val (.int (f0_v52 p1)), .val (.int (f0_v115 p1)), .unset, .unset, .unset, .unset, .unset, .unset, .unset, .unset, .unset, .unset] [(.int (f1 q2 q3 (0 : Int32)))])) _
    refine XS.istore X4.here hx rfl (hb hby at_123) rfl (l' := #[.val (.int p1), .val (.long q2), .second, .val (.long q3), .second, .val (.int (p1 &&& (3 : Int32))), .val (.int (f0_s0_16 p1)), .val (.int (f0_s0_30 p1)), .val (.int (f0_s0_44 p1)), .val (.int (f0_v52 p1)), .val (.int (f0_v115 p1)), .val (.int (f1 q2 q3 (0 : Int32))), .unset, .unset, .unset, .unset, .unset, .unset, .unset, .unset, .unset]) rfl ?_
    show Steps p.tables e below (T4.setTop (mkF m 125 #[.val (.int p1), .val (.long q2), .second, .val (.long q3), .second, .val (.int (p1 &&& (3 : Int32))), .val (.int (f0_s0_16 p1)), .val (.int (f0_s0_30 p1)), .val (.int (f0_s0_44 p1)), .val (.int (f0_v52 p1)), .val (.int (f0_v115 p1)), .val (.int (f1 q2 q3 (0 : Int32))), .unset, .unset, .unset, .unset, .unset, .unset, .unset, .unset, .unset] [])) _
    refine XS.lloadN X4.here hx rfl (hb hby at_125) rfl ?_
    show Steps p.tables e below (T4.setTop (mkF m 126 #[.val (.int p1), .val (.long q2), .second, .val (.long q3), .second, .val (.int (p1 &&& (3 : Int32))), .val (.int (f0_s0_16 p1)), .val (.int (f0_s0_30 p1)), .val (.int (f0_s0_44 p1)), .val (.int (f0_v52 p1)), .val (.int (f0_v115 p1)), .val (.int (f1 q2 q3 (0 : Int32))), .unset, .unset, .unset, .unset, .unset, .unset, .unset, .unset, .unset] [(.long q2)])) _
    refine XS.lloadN X4.here hx rfl (hb hby at_126) rfl ?_
    show Steps p.tables e below (T4.setTop (mkF m 127 #[.val (.int p1), .val (.long q2), .second, .val (.long q3), .second, .val (.int (p1 &&& (3 : Int32))), .val (.int (f0_s0_16 p1)), .val (.int (f0_s0_30 p1)), .val (.int (f0_s0_44 p1)), .val (.int (f0_v52 p1)), .val (.int (f0_v115 p1)), .val (.int (f1 q2 q3 (0 : Int32))), .unset, .unset, .unset, .unset, .unset, .unset, .unset, .unset, .unset] [(.long q3), (.long q2)])) _
    refine XS.iconst X4.here hx rfl (hb hby at_127) ?_
    show Steps p.tables e below (T4.setTop (mkF m 128 #[.val (.int p1), .val (.long q2), .second, .val (.long q3), .second, .val (.int (p1 &&& (3 : Int32))), .val (.int (f0_s0_16 p1)), .val (.int (f0_s0_30 p1)), .val (.int (f0_s0_44 p1)), .val (.int (f0_v52 p1)), .val (.int (f0_v115 p1)), .val (.int (f1 q2 q3 (0 : Int32))), .unset, .unset, .unset, .unset, .unset, .unset, .unset, .unset, .unset] [(.int (1 : Int32)), (.long q3), (.long q2)])) _
    refine st5 _ ?_
    show Steps p.tables e below (T5.setTop (mkF m 131 #[.val (.int p1), .val (.long q2), .second, .val (.long q3), .second, .val (.int (p1 &&& (3 : Int32))), .val (.int (f0_s0_16 p1)), .val (.int (f0_s0_30 p1)), .val (.int (f0_s0_44 p1)), .val (.int (f0_v52 p1)), .val (.int (f0_v115 p1)), .val (.int (f1 q2 q3 (0 : Int32))), .unset, .unset, .unset, .unset, .unset, .unset, .unset, .unset, .unset] [(.int (f1 q2 q3 (1 : Int32)))])) _
    refine XS.istore X5.here hx rfl (hb hby at_131) rfl (l' := #[.val (.int p1), .val (.long q2), .second, .val (.long q3), .second, .val (.int (p1 &&& (3 : Int32))), .val (.int (f0_s0_16 p1)), .val (.int (f0_s0_30 p1)), .val (.int (f0_s0_44 p1)), .val (.int (f0_v52 p1)), .val (.int (f0_v115 p1)), .val (.int (f1 q2 q3 (0 : Int32))), .val (.int (f1 q2 q3 (1 : Int32))), .unset, .unset, .unset, .unset, .unset, .unset, .unset, .unset]) rfl ?_
    show Steps p.tables e below (T5.setTop (mkF m 133 #[.val (.int p1), .val (.long q2), .second, .val (.long q3), .second, .val (.int (p1 &&& (3 : Int32))), .val (.int (f0_s0_16 p1)), .val (.int (f0_s0_30 p1)), .val (.int (f0_s0_44 p1)), .val (.int (f0_v52 p1)), .val (.int (f0_v115 p1)), .val (.int (f1 q2 q3 (0 : Int32))), .val (.int (f1 q2 q3 (1 : Int32))), .unset, .unset, .unset, .unset, .unset, .unset, .unset, .unset] [])) _
    refine XS.lloadN X5.here hx rfl (hb hby at_133) rfl ?_
    show Steps p.tables e below (T5.setTop (mkF m 134 #[.val (.int p1), .val (.long q2), .second, .val (.long q3), .second, .val (.int (p1 &&& (3 : Int32))), .val (.int (f0_s0_16 p1)), .val (.int (f0_s0_30 p1)), .val (.int (f0_s0_44 p1)), .val (.int (f0_v52 p1)), .val (.int (f0_v115 p1)), .val (.int (f1 q2 q3 (0 : Int32))), .val (.int (f1 q2 q3 (1 : Int32))), .unset, .unset, .unset, .unset, .unset, .unset, .unset, .unset] [(.long q2)])) _
    refine XS.lloadN X5.here hx rfl (hb hby at_134) rfl ?_
    show Steps p.tables e below (T5.setTop (mkF m 135 #[.val (.int p1), .val (.long q2), .second, .val (.long q3), .second, .val (.int (p1 &&& (3 : Int32))), .val (.int (f0_s0_16 p1)), .val (.int (f0_s0_30 p1)), .val (.int (f0_s0_44 p1)), .val (.int (f0_v52 p1)), .val (.int (f0_v115 p1)), .val (.int (f1 q2 q3 (0 : Int32))), .val (.int (f1 q2 q3 (1 : Int32))), .unset, .unset, .unset, .unset, .unset, .unset, .unset, .unset] [(.long q3), (.long q2)])) _
    refine XS.iconst X5.here hx rfl (hb hby at_135) ?_
    show Steps p.tables e below (T5.setTop (mkF m 136 #[.val (.int p1), .val (.long q2), .second, .val (.long q3), .second, .val (.int (p1 &&& (3 : Int32))), .val (.int (f0_s0_16 p1)), .val (.int (f0_s0_30 p1)), .val (.int (f0_s0_44 p1)), .val (.int (f0_v52 p1)), .val (.int (f0_v115 p1)), .val (.int (f1 q2 q3 (0 : Int32))), .val (.int (f1 q2 q3 (1 : Int32))), .unset, .unset, .unset, .unset, .unset, .unset, .unset, .unset] [(.int (2 : Int32)), (.long q3), (.long q2)])) _
    refine st6 _ ?_
    show Steps p.tables e below (T6.setTop (mkF m 139 #[.val (.int p1), .val (.long q2), .second, .val (.long q3), .second, .val (.int (p1 &&& (3 : Int32))), .val (.int (f0_s0_16 p1)), .val (.int (f0_s0_30 p1)), .val (.int (f0_s0_44 p1)), .val (.int (f0_v52 p1)), .val (.int (f0_v115 p1)), .val (.int (f1 q2 q3 (0 : Int32))), .val (.int (f1 q2 q3 (1 : Int32))), .unset, .unset, .unset, .unset, .unset, .unset, .unset, .unset] [(.int (f1 q2 q3 (2 : Int32)))])) _
    refine XS.istore X6.here hx rfl (hb hby at_139) rfl (l' := #[.val (.int p1), .val (.long q2), .second, .val (.long q3), .second, .val (.int (p1 &&& (3 : Int32))), .val (.int (f0_s0_16 p1)), .val (.int (f0_s0_30 p1)), .val (.int (f0_s0_44 p1)), .val (.int (f0_v52 p1)), .val (.int (f0_v115 p1)), .val (.int (f1 q2 q3 (0 : Int32))), .val (.int (f1 q2 q3 (1 : Int32))), .val (.int (f1 q2 q3 (2 : Int32))), .unset, .unset, .unset, .unset, .unset, .unset, .unset]) rfl ?_
    show Steps p.tables e below (T6.setTop (mkF m 141 #[.val (.int p1), .val (.long q2), .second, .val (.long q3), .second, .val (.int (p1 &&& (3 : Int32))), .val (.int (f0_s0_16 p1)), .val (.int (f0_s0_30 p1)), .val (.int (f0_s0_44 p1)), .val (.int (f0_v52 p1)), .val (.int (f0_v115 p1)), .val (.int (f1 q2 q3 (0 : Int32))), .val (.int (f1 q2 q3 (1 : Int32))), .val (.int (f1 q2 q3 (2 : Int32))), .unset, .unset, .unset, .unset, .unset, .unset, .unset] [])) _
    refine XS.lloadN X6.here hx rfl (hb hby at_141) rfl ?_
    show Steps p.tables e below (T6.setTop (mkF m 142 #[.val (.int p1), .val (.long q2), .second, .val (.long q3), .second, .val (.int (p1 &&& (3 : Int32))), .val (.int (f0_s0_16 p1)), .val (.int (f0_s0_30 p1)), .val (.int (f0_s0_44 p1)), .val (.int (f0_v52 p1)), .val (.int (f0_v115 p1)), .val (.int (f1 q2 q3 (0 : Int32))), .val (.int (f1 q2 q3 (1 : Int32))), .val (.int (f1 q2 q3 (2 : Int32))), .unset, .unset, .unset, .unset, .unset, .unset, .unset] [(.long q2)])) _
    refine XS.lloadN X6.here hx rfl (hb hby at_142) rfl ?_
    show Steps p.tables e below (T6.setTop (mkF m 143 #[.val (.int p1), .val (.long q2), .second, .val (.long q3), .second, .val (.int (p1 &&& (3 : Int32))), .val (.int (f0_s0_16 p1)), .val (.int (f0_s0_30 p1)), .val (.int (f0_s0_44 p1)), .val (.int (f0_v52 p1)), .val (.int (f0_v115 p1)), .val (.int (f1 q2 q3 (0 : Int32))), .val (.int (f1 q2 q3 (1 : Int32))), .val (.int (f1 q2 q3 (2 : Int32))), .unset, .unset, .unset, .unset, .unset, .unset, .unset] [(.long q3), (.long q2)])) _
    refine XS.iconst X6.here hx rfl (hb hby at_143) ?_
    show Steps p.tables e below (T6.setTop (mkF m 144 #[.val (.int p1), .val (.long q2), .second, .val (.long q3), .second, .val (.int (p1 &&& (3 : Int32))), .val (.int (f0_s0_16 p1)), .val (.int (f0_s0_30 p1)), .val (.int (f0_s0_44 p1)), .val (.int (f0_v52 p1)), .val (.int (f0_v115 p1)), .val (.int (f1 q2 q3 (0 : Int32))), .val (.int (f1 q2 q3 (1 : Int32))), .val (.int (f1 q2 q3 (2 : Int32))), .unset, .unset, .unset, .unset, .unset, .unset, .unset] [(.int (3 : Int32)), (.long q3), (.long q2)])) _
    refine st7 _ ?_
    show Steps p.tables e below (T7.setTop (mkF m 147 #[.val (.int p1), .val (.long q2), .second, .val (.long q3), .second, .val (.int (p1 &&& (3 : Int32))), .val (.int (f0_s0_16 p1)), .val (.int (f0_s0_30 p1)), .val (.int (f0_s0_44 p1)), .val (.int (f0_v52 p1)), .val (.int (f0_v115 p1)), .val (.int (f1 q2 q3 (0 : Int32))), .val (.int (f1 q2 q3 (1 : Int32))), .val (.int (f1 q2 q3 (2 : Int32))), .unset, .unset, .unset, .unset, .unset, .unset, .unset] [(.int (f1 q2 q3 (3 : Int32)))])) _
    refine XS.istore X7.here hx rfl (hb hby at_147) rfl (l' := #[.val (.int p1), .val (.long q2), .second, .val (.long q3), .second, .val (.int (p1 &&& (3 : Int32))), .val (.int (f0_s0_16 p1)), .val (.int (f0_s0_30 p1)), .val (.int (f0_s0_44 p1)), .val (.int (f0_v52 p1)), .val (.int (f0_v115 p1)), .val (.int (f1 q2 q3 (0 : Int32))), .val (.int (f1 q2 q3 (1 : Int32))), .val (.int (f1 q2 q3 (2 : Int32))), .val (.int (f1 q2 q3 (3 : Int32))), .unset, .unset, .unset, .unset, .unset, .unset]) rfl ?_
    show Steps p.tables e below (T7.setTop (mkF m 149 #[.val (.int p1), .val (.long q2), .second, .val (.long q3), .second, .val (.int (p1 &&& (3 : Int32))), .val (.int (f0_s0_16 p1)), .val (.int (f0_s0_30 p1)), .val (.int (f0_s0_44 p1)), .val (.int (f0_v52 p1)), .val (.int (f0_v115 p1)), .val (.int (f1 q2 q3 (0 : Int32))), .val (.int (f1 q2 q3 (1 : Int32))), .val (.int (f1 q2 q3 (2 : Int32))), .val (.int (f1 q2 q3 (3 : Int32))), .unset, .unset, .unset, .unset, .unset, .unset] [])) _
    refine XS.lloadN X7.here hx rfl (hb hby at_149) rfl ?_
    show Steps p.tables e below (T7.setTop (mkF m 150 #[.val (.int p1), .val (.long q2), .second, .val (.long q3), .second, .val (.int (p1 &&& (3 : Int32))), .val (.int (f0_s0_16 p1)), .val (.int (f0_s0_30 p1)), .val (.int (f0_s0_44 p1)), .val (.int (f0_v52 p1)), .val (.int (f0_v115 p1)), .val (.int (f1 q2 q3 (0 : Int32))), .val (.int (f1 q2 q3 (1 : Int32))), .val (.int (f1 q2 q3 (2 : Int32))), .val (.int (f1 q2 q3 (3 : Int32))), .unset, .unset, .unset, .unset, .unset, .unset] [(.long q2)])) _
    refine XS.lloadN X7.here hx rfl (hb hby at_150) rfl ?_
    show Steps p.tables e below (T7.setTop (mkF m 151 #[.val (.int p1), .val (.long q2), .second, .val (.long q3), .second, .val (.int (p1 &&& (3 : Int32))), .val (.int (f0_s0_16 p1)), .val (.int (f0_s0_30 p1)), .val (.int (f0_s0_44 p1)), .val (.int (f0_v52 p1)), .val (.int (f0_v115 p1)), .val (.int (f1 q2 q3 (0 : Int32))), .val (.int (f1 q2 q3 (1 : Int32))), .val (.int (f1 q2 q3 (2 : Int32))), .val (.int (f1 q2 q3 (3 : Int32))), .unset, .unset, .unset, .unset, .unset, .unset] [(.long q3), (.long q2)])) _
    refine XS.iconst X7.here hx rfl (hb hby at_151) ?_
    show Steps p.tables e below (T7.setTop (mkF m 152 #[.val (.int p1), .val (.long q2), .second, .val (.long q3), .second, .val (.int (p1 &&& (3 : Int32))), .val (.int (f0_s0_16 p1)), .val (.int (f0_s0_30 p1)), .val (.int (f0_s0_44 p1)), .val (.int (f0_v52 p1)), .val (.int (f0_v115 p1)), .val (.int (f1 q2 q3 (0 : Int32))), .val (.int (f1 q2 q3 (1 : Int32))), .val (.int (f1 q2 q3 (2 : Int32))), .val (.int (f1 q2 q3 (3 : Int32))), .unset, .unset, .unset, .unset, .unset, .unset] [(.int (4 : Int32)), (.long q3), (.long q2)])) _
    refine st8 _ ?_
    show Steps p.tables e below (T8.setTop (mkF m 155 #[.val (.int p1), .val (.long q2), .second, .val (.long q3), .second, .val (.int (p1 &&& (3 : Int32))), .val (.int (f0_s0_16 p1)), .val (.int (f0_s0_30 p1)), .val (.int (f0_s0_44 p1)), .val (.int (f0_v52 p1)), .val (.int (f0_v115 p1)), .val (.int (f1 q2 q3 (0 : Int32))), .val (.int (f1 q2 q3 (1 : Int32))), .val (.int (f1 q2 q3 (2 : Int32))), .val (.int (f1 q2 q3 (3 : Int32))), .unset, .unset, .unset, .unset, .unset, .unset] [(.int (f1 q2 q3 (4 : Int32)))])) _
    refine XS.istore X8.here hx rfl (hb hby at_155) rfl (l' := #[.val (.int p1), .val (.long q2), .second, .val (.long q3), .second, .val (.int (p1 &&& (3 : Int32))), .val (.int (f0_s0_16 p1)), .val (.int (f0_s0_30 p1)), .val (.int (f0_s0_44 p1)), .val (.int (f0_v52 p1)), .val (.int (f0_v115 p1)), .val (.int (f1 q2 q3 (0 : Int32))), .val (.int (f1 q2 q3 (1 : Int32))), .val (.int (f1 q2 q3 (2 : Int32))), .val (.int (f1 q2 q3 (3 : Int32))), .val (.int (f1 q2 q3 (4 : Int32))), .unset, .unset, .unset, .unset, .unset]) rfl ?_
    show Steps p.tables e below (T8.setTop (mkF m 157 #[.val (.int p1), .val (.long q2), .second, .val (.long q3), .second, .val (.int (p1 &&& (3 : Int32))), .val (.int (f0_s0_16 p1)), .val (.int (f0_s0_30 p1)), .val (.int (f0_s0_44 p1)), .val (.int (f0_v52 p1)), .val (.int (f0_v115 p1)), .val (.int (f1 q2 q3 (0 : Int32))), .val (.int (f1 q2 q3 (1 : Int32))), .val (.int (f1 q2 q3 (2 : Int32))), .val (.int (f1 q2 q3 (3 : Int32))), .val (.int (f1 q2 q3 (4 : Int32))), .unset, .unset, .unset, .unset, .unset] [])) _
    refine XS.lloadN X8.here hx rfl (hb hby at_157) rfl ?_
    show Steps p.tables e below (T8.setTop (mkF m 158 #[.val (.int p1), .val (.long q2), .second, .val (.long q3), .second, .val (.int (p1 &&& (3 : Int32))), .val (.int (f0_s0_16 p1)), .val (.int (f0_s0_30 p1)), .val (.int (f0_s0_44 p1)), .val (.int (f0_v52 p1)), .val (.int (f0_v115 p1)), .val (.int (f1 q2 q3 (0 : Int32))), .val (.int (f1 q2 q3 (1 : Int32))), .val (.int (f1 q2 q3 (2 : Int32))), .val (.int (f1 q2 q3 (3 : Int32))), .val (.int (f1 q2 q3 (4 : Int32))), .unset, .unset, .unset, .unset, .unset] [(.long q2)])) _
    refine XS.lloadN X8.here hx rfl (hb hby at_158) rfl ?_
    show Steps p.tables e below (T8.setTop (mkF m 159 #[.val (.int p1), .val (.long q2), .second, .val (.long q3), .second, .val (.int (p1 &&& (3 : Int32))), .val (.int (f0_s0_16 p1)), .val (.int (f0_s0_30 p1)), .val (.int (f0_s0_44 p1)), .val (.int (f0_v52 p1)), .val (.int (f0_v115 p1)), .val (.int (f1 q2 q3 (0 : Int32))), .val (.int (f1 q2 q3 (1 : Int32))), .val (.int (f1 q2 q3 (2 : Int32))), .val (.int (f1 q2 q3 (3 : Int32))), .val (.int (f1 q2 q3 (4 : Int32))), .unset, .unset, .unset, .unset, .unset] [(.long q3), (.long q2)])) _
    refine XS.iconst X8.here hx rfl (hb hby at_159) ?_
    show Steps p.tables e below (T8.setTop (mkF m 160 #[.val (.int p1), .val (.long q2), .second, .val (.long q3), .second, .val (.int (p1 &&& (3 : Int32))), .val (.int (f0_s0_16 p1)), .val (.int (f0_s0_30 p1)), .val (.int (f0_s0_44 p1)), .val (.int (f0_v52 p1)), .val (.int (f0_v115 p1)), .val (.int (f1 q2 q3 (0 : Int32))), .val (.int (f1 q2 q3 (1 : Int32))), .val (.int (f1 q2 q3 (2 : Int32))), .val (.int (f1 q2 q3 (3 : Int32))), .val (.int (f1 q2 q3 (4 : Int32))), .unset, .unset, .unset, .unset, .unset] [(.int (5 : Int32)), (.long q3), (.long q2)])) _
    refine st9 _ ?_
    show Steps p.tables e below (T9.setTop (mkF m 163 #[.val (.int p1), .val (.long q2), .second, .val (.long q3), .second, .val (.int (p1 &&& (3 : Int32))), .val (.int (f0_s0_16 p1)), .val (.int (f0_s0_30 p1)), .val (.int (f0_s0_44 p1)), .val (.int (f0_v52 p1)), .val (.int (f0_v115 p1)), .val (.int (f1 q2 q3 (0 : Int32))), .val (.int (f1 q2 q3 (1 : Int32))), .val (.int (f1 q2 q3 (2 : Int32))), .val (.int (f1 q2 q3 (3 : Int32))), .val (.int (f1 q2 q3 (4 : Int32))), .unset, .unset, .unset, .unset, .unset] [(.int (f1 q2 q3 (5 : Int32)))])) _
    refine XS.istore X9.here hx rfl (hb hby at_163) rfl (l' := #[.val (.int p1), .val (.long q2), .second, .val (.long q3), .second, .val (.int (p1 &&& (3 : Int32))), .val (.int (f0_s0_16 p1)), .val (.int (f0_s0_30 p1)), .val (.int (f0_s0_44 p1)), .val (.int (f0_v52 p1)), .val (.int (f0_v115 p1)), .val (.int (f1 q2 q3 (0 : Int32))), .val (.int (f1 q2 q3 (1 : Int32))), .val (.int (f1 q2 q3 (2 : Int32))), .val (.int (f1 q2 q3 (3 : Int32))), .val (.int (f1 q2 q3 (4 : Int32))), .val (.int (f1 q2 q3 (5 : Int32))), .unset, .unset, .unset, .unset]) rfl ?_
    show Steps p.tables e below (T9.setTop (mkF m 165 #[.val (.int p1), .val (.long q2), .second, .val (.long q3), .second, .val (.int (p1 &&& (3 : Int32))), .val (.int (f0_s0_16 p1)), .val (.int (f0_s0_30 p1)), .val (.int (f0_s0_44 p1)), .val (.int (f0_v52 p1)), .val (.int (f0_v115 p1)), .val (.int (f1 q2 q3 (0 : Int32))), .val (.int (f1 q2 q3 (1 : Int32))), .val (.int (f1 q2 q3 (2 : Int32))), .val (.int (f1 q2 q3 (3 : Int32))), .val (.int (f1 q2 q3 (4 : Int32))), .val (.int (f1 q2 q3 (5 : Int32))), .unset, .unset, .unset, .unset] [])) _
    refine XS.lloadN X9.here hx rfl (hb hby at_165) rfl ?_
    show Steps p.tables e below (T9.setTop (mkF m 166 #[.val (.int p1), .val (.long q2), .second, .val (.long q3), .second, .val (.int (p1 &&& (3 : Int32))), .val (.int (f0_s0_16 p1)), .val (.int (f0_s0_30 p1)), .val (.int (f0_s0_44 p1)), .val (.int (f0_v52 p1)), .val (.int (f0_v115 p1)), .val (.int (f1 q2 q3 (0 : Int32))), .val (.int (f1 q2 q3 (1 : Int32))), .val (.int (f1 q2 q3 (2 : Int32))), .val (.int (f1 q2 q3 (3 : Int32))), .val (.int (f1 q2 q3 (4 : Int32))), .val (.int (f1 q2 q3 (5 : Int32))), .unset, .unset, .unset, .unset] [(.long q2)])) _
    refine XS.lloadN X9.here hx rfl (hb hby at_166) rfl ?_
    show Steps p.tables e below (T9.setTop (mkF m 167 #[.val (.int p1), .val (.long q2), .second, .val (.long q3), .second, .val (.int (p1 &&& (3 : Int32))), .val (.int (f0_s0_16 p1)), .val (.int (f0_s0_30 p1)), .val (.int (f0_s0_44 p1)), .val (.int (f0_v52 p1)), .val (.int (f0_v115 p1)), .val (.int (f1 q2 q3 (0 : Int32))), .val (.int (f1 q2 q3 (1 : Int32))), .val (.int (f1 q2 q3 (2 : Int32))), .val (.int (f1 q2 q3 (3 : Int32))), .val (.int (f1 q2 q3 (4 : Int32))), .val (.int (f1 q2 q3 (5 : Int32))), .unset, .unset, .unset, .unset] [(.long q3), (.long q2)])) _
    refine XS.bipush X9.here hx rfl (hb hby at_167) ?_
    show Steps p.tables e below (T9.setTop (mkF m 169 #[.val (.int p1), .val (.long q2), .second, .val (.long q3), .second, .val (.int (p1 &&& (3 : Int32))), .val (.int (f0_s0_16 p1)), .val (.int (f0_s0_30 p1)), .val (.int (f0_s0_44 p1)), .val (.int (f0_v52 p1)), .val (.int (f0_v115 p1)), .val (.int (f1 q2 q3 (0 : Int32))), .val (.int (f1 q2 q3 (1 : Int32))), .val (.int (f1 q2 q3 (2 : Int32))), .val (.int (f1 q2 q3 (3 : Int32))), .val (.int (f1 q2 q3 (4 : Int32))), .val (.int (f1 q2 q3 (5 : Int32))), .unset, .unset, .unset, .unset] [(.int (6 : Int32)), (.long q3), (.long q2)])) _
    refine st10 _ ?_
    show Steps p.tables e below (T10.setTop (mkF m 172 #[.val (.int p1), .val (.long q2), .second, .val (.long q3), .second, .val (.int (p1 &&& (3 : Int32))), .val (.int (f0_s0_16 p1)), .val (.int (f0_s0_30 p1)), .val (.int (f0_s0_44 p1)), .val (.int (f0_v52 p1)), .val (.int (f0_v115 p1)), .val (.int (f1 q2 q3 (0 : Int32))), .val (.int (f1 q2 q3 (1 : Int32))), .val (.int (f1 q2 q3 (2 : Int32))), .val (.int (f1 q2 q3 (3 : Int32))), .val (.int (f1 q2 q3 (4 : Int32))), .val (.int (f1 q2 q3 (5 : Int32))), .unset, .unset, .unset, .unset] [(.int (f1 q2 q3 (6 : Int32)))])) _
    refine XS.istore X10.here hx rfl (hb hby at_172) rfl (l' := #[.val (.int p1), .val (.long q2), .second, .val (.long q3), .second, .val (.int (p1 &&& (3 : Int32))), .val (.int (f0_s0_16 p1)), .val (.int (f0_s0_30 p1)), .val (.int (f0_s0_44 p1)), .val (.int (f0_v52 p1)), .val (.int (f0_v115 p1)), .val (.int (f1 q2 q3 (0 : Int32))), .val (.int (f1 q2 q3 (1 : Int32))), .val (.int (f1 q2 q3 (2 : Int32))), .val (.int (f1 q2 q3 (3 : Int32))), .val (.int (f1 q2 q3 (4 : Int32))), .val (.int (f1 q2 q3 (5 : Int32))), .val (.int (f1 q2 q3 (6 : Int32))), .unset, .unset, .unset]) rfl ?_
    show Steps p.tables e below (T10.setTop (mkF m 174 #[.val (.int p1), .val (.long q2), .second, .val (.long q3), .second, .val (.int (p1 &&& (3 : Int32))), .val (.int (f0_s0_16 p1)), .val (.int (f0_s0_30 p1)), .val (.int (f0_s0_44 p1)), .val (.int (f0_v52 p1)), .val (.int (f0_v115 p1)), .val (.int (f1 q2 q3 (0 : Int32))), .val (.int (f1 q2 q3 (1 : Int32))), .val (.int (f1 q2 q3 (2 : Int32))), .val (.int (f1 q2 q3 (3 : Int32))), .val (.int (f1 q2 q3 (4 : Int32))), .val (.int (f1 q2 q3 (5 : Int32))), .val (.int (f1 q2 q3 (6 : Int32))), .unset, .unset, .unset] [])) _
    refine XS.iload X10.here hx rfl (hb hby at_174) rfl ?_
    show Steps p.tables e below (T10.setTop (mkF m 176 #[.val (.int p1), .val (.long q2), .second, .val (.long q3), .second, .val (.int (p1 &&& (3 : Int32))), .val (.int (f0_s0_16 p1)), .val (.int (f0_s0_30 p1)), .val (.int (f0_s0_44 p1)), .val (.int (f0_v52 p1)), .val (.int (f0_v115 p1)), .val (.int (f1 q2 q3 (0 : Int32))), .val (.int (f1 q2 q3 (1 : Int32))), .val (.int (f1 q2 q3 (2 : Int32))), .val (.int (f1 q2 q3 (3 : Int32))), .val (.int (f1 q2 q3 (4 : Int32))), .val (.int (f1 q2 q3 (5 : Int32))), .val (.int (f1 q2 q3 (6 : Int32))), .unset, .unset, .unset] [(.int (f1 q2 q3 (0 : Int32)))])) _
    refine XS.bipush X10.here hx rfl (hb hby at_176) ?_
    exact k
  have pre32 : ∀ t, Steps p.tables e below (T10.setTop (mkF m 185 #[.val (.int p1), .val (.long q2), .second, .val (.long q3), .second, .val (.int (p1 &&& (3 : Int32))), .val (.int (f0_s0_16 p1)), .val (.int (f0_s0_30 p1)), .val (.int (f0_s0_44 p1)), .val (.int (f0_v52 p1)), .val (.int (f0_v115 p1)), .val (.int (f0_l11_185 q2 q3)), .val (.int (f1 q2 q3 (1 : Int32))), .val (.int (f1 q2 q3 (2 : Int32))), .val (.int (f1 q2 q3 (3 : Int32))), .val (.int (f1 q2 q3 (4 : Int32))), .val (.int (f1 q2 q3 (5 : Int32))), .val (.int (f1 q2 q3 (6 : Int32))), .unset, .unset, .unset] [])) t → Steps p.tables e below (s₁.setTop (entryFrame m #[(.int p1), (.long q2), (.long q3)] maxLocals)) t := by
    intro t k
    by_cases hc178 : (f1 q2 q3 (0 : Int32)) = (10 : Int32)
    · have eq33 := (show (f0_l11_185 q2 q3) = (65 : Int32) from by unfold f0_l11_185; simp only [if_pos hc178])
      try rw [eq33] at k
      refine pre31 t ?_
      show Steps p.tables e below (T10.setTop (mkF m 178 #[.val (.int p1), .val (.long q2), .second, .val (.long q3), .second, .val (.int (p1 &&& (3 : Int32))), .val (.int (f0_s0_16 p1)), .val (.int (f0_s0_30 p1)), .val (.int (f0_s0_44 p1)), .val (.int (f0_v52 p1)), .val (.int (f0_v115 p1)), .val (.int (f1 q2 q3 (0 : Int32))), .val (.int (f1 q2 q3 (1 : Int32))), .val (.int (f1 q2 q3 (2 : Int32))), .val (.int (f1 q2 q3 (3 : Int32))), .val (.int (f1 q2 q3 (4 : Int32))), .val (.int (f1 q2 q3 (5 : Int32))), .val (.int (f1 q2 q3 (6 : Int32))), .unset, .unset, .unset] [(.int (10 : Int32)), (.int (f1 q2 q3 (0 : Int32)))])) _
      refine XS.icmpNo X10.here hx rfl (hb hby at_178) rfl (teq hc178).2 ?_
      show Steps p.tables e below (T10.setTop (mkF m 181 #[.val (.int p1), .val (.long q2), .second, .val (.long q3), .second, .val (.int (p1 &&& (3 : Int32))), .val (.int (f0_s0_16 p1)), .val (.int (f0_s0_30 p1)), .val (.int (f0_s0_44 p1)), .val (.int (f0_v52 p1)), .val (.int (f0_v115 p1)), .val (.int (f1 q2 q3 (0 : Int32))), .val (.int (f1 q2 q3 (1 : Int32))), .val (.int (f1 q2 q3 (2 : Int32))), .val (.int (f1 q2 q3 (3 : Int32))), .val (.int (f1 q2 q3 (4 : Int32))), .val (.int (f1 q2 q3 (5 : Int32))), .val (.int (f1 q2 q3 (6 : Int32))), .unset, .unset, .unset] [])) _
      refine XS.bipush X10.here hx rfl (hb hby at_181) ?_
      show Steps p.tables e below (T10.setTop (mkF m 183 #[.val (.int p1), .val (.long q2), .second, .val (.long q3), .second, .val (.int (p1 &&& (3 : Int32))), .val (.int (f0_s0_16 p1)), .val (.int (f0_s0_30 p1)), .val (.int (f0_s0_44 p1)), .val (.int (f0_v52 p1)), .val (.int (f0_v115 p1)), .val (.int (f1 q2 q3 (0 : Int32))), .val (.int (f1 q2 q3 (1 : Int32))), .val (.int (f1 q2 q3 (2 : Int32))), .val (.int (f1 q2 q3 (3 : Int32))), .val (.int (f1 q2 q3 (4 : Int32))), .val (.int (f1 q2 q3 (5 : Int32))), .val (.int (f1 q2 q3 (6 : Int32))), .unset, .unset, .unset] [(.int (65 : Int32))])) _
      refine XS.istore X10.here hx rfl (hb hby at_183) rfl (l' := #[.val (.int p1), .val (.long q2), .second, .val (.long q3), .second, .val (.int (p1 &&& (3 : Int32))), .val (.int (f0_s0_16 p1)), .val (.int (f0_s0_30 p1)), .val (.int (f0_s0_44 p1)), .val (.int (f0_v52 p1)), .val (.int (f0_v115 p1)), .val (.int (65 : Int32)), .val (.int (f1 q2 q3 (1 : Int32))), .val (.int (f1 q2 q3 (2 : Int32))), .val (.int (f1 q2 q3 (3 : Int32))), .val (.int (f1 q2 q3 (4 : Int32))), .val (.int (f1 q2 q3 (5 : Int32))), .val (.int (f1 q2 q3 (6 : Int32))), .unset, .unset, .unset]) rfl ?_
      exact k
    · have eq34 := (show (f0_l11_185 q2 q3) = (f1 q2 q3 (0 : Int32)) from by unfold f0_l11_185; simp only [if_neg hc178])
      try rw [eq34] at k
      refine pre31 t ?_
      show Steps p.tables e below (T10.setTop (mkF m 178 #[.val (.int p1), .val (.long q2), .second, .val (.long q3), .second, .val (.int (p1 &&& (3 : Int32))), .val (.int (f0_s0_16 p1)), .val (.int (f0_s0_30 p1)), .val (.int (f0_s0_44 p1)), .val (.int (f0_v52 p1)), .val (.int (f0_v115 p1)), .val (.int (f1 q2 q3 (0 : Int32))), .val (.int (f1 q2 q3 (1 : Int32))), .val (.int (f1 q2 q3 (2 : Int32))), .val (.int (f1 q2 q3 (3 : Int32))), .val (.int (f1 q2 q3 (4 : Int32))), .val (.int (f1 q2 q3 (5 : Int32))), .val (.int (f1 q2 q3 (6 : Int32))), .unset, .unset, .unset] [(.int (10 : Int32)), (.int (f1 q2 q3 (0 : Int32)))])) _
      refine XS.icmpYes X10.here hx rfl (pc0 := 178) (pc' := 185) rfl (hb hby at_178) rfl (feq hc178).2 (by decide) (by decide) ?_
      exact k
  have pre35 : ∀ t, Steps p.tables e below (T10.setTop (mkF m 189 #[.val (.int p1), .val (.long q2), .second, .val (.long q3), .second, .val (.int (p1 &&& (3 : Int32))), .val (.int (f0_s0_16 p1)), .val (.int (f0_s0_30 p1)), .val (.int (f0_s0_44 p1)), .val (.int (f0_v52 p1)), .val (.int (f0_v115 p1)), .val (.int (f0_l11_185 q2 q3)), .val (.int (f1 q2 q3 (1 : Int32))), .val (.int (f1 q2 q3 (2 : Int32))), .val (.int (f1 q2 q3 (3 : Int32))), .val (.int (f1 q2 q3 (4 : Int32))), .val (.int (f1 q2 q3 (5 : Int32))), .val (.int (f1 q2 q3 (6 : Int32))), .unset, .unset, .unset] [(.int (13 : Int32)), (.int (f0_l11_185 q2 q3))])) t → Steps p.tables e below (s₁.setTop (entryFrame m #[(.int p1), (.long q2), (.long q3)] maxLocals)) t := by
    intro t k
    refine pre32 t ?_
    show Steps p.tables e below (T10.setTop (mkF m 185 #[.val (.int p1), .val (.long q2), .second, .val (.long q3), .second, .val (.int (p1 &&& (3 : Int32))), .val (.int (f0_s0_16 p1)), .val (.int (f0_s0_30 p1)), .val (.int (f0_s0_44 p1)), .val (.int (f0_v52 p1)), .val (.int (f0_v115 p1)), .val (.int (f0_l11_185 q2 q3)), .val (.int (f1 q2 q3 (1 : Int32))), .val (.int (f1 q2 q3 (2 : Int32))), .val (.int (f1 q2 q3 (3 : Int32))), .val (.int (f1 q2 q3 (4 : Int32))), .val (.int (f1 q2 q3 (5 : Int32))), .val (.int (f1 q2 q3 (6 : Int32))), .unset, .unset, .unset] [])) _
    refine XS.iload X10.here hx rfl (hb hby at_185) rfl ?_
    show Steps p.tables e below (T10.setTop (mkF m 187 #[.val (.int p1), .val (.long q2), .second, .val (.long q3), .second, .val (.int (p1 &&& (3 : Int32))), .val (.int (f0_s0_16 p1)), .val (.int (f0_s0_30 p1)), .val (.int (f0_s0_44 p1)), .val (.int (f0_v52 p1)), .val (.int (f0_v115 p1)), .val (.int (f0_l11_185 q2 q3)), .val (.int (f1 q2 q3 (1 : Int32))), .val (.int (f1 q2 q3 (2 : Int32))), .val (.int (f1 q2 q3 (3 : Int32))), .val (.int (f1 q2 q3 (4 : Int32))), .val (.int (f1 q2 q3 (5 : Int32))), .val (.int (f1 q2 q3 (6 : Int32))), .unset, .unset, .unset] [(.int (f0_l11_185 q2 q3))])) _
    refine XS.bipush X10.here hx rfl (hb hby at_187) ?_
    exact k
  have pre36 : ∀ t, Steps p.tables e below (T10.setTop (mkF m 203 #[.val (.int p1), .val (.long q2), .second, .val (.long q3), .second, .val (.int (p1 &&& (3 : Int32))), .val (.int (f0_s0_16 p1)), .val (.int (f0_s0_30 p1)), .val (.int (f0_s0_44 p1)), .val (.int (f0_v52 p1)), .val (.int (f0_v115 p1)), .val (.int (f0_l11_185 q2 q3)), .val (.int (f0_l12_203 q2 q3)), .val (.int (f1 q2 q3 (2 : Int32))), .val (.int (f1 q2 q3 (3 : Int32))), .val (.int (f1 q2 q3 (4 : Int32))), .val (.int (f1 q2 q3 (5 : Int32))), .val (.int (f1 q2 q3 (6 : Int32))), .unset, .unset, .unset] [])) t → Steps p.tables e below (s₁.setTop (entryFrame m #[(.int p1), (.long q2), (.long q3)] maxLocals)) t := by
    intro t k
    by_cases hc189 : (f0_l11_185 q2 q3) = (13 : Int32)
    · have pre37 : ∀ t, Steps p.tables e below (T10.setTop (mkF m 196 #[.val (.int p1), .val (.long q2), .second, .val (.long q3), .second, .val (.int (p1 &&& (3 : Int32))), .val (.int (f0_s0_16 p1)), .val (.int (f0_s0_30 p1)), .val (.int (f0_s0_44 p1)), .val (.int (f0_v52 p1)), .val (.int (f0_v115 p1)), .val (.int (f0_l11_185 q2 q3)), .val (.int (f1 q2 q3 (1 : Int32))), .val (.int (f1 q2 q3 (2 : Int32))), .val (.int (f1 q2 q3 (3 : Int32))), .val (.int (f1 q2 q3 (4 : Int32))), .val (.int (f1 q2 q3 (5 : Int32))), .val (.int (f1 q2 q3 (6 : Int32))), .unset, .unset, .unset] [(.int (10 : Int32)), (.int (f1 q2 q3 (1 : Int32)))])) t → Steps p.tables e below (s₁.setTop (entryFrame m #[(.int p1), (.long q2), (.long q3)] maxLocals)) t := by
        intro t k
        refine pre35 t ?_
        show Steps p.tables e below (T10.setTop (mkF m 189 #[.val (.int p1), .val (.long q2), .second, .val (.long q3), .second, .val (.int (p1 &&& (3 : Int32))), .val (.int (f0_s0_16 p1)), .val (.int (f0_s0_30 p1)), .val (.int (f0_s0_44 p1)), .val (.int (f0_v52 p1)), .val (.int (f0_v115 p1)), .val (.int (f0_l11_185 q2 q3)), .val (.int (f1 q2 q3 (1 : Int32))), .val (.int (f1 q2 q3 (2 : Int32))), .val (.int (f1 q2 q3 (3 : Int32))), .val (.int (f1 q2 q3 (4 : Int32))), .val (.int (f1 q2 q3 (5 : Int32))), .val (.int (f1 q2 q3 (6 : Int32))), .unset, .unset, .unset] [(.int (13 : Int32)), (.int (f0_l11_185 q2 q3))])) _
        refine XS.icmpNo X10.here hx rfl (hb hby at_189) rfl (teq hc189).2 ?_
        show Steps p.tables e below (T10.setTop (mkF m 192 #[.val (.int p1), .val (.long q2), .second, .val (.long q3), .second, .val (.int (p1 &&& (3 : Int32))), .val (.int (f0_s0_16 p1)), .val (.int (f0_s0_30 p1)), .val (.int (f0_s0_44 p1)), .val (.int (f0_v52 p1)), .val (.int (f0_v115 p1)), .val (.int (f0_l11_185 q2 q3)), .val (.int (f1 q2 q3 (1 : Int32))), .val (.int (f1 q2 q3 (2 : Int32))), .val (.int (f1 q2 q3 (3 : Int32))), .val (.int (f1 q2 q3 (4 : Int32))), .val (.int (f1 q2 q3 (5 : Int32))), .val (.int (f1 q2 q3 (6 : Int32))), .unset, .unset, .unset] [])) _
        refine XS.iload X10.here hx rfl (hb hby at_192) rfl ?_
        show Steps p.tables e below (T10.setTop (mkF m 194 #[.val (.int p1), .val (.long q2), .second, .val (.long q3), .second, .val (.int (p1 &&& (3 : Int32))), .val (.int (f0_s0_16 p1)), .val (.int (f0_s0_30 p1)), .val (.int (f0_s0_44 p1)), .val (.int (f0_v52 p1)), .val (.int (f0_v115 p1)), .val (.int (f0_l11_185 q2 q3)), .val (.int (f1 q2 q3 (1 : Int32))), .val (.int (f1 q2 q3 (2 : Int32))), .val (.int (f1 q2 q3 (3 : Int32))), .val (.int (f1 q2 q3 (4 : Int32))), .val (.int (f1 q2 q3 (5 : Int32))), .val (.int (f1 q2 q3 (6 : Int32))), .unset, .unset, .unset] [(.int (f1 q2 q3 (1 : Int32)))])) _
        refine XS.bipush X10.here hx rfl (hb hby at_194) ?_
        exact k
      by_cases hc196 : (f1 q2 q3 (1 : Int32)) = (10 : Int32)
      · have eq38 := (show (f0_l12_203 q2 q3) = (65 : Int32) from by unfold f0_l12_203; simp only [if_pos hc189, if_pos hc196])
        try rw [eq38] at k
        refine pre37 t ?_
        show Steps p.tables e below (T10.setTop (mkF m 196 #[.val (.int p1), .val (.long q2), .second, .val (.long q3), .second, .val (.int (p1 &&& (3 : Int32))), .val (.int (f0_s0_16 p1)), .val (.int (f0_s0_30 p1)), .val (.int (f0_s0_44 p1)), .val (.int (f0_v52 p1)), .val (.int (f0_v115 p1)), .val (.int (f0_l11_185 q2 q3)), .val (.int (f1 q2 q3 (1 : Int32))), .val (.int (f1 q2 q3 (2 : Int32))), .val (.int (f1 q2 q3 (3 : Int32))), .val (.int (f1 q2 q3 (4 : Int32))), .val (.int (f1 q2 q3 (5 : Int32))), .val (.int (f1 q2 q3 (6 : Int32))), .unset, .unset, .unset] [(.int (10 : Int32)), (.int (f1 q2 q3 (1 : Int32)))])) _
        refine XS.icmpNo X10.here hx rfl (hb hby at_196) rfl (teq hc196).2 ?_
        show Steps p.tables e below (T10.setTop (mkF m 199 #[.val (.int p1), .val (.long q2), .second, .val (.long q3), .second, .val (.int (p1 &&& (3 : Int32))), .val (.int (f0_s0_16 p1)), .val (.int (f0_s0_30 p1)), .val (.int (f0_s0_44 p1)), .val (.int (f0_v52 p1)), .val (.int (f0_v115 p1)), .val (.int (f0_l11_185 q2 q3)), .val (.int (f1 q2 q3 (1 : Int32))), .val (.int (f1 q2 q3 (2 : Int32))), .val (.int (f1 q2 q3 (3 : Int32))), .val (.int (f1 q2 q3 (4 : Int32))), .val (.int (f1 q2 q3 (5 : Int32))), .val (.int (f1 q2 q3 (6 : Int32))), .unset, .unset, .unset] [])) _
        refine XS.bipush X10.here hx rfl (hb hby at_199) ?_
        show Steps p.tables e below (T10.setTop (mkF m 201 #[.val (.int p1), .val (.long q2), .second, .val (.long q3), .second, .val (.int (p1 &&& (3 : Int32))), .val (.int (f0_s0_16 p1)), .val (.int (f0_s0_30 p1)), .val (.int (f0_s0_44 p1)), .val (.int (f0_v52 p1)), .val (.int (f0_v115 p1)), .val (.int (f0_l11_185 q2 q3)), .val (.int (f1 q2 q3 (1 : Int32))), .val (.int (f1 q2 q3 (2 : Int32))), .val (.int (f1 q2 q3 (3 : Int32))), .val (.int (f1 q2 q3 (4 : Int32))), .val (.int (f1 q2 q3 (5 : Int32))), .val (.int (f1 q2 q3 (6 : Int32))), .unset, .unset, .unset] [(.int (65 : Int32))])) _
        refine XS.istore X10.here hx rfl (hb hby at_201) rfl (l' := #[.val (.int p1), .val (.long q2), .second, .val (.long q3), .second, .val (.int (p1 &&& (3 : Int32))), .val (.int (f0_s0_16 p1)), .val (.int (f0_s0_30 p1)), .val (.int (f0_s0_44 p1)), .val (.int (f0_v52 p1)), .val (.int (f0_v115 p1)), .val (.int (f0_l11_185 q2 q3)), .val (.int (65 : Int32)), .val (.int (f1 q2 q3 (2 : Int32))), .val (.int (f1 q2 q3 (3 : Int32))), .val (.int (f1 q2 q3 (4 : Int32))), .val (.int (f1 q2 q3 (5 : Int32))), .val (.int (f1 q2 q3 (6 : Int32))), .unset, .unset, .unset]) rfl ?_
        exact k
      · have eq39 := (show (f0_l12_203 q2 q3) = (f1 q2 q3 (1 : Int32)) from by unfold f0_l12_203; simp only [if_pos hc189, if_neg hc196])
        try rw [eq39] at k
        refine pre37 t ?_
        show Steps p.tables e below (T10.setTop (mkF m 196 #[.val (.int p1), .val (.long q2), .second, .val (.long q3), .second, .val (.int (p1 &&& (3 : Int32))), .val (.int (f0_s0_16 p1)), .val (.int (f0_s0_30 p1)), .val (.int (f0_s0_44 p1)), .val (.int (f0_v52 p1)), .val (.int (f0_v115 p1)), .val (.int (f0_l11_185 q2 q3)), .val (.int (f1 q2 q3 (1 : Int32))), .val (.int (f1 q2 q3 (2 : Int32))), .val (.int (f1 q2 q3 (3 : Int32))), .val (.int (f1 q2 q3 (4 : Int32))), .val (.int (f1 q2 q3 (5 : Int32))), .val (.int (f1 q2 q3 (6 : Int32))), .unset, .unset, .unset] [(.int (10 : Int32)), (.int (f1 q2 q3 (1 : Int32)))])) _
        refine XS.icmpYes X10.here hx rfl (pc0 := 196) (pc' := 203) rfl (hb hby at_196) rfl (feq hc196).2 (by decide) (by decide) ?_
        exact k
    · have eq40 := (show (f0_l12_203 q2 q3) = (f1 q2 q3 (1 : Int32)) from by unfold f0_l12_203; simp only [if_neg hc189])
      try rw [eq40] at k
      refine pre35 t ?_
      show Steps p.tables e below (T10.setTop (mkF m 189 #[.val (.int p1), .val (.long q2), .second, .val (.long q3), .second, .val (.int (p1 &&& (3 : Int32))), .val (.int (f0_s0_16 p1)), .val (.int (f0_s0_30 p1)), .val (.int (f0_s0_44 p1)), .val (.int (f0_v52 p1)), .val (.int (f0_v115 p1)), .val (.int (f0_l11_185 q2 q3)), .val (.int (f1 q2 q3 (1 : Int32))), .val (.int (f1 q2 q3 (2 : Int32))), .val (.int (f1 q2 q3 (3 : Int32))), .val (.int (f1 q2 q3 (4 : Int32))), .val (.int (f1 q2 q3 (5 : Int32))), .val (.int (f1 q2 q3 (6 : Int32))), .unset, .unset, .unset] [(.int (13 : Int32)), (.int (f0_l11_185 q2 q3))])) _
      refine XS.icmpYes X10.here hx rfl (pc0 := 189) (pc' := 203) rfl (hb hby at_189) rfl (feq hc189).2 (by decide) (by decide) ?_
      exact k
  obtain ⟨T11, h11, k11, X11, e11, E11, A11, st11⟩ := newP X10 hx hZ (hw _ (List.mem_of_getElem? (i := 6) rfl)) e10 (g := (mkF m 208 #[.val (.int p1), .val (.long q2), .second, .val (.long q3), .second, .val (.int (p1 &&& (3 : Int32))), .val (.int (f0_s0_16 p1)), .val (.int (f0_s0_30 p1)), .val (.int (f0_s0_44 p1)), .val (.int (f0_v52 p1)), .val (.int (f0_v115 p1)), .val (.int (f0_l11_185 q2 q3)), .val (.int (f0_l12_203 q2 q3)), .val (.int (f1 q2 q3 (2 : Int32))), .val (.int (f1 q2 q3 (3 : Int32))), .val (.int (f1 q2 q3 (4 : Int32))), .val (.int (f1 q2 q3 (5 : Int32))), .val (.int (f1 q2 q3 (6 : Int32))), .unset, .unset, .unset] [(.int ((f0_v115 p1) + (f0_v52 p1)))])) rfl (hb hby at_208) rfl (own_neg p1) (cap := 13) (own_cap p1) (by decide) (by decide) (by decide)
  obtain ⟨b11, g11⟩ : ∃ z, z = h0.size := ⟨_, rfl⟩
  rw [← g11] at A11 st11
  have g_b11 : n0 ≤ b11 := Nat.le_trans Z0 (Nat.le_of_eq g11.symm)
  have c12 : n0 ≤ h11.size := Nat.le_trans Z0 E11.1
  have c13 : IAr Z h11 b11 .byte ((f0_v115 p1) + (f0_v52 p1)) (fun _ => 0) := IAr.new A11 (own_neg p1) rfl
  have pre41 : ∀ t, Steps p.tables e below (T11.setTop (mkF m 221 #[.val (.int p1), .val (.long q2), .second, .val (.long q3), .second, .val (.int (p1 &&& (3 : Int32))), .val (.int (f0_s0_16 p1)), .val (.int (f0_s0_30 p1)), .val (.int (f0_s0_44 p1)), .val (.int (f0_v52 p1)), .val (.int (f0_v115 p1)), .val (.int (f0_l11_185 q2 q3)), .val (.int (f0_l12_203 q2 q3)), .val (.int (f1 q2 q3 (2 : Int32))), .val (.int (f1 q2 q3 (3 : Int32))), .val (.int (f1 q2 q3 (4 : Int32))), .val (.int (f1 q2 q3 (5 : Int32))), .val (.int (f1 q2 q3 (6 : Int32))), .val (.ref b11), .val (.int (0 : Int32)), .unset] [(.int (p1 &&& (3 : Int32))), (.int (0 : Int32)), (.ref b11)])) t → Steps p.tables e below (s₁.setTop (entryFrame m #[(.int p1), (.long q2), (.long q3)] maxLocals)) t := by
    intro t k
    refine pre36 t ?_
    show Steps p.tables e below (T10.setTop (mkF m 203 #[.val (.int p1), .val (.long q2), .second, .val (.long q3), .second, .val (.int (p1 &&& (3 : Int32))), .val (.int (f0_s0_16 p1)), .val (.int (f0_s0_30 p1)), .val (.int (f0_s0_44 p1)), .val (.int (f0_v52 p1)), .val (.int (f0_v115 p1)), .val (.int (f0_l11_185 q2 q3)), .val (.int (f0_l12_203 q2 q3)), .val (.int (f1 q2 q3 (2 : Int32))), .val (.int (f1 q2 q3 (3 : Int32))), .val (.int (f1 q2 q3 (4 : Int32))), .val (.int (f1 q2 q3 (5 : Int32))), .val (.int (f1 q2 q3 (6 : Int32))), .unset, .unset, .unset] [])) _
    refine XS.iload X10.here hx rfl (hb hby at_203) rfl ?_
    show Steps p.tables e below (T10.setTop (mkF m 205 #[.val (.int p1), .val (.long q2), .second, .val (.long q3), .second, .val (.int (p1 &&& (3 : Int32))), .val (.int (f0_s0_16 p1)), .val (.int (f0_s0_30 p1)), .val (.int (f0_s0_44 p1)), .val (.int (f0_v52 p1)), .val (.int (f0_v115 p1)), .val (.int (f0_l11_185 q2 q3)), .val (.int (f0_l12_203 q2 q3)), .val (.int (f1 q2 q3 (2 : Int32))), .val (.int (f1 q2 q3 (3 : Int32))), .val (.int (f1 q2 q3 (4 : Int32))), .val (.int (f1 q2 q3 (5 : Int32))), .val (.int (f1 q2 q3 (6 : Int32))), .unset, .unset, .unset] [(.int (f0_v115 p1))])) _
    refine XS.iload X10.here hx rfl (hb hby at_205) rfl ?_
    show Steps p.tables e below (T10.setTop (mkF m 207 #[.val (.int p1), .val (.long q2), .second, .val (.long q3), .second, .val (.int (p1 &&& (3 : Int32))), .val (.int (f0_s0_16 p1)), .val (.int (f0_s0_30 p1)), .val (.int (f0_s0_44 p1)), .val (.int (f0_v52 p1)), .val (.int (f0_v115 p1)), .val (.int (f0_l11_185 q2 q3)), .val (.int (f0_l12_203 q2 q3)), .val (.int (f1 q2 q3 (2 : Int32))), .val (.int (f1 q2 q3 (3 : Int32))), .val (.int (f1 q2 q3 (4 : Int32))), .val (.int (f1 q2 q3 (5 : Int32))), .val (.int (f1 q2 q3 (6 : Int32))), .unset, .unset, .unset] [(.int (f0_v52 p1)), (.int (f0_v115 p1))])) _
    refine XS.iadd X10.here hx rfl (hb hby at_207) rfl ?_
    show Steps p.tables e below (T10.setTop (mkF m 208 #[.val (.int p1), .val (.long q2), .second, .val (.long q3), .second, .val (.int (p1 &&& (3 : Int32))), .val (.int (f0_s0_16 p1)), .val (.int (f0_s0_30 p1)), .val (.int (f0_s0_44 p1)), .val (.int (f0_v52 p1)), .val (.int (f0_v115 p1)), .val (.int (f0_l11_185 q2 q3)), .val (.int (f0_l12_203 q2 q3)), .val (.int (f1 q2 q3 (2 : Int32))), .val (.int (f1 q2 q3 (3 : Int32))), .val (.int (f1 q2 q3 (4 : Int32))), .val (.int (f1 q2 q3 (5 : Int32))), .val (.int (f1 q2 q3 (6 : Int32))), .unset, .unset, .unset] [(.int ((f0_v115 p1) + (f0_v52 p1)))])) _
    refine st11 _ ?_
    show Steps p.tables e below (T11.setTop (mkF m 210 #[.val (.int p1), .val (.long q2), .second, .val (.long q3), .second, .val (.int (p1 &&& (3 : Int32))), .val (.int (f0_s0_16 p1)), .val (.int (f0_s0_30 p1)), .val (.int (f0_s0_44 p1)), .val (.int (f0_v52 p1)), .val (.int (f0_v115 p1)), .val (.int (f0_l11_185 q2 q3)), .val (.int (f0_l12_203 q2 q3)), .val (.int (f1 q2 q3 (2 : Int32))), .val (.int (f1 q2 q3 (3 : Int32))), .val (.int (f1 q2 q3 (4 : Int32))), .val (.int (f1 q2 q3 (5 : Int32))), .val (.int (f1 q2 q3 (6 : Int32))), .unset, .unset, .unset] [(.ref b11)])) _
    refine XS.astore X11.here hx rfl (hb hby at_210) rfl rfl (l' := #[.val (.int p1), .val (.long q2), .second, .val (.long q3), .second, .val (.int (p1 &&& (3 : Int32))), .val (.int (f0_s0_16 p1)), .val (.int (f0_s0_30 p1)), .val (.int (f0_s0_44 p1)), .val (.int (f0_v52 p1)), .val (.int (f0_v115 p1)), .val (.int (f0_l11_185 q2 q3)), .val (.int (f0_l12_203 q2 q3)), .val (.int (f1 q2 q3 (2 : Int32))), .val (.int (f1 q2 q3 (3 : Int32))), .val (.int (f1 q2 q3 (4 : Int32))), .val (.int (f1 q2 q3 (5 : Int32))), .val (.int (f1 q2 q3 (6 : Int32))), .val (.ref b11), .unset, .unset]) rfl ?_
    show Steps p.tables e below (T11.setTop (mkF m 212 #[.val (.int p1), .val (.long q2), .second, .val (.long q3), .second, .val (.int (p1 &&& (3 : Int32))), .val (.int (f0_s0_16 p1)), .val (.int (f0_s0_30 p1)), .val (.int (f0_s0_44 p1)), .val (.int (f0_v52 p1)), .val (.int (f0_v115 p1)), .val (.int (f0_l11_185 q2 q3)), .val (.int (f0_l12_203 q2 q3)), .val (.int (f1 q2 q3 (2 : Int32))), .val (.int (f1 q2 q3 (3 : Int32))), .val (.int (f1 q2 q3 (4 : Int32))), .val (.int (f1 q2 q3 (5 : Int32))), .val (.int (f1 q2 q3 (6 : Int32))), .val (.ref b11), .unset, .unset] [])) _
    refine XS.iconst X11.here hx rfl (hb hby at_212) ?_
    show Steps p.tables e below (T11.setTop (mkF m 213 #[.val (.int p1), .val (.long q2), .second, .val (.long q3), .second, .val (.int (p1 &&& (3 : Int32))), .val (.int (f0_s0_16 p1)), .val (.int (f0_s0_30 p1)), .val (.int (f0_s0_44 p1)), .val (.int (f0_v52 p1)), .val (.int (f0_v115 p1)), .val (.int (f0_l11_185 q2 q3)), .val (.int (f0_l12_203 q2 q3)), .val (.int (f1 q2 q3 (2 : Int32))), .val (.int (f1 q2 q3 (3 : Int32))), .val (.int (f1 q2 q3 (4 : Int32))), .val (.int (f1 q2 q3 (5 : Int32))), .val (.int (f1 q2 q3 (6 : Int32))), .val (.ref b11), .unset, .unset] [(.int (0 : Int32))])) _
    refine XS.istore X11.here hx rfl (hb hby at_213) rfl (l' := #[.val (.int p1), .val (.long q2), .second, .val (.long q3), .second, .val (.int (p1 &&& (3 : Int32))), .val (.int (f0_s0_16 p1)), .val (.int (f0_s0_30 p1)), .val (.int (f0_s0_44 p1)), .val (.int (f0_v52 p1)), .val (.int (f0_v115 p1)), .val (.int (f0_l11_185 q2 q3)), .val (.int (f0_l12_203 q2 q3)), .val (.int (f1 q2 q3 (2 : Int32))), .val (.int (f1 q2 q3 (3 : Int32))), .val (.int (f1 q2 q3 (4 : Int32))), .val (.int (f1 q2 q3 (5 : Int32))), .val (.int (f1 q2 q3 (6 : Int32))), .val (.ref b11), .val (.int (0 : Int32)), .unset]) rfl ?_
    show Steps p.tables e below (T11.setTop (mkF m 215 #[.val (.int p1), .val (.long q2), .second, .val (.long q3), .second, .val (.int (p1 &&& (3 : Int32))), .val (.int (f0_s0_16 p1)), .val (.int (f0_s0_30 p1)), .val (.int (f0_s0_44 p1)), .val (.int (f0_v52 p1)), .val (.int (f0_v115 p1)), .val (.int (f0_l11_185 q2 q3)), .val (.int (f0_l12_203 q2 q3)), .val (.int (f1 q2 q3 (2 : Int32))), .val (.int (f1 q2 q3 (3 : Int32))), .val (.int (f1 q2 q3 (4 : Int32))), .val (.int (f1 q2 q3 (5 : Int32))), .val (.int (f1 q2 q3 (6 : Int32))), .val (.ref b11), .val (.int (0 : Int32)), .unset] [])) _
    refine XS.aload X11.here hx rfl (hb hby at_215) rfl rfl ?_
    show Steps p.tables e below (T11.setTop (mkF m 217 #[.val (.int p1), .val (.long q2), .second, .val (.long q3), .second, .val (.int (p1 &&& (3 : Int32))), .val (.int (f0_s0_16 p1)), .val (.int (f0_s0_30 p1)), .val (.int (f0_s0_44 p1)), .val (.int (f0_v52 p1)), .val (.int (f0_v115 p1)), .val (.int (f0_l11_185 q2 q3)), .val (.int (f0_l12_203 q2 q3)), .val (.int (f1 q2 q3 (2 : Int32))), .val (.int (f1 q2 q3 (3 : Int32))), .val (.int (f1 q2 q3 (4 : Int32))), .val (.int (f1 q2 q3 (5 : Int32))), .val (.int (f1 q2 q3 (6 : Int32))), .val (.ref b11), .val (.int (0 : Int32)), .unset] [(.ref b11)])) _
    refine XS.iload X11.here hx rfl (hb hby at_217) rfl ?_
    show Steps p.tables e below (T11.setTop (mkF m 219 #[.val (.int p1), .val (.long q2), .second, .val (.long q3), .second, .val (.int (p1 &&& (3 : Int32))), .val (.int (f0_s0_16 p1)), .val (.int (f0_s0_30 p1)), .val (.int (f0_s0_44 p1)), .val (.int (f0_v52 p1)), .val (.int (f0_v115 p1)), .val (.int (f0_l11_185 q2 q3)), .val (.int (f0_l12_203 q2 q3)), .val (.int (f1 q2 q3 (2 : Int32))), .val (.int (f1 q2 q3 (3 : Int32))), .val (.int (f1 q2 q3 (4 : Int32))), .val (.int (f1 q2 q3 (5 : Int32))), .val (.int (f1 q2 q3 (6 : Int32))), .val (.ref b11), .val (.int (0 : Int32)), .unset] [(.int (0 : Int32)), (.ref b11)])) _
    refine XS.iload X11.here hx rfl (hb hby at_219) rfl ?_
    exact k
  have pre42 : ∀ t, Steps p.tables e below (T11.setTop (mkF m 229 #[.val (.int p1), .val (.long q2), .second, .val (.long q3), .second, .val (.int (p1 &&& (3 : Int32))), .val (.int (f0_s0_16 p1)), .val (.int (f0_s0_30 p1)), .val (.int (f0_s0_44 p1)), .val (.int (f0_v52 p1)), .val (.int (f0_v115 p1)), .val (.int (f0_l11_185 q2 q3)), .val (.int (f0_l12_203 q2 q3)), .val (.int (f1 q2 q3 (2 : Int32))), .val (.int (f1 q2 q3 (3 : Int32))), .val (.int (f1 q2 q3 (4 : Int32))), .val (.int (f1 q2 q3 (5 : Int32))), .val (.int (f1 q2 q3 (6 : Int32))), .val (.ref b11), .val (.int (0 : Int32)), .unset] [(.int (f0_s0_229 p1)), (.int (0 : Int32)), (.ref b11)])) t → Steps p.tables e below (s₁.setTop (entryFrame m #[(.int p1), (.long q2), (.long q3)] maxLocals)) t := by
    intro t k
    by_cases hc221 : (0 : Int32) < (p1 &&& (3 : Int32))
    · have eq43 := (show (f0_s0_229 p1) = (1 : Int32) from by unfold f0_s0_229; simp only [if_pos hc221])
      try rw [eq43] at k
      refine pre41 t ?_
      show Steps p.tables e below (T11.setTop (mkF m 221 #[.val (.int p1), .val (.long q2), .second, .val (.long q3), .second, .val (.int (p1 &&& (3 : Int32))), .val (.int (f0_s0_16 p1)), .val (.int (f0_s0_30 p1)), .val (.int (f0_s0_44 p1)), .val (.int (f0_v52 p1)), .val (.int (f0_v115 p1)), .val (.int (f0_l11_185 q2 q3)), .val (.int (f0_l12_203 q2 q3)), .val (.int (f1 q2 q3 (2 : Int32))), .val (.int (f1 q2 q3 (3 : Int32))), .val (.int (f1 q2 q3 (4 : Int32))), .val (.int (f1 q2 q3 (5 : Int32))), .val (.int (f1 q2 q3 (6 : Int32))), .val (.ref b11), .val (.int (0 : Int32)), .unset] [(.int (p1 &&& (3 : Int32))), (.int (0 : Int32)), (.ref b11)])) _
      refine XS.ifNo X11.here hx rfl (hb hby at_221) rfl ((if0 _ _).trans (tlt hc221).2.2.2) ?_
      show Steps p.tables e below (T11.setTop (mkF m 224 #[.val (.int p1), .val (.long q2), .second, .val (.long q3), .second, .val (.int (p1 &&& (3 : Int32))), .val (.int (f0_s0_16 p1)), .val (.int (f0_s0_30 p1)), .val (.int (f0_s0_44 p1)), .val (.int (f0_v52 p1)), .val (.int (f0_v115 p1)), .val (.int (f0_l11_185 q2 q3)), .val (.int (f0_l12_203 q2 q3)), .val (.int (f1 q2 q3 (2 : Int32))), .val (.int (f1 q2 q3 (3 : Int32))), .val (.int (f1 q2 q3 (4 : Int32))), .val (.int (f1 q2 q3 (5 : Int32))), .val (.int (f1 q2 q3 (6 : Int32))), .val (.ref b11), .val (.int (0 : Int32)), .unset] [(.int (0 : Int32)), (.ref b11)])) _
      refine XS.iconst X11.here hx rfl (hb hby at_224) ?_
      show Steps p.tables e below (T11.setTop (mkF m 225 #[.val (.int p1), .val (.long q2), .second, .val (.long q3), .second, .val (.int (p1 &&& (3 : Int32))), .val (.int (f0_s0_16 p1)), .val (.int (f0_s0_30 p1)), .val (.int (f0_s0_44 p1)), .val (.int (f0_v52 p1)), .val (.int (f0_v115 p1)), .val (.int (f0_l11_185 q2 q3)), .val (.int (f0_l12_203 q2 q3)), .val (.int (f1 q2 q3 (2 : Int32))), .val (.int (f1 q2 q3 (3 : Int32))), .val (.int (f1 q2 q3 (4 : Int32))), .val (.int (f1 q2 q3 (5 : Int32))), .val (.int (f1 q2 q3 (6 : Int32))), .val (.ref b11), .val (.int (0 : Int32)), .unset] [(.int (1 : Int32)), (.int (0 : Int32)), (.ref b11)])) _
      refine XS.goto X11.here hx rfl (pc0 := 225) (pc' := 229) rfl (hb hby at_225) (by decide) (by decide) ?_
      exact k
    · have eq44 := (show (f0_s0_229 p1) = (0 : Int32) from by unfold f0_s0_229; simp only [if_neg hc221])
      try rw [eq44] at k
      refine pre41 t ?_
      show Steps p.tables e below (T11.setTop (mkF m 221 #[.val (.int p1), .val (.long q2), .second, .val (.long q3), .second, .val (.int (p1 &&& (3 : Int32))), .val (.int (f0_s0_16 p1)), .val (.int (f0_s0_30 p1)), .val (.int (f0_s0_44 p1)), .val (.int (f0_v52 p1)), .val (.int (f0_v115 p1)), .val (.int (f0_l11_185 q2 q3)), .val (.int (f0_l12_203 q2 q3)), .val (.int (f1 q2 q3 (2 : Int32))), .val (.int (f1 q2 q3 (3 : Int32))), .val (.int (f1 q2 q3 (4 : Int32))), .val (.int (f1 q2 q3 (5 : Int32))), .val (.int (f1 q2 q3 (6 : Int32))), .val (.ref b11), .val (.int (0 : Int32)), .unset] [(.int (p1 &&& (3 : Int32))), (.int (0 : Int32)), (.ref b11)])) _
      refine XS.ifYes X11.here hx rfl (pc0 := 221) (pc' := 228) rfl (hb hby at_221) rfl ((if0 _ _).trans (flt hc221).2.2.2) (by decide) (by decide) ?_
      show Steps p.tables e below (T11.setTop (mkF m 228 #[.val (.int p1), .val (.long q2), .second, .val (.long q3), .second, .val (.int (p1 &&& (3 : Int32))), .val (.int (f0_s0_16 p1)), .val (.int (f0_s0_30 p1)), .val (.int (f0_s0_44 p1)), .val (.int (f0_v52 p1)), .val (.int (f0_v115 p1)), .val (.int (f0_l11_185 q2 q3)), .val (.int (f0_l12_203 q2 q3)), .val (.int (f1 q2 q3 (2 : Int32))), .val (.int (f1 q2 q3 (3 : Int32))), .val (.int (f1 q2 q3 (4 : Int32))), .val (.int (f1 q2 q3 (5 : Int32))), .val (.int (f1 q2 q3 (6 : Int32))), .val (.ref b11), .val (.int (0 : Int32)), .unset] [(.int (0 : Int32)), (.ref b11)])) _
      refine XS.iconst X11.here hx rfl (hb hby at_228) ?_
      exact k
  obtain ⟨_, _, ⟨T14, L14, k14, n14⟩, -, X14, ⟨Lc14, hQ14, l14, y14, z14⟩, st14⟩ := Jvm.LawKit.callS X11 hx (y := (⟨"com/example/titlepoint/titlepoint/Iso2709ReaderBeginsWithRecordLengthPinLaw", "putLineEnd", "([BIZZ)I"⟩ : MethodName)) hown (mvT hZ (hw _ (List.mem_of_getElem? (i := 7) rfl))) (mvT hZ (hw _ (List.mem_of_getElem? (i := 8) rfl))) (mvT hZ (hw _ (List.mem_of_getElem? (i := 2) rfl))) (mvT hZ (hw _ (List.mem_of_getElem? (i := 9) rfl))) (by decide) (backOf (W := 0) (rm2 l Z a0 hw [] b11 (0 : Int32) (f0_s0_229 p1) (f0_s0_16 p1) ((f0_v115 p1) + (f0_v52 p1)) (fun _ => 0) h11 n0 c12 c13 g_b11 (own_q1 p1).1 (own_q1 p1).2) hZ (hw _ (List.mem_of_getElem? (i := 9) rfl)) (hw _ (List.mem_of_getElem? (i := 2) rfl)) (by decide) (by decide)) (g := (mkF m 231 #[.val (.int p1), .val (.long q2), .second, .val (.long q3), .second, .val (.int (p1 &&& (3 : Int32))), .val (.int (f0_s0_16 p1)), .val (.int (f0_s0_30 p1)), .val (.int (f0_s0_44 p1)), .val (.int (f0_v52 p1)), .val (.int (f0_v115 p1)), .val (.int (f0_l11_185 q2 q3)), .val (.int (f0_l12_203 q2 q3)), .val (.int (f1 q2 q3 (2 : Int32))), .val (.int (f1 q2 q3 (3 : Int32))), .val (.int (f1 q2 q3 (4 : Int32))), .val (.int (f1 q2 q3 (5 : Int32))), .val (.int (f1 q2 q3 (6 : Int32))), .val (.ref b11), .val (.int (0 : Int32)), .unset] [(.int (f0_s0_16 p1)), (.int (f0_s0_229 p1)), (.int (0 : Int32)), (.ref b11)])) rfl (by rw [hml]; rfl) (argsL := [(.ref b11), (.int (0 : Int32)), (.int (f0_s0_229 p1)), (.int (f0_s0_16 p1))]) (rest := []) (lenOf pd_2 rfl) rfl (by show 2 * 0 + _ ≤ _; exact Nat.le_of_eq rfl) (hb hby at_231) (fun _ _ => ⟨rfl, e11, (by decide : 1 + 0 ≤ _), (by decide : 13 + 0 ≤ _)⟩)
  dsimp only [Pt.U, Pt.locs, Pt.cells, Pt.slots] at X14 l14 y14 z14 st14 hQ14
  subst l14 y14 z14
  obtain ⟨rfl, N14q, K14, o14_0⟩ := hQ14
  have N14 := Fr.app N10 N14q
  have c15 : n0 ≤ T14.heap.size := Nat.le_trans c12 K14.1
  have c16 : IAr Z T14.heap b11 .byte ((f0_v115 p1) + (f0_v52 p1)) (f2_o0 (0 : Int32) (f0_s0_229 p1) (f0_s0_16 p1) ((f0_v115 p1) + (f0_v52 p1)) (fun _ => 0)) := o14_0
  have pre45 : ∀ t, Steps p.tables e below (T14.setTop (mkF m 243 #[.val (.int p1), .val (.long q2), .second, .val (.long q3), .second, .val (.int (p1 &&& (3 : Int32))), .val (.int (f0_s0_16 p1)), .val (.int (f0_s0_30 p1)), .val (.int (f0_s0_44 p1)), .val (.int (f0_v52 p1)), .val (.int (f0_v115 p1)), .val (.int (f0_l11_185 q2 q3)), .val (.int (f0_l12_203 q2 q3)), .val (.int (f1 q2 q3 (2 : Int32))), .val (.int (f1 q2 q3 (3 : Int32))), .val (.int (f1 q2 q3 (4 : Int32))), .val (.int (f1 q2 q3 (5 : Int32))), .val (.int (f1 q2 q3 (6 : Int32))), .val (.ref b11), .val (.int (f0_v234 p1)), .unset] [(.int (1 : Int32)), (.int (p1 &&& (3 : Int32))), (.int (f0_v234 p1)), (.ref b11)])) t → Steps p.tables e below (s₁.setTop (entryFrame m #[(.int p1), (.long q2), (.long q3)] maxLocals)) t := by
    intro t k
    refine pre42 t ?_
    show Steps p.tables e below (T11.setTop (mkF m 229 #[.val (.int p1), .val (.long q2), .second, .val (.long q3), .second, .val (.int (p1 &&& (3 : Int32))), .val (.int (f0_s0_16 p1)), .val (.int (f0_s0_30 p1)), .val (.int (f0_s0_44 p1)), .val (.int (f0_v52 p1)), .val (.int (f0_v115 p1)), .val (.int (f0_l11_185 q2 q3)), .val (.int (f0_l12_203 q2 q3)), .val (.int (f1 q2 q3 (2 : Int32))), .val (.int (f1 q2 q3 (3 : Int32))), .val (.int (f1 q2 q3 (4 : Int32))), .val (.int (f1 q2 q3 (5 : Int32))), .val (.int (f1 q2 q3 (6 : Int32))), .val (.ref b11), .val (.int (0 : Int32)), .unset] [(.int (f0_s0_229 p1)), (.int (0 : Int32)), (.ref b11)])) _
    refine XS.iload X11.here hx rfl (hb hby at_229) rfl ?_
    show Steps p.tables e below (T11.setTop (mkF m 231 #[.val (.int p1), .val (.long q2), .second, .val (.long q3), .second, .val (.int (p1 &&& (3 : Int32))), .val (.int (f0_s0_16 p1)), .val (.int (f0_s0_30 p1)), .val (.int (f0_s0_44 p1)), .val (.int (f0_v52 p1)), .val (.int (f0_v115 p1)), .val (.int (f0_l11_185 q2 q3)), .val (.int (f0_l12_203 q2 q3)), .val (.int (f1 q2 q3 (2 : Int32))), .val (.int (f1 q2 q3 (3 : Int32))), .val (.int (f1 q2 q3 (4 : Int32))), .val (.int (f1 q2 q3 (5 : Int32))), .val (.int (f1 q2 q3 (6 : Int32))), .val (.ref b11), .val (.int (0 : Int32)), .unset] [(.int (f0_s0_16 p1)), (.int (f0_s0_229 p1)), (.int (0 : Int32)), (.ref b11)])) _
    refine st14 _ ?_
    show Steps p.tables e below (T14.setTop (mkF m 234 #[.val (.int p1), .val (.long q2), .second, .val (.long q3), .second, .val (.int (p1 &&& (3 : Int32))), .val (.int (f0_s0_16 p1)), .val (.int (f0_s0_30 p1)), .val (.int (f0_s0_44 p1)), .val (.int (f0_v52 p1)), .val (.int (f0_v115 p1)), .val (.int (f0_l11_185 q2 q3)), .val (.int (f0_l12_203 q2 q3)), .val (.int (f1 q2 q3 (2 : Int32))), .val (.int (f1 q2 q3 (3 : Int32))), .val (.int (f1 q2 q3 (4 : Int32))), .val (.int (f1 q2 q3 (5 : Int32))), .val (.int (f1 q2 q3 (6 : Int32))), .val (.ref b11), .val (.int (0 : Int32)), .unset] [(.int (f2 (0 : Int32) (f0_s0_229 p1) (f0_s0_16 p1) ((f0_v115 p1) + (f0_v52 p1)) (fun _ => 0)))])) _
    refine XS.istore X14.here hx rfl (hb hby at_234) rfl (l' := #[.val (.int p1), .val (.long q2), .second, .val (.long q3), .second, .val (.int (p1 &&& (3 : Int32))), .val (.int (f0_s0_16 p1)), .val (.int (f0_s0_30 p1)), .val (.int (f0_s0_44 p1)), .val (.int (f0_v52 p1)), .val (.int (f0_v115 p1)), .val (.int (f0_l11_185 q2 q3)), .val (.int (f0_l12_203 q2 q3)), .val (.int (f1 q2 q3 (2 : Int32))), .val (.int (f1 q2 q3 (3 : Int32))), .val (.int (f1 q2 q3 (4 : Int32))), .val (.int (f1 q2 q3 (5 : Int32))), .val (.int (f1 q2 q3 (6 : Int32))), .val (.ref b11), .val (.int (f0_v234 p1)), .unset]) rfl ?_
    show Steps p.tables e below (T14.setTop (mkF m 236 #[.val (.int p1), .val (.long q2), .second, .val (.long q3), .second, .val (.int (p1 &&& (3 : Int32))), .val (.int (f0_s0_16 p1)), .val (.int (f0_s0_30 p1)), .val (.int (f0_s0_44 p1)), .val (.int (f0_v52 p1)), .val (.int (f0_v115 p1)), .val (.int (f0_l11_185 q2 q3)), .val (.int (f0_l12_203 q2 q3)), .val (.int (f1 q2 q3 (2 : Int32))), .val (.int (f1 q2 q3 (3 : Int32))), .val (.int (f1 q2 q3 (4 : Int32))), .val (.int (f1 q2 q3 (5 : Int32))), .val (.int (f1 q2 q3 (6 : Int32))), .val (.ref b11), .val (.int (f0_v234 p1)), .unset] [])) _
    refine XS.aload X14.here hx rfl (hb hby at_236) rfl rfl ?_
    show Steps p.tables e below (T14.setTop (mkF m 238 #[.val (.int p1), .val (.long q2), .second, .val (.long q3), .second, .val (.int (p1 &&& (3 : Int32))), .val (.int (f0_s0_16 p1)), .val (.int (f0_s0_30 p1)), .val (.int (f0_s0_44 p1)), .val (.int (f0_v52 p1)), .val (.int (f0_v115 p1)), .val (.int (f0_l11_185 q2 q3)), .val (.int (f0_l12_203 q2 q3)), .val (.int (f1 q2 q3 (2 : Int32))), .val (.int (f1 q2 q3 (3 : Int32))), .val (.int (f1 q2 q3 (4 : Int32))), .val (.int (f1 q2 q3 (5 : Int32))), .val (.int (f1 q2 q3 (6 : Int32))), .val (.ref b11), .val (.int (f0_v234 p1)), .unset] [(.ref b11)])) _
    refine XS.iload X14.here hx rfl (hb hby at_238) rfl ?_
    show Steps p.tables e below (T14.setTop (mkF m 240 #[.val (.int p1), .val (.long q2), .second, .val (.long q3), .second, .val (.int (p1 &&& (3 : Int32))), .val (.int (f0_s0_16 p1)), .val (.int (f0_s0_30 p1)), .val (.int (f0_s0_44 p1)), .val (.int (f0_v52 p1)), .val (.int (f0_v115 p1)), .val (.int (f0_l11_185 q2 q3)), .val (.int (f0_l12_203 q2 q3)), .val (.int (f1 q2 q3 (2 : Int32))), .val (.int (f1 q2 q3 (3 : Int32))), .val (.int (f1 q2 q3 (4 : Int32))), .val (.int (f1 q2 q3 (5 : Int32))), .val (.int (f1 q2 q3 (6 : Int32))), .val (.ref b11), .val (.int (f0_v234 p1)), .unset] [(.int (f0_v234 p1)), (.ref b11)])) _
    refine XS.iload X14.here hx rfl (hb hby at_240) rfl ?_
    show Steps p.tables e below (T14.setTop (mkF m 242 #[.val (.int p1), .val (.long q2), .second, .val (.long q3), .second, .val (.int (p1 &&& (3 : Int32))), .val (.int (f0_s0_16 p1)), .val (.int (f0_s0_30 p1)), .val (.int (f0_s0_44 p1)), .val (.int (f0_v52 p1)), .val (.int (f0_v115 p1)), .val (.int (f0_l11_185 q2 q3)), .val (.int (f0_l12_203 q2 q3)), .val (.int (f1 q2 q3 (2 : Int32))), .val (.int (f1 q2 q3 (3 : Int32))), .val (.int (f1 q2 q3 (4 : Int32))), .val (.int (f1 q2 q3 (5 : Int32))), .val (.int (f1 q2 q3 (6 : Int32))), .val (.ref b11), .val (.int (f0_v234 p1)), .unset] [(.int (p1 &&& (3 : Int32))), (.int (f0_v234 p1)), (.ref b11)])) _
    refine XS.iconst X14.here hx rfl (hb hby at_242) ?_
    exact k
  have pre46 : ∀ t, Steps p.tables e below (T14.setTop (mkF m 251 #[.val (.int p1), .val (.long q2), .second, .val (.long q3), .second, .val (.int (p1 &&& (3 : Int32))), .val (.int (f0_s0_16 p1)), .val (.int (f0_s0_30 p1)), .val (.int (f0_s0_44 p1)), .val (.int (f0_v52 p1)), .val (.int (f0_v115 p1)), .val (.int (f0_l11_185 q2 q3)), .val (.int (f0_l12_203 q2 q3)), .val (.int (f1 q2 q3 (2 : Int32))), .val (.int (f1 q2 q3 (3 : Int32))), .val (.int (f1 q2 q3 (4 : Int32))), .val (.int (f1 q2 q3 (5 : Int32))), .val (.int (f1 q2 q3 (6 : Int32))), .val (.ref b11), .val (.int (f0_v234 p1)), .unset] [(.int (f0_s0_251 p1)), (.int (f0_v234 p1)), (.ref b11)])) t → Steps p.tables e below (s₁.setTop (entryFrame m #[(.int p1), (.long q2), (.long q3)] maxLocals)) t := by
    intro t k
    by_cases hc243 : (1 : Int32) < (p1 &&& (3 : Int32))
    · have eq47 := (show (f0_s0_251 p1) = (1 : Int32) from by unfold f0_s0_251; simp only [if_pos hc243])
      try rw [eq47] at k
      refine pre45 t ?_
      show Steps p.tables e below (T14.setTop (mkF m 243 #[.val (.int p1), .val (.long q2), .second, .val (.long q3), .second, .val (.int (p1 &&& (3 : Int32))), .val (.int (f0_s0_16 p1)), .val (.int (f0_s0_30 p1)), .val (.int (f0_s0_44 p1)), .val (.int (f0_v52 p1)), .val (.int (f0_v115 p1)), .val (.int (f0_l11_185 q2 q3)), .val (.int (f0_l12_203 q2 q3)), .val (.int (f1 q2 q3 (2 : Int32))), .val (.int (f1 q2 q3 (3 : Int32))), .val (.int (f1 q2 q3 (4 : Int32))), .val (.int (f1 q2 q3 (5 : Int32))), .val (.int (f1 q2 q3 (6 : Int32))), .val (.ref b11), .val (.int (f0_v234 p1)), .unset] [(.int (1 : Int32)), (.int (p1 &&& (3 : Int32))), (.int (f0_v234 p1)), (.ref b11)])) _
      refine XS.icmpNo X14.here hx rfl (hb hby at_243) rfl (tlt hc243).2.2.2 ?_
      show Steps p.tables e below (T14.setTop (mkF m 246 #[.val (.int p1), .val (.long q2), .second, .val (.long q3), .second, .val (.int (p1 &&& (3 : Int32))), .val (.int (f0_s0_16 p1)), .val (.int (f0_s0_30 p1)), .val (.int (f0_s0_44 p1)), .val (.int (f0_v52 p1)), .val (.int (f0_v115 p1)), .val (.int (f0_l11_185 q2 q3)), .val (.int (f0_l12_203 q2 q3)), .val (.int (f1 q2 q3 (2 : Int32))), .val (.int (f1 q2 q3 (3 : Int32))), .val (.int (f1 q2 q3 (4 : Int32))), .val (.int (f1 q2 q3 (5 : Int32))), .val (.int (f1 q2 q3 (6 : Int32))), .val (.ref b11), .val (.int (f0_v234 p1)), .unset] [(.int (f0_v234 p1)), (.ref b11)])) _
      refine XS.iconst X14.here hx rfl (hb hby at_246) ?_
      show Steps p.tables e below (T14.setTop (mkF m 247 #[.val (.int p1), .val (.long q2), .second, .val (.long q3), .second, .val (.int (p1 &&& (3 : Int32))), .val (.int (f0_s0_16 p1)), .val (.int (f0_s0_30 p1)), .val (.int (f0_s0_44 p1)), .val (.int (f0_v52 p1)), .val (.int (f0_v115 p1)), .val (.int (f0_l11_185 q2 q3)), .val (.int (f0_l12_203 q2 q3)), .val (.int (f1 q2 q3 (2 : Int32))), .val (.int (f1 q2 q3 (3 : Int32))), .val (.int (f1 q2 q3 (4 : Int32))), .val (.int (f1 q2 q3 (5 : Int32))), .val (.int (f1 q2 q3 (6 : Int32))), .val (.ref b11), .val (.int (f0_v234 p1)), .unset] [(.int (1 : Int32)), (.int (f0_v234 p1)), (.ref b11)])) _
      refine XS.goto X14.here hx rfl (pc0 := 247) (pc' := 251) rfl (hb hby at_247) (by decide) (by decide) ?_
      exact k
    · have eq48 := (show (f0_s0_251 p1) = (0 : Int32) from by unfold f0_s0_251; simp only [if_neg hc243])
      try rw [eq48] at k
      refine pre45 t ?_
      show Steps p.tables e below (T14.setTop (mkF m 243 #[.val (.int p1), .val (.long q2), .second, .val (.long q3), .second, .val (.int (p1 &&& (3 : Int32))), .val (.int (f0_s0_16 p1)), .val (.int (f0_s0_30 p1)), .val (.int (f0_s0_44 p1)), .val (.int (f0_v52 p1)), .val (.int (f0_v115 p1)), .val (.int (f0_l11_185 q2 q3)), .val (.int (f0_l12_203 q2 q3)), .val (.int (f1 q2 q3 (2 : Int32))), .val (.int (f1 q2 q3 (3 : Int32))), .val (.int (f1 q2 q3 (4 : Int32))), .val (.int (f1 q2 q3 (5 : Int32))), .val (.int (f1 q2 q3 (6 : Int32))), .val (.ref b11), .val (.int (f0_v234 p1)), .unset] [(.int (1 : Int32)), (.int (p1 &&& (3 : Int32))), (.int (f0_v234 p1)), (.ref b11)])) _
      refine XS.icmpYes X14.here hx rfl (pc0 := 243) (pc' := 250) rfl (hb hby at_243) rfl (flt hc243).2.2.2 (by decide) (by decide) ?_
      show Steps p.tables e below (T14.setTop (mkF m 250 #[.val (.int p1), .val (.long q2), .second, .val (.long q3), .second, .val (.int (p1 &&& (3 : Int32))), .val (.int (f0_s0_16 p1)), .val (.int (f0_s0_30 p1)), .val (.int (f0_s0_44 p1)), .val (.int (f0_v52 p1)), .val (.int (f0_v115 p1)), .val (.int (f0_l11_185 q2 q3)), .val (.int (f0_l12_203 q2 q3)), .val (.int (f1 q2 q3 (2 : Int32))), .val (.int (f1 q2 q3 (3 : Int32))), .val (.int (f1 q2 q3 (4 : Int32))), .val (.int (f1 q2 q3 (5 : Int32))), .val (.int (f1 q2 q3 (6 : Int32))), .val (.ref b11), .val (.int (f0_v234 p1)), .unset] [(.int (f0_v234 p1)), (.ref b11)])) _
      refine XS.iconst X14.here hx rfl (hb hby at_250) ?_
      exact k
  obtain ⟨_, _, ⟨T17, L17, k17, n17⟩, -, X17, ⟨Lc17, hQ17, l17, y17, z17⟩, st17⟩ := Jvm.LawKit.callS X14 hx (y := (⟨"com/example/titlepoint/titlepoint/Iso2709ReaderBeginsWithRecordLengthPinLaw", "putLineEnd", "([BIZZ)I"⟩ : MethodName)) hown (mvT hZ (hw _ (List.mem_of_getElem? (i := 7) rfl))) (mvT hZ (hw _ (List.mem_of_getElem? (i := 8) rfl))) (mvT hZ (hw _ (List.mem_of_getElem? (i := 2) rfl))) (mvT hZ (hw _ (List.mem_of_getElem? (i := 9) rfl))) (by decide) (backOf (W := 0) (rm2 l Z a0 hw [] b11 (f0_v234 p1) (f0_s0_251 p1) (f0_s0_30 p1) ((f0_v115 p1) + (f0_v52 p1)) (f2_o0 (0 : Int32) (f0_s0_229 p1) (f0_s0_16 p1) ((f0_v115 p1) + (f0_v52 p1)) (fun _ => 0)) T14.heap n0 c15 c16 g_b11 (own_q2 p1).1 (own_q2 p1).2) hZ (hw _ (List.mem_of_getElem? (i := 9) rfl)) (hw _ (List.mem_of_getElem? (i := 2) rfl)) (by decide) (by decide)) (g := (mkF m 253 #[.val (.int p1), .val (.long q2), .second, .val (.long q3), .second, .val (.int (p1 &&& (3 : Int32))), .val (.int (f0_s0_16 p1)), .val (.int (f0_s0_30 p1)), .val (.int (f0_s0_44 p1)), .val (.int (f0_v52 p1)), .val (.int (f0_v115 p1)), .val (.int (f0_l11_185 q2 q3)), .val (.int (f0_l12_203 q2 q3)), .val (.int (f1 q2 q3 (2 : Int32))), .val (.int (f1 q2 q3 (3 : Int32))), .val (.int (f1 q2 q3 (4 : Int32))), .val (.int (f1 q2 q3 (5 : Int32))), .val (.int (f1 q2 q3 (6 : Int32))), .val (.ref b11), .val (.int (f0_v234 p1)), .unset] [(.int (f0_s0_30 p1)), (.int (f0_s0_251 p1)), (.int (f0_v234 p1)), (.ref b11)])) rfl (by rw [hml]; rfl) (argsL := [(.ref b11), (.int (f0_v234 p1)), (.int (f0_s0_251 p1)), (.int (f0_s0_30 p1))]) (rest := []) (lenOf pd_2 rfl) rfl (by show 2 * 0 + _ ≤ _; exact Nat.le_of_eq rfl) (hb hby at_253) (fun _ _ => ⟨rfl, rfl, (by decide : 1 + 0 ≤ _), (by decide : 13 + 0 ≤ _)⟩)
  dsimp only [Pt.U, Pt.locs, Pt.cells, Pt.slots] at X17 l17 y17 z17 st17 hQ17
  subst l17 y17 z17
  obtain ⟨rfl, N17q, K17, o17_0⟩ := hQ17
  have N17 := Fr.app N14 N17q
  have c18 : n0 ≤ T17.heap.size := Nat.le_trans c15 K17.1
  have c19 : IAr Z T17.heap b11 .byte ((f0_v115 p1) + (f0_v52 p1)) (f2_o0 (f0_v234 p1) (f0_s0_251 p1) (f0_s0_30 p1) ((f0_v115 p1) + (f0_v52 p1)) (f2_o0 (0 : Int32) (f0_s0_229 p1) (f0_s0_16 p1) ((f0_v115 p1) + (f0_v52 p1)) (fun _ => 0))) := o17_0
  have pre49 : ∀ t, Steps p.tables e below (T17.setTop (mkF m 265 #[.val (.int p1), .val (.long q2), .second, .val (.long q3), .second, .val (.int (p1 &&& (3 : Int32))), .val (.int (f0_s0_16 p1)), .val (.int (f0_s0_30 p1)), .val (.int (f0_s0_44 p1)), .val (.int (f0_v52 p1)), .val (.int (f0_v115 p1)), .val (.int (f0_l11_185 q2 q3)), .val (.int (f0_l12_203 q2 q3)), .val (.int (f1 q2 q3 (2 : Int32))), .val (.int (f1 q2 q3 (3 : Int32))), .val (.int (f1 q2 q3 (4 : Int32))), .val (.int (f1 q2 q3 (5 : Int32))), .val (.int (f1 q2 q3 (6 : Int32))), .val (.ref b11), .val (.int (f0_v256 p1)), .unset] [(.int (2 : Int32)), (.int (p1 &&& (3 : Int32))), (.int (f0_v256 p1)), (.ref b11)])) t → Steps p.tables e below (s₁.setTop (entryFrame m #[(.int p1), (.long q2), (.long q3)] maxLocals)) t := by
    intro t k
    refine pre46 t ?_
    show Steps p.tables e below (T14.setTop (mkF m 251 #[.val (.int p1), .val (.long q2), .second, .val (.long q3), .second, .val (.int (p1 &&& (3 : Int32))), .val (.int (f0_s0_16 p1)), .val (.int (f0_s0_30 p1)), .val (.int (f0_s0_44 p1)), .val (.int (f0_v52 p1)), .val (.int (f0_v115 p1)), .val (.int (f0_l11_185 q2 q3)), .val (.int (f0_l12_203 q2 q3)), .val (.int (f1 q2 q3 (2 : Int32))), .val (.int (f1 q2 q3 (3 : Int32))), .val (.int (f1 q2 q3 (4 : Int32))), .val (.int (f1 q2 q3 (5 : Int32))), .val (.int (f1 q2 q3 (6 : Int32))), .val (.ref b11), .val (.int (f0_v234 p1)), .unset] [(.int (f0_s0_251 p1)), (.int (f0_v234 p1)), (.ref b11)])) _
    refine XS.iload X14.here hx rfl (hb hby at_251) rfl ?_
    show Steps p.tables e below (T14.setTop (mkF m 253 #[.val (.int p1), .val (.long q2), .second, .val (.long q3), .second, .val (.int (p1 &&& (3 : Int32))), .val (.int (f0_s0_16 p1)), .val (.int (f0_s0_30 p1)), .val (.int (f0_s0_44 p1)), .val (.int (f0_v52 p1)), .val (.int (f0_v115 p1)), .val (.int (f0_l11_185 q2 q3)), .val (.int (f0_l12_203 q2 q3)), .val (.int (f1 q2 q3 (2 : Int32))), .val (.int (f1 q2 q3 (3 : Int32))), .val (.int (f1 q2 q3 (4 : Int32))), .val (.int (f1 q2 q3 (5 : Int32))), .val (.int (f1 q2 q3 (6 : Int32))), .val (.ref b11), .val (.int (f0_v234 p1)), .unset] [(.int (f0_s0_30 p1)), (.int (f0_s0_251 p1)), (.int (f0_v234 p1)), (.ref b11)])) _
    refine st17 _ ?_
    show Steps p.tables e below (T17.setTop (mkF m 256 #[.val (.int p1), .val (.long q2), .second, .val (.long q3), .second, .val (.int (p1 &&& (3 : Int32))), .val (.int (f0_s0_16 p1)), .val (.int (f0_s0_30 p1)), .val (.int (f0_s0_44 p1)), .val (.int (f0_v52 p1)), .val (.int (f0_v115 p1)), .val (.int (f0_l11_185 q2 q3)), .val (.int (f0_l12_203 q2 q3)), .val (.int (f1 q2 q3 (2 : Int32))), .val (.int (f1 q2 q3 (3 : Int32))), .val (.int (f1 q2 q3 (4 : Int32))), .val (.int (f1 q2 q3 (5 : Int32))), .val (.int (f1 q2 q3 (6 : Int32))), .val (.ref b11), .val (.int (f0_v234 p1)), .unset] [(.int (f2 (f0_v234 p1) (f0_s0_251 p1) (f0_s0_30 p1) ((f0_v115 p1) + (f0_v52 p1)) (f2_o0 (0 : Int32) (f0_s0_229 p1) (f0_s0_16 p1) ((f0_v115 p1) + (f0_v52 p1)) (fun _ => 0))))])) _
    refine XS.istore X17.here hx rfl (hb hby at_256) rfl (l' := #[.val (.int p1), .val (.long q2), .second, .val (.long q3), .second, .val (.int (p1 &&& (3 : Int32))), .val (.int (f0_s0_16 p1)), .val (.int (f0_s0_30 p1)), .val (.int (f0_s0_44 p1)), .val (.int (f0_v52 p1)), .val (.int (f0_v115 p1)), .val (.int (f0_l11_185 q2 q3)), .val (.int (f0_l12_203 q2 q3)), .val (.int (f1 q2 q3 (2 : Int32))), .val (.int (f1 q2 q3 (3 : Int32))), .val (.int (f1 q2 q3 (4 : Int32))), .val (.int (f1 q2 q3 (5 : Int32))), .val (.int (f1 q2 q3 (6 : Int32))), .val (.ref b11), .val (.int (f0_v256 p1)), .unset]) rfl ?_
    show Steps p.tables e below (T17.setTop (mkF m 258 #[.val (.int p1), .val (.long q2), .second, .val (.long q3), .second, .val (.int (p1 &&& (3 : Int32))), .val (.int (f0_s0_16 p1)), .val (.int (f0_s0_30 p1)), .val (.int (f0_s0_44 p1)), .val (.int (f0_v52 p1)), .val (.int (f0_v115 p1)), .val (.int (f0_l11_185 q2 q3)), .val (.int (f0_l12_203 q2 q3)), .val (.int (f1 q2 q3 (2 : Int32))), .val (.int (f1 q2 q3 (3 : Int32))), .val (.int (f1 q2 q3 (4 : Int32))), .val (.int (f1 q2 q3 (5 : Int32))), .val (.int (f1 q2 q3 (6 : Int32))), .val (.ref b11), .val (.int (f0_v256 p1)), .unset] [])) _
    refine XS.aload X17.here hx rfl (hb hby at_258) rfl rfl ?_
    show Steps p.tables e below (T17.setTop (mkF m 260 #[.val (.int p1), .val (.long q2), .second, .val (.long q3), .second, .val (.int (p1 &&& (3 : Int32))), .val (.int (f0_s0_16 p1)), .val (.int (f0_s0_30 p1)), .val (.int (f0_s0_44 p1)), .val (.int (f0_v52 p1)), .val (.int (f0_v115 p1)), .val (.int (f0_l11_185 q2 q3)), .val (.int (f0_l12_203 q2 q3)), .val (.int (f1 q2 q3 (2 : Int32))), .val (.int (f1 q2 q3 (3 : Int32))), .val (.int (f1 q2 q3 (4 : Int32))), .val (.int (f1 q2 q3 (5 : Int32))), .val (.int (f1 q2 q3 (6 : Int32))), .val (.ref b11), .val (.int (f0_v256 p1)), .unset] [(.ref b11)])) _
    refine XS.iload X17.here hx rfl (hb hby at_260) rfl ?_
    show Steps p.tables e below (T17.setTop (mkF m 262 #[.val (.int p1), .val (.long q2), .second, .val (.long q3), .second, .val (.int (p1 &&& (3 : Int32))), .val (.int (f0_s0_16 p1)), .val (.int (f0_s0_30 p1)), .val (.int (f0_s0_44 p1)), .val (.int (f0_v52 p1)), .val (.int (f0_v115 p1)), .val (.int (f0_l11_185 q2 q3)), .val (.int (f0_l12_203 q2 q3)), .val (.int (f1 q2 q3 (2 : Int32))), .val (.int (f1 q2 q3 (3 : Int32))), .val (.int (f1 q2 q3 (4 : Int32))), .val (.int (f1 q2 q3 (5 : Int32))), .val (.int (f1 q2 q3 (6 : Int32))), .val (.ref b11), .val (.int (f0_v256 p1)), .unset] [(.int (f0_v256 p1)), (.ref b11)])) _
    refine XS.iload X17.here hx rfl (hb hby at_262) rfl ?_
    show Steps p.tables e below (T17.setTop (mkF m 264 #[.val (.int p1), .val (.long q2), .second, .val (.long q3), .second, .val (.int (p1 &&& (3 : Int32))), .val (.int (f0_s0_16 p1)), .val (.int (f0_s0_30 p1)), .val (.int (f0_s0_44 p1)), .val (.int (f0_v52 p1)), .val (.int (f0_v115 p1)), .val (.int (f0_l11_185 q2 q3)), .val (.int (f0_l12_203 q2 q3)), .val (.int (f1 q2 q3 (2 : Int32))), .val (.int (f1 q2 q3 (3 : Int32))), .val (.int (f1 q2 q3 (4 : Int32))), .val (.int (f1 q2 q3 (5 : Int32))), .val (.int (f1 q2 q3 (6 : Int32))), .val (.ref b11), .val (.int (f0_v256 p1)), .unset] [(.int (p1 &&& (3 : Int32))), (.int (f0_v256 p1)), (.ref b11)])) _
    refine XS.iconst X17.here hx rfl (hb hby at_264) ?_
    exact k
  have pre50 : ∀ t, Steps p.tables e below (T17.setTop (mkF m 273 #[.val (.int p1), .val (.long q2), .second, .val (.long q3), .second, .val (.int (p1 &&& (3 : Int32))), .val (.int (f0_s0_16 p1)), .val (.int (f0_s0_30 p1)), .val (.int (f0_s0_44 p1)), .val (.int (f0_v52 p1)), .val (.int (f0_v115 p1)), .val (.int (f0_l11_185 q2 q3)), .val (.int (f0_l12_203 q2 q3)), .val (.int (f1 q2 q3 (2 : Int32))), .val (.int (f1 q2 q3 (3 : Int32))), .val (.int (f1 q2 q3 (4 : Int32))), .val (.int (f1 q2 q3 (5 : Int32))), .val (.int (f1 q2 q3 (6 : Int32))), .val (.ref b11), .val (.int (f0_v256 p1)), .unset] [(.int (f0_s0_273 p1)), (.int (f0_v256 p1)), (.ref b11)])) t → Steps p.tables e below (s₁.setTop (entryFrame m #[(.int p1), (.long q2), (.long q3)] maxLocals)) t := by
    intro t k
    by_cases hc265 : (2 : Int32) < (p1 &&& (3 : Int32))
    · have eq51 := (show (f0_s0_273 p1) = (1 : Int32) from by unfold f0_s0_273; simp only [if_pos hc265])
      try rw [eq51] at k
      refine pre49 t ?_
      show Steps p.tables e below (T17.setTop (mkF m 265 #[.val (.int p1), .val (.long q2), .second, .val (.long q3), .second, .val (.int (p1 &&& (3 : Int32))), .val (.int (f0_s0_16 p1)), .val (.int (f0_s0_30 p1)), .val (.int (f0_s0_44 p1)), .val (.int (f0_v52 p1)), .val (.int (f0_v115 p1)), .val (.int (f0_l11_185 q2 q3)), .val (.int (f0_l12_203 q2 q3)), .val (.int (f1 q2 q3 (2 : Int32))), .val (.int (f1 q2 q3 (3 : Int32))), .val (.int (f1 q2 q3 (4 : Int32))), .val (.int (f1 q2 q3 (5 : Int32))), .val (.int (f1 q2 q3 (6 : Int32))), .val (.ref b11), .val (.int (f0_v256 p1)), .unset] [(.int (2 : Int32)), (.int (p1 &&& (3 : Int32))), (.int (f0_v256 p1)), (.ref b11)])) _
      refine XS.icmpNo X17.here hx rfl (hb hby at_265) rfl (tlt hc265).2.2.2 ?_
      show Steps p.tables e below (T17.setTop (mkF m 268 #[.val (.int p1), .val (.long q2), .second, .val (.long q3), .second, .val (.int (p1 &&& (3 : Int32))), .val (.int (f0_s0_16 p1)), .val (.int (f0_s0_30 p1)), .val (.int (f0_s0_44 p1)), .val (.int (f0_v52 p1)), .val (.int (f0_v115 p1)), .val (.int (f0_l11_185 q2 q3)), .val (.int (f0_l12_203 q2 q3)), .val (.int (f1 q2 q3 (2 : Int32))), .val (.int (f1 q2 q3 (3 : Int32))), .val (.int (f1 q2 q3 (4 : Int32))), .val (.int (f1 q2 q3 (5 : Int32))), .val (.int (f1 q2 q3 (6 : Int32))), .val (.ref b11), .val (.int (f0_v256 p1)), .unset] [(.int (f0_v256 p1)), (.ref b11)])) _
      refine XS.iconst X17.here hx rfl (hb hby at_268) ?_
      show Steps p.tables e below (T17.setTop (mkF m 269 #[.val (.int p1), .val (.long q2), .second, .val (.long q3), .second, .val (.int (p1 &&& (3 : Int32))), .val (.int (f0_s0_16 p1)), .val (.int (f0_s0_30 p1)), .val (.int (f0_s0_44 p1)), .val (.int (f0_v52 p1)), .val (.int (f0_v115 p1)), .val (.int (f0_l11_185 q2 q3)), .val (.int (f0_l12_203 q2 q3)), .val (.int (f1 q2 q3 (2 : Int32))), .val (.int (f1 q2 q3 (3 : Int32))), .val (.int (f1 q2 q3 (4 : Int32))), .val (.int (f1 q2 q3 (5 : Int32))), .val (.int (f1 q2 q3 (6 : Int32))), .val (.ref b11), .val (.int (f0_v256 p1)), .unset] [(.int (1 : Int32)), (.int (f0_v256 p1)), (.ref b11)])) _
      refine XS.goto X17.here hx rfl (pc0 := 269) (pc' := 273) rfl (hb hby at_269) (by decide) (by decide) ?_
      exact k
    · have eq52 := (show (f0_s0_273 p1) = (0 : Int32) from by unfold f0_s0_273; simp only [if_neg hc265])
      try rw [eq52] at k
      refine pre49 t ?_
      show Steps p.tables e below (T17.setTop (mkF m 265 #[.val (.int p1), .val (.long q2), .second, .val (.long q3), .second, .val (.int (p1 &&& (3 : Int32))), .val (.int (f0_s0_16 p1)), .val (.int (f0_s0_30 p1)), .val (.int (f0_s0_44 p1)), .val (.int (f0_v52 p1)), .val (.int (f0_v115 p1)), .val (.int (f0_l11_185 q2 q3)), .val (.int (f0_l12_203 q2 q3)), .val (.int (f1 q2 q3 (2 : Int32))), .val (.int (f1 q2 q3 (3 : Int32))), .val (.int (f1 q2 q3 (4 : Int32))), .val (.int (f1 q2 q3 (5 : Int32))), .val (.int (f1 q2 q3 (6 : Int32))), .val (.ref b11), .val (.int (f0_v256 p1)), .unset] [(.int (2 : Int32)), (.int (p1 &&& (3 : Int32))), (.int (f0_v256 p1)), (.ref b11)])) _
      refine XS.icmpYes X17.here hx rfl (pc0 := 265) (pc' := 272) rfl (hb hby at_265) rfl (flt hc265).2.2.2 (by decide) (by decide) ?_
      show Steps p.tables e below (T17.setTop (mkF m 272 #[.val (.int p1), .val (.long q2), .second, .val (.long q3), .second, .val (.int (p1 &&& (3 : Int32))), .val (.int (f0_s0_16 p1)), .val (.int (f0_s0_30 p1)), .val (.int (f0_s0_44 p1)), .val (.int (f0_v52 p1)), .val (.int (f0_v115 p1)), .val (.int (f0_l11_185 q2 q3)), .val (.int (f0_l12_203 q2 q3)), .val (.int (f1 q2 q3 (2 : Int32))), .val (.int (f1 q2 q3 (3 : Int32))), .val (.int (f1 q2 q3 (4 : Int32))), .val (.int (f1 q2 q3 (5 : Int32))), .val (.int (f1 q2 q3 (6 : Int32))), .val (.ref b11), .val (.int (f0_v256 p1)), .unset] [(.int (f0_v256 p1)), (.ref b11)])) _
      refine XS.iconst X17.here hx rfl (hb hby at_272) ?_
      exact k
  obtain ⟨_, _, ⟨T20, L20, k20, n20⟩, -, X20, ⟨Lc20, hQ20, l20, y20, z20⟩, st20⟩ := Jvm.LawKit.callS X17 hx (y := (⟨"com/example/titlepoint/titlepoint/Iso2709ReaderBeginsWithRecordLengthPinLaw", "putLineEnd", "([BIZZ)I"⟩ : MethodName)) hown (mvT hZ (hw _ (List.mem_of_getElem? (i := 7) rfl))) (mvT hZ (hw _ (List.mem_of_getElem? (i := 8) rfl))) (mvT hZ (hw _ (List.mem_of_getElem? (i := 2) rfl))) (mvT hZ (hw _ (List.mem_of_getElem? (i := 9) rfl))) (by decide) (backOf (W := 0) (rm2 l Z a0 hw [] b11 (f0_v256 p1) (f0_s0_273 p1) (f0_s0_44 p1) ((f0_v115 p1) + (f0_v52 p1)) (f2_o0 (f0_v234 p1) (f0_s0_251 p1) (f0_s0_30 p1) ((f0_v115 p1) + (f0_v52 p1)) (f2_o0 (0 : Int32) (f0_s0_229 p1) (f0_s0_16 p1) ((f0_v115 p1) + (f0_v52 p1)) (fun _ => 0))) T17.heap n0 c18 c19 g_b11 (own_q3 p1).1 (own_q3 p1).2) hZ (hw _ (List.mem_of_getElem? (i := 9) rfl)) (hw _ (List.mem_of_getElem? (i := 2) rfl)) (by decide) (by decide)) (g := (mkF m 275 #[.val (.int p1), .val (.long q2), .second, .val (.long q3), .second, .val (.int (p1 &&& (3 : Int32))), .val (.int (f0_s0_16 p1)), .val (.int (f0_s0_30 p1)), .val (.int (f0_s0_44 p1)), .val (.int (f0_v52 p1)), .val (.int (f0_v115 p1)), .val (.int (f0_l11_185 q2 q3)), .val (.int (f0_l12_203 q2 q3)), .val (.int (f1 q2 q3 (2 : Int32))), .val (.int (f1 q2 q3 (3 : Int32))), .val (.int (f1 q2 q3 (4 : Int32))), .val (.int (f1 q2 q3 (5 : Int32))), .val (.int (f1 q2 q3 (6 : Int32))), .val (.ref b11), .val (.int (f0_v256 p1)), .unset] [(.int (f0_s0_44 p1)), (.int (f0_s0_273 p1)), (.int (f0_v256 p1)), (.ref b11)])) rfl (by rw [hml]; rfl) (argsL := [(.ref b11), (.int (f0_v256 p1)), (.int (f0_s0_273 p1)), (.int (f0_s0_44 p1))]) (rest := []) (lenOf pd_2 rfl) rfl (by show 2 * 0 + _ ≤ _; exact Nat.le_of_eq rfl) (hb hby at_275) (fun _ _ => ⟨rfl, rfl, (by decide : 1 + 0 ≤ _), (by decide : 13 + 0 ≤ _)⟩)
  dsimp only [Pt.U, Pt.locs, Pt.cells, Pt.slots] at X20 l20 y20 z20 st20 hQ20
  subst l20 y20 z20
  obtain ⟨rfl, N20q, K20, o20_0⟩ := hQ20
  have N20 := Fr.app N17 N20q
  have c21 : n0 ≤ T20.heap.size := Nat.le_trans c18 K20.1
  have c22 : IAr Z T20.heap b11 .byte ((f0_v115 p1) + (f0_v52 p1)) (f2_o0 (f0_v256 p1) (f0_s0_273 p1) (f0_s0_44 p1) ((f0_v115 p1) + (f0_v52 p1)) (f2_o0 (f0_v234 p1) (f0_s0_251 p1) (f0_s0_30 p1) ((f0_v115 p1) + (f0_v52 p1)) (f2_o0 (0 : Int32) (f0_s0_229 p1) (f0_s0_16 p1) ((f0_v115 p1) + (f0_v52 p1)) (fun _ => 0)))) := o20_0
  obtain ⟨_, _, ⟨T23, L23, k23, n23⟩, -, X23, ⟨Lc23, hQ23, l23, y23, z23⟩, st23⟩ := Jvm.LawKit.callS X20 hx (y := (⟨"com/example/titlepoint/titlepoint/Iso2709ReaderBeginsWithRecordLengthPinLaw", "put", "([BIB)V"⟩ : MethodName)) hown (mvT hZ (hw _ (List.mem_of_getElem? (i := 10) rfl))) (mvT hZ (hw _ (List.mem_of_getElem? (i := 11) rfl))) (mvT hZ (hw _ (List.mem_of_getElem? (i := 2) rfl))) (mvT hZ (hw _ (List.mem_of_getElem? (i := 12) rfl))) (by decide) (backOf (W := 0) (rm3 l Z a0 hw [] b11 (f0_v278 p1) (f0_l11_185 q2 q3) ((f0_v115 p1) + (f0_v52 p1)) (f2_o0 (f0_v256 p1) (f0_s0_273 p1) (f0_s0_44 p1) ((f0_v115 p1) + (f0_v52 p1)) (f2_o0 (f0_v234 p1) (f0_s0_251 p1) (f0_s0_30 p1) ((f0_v115 p1) + (f0_v52 p1)) (f2_o0 (0 : Int32) (f0_s0_229 p1) (f0_s0_16 p1) ((f0_v115 p1) + (f0_v52 p1)) (fun _ => 0)))) T20.heap n0 c21 c22 g_b11 (own_put0 p1)) hZ (hw _ (List.mem_of_getElem? (i := 12) rfl)) (hw _ (List.mem_of_getElem? (i := 2) rfl)) (by decide) (by decide)) (g := (mkF m 286 #[.val (.int p1), .val (.long q2), .second, .val (.long q3), .second, .val (.int (p1 &&& (3 : Int32))), .val (.int (f0_s0_16 p1)), .val (.int (f0_s0_30 p1)), .val (.int (f0_s0_44 p1)), .val (.int (f0_v52 p1)), .val (.int (f0_v115 p1)), .val (.int (f0_l11_185 q2 q3)), .val (.int (f0_l12_203 q2 q3)), .val (.int (f1 q2 q3 (2 : Int32))), .val (.int (f1 q2 q3 (3 : Int32))), .val (.int (f1 q2 q3 (4 : Int32))), .val (.int (f1 q2 q3 (5 : Int32))), .val (.int (f1 q2 q3 (6 : Int32))), .val (.ref b11), .val (.int (f0_v278 p1)), .unset] [(.int (f0_l11_185 q2 q3)), (.int (f0_v278 p1)), (.ref b11)])) rfl (by rw [hml]; rfl) (argsL := [(.ref b11), (.int (f0_v278 p1)), (.int (f0_l11_185 q2 q3))]) (rest := []) (lenOf pd_3 rfl) rfl (by show 2 * 0 + _ ≤ _; exact Nat.le_of_eq rfl) (hb hby at_286) (fun _ _ => ⟨rfl, rfl, (by decide : 1 + 0 ≤ _), (by decide : 13 + 0 ≤ _)⟩)
  dsimp only [Pt.U, Pt.locs, Pt.cells, Pt.slots] at X23 l23 y23 z23 st23 hQ23
  subst l23 y23 z23
  obtain ⟨rfl, N23q, K23, o23_0⟩ := hQ23
  have N23 := Fr.app N20 N23q
  have c24 : n0 ≤ T23.heap.size := Nat.le_trans c21 K23.1
  have c25 : IAr Z T23.heap b11 .byte ((f0_v115 p1) + (f0_v52 p1)) (f3_o0 (f0_v278 p1) (f0_l11_185 q2 q3) ((f0_v115 p1) + (f0_v52 p1)) (f2_o0 (f0_v256 p1) (f0_s0_273 p1) (f0_s0_44 p1) ((f0_v115 p1) + (f0_v52 p1)) (f2_o0 (f0_v234 p1) (f0_s0_251 p1) (f0_s0_30 p1) ((f0_v115 p1) + (f0_v52 p1)) (f2_o0 (0 : Int32) (f0_s0_229 p1) (f0_s0_16 p1) ((f0_v115 p1) + (f0_v52 p1)) (fun _ => 0))))) := o23_0
  obtain ⟨_, _, ⟨T26, L26, k26, n26⟩, -, X26, ⟨Lc26, hQ26, l26, y26, z26⟩, st26⟩ := Jvm.LawKit.callS X23 hx (y := (⟨"com/example/titlepoint/titlepoint/Iso2709ReaderBeginsWithRecordLengthPinLaw", "put", "([BIB)V"⟩ : MethodName)) hown (mvT hZ (hw _ (List.mem_of_getElem? (i := 10) rfl))) (mvT hZ (hw _ (List.mem_of_getElem? (i := 11) rfl))) (mvT hZ (hw _ (List.mem_of_getElem? (i := 2) rfl))) (mvT hZ (hw _ (List.mem_of_getElem? (i := 12) rfl))) (by decide) (backOf (W := 0) (rm3 l Z a0 hw [] b11 ((f0_v278 p1) + (1 : Int32)) (f0_l12_203 q2 q3) ((f0_v115 p1) + (f0_v52 p1)) (f3_o0 (f0_v278 p1) (f0_l11_185 q2 q3) ((f0_v115 p1) + (f0_v52 p1)) (f2_o0 (f0_v256 p1) (f0_s0_273 p1) (f0_s0_44 p1) ((f0_v115 p1) + (f0_v52 p1)) (f2_o0 (f0_v234 p1) (f0_s0_251 p1) (f0_s0_30 p1) ((f0_v115 p1) + (f0_v52 p1)) (f2_o0 (0 : Int32) (f0_s0_229 p1) (f0_s0_16 p1) ((f0_v115 p1) + (f0_v52 p1)) (fun _ => 0))))) T23.heap n0 c24 c25 g_b11 (own_put p1 1 (by decide))) hZ (hw _ (List.mem_of_getElem? (i := 12) rfl)) (hw _ (List.mem_of_getElem? (i := 2) rfl)) (by decide) (by decide)) (g := (mkF m 297 #[.val (.int p1), .val (.long q2), .second, .val (.long q3), .second, .val (.int (p1 &&& (3 : Int32))), .val (.int (f0_s0_16 p1)), .val (.int (f0_s0_30 p1)), .val (.int (f0_s0_44 p1)), .val (.int (f0_v52 p1)), .val (.int (f0_v115 p1)), .val (.int (f0_l11_185 q2 q3)), .val (.int (f0_l12_203 q2 q3)), .val (.int (f1 q2 q3 (2 : Int32))), .val (.int (f1 q2 q3 (3 : Int32))), .val (.int (f1 q2 q3 (4 : Int32))), .val (.int (f1 q2 q3 (5 : Int32))), .val (.int (f1 q2 q3 (6 : Int32))), .val (.ref b11), .val (.int (f0_v278 p1)), .unset] [(.int (f0_l12_203 q2 q3)), (.int ((f0_v278 p1) + (1 : Int32))), (.ref b11)])) rfl (by rw [hml]; rfl) (argsL := [(.ref b11), (.int ((f0_v278 p1) + (1 : Int32))), (.int (f0_l12_203 q2 q3))]) (rest := []) (lenOf pd_3 rfl) rfl (by show 2 * 0 + _ ≤ _; exact Nat.le_of_eq rfl) (hb hby at_297) (fun _ _ => ⟨rfl, rfl, (by decide : 1 + 0 ≤ _), (by decide : 13 + 0 ≤ _)⟩)
  dsimp only [Pt.U, Pt.locs, Pt.cells, Pt.slots] at X26 l26 y26 z26 st26 hQ26
  subst l26 y26 z26
  obtain ⟨rfl, N26q, K26, o26_0⟩ := hQ26
  have N26 := Fr.app N23 N26q
  have c27 : n0 ≤ T26.heap.size := Nat.le_trans c24 K26.1
  have c28 : IAr Z T26.heap b11 .byte ((f0_v115 p1) + (f0_v52 p1)) (f3_o0 ((f0_v278 p1) + (1 : Int32)) (f0_l12_203 q2 q3) ((f0_v115 p1) + (f0_v52 p1)) (f3_o0 (f0_v278 p1) (f0_l11_185 q2 q3) ((f0_v115 p1) + (f0_v52 p1)) (f2_o0 (f0_v256 p1) (f0_s0_273 p1) (f0_s0_44 p1) ((f0_v115 p1) + (f0_v52 p1)) (f2_o0 (f0_v234 p1) (f0_s0_251 p1) (f0_s0_30 p1) ((f0_v115 p1) + (f0_v52 p1)) (f2_o0 (0 : Int32) (f0_s0_229 p1) (f0_s0_16 p1) ((f0_v115 p1) + (f0_v52 p1)) (fun _ => 0)))))) := o26_0
  obtain ⟨_, _, ⟨T29, L29, k29, n29⟩, -, X29, ⟨Lc29, hQ29, l29, y29, z29⟩, st29⟩ := Jvm.LawKit.callS X26 hx (y := (⟨"com/example/titlepoint/titlepoint/Iso2709ReaderBeginsWithRecordLengthPinLaw", "put", "([BIB)V"⟩ : MethodName)) hown (mvT hZ (hw _ (List.mem_of_getElem? (i := 10) rfl))) (mvT hZ (hw _ (List.mem_of_getElem? (i := 11) rfl))) (mvT hZ (hw _ (List.mem_of_getElem? (i := 2) rfl))) (mvT hZ (hw _ (List.mem_of_getElem? (i := 12) rfl))) (by decide) (backOf (W := 0) (rm3 l Z a0 hw [] b11 ((f0_v278 p1) + (2 : Int32)) (f1 q2 q3 (2 : Int32)) ((f0_v115 p1) + (f0_v52 p1)) (f3_o0 ((f0_v278 p1) + (1 : Int32)) (f0_l12_203 q2 q3) ((f0_v115 p1) + (f0_v52 p1)) (f3_o0 (f0_v278 p1) (f0_l11_185 q2 q3) ((f0_v115 p1) + (f0_v52 p1)) (f2_o0 (f0_v256 p1) (f0_s0_273 p1) (f0_s0_44 p1) ((f0_v115 p1) + (f0_v52 p1)) (f2_o0 (f0_v234 p1) (f0_s0_251 p1) (f0_s0_30 p1) ((f0_v115 p1) + (f0_v52 p1)) (f2_o0 (0 : Int32) (f0_s0_229 p1) (f0_s0_16 p1) ((f0_v115 p1) + (f0_v52 p1)) (fun _ => 0)))))) T26.heap n0 c27 c28 g_b11 (own_put p1 2 (by decide))) hZ (hw _ (List.mem_of_getElem? (i := 12) rfl)) (hw _ (List.mem_of_getElem? (i := 2) rfl)) (by decide) (by decide)) (g := (mkF m 308 #[.val (.int p1), .val (.long q2), .second, .val (.long q3), .second, .val (.int (p1 &&& (3 : Int32))), .val (.int (f0_s0_16 p1)), .val (.int (f0_s0_30 p1)), .val (.int (f0_s0_44 p1)), .val (.int (f0_v52 p1)), .val (.int (f0_v115 p1)), .val (.int (f0_l11_185 q2 q3)), .val (.int (f0_l12_203 q2 q3)), .val (.int (f1 q2 q3 (2 : Int32))), .val (.int (f1 q2 q3 (3 : Int32))), .val (.int (f1 q2 q3 (4 : Int32))), .val (.int (f1 q2 q3 (5 : Int32))), .val (.int (f1 q2 q3 (6 : Int32))), .val (.ref b11), .val (.int (f0_v278 p1)), .unset] [(.int (f1 q2 q3 (2 : Int32))), (.int ((f0_v278 p1) + (2 : Int32))), (.ref b11)])) rfl (by rw [hml]; rfl) (argsL := [(.ref b11), (.int ((f0_v278 p1) + (2 : Int32))), (.int (f1 q2 q3 (2 : Int32)))]) (rest := []) (lenOf pd_3 rfl) rfl (by show 2 * 0 + _ ≤ _; exact Nat.le_of_eq rfl) (hb hby at_308) (fun _ _ => ⟨rfl, rfl, (by decide : 1 + 0 ≤ _), (by decide : 13 + 0 ≤ _)⟩)
  dsimp only [Pt.U, Pt.locs, Pt.cells, Pt.slots] at X29 l29 y29 z29 st29 hQ29
  subst l29 y29 z29
  obtain ⟨rfl, N29q, K29, o29_0⟩ := hQ29
  have N29 := Fr.app N26 N29q
  have c30 : n0 ≤ T29.heap.size := Nat.le_trans c27 K29.1
  have c31 : IAr Z T29.heap b11 .byte ((f0_v115 p1) + (f0_v52 p1)) (f3_o0 ((f0_v278 p1) + (2 : Int32)) (f1 q2 q3 (2 : Int32)) ((f0_v115 p1) + (f0_v52 p1)) (f3_o0 ((f0_v278 p1) + (1 : Int32)) (f0_l12_203 q2 q3) ((f0_v115 p1) + (f0_v52 p1)) (f3_o0 (f0_v278 p1) (f0_l11_185 q2 q3) ((f0_v115 p1) + (f0_v52 p1)) (f2_o0 (f0_v256 p1) (f0_s0_273 p1) (f0_s0_44 p1) ((f0_v115 p1) + (f0_v52 p1)) (f2_o0 (f0_v234 p1) (f0_s0_251 p1) (f0_s0_30 p1) ((f0_v115 p1) + (f0_v52 p1)) (f2_o0 (0 : Int32) (f0_s0_229 p1) (f0_s0_16 p1) ((f0_v115 p1) + (f0_v52 p1)) (fun _ => 0))))))) := o29_0
  obtain ⟨_, _, ⟨T32, L32, k32, n32⟩, -, X32, ⟨Lc32, hQ32, l32, y32, z32⟩, st32⟩ := Jvm.LawKit.callS X29 hx (y := (⟨"com/example/titlepoint/titlepoint/Iso2709ReaderBeginsWithRecordLengthPinLaw", "put", "([BIB)V"⟩ : MethodName)) hown (mvT hZ (hw _ (List.mem_of_getElem? (i := 10) rfl))) (mvT hZ (hw _ (List.mem_of_getElem? (i := 11) rfl))) (mvT hZ (hw _ (List.mem_of_getElem? (i := 2) rfl))) (mvT hZ (hw _ (List.mem_of_getElem? (i := 12) rfl))) (by decide) (backOf (W := 0) (rm3 l Z a0 hw [] b11 ((f0_v278 p1) + (3 : Int32)) (f1 q2 q3 (3 : Int32)) ((f0_v115 p1) + (f0_v52 p1)) (f3_o0 ((f0_v278 p1) + (2 : Int32)) (f1 q2 q3 (2 : Int32)) ((f0_v115 p1) + (f0_v52 p1)) (f3_o0 ((f0_v278 p1) + (1 : Int32)) (f0_l12_203 q2 q3) ((f0_v115 p1) + (f0_v52 p1)) (f3_o0 (f0_v278 p1) (f0_l11_185 q2 q3) ((f0_v115 p1) + (f0_v52 p1)) (f2_o0 (f0_v256 p1) (f0_s0_273 p1) (f0_s0_44 p1) ((f0_v115 p1) + (f0_v52 p1)) (f2_o0 (f0_v234 p1) (f0_s0_251 p1) (f0_s0_30 p1) ((f0_v115 p1) + (f0_v52 p1)) (f2_o0 (0 : Int32) (f0_s0_229 p1) (f0_s0_16 p1) ((f0_v115 p1) + (f0_v52 p1)) (fun _ => 0))))))) T29.heap n0 c30 c31 g_b11 (own_put p1 3 (by decide))) hZ (hw _ (List.mem_of_getElem? (i := 12) rfl)) (hw _ (List.mem_of_getElem? (i := 2) rfl)) (by decide) (by decide)) (g := (mkF m 319 #[.val (.int p1), .val (.long q2), .second, .val (.long q3), .second, .val (.int (p1 &&& (3 : Int32))), .val (.int (f0_s0_16 p1)), .val (.int (f0_s0_30 p1)), .val (.int (f0_s0_44 p1)), .val (.int (f0_v52 p1)), .val (.int (f0_v115 p1)), .val (.int (f0_l11_185 q2 q3)), .val (.int (f0_l12_203 q2 q3)), .val (.int (f1 q2 q3 (2 : Int32))), .val (.int (f1 q2 q3 (3 : Int32))), .val (.int (f1 q2 q3 (4 : Int32))), .val (.int (f1 q2 q3 (5 : Int32))), .val (.int (f1 q2 q3 (6 : Int32))), .val (.ref b11), .val (.int (f0_v278 p1)), .unset] [(.int (f1 q2 q3 (3 : Int32))), (.int ((f0_v278 p1) + (3 : Int32))), (.ref b11)])) rfl (by rw [hml]; rfl) (argsL := [(.ref b11), (.int ((f0_v278 p1) + (3 : Int32))), (.int (f1 q2 q3 (3 : Int32)))]) (rest := []) (lenOf pd_3 rfl) rfl (by show 2 * 0 + _ ≤ _; exact Nat.le_of_eq rfl) (hb hby at_319) (fun _ _ => ⟨rfl, rfl, (by decide : 1 + 0 ≤ _), (by decide : 13 + 0 ≤ _)⟩)
  dsimp only [Pt.U, Pt.locs, Pt.cells, Pt.slots] at X32 l32 y32 z32 st32 hQ32
  subst l32 y32 z32
  obtain ⟨rfl, N32q, K32, o32_0⟩ := hQ32
  have N32 := Fr.app N29 N32q
  have c33 : n0 ≤ T32.heap.size := Nat.le_trans c30 K32.1
  have c34 : IAr Z T32.heap b11 .byte ((f0_v115 p1) + (f0_v52 p1)) (f3_o0 ((f0_v278 p1) + (3 : Int32)) (f1 q2 q3 (3 : Int32)) ((f0_v115 p1) + (f0_v52 p1)) (f3_o0 ((f0_v278 p1) + (2 : Int32)) (f1 q2 q3 (2 : Int32)) ((f0_v115 p1) + (f0_v52 p1)) (f3_o0 ((f0_v278 p1) + (1 : Int32)) (f0_l12_203 q2 q3) ((f0_v115 p1) + (f0_v52 p1)) (f3_o0 (f0_v278 p1) (f0_l11_185 q2 q3) ((f0_v115 p1) + (f0_v52 p1)) (f2_o0 (f0_v256 p1) (f0_s0_273 p1) (f0_s0_44 p1) ((f0_v115 p1) + (f0_v52 p1)) (f2_o0 (f0_v234 p1) (f0_s0_251 p1) (f0_s0_30 p1) ((f0_v115 p1) + (f0_v52 p1)) (f2_o0 (0 : Int32) (f0_s0_229 p1) (f0_s0_16 p1) ((f0_v115 p1) + (f0_v52 p1)) (fun _ => 0)))))))) := o32_0
  obtain ⟨_, _, ⟨T35, L35, k35, n35⟩, -, X35, ⟨Lc35, hQ35, l35, y35, z35⟩, st35⟩ := Jvm.LawKit.callS X32 hx (y := (⟨"com/example/titlepoint/titlepoint/Iso2709ReaderBeginsWithRecordLengthPinLaw", "put", "([BIB)V"⟩ : MethodName)) hown (mvT hZ (hw _ (List.mem_of_getElem? (i := 10) rfl))) (mvT hZ (hw _ (List.mem_of_getElem? (i := 11) rfl))) (mvT hZ (hw _ (List.mem_of_getElem? (i := 2) rfl))) (mvT hZ (hw _ (List.mem_of_getElem? (i := 12) rfl))) (by decide) (backOf (W := 0) (rm3 l Z a0 hw [] b11 ((f0_v278 p1) + (4 : Int32)) (f1 q2 q3 (4 : Int32)) ((f0_v115 p1) + (f0_v52 p1)) (f3_o0 ((f0_v278 p1) + (3 : Int32)) (f1 q2 q3 (3 : Int32)) ((f0_v115 p1) + (f0_v52 p1)) (f3_o0 ((f0_v278 p1) + (2 : Int32)) (f1 q2 q3 (2 : Int32)) ((f0_v115 p1) + (f0_v52 p1)) (f3_o0 ((f0_v278 p1) + (1 : Int32)) (f0_l12_203 q2 q3) ((f0_v115 p1) + (f0_v52 p1)) (f3_o0 (f0_v278 p1) (f0_l11_185 q2 q3) ((f0_v115 p1) + (f0_v52 p1)) (f2_o0 (f0_v256 p1) (f0_s0_273 p1) (f0_s0_44 p1) ((f0_v115 p1) + (f0_v52 p1)) (f2_o0 (f0_v234 p1) (f0_s0_251 p1) (f0_s0_30 p1) ((f0_v115 p1) + (f0_v52 p1)) (f2_o0 (0 : Int32) (f0_s0_229 p1) (f0_s0_16 p1) ((f0_v115 p1) + (f0_v52 p1)) (fun _ => 0)))))))) T32.heap n0 c33 c34 g_b11 (own_put p1 4 (by decide))) hZ (hw _ (List.mem_of_getElem? (i := 12) rfl)) (hw _ (List.mem_of_getElem? (i := 2) rfl)) (by decide) (by decide)) (g := (mkF m 330 #[.val (.int p1), .val (.long q2), .second, .val (.long q3), .second, .val (.int (p1 &&& (3 : Int32))), .val (.int (f0_s0_16 p1)), .val (.int (f0_s0_30 p1)), .val (.int (f0_s0_44 p1)), .val (.int (f0_v52 p1)), .val (.int (f0_v115 p1)), .val (.int (f0_l11_185 q2 q3)), .val (.int (f0_l12_203 q2 q3)), .val (.int (f1 q2 q3 (2 : Int32))), .val (.int (f1 q2 q3 (3 : Int32))), .val (.int (f1 q2 q3 (4 : Int32))), .val (.int (f1 q2 q3 (5 : Int32))), .val (.int (f1 q2 q3 (6 : Int32))), .val (.ref b11), .val (.int (f0_v278 p1)), .unset] [(.int (f1 q2 q3 (4 : Int32))), (.int ((f0_v278 p1) + (4 : Int32))), (.ref b11)])) rfl (by rw [hml]; rfl) (argsL := [(.ref b11), (.int ((f0_v278 p1) + (4 : Int32))), (.int (f1 q2 q3 (4 : Int32)))]) (rest := []) (lenOf pd_3 rfl) rfl (by show 2 * 0 + _ ≤ _; exact Nat.le_of_eq rfl) (hb hby at_330) (fun _ _ => ⟨rfl, rfl, (by decide : 1 + 0 ≤ _), (by decide : 13 + 0 ≤ _)⟩)
  dsimp only [Pt.U, Pt.locs, Pt.cells, Pt.slots] at X35 l35 y35 z35 st35 hQ35
  subst l35 y35 z35
  obtain ⟨rfl, N35q, K35, o35_0⟩ := hQ35
  have N35 := Fr.app N32 N35q
  have c36 : n0 ≤ T35.heap.size := Nat.le_trans c33 K35.1
  have c37 : IAr Z T35.heap b11 .byte ((f0_v115 p1) + (f0_v52 p1)) (f3_o0 ((f0_v278 p1) + (4 : Int32)) (f1 q2 q3 (4 : Int32)) ((f0_v115 p1) + (f0_v52 p1)) (f3_o0 ((f0_v278 p1) + (3 : Int32)) (f1 q2 q3 (3 : Int32)) ((f0_v115 p1) + (f0_v52 p1)) (f3_o0 ((f0_v278 p1) + (2 : Int32)) (f1 q2 q3 (2 : Int32)) ((f0_v115 p1) + (f0_v52 p1)) (f3_o0 ((f0_v278 p1) + (1 : Int32)) (f0_l12_203 q2 q3) ((f0_v115 p1) + (f0_v52 p1)) (f3_o0 (f0_v278 p1) (f0_l11_185 q2 q3) ((f0_v115 p1) + (f0_v52 p1)) (f2_o0 (f0_v256 p1) (f0_s0_273 p1) (f0_s0_44 p1) ((f0_v115 p1) + (f0_v52 p1)) (f2_o0 (f0_v234 p1) (f0_s0_251 p1) (f0_s0_30 p1) ((f0_v115 p1) + (f0_v52 p1)) (f2_o0 (0 : Int32) (f0_s0_229 p1) (f0_s0_16 p1) ((f0_v115 p1) + (f0_v52 p1)) (fun _ => 0))))))))) := o35_0
  obtain ⟨_, _, ⟨T38, L38, k38, n38⟩, -, X38, ⟨Lc38, hQ38, l38, y38, z38⟩, st38⟩ := Jvm.LawKit.callS X35 hx (y := (⟨"com/example/titlepoint/titlepoint/Iso2709ReaderBeginsWithRecordLengthPinLaw", "put", "([BIB)V"⟩ : MethodName)) hown (mvT hZ (hw _ (List.mem_of_getElem? (i := 10) rfl))) (mvT hZ (hw _ (List.mem_of_getElem? (i := 11) rfl))) (mvT hZ (hw _ (List.mem_of_getElem? (i := 2) rfl))) (mvT hZ (hw _ (List.mem_of_getElem? (i := 12) rfl))) (by decide) (backOf (W := 0) (rm3 l Z a0 hw [] b11 ((f0_v278 p1) + (5 : Int32)) (f1 q2 q3 (5 : Int32)) ((f0_v115 p1) + (f0_v52 p1)) (f3_o0 ((f0_v278 p1) + (4 : Int32)) (f1 q2 q3 (4 : Int32)) ((f0_v115 p1) + (f0_v52 p1)) (f3_o0 ((f0_v278 p1) + (3 : Int32)) (f1 q2 q3 (3 : Int32)) ((f0_v115 p1) + (f0_v52 p1)) (f3_o0 ((f0_v278 p1) + (2 : Int32)) (f1 q2 q3 (2 : Int32)) ((f0_v115 p1) + (f0_v52 p1)) (f3_o0 ((f0_v278 p1) + (1 : Int32)) (f0_l12_203 q2 q3) ((f0_v115 p1) + (f0_v52 p1)) (f3_o0 (f0_v278 p1) (f0_l11_185 q2 q3) ((f0_v115 p1) + (f0_v52 p1)) (f2_o0 (f0_v256 p1) (f0_s0_273 p1) (f0_s0_44 p1) ((f0_v115 p1) + (f0_v52 p1)) (f2_o0 (f0_v234 p1) (f0_s0_251 p1) (f0_s0_30 p1) ((f0_v115 p1) + (f0_v52 p1)) (f2_o0 (0 : Int32) (f0_s0_229 p1) (f0_s0_16 p1) ((f0_v115 p1) + (f0_v52 p1)) (fun _ => 0))))))))) T35.heap n0 c36 c37 g_b11 (own_put p1 5 (by decide))) hZ (hw _ (List.mem_of_getElem? (i := 12) rfl)) (hw _ (List.mem_of_getElem? (i := 2) rfl)) (by decide) (by decide)) (g := (mkF m 341 #[.val (.int p1), .val (.long q2), .second, .val (.long q3), .second, .val (.int (p1 &&& (3 : Int32))), .val (.int (f0_s0_16 p1)), .val (.int (f0_s0_30 p1)), .val (.int (f0_s0_44 p1)), .val (.int (f0_v52 p1)), .val (.int (f0_v115 p1)), .val (.int (f0_l11_185 q2 q3)), .val (.int (f0_l12_203 q2 q3)), .val (.int (f1 q2 q3 (2 : Int32))), .val (.int (f1 q2 q3 (3 : Int32))), .val (.int (f1 q2 q3 (4 : Int32))), .val (.int (f1 q2 q3 (5 : Int32))), .val (.int (f1 q2 q3 (6 : Int32))), .val (.ref b11), .val (.int (f0_v278 p1)), .unset] [(.int (f1 q2 q3 (5 : Int32))), (.int ((f0_v278 p1) + (5 : Int32))), (.ref b11)])) rfl (by rw [hml]; rfl) (argsL := [(.ref b11), (.int ((f0_v278 p1) + (5 : Int32))), (.int (f1 q2 q3 (5 : Int32)))]) (rest := []) (lenOf pd_3 rfl) rfl (by show 2 * 0 + _ ≤ _; exact Nat.le_of_eq rfl) (hb hby at_341) (fun _ _ => ⟨rfl, rfl, (by decide : 1 + 0 ≤ _), (by decide : 13 + 0 ≤ _)⟩)
  dsimp only [Pt.U, Pt.locs, Pt.cells, Pt.slots] at X38 l38 y38 z38 st38 hQ38
  subst l38 y38 z38
  obtain ⟨rfl, N38q, K38, o38_0⟩ := hQ38
  have N38 := Fr.app N35 N38q
  have c39 : n0 ≤ T38.heap.size := Nat.le_trans c36 K38.1
  have c40 : IAr Z T38.heap b11 .byte ((f0_v115 p1) + (f0_v52 p1)) (f3_o0 ((f0_v278 p1) + (5 : Int32)) (f1 q2 q3 (5 : Int32)) ((f0_v115 p1) + (f0_v52 p1)) (f3_o0 ((f0_v278 p1) + (4 : Int32)) (f1 q2 q3 (4 : Int32)) ((f0_v115 p1) + (f0_v52 p1)) (f3_o0 ((f0_v278 p1) + (3 : Int32)) (f1 q2 q3 (3 : Int32)) ((f0_v115 p1) + (f0_v52 p1)) (f3_o0 ((f0_v278 p1) + (2 : Int32)) (f1 q2 q3 (2 : Int32)) ((f0_v115 p1) + (f0_v52 p1)) (f3_o0 ((f0_v278 p1) + (1 : Int32)) (f0_l12_203 q2 q3) ((f0_v115 p1) + (f0_v52 p1)) (f3_o0 (f0_v278 p1) (f0_l11_185 q2 q3) ((f0_v115 p1) + (f0_v52 p1)) (f2_o0 (f0_v256 p1) (f0_s0_273 p1) (f0_s0_44 p1) ((f0_v115 p1) + (f0_v52 p1)) (f2_o0 (f0_v234 p1) (f0_s0_251 p1) (f0_s0_30 p1) ((f0_v115 p1) + (f0_v52 p1)) (f2_o0 (0 : Int32) (f0_s0_229 p1) (f0_s0_16 p1) ((f0_v115 p1) + (f0_v52 p1)) (fun _ => 0)))))))))) := o38_0
  obtain ⟨_, _, ⟨T41, L41, k41, n41⟩, -, X41, ⟨Lc41, hQ41, l41, y41, z41⟩, st41⟩ := Jvm.LawKit.callS X38 hx (y := (⟨"com/example/titlepoint/titlepoint/Iso2709ReaderBeginsWithRecordLengthPinLaw", "put", "([BIB)V"⟩ : MethodName)) hown (mvT hZ (hw _ (List.mem_of_getElem? (i := 10) rfl))) (mvT hZ (hw _ (List.mem_of_getElem? (i := 11) rfl))) (mvT hZ (hw _ (List.mem_of_getElem? (i := 2) rfl))) (mvT hZ (hw _ (List.mem_of_getElem? (i := 12) rfl))) (by decide) (backOf (W := 0) (rm3 l Z a0 hw [] b11 ((f0_v278 p1) + (6 : Int32)) (f1 q2 q3 (6 : Int32)) ((f0_v115 p1) + (f0_v52 p1)) (f3_o0 ((f0_v278 p1) + (5 : Int32)) (f1 q2 q3 (5 : Int32)) ((f0_v115 p1) + (f0_v52 p1)) (f3_o0 ((f0_v278 p1) + (4 : Int32)) (f1 q2 q3 (4 : Int32)) ((f0_v115 p1) + (f0_v52 p1)) (f3_o0 ((f0_v278 p1) + (3 : Int32)) (f1 q2 q3 (3 : Int32)) ((f0_v115 p1) + (f0_v52 p1)) (f3_o0 ((f0_v278 p1) + (2 : Int32)) (f1 q2 q3 (2 : Int32)) ((f0_v115 p1) + (f0_v52 p1)) (f3_o0 ((f0_v278 p1) + (1 : Int32)) (f0_l12_203 q2 q3) ((f0_v115 p1) + (f0_v52 p1)) (f3_o0 (f0_v278 p1) (f0_l11_185 q2 q3) ((f0_v115 p1) + (f0_v52 p1)) (f2_o0 (f0_v256 p1) (f0_s0_273 p1) (f0_s0_44 p1) ((f0_v115 p1) + (f0_v52 p1)) (f2_o0 (f0_v234 p1) (f0_s0_251 p1) (f0_s0_30 p1) ((f0_v115 p1) + (f0_v52 p1)) (f2_o0 (0 : Int32) (f0_s0_229 p1) (f0_s0_16 p1) ((f0_v115 p1) + (f0_v52 p1)) (fun _ => 0)))))))))) T38.heap n0 c39 c40 g_b11 (own_put p1 6 (by decide))) hZ (hw _ (List.mem_of_getElem? (i := 12) rfl)) (hw _ (List.mem_of_getElem? (i := 2) rfl)) (by decide) (by decide)) (g := (mkF m 353 #[.val (.int p1), .val (.long q2), .second, .val (.long q3), .second, .val (.int (p1 &&& (3 : Int32))), .val (.int (f0_s0_16 p1)), .val (.int (f0_s0_30 p1)), .val (.int (f0_s0_44 p1)), .val (.int (f0_v52 p1)), .val (.int (f0_v115 p1)), .val (.int (f0_l11_185 q2 q3)), .val (.int (f0_l12_203 q2 q3)), .val (.int (f1 q2 q3 (2 : Int32))), .val (.int (f1 q2 q3 (3 : Int32))), .val (.int (f1 q2 q3 (4 : Int32))), .val (.int (f1 q2 q3 (5 : Int32))), .val (.int (f1 q2 q3 (6 : Int32))), .val (.ref b11), .val (.int (f0_v278 p1)), .unset] [(.int (f1 q2 q3 (6 : Int32))), (.int ((f0_v278 p1) + (6 : Int32))), (.ref b11)])) rfl (by rw [hml]; rfl) (argsL := [(.ref b11), (.int ((f0_v278 p1) + (6 : Int32))), (.int (f1 q2 q3 (6 : Int32)))]) (rest := []) (lenOf pd_3 rfl) rfl (by show 2 * 0 + _ ≤ _; exact Nat.le_of_eq rfl) (hb hby at_353) (fun _ _ => ⟨rfl, rfl, (by decide : 1 + 0 ≤ _), (by decide : 13 + 0 ≤ _)⟩)
  dsimp only [Pt.U, Pt.locs, Pt.cells, Pt.slots] at X41 l41 y41 z41 st41 hQ41
  subst l41 y41 z41
  obtain ⟨rfl, N41q, K41, o41_0⟩ := hQ41
  have N41 := Fr.app N38 N41q
  have c42 : n0 ≤ T41.heap.size := Nat.le_trans c39 K41.1
  have c43 : IAr Z T41.heap b11 .byte ((f0_v115 p1) + (f0_v52 p1)) (f3_o0 ((f0_v278 p1) + (6 : Int32)) (f1 q2 q3 (6 : Int32)) ((f0_v115 p1) + (f0_v52 p1)) (f3_o0 ((f0_v278 p1) + (5 : Int32)) (f1 q2 q3 (5 : Int32)) ((f0_v115 p1) + (f0_v52 p1)) (f3_o0 ((f0_v278 p1) + (4 : Int32)) (f1 q2 q3 (4 : Int32)) ((f0_v115 p1) + (f0_v52 p1)) (f3_o0 ((f0_v278 p1) + (3 : Int32)) (f1 q2 q3 (3 : Int32)) ((f0_v115 p1) + (f0_v52 p1)) (f3_o0 ((f0_v278 p1) + (2 : Int32)) (f1 q2 q3 (2 : Int32)) ((f0_v115 p1) + (f0_v52 p1)) (f3_o0 ((f0_v278 p1) + (1 : Int32)) (f0_l12_203 q2 q3) ((f0_v115 p1) + (f0_v52 p1)) (f3_o0 (f0_v278 p1) (f0_l11_185 q2 q3) ((f0_v115 p1) + (f0_v52 p1)) (f2_o0 (f0_v256 p1) (f0_s0_273 p1) (f0_s0_44 p1) ((f0_v115 p1) + (f0_v52 p1)) (f2_o0 (f0_v234 p1) (f0_s0_251 p1) (f0_s0_30 p1) ((f0_v115 p1) + (f0_v52 p1)) (f2_o0 (0 : Int32) (f0_s0_229 p1) (f0_s0_16 p1) ((f0_v115 p1) + (f0_v52 p1)) (fun _ => 0))))))))))) := o41_0
  have pre53 : ∀ t, Steps p.tables e below (T41.setTop (mkF m 359 #[.val (.int p1), .val (.long q2), .second, .val (.long q3), .second, .val (.int (p1 &&& (3 : Int32))), .val (.int (f0_s0_16 p1)), .val (.int (f0_s0_30 p1)), .val (.int (f0_s0_44 p1)), .val (.int (f0_v52 p1)), .val (.int (f0_v115 p1)), .val (.int (f0_l11_185 q2 q3)), .val (.int (f0_l12_203 q2 q3)), .val (.int (f1 q2 q3 (2 : Int32))), .val (.int (f1 q2 q3 (3 : Int32))), .val (.int (f1 q2 q3 (4 : Int32))), .val (.int (f1 q2 q3 (5 : Int32))), .val (.int (f1 q2 q3 (6 : Int32))), .val (.ref b11), .val (.int (f0_v278 p1)), .unset] [(.int (5 : Int32)), (.int (f0_v52 p1))])) t → Steps p.tables e below (s₁.setTop (entryFrame m #[(.int p1), (.long q2), (.long q3)] maxLocals)) t := by
    intro t k
    refine pre50 t ?_
    show Steps p.tables e below (T17.setTop (mkF m 273 #[.val (.int p1), .val (.long q2), .second, .val (.long q3), .second, .val (.int (p1 &&& (3 : Int32))), .val (.int (f0_s0_16 p1)), .val (.int (f0_s0_30 p1)), .val (.int (f0_s0_44 p1)), .val (.int (f0_v52 p1)), .val (.int (f0_v115 p1)), .val (.int (f0_l11_185 q2 q3)), .val (.int (f0_l12_203 q2 q3)), .val (.int (f1 q2 q3 (2 : Int32))), .val (.int (f1 q2 q3 (3 : Int32))), .val (.int (f1 q2 q3 (4 : Int32))), .val (.int (f1 q2 q3 (5 : Int32))), .val (.int (f1 q2 q3 (6 : Int32))), .val (.ref b11), .val (.int (f0_v256 p1)), .unset] [(.int (f0_s0_273 p1)), (.int (f0_v256 p1)), (.ref b11)])) _
    refine XS.iload X17.here hx rfl (hb hby at_273) rfl ?_
    show Steps p.tables e below (T17.setTop (mkF m 275 #[.val (.int p1), .val (.long q2), .second, .val (.long q3), .second, .val (.int (p1 &&& (3 : Int32))), .val (.int (f0_s0_16 p1)), .val (.int (f0_s0_30 p1)), .val (.int (f0_s0_44 p1)), .val (.int (f0_v52 p1)), .val (.int (f0_v115 p1)), .val (.int (f0_l11_185 q2 q3)), .val (.int (f0_l12_203 q2 q3)), .val (.int (f1 q2 q3 (2 : Int32))), .val (.int (f1 q2 q3 (3 : Int32))), .val (.int (f1 q2 q3 (4 : Int32))), .val (.int (f1 q2 q3 (5 : Int32))), .val (.int (f1 q2 q3 (6 : Int32))), .val (.ref b11), .val (.int (f0_v256 p1)), .unset] [(.int (f0_s0_44 p1)), (.int (f0_s0_273 p1)), (.int (f0_v256 p1)), (.ref b11)])) _
    refine st20 _ ?_
    show Steps p.tables e below (T20.setTop (mkF m 278 #[.val (.int p1), .val (.long q2), .second, .val (.long q3), .second, .val (.int (p1 &&& (3 : Int32))), .val (.int (f0_s0_16 p1)), .val (.int (f0_s0_30 p1)), .val (.int (f0_s0_44 p1)), .val (.int (f0_v52 p1)), .val (.int (f0_v115 p1)), .val (.int (f0_l11_185 q2 q3)), .val (.int (f0_l12_203 q2 q3)), .val (.int (f1 q2 q3 (2 : Int32))), .val (.int (f1 q2 q3 (3 : Int32))), .val (.int (f1 q2 q3 (4 : Int32))), .val (.int (f1 q2 q3 (5 : Int32))), .val (.int (f1 q2 q3 (6 : Int32))), .val (.ref b11), .val (.int (f0_v256 p1)), .unset] [(.int (f2 (f0_v256 p1) (f0_s0_273 p1) (f0_s0_44 p1) ((f0_v115 p1) + (f0_v52 p1)) (f2_o0 (f0_v234 p1) (f0_s0_251 p1) (f0_s0_30 p1) ((f0_v115 p1) + (f0_v52 p1)) (f2_o0 (0 : Int32) (f0_s0_229 p1) (f0_s0_16 p1) ((f0_v115 p1) + (f0_v52 p1)) (fun _ => 0)))))])) _
    refine XS.istore X20.here hx rfl (hb hby at_278) rfl (l' := #[.val (.int p1), .val (.long q2), .second, .val (.long q3), .second, .val (.int (p1 &&& (3 : Int32))), .val (.int (f0_s0_16 p1)), .val (.int (f0_s0_30 p1)), .val (.int (f0_s0_44 p1)), .val (.int (f0_v52 p1)), .val (.int (f0_v115 p1)), .val (.int (f0_l11_185 q2 q3)), .val (.int (f0_l12_203 q2 q3)), .val (.int (f1 q2 q3 (2 : Int32))), .val (.int (f1 q2 q3 (3 : Int32))), .val (.int (f1 q2 q3 (4 : Int32))), .val (.int (f1 q2 q3 (5 : Int32))), .val (.int (f1 q2 q3 (6 : Int32))), .val (.ref b11), .val (.int (f0_v278 p1)), .unset]) rfl ?_
    show Steps p.tables e below (T20.setTop (mkF m 280 #[.val (.int p1), .val (.long q2), .second, .val (.long q3), .second, .val (.int (p1 &&& (3 : Int32))), .val (.int (f0_s0_16 p1)), .val (.int (f0_s0_30 p1)), .val (.int (f0_s0_44 p1)), .val (.int (f0_v52 p1)), .val (.int (f0_v115 p1)), .val (.int (f0_l11_185 q2 q3)), .val (.int (f0_l12_203 q2 q3)), .val (.int (f1 q2 q3 (2 : Int32))), .val (.int (f1 q2 q3 (3 : Int32))), .val (.int (f1 q2 q3 (4 : Int32))), .val (.int (f1 q2 q3 (5 : Int32))), .val (.int (f1 q2 q3 (6 : Int32))), .val (.ref b11), .val (.int (f0_v278 p1)), .unset] [])) _
    refine XS.aload X20.here hx rfl (hb hby at_280) rfl rfl ?_
    show Steps p.tables e below (T20.setTop (mkF m 282 #[.val (.int p1), .val (.long q2), .second, .val (.long q3), .second, .val (.int (p1 &&& (3 : Int32))), .val (.int (f0_s0_16 p1)), .val (.int (f0_s0_30 p1)), .val (.int (f0_s0_44 p1)), .val (.int (f0_v52 p1)), .val (.int (f0_v115 p1)), .val (.int (f0_l11_185 q2 q3)), .val (.int (f0_l12_203 q2 q3)), .val (.int (f1 q2 q3 (2 : Int32))), .val (.int (f1 q2 q3 (3 : Int32))), .val (.int (f1 q2 q3 (4 : Int32))), .val (.int (f1 q2 q3 (5 : Int32))), .val (.int (f1 q2 q3 (6 : Int32))), .val (.ref b11), .val (.int (f0_v278 p1)), .unset] [(.ref b11)])) _
    refine XS.iload X20.here hx rfl (hb hby at_282) rfl ?_
    show Steps p.tables e below (T20.setTop (mkF m 284 #[.val (.int p1), .val (.long q2), .second, .val (.long q3), .second, .val (.int (p1 &&& (3 : Int32))), .val (.int (f0_s0_16 p1)), .val (.int (f0_s0_30 p1)), .val (.int (f0_s0_44 p1)), .val (.int (f0_v52 p1)), .val (.int (f0_v115 p1)), .val (.int (f0_l11_185 q2 q3)), .val (.int (f0_l12_203 q2 q3)), .val (.int (f1 q2 q3 (2 : Int32))), .val (.int (f1 q2 q3 (3 : Int32))), .val (.int (f1 q2 q3 (4 : Int32))), .val (.int (f1 q2 q3 (5 : Int32))), .val (.int (f1 q2 q3 (6 : Int32))), .val (.ref b11), .val (.int (f0_v278 p1)), .unset] [(.int (f0_v278 p1)), (.ref b11)])) _
    refine XS.iload X20.here hx rfl (hb hby at_284) rfl ?_
    show Steps p.tables e below (T20.setTop (mkF m 286 #[.val (.int p1), .val (.long q2), .second, .val (.long q3), .second, .val (.int (p1 &&& (3 : Int32))), .val (.int (f0_s0_16 p1)), .val (.int (f0_s0_30 p1)), .val (.int (f0_s0_44 p1)), .val (.int (f0_v52 p1)), .val (.int (f0_v115 p1)), .val (.int (f0_l11_185 q2 q3)), .val (.int (f0_l12_203 q2 q3)), .val (.int (f1 q2 q3 (2 : Int32))), .val (.int (f1 q2 q3 (3 : Int32))), .val (.int (f1 q2 q3 (4 : Int32))), .val (.int (f1 q2 q3 (5 : Int32))), .val (.int (f1 q2 q3 (6 : Int32))), .val (.ref b11), .val (.int (f0_v278 p1)), .unset] [(.int (f0_l11_185 q2 q3)), (.int (f0_v278 p1)), (.ref b11)])) _
    refine st23 _ ?_
    show Steps p.tables e below (T23.setTop (mkF m 289 #[.val (.int p1), .val (.long q2), .second, .val (.long q3), .second, .val (.int (p1 &&& (3 : Int32))), .val (.int (f0_s0_16 p1)), .val (.int (f0_s0_30 p1)), .val (.int (f0_s0_44 p1)), .val (.int (f0_v52 p1)), .val (.int (f0_v115 p1)), .val (.int (f0_l11_185 q2 q3)), .val (.int (f0_l12_203 q2 q3)), .val (.int (f1 q2 q3 (2 : Int32))), .val (.int (f1 q2 q3 (3 : Int32))), .val (.int (f1 q2 q3 (4 : Int32))), .val (.int (f1 q2 q3 (5 : Int32))), .val (.int (f1 q2 q3 (6 : Int32))), .val (.ref b11), .val (.int (f0_v278 p1)), .unset] [])) _
    refine XS.aload X23.here hx rfl (hb hby at_289) rfl rfl ?_
    show Steps p.tables e below (T23.setTop (mkF m 291 #[.val (.int p1), .val (.long q2), .second, .val (.long q3), .second, .val (.int (p1 &&& (3 : Int32))), .val (.int (f0_s0_16 p1)), .val (.int (f0_s0_30 p1)), .val (.int (f0_s0_44 p1)), .val (.int (f0_v52 p1)), .val (.int (f0_v115 p1)), .val (.int (f0_l11_185 q2 q3)), .val (.int (f0_l12_203 q2 q3)), .val (.int (f1 q2 q3 (2 : Int32))), .val (.int (f1 q2 q3 (3 : Int32))), .val (.int (f1 q2 q3 (4 : Int32))), .val (.int (f1 q2 q3 (5 : Int32))), .val (.int (f1 q2 q3 (6 : Int32))), .val (.ref b11), .val (.int (f0_v278 p1)), .unset] [(.ref b11)])) _
    refine XS.iload X23.here hx rfl (hb hby at_291) rfl ?_
    show Steps p.tables e below (T23.setTop (mkF m 293 #[.val (.int p1), .val (.long q2), .second, .val (.long q3), .second, .val (.int (p1 &&& (3 : Int32))), .val (.int (f0_s0_16 p1)), .val (.int (f0_s0_30 p1)), .val (.int (f0_s0_44 p1)), .val (.int (f0_v52 p1)), .val (.int (f0_v115 p1)), .val (.int (f0_l11_185 q2 q3)), .val (.int (f0_l12_203 q2 q3)), .val (.int (f1 q2 q3 (2 : Int32))), .val (.int (f1 q2 q3 (3 : Int32))), .val (.int (f1 q2 q3 (4 : Int32))), .val (.int (f1 q2 q3 (5 : Int32))), .val (.int (f1 q2 q3 (6 : Int32))), .val (.ref b11), .val (.int (f0_v278 p1)), .unset] [(.int (f0_v278 p1)), (.ref b11)])) _
    refine XS.iconst X23.here hx rfl (hb hby at_293) ?_
    show Steps p.tables e below (T23.setTop (mkF m 294 #[.val (.int p1), .val (.long q2), .second, .val (.long q3), .second, .val (.int (p1 &&& (3 : Int32))), .val (.int (f0_s0_16 p1)), .val (.int (f0_s0_30 p1)), .val (.int (f0_s0_44 p1)), .val (.int (f0_v52 p1)), .val (.int (f0_v115 p1)), .val (.int (f0_l11_185 q2 q3)), .val (.int (f0_l12_203 q2 q3)), .val (.int (f1 q2 q3 (2 : Int32))), .val (.int (f1 q2 q3 (3 : Int32))), .val (.int (f1 q2 q3 (4 : Int32))), .val (.int (f1 q2 q3 (5 : Int32))), .val (.int (f1 q2 q3 (6 : Int32))), .val (.ref b11), .val (.int (f0_v278 p1)), .unset] [(.int (1 : Int32)), (.int (f0_v278 p1)), (.ref b11)])) _
    refine XS.iadd X23.here hx rfl (hb hby at_294) rfl ?_
    show Steps p.tables e below (T23.setTop (mkF m 295 #[.val (.int p1), .val (.long q2), .second, .val (.long q3), .second, .val (.int (p1 &&& (3 : Int32))), .val (.int (f0_s0_16 p1)), .val (.int (f0_s0_30 p1)), .val (.int (f0_s0_44 p1)), .val (.int (f0_v52 p1)), .val (.int (f0_v115 p1)), .val (.int (f0_l11_185 q2 q3)), .val (.int (f0_l12_203 q2 q3)), .val (.int (f1 q2 q3 (2 : Int32))), .val (.int (f1 q2 q3 (3 : Int32))), .val (.int (f1 q2 q3 (4 : Int32))), .val (.int (f1 q2 q3 (5 : Int32))), .val (.int (f1 q2 q3 (6 : Int32))), .val (.ref b11), .val (.int (f0_v278 p1)), .unset] [(.int ((f0_v278 p1) + (1 : Int32))), (.ref b11)])) _
    refine XS.iload X23.here hx rfl (hb hby at_295) rfl ?_
    show Steps p.tables e below (T23.setTop (mkF m 297 #[.val (.int p1), .val (.long q2), .second, .val (.long q3), .second, .val (.int (p1 &&& (3 : Int32))), .val (.int (f0_s0_16 p1)), .val (.int (f0_s0_30 p1)), .val (.int (f0_s0_44 p1)), .val (.int (f0_v52 p1)), .val (.int (f0_v115 p1)), .val (.int (f0_l11_185 q2 q3)), .val (.int (f0_l12_203 q2 q3)), .val (.int (f1 q2 q3 (2 : Int32))), .val (.int (f1 q2 q3 (3 : Int32))), .val (.int (f1 q2 q3 (4 : Int32))), .val (.int (f1 q2 q3 (5 : Int32))), .val (.int (f1 q2 q3 (6 : Int32))), .val (.ref b11), .val (.int (f0_v278 p1)), .unset] [(.int (f0_l12_203 q2 q3)), (.int ((f0_v278 p1) + (1 : Int32))), (.ref b11)])) _
    refine st26 _ ?_
    show Steps p.tables e below (T26.setTop (mkF m 300 #[.val (.int p1), .val (.long q2), .second, .val (.long q3), .second, .val (.int (p1 &&& (3 : Int32))), .val (.int (f0_s0_16 p1)), .val (.int (f0_s0_30 p1)), .val (.int (f0_s0_44 p1)), .val (.int (f0_v52 p1)), .val (.int (f0_v115 p1)), .val (.int (f0_l11_185 q2 q3)), .val (.int (f0_l12_203 q2 q3)), .val (.int (f1 q2 q3 (2 : Int32))), .val (.int (f1 q2 q3 (3 : Int32))), .val (.int (f1 q2 q3 (4 : Int32))), .val (.int (f1 q2 q3 (5 : Int32))), .val (.int (f1 q2 q3 (6 : Int32))), .val (.ref b11), .val (.int (f0_v278 p1)), .unset] [])) _
    refine XS.aload X26.here hx rfl (hb hby at_300) rfl rfl ?_
    show Steps p.tables e below (T26.setTop (mkF m 302 #[.val (.int p1), .val (.long q2), .second, .val (.long q3), .second, .val (.int (p1 &&& (3 : Int32))), .val (.int (f0_s0_16 p1)), .val (.int (f0_s0_30 p1)), .val (.int (f0_s0_44 p1)), .val (.int (f0_v52 p1)), .val (.int (f0_v115 p1)), .val (.int (f0_l11_185 q2 q3)), .val (.int (f0_l12_203 q2 q3)), .val (.int (f1 q2 q3 (2 : Int32))), .val (.int (f1 q2 q3 (3 : Int32))), .val (.int (f1 q2 q3 (4 : Int32))), .val (.int (f1 q2 q3 (5 : Int32))), .val (.int (f1 q2 q3 (6 : Int32))), .val (.ref b11), .val (.int (f0_v278 p1)), .unset] [(.ref b11)])) _
    refine XS.iload X26.here hx rfl (hb hby at_302) rfl ?_
    show Steps p.tables e below (T26.setTop (mkF m 304 #[.val (.int p1), .val (.long q2), .second, .val (.long q3), .second, .val (.int (p1 &&& (3 : Int32))), .val (.int (f0_s0_16 p1)), .val (.int (f0_s0_30 p1)), .val (.int (f0_s0_44 p1)), .val (.int (f0_v52 p1)), .val (.int (f0_v115 p1)), .val (.int (f0_l11_185 q2 q3)), .val (.int (f0_l12_203 q2 q3)), .val (.int (f1 q2 q3 (2 : Int32))), .val (.int (f1 q2 q3 (3 : Int32))), .val (.int (f1 q2 q3 (4 : Int32))), .val (.int (f1 q2 q3 (5 : Int32))), .val (.int (f1 q2 q3 (6 : Int32))), .val (.ref b11), .val (.int (f0_v278 p1)), .unset] [(.int (f0_v278 p1)), (.ref b11)])) _
    refine XS.iconst X26.here hx rfl (hb hby at_304) ?_
    show Steps p.tables e below (T26.setTop (mkF m 305 #[.val (.int p1), .val (.long q2), .second, .val (.long q3), .second, .val (.int (p1 &&& (3 : Int32))), .val (.int (f0_s0_16 p1)), .val (.int (f0_s0_30 p1)), .val (.int (f0_s0_44 p1)), .val (.int (f0_v52 p1)), .val (.int (f0_v115 p1)), .val (.int (f0_l11_185 q2 q3)), .val (.int (f0_l12_203 q2 q3)), .val (.int (f1 q2 q3 (2 : Int32))), .val (.int (f1 q2 q3 (3 : Int32))), .val (.int (f1 q2 q3 (4 : Int32))), .val (.int (f1 q2 q3 (5 : Int32))), .val (.int (f1 q2 q3 (6 : Int32))), .val (.ref b11), .val (.int (f0_v278 p1)), .unset] [(.int (2 : Int32)), (.int (f0_v278 p1)), (.ref b11)])) _
    refine XS.iadd X26.here hx rfl (hb hby at_305) rfl ?_
    show Steps p.tables e below (T26.setTop (mkF m 306 #[.val (.int p1), .val (.long q2), .second, .val (.long q3), .second, .val (.int (p1 &&& (3 : Int32))), .val (.int (f0_s0_16 p1)), .val (.int (f0_s0_30 p1)), .val (.int (f0_s0_44 p1)), .val (.int (f0_v52 p1)), .val (.int (f0_v115 p1)), .val (.int (f0_l11_185 q2 q3)), .val (.int (f0_l12_203 q2 q3)), .val (.int (f1 q2 q3 (2 : Int32))), .val (.int (f1 q2 q3 (3 : Int32))), .val (.int (f1 q2 q3 (4 : Int32))), .val (.int (f1 q2 q3 (5 : Int32))), .val (.int (f1 q2 q3 (6 : Int32))), .val (.ref b11), .val (.int (f0_v278 p1)), .unset] [(.int ((f0_v278 p1) + (2 : Int32))), (.ref b11)])) _
    refine XS.iload X26.here hx rfl (hb hby at_306) rfl ?_
    show Steps p.tables e below (T26.setTop (mkF m 308 #[.val (.int p1), .val (.long q2), .second, .val (.long q3), .second, .val (.int (p1 &&& (3 : Int32))), .val (.int (f0_s0_16 p1)), .val (.int (f0_s0_30 p1)), .val (.int (f0_s0_44 p1)), .val (.int (f0_v52 p1)), .val (.int (f0_v115 p1)), .val (.int (f0_l11_185 q2 q3)), .val (.int (f0_l12_203 q2 q3)), .val (.int (f1 q2 q3 (2 : Int32))), .val (.int (f1 q2 q3 (3 : Int32))), .val (.int (f1 q2 q3 (4 : Int32))), .val (.int (f1 q2 q3 (5 : Int32))), .val (.int (f1 q2 q3 (6 : Int32))), .val (.ref b11), .val (.int (f0_v278 p1)), .unset] [(.int (f1 q2 q3 (2 : Int32))), (.int ((f0_v278 p1) + (2 : Int32))), (.ref b11)])) _
    refine st29 _ ?_
    show Steps p.tables e below (T29.setTop (mkF m 311 #[.val (.int p1), .val (.long q2), .second, .val (.long q3), .second, .val (.int (p1 &&& (3 : Int32))), .val (.int (f0_s0_16 p1)), .val (.int (f0_s0_30 p1)), .val (.int (f0_s0_44 p1)), .val (.int (f0_v52 p1)), .val (.int (f0_v115 p1)), .val (.int (f0_l11_185 q2 q3)), .val (.int (f0_l12_203 q2 q3)), .val (.int (f1 q2 q3 (2 : Int32))), .val (.int (f1 q2 q3 (3 : Int32))), .val (.int (f1 q2 q3 (4 : Int32))), .val (.int (f1 q2 q3 (5 : Int32))), .val (.int (f1 q2 q3 (6 : Int32))), .val (.ref b11), .val (.int (f0_v278 p1)), .unset] [])) _
    refine XS.aload X29.here hx rfl (hb hby at_311) rfl rfl ?_
    show Steps p.tables e below (T29.setTop (mkF m 313 #[.val (.int p1), .val (.long q2), .second, .val (.long q3), .second, .val (.int (p1 &&& (3 : Int32))), .val (.int (f0_s0_16 p1)), .val (.int (f0_s0_30 p1)), .val (.int (f0_s0_44 p1)), .val (.int (f0_v52 p1)), .val (.int (f0_v115 p1)), .val (.int (f0_l11_185 q2 q3)), .val (.int (f0_l12_203 q2 q3)), .val (.int (f1 q2 q3 (2 : Int32))), .val (.int (f1 q2 q3 (3 : Int32))), .val (.int (f1 q2 q3 (4 : Int32))), .val (.int (f1 q2 q3 (5 : Int32))), .val (.int (f1 q2 q3 (6 : Int32))), .val (.ref b11), .val (.int (f0_v278 p1)), .unset] [(.ref b11)])) _
    refine XS.iload X29.here hx rfl (hb hby at_313) rfl ?_
    show Steps p.tables e below (T29.setTop (mkF m 315 #[.val (.int p1), .val (.long q2), .second, .val (.long q3), .second, .val (.int (p1 &&& (3 : Int32))), .val (.int (f0_s0_16 p1)), .val (.int (f0_s0_30 p1)), .val (.int (f0_s0_44 p1)), .val (.int (f0_v52 p1)), .val (.int (f0_v115 p1)), .val (.int (f0_l11_185 q2 q3)), .val (.int (f0_l12_203 q2 q3)), .val (.int (f1 q2 q3 (2 : Int32))), .val (.int (f1 q2 q3 (3 : Int32))), .val (.int (f1 q2 q3 (4 : Int32))), .val (.int (f1 q2 q3 (5 : Int32))), .val (.int (f1 q2 q3 (6 : Int32))), .val (.ref b11), .val (.int (f0_v278 p1)), .unset] [(.int (f0_v278 p1)), (.ref b11)])) _
    refine XS.iconst X29.here hx rfl (hb hby at_315) ?_
    show Steps p.tables e below (T29.setTop (mkF m 316 #[.val (.int p1), .val (.long q2), .second, .val (.long q3), .second, .val (.int (p1 &&& (3 : Int32))), .val (.int (f0_s0_16 p1)), .val (.int (f0_s0_30 p1)), .val (.int (f0_s0_44 p1)), .val (.int (f0_v52 p1)), .val (.int (f0_v115 p1)), .val (.int (f0_l11_185 q2 q3)), .val (.int (f0_l12_203 q2 q3)), .val (.int (f1 q2 q3 (2 : Int32))), .val (.int (f1 q2 q3 (3 : Int32))), .val (.int (f1 q2 q3 (4 : Int32))), .val (.int (f1 q2 q3 (5 : Int32))), .val (.int (f1 q2 q3 (6 : Int32))), .val (.ref b11), .val (.int (f0_v278 p1)), .unset] [(.int (3 : Int32)), (.int (f0_v278 p1)), (.ref b11)])) _
    refine XS.iadd X29.here hx rfl (hb hby at_316) rfl ?_
    show Steps p.tables e below (T29.setTop (mkF m 317 #[.val (.int p1), .val (.long q2), .second, .val (.long q3), .second, .val (.int (p1 &&& (3 : Int32))), .val (.int (f0_s0_16 p1)), .val (.int (f0_s0_30 p1)), .val (.int (f0_s0_44 p1)), .val (.int (f0_v52 p1)), .val (.int (f0_v115 p1)), .val (.int (f0_l11_185 q2 q3)), .val (.int (f0_l12_203 q2 q3)), .val (.int (f1 q2 q3 (2 : Int32))), .val (.int (f1 q2 q3 (3 : Int32))), .val (.int (f1 q2 q3 (4 : Int32))), .val (.int (f1 q2 q3 (5 : Int32))), .val (.int (f1 q2 q3 (6 : Int32))), .val (.ref b11), .val (.int (f0_v278 p1)), .unset] [(.int ((f0_v278 p1) + (3 : Int32))), (.ref b11)])) _
    refine XS.iload X29.here hx rfl (hb hby at_317) rfl ?_
    show Steps p.tables e below (T29.setTop (mkF m 319 #[.val (.int p1), .val (.long q2), .second, .val (.long q3), .second, .val (.int (p1 &&& (3 : Int32))), .val (.int (f0_s0_16 p1)), .val (.int (f0_s0_30 p1)), .val (.int (f0_s0_44 p1)), .val (.int (f0_v52 p1)), .val (.int (f0_v115 p1)), .val (.int (f0_l11_185 q2 q3)), .val (.int (f0_l12_203 q2 q3)), .val (.int (f1 q2 q3 (2 : Int32))), .val (.int (f1 q2 q3 (3 : Int32))), .val (.int (f1 q2 q3 (4 : Int32))), .val (.int (f1 q2 q3 (5 : Int32))), .val (.int (f1 q2 q3 (6 : Int32))), .val (.ref b11), .val (.int (f0_v278 p1)), .unset] [(.int (f1 q2 q3 (3 : Int32))), (.int ((f0_v278 p1) + (3 : Int32))), (.ref b11)])) _
    refine st32 _ ?_
    show Steps p.tables e below (T32.setTop (mkF m 322 #[.val (.int p1), .val (.long q2), .second, .val (.long q3), .second, .val (.int (p1 &&& (3 : Int32))), .val (.int (f0_s0_16 p1)), .val (.int (f0_s0_30 p1)), .val (.int (f0_s0_44 p1)), .val (.int (f0_v52 p1)), .val (.int (f0_v115 p1)), .val (.int (f0_l11_185 q2 q3)), .val (.int (f0_l12_203 q2 q3)), .val (.int (f1 q2 q3 (2 : Int32))), .val (.int (f1 q2 q3 (3 : Int32))), .val (.int (f1 q2 q3 (4 : Int32))), .val (.int (f1 q2 q3 (5 : Int32))), .val (.int (f1 q2 q3 (6 : Int32))), .val (.ref b11), .val (.int (f0_v278 p1)), .unset] [])) _
    refine XS.aload X32.here hx rfl (hb hby at_322) rfl rfl ?_
    show Steps p.tables e below (T32.setTop (mkF m 324 #[.val (.int p1), .val (.long q2), .second, .val (.long q3), .second, .val (.int (p1 &&& (3 : Int32))), .val (.int (f0_s0_16 p1)), .val (.int (f0_s0_30 p1)), .val (.int (f0_s0_44 p1)), .val (.int (f0_v52 p1)), .val (.int (f0_v115 p1)), .val (.int (f0_l11_185 q2 q3)), .val (.int (f0_l12_203 q2 q3)), .val (.int (f1 q2 q3 (2 : Int32))), .val (.int (f1 q2 q3 (3 : Int32))), .val (.int (f1 q2 q3 (4 : Int32))), .val (.int (f1 q2 q3 (5 : Int32))), .val (.int (f1 q2 q3 (6 : Int32))), .val (.ref b11), .val (.int (f0_v278 p1)), .unset] [(.ref b11)])) _
    refine XS.iload X32.here hx rfl (hb hby at_324) rfl ?_
    show Steps p.tables e below (T32.setTop (mkF m 326 #[.val (.int p1), .val (.long q2), .second, .val (.long q3), .second, .val (.int (p1 &&& (3 : Int32))), .val (.int (f0_s0_16 p1)), .val (.int (f0_s0_30 p1)), .val (.int (f0_s0_44 p1)), .val (.int (f0_v52 p1)), .val (.int (f0_v115 p1)), .val (.int (f0_l11_185 q2 q3)), .val (.int (f0_l12_203 q2 q3)), .val (.int (f1 q2 q3 (2 : Int32))), .val (.int (f1 q2 q3 (3 : Int32))), .val (.int (f1 q2 q3 (4 : Int32))), .val (.int (f1 q2 q3 (5 : Int32))), .val (.int (f1 q2 q3 (6 : Int32))), .val (.ref b11), .val (.int (f0_v278 p1)), .unset] [(.int (f0_v278 p1)), (.ref b11)])) _
    refine XS.iconst X32.here hx rfl (hb hby at_326) ?_
    show Steps p.tables e below (T32.setTop (mkF m 327 #[.val (.int p1), .val (.long q2), .second, .val (.long q3), .second, .val (.int (p1 &&& (3 : Int32))), .val (.int (f0_s0_16 p1)), .val (.int (f0_s0_30 p1)), .val (.int (f0_s0_44 p1)), .val (.int (f0_v52 p1)), .val (.int (f0_v115 p1)), .val (.int (f0_l11_185 q2 q3)), .val (.int (f0_l12_203 q2 q3)), .val (.int (f1 q2 q3 (2 : Int32))), .val (.int (f1 q2 q3 (3 : Int32))), .val (.int (f1 q2 q3 (4 : Int32))), .val (.int (f1 q2 q3 (5 : Int32))), .val (.int (f1 q2 q3 (6 : Int32))), .val (.ref b11), .val (.int (f0_v278 p1)), .unset] [(.int (4 : Int32)), (.int (f0_v278 p1)), (.ref b11)])) _
    refine XS.iadd X32.here hx rfl (hb hby at_327) rfl ?_
    show Steps p.tables e below (T32.setTop (mkF m 328 #[.val (.int p1), .val (.long q2), .second, .val (.long q3), .second, .val (.int (p1 &&& (3 : Int32))), .val (.int (f0_s0_16 p1)), .val (.int (f0_s0_30 p1)), .val (.int (f0_s0_44 p1)), .val (.int (f0_v52 p1)), .val (.int (f0_v115 p1)), .val (.int (f0_l11_185 q2 q3)), .val (.int (f0_l12_203 q2 q3)), .val (.int (f1 q2 q3 (2 : Int32))), .val (.int (f1 q2 q3 (3 : Int32))), .val (.int (f1 q2 q3 (4 : Int32))), .val (.int (f1 q2 q3 (5 : Int32))), .val (.int (f1 q2 q3 (6 : Int32))), .val (.ref b11), .val (.int (f0_v278 p1)), .unset] [(.int ((f0_v278 p1) + (4 : Int32))), (.ref b11)])) _
    refine XS.iload X32.here hx rfl (hb hby at_328) rfl ?_
    show Steps p.tables e below (T32.setTop (mkF m 330 #[.val (.int p1), .val (.long q2), .second, .val (.long q3), .second, .val (.int (p1 &&& (3 : Int32))), .val (.int (f0_s0_16 p1)), .val (.int (f0_s0_30 p1)), .val (.int (f0_s0_44 p1)), .val (.int (f0_v52 p1)), .val (.int (f0_v115 p1)), .val (.int (f0_l11_185 q2 q3)), .val (.int (f0_l12_203 q2 q3)), .val (.int (f1 q2 q3 (2 : Int32))), .val (.int (f1 q2 q3 (3 : Int32))), .val (.int (f1 q2 q3 (4 : Int32))), .val (.int (f1 q2 q3 (5 : Int32))), .val (.int (f1 q2 q3 (6 : Int32))), .val (.ref b11), .val (.int (f0_v278 p1)), .unset] [(.int (f1 q2 q3 (4 : Int32))), (.int ((f0_v278 p1) + (4 : Int32))), (.ref b11)])) _
    refine st35 _ ?_
    show Steps p.tables e below (T35.setTop (mkF m 333 #[.val (.int p1), .val (.long q2), .second, .val (.long q3), .second, .val (.int (p1 &&& (3 : Int32))), .val (.int (f0_s0_16 p1)), .val (.int (f0_s0_30 p1)), .val (.int (f0_s0_44 p1)), .val (.int (f0_v52 p1)), .val (.int (f0_v115 p1)), .val (.int (f0_l11_185 q2 q3)), .val (.int (f0_l12_203 q2 q3)), .val (.int (f1 q2 q3 (2 : Int32))), .val (.int (f1 q2 q3 (3 : Int32))), .val (.int (f1 q2 q3 (4 : Int32))), .val (.int (f1 q2 q3 (5 : Int32))), .val (.int (f1 q2 q3 (6 : Int32))), .val (.ref b11), .val (.int (f0_v278 p1)), .unset] [])) _
    refine XS.aload X35.here hx rfl (hb hby at_333) rfl rfl ?_
    show Steps p.tables e below (T35.setTop (mkF m 335 #[.val (.int p1), .val (.long q2), .second, .val (.long q3), .second, .val (.int (p1 &&& (3 : Int32))), .val (.int (f0_s0_16 p1)), .val (.int (f0_s0_30 p1)), .val (.int (f0_s0_44 p1)), .val (.int (f0_v52 p1)), .val (.int (f0_v115 p1)), .val (.int (f0_l11_185 q2 q3)), .val (.int (f0_l12_203 q2 q3)), .val (.int (f1 q2 q3 (2 : Int32))), .val (.int (f1 q2 q3 (3 : Int32))), .val (.int (f1 q2 q3 (4 : Int32))), .val (.int (f1 q2 q3 (5 : Int32))), .val (.int (f1 q2 q3 (6 : Int32))), .val (.ref b11), .val (.int (f0_v278 p1)), .unset] [(.ref b11)])) _
    refine XS.iload X35.here hx rfl (hb hby at_335) rfl ?_
    show Steps p.tables e below (T35.setTop (mkF m 337 #[.val (.int p1), .val (.long q2), .second, .val (.long q3), .second, .val (.int (p1 &&& (3 : Int32))), .val (.int (f0_s0_16 p1)), .val (.int (f0_s0_30 p1)), .val (.int (f0_s0_44 p1)), .val (.int (f0_v52 p1)), .val (.int (f0_v115 p1)), .val (.int (f0_l11_185 q2 q3)), .val (.int (f0_l12_203 q2 q3)), .val (.int (f1 q2 q3 (2 : Int32))), .val (.int (f1 q2 q3 (3 : Int32))), .val (.int (f1 q2 q3 (4 : Int32))), .val (.int (f1 q2 q3 (5 : Int32))), .val (.int (f1 q2 q3 (6 : Int32))), .val (.ref b11), .val (.int (f0_v278 p1)), .unset] [(.int (f0_v278 p1)), (.ref b11)])) _
    refine XS.iconst X35.here hx rfl (hb hby at_337) ?_
    show Steps p.tables e below (T35.setTop (mkF m 338 #[.val (.int p1), .val (.long q2), .second, .val (.long q3), .second, .val (.int (p1 &&& (3 : Int32))), .val (.int (f0_s0_16 p1)), .val (.int (f0_s0_30 p1)), .val (.int (f0_s0_44 p1)), .val (.int (f0_v52 p1)), .val (.int (f0_v115 p1)), .val (.int (f0_l11_185 q2 q3)), .val (.int (f0_l12_203 q2 q3)), .val (.int (f1 q2 q3 (2 : Int32))), .val (.int (f1 q2 q3 (3 : Int32))), .val (.int (f1 q2 q3 (4 : Int32))), .val (.int (f1 q2 q3 (5 : Int32))), .val (.int (f1 q2 q3 (6 : Int32))), .val (.ref b11), .val (.int (f0_v278 p1)), .unset] [(.int (5 : Int32)), (.int (f0_v278 p1)), (.ref b11)])) _
    refine XS.iadd X35.here hx rfl (hb hby at_338) rfl ?_
    show Steps p.tables e below (T35.setTop (mkF m 339 #[.val (.int p1), .val (.long q2), .second, .val (.long q3), .second, .val (.int (p1 &&& (3 : Int32))), .val (.int (f0_s0_16 p1)), .val (.int (f0_s0_30 p1)), .val (.int (f0_s0_44 p1)), .val (.int (f0_v52 p1)), .val (.int (f0_v115 p1)), .val (.int (f0_l11_185 q2 q3)), .val (.int (f0_l12_203 q2 q3)), .val (.int (f1 q2 q3 (2 : Int32))), .val (.int (f1 q2 q3 (3 : Int32))), .val (.int (f1 q2 q3 (4 : Int32))), .val (.int (f1 q2 q3 (5 : Int32))), .val (.int (f1 q2 q3 (6 : Int32))), .val (.ref b11), .val (.int (f0_v278 p1)), .unset] [(.int ((f0_v278 p1) + (5 : Int32))), (.ref b11)])) _
    refine XS.iload X35.here hx rfl (hb hby at_339) rfl ?_
    show Steps p.tables e below (T35.setTop (mkF m 341 #[.val (.int p1), .val (.long q2), .second, .val (.long q3), .second, .val (.int (p1 &&& (3 : Int32))), .val (.int (f0_s0_16 p1)), .val (.int (f0_s0_30 p1)), .val (.int (f0_s0_44 p1)), .val (.int (f0_v52 p1)), .val (.int (f0_v115 p1)), .val (.int (f0_l11_185 q2 q3)), .val (.int (f0_l12_203 q2 q3)), .val (.int (f1 q2 q3 (2 : Int32))), .val (.int (f1 q2 q3 (3 : Int32))), .val (.int (f1 q2 q3 (4 : Int32))), .val (.int (f1 q2 q3 (5 : Int32))), .val (.int (f1 q2 q3 (6 : Int32))), .val (.ref b11), .val (.int (f0_v278 p1)), .unset] [(.int (f1 q2 q3 (5 : Int32))), (.int ((f0_v278 p1) + (5 : Int32))), (.ref b11)])) _
    refine st38 _ ?_
    show Steps p.tables e below (T38.setTop (mkF m 344 #[.val (.int p1), .val (.long q2), .second, .val (.long q3), .second, .val (.int (p1 &&& (3 : Int32))), .val (.int (f0_s0_16 p1)), .val (.int (f0_s0_30 p1)), .val (.int (f0_s0_44 p1)), .val (.int (f0_v52 p1)), .val (.int (f0_v115 p1)), .val (.int (f0_l11_185 q2 q3)), .val (.int (f0_l12_203 q2 q3)), .val (.int (f1 q2 q3 (2 : Int32))), .val (.int (f1 q2 q3 (3 : Int32))), .val (.int (f1 q2 q3 (4 : Int32))), .val (.int (f1 q2 q3 (5 : Int32))), .val (.int (f1 q2 q3 (6 : Int32))), .val (.ref b11), .val (.int (f0_v278 p1)), .unset] [])) _
    refine XS.aload X38.here hx rfl (hb hby at_344) rfl rfl ?_
    show Steps p.tables e below (T38.setTop (mkF m 346 #[.val (.int p1), .val (.long q2), .second, .val (.long q3), .second, .val (.int (p1 &&& (3 : Int32))), .val (.int (f0_s0_16 p1)), .val (.int (f0_s0_30 p1)), .val (.int (f0_s0_44 p1)), .val (.int (f0_v52 p1)), .val (.int (f0_v115 p1)), .val (.int (f0_l11_185 q2 q3)), .val (.int (f0_l12_203 q2 q3)), .val (.int (f1 q2 q3 (2 : Int32))), .val (.int (f1 q2 q3 (3 : Int32))), .val (.int (f1 q2 q3 (4 : Int32))), .val (.int (f1 q2 q3 (5 : Int32))), .val (.int (f1 q2 q3 (6 : Int32))), .val (.ref b11), .val (.int (f0_v278 p1)), .unset] [(.ref b11)])) _
    refine XS.iload X38.here hx rfl (hb hby at_346) rfl ?_
    show Steps p.tables e below (T38.setTop (mkF m 348 #[.val (.int p1), .val (.long q2), .second, .val (.long q3), .second, .val (.int (p1 &&& (3 : Int32))), .val (.int (f0_s0_16 p1)), .val (.int (f0_s0_30 p1)), .val (.int (f0_s0_44 p1)), .val (.int (f0_v52 p1)), .val (.int (f0_v115 p1)), .val (.int (f0_l11_185 q2 q3)), .val (.int (f0_l12_203 q2 q3)), .val (.int (f1 q2 q3 (2 : Int32))), .val (.int (f1 q2 q3 (3 : Int32))), .val (.int (f1 q2 q3 (4 : Int32))), .val (.int (f1 q2 q3 (5 : Int32))), .val (.int (f1 q2 q3 (6 : Int32))), .val (.ref b11), .val (.int (f0_v278 p1)), .unset] [(.int (f0_v278 p1)), (.ref b11)])) _
    refine XS.bipush X38.here hx rfl (hb hby at_348) ?_
    show Steps p.tables e below (T38.setTop (mkF m 350 #[.val (.int p1), .val (.long q2), .second, .val (.long q3), .second, .val (.int (p1 &&& (3 : Int32))), .val (.int (f0_s0_16 p1)), .val (.int (f0_s0_30 p1)), .val (.int (f0_s0_44 p1)), .val (.int (f0_v52 p1)), .val (.int (f0_v115 p1)), .val (.int (f0_l11_185 q2 q3)), .val (.int (f0_l12_203 q2 q3)), .val (.int (f1 q2 q3 (2 : Int32))), .val (.int (f1 q2 q3 (3 : Int32))), .val (.int (f1 q2 q3 (4 : Int32))), .val (.int (f1 q2 q3 (5 : Int32))), .val (.int (f1 q2 q3 (6 : Int32))), .val (.ref b11), .val (.int (f0_v278 p1)), .unset] [(.int (6 : Int32)), (.int (f0_v278 p1)), (.ref b11)])) _
    refine XS.iadd X38.here hx rfl (hb hby at_350) rfl ?_
    show Steps p.tables e below (T38.setTop (mkF m 351 #[.val (.int p1), .val (.long q2), .second, .val (.long q3), .second, .val (.int (p1 &&& (3 : Int32))), .val (.int (f0_s0_16 p1)), .val (.int (f0_s0_30 p1)), .val (.int (f0_s0_44 p1)), .val (.int (f0_v52 p1)), .val (.int (f0_v115 p1)), .val (.int (f0_l11_185 q2 q3)), .val (.int (f0_l12_203 q2 q3)), .val (.int (f1 q2 q3 (2 : Int32))), .val (.int (f1 q2 q3 (3 : Int32))), .val (.int (f1 q2 q3 (4 : Int32))), .val (.int (f1 q2 q3 (5 : Int32))), .val (.int (f1 q2 q3 (6 : Int32))), .val (.ref b11), .val (.int (f0_v278 p1)), .unset] [(.int ((f0_v278 p1) + (6 : Int32))), (.ref b11)])) _
    refine XS.iload X38.here hx rfl (hb hby at_351) rfl ?_
    show Steps p.tables e below (T38.setTop (mkF m 353 #[.val (.int p1), .val (.long q2), .second, .val (.long q3), .second, .val (.int (p1 &&& (3 : Int32))), .val (.int (f0_s0_16 p1)), .val (.int (f0_s0_30 p1)), .val (.int (f0_s0_44 p1)), .val (.int (f0_v52 p1)), .val (.int (f0_v115 p1)), .val (.int (f0_l11_185 q2 q3)), .val (.int (f0_l12_203 q2 q3)), .val (.int (f1 q2 q3 (2 : Int32))), .val (.int (f1 q2 q3 (3 : Int32))), .val (.int (f1 q2 q3 (4 : Int32))), .val (.int (f1 q2 q3 (5 : Int32))), .val (.int (f1 q2 q3 (6 : Int32))), .val (.ref b11), .val (.int (f0_v278 p1)), .unset] [(.int (f1 q2 q3 (6 : Int32))), (.int ((f0_v278 p1) + (6 : Int32))), (.ref b11)])) _
    refine st41 _ ?_
    show Steps p.tables e below (T41.setTop (mkF m 356 #[.val (.int p1), .val (.long q2), .second, .val (.long q3), .second, .val (.int (p1 &&& (3 : Int32))), .val (.int (f0_s0_16 p1)), .val (.int (f0_s0_30 p1)), .val (.int (f0_s0_44 p1)), .val (.int (f0_v52 p1)), .val (.int (f0_v115 p1)), .val (.int (f0_l11_185 q2 q3)), .val (.int (f0_l12_203 q2 q3)), .val (.int (f1 q2 q3 (2 : Int32))), .val (.int (f1 q2 q3 (3 : Int32))), .val (.int (f1 q2 q3 (4 : Int32))), .val (.int (f1 q2 q3 (5 : Int32))), .val (.int (f1 q2 q3 (6 : Int32))), .val (.ref b11), .val (.int (f0_v278 p1)), .unset] [])) _
    refine XS.iload X41.here hx rfl (hb hby at_356) rfl ?_
    show Steps p.tables e below (T41.setTop (mkF m 358 #[.val (.int p1), .val (.long q2), .second, .val (.long q3), .second, .val (.int (p1 &&& (3 : Int32))), .val (.int (f0_s0_16 p1)), .val (.int (f0_s0_30 p1)), .val (.int (f0_s0_44 p1)), .val (.int (f0_v52 p1)), .val (.int (f0_v115 p1)), .val (.int (f0_l11_185 q2 q3)), .val (.int (f0_l12_203 q2 q3)), .val (.int (f1 q2 q3 (2 : Int32))), .val (.int (f1 q2 q3 (3 : Int32))), .val (.int (f1 q2 q3 (4 : Int32))), .val (.int (f1 q2 q3 (5 : Int32))), .val (.int (f1 q2 q3 (6 : Int32))), .val (.ref b11), .val (.int (f0_v278 p1)), .unset] [(.int (f0_v52 p1))])) _
    refine XS.iconst X41.here hx rfl (hb hby at_358) ?_
    exact k
  obtain ⟨T49, Lmpre54, X49, e49, N49, pre54⟩ : ∃ (T' : State) (L' : List Loc), Stand p l e room_1 s m #[(.int p1), (.long q2), (.long q3)] below meth c T' L' 1 13 ∧ T'.heap = T41.heap ∧ Fr n0 L' ∧ ∀ t, Steps p.tables e below (T'.setTop (mkF m 407 #[.val (.int p1), .val (.long q2), .second, .val (.long q3), .second, .val (.int (p1 &&& (3 : Int32))), .val (.int (f0_s0_16 p1)), .val (.int (f0_s0_30 p1)), .val (.int (f0_s0_44 p1)), .val (.int (f0_v52 p1)), .val (.int (f0_v115 p1)), .val (.int (f0_l11_185 q2 q3)), .val (.int (f0_l12_203 q2 q3)), .val (.int (f1 q2 q3 (2 : Int32))), .val (.int (f1 q2 q3 (3 : Int32))), .val (.int (f1 q2 q3 (4 : Int32))), .val (.int (f1 q2 q3 (5 : Int32))), .val (.int (f1 q2 q3 (6 : Int32))), .val (.ref b11), .val (.int (f0_v278 p1)), .unset] [(.int (f0_s0_407 p1 q2 q3))])) t → Steps p.tables e below (s₁.setTop (entryFrame m #[(.int p1), (.long q2), (.long q3)] maxLocals)) t := by
    by_cases hc359 : (f0_v52 p1) < (5 : Int32)
    · have eq55 := (show (f0_s0_407 p1 q2 q3) = (0 : Int32) from by unfold f0_s0_407; simp only [if_pos hc359])
      refine ⟨T41, _, X41, rfl, N41, fun t k => ?_⟩
      try rw [eq55] at k
      refine pre53 t ?_
      show Steps p.tables e below (T41.setTop (mkF m 359 #[.val (.int p1), .val (.long q2), .second, .val (.long q3), .second, .val (.int (p1 &&& (3 : Int32))), .val (.int (f0_s0_16 p1)), .val (.int (f0_s0_30 p1)), .val (.int (f0_s0_44 p1)), .val (.int (f0_v52 p1)), .val (.int (f0_v115 p1)), .val (.int (f0_l11_185 q2 q3)), .val (.int (f0_l12_203 q2 q3)), .val (.int (f1 q2 q3 (2 : Int32))), .val (.int (f1 q2 q3 (3 : Int32))), .val (.int (f1 q2 q3 (4 : Int32))), .val (.int (f1 q2 q3 (5 : Int32))), .val (.int (f1 q2 q3 (6 : Int32))), .val (.ref b11), .val (.int (f0_v278 p1)), .unset] [(.int (5 : Int32)), (.int (f0_v52 p1))])) _
      refine XS.icmpYes X41.here hx rfl (pc0 := 359) (pc' := 406) rfl (hb hby at_359) rfl (tlt hc359).1 (by decide) (by decide) ?_
      show Steps p.tables e below (T41.setTop (mkF m 406 #[.val (.int p1), .val (.long q2), .second, .val (.long q3), .second, .val (.int (p1 &&& (3 : Int32))), .val (.int (f0_s0_16 p1)), .val (.int (f0_s0_30 p1)), .val (.int (f0_s0_44 p1)), .val (.int (f0_v52 p1)), .val (.int (f0_v115 p1)), .val (.int (f0_l11_185 q2 q3)), .val (.int (f0_l12_203 q2 q3)), .val (.int (f1 q2 q3 (2 : Int32))), .val (.int (f1 q2 q3 (3 : Int32))), .val (.int (f1 q2 q3 (4 : Int32))), .val (.int (f1 q2 q3 (5 : Int32))), .val (.int (f1 q2 q3 (6 : Int32))), .val (.ref b11), .val (.int (f0_v278 p1)), .unset] [])) _
      refine XS.iconst X41.here hx rfl (hb hby at_406) ?_
      exact k
    · obtain ⟨_, _, ⟨T44, L44, k44, n44⟩, -, X44, ⟨Lc44, hQ44, l44, y44, z44⟩, st44⟩ := Jvm.LawKit.callS X41 hx (y := (⟨"com/example/titlepoint/titlepoint/Iso2709ReaderBeginsWithRecordLengthPinLaw", "digit", "(B)Z"⟩ : MethodName)) hown (mvT hZ (hw _ (List.mem_of_getElem? (i := 20) rfl))) (mvT hZ (hw _ (List.mem_of_getElem? (i := 21) rfl))) (mvT hZ (hw _ (List.mem_of_getElem? (i := 2) rfl))) (mvT hZ (hw _ (List.mem_of_getElem? (i := 22) rfl))) (by decide) (backOf (W := 0) (rm6 l Z a0 hw [] (f0_l11_185 q2 q3) T41.heap n0 c42 ) hZ (hw _ (List.mem_of_getElem? (i := 22) rfl)) (hw _ (List.mem_of_getElem? (i := 2) rfl)) (by decide) (by decide)) (g := (mkF m 364 #[.val (.int p1), .val (.long q2), .second, .val (.long q3), .second, .val (.int (p1 &&& (3 : Int32))), .val (.int (f0_s0_16 p1)), .val (.int (f0_s0_30 p1)), .val (.int (f0_s0_44 p1)), .val (.int (f0_v52 p1)), .val (.int (f0_v115 p1)), .val (.int (f0_l11_185 q2 q3)), .val (.int (f0_l12_203 q2 q3)), .val (.int (f1 q2 q3 (2 : Int32))), .val (.int (f1 q2 q3 (3 : Int32))), .val (.int (f1 q2 q3 (4 : Int32))), .val (.int (f1 q2 q3 (5 : Int32))), .val (.int (f1 q2 q3 (6 : Int32))), .val (.ref b11), .val (.int (f0_v278 p1)), .unset] [(.int (f0_l11_185 q2 q3))])) rfl (by rw [hml]; rfl) (argsL := [(.int (f0_l11_185 q2 q3))]) (rest := []) (lenOf pd_4 rfl) rfl (by show 2 * 0 + _ ≤ _; exact Nat.le_of_eq rfl) (hb hby at_364) (fun _ _ => ⟨rfl, rfl, (by decide : 1 + 0 ≤ _), (by decide : 13 + 0 ≤ _)⟩)
      dsimp only [Pt.U, Pt.locs, Pt.cells, Pt.slots] at X44 l44 y44 z44 st44 hQ44
      subst l44 y44 z44
      obtain ⟨rfl, N44q, e44⟩ := hQ44
      have N44 := Fr.app N41 N44q
      have pre56 : ∀ t, Steps p.tables e below (T44.setTop (mkF m 367 #[.val (.int p1), .val (.long q2), .second, .val (.long q3), .second, .val (.int (p1 &&& (3 : Int32))), .val (.int (f0_s0_16 p1)), .val (.int (f0_s0_30 p1)), .val (.int (f0_s0_44 p1)), .val (.int (f0_v52 p1)), .val (.int (f0_v115 p1)), .val (.int (f0_l11_185 q2 q3)), .val (.int (f0_l12_203 q2 q3)), .val (.int (f1 q2 q3 (2 : Int32))), .val (.int (f1 q2 q3 (3 : Int32))), .val (.int (f1 q2 q3 (4 : Int32))), .val (.int (f1 q2 q3 (5 : Int32))), .val (.int (f1 q2 q3 (6 : Int32))), .val (.ref b11), .val (.int (f0_v278 p1)), .unset] [(.int (f6 (f0_l11_185 q2 q3)))])) t → Steps p.tables e below (s₁.setTop (entryFrame m #[(.int p1), (.long q2), (.long q3)] maxLocals)) t := by
        intro t k
        refine pre53 t ?_
        show Steps p.tables e below (T41.setTop (mkF m 359 #[.val (.int p1), .val (.long q2), .second, .val (.long q3), .second, .val (.int (p1 &&& (3 : Int32))), .val (.int (f0_s0_16 p1)), .val (.int (f0_s0_30 p1)), .val (.int (f0_s0_44 p1)), .val (.int (f0_v52 p1)), .val (.int (f0_v115 p1)), .val (.int (f0_l11_185 q2 q3)), .val (.int (f0_l12_203 q2 q3)), .val (.int (f1 q2 q3 (2 : Int32))), .val (.int (f1 q2 q3 (3 : Int32))), .val (.int (f1 q2 q3 (4 : Int32))), .val (.int (f1 q2 q3 (5 : Int32))), .val (.int (f1 q2 q3 (6 : Int32))), .val (.ref b11), .val (.int (f0_v278 p1)), .unset] [(.int (5 : Int32)), (.int (f0_v52 p1))])) _
        refine XS.icmpNo X41.here hx rfl (hb hby at_359) rfl (flt hc359).1 ?_
        show Steps p.tables e below (T41.setTop (mkF m 362 #[.val (.int p1), .val (.long q2), .second, .val (.long q3), .second, .val (.int (p1 &&& (3 : Int32))), .val (.int (f0_s0_16 p1)), .val (.int (f0_s0_30 p1)), .val (.int (f0_s0_44 p1)), .val (.int (f0_v52 p1)), .val (.int (f0_v115 p1)), .val (.int (f0_l11_185 q2 q3)), .val (.int (f0_l12_203 q2 q3)), .val (.int (f1 q2 q3 (2 : Int32))), .val (.int (f1 q2 q3 (3 : Int32))), .val (.int (f1 q2 q3 (4 : Int32))), .val (.int (f1 q2 q3 (5 : Int32))), .val (.int (f1 q2 q3 (6 : Int32))), .val (.ref b11), .val (.int (f0_v278 p1)), .unset] [])) _
        refine XS.iload X41.here hx rfl (hb hby at_362) rfl ?_
        show Steps p.tables e below (T41.setTop (mkF m 364 #[.val (.int p1), .val (.long q2), .second, .val (.long q3), .second, .val (.int (p1 &&& (3 : Int32))), .val (.int (f0_s0_16 p1)), .val (.int (f0_s0_30 p1)), .val (.int (f0_s0_44 p1)), .val (.int (f0_v52 p1)), .val (.int (f0_v115 p1)), .val (.int (f0_l11_185 q2 q3)), .val (.int (f0_l12_203 q2 q3)), .val (.int (f1 q2 q3 (2 : Int32))), .val (.int (f1 q2 q3 (3 : Int32))), .val (.int (f1 q2 q3 (4 : Int32))), .val (.int (f1 q2 q3 (5 : Int32))), .val (.int (f1 q2 q3 (6 : Int32))), .val (.ref b11), .val (.int (f0_v278 p1)), .unset] [(.int (f0_l11_185 q2 q3))])) _
        refine st44 _ ?_
        exact k
      by_cases hc367 : (f6 (f0_l11_185 q2 q3)) = (0 : Int32)
      · have eq57 := (show (f0_s0_407 p1 q2 q3) = (0 : Int32) from by unfold f0_s0_407; simp only [if_neg hc359, if_pos hc367])
        refine ⟨T44, _, X44, e44, N44, fun t k => ?_⟩
        try rw [eq57] at k
        refine pre56 t ?_
        show Steps p.tables e below (T44.setTop (mkF m 367 #[.val (.int p1), .val (.long q2), .second, .val (.long q3), .second, .val (.int (p1 &&& (3 : Int32))), .val (.int (f0_s0_16 p1)), .val (.int (f0_s0_30 p1)), .val (.int (f0_s0_44 p1)), .val (.int (f0_v52 p1)), .val (.int (f0_v115 p1)), .val (.int (f0_l11_185 q2 q3)), .val (.int (f0_l12_203 q2 q3)), .val (.int (f1 q2 q3 (2 : Int32))), .val (.int (f1 q2 q3 (3 : Int32))), .val (.int (f1 q2 q3 (4 : Int32))), .val (.int (f1 q2 q3 (5 : Int32))), .val (.int (f1 q2 q3 (6 : Int32))), .val (.ref b11), .val (.int (f0_v278 p1)), .unset] [(.int (f6 (f0_l11_185 q2 q3)))])) _
        refine XS.ifYes X44.here hx rfl (pc0 := 367) (pc' := 406) rfl (hb hby at_367) rfl ((if0 _ _).trans (teq hc367).1) (by decide) (by decide) ?_
        show Steps p.tables e below (T44.setTop (mkF m 406 #[.val (.int p1), .val (.long q2), .second, .val (.long q3), .second, .val (.int (p1 &&& (3 : Int32))), .val (.int (f0_s0_16 p1)), .val (.int (f0_s0_30 p1)), .val (.int (f0_s0_44 p1)), .val (.int (f0_v52 p1)), .val (.int (f0_v115 p1)), .val (.int (f0_l11_185 q2 q3)), .val (.int (f0_l12_203 q2 q3)), .val (.int (f1 q2 q3 (2 : Int32))), .val (.int (f1 q2 q3 (3 : Int32))), .val (.int (f1 q2 q3 (4 : Int32))), .val (.int (f1 q2 q3 (5 : Int32))), .val (.int (f1 q2 q3 (6 : Int32))), .val (.ref b11), .val (.int (f0_v278 p1)), .unset] [])) _
        refine XS.iconst X44.here hx rfl (hb hby at_406) ?_
        exact k
      · obtain ⟨_, _, ⟨T45, L45, k45, n45⟩, -, X45, ⟨Lc45, hQ45, l45, y45, z45⟩, st45⟩ := Jvm.LawKit.callS X44 hx (y := (⟨"com/example/titlepoint/titlepoint/Iso2709ReaderBeginsWithRecordLengthPinLaw", "digit", "(B)Z"⟩ : MethodName)) hown (mvT hZ (hw _ (List.mem_of_getElem? (i := 20) rfl))) (mvT hZ (hw _ (List.mem_of_getElem? (i := 21) rfl))) (mvT hZ (hw _ (List.mem_of_getElem? (i := 2) rfl))) (mvT hZ (hw _ (List.mem_of_getElem? (i := 22) rfl))) (by decide) (backOf (W := 0) (rm6 l Z a0 hw [] (f0_l12_203 q2 q3) T41.heap n0 c42 ) hZ (hw _ (List.mem_of_getElem? (i := 22) rfl)) (hw _ (List.mem_of_getElem? (i := 2) rfl)) (by decide) (by decide)) (g := (mkF m 372 #[.val (.int p1), .val (.long q2), .second, .val (.long q3), .second, .val (.int (p1 &&& (3 : Int32))), .val (.int (f0_s0_16 p1)), .val (.int (f0_s0_30 p1)), .val (.int (f0_s0_44 p1)), .val (.int (f0_v52 p1)), .val (.int (f0_v115 p1)), .val (.int (f0_l11_185 q2 q3)), .val (.int (f0_l12_203 q2 q3)), .val (.int (f1 q2 q3 (2 : Int32))), .val (.int (f1 q2 q3 (3 : Int32))), .val (.int (f1 q2 q3 (4 : Int32))), .val (.int (f1 q2 q3 (5 : Int32))), .val (.int (f1 q2 q3 (6 : Int32))), .val (.ref b11), .val (.int (f0_v278 p1)), .unset] [(.int (f0_l12_203 q2 q3))])) rfl (by rw [hml]; rfl) (argsL := [(.int (f0_l12_203 q2 q3))]) (rest := []) (lenOf pd_4 rfl) rfl (by show 2 * 0 + _ ≤ _; exact Nat.le_of_eq rfl) (hb hby at_372) (fun _ _ => ⟨rfl, e44, (by decide : 1 + 0 ≤ _), (by decide : 13 + 0 ≤ _)⟩)
        dsimp only [Pt.U, Pt.locs, Pt.cells, Pt.slots] at X45 l45 y45 z45 st45 hQ45
        subst l45 y45 z45
        obtain ⟨rfl, N45q, e45⟩ := hQ45
        have N45 := Fr.app N44 N45q
        have pre58 : ∀ t, Steps p.tables e below (T45.setTop (mkF m 375 #[.val (.int p1), .val (.long q2), .second, .val (.long q3), .second, .val (.int (p1 &&& (3 : Int32))), .val (.int (f0_s0_16 p1)), .val (.int (f0_s0_30 p1)), .val (.int (f0_s0_44 p1)), .val (.int (f0_v52 p1)), .val (.int (f0_v115 p1)), .val (.int (f0_l11_185 q2 q3)), .val (.int (f0_l12_203 q2 q3)), .val (.int (f1 q2 q3 (2 : Int32))), .val (.int (f1 q2 q3 (3 : Int32))), .val (.int (f1 q2 q3 (4 : Int32))), .val (.int (f1 q2 q3 (5 : Int32))), .val (.int (f1 q2 q3 (6 : Int32))), .val (.ref b11), .val (.int (f0_v278 p1)), .unset] [(.int (f6 (f0_l12_203 q2 q3)))])) t → Steps p.tables e below (s₁.setTop (entryFrame m #[(.int p1), (.long q2), (.long q3)] maxLocals)) t := by
          intro t k
          refine pre56 t ?_
          show Steps p.tables e below (T44.setTop (mkF m 367 #[.val (.int p1), .val (.long q2), .second, .val (.long q3), .second, .val (.int (p1 &&& (3 : Int32))), .val (.int (f0_s0_16 p1)), .val (.int (f0_s0_30 p1)), .val (.int (f0_s0_44 p1)), .val (.int (f0_v52 p1)), .val (.int (f0_v115 p1)), .val (.int (f0_l11_185 q2 q3)), .val (.int (f0_l12_203 q2 q3)), .val (.int (f1 q2 q3 (2 : Int32))), .val (.int (f1 q2 q3 (3 : Int32))), .val (.int (f1 q2 q3 (4 : Int32))), .val (.int (f1 q2 q3 (5 : Int32))), .val (.int (f1 q2 q3 (6 : Int32))), .val (.ref b11), .val (.int (f0_v278 p1)), .unset] [(.int (f6 (f0_l11_185 q2 q3)))])) _
          refine XS.ifNo X44.here hx rfl (hb hby at_367) rfl ((if0 _ _).trans (feq hc367).1) ?_
          show Steps p.tables e below (T44.setTop (mkF m 370 #[.val (.int p1), .val (.long q2), .second, .val (.long q3), .second, .val (.int (p1 &&& (3 : Int32))), .val (.int (f0_s0_16 p1)), .val (.int (f0_s0_30 p1)), .val (.int (f0_s0_44 p1)), .val (.int (f0_v52 p1)), .val (.int (f0_v115 p1)), .val (.int (f0_l11_185 q2 q3)), .val (.int (f0_l12_203 q2 q3)), .val (.int (f1 q2 q3 (2 : Int32))), .val (.int (f1 q2 q3 (3 : Int32))), .val (.int (f1 q2 q3 (4 : Int32))), .val (.int (f1 q2 q3 (5 : Int32))), .val (.int (f1 q2 q3 (6 : Int32))), .val (.ref b11), .val (.int (f0_v278 p1)), .unset] [])) _
          refine XS.iload X44.here hx rfl (hb hby at_370) rfl ?_
          show Steps p.tables e below (T44.setTop (mkF m 372 #[.val (.int p1), .val (.long q2), .second, .val (.long q3), .second, .val (.int (p1 &&& (3 : Int32))), .val (.int (f0_s0_16 p1)), .val (.int (f0_s0_30 p1)), .val (.int (f0_s0_44 p1)), .val (.int (f0_v52 p1)), .val (.int (f0_v115 p1)), .val (.int (f0_l11_185 q2 q3)), .val (.int (f0_l12_203 q2 q3)), .val (.int (f1 q2 q3 (2 : Int32))), .val (.int (f1 q2 q3 (3 : Int32))), .val (.int (f1 q2 q3 (4 : Int32))), .val (.int (f1 q2 q3 (5 : Int32))), .val (.int (f1 q2 q3 (6 : Int32))), .val (.ref b11), .val (.int (f0_v278 p1)), .unset] [(.int (f0_l12_203 q2 q3))])) _
          refine st45 _ ?_
          exact k
        by_cases hc375 : (f6 (f0_l12_203 q2 q3)) = (0 : Int32)
        · have eq59 := (show (f0_s0_407 p1 q2 q3) = (0 : Int32) from by unfold f0_s0_407; simp only [if_neg hc359, if_neg hc367, if_pos hc375])
          refine ⟨T45, _, X45, e45, N45, fun t k => ?_⟩
          try rw [eq59] at k
          refine pre58 t ?_
          show Steps p.tables e below (T45.setTop (mkF m 375 #[.val (.int p1), .val (.long q2), .second, .val (.long q3), .second, .val (.int (p1 &&& (3 : Int32))), .val (.int (f0_s0_16 p1)), .val (.int (f0_s0_30 p1)), .val (.int (f0_s0_44 p1)), .val (.int (f0_v52 p1)), .val (.int (f0_v115 p1)), .val (.int (f0_l11_185 q2 q3)), .val (.int (f0_l12_203 q2 q3)), .val (.int (f1 q2 q3 (2 : Int32))), .val (.int (f1 q2 q3 (3 : Int32))), .val (.int (f1 q2 q3 (4 : Int32))), .val (.int (f1 q2 q3 (5 : Int32))), .val (.int (f1 q2 q3 (6 : Int32))), .val (.ref b11), .val (.int (f0_v278 p1)), .unset] [(.int (f6 (f0_l12_203 q2 q3)))])) _
          refine XS.ifYes X45.here hx rfl (pc0 := 375) (pc' := 406) rfl (hb hby at_375) rfl ((if0 _ _).trans (teq hc375).1) (by decide) (by decide) ?_
          show Steps p.tables e below (T45.setTop (mkF m 406 #[.val (.int p1), .val (.long q2), .second, .val (.long q3), .second, .val (.int (p1 &&& (3 : Int32))), .val (.int (f0_s0_16 p1)), .val (.int (f0_s0_30 p1)), .val (.int (f0_s0_44 p1)), .val (.int (f0_v52 p1)), .val (.int (f0_v115 p1)), .val (.int (f0_l11_185 q2 q3)), .val (.int (f0_l12_203 q2 q3)), .val (.int (f1 q2 q3 (2 : Int32))), .val (.int (f1 q2 q3 (3 : Int32))), .val (.int (f1 q2 q3 (4 : Int32))), .val (.int (f1 q2 q3 (5 : Int32))), .val (.int (f1 q2 q3 (6 : Int32))), .val (.ref b11), .val (.int (f0_v278 p1)), .unset] [])) _
          refine XS.iconst X45.here hx rfl (hb hby at_406) ?_
          exact k
        · obtain ⟨_, _, ⟨T46, L46, k46, n46⟩, -, X46, ⟨Lc46, hQ46, l46, y46, z46⟩, st46⟩ := Jvm.LawKit.callS X45 hx (y := (⟨"com/example/titlepoint/titlepoint/Iso2709ReaderBeginsWithRecordLengthPinLaw", "digit", "(B)Z"⟩ : MethodName)) hown (mvT hZ (hw _ (List.mem_of_getElem? (i := 20) rfl))) (mvT hZ (hw _ (List.mem_of_getElem? (i := 21) rfl))) (mvT hZ (hw _ (List.mem_of_getElem? (i := 2) rfl))) (mvT hZ (hw _ (List.mem_of_getElem? (i := 22) rfl))) (by decide) (backOf (W := 0) (rm6 l Z a0 hw [] (f1 q2 q3 (2 : Int32)) T41.heap n0 c42 ) hZ (hw _ (List.mem_of_getElem? (i := 22) rfl)) (hw _ (List.mem_of_getElem? (i := 2) rfl)) (by decide) (by decide)) (g := (mkF m 380 #[.val (.int p1), .val (.long q2), .second, .val (.long q3), .second, .val (.int (p1 &&& (3 : Int32))), .val (.int (f0_s0_16 p1)), .val (.int (f0_s0_30 p1)), .val (.int (f0_s0_44 p1)), .val (.int (f0_v52 p1)), .val (.int (f0_v115 p1)), .val (.int (f0_l11_185 q2 q3)), .val (.int (f0_l12_203 q2 q3)), .val (.int (f1 q2 q3 (2 : Int32))), .val (.int (f1 q2 q3 (3 : Int32))), .val (.int (f1 q2 q3 (4 : Int32))), .val (.int (f1 q2 q3 (5 : Int32))), .val (.int (f1 q2 q3 (6 : Int32))), .val (.ref b11), .val (.int (f0_v278 p1)), .unset] [(.int (f1 q2 q3 (2 : Int32)))])) rfl (by rw [hml]; rfl) (argsL := [(.int (f1 q2 q3 (2 : Int32)))]) (rest := []) (lenOf pd_4 rfl) rfl (by show 2 * 0 + _ ≤ _; exact Nat.le_of_eq rfl) (hb hby at_380) (fun _ _ => ⟨rfl, e45, (by decide : 1 + 0 ≤ _), (by decide : 13 + 0 ≤ _)⟩)
          dsimp only [Pt.U, Pt.locs, Pt.cells, Pt.slots] at X46 l46 y46 z46 st46 hQ46
          subst l46 y46 z46
          obtain ⟨rfl, N46q, e46⟩ := hQ46
          have N46 := Fr.app N45 N46q
          have pre60 : ∀ t, Steps p.tables e below (T46.setTop (mkF m 383 #[.val (.int p1), .val (.long q2), .second, .val (.long q3), .second, .val (.int (p1 &&& (3 : Int32))), .val (.int (f0_s0_16 p1)), .val (.int (f0_s0_30 p1)), .val (.int (f0_s0_44 p1)), .val (.int (f0_v52 p1)), .val (.int (f0_v115 p1)), .val (.int (f0_l11_185 q2 q3)), .val (.int (f0_l12_203 q2 q3)), .val (.int (f1 q2 q3 (2 : Int32))), .val (.int (f1 q2 q3 (3 : Int32))), .val (.int (f1 q2 q3 (4 : Int32))), .val (.int (f1 q2 q3 (5 : Int32))), .val (.int (f1 q2 q3 (6 : Int32))), .val (.ref b11), .val (.int (f0_v278 p1)), .unset] [(.int (f6 (f1 q2 q3 (2 : Int32))))])) t → Steps p.tables e below (s₁.setTop (entryFrame m #[(.int p1), (.long q2), (.long q3)] maxLocals)) t := by
            intro t k
            refine pre58 t ?_
            show Steps p.tables e below (T45.setTop (mkF m 375 #[.val (.int p1), .val (.long q2), .second, .val (.long q3), .second, .val (.int (p1 &&& (3 : Int32))), .val (.int (f0_s0_16 p1)), .val (.int (f0_s0_30 p1)), .val (.int (f0_s0_44 p1)), .val (.int (f0_v52 p1)), .val (.int (f0_v115 p1)), .val (.int (f0_l11_185 q2 q3)), .val (.int (f0_l12_203 q2 q3)), .val (.int (f1 q2 q3 (2 : Int32))), .val (.int (f1 q2 q3 (3 : Int32))), .val (.int (f1 q2 q3 (4 : Int32))), .val (.int (f1 q2 q3 (5 : Int32))), .val (.int (f1 q2 q3 (6 : Int32))), .val (.ref b11), .val (.int (f0_v278 p1)), .unset] [(.int (f6 (f0_l12_203 q2 q3)))])) _
            refine XS.ifNo X45.here hx rfl (hb hby at_375) rfl ((if0 _ _).trans (feq hc375).1) ?_
            show Steps p.tables e below (T45.setTop (mkF m 378 #[.val (.int p1), .val (.long q2), .second, .val (.long q3), .second, .val (.int (p1 &&& (3 : Int32))), .val (.int (f0_s0_16 p1)), .val (.int (f0_s0_30 p1)), .val (.int (f0_s0_44 p1)), .val (.int (f0_v52 p1)), .val (.int (f0_v115 p1)), .val (.int (f0_l11_185 q2 q3)), .val (.int (f0_l12_203 q2 q3)), .val (.int (f1 q2 q3 (2 : Int32))), .val (.int (f1 q2 q3 (3 : Int32))), .val (.int (f1 q2 q3 (4 : Int32))), .val (.int (f1 q2 q3 (5 : Int32))), .val (.int (f1 q2 q3 (6 : Int32))), .val (.ref b11), .val (.int (f0_v278 p1)), .unset] [])) _
            refine XS.iload X45.here hx rfl (hb hby at_378) rfl ?_
            show Steps p.tables e below (T45.setTop (mkF m 380 #[.val (.int p1), .val (.long q2), .second, .val (.long q3), .second, .val (.int (p1 &&& (3 : Int32))), .val (.int (f0_s0_16 p1)), .val (.int (f0_s0_30 p1)), .val (.int (f0_s0_44 p1)), .val (.int (f0_v52 p1)), .val (.int (f0_v115 p1)), .val (.int (f0_l11_185 q2 q3)), .val (.int (f0_l12_203 q2 q3)), .val (.int (f1 q2 q3 (2 : Int32))), .val (.int (f1 q2 q3 (3 : Int32))), .val (.int (f1 q2 q3 (4 : Int32))), .val (.int (f1 q2 q3 (5 : Int32))), .val (.int (f1 q2 q3 (6 : Int32))), .val (.ref b11), .val (.int (f0_v278 p1)), .unset] [(.int (f1 q2 q3 (2 : Int32)))])) _
            refine st46 _ ?_
            exact k
          by_cases hc383 : (f6 (f1 q2 q3 (2 : Int32))) = (0 : Int32)
          · have eq61 := (show (f0_s0_407 p1 q2 q3) = (0 : Int32) from by unfold f0_s0_407; simp only [if_neg hc359, if_neg hc367, if_neg hc375, if_pos hc383])
            refine ⟨T46, _, X46, e46, N46, fun t k => ?_⟩
            try rw [eq61] at k
            refine pre60 t ?_
            show Steps p.tables e below (T46.setTop (mkF m 383 #[.val (.int p1), .val (.long q2), .second, .val (.long q3), .second, .val (.int (p1 &&& (3 : Int32))), .val (.int (f0_s0_16 p1)), .val (.int (f0_s0_30 p1)), .val (.int (f0_s0_44 p1)), .val (.int (f0_v52 p1)), .val (.int (f0_v115 p1)), .val (.int (f0_l11_185 q2 q3)), .val (.int (f0_l12_203 q2 q3)), .val (.int (f1 q2 q3 (2 : Int32))), .val (.int (f1 q2 q3 (3 : Int32))), .val (.int (f1 q2 q3 (4 : Int32))), .val (.int (f1 q2 q3 (5 : Int32))), .val (.int (f1 q2 q3 (6 : Int32))), .val (.ref b11), .val (.int (f0_v278 p1)), .unset] [(.int (f6 (f1 q2 q3 (2 : Int32))))])) _
            refine XS.ifYes X46.here hx rfl (pc0 := 383) (pc' := 406) rfl (hb hby at_383) rfl ((if0 _ _).trans (teq hc383).1) (by decide) (by decide) ?_
            show Steps p.tables e below (T46.setTop (mkF m 406 #[.val (.int p1), .val (.long q2), .second, .val (.long q3), .second, .val (.int (p1 &&& (3 : Int32))), .val (.int (f0_s0_16 p1)), .val (.int (f0_s0_30 p1)), .val (.int (f0_s0_44 p1)), .val (.int (f0_v52 p1)), .val (.int (f0_v115 p1)), .val (.int (f0_l11_185 q2 q3)), .val (.int (f0_l12_203 q2 q3)), .val (.int (f1 q2 q3 (2 : Int32))), .val (.int (f1 q2 q3 (3 : Int32))), .val (.int (f1 q2 q3 (4 : Int32))), .val (.int (f1 q2 q3 (5 : Int32))), .val (.int (f1 q2 q3 (6 : Int32))), .val (.ref b11), .val (.int (f0_v278 p1)), .unset] [])) _
            refine XS.iconst X46.here hx rfl (hb hby at_406) ?_
            exact k
          · obtain ⟨_, _, ⟨T47, L47, k47, n47⟩, -, X47, ⟨Lc47, hQ47, l47, y47, z47⟩, st47⟩ := Jvm.LawKit.callS X46 hx (y := (⟨"com/example/titlepoint/titlepoint/Iso2709ReaderBeginsWithRecordLengthPinLaw", "digit", "(B)Z"⟩ : MethodName)) hown (mvT hZ (hw _ (List.mem_of_getElem? (i := 20) rfl))) (mvT hZ (hw _ (List.mem_of_getElem? (i := 21) rfl))) (mvT hZ (hw _ (List.mem_of_getElem? (i := 2) rfl))) (mvT hZ (hw _ (List.mem_of_getElem? (i := 22) rfl))) (by decide) (backOf (W := 0) (rm6 l Z a0 hw [] (f1 q2 q3 (3 : Int32)) T41.heap n0 c42 ) hZ (hw _ (List.mem_of_getElem? (i := 22) rfl)) (hw _ (List.mem_of_getElem? (i := 2) rfl)) (by decide) (by decide)) (g := (mkF m 388 #[.val (.int p1), .val (.long q2), .second, .val (.long q3), .second, .val (.int (p1 &&& (3 : Int32))), .val (.int (f0_s0_16 p1)), .val (.int (f0_s0_30 p1)), .val (.int (f0_s0_44 p1)), .val (.int (f0_v52 p1)), .val (.int (f0_v115 p1)), .val (.int (f0_l11_185 q2 q3)), .val (.int (f0_l12_203 q2 q3)), .val (.int (f1 q2 q3 (2 : Int32))), .val (.int (f1 q2 q3 (3 : Int32))), .val (.int (f1 q2 q3 (4 : Int32))), .val (.int (f1 q2 q3 (5 : Int32))), .val (.int (f1 q2 q3 (6 : Int32))), .val (.ref b11), .val (.int (f0_v278 p1)), .unset] [(.int (f1 q2 q3 (3 : Int32)))])) rfl (by rw [hml]; rfl) (argsL := [(.int (f1 q2 q3 (3 : Int32)))]) (rest := []) (lenOf pd_4 rfl) rfl (by show 2 * 0 + _ ≤ _; exact Nat.le_of_eq rfl) (hb hby at_388) (fun _ _ => ⟨rfl, e46, (by decide : 1 + 0 ≤ _), (by decide : 13 + 0 ≤ _)⟩)
            dsimp only [Pt.U, Pt.locs, Pt.cells, Pt.slots] at X47 l47 y47 z47 st47 hQ47
            subst l47 y47 z47
            obtain ⟨rfl, N47q, e47⟩ := hQ47
            have N47 := Fr.app N46 N47q
            have pre62 : ∀ t, Steps p.tables e below (T47.setTop (mkF m 391 #[.val (.int p1), .val (.long q2), .second, .val (.long q3), .second, .val (.int (p1 &&& (3 : Int32))), .val (.int (f0_s0_16 p1)), .val (.int (f0_s0_30 p1)), .val (.int (f0_s0_44 p1)), .val (.int (f0_v52 p1)), .val (.int (f0_v115 p1)), .val (.int (f0_l11_185 q2 q3)), .val (.int (f0_l12_203 q2 q3)), .val (.int (f1 q2 q3 (2 : Int32))), .val (.int (f1 q2 q3 (3 : Int32))), .val (.int (f1 q2 q3 (4 : Int32))), .val (.int (f1 q2 q3 (5 : Int32))), .val (.int (f1 q2 q3 (6 : Int32))), .val (.ref b11), .val (.int (f0_v278 p1)), .unset] [(.int (f6 (f1 q2 q3 (3 : Int32))))])) t → Steps p.tables e below (s₁.setTop (entryFrame m #[(.int p1), (.long q2), (.long q3)] maxLocals)) t := by
              intro t k
              refine pre60 t ?_
              show Steps p.tables e below (T46.setTop (mkF m 383 #[.val (.int p1), .val (.long q2), .second, .val (.long q3), .second, .val (.int (p1 &&& (3 : Int32))), .val (.int (f0_s0_16 p1)), .val (.int (f0_s0_30 p1)), .val (.int (f0_s0_44 p1)), .val (.int (f0_v52 p1)), .val (.int (f0_v115 p1)), .val (.int (f0_l11_185 q2 q3)), .val (.int (f0_l12_203 q2 q3)), .val (.int (f1 q2 q3 (2 : Int32))), .val (.int (f1 q2 q3 (3 : Int32))), .val (.int (f1 q2 q3 (4 : Int32))), .val (.int (f1 q2 q3 (5 : Int32))), .val (.int (f1 q2 q3 (6 : Int32))), .val (.ref b11), .val (.int (f0_v278 p1)), .unset] [(.int (f6 (f1 q2 q3 (2 : Int32))))])) _
              refine XS.ifNo X46.here hx rfl (hb hby at_383) rfl ((if0 _ _).trans (feq hc383).1) ?_
              show Steps p.tables e below (T46.setTop (mkF m 386 #[.val (.int p1), .val (.long q2), .second, .val (.long q3), .second, .val (.int (p1 &&& (3 : Int32))), .val (.int (f0_s0_16 p1)), .val (.int (f0_s0_30 p1)), .val (.int (f0_s0_44 p1)), .val (.int (f0_v52 p1)), .val (.int (f0_v115 p1)), .val (.int (f0_l11_185 q2 q3)), .val (.int (f0_l12_203 q2 q3)), .val (.int (f1 q2 q3 (2 : Int32))), .val (.int (f1 q2 q3 (3 : Int32))), .val (.int (f1 q2 q3 (4 : Int32))), .val (.int (f1 q2 q3 (5 : Int32))), .val (.int (f1 q2 q3 (6 : Int32))), .val (.ref b11), .val (.int (f0_v278 p1)), .unset] [])) _
              refine XS.iload X46.here hx rfl (hb hby at_386) rfl ?_
              show Steps p.tables e below (T46.setTop (mkF m 388 #[.val (.int p1), .val (.long q2), .second, .val (.long q3), .second, .val (.int (p1 &&& (3 : Int32))), .val (.int (f0_s0_16 p1)), .val (.int (f0_s0_30 p1)), .val (.int (f0_s0_44 p1)), .val (.int (f0_v52 p1)), .val (.int (f0_v115 p1)), .val (.int (f0_l11_185 q2 q3)), .val (.int (f0_l12_203 q2 q3)), .val (.int (f1 q2 q3 (2 : Int32))), .val (.int (f1 q2 q3 (3 : Int32))), .val (.int (f1 q2 q3 (4 : Int32))), .val (.int (f1 q2 q3 (5 : Int32))), .val (.int (f1 q2 q3 (6 : Int32))), .val (.ref b11), .val (.int (f0_v278 p1)), .unset] [(.int (f1 q2 q3 (3 : Int32)))])) _
              refine st47 _ ?_
              exact k
            by_cases hc391 : (f6 (f1 q2 q3 (3 : Int32))) = (0 : Int32)
            · have eq63 := (show (f0_s0_407 p1 q2 q3) = (0 : Int32) from by unfold f0_s0_407; simp only [if_neg hc359, if_neg hc367, if_neg hc375, if_neg hc383, if_pos hc391])
              refine ⟨T47, _, X47, e47, N47, fun t k => ?_⟩
              try rw [eq63] at k
              refine pre62 t ?_
              show Steps p.tables e below (T47.setTop (mkF m 391 #[.val (.int p1), .val (.long q2), .second, .val (.long q3), .second, .val (.int (p1 &&& (3 : Int32))), .val (.int (f0_s0_16 p1)), .val (.int (f0_s0_30 p1)), .val (.int (f0_s0_44 p1)), .val (.int (f0_v52 p1)), .val (.int (f0_v115 p1)), .val (.int (f0_l11_185 q2 q3)), .val (.int (f0_l12_203 q2 q3)), .val (.int (f1 q2 q3 (2 : Int32))), .val (.int (f1 q2 q3 (3 : Int32))), .val (.int (f1 q2 q3 (4 : Int32))), .val (.int (f1 q2 q3 (5 : Int32))), .val (.int (f1 q2 q3 (6 : Int32))), .val (.ref b11), .val (.int (f0_v278 p1)), .unset] [(.int (f6 (f1 q2 q3 (3 : Int32))))])) _
              refine XS.ifYes X47.here hx rfl (pc0 := 391) (pc' := 406) rfl (hb hby at_391) rfl ((if0 _ _).trans (teq hc391).1) (by decide) (by decide) ?_
              show Steps p.tables e below (T47.setTop (mkF m 406 #[.val (.int p1), .val (.long q2), .second, .val (.long q3), .second, .val (.int (p1 &&& (3 : Int32))), .val (.int (f0_s0_16 p1)), .val (.int (f0_s0_30 p1)), .val (.int (f0_s0_44 p1)), .val (.int (f0_v52 p1)), .val (.int (f0_v115 p1)), .val (.int (f0_l11_185 q2 q3)), .val (.int (f0_l12_203 q2 q3)), .val (.int (f1 q2 q3 (2 : Int32))), .val (.int (f1 q2 q3 (3 : Int32))), .val (.int (f1 q2 q3 (4 : Int32))), .val (.int (f1 q2 q3 (5 : Int32))), .val (.int (f1 q2 q3 (6 : Int32))), .val (.ref b11), .val (.int (f0_v278 p1)), .unset] [])) _
              refine XS.iconst X47.here hx rfl (hb hby at_406) ?_
              exact k
            · obtain ⟨_, _, ⟨T48, L48, k48, n48⟩, -, X48, ⟨Lc48, hQ48, l48, y48, z48⟩, st48⟩ := Jvm.LawKit.callS X47 hx (y := (⟨"com/example/titlepoint/titlepoint/Iso2709ReaderBeginsWithRecordLengthPinLaw", "digit", "(B)Z"⟩ : MethodName)) hown (mvT hZ (hw _ (List.mem_of_getElem? (i := 20) rfl))) (mvT hZ (hw _ (List.mem_of_getElem? (i := 21) rfl))) (mvT hZ (hw _ (List.mem_of_getElem? (i := 2) rfl))) (mvT hZ (hw _ (List.mem_of_getElem? (i := 22) rfl))) (by decide) (backOf (W := 0) (rm6 l Z a0 hw [] (f1 q2 q3 (4 : Int32)) T41.heap n0 c42 ) hZ (hw _ (List.mem_of_getElem? (i := 22) rfl)) (hw _ (List.mem_of_getElem? (i := 2) rfl)) (by decide) (by decide)) (g := (mkF m 396 #[.val (.int p1), .val (.long q2), .second, .val (.long q3), .second, .val (.int (p1 &&& (3 : Int32))), .val (.int (f0_s0_16 p1)), .val (.int (f0_s0_30 p1)), .val (.int (f0_s0_44 p1)), .val (.int (f0_v52 p1)), .val (.int (f0_v115 p1)), .val (.int (f0_l11_185 q2 q3)), .val (.int (f0_l12_203 q2 q3)), .val (.int (f1 q2 q3 (2 : Int32))), .val (.int (f1 q2 q3 (3 : Int32))), .val (.int (f1 q2 q3 (4 : Int32))), .val (.int (f1 q2 q3 (5 : Int32))), .val (.int (f1 q2 q3 (6 : Int32))), .val (.ref b11), .val (.int (f0_v278 p1)), .unset] [(.int (f1 q2 q3 (4 : Int32)))])) rfl (by rw [hml]; rfl) (argsL := [(.int (f1 q2 q3 (4 : Int32)))]) (rest := []) (lenOf pd_4 rfl) rfl (by show 2 * 0 + _ ≤ _; exact Nat.le_of_eq rfl) (hb hby at_396) (fun _ _ => ⟨rfl, e47, (by decide : 1 + 0 ≤ _), (by decide : 13 + 0 ≤ _)⟩)
              dsimp only [Pt.U, Pt.locs, Pt.cells, Pt.slots] at X48 l48 y48 z48 st48 hQ48
              subst l48 y48 z48
              obtain ⟨rfl, N48q, e48⟩ := hQ48
              have N48 := Fr.app N47 N48q
              have pre64 : ∀ t, Steps p.tables e below (T48.setTop (mkF m 399 #[.val (.int p1), .val (.long q2), .second, .val (.long q3), .second, .val (.int (p1 &&& (3 : Int32))), .val (.int (f0_s0_16 p1)), .val (.int (f0_s0_30 p1)), .val (.int (f0_s0_44 p1)), .val (.int (f0_v52 p1)), .val (.int (f0_v115 p1)), .val (.int (f0_l11_185 q2 q3)), .val (.int (f0_l12_203 q2 q3)), .val (.int (f1 q2 q3 (2 : Int32))), .val (.int (f1 q2 q3 (3 : Int32))), .val (.int (f1 q2 q3 (4 : Int32))), .val (.int (f1 q2 q3 (5 : Int32))), .val (.int (f1 q2 q3 (6 : Int32))), .val (.ref b11), .val (.int (f0_v278 p1)), .unset] [(.int (f6 (f1 q2 q3 (4 : Int32))))])) t → Steps p.tables e below (s₁.setTop (entryFrame m #[(.int p1), (.long q2), (.long q3)] maxLocals)) t := by
                intro t k
                refine pre62 t ?_
                show Steps p.tables e below (T47.setTop (mkF m 391 #[.val (.int p1), .val (.long q2), .second, .val (.long q3), .second, .val (.int (p1 &&& (3 : Int32))), .val (.int (f0_s0_16 p1)), .val (.int (f0_s0_30 p1)), .val (.int (f0_s0_44 p1)), .val (.int (f0_v52 p1)), .val (.int (f0_v115 p1)), .val (.int (f0_l11_185 q2 q3)), .val (.int (f0_l12_203 q2 q3)), .val (.int (f1 q2 q3 (2 : Int32))), .val (.int (f1 q2 q3 (3 : Int32))), .val (.int (f1 q2 q3 (4 : Int32))), .val (.int (f1 q2 q3 (5 : Int32))), .val (.int (f1 q2 q3 (6 : Int32))), .val (.ref b11), .val (.int (f0_v278 p1)), .unset] [(.int (f6 (f1 q2 q3 (3 : Int32))))])) _
                refine XS.ifNo X47.here hx rfl (hb hby at_391) rfl ((if0 _ _).trans (feq hc391).1) ?_
                show Steps p.tables e below (T47.setTop (mkF m 394 #[.val (.int p1), .val (.long q2), .second, .val (.long q3), .second, .val (.int (p1 &&& (3 : Int32))), .val (.int (f0_s0_16 p1)), .val (.int (f0_s0_30 p1)), .val (.int (f0_s0_44 p1)), .val (.int (f0_v52 p1)), .val (.int (f0_v115 p1)), .val (.int (f0_l11_185 q2 q3)), .val (.int (f0_l12_203 q2 q3)), .val (.int (f1 q2 q3 (2 : Int32))), .val (.int (f1 q2 q3 (3 : Int32))), .val (.int (f1 q2 q3 (4 : Int32))), .val (.int (f1 q2 q3 (5 : Int32))), .val (.int (f1 q2 q3 (6 : Int32))), .val (.ref b11), .val (.int (f0_v278 p1)), .unset] [])) _
                refine XS.iload X47.here hx rfl (hb hby at_394) rfl ?_
                show Steps p.tables e below (T47.setTop (mkF m 396 #[.val (.int p1), .val (.long q2), .second, .val (.long q3), .second, .val (.int (p1 &&& (3 : Int32))), .val (.int (f0_s0_16 p1)), .val (.int (f0_s0_30 p1)), .val (.int (f0_s0_44 p1)), .val (.int (f0_v52 p1)), .val (.int (f0_v115 p1)), .val (.int (f0_l11_185 q2 q3)), .val (.int (f0_l12_203 q2 q3)), .val (.int (f1 q2 q3 (2 : Int32))), .val (.int (f1 q2 q3 (3 : Int32))), .val (.int (f1 q2 q3 (4 : Int32))), .val (.int (f1 q2 q3 (5 : Int32))), .val (.int (f1 q2 q3 (6 : Int32))), .val (.ref b11), .val (.int (f0_v278 p1)), .unset] [(.int (f1 q2 q3 (4 : Int32)))])) _
                refine st48 _ ?_
                exact k
              by_cases hc399 : (f6 (f1 q2 q3 (4 : Int32))) = (0 : Int32)
              · have eq65 := (show (f0_s0_407 p1 q2 q3) = (0 : Int32) from by unfold f0_s0_407; simp only [if_neg hc359, if_neg hc367, if_neg hc375, if_neg hc383, if_neg hc391, if_pos hc399])
                refine ⟨T48, _, X48, e48, N48, fun t k => ?_⟩
                try rw [eq65] at k
                refine pre64 t ?_
                show Steps p.tables e below (T48.setTop (mkF m 399 #[.val (.int p1), .val (.long q2), .second, .val (.long q3), .second, .val (.int (p1 &&& (3 : Int32))), .val (.int (f0_s0_16 p1)), .val (.int (f0_s0_30 p1)), .val (.int (f0_s0_44 p1)), .val (.int (f0_v52 p1)), .val (.int (f0_v115 p1)), .val (.int (f0_l11_185 q2 q3)), .val (.int (f0_l12_203 q2 q3)), .val (.int (f1 q2 q3 (2 : Int32))), .val (.int (f1 q2 q3 (3 : Int32))), .val (.int (f1 q2 q3 (4 : Int32))), .val (.int (f1 q2 q3 (5 : Int32))), .val (.int (f1 q2 q3 (6 : Int32))), .val (.ref b11), .val (.int (f0_v278 p1)), .unset] [(.int (f6 (f1 q2 q3 (4 : Int32))))])) _
                refine XS.ifYes X48.here hx rfl (pc0 := 399) (pc' := 406) rfl (hb hby at_399) rfl ((if0 _ _).trans (teq hc399).1) (by decide) (by decide) ?_
                show Steps p.tables e below (T48.setTop (mkF m 406 #[.val (.int p1), .val (.long q2), .second, .val (.long q3), .second, .val (.int (p1 &&& (3 : Int32))), .val (.int (f0_s0_16 p1)), .val (.int (f0_s0_30 p1)), .val (.int (f0_s0_44 p1)), .val (.int (f0_v52 p1)), .val (.int (f0_v115 p1)), .val (.int (f0_l11_185 q2 q3)), .val (.int (f0_l12_203 q2 q3)), .val (.int (f1 q2 q3 (2 : Int32))), .val (.int (f1 q2 q3 (3 : Int32))), .val (.int (f1 q2 q3 (4 : Int32))), .val (.int (f1 q2 q3 (5 : Int32))), .val (.int (f1 q2 q3 (6 : Int32))), .val (.ref b11), .val (.int (f0_v278 p1)), .unset] [])) _
                refine XS.iconst X48.here hx rfl (hb hby at_406) ?_
                exact k
              · have eq66 := (show (f0_s0_407 p1 q2 q3) = (1 : Int32) from by unfold f0_s0_407; simp only [if_neg hc359, if_neg hc367, if_neg hc375, if_neg hc383, if_neg hc391, if_neg hc399])
                refine ⟨T48, _, X48, e48, N48, fun t k => ?_⟩
                try rw [eq66] at k
                refine pre64 t ?_
                show Steps p.tables e below (T48.setTop (mkF m 399 #[.val (.int p1), .val (.long q2), .second, .val (.long q3), .second, .val (.int (p1 &&& (3 : Int32))), .val (.int (f0_s0_16 p1)), .val (.int (f0_s0_30 p1)), .val (.int (f0_s0_44 p1)), .val (.int (f0_v52 p1)), .val (.int (f0_v115 p1)), .val (.int (f0_l11_185 q2 q3)), .val (.int (f0_l12_203 q2 q3)), .val (.int (f1 q2 q3 (2 : Int32))), .val (.int (f1 q2 q3 (3 : Int32))), .val (.int (f1 q2 q3 (4 : Int32))), .val (.int (f1 q2 q3 (5 : Int32))), .val (.int (f1 q2 q3 (6 : Int32))), .val (.ref b11), .val (.int (f0_v278 p1)), .unset] [(.int (f6 (f1 q2 q3 (4 : Int32))))])) _
                refine XS.ifNo X48.here hx rfl (hb hby at_399) rfl ((if0 _ _).trans (feq hc399).1) ?_
                show Steps p.tables e below (T48.setTop (mkF m 402 #[.val (.int p1), .val (.long q2), .second, .val (.long q3), .second, .val (.int (p1 &&& (3 : Int32))), .val (.int (f0_s0_16 p1)), .val (.int (f0_s0_30 p1)), .val (.int (f0_s0_44 p1)), .val (.int (f0_v52 p1)), .val (.int (f0_v115 p1)), .val (.int (f0_l11_185 q2 q3)), .val (.int (f0_l12_203 q2 q3)), .val (.int (f1 q2 q3 (2 : Int32))), .val (.int (f1 q2 q3 (3 : Int32))), .val (.int (f1 q2 q3 (4 : Int32))), .val (.int (f1 q2 q3 (5 : Int32))), .val (.int (f1 q2 q3 (6 : Int32))), .val (.ref b11), .val (.int (f0_v278 p1)), .unset] [])) _
                refine XS.iconst X48.here hx rfl (hb hby at_402) ?_
                show Steps p.tables e below (T48.setTop (mkF m 403 #[.val (.int p1), .val (.long q2), .second, .val (.long q3), .second, .val (.int (p1 &&& (3 : Int32))), .val (.int (f0_s0_16 p1)), .val (.int (f0_s0_30 p1)), .val (.int (f0_s0_44 p1)), .val (.int (f0_v52 p1)), .val (.int (f0_v115 p1)), .val (.int (f0_l11_185 q2 q3)), .val (.int (f0_l12_203 q2 q3)), .val (.int (f1 q2 q3 (2 : Int32))), .val (.int (f1 q2 q3 (3 : Int32))), .val (.int (f1 q2 q3 (4 : Int32))), .val (.int (f1 q2 q3 (5 : Int32))), .val (.int (f1 q2 q3 (6 : Int32))), .val (.ref b11), .val (.int (f0_v278 p1)), .unset] [(.int (1 : Int32))])) _
                refine XS.goto X48.here hx rfl (pc0 := 403) (pc' := 407) rfl (hb hby at_403) (by decide) (by decide) ?_
                exact k
  obtain ⟨_, _, ⟨T50, L50, k50, n50⟩, -, X50, ⟨Lc50, hQ50, l50, y50, z50⟩, st50⟩ := Jvm.LawKit.callS X49 hx (y := (⟨"com/example/titlepoint/titlepoint/Iso2709Reader", "beginsWithRecordLength", "([B)Z"⟩ : MethodName)) hown (mvT hZ (hw _ (List.mem_of_getElem? (i := 13) rfl))) (mvT hZ (hw _ (List.mem_of_getElem? (i := 14) rfl))) (mvT hZ (hw _ (List.mem_of_getElem? (i := 15) rfl))) (mvT hZ (hw _ (List.mem_of_getElem? (i := 16) rfl))) (by decide) (backOf (W := 0) (rm4 l Z a0 hw [] b11 ((f0_v115 p1) + (f0_v52 p1)) (f3_o0 ((f0_v278 p1) + (6 : Int32)) (f1 q2 q3 (6 : Int32)) ((f0_v115 p1) + (f0_v52 p1)) (f3_o0 ((f0_v278 p1) + (5 : Int32)) (f1 q2 q3 (5 : Int32)) ((f0_v115 p1) + (f0_v52 p1)) (f3_o0 ((f0_v278 p1) + (4 : Int32)) (f1 q2 q3 (4 : Int32)) ((f0_v115 p1) + (f0_v52 p1)) (f3_o0 ((f0_v278 p1) + (3 : Int32)) (f1 q2 q3 (3 : Int32)) ((f0_v115 p1) + (f0_v52 p1)) (f3_o0 ((f0_v278 p1) + (2 : Int32)) (f1 q2 q3 (2 : Int32)) ((f0_v115 p1) + (f0_v52 p1)) (f3_o0 ((f0_v278 p1) + (1 : Int32)) (f0_l12_203 q2 q3) ((f0_v115 p1) + (f0_v52 p1)) (f3_o0 (f0_v278 p1) (f0_l11_185 q2 q3) ((f0_v115 p1) + (f0_v52 p1)) (f2_o0 (f0_v256 p1) (f0_s0_273 p1) (f0_s0_44 p1) ((f0_v115 p1) + (f0_v52 p1)) (f2_o0 (f0_v234 p1) (f0_s0_251 p1) (f0_s0_30 p1) ((f0_v115 p1) + (f0_v52 p1)) (f2_o0 (0 : Int32) (f0_s0_229 p1) (f0_s0_16 p1) ((f0_v115 p1) + (f0_v52 p1)) (fun _ => 0))))))))))) T41.heap n0 c42 c43 (own_Z p1)) hZ (hw _ (List.mem_of_getElem? (i := 16) rfl)) (hw _ (List.mem_of_getElem? (i := 15) rfl)) (by decide) (by decide)) (g := (mkF m 411 #[.val (.int p1), .val (.long q2), .second, .val (.long q3), .second, .val (.int (p1 &&& (3 : Int32))), .val (.int (f0_s0_16 p1)), .val (.int (f0_s0_30 p1)), .val (.int (f0_s0_44 p1)), .val (.int (f0_v52 p1)), .val (.int (f0_v115 p1)), .val (.int (f0_l11_185 q2 q3)), .val (.int (f0_l12_203 q2 q3)), .val (.int (f1 q2 q3 (2 : Int32))), .val (.int (f1 q2 q3 (3 : Int32))), .val (.int (f1 q2 q3 (4 : Int32))), .val (.int (f1 q2 q3 (5 : Int32))), .val (.int (f1 q2 q3 (6 : Int32))), .val (.ref b11), .val (.int (f0_v278 p1)), .val (.int (f0_s0_407 p1 q2 q3))] [(.ref b11)])) rfl (by rw [hml]; rfl) (argsL := [(.ref b11)]) (rest := []) (lenOf pd_5 rfl) rfl (by show 2 * 0 + _ ≤ _; exact Nat.le_of_eq rfl) (hb hby at_411) (fun _ _ => ⟨rfl, e49, (by decide : 1 + 0 ≤ _), (by decide : 13 + 0 ≤ _)⟩)
  dsimp only [Pt.U, Pt.locs, Pt.cells, Pt.slots] at X50 l50 y50 z50 st50 hQ50
  subst l50 y50 z50
  obtain ⟨rfl, N50q, e50⟩ := hQ50
  have N50 := Fr.app N49 N50q
  have pre67 : ∀ t, Steps p.tables e below (T50.setTop (mkF m 416 #[.val (.int p1), .val (.long q2), .second, .val (.long q3), .second, .val (.int (p1 &&& (3 : Int32))), .val (.int (f0_s0_16 p1)), .val (.int (f0_s0_30 p1)), .val (.int (f0_s0_44 p1)), .val (.int (f0_v52 p1)), .val (.int (f0_v115 p1)), .val (.int (f0_l11_185 q2 q3)), .val (.int (f0_l12_203 q2 q3)), .val (.int (f1 q2 q3 (2 : Int32))), .val (.int (f1 q2 q3 (3 : Int32))), .val (.int (f1 q2 q3 (4 : Int32))), .val (.int (f1 q2 q3 (5 : Int32))), .val (.int (f1 q2 q3 (6 : Int32))), .val (.ref b11), .val (.int (f0_v278 p1)), .val (.int (f0_s0_407 p1 q2 q3))] [(.int (f0_s0_407 p1 q2 q3)), (.int (f4 ((f0_v115 p1) + (f0_v52 p1)) (f3_o0 ((f0_v278 p1) + (6 : Int32)) (f1 q2 q3 (6 : Int32)) ((f0_v115 p1) + (f0_v52 p1)) (f3_o0 ((f0_v278 p1) + (5 : Int32)) (f1 q2 q3 (5 : Int32)) ((f0_v115 p1) + (f0_v52 p1)) (f3_o0 ((f0_v278 p1) + (4 : Int32)) (f1 q2 q3 (4 : Int32)) ((f0_v115 p1) + (f0_v52 p1)) (f3_o0 ((f0_v278 p1) + (3 : Int32)) (f1 q2 q3 (3 : Int32)) ((f0_v115 p1) + (f0_v52 p1)) (f3_o0 ((f0_v278 p1) + (2 : Int32)) (f1 q2 q3 (2 : Int32)) ((f0_v115 p1) + (f0_v52 p1)) (f3_o0 ((f0_v278 p1) + (1 : Int32)) (f0_l12_203 q2 q3) ((f0_v115 p1) + (f0_v52 p1)) (f3_o0 (f0_v278 p1) (f0_l11_185 q2 q3) ((f0_v115 p1) + (f0_v52 p1)) (f2_o0 (f0_v256 p1) (f0_s0_273 p1) (f0_s0_44 p1) ((f0_v115 p1) + (f0_v52 p1)) (f2_o0 (f0_v234 p1) (f0_s0_251 p1) (f0_s0_30 p1) ((f0_v115 p1) + (f0_v52 p1)) (f2_o0 (0 : Int32) (f0_s0_229 p1) (f0_s0_16 p1) ((f0_v115 p1) + (f0_v52 p1)) (fun _ => 0)))))))))))))])) t → Steps p.tables e below (s₁.setTop (entryFrame m #[(.int p1), (.long q2), (.long q3)] maxLocals)) t := by
    intro t k
    refine pre54 t ?_
    show Steps p.tables e below (T49.setTop (mkF m 407 #[.val (.int p1), .val (.long q2), .second, .val (.long q3), .second, .val (.int (p1 &&& (3 : Int32))), .val (.int (f0_s0_16 p1)), .val (.int (f0_s0_30 p1)), .val (.int (f0_s0_44 p1)), .val (.int (f0_v52 p1)), .val (.int (f0_v115 p1)), .val (.int (f0_l11_185 q2 q3)), .val (.int (f0_l12_203 q2 q3)), .val (.int (f1 q2 q3 (2 : Int32))), .val (.int (f1 q2 q3 (3 : Int32))), .val (.int (f1 q2 q3 (4 : Int32))), .val (.int (f1 q2 q3 (5 : Int32))), .val (.int (f1 q2 q3 (6 : Int32))), .val (.ref b11), .val (.int (f0_v278 p1)), .unset] [(.int (f0_s0_407 p1 q2 q3))])) _
    refine XS.istore X49.here hx rfl (hb hby at_407) rfl (l' := #[.val (.int p1), .val (.long q2), .second, .val (.long q3), .second, .val (.int (p1 &&& (3 : Int32))), .val (.int (f0_s0_16 p1)), .val (.int (f0_s0_30 p1)), .val (.int (f0_s0_44 p1)), .val (.int (f0_v52 p1)), .val (.int (f0_v115 p1)), .val (.int (f0_l11_185 q2 q3)), .val (.int (f0_l12_203 q2 q3)), .val (.int (f1 q2 q3 (2 : Int32))), .val (.int (f1 q2 q3 (3 : Int32))), .val (.int (f1 q2 q3 (4 : Int32))), .val (.int (f1 q2 q3 (5 : Int32))), .val (.int (f1 q2 q3 (6 : Int32))), .val (.ref b11), .val (.int (f0_v278 p1)), .val (.int (f0_s0_407 p1 q2 q3))]) rfl ?_
    show Steps p.tables e below (T49.setTop (mkF m 409 #[.val (.int p1), .val (.long q2), .second, .val (.long q3), .second, .val (.int (p1 &&& (3 : Int32))), .val (.int (f0_s0_16 p1)), .val (.int (f0_s0_30 p1)), .val (.int (f0_s0_44 p1)), .val (.int (f0_v52 p1)), .val (.int (f0_v115 p1)), .val (.int (f0_l11_185 q2 q3)), .val (.int (f0_l12_203 q2 q3)), .val (.int (f1 q2 q3 (2 : Int32))), .val (.int (f1 q2 q3 (3 : Int32))), .val (.int (f1 q2 q3 (4 : Int32))), .val (.int (f1 q2 q3 (5 : Int32))), .val (.int (f1 q2 q3 (6 : Int32))), .val (.ref b11), .val (.int (f0_v278 p1)), .val (.int (f0_s0_407 p1 q2 q3))] [])) _
    refine XS.aload X49.here hx rfl (hb hby at_409) rfl rfl ?_
    show Steps p.tables e below (T49.setTop (mkF m 411 #[.val (.int p1), .val (.long q2), .second, .val (.long q3), .second, .val (.int (p1 &&& (3 : Int32))), .val (.int (f0_s0_16 p1)), .val (.int (f0_s0_30 p1)), .val (.int (f0_s0_44 p1)), .val (.int (f0_v52 p1)), .val (.int (f0_v115 p1)), .val (.int (f0_l11_185 q2 q3)), .val (.int (f0_l12_203 q2 q3)), .val (.int (f1 q2 q3 (2 : Int32))), .val (.int (f1 q2 q3 (3 : Int32))), .val (.int (f1 q2 q3 (4 : Int32))), .val (.int (f1 q2 q3 (5 : Int32))), .val (.int (f1 q2 q3 (6 : Int32))), .val (.ref b11), .val (.int (f0_v278 p1)), .val (.int (f0_s0_407 p1 q2 q3))] [(.ref b11)])) _
    refine st50 _ ?_
    show Steps p.tables e below (T50.setTop (mkF m 414 #[.val (.int p1), .val (.long q2), .second, .val (.long q3), .second, .val (.int (p1 &&& (3 : Int32))), .val (.int (f0_s0_16 p1)), .val (.int (f0_s0_30 p1)), .val (.int (f0_s0_44 p1)), .val (.int (f0_v52 p1)), .val (.int (f0_v115 p1)), .val (.int (f0_l11_185 q2 q3)), .val (.int (f0_l12_203 q2 q3)), .val (.int (f1 q2 q3 (2 : Int32))), .val (.int (f1 q2 q3 (3 : Int32))), .val (.int (f1 q2 q3 (4 : Int32))), .val (.int (f1 q2 q3 (5 : Int32))), .val (.int (f1 q2 q3 (6 : Int32))), .val (.ref b11), .val (.int (f0_v278 p1)), .val (.int (f0_s0_407 p1 q2 q3))] [(.int (f4 ((f0_v115 p1) + (f0_v52 p1)) (f3_o0 ((f0_v278 p1) + (6 : Int32)) (f1 q2 q3 (6 : Int32)) ((f0_v115 p1) + (f0_v52 p1)) (f3_o0 ((f0_v278 p1) + (5 : Int32)) (f1 q2 q3 (5 : Int32)) ((f0_v115 p1) + (f0_v52 p1)) (f3_o0 ((f0_v278 p1) + (4 : Int32)) (f1 q2 q3 (4 : Int32)) ((f0_v115 p1) + (f0_v52 p1)) (f3_o0 ((f0_v278 p1) + (3 : Int32)) (f1 q2 q3 (3 : Int32)) ((f0_v115 p1) + (f0_v52 p1)) (f3_o0 ((f0_v278 p1) + (2 : Int32)) (f1 q2 q3 (2 : Int32)) ((f0_v115 p1) + (f0_v52 p1)) (f3_o0 ((f0_v278 p1) + (1 : Int32)) (f0_l12_203 q2 q3) ((f0_v115 p1) + (f0_v52 p1)) (f3_o0 (f0_v278 p1) (f0_l11_185 q2 q3) ((f0_v115 p1) + (f0_v52 p1)) (f2_o0 (f0_v256 p1) (f0_s0_273 p1) (f0_s0_44 p1) ((f0_v115 p1) + (f0_v52 p1)) (f2_o0 (f0_v234 p1) (f0_s0_251 p1) (f0_s0_30 p1) ((f0_v115 p1) + (f0_v52 p1)) (f2_o0 (0 : Int32) (f0_s0_229 p1) (f0_s0_16 p1) ((f0_v115 p1) + (f0_v52 p1)) (fun _ => 0)))))))))))))])) _
    refine XS.iload X50.here hx rfl (hb hby at_414) rfl ?_
    exact k
  by_cases hc416 : (f4 ((f0_v115 p1) + (f0_v52 p1)) (f3_o0 ((f0_v278 p1) + (6 : Int32)) (f1 q2 q3 (6 : Int32)) ((f0_v115 p1) + (f0_v52 p1)) (f3_o0 ((f0_v278 p1) + (5 : Int32)) (f1 q2 q3 (5 : Int32)) ((f0_v115 p1) + (f0_v52 p1)) (f3_o0 ((f0_v278 p1) + (4 : Int32)) (f1 q2 q3 (4 : Int32)) ((f0_v115 p1) + (f0_v52 p1)) (f3_o0 ((f0_v278 p1) + (3 : Int32)) (f1 q2 q3 (3 : Int32)) ((f0_v115 p1) + (f0_v52 p1)) (f3_o0 ((f0_v278 p1) + (2 : Int32)) (f1 q2 q3 (2 : Int32)) ((f0_v115 p1) + (f0_v52 p1)) (f3_o0 ((f0_v278 p1) + (1 : Int32)) (f0_l12_203 q2 q3) ((f0_v115 p1) + (f0_v52 p1)) (f3_o0 (f0_v278 p1) (f0_l11_185 q2 q3) ((f0_v115 p1) + (f0_v52 p1)) (f2_o0 (f0_v256 p1) (f0_s0_273 p1) (f0_s0_44 p1) ((f0_v115 p1) + (f0_v52 p1)) (f2_o0 (f0_v234 p1) (f0_s0_251 p1) (f0_s0_30 p1) ((f0_v115 p1) + (f0_v52 p1)) (f2_o0 (0 : Int32) (f0_s0_229 p1) (f0_s0_16 p1) ((f0_v115 p1) + (f0_v52 p1)) (fun _ => 0)))))))))))) = (f0_s0_407 p1 q2 q3)
  · have eq68 : (f0 p1 q2 q3) = (1 : Int32) := by unfold f0; simp only [if_pos hc416]
    obtain ⟨fs, hr, hrun, hended, hW, hsame⟩ := X50.leave (v := some (.int (1 : Int32))) (fun h => by rw [Bd.returns] at h; cases h)
    refine ⟨_, _, pre67 _ ?_, hrun, hended, _, _, rfl, ?_, ⟨_, rfl⟩, hW, hsame.mono (by decide) (by decide)⟩
    · show Steps p.tables e below (T50.setTop (mkF m 416 #[.val (.int p1), .val (.long q2), .second, .val (.long q3), .second, .val (.int (p1 &&& (3 : Int32))), .val (.int (f0_s0_16 p1)), .val (.int (f0_s0_30 p1)), .val (.int (f0_s0_44 p1)), .val (.int (f0_v52 p1)), .val (.int (f0_v115 p1)), .val (.int (f0_l11_185 q2 q3)), .val (.int (f0_l12_203 q2 q3)), .val (.int (f1 q2 q3 (2 : Int32))), .val (.int (f1 q2 q3 (3 : Int32))), .val (.int (f1 q2 q3 (4 : Int32))), .val (.int (f1 q2 q3 (5 : Int32))), .val (.int (f1 q2 q3 (6 : Int32))), .val (.ref b11), .val (.int (f0_v278 p1)), .val (.int (f0_s0_407 p1 q2 q3))] [(.int (f0_s0_407 p1 q2 q3)), (.int (f4 ((f0_v115 p1) + (f0_v52 p1)) (f3_o0 ((f0_v278 p1) + (6 : Int32)) (f1 q2 q3 (6 : Int32)) ((f0_v115 p1) + (f0_v52 p1)) (f3_o0 ((f0_v278 p1) + (5 : Int32)) (f1 q2 q3 (5 : Int32)) ((f0_v115 p1) + (f0_v52 p1)) (f3_o0 ((f0_v278 p1) + (4 : Int32)) (f1 q2 q3 (4 : Int32)) ((f0_v115 p1) + (f0_v52 p1)) (f3_o0 ((f0_v278 p1) + (3 : Int32)) (f1 q2 q3 (3 : Int32)) ((f0_v115 p1) + (f0_v52 p1)) (f3_o0 ((f0_v278 p1) + (2 : Int32)) (f1 q2 q3 (2 : Int32)) ((f0_v115 p1) + (f0_v52 p1)) (f3_o0 ((f0_v278 p1) + (1 : Int32)) (f0_l12_203 q2 q3) ((f0_v115 p1) + (f0_v52 p1)) (f3_o0 (f0_v278 p1) (f0_l11_185 q2 q3) ((f0_v115 p1) + (f0_v52 p1)) (f2_o0 (f0_v256 p1) (f0_s0_273 p1) (f0_s0_44 p1) ((f0_v115 p1) + (f0_v52 p1)) (f2_o0 (f0_v234 p1) (f0_s0_251 p1) (f0_s0_30 p1) ((f0_v115 p1) + (f0_v52 p1)) (f2_o0 (0 : Int32) (f0_s0_229 p1) (f0_s0_16 p1) ((f0_v115 p1) + (f0_v52 p1)) (fun _ => 0)))))))))))))])) _
      refine XS.icmpNo X50.here hx rfl (hb hby at_416) rfl (teq hc416).2 ?_
      show Steps p.tables e below (T50.setTop (mkF m 419 #[.val (.int p1), .val (.long q2), .second, .val (.long q3), .second, .val (.int (p1 &&& (3 : Int32))), .val (.int (f0_s0_16 p1)), .val (.int (f0_s0_30 p1)), .val (.int (f0_s0_44 p1)), .val (.int (f0_v52 p1)), .val (.int (f0_v115 p1)), .val (.int (f0_l11_185 q2 q3)), .val (.int (f0_l12_203 q2 q3)), .val (.int (f1 q2 q3 (2 : Int32))), .val (.int (f1 q2 q3 (3 : Int32))), .val (.int (f1 q2 q3 (4 : Int32))), .val (.int (f1 q2 q3 (5 : Int32))), .val (.int (f1 q2 q3 (6 : Int32))), .val (.ref b11), .val (.int (f0_v278 p1)), .val (.int (f0_s0_407 p1 q2 q3))] [])) _
      refine XS.iconst X50.here hx rfl (hb hby at_419) ?_
      show Steps p.tables e below (T50.setTop (mkF m 420 #[.val (.int p1), .val (.long q2), .second, .val (.long q3), .second, .val (.int (p1 &&& (3 : Int32))), .val (.int (f0_s0_16 p1)), .val (.int (f0_s0_30 p1)), .val (.int (f0_s0_44 p1)), .val (.int (f0_v52 p1)), .val (.int (f0_v115 p1)), .val (.int (f0_l11_185 q2 q3)), .val (.int (f0_l12_203 q2 q3)), .val (.int (f1 q2 q3 (2 : Int32))), .val (.int (f1 q2 q3 (3 : Int32))), .val (.int (f1 q2 q3 (4 : Int32))), .val (.int (f1 q2 q3 (5 : Int32))), .val (.int (f1 q2 q3 (6 : Int32))), .val (.ref b11), .val (.int (f0_v278 p1)), .val (.int (f0_s0_407 p1 q2 q3))] [(.int (1 : Int32))])) _
      refine XS.goto X50.here hx rfl (pc0 := 420) (pc' := 424) rfl (hb hby at_420) (by decide) (by decide) ?_
      show Steps p.tables e below (T50.setTop (mkF m 424 #[.val (.int p1), .val (.long q2), .second, .val (.long q3), .second, .val (.int (p1 &&& (3 : Int32))), .val (.int (f0_s0_16 p1)), .val (.int (f0_s0_30 p1)), .val (.int (f0_s0_44 p1)), .val (.int (f0_v52 p1)), .val (.int (f0_v115 p1)), .val (.int (f0_l11_185 q2 q3)), .val (.int (f0_l12_203 q2 q3)), .val (.int (f1 q2 q3 (2 : Int32))), .val (.int (f1 q2 q3 (3 : Int32))), .val (.int (f1 q2 q3 (4 : Int32))), .val (.int (f1 q2 q3 (5 : Int32))), .val (.int (f1 q2 q3 (6 : Int32))), .val (.ref b11), .val (.int (f0_v278 p1)), .val (.int (f0_s0_407 p1 q2 q3))] [(.int (1 : Int32))])) _
      exact retN X50 hx (t := .boolean) Bd.returns (by simp) (hb hby at_424) hr
    · show Q0 Z p1 q2 q3 h0 n0 _ T50.heap _
      rw [e50]
      exact ⟨by rw [eq68], N50, trivial⟩
  · have eq69 : (f0 p1 q2 q3) = (0 : Int32) := by unfold f0; simp only [if_neg hc416]
    obtain ⟨fs, hr, hrun, hended, hW, hsame⟩ := X50.leave (v := some (.int (0 : Int32))) (fun h => by rw [Bd.returns] at h; cases h)
    refine ⟨_, _, pre67 _ ?_, hrun, hended, _, _, rfl, ?_, ⟨_, rfl⟩, hW, hsame.mono (by decide) (by decide)⟩
    · show Steps p.tables e below (T50.setTop (mkF m 416 #[.val (.int p1), .val (.long q2), .second, .val (.long q3), .second, .val (.int (p1 &&& (3 : Int32))), .val (.int (f0_s0_16 p1)), .val (.int (f0_s0_30 p1)), .val (.int (f0_s0_44 p1)), .val (.int (f0_v52 p1)), .val (.int (f0_v115 p1)), .val (.int (f0_l11_185 q2 q3)), .val (.int (f0_l12_203 q2 q3)), .val (.int (f1 q2 q3 (2 : Int32))), .val (.int (f1 q2 q3 (3 : Int32))), .val (.int (f1 q2 q3 (4 : Int32))), .val (.int (f1 q2 q3 (5 : Int32))), .val (.int (f1 q2 q3 (6 : Int32))), .val (.ref b11), .val (.int (f0_v278 p1)), .val (.int (f0_s0_407 p1 q2 q3))] [(.int (f0_s0_407 p1 q2 q3)), (.int (f4 ((f0_v115 p1) + (f0_v52 p1)) (f3_o0 ((f0_v278 p1) + (6 : Int32)) (f1 q2 q3 (6 : Int32)) ((f0_v115 p1) + (f0_v52 p1)) (f3_o0 ((f0_v278 p1) + (5 : Int32)) (f1 q2 q3 (5 : Int32)) ((f0_v115 p1) + (f0_v52 p1)) (f3_o0 ((f0_v278 p1) + (4 : Int32)) (f1 q2 q3 (4 : Int32)) ((f0_v115 p1) + (f0_v52 p1)) (f3_o0 ((f0_v278 p1) + (3 : Int32)) (f1 q2 q3 (3 : Int32)) ((f0_v115 p1) + (f0_v52 p1)) (f3_o0 ((f0_v278 p1) + (2 : Int32)) (f1 q2 q3 (2 : Int32)) ((f0_v115 p1) + (f0_v52 p1)) (f3_o0 ((f0_v278 p1) + (1 : Int32)) (f0_l12_203 q2 q3) ((f0_v115 p1) + (f0_v52 p1)) (f3_o0 (f0_v278 p1) (f0_l11_185 q2 q3) ((f0_v115 p1) + (f0_v52 p1)) (f2_o0 (f0_v256 p1) (f0_s0_273 p1) (f0_s0_44 p1) ((f0_v115 p1) + (f0_v52 p1)) (f2_o0 (f0_v234 p1) (f0_s0_251 p1) (f0_s0_30 p1) ((f0_v115 p1) + (f0_v52 p1)) (f2_o0 (0 : Int32) (f0_s0_229 p1) (f0_s0_16 p1) ((f0_v115 p1) + (f0_v52 p1)) (fun _ => 0)))))))))))))])) _
      refine XS.icmpYes X50.here hx rfl (pc0 := 416) (pc' := 423) rfl (hb hby at_416) rfl (feq hc416).2 (by decide) (by decide) ?_
      show Steps p.tables e below (T50.setTop (mkF m 423 #[.val (.int p1), .val (.long q2), .second, .val (.long q3), .second, .val (.int (p1 &&& (3 : Int32))), .val (.int (f0_s0_16 p1)), .val (.int (f0_s0_30 p1)), .val (.int (f0_s0_44 p1)), .val (.int (f0_v52 p1)), .val (.int (f0_v115 p1)), .val (.int (f0_l11_185 q2 q3)), .val (.int (f0_l12_203 q2 q3)), .val (.int (f1 q2 q3 (2 : Int32))), .val (.int (f1 q2 q3 (3 : Int32))), .val (.int (f1 q2 q3 (4 : Int32))), .val (.int (f1 q2 q3 (5 : Int32))), .val (.int (f1 q2 q3 (6 : Int32))), .val (.ref b11), .val (.int (f0_v278 p1)), .val (.int (f0_s0_407 p1 q2 q3))] [])) _
      refine XS.iconst X50.here hx rfl (hb hby at_423) ?_
      show Steps p.tables e below (T50.setTop (mkF m 424 #[.val (.int p1), .val (.long q2), .second, .val (.long q3), .second, .val (.int (p1 &&& (3 : Int32))), .val (.int (f0_s0_16 p1)), .val (.int (f0_s0_30 p1)), .val (.int (f0_s0_44 p1)), .val (.int (f0_v52 p1)), .val (.int (f0_v115 p1)), .val (.int (f0_l11_185 q2 q3)), .val (.int (f0_l12_203 q2 q3)), .val (.int (f1 q2 q3 (2 : Int32))), .val (.int (f1 q2 q3 (3 : Int32))), .val (.int (f1 q2 q3 (4 : Int32))), .val (.int (f1 q2 q3 (5 : Int32))), .val (.int (f1 q2 q3 (6 : Int32))), .val (.ref b11), .val (.int (f0_v278 p1)), .val (.int (f0_s0_407 p1 q2 q3))] [(.int (0 : Int32))])) _
      exact retN X50 hx (t := .boolean) Bd.returns (by simp) (hb hby at_424) hr
    · show Q0 Z p1 q2 q3 h0 n0 _ T50.heap _
      rw [e50]
      exact ⟨by rw [eq69], N50, trivial⟩
theorem own_U1 (f : Nat → Int32) (j : Nat) (v : Int32) : ownU f j v j = v := if_pos rfl
theorem own_U2 (f : Nat → Int32) (j i : Nat) (v : Int32) (h : i ≠ j) : ownU f j v i = f i := if_neg h
theorem own_cl (x : Int32) (h : 0 ≤ x.toInt) : (x.toNatClampNeg : Int) = x.toInt := by
  show (x.toInt.toNat : Int) = _
  omega
def own_G (Z : Int32) (C : Nat → Int32) (k : Nat) (a : Int32) : Int32 := g4_10 Z C k a (f5 a Z Z C)
theorem own_Gs (Z : Int32) (C : Nat → Int32) (k : Nat) (a s : Int32) (h : f5 a Z Z C = s) (hs : 0 < s) : own_G Z C (k + 1) a = own_G Z C k (a + s) := by
  unfold own_G
  rw [h]
  simp only [g4_10, if_pos hs]
theorem own_Gz (Z : Int32) (C : Nat → Int32) (k : Nat) (a : Int32) (h : f5 a Z Z C = 0) : own_G Z C (k + 1) a = (if (Z - a) < 5 then 0 else if f7 a 5 Z C < 0 then 0 else 1) := by
  unfold own_G
  rw [h]
  simp only [g4_10, if_neg (show ¬ ((0 : Int32) < 0) by decide)]
theorem own_f5_1 (a Z : Int32) (C : Nat → Int32) (h1 : a < Z) (h2 : C a.toNatClampNeg = 10) : f5 a Z Z C = 1 := by
  unfold f5
  rw [if_pos h1, if_pos h2]
theorem own_f5_2 (a Z : Int32) (C : Nat → Int32) (h1 : a < Z) (h2 : (a + 1) < Z) (h3 : C a.toNatClampNeg = 13) (h4 : C (a + 1).toNatClampNeg = 10) : f5 a Z Z C = 2 := by
  unfold f5
  rw [if_pos h1, if_neg (by rw [h3]; decide), if_pos h2, if_pos h3, if_pos h4]
theorem own_f5_0 (a Z : Int32) (C : Nat → Int32) (h1 : a < Z → ¬ C a.toNatClampNeg = 10) (h2 : (a + 1) < Z → C a.toNatClampNeg = 13 → ¬ C (a + 1).toNatClampNeg = 10) : f5 a Z Z C = 0 := by
  unfold f5
  repeat' split
  all_goals first | rfl | (exfalso; rename_i q1 q2; exact h1 q1 q2) | (exfalso; rename_i q1 q2 q3 q4; exact h2 q2 q3 q4) | (exfalso; rename_i q1 q2 q3 q4 q5; exact h2 q3 q4 q5) | (exfalso; simp_all)
theorem own_skip (Z : Int32) (C : Nat → Int32) (k : Nat) (a pr cr : Int32) (h1 : ¬ pr = 0 → cr = 0 → a < Z ∧ C a.toNatClampNeg = 10) (h2 : ¬ pr = 0 → ¬ cr = 0 → a < Z ∧ (a + 1) < Z ∧ C a.toNatClampNeg = 13 ∧ C (a + 1).toNatClampNeg = 10) : ∃ k', k ≤ k' ∧ own_G Z C (k + 1) a = own_G Z C k' (a + own_sz pr cr) := by
  by_cases p0 : pr = 0
  · refine ⟨k + 1, by omega, ?_⟩
    unfold own_sz
    rw [if_pos p0, Int32.add_zero]
  · by_cases c0 : cr = 0
    · obtain ⟨x1, x2⟩ := h1 p0 c0
      refine ⟨k, Nat.le_refl _, ?_⟩
      have e : own_sz pr cr = 1 := by unfold own_sz; rw [if_neg p0, if_pos c0]
      rw [e]
      exact own_Gs Z C k a 1 (own_f5_1 a Z C x1 x2) (by decide)
    · obtain ⟨x1, x2, x3, x4⟩ := h2 p0 c0
      refine ⟨k, Nat.le_refl _, ?_⟩
      have e : own_sz pr cr = 2 := by unfold own_sz; rw [if_neg p0, if_neg c0]
      rw [e]
      exact own_Gs Z C k a 2 (own_f5_2 a Z C x1 x2 x3 x4) (by decide)
theorem own_o_lt (a pr cr Z : Int32) (C : Nat → Int32) (ha : 0 ≤ a.toInt ∧ a.toInt ≤ 50) (j : Nat) (hj : (j : Int) < a.toInt) : f2_o0 a pr cr Z C j = C j := by
  have e1 : (1 : Int32).toInt = 1 := rfl
  have q := own_add a 1 (by omega) (by omega)
  have n1 := own_cl a ha.1
  have n2 := own_cl (a + 1) (by omega)
  unfold f2_o0 f2_v30 f2_v21 f2_v14
  split
  · rfl
  · split
    · exact own_U2 _ _ _ _ (by omega)
    · rw [own_U2 _ _ _ _ (by omega), own_U2 _ _ _ _ (by omega)]
theorem own_o_1 (a pr cr Z : Int32) (C : Nat → Int32) (h1 : ¬ pr = 0) (h2 : cr = 0) : f2_o0 a pr cr Z C a.toNatClampNeg = 10 := by
  unfold f2_o0 f2_v30
  rw [if_neg h1, if_pos h2]
  exact own_U1 _ _ _
theorem own_o_2 (a pr cr Z : Int32) (C : Nat → Int32) (ha : 0 ≤ a.toInt ∧ a.toInt ≤ 50) (h1 : ¬ pr = 0) (h2 : ¬ cr = 0) : f2_o0 a pr cr Z C a.toNatClampNeg = 13 ∧ f2_o0 a pr cr Z C (a + 1).toNatClampNeg = 10 := by
  have e1 : (1 : Int32).toInt = 1 := rfl
  have q := own_add a 1 (by omega) (by omega)
  have n1 := own_cl a ha.1
  have n2 := own_cl (a + 1) (by omega)
  unfold f2_o0 f2_v21 f2_v14
  rw [if_neg h1, if_neg h2]
  exact ⟨by rw [own_U2 _ _ _ _ (by omega)]; exact own_U1 _ _ _, own_U1 _ _ _⟩
theorem own_p_ne (a t Z : Int32) (C : Nat → Int32) (j : Nat) (h : j ≠ a.toNatClampNeg) : f3_o0 a t Z C j = C j := by
  unfold f3_o0 f3_v9
  split
  · exact own_U2 _ _ _ _ h
  · rfl
theorem own_p_eq (a t Z : Int32) (C : Nat → Int32) (h : a < Z) : f3_o0 a t Z C a.toNatClampNeg = nar .byte t := by
  unfold f3_o0 f3_v9
  rw [if_pos h]
  exact own_U1 _ _ _
theorem own_narb (t : Int32) (h : -128 ≤ t.toInt ∧ t.toInt < 128) : nar .byte t = t := by
  have q := c_i2b t
  apply Int32.toInt_inj.mp
  show t.toInt8.toInt32.toInt = t.toInt
  omega
def own_D (A Z t0 t1 t2 t3 t4 t5 t6 : Int32) (C : Nat → Int32) : Nat → Int32 := f3_o0 (A + 6) t6 Z (f3_o0 (A + 5) t5 Z (f3_o0 (A + 4) t4 Z (f3_o0 (A + 3) t3 Z (f3_o0 (A + 2) t2 Z (f3_o0 (A + 1) t1 Z (f3_o0 A t0 Z C))))))
set_option maxHeartbeats 8000000 in
theorem own_D_lt (A Z t0 t1 t2 t3 t4 t5 t6 : Int32) (C : Nat → Int32) (hA : 0 ≤ A.toInt ∧ A.toInt ≤ 50) (j : Nat) (hj : (j : Int) < A.toInt) : own_D A Z t0 t1 t2 t3 t4 t5 t6 C j = C j := by
  have e1 : (1 : Int32).toInt = 1 := rfl
  have e2 : (2 : Int32).toInt = 2 := rfl
  have e3 : (3 : Int32).toInt = 3 := rfl
  have e4 : (4 : Int32).toInt = 4 := rfl
  have e5 : (5 : Int32).toInt = 5 := rfl
  have e6 : (6 : Int32).toInt = 6 := rfl
  have q1 := own_add A 1 (by omega) (by omega); have q2 := own_add A 2 (by omega) (by omega); have q3 := own_add A 3 (by omega) (by omega)
  have q4 := own_add A 4 (by omega) (by omega); have q5 := own_add A 5 (by omega) (by omega); have q6 := own_add A 6 (by omega) (by omega)
  have n0 := own_cl A (by omega); have n1 := own_cl (A + 1) (by omega); have n2 := own_cl (A + 2) (by omega); have n3 := own_cl (A + 3) (by omega)
  have n4 := own_cl (A + 4) (by omega); have n5 := own_cl (A + 5) (by omega); have n6 := own_cl (A + 6) (by omega)
  unfold own_D
  rw [own_p_ne _ _ _ _ _ (by omega), own_p_ne _ _ _ _ _ (by omega), own_p_ne _ _ _ _ _ (by omega), own_p_ne _ _ _ _ _ (by omega), own_p_ne _ _ _ _ _ (by omega), own_p_ne _ _ _ _ _ (by omega), own_p_ne _ _ _ _ _ (by omega)]
set_option maxHeartbeats 8000000 in
theorem own_D_at (A Z t0 t1 t2 t3 t4 t5 t6 : Int32) (C : Nat → Int32) (hA : 0 ≤ A.toInt ∧ A.toInt ≤ 50) :
    (A < Z → own_D A Z t0 t1 t2 t3 t4 t5 t6 C A.toNatClampNeg = nar .byte t0) ∧ ((A + 1) < Z → own_D A Z t0 t1 t2 t3 t4 t5 t6 C (A + 1).toNatClampNeg = nar .byte t1) ∧ ((A + 2) < Z → own_D A Z t0 t1 t2 t3 t4 t5 t6 C (A + 2).toNatClampNeg = nar .byte t2) ∧ ((A + 3) < Z → own_D A Z t0 t1 t2 t3 t4 t5 t6 C (A + 3).toNatClampNeg = nar .byte t3) ∧ ((A + 4) < Z → own_D A Z t0 t1 t2 t3 t4 t5 t6 C (A + 4).toNatClampNeg = nar .byte t4) := by
  have e1 : (1 : Int32).toInt = 1 := rfl
  have e2 : (2 : Int32).toInt = 2 := rfl
  have e3 : (3 : Int32).toInt = 3 := rfl
  have e4 : (4 : Int32).toInt = 4 := rfl
  have e5 : (5 : Int32).toInt = 5 := rfl
  have e6 : (6 : Int32).toInt = 6 := rfl
  have q1 := own_add A 1 (by omega) (by omega); have q2 := own_add A 2 (by omega) (by omega); have q3 := own_add A 3 (by omega) (by omega)
  have q4 := own_add A 4 (by omega) (by omega); have q5 := own_add A 5 (by omega) (by omega); have q6 := own_add A 6 (by omega) (by omega)
  have n0 := own_cl A (by omega); have n1 := own_cl (A + 1) (by omega); have n2 := own_cl (A + 2) (by omega); have n3 := own_cl (A + 3) (by omega)
  have n4 := own_cl (A + 4) (by omega); have n5 := own_cl (A + 5) (by omega); have n6 := own_cl (A + 6) (by omega)
  unfold own_D
  refine ⟨fun h => ?_, fun h => ?_, fun h => ?_, fun h => ?_, fun h => ?_⟩
  · rw [own_p_ne _ _ _ _ _ (by omega), own_p_ne _ _ _ _ _ (by omega), own_p_ne _ _ _ _ _ (by omega), own_p_ne _ _ _ _ _ (by omega), own_p_ne _ _ _ _ _ (by omega), own_p_ne _ _ _ _ _ (by omega), own_p_eq _ _ _ _ h]
  · rw [own_p_ne _ _ _ _ _ (by omega), own_p_ne _ _ _ _ _ (by omega), own_p_ne _ _ _ _ _ (by omega), own_p_ne _ _ _ _ _ (by omega), own_p_ne _ _ _ _ _ (by omega), own_p_eq _ _ _ _ h]
  · rw [own_p_ne _ _ _ _ _ (by omega), own_p_ne _ _ _ _ _ (by omega), own_p_ne _ _ _ _ _ (by omega), own_p_ne _ _ _ _ _ (by omega), own_p_eq _ _ _ _ h]
  · rw [own_p_ne _ _ _ _ _ (by omega), own_p_ne _ _ _ _ _ (by omega), own_p_ne _ _ _ _ _ (by omega), own_p_eq _ _ _ _ h]
  · rw [own_p_ne _ _ _ _ _ (by omega), own_p_ne _ _ _ _ _ (by omega), own_p_eq _ _ _ _ h]
theorem own_g7 (A Z : Int32) (D : Nat → Int32) (k : Nat) (v i t : Int32) (h : i < A + 5) (hd : D i.toNatClampNeg = t) (ht : -128 ≤ t.toInt ∧ t.toInt < 128) : g7_5 A 5 Z D (k + 1) v i = if f6 t = 0 then -1 else g7_5 A 5 Z D k (v * 10 + (t - 48)) (i + 1) := by
  simp only [g7_5, if_pos h, hd]
  have a := c_isub t 48
  have r := rng32 (t - 48)
  have e48 : (48 : Int32).toInt = 48 := rfl
  have e57 : (57 : Int32).toInt = 57 := rfl
  have e9 : (9 : Int32).toInt = 9 := rfl
  have e0 : (0 : Int32).toInt = 0 := rfl
  have c1 : (t - 48) < 0 ↔ t < 48 := by rw [Int32.lt_iff_toInt_lt, Int32.lt_iff_toInt_lt]; omega
  have c2 : 9 < (t - 48) ↔ 57 < t := by rw [Int32.lt_iff_toInt_lt, Int32.lt_iff_toInt_lt]; omega
  unfold f6
  simp only [c1, c2]
  by_cases x1 : t < 48
  · simp only [if_pos x1, if_true]
  · by_cases x2 : 57 < t
    · simp only [if_neg x1, if_pos x2, if_true]
    · simp only [if_neg x1, if_neg x2, if_neg (show ¬ ((1 : Int32) = 0) by decide)]
theorem own_f6 (t : Int32) (h : ¬ f6 t = 0) : 0 ≤ (t - 48).toInt ∧ (t - 48).toInt ≤ 9 := by
  have a := c_isub t 48
  have r := rng32 (t - 48)
  have e48 : (48 : Int32).toInt = 48 := rfl
  have e57 : (57 : Int32).toInt = 57 := rfl
  unfold f6 at h
  by_cases x1 : t < 48
  · rw [if_pos x1] at h; exact absurd rfl h
  · by_cases x2 : 57 < t
    · rw [if_neg x1, if_pos x2] at h; exact absurd rfl h
    · rw [Int32.lt_iff_toInt_lt] at x1 x2
      omega
theorem own_small (x : Int32) (S : Int) (h : (x.toInt - S) % 4294967296 = 0) (h1 : 0 ≤ S) (h2 : S ≤ 100000000) : x.toInt = S := by
  have r := rng32 x
  omega
theorem own_acc (v d : Int32) (K : Int) (hv : 0 ≤ v.toInt ∧ v.toInt ≤ K) (hK : K ≤ 1000000) (hd : 0 ≤ d.toInt ∧ d.toInt ≤ 9) : 0 ≤ (v * 10 + d).toInt ∧ (v * 10 + d).toInt ≤ 10 * K + 9 := by
  have m := own_small (v * 10) (v.toInt * 10) (c_imul v 10) (by omega) (by omega)
  have n := own_small (v * 10 + d) ((v * 10).toInt + d.toInt) (c_iadd _ _) (by omega) (by omega)
  omega
set_option maxHeartbeats 8000000 in
theorem own_f7 (A Z : Int32) (D : Nat → Int32) (t0 t1 t2 t3 t4 : Int32) (hA : 0 ≤ A.toInt ∧ A.toInt ≤ 50) (d0 : D A.toNatClampNeg = t0) (d1 : D (A + 1).toNatClampNeg = t1) (d2 : D (A + 2).toNatClampNeg = t2) (d3 : D (A + 3).toNatClampNeg = t3) (d4 : D (A + 4).toNatClampNeg = t4)
    (h0 : -128 ≤ t0.toInt ∧ t0.toInt < 128) (h1 : -128 ≤ t1.toInt ∧ t1.toInt < 128) (h2 : -128 ≤ t2.toInt ∧ t2.toInt < 128) (h3 : -128 ≤ t3.toInt ∧ t3.toInt < 128) (h4 : -128 ≤ t4.toInt ∧ t4.toInt < 128) :
    (if f7 A 5 Z D < 0 then (0 : Int32) else 1) = if f6 t0 = 0 then 0 else if f6 t1 = 0 then 0 else if f6 t2 = 0 then 0 else if f6 t3 = 0 then 0 else if f6 t4 = 0 then 0 else 1 := by
  have e1 : (1 : Int32).toInt = 1 := rfl
  have e2 : (2 : Int32).toInt = 2 := rfl
  have e3 : (3 : Int32).toInt = 3 := rfl
  have e4 : (4 : Int32).toInt = 4 := rfl
  have e5 : (5 : Int32).toInt = 5 := rfl
  have q1 := own_add A 1 (by omega) (by omega); have q2 := own_add A 2 (by omega) (by omega); have q3 := own_add A 3 (by omega) (by omega)
  have q4 := own_add A 4 (by omega) (by omega); have q5 := own_add A 5 (by omega) (by omega)
  have s2 : A + 1 + 1 = A + 2 := Int32.add_assoc A 1 1
  have s3 : A + 2 + 1 = A + 3 := Int32.add_assoc A 2 1
  have s4 : A + 3 + 1 = A + 4 := Int32.add_assoc A 3 1
  have s5 : A + 4 + 1 = A + 5 := Int32.add_assoc A 4 1
  have l0 : A < A + 5 := by rw [Int32.lt_iff_toInt_lt]; omega
  have l1 : A + 1 < A + 5 := by rw [Int32.lt_iff_toInt_lt]; omega
  have l2 : A + 2 < A + 5 := by rw [Int32.lt_iff_toInt_lt]; omega
  have l3 : A + 3 < A + 5 := by rw [Int32.lt_iff_toInt_lt]; omega
  have l4 : A + 4 < A + 5 := by rw [Int32.lt_iff_toInt_lt]; omega
  have l5 : ¬ A + 5 < A + 5 := by rw [Int32.lt_iff_toInt_lt]; omega
  have nn : (-1 : Int32) < 0 := by decide
  unfold f7
  rw [own_g7 A Z D 5 0 A t0 l0 d0 h0, own_g7 A Z D 4 _ (A + 1) t1 l1 d1 h1, s2, own_g7 A Z D 3 _ (A + 2) t2 l2 d2 h2, s3, own_g7 A Z D 2 _ (A + 3) t3 l3 d3 h3, s4, own_g7 A Z D 1 _ (A + 4) t4 l4 d4 h4, s5]
  by_cases x0 : f6 t0 = 0
  · simp only [if_pos x0, if_pos nn]
  by_cases x1 : f6 t1 = 0
  · simp only [if_neg x0, if_pos x1, if_pos nn]
  by_cases x2 : f6 t2 = 0
  · simp only [if_neg x0, if_neg x1, if_pos x2, if_pos nn]
  by_cases x3 : f6 t3 = 0
  · simp only [if_neg x0, if_neg x1, if_neg x2, if_pos x3, if_pos nn]
  by_cases x4 : f6 t4 = 0
  · simp only [if_neg x0, if_neg x1, if_neg x2, if_neg x3, if_pos x4, if_pos nn]
  simp only [if_neg x0, if_neg x1, if_neg x2, if_neg x3, if_neg x4, g7_5, if_neg l5]
  have z0 : 0 ≤ (0 : Int32).toInt ∧ (0 : Int32).toInt ≤ 0 := ⟨by decide, by decide⟩
  have v0 := own_acc 0 (t0 - 48) 0 z0 (by omega) (own_f6 t0 x0)
  have v1 := own_acc _ (t1 - 48) _ v0 (by omega) (own_f6 t1 x1)
  have v2 := own_acc _ (t2 - 48) _ v1 (by omega) (own_f6 t2 x2)
  have v3 := own_acc _ (t3 - 48) _ v2 (by omega) (own_f6 t3 x3)
  have v4 := own_acc _ (t4 - 48) _ v3 (by omega) (own_f6 t4 x4)
  rw [if_neg]
  rw [Int32.lt_iff_toInt_lt, show (0 : Int32).toInt = 0 from rfl]
  omega
set_option maxHeartbeats 8000000 in
theorem own_core (Z A1 A2 A3 m pr1 cr1 pr2 cr2 pr3 cr3 t0 t1 t2 t3 t4 t5 t6 : Int32) (hA1 : A1 = 0 + own_sz pr1 cr1) (hA2 : A2 = A1 + own_sz pr2 cr2) (hA3 : A3 = A2 + own_sz pr3 cr3)
    (i1 : A1.toInt = (own_sz pr1 cr1).toInt) (i2 : A2.toInt = A1.toInt + (own_sz pr2 cr2).toInt) (i3 : A3.toInt = A2.toInt + (own_sz pr3 cr3).toInt) (iZ : Z.toInt = A3.toInt + m.toInt) (hm : 0 ≤ m.toInt ∧ m.toInt ≤ 7)
    (h0 : -128 ≤ t0.toInt ∧ t0.toInt < 128) (h1 : -128 ≤ t1.toInt ∧ t1.toInt < 128) (h2 : -128 ≤ t2.toInt ∧ t2.toInt < 128) (h3 : -128 ≤ t3.toInt ∧ t3.toInt < 128) (h4 : -128 ≤ t4.toInt ∧ t4.toInt < 128) (x10 : ¬ t0 = 10) (x13 : t0 = 13 → ¬ t1 = 10) :
    f4 Z (own_D A3 Z t0 t1 t2 t3 t4 t5 t6 (f2_o0 A2 pr3 cr3 Z (f2_o0 A1 pr2 cr2 Z (f2_o0 0 pr1 cr1 Z (fun _ => 0))))) = if m < 5 then 0 else if f6 t0 = 0 then 0 else if f6 t1 = 0 then 0 else if f6 t2 = 0 then 0 else if f6 t3 = 0 then 0 else if f6 t4 = 0 then 0 else 1 := by
  have e0 : (0 : Int32).toInt = 0 := rfl
  have e1 : (1 : Int32).toInt = 1 := rfl
  have r1 := own_szr pr1 cr1
  have r2 := own_szr pr2 cr2
  have r3 := own_szr pr3 cr3
  have w0 := own_pq 0 pr1 cr1 Z (by rw [e0]; omega)
  have w1 := own_pq A1 pr2 cr2 Z (by omega)
  have w2 := own_pq A2 pr3 cr3 Z (by omega)
  have k1 := own_D_lt A3 Z t0 t1 t2 t3 t4 t5 t6 (f2_o0 A2 pr3 cr3 Z (f2_o0 A1 pr2 cr2 Z (f2_o0 0 pr1 cr1 Z (fun _ => 0)))) (by omega)
  have k2 := own_o_lt A2 pr3 cr3 Z (f2_o0 A1 pr2 cr2 Z (f2_o0 0 pr1 cr1 Z (fun _ => 0))) (by omega)
  have k3 := own_o_lt A1 pr2 cr2 Z (f2_o0 0 pr1 cr1 Z (fun _ => 0)) (by omega)
  have dat := own_D_at A3 Z t0 t1 t2 t3 t4 t5 t6 (f2_o0 A2 pr3 cr3 Z (f2_o0 A1 pr2 cr2 Z (f2_o0 0 pr1 cr1 Z (fun _ => 0)))) (by omega)
  have s1 : ∀ {pr cr : Int32}, ¬ pr = 0 → cr = 0 → (own_sz pr cr).toInt = 1 := fun a b => by unfold own_sz; rw [if_neg a, if_pos b]; rfl
  have s2 : ∀ {pr cr : Int32}, ¬ pr = 0 → ¬ cr = 0 → (own_sz pr cr).toInt = 2 := fun a b => by unfold own_sz; rw [if_neg a, if_neg b]; rfl
  have n0 := own_cl (0 : Int32) (by decide)
  have n01 := own_cl (0 + 1 : Int32) (by decide)
  have e01 : (0 + 1 : Int32).toInt = 1 := rfl
  have na1 := own_cl A1 (by omega)
  have na2 := own_cl A2 (by omega)
  have q1 := own_add A1 1 (by omega) (by omega)
  have q2 := own_add A2 1 (by omega) (by omega)
  have na11 := own_cl (A1 + 1) (by omega)
  have na21 := own_cl (A2 + 1) (by omega)
  generalize hD : own_D A3 Z t0 t1 t2 t3 t4 t5 t6 (f2_o0 A2 pr3 cr3 Z (f2_o0 A1 pr2 cr2 Z (f2_o0 0 pr1 cr1 Z (fun _ => 0)))) = D at *
  have g1 := own_skip Z D 13 0 pr1 cr1 (fun a b => ⟨(w0.1 a).2, by
      have z := s1 a b
      rw [k1 _ (by omega), k2 _ (by omega), k3 _ (by omega)]; exact own_o_1 _ _ _ _ _ a b⟩) (fun a b => by
      have z := s2 a b
      have y := own_o_2 0 pr1 cr1 Z (fun _ => 0) ⟨by decide, by decide⟩ a b
      exact ⟨(w0.1 a).2, (w0.2 a b).2, by rw [k1 _ (by omega), k2 _ (by omega), k3 _ (by omega)]; exact y.1, by rw [k1 _ (by omega), k2 _ (by omega), k3 _ (by omega)]; exact y.2⟩)
  obtain ⟨u1, hu1, g1⟩ := g1
  obtain ⟨v1, rfl⟩ : ∃ v, u1 = v + 1 := ⟨u1 - 1, by omega⟩
  rw [← hA1] at g1
  have g2 := own_skip Z D v1 A1 pr2 cr2 (fun a b => ⟨(w1.1 a).2, by
      have z := s1 a b
      rw [k1 _ (by omega), k2 _ (by omega)]; exact own_o_1 _ _ _ _ _ a b⟩) (fun a b => by
      have z := s2 a b
      have y := own_o_2 A1 pr2 cr2 Z (f2_o0 0 pr1 cr1 Z (fun _ => 0)) (by omega) a b
      exact ⟨(w1.1 a).2, (w1.2 a b).2, by rw [k1 _ (by omega), k2 _ (by omega)]; exact y.1, by rw [k1 _ (by omega), k2 _ (by omega)]; exact y.2⟩)
  obtain ⟨u2, hu2, g2⟩ := g2
  obtain ⟨v2, rfl⟩ : ∃ v, u2 = v + 1 := ⟨u2 - 1, by omega⟩
  rw [← hA2] at g2
  have g3 := own_skip Z D v2 A2 pr3 cr3 (fun a b => ⟨(w2.1 a).2, by
      have z := s1 a b
      rw [k1 _ (by omega)]; exact own_o_1 _ _ _ _ _ a b⟩) (fun a b => by
      have z := s2 a b
      have y := own_o_2 A2 pr3 cr3 Z (f2_o0 A1 pr2 cr2 Z (f2_o0 0 pr1 cr1 Z (fun _ => 0))) (by omega) a b
      exact ⟨(w2.1 a).2, (w2.2 a b).2, by rw [k1 _ (by omega)]; exact y.1, by rw [k1 _ (by omega)]; exact y.2⟩)
  obtain ⟨u3, hu3, g3⟩ := g3
  obtain ⟨v3, rfl⟩ : ∃ v, u3 = v + 1 := ⟨u3 - 1, by omega⟩
  rw [← hA3] at g3
  have fz : f5 A3 Z Z D = 0 := by
    have q3 := own_add A3 1 (by omega) (by omega)
    refine own_f5_0 A3 Z D (fun a => by rw [dat.1 a, own_narb _ h0]; exact x10) (fun a b => ?_)
    have lt : A3 < Z := by rw [Int32.lt_iff_toInt_lt] at a ⊢; omega
    rw [dat.1 lt, own_narb _ h0] at b
    rw [dat.2.1 a, own_narb _ h1]
    exact x13 b
  have ef : f4 Z D = own_G Z D (13 + 1) 0 := rfl
  rw [ef, g1, g2, g3, own_Gz Z D v3 A3 fz]
  have cz := c_isub Z A3
  have rz := rng32 (Z - A3)
  have e5 : (5 : Int32).toInt = 5 := rfl
  have em : (Z - A3) < 5 ↔ m < 5 := by rw [Int32.lt_iff_toInt_lt, Int32.lt_iff_toInt_lt]; omega
  simp only [em]
  by_cases m5 : m < 5
  · rw [if_pos m5, if_pos m5]
  · rw [if_neg m5, if_neg m5]
    rw [Int32.lt_iff_toInt_lt] at m5
    have e2 : (2 : Int32).toInt = 2 := rfl
    have e3 : (3 : Int32).toInt = 3 := rfl
    have e4 : (4 : Int32).toInt = 4 := rfl
    have b1 := own_add A3 1 (by omega) (by omega); have b2 := own_add A3 2 (by omega) (by omega); have b3 := own_add A3 3 (by omega) (by omega); have b4 := own_add A3 4 (by omega) (by omega)
    exact own_f7 A3 Z D t0 t1 t2 t3 t4 (by omega) (by rw [dat.1 (by rw [Int32.lt_iff_toInt_lt]; omega), own_narb _ h0]) (by rw [dat.2.1 (by rw [Int32.lt_iff_toInt_lt]; omega), own_narb _ h1]) (by rw [dat.2.2.1 (by rw [Int32.lt_iff_toInt_lt]; omega), own_narb _ h2]) (by rw [dat.2.2.2.1 (by rw [Int32.lt_iff_toInt_lt]; omega), own_narb _ h3]) (by rw [dat.2.2.2.2 (by rw [Int32.lt_iff_toInt_lt]; omega), own_narb _ h4]) h0 h1 h2 h3 h4
theorem own_pick (a b : Int64) (i : Int32) : -128 ≤ (f1 a b i).toInt ∧ (f1 a b i).toInt < 128 := by
  unfold f1
  repeat' split
  all_goals exact (c_i2b _).2
set_option maxHeartbeats 8000000 in
theorem own_law (p1 : Int32) (q2 q3 : Int64) : f0 p1 q2 q3 = 1 := by
  obtain ⟨H1, H2, H3, HZ, B1, B2, B3, M0, M7⟩ := own_all p1
  have R1 := own_r1 p1
  have R2 := own_r2 p1
  have R3 := own_r3 p1
  have a1 : f0_v234 p1 = 0 + own_sz (f0_s0_229 p1) (f0_s0_16 p1) := by rw [← R1]; exact own_at1 p1
  have a2 : f0_v256 p1 = f0_v234 p1 + own_sz (f0_s0_251 p1) (f0_s0_30 p1) := by rw [← R2, own_at1]; exact own_at2 p1
  have a3 : f0_v278 p1 = f0_v256 p1 + own_sz (f0_s0_273 p1) (f0_s0_44 p1) := by rw [← R3, own_at2]; exact own_at3 p1
  have t0r : -128 ≤ (f0_l11_185 q2 q3).toInt ∧ (f0_l11_185 q2 q3).toInt < 128 := by
    unfold f0_l11_185
    split
    · decide
    · exact own_pick _ _ _
  have t1r : -128 ≤ (f0_l12_203 q2 q3).toInt ∧ (f0_l12_203 q2 q3).toInt < 128 := by
    unfold f0_l12_203
    split
    · split
      · decide
      · exact own_pick _ _ _
    · exact own_pick _ _ _
  have x10 : ¬ f0_l11_185 q2 q3 = 10 := by
    unfold f0_l11_185
    split
    · decide
    · assumption
  have x13 : f0_l11_185 q2 q3 = 13 → ¬ f0_l12_203 q2 q3 = 10 := fun h => by
    unfold f0_l12_203
    rw [if_pos h]
    split
    · decide
    · assumption
  have K := own_core ((f0_v115 p1) + (f0_v52 p1)) (f0_v234 p1) (f0_v256 p1) (f0_v278 p1) (f0_v52 p1) (f0_s0_229 p1) (f0_s0_16 p1) (f0_s0_251 p1) (f0_s0_30 p1) (f0_s0_273 p1) (f0_s0_44 p1) (f0_l11_185 q2 q3) (f0_l12_203 q2 q3) (f1 q2 q3 2) (f1 q2 q3 3) (f1 q2 q3 4) (f1 q2 q3 5) (f1 q2 q3 6) a1 a2 a3 (by rw [← R1]; omega) (by rw [← R2]; omega) (by rw [← R3]; omega) HZ ⟨M0, M7⟩ t0r t1r (own_pick _ _ _) (own_pick _ _ _) (own_pick _ _ _) x10 x13
  unfold f0 f0_s0_407
  unfold own_D at K
  rw [K, if_pos rfl]
set_option maxRecDepth 65536 in
set_option maxHeartbeats 40000000 in
theorem comes_1 {Post : Tables → Env → Array Value → State → Outcome → State → Prop} (hpost : ∀ tb e args s v u, (limb_1_1.after args s (.returned v) u = true ∧ limb_1_2.after args s (.returned v) u = true ∧ True) → FrameEnd s (.returned v) u (Jvm.fieldLocs frame_1_writes args s ++ Jvm.arrayLocs frame_1_arrays args s ++ Jvm.staticLocs frame_1_statics s) 16 128 → Post tb e args s (.returned v) u) :
    ArmFor flags0 classFile x code maxLocals ret World_1 tables_1 room_1 Calls_1 rest_1 Pre_1 Post := by
  intro l hfl _ _ p e ha hc hk s m args below hf hA hF happ hP
  obtain ⟨hcalls, hrest, hpre⟩ := hP
  obtain ⟨-, -, -, hnamed, -, -, -, hat⟩ := (Spec.applies_iff hf).mp happ
  obtain ⟨hg, hn⟩ := and_e (Cond.before_iff.mp (show (Jvm.Cond.and given_1 narrow_1).before args s = true from hpre))
  obtain ⟨g1, g2⟩ := and_e hg
  obtain ⟨g3, g4⟩ := and_e g2
  obtain ⟨g5, g6⟩ := and_e g4
  obtain ⟨w0, w1, w2, rfl⟩ : ∃ w0 w1 w2 : Value, args = #[w0, w1, w2] := by
    have hs : args.size = 3 := by simpa [Cond.value, given_1] using g1
    obtain ⟨L⟩ := args
    match L, hs with
    | [w0, w1, w2], _ => exact ⟨w0, w1, w2, rfl⟩
  have hw := fun d (hd : d ∈ tables_1) => atoms_spec (ws := Jvm.Cond.code x code maxLocals ret :: tables_1) hat d (List.mem_cons_of_mem _ hd)
  have hfit : Fit s := fun {y c} hc i hi => by
    obtain ⟨ha, rfl⟩ := Array.getElem?_eq_some_iff.mp hc
    have q := List.all_eq_true.mp ((Array.all_eq_true_iff_forall_mem.mp hF) _ (Array.getElem_mem ha)) i (List.mem_range.mpr hi)
    simpa [Array.getElem?_eq_getElem hi] using q
  obtain ⟨i0, ei0⟩ := is_v g3
  obtain rfl : w0 = (.int i0) := Option.some.inj ei0
  obtain ⟨i1, ei1⟩ := isL_v g5
  obtain rfl : w1 = (.long i1) := Option.some.inj ei1
  obtain ⟨i2, ei2⟩ := isL_v g6
  obtain rfl : w2 = (.long i2) := Option.some.inj ei2
  obtain ⟨n, o, h1, h2, h3, v', L, rfl, ⟨hv', N, -⟩, hq⟩ := rm0 l s _ hw tables_1 i0 i1 i2 s.heap s.heap.size (Nat.le_refl _)  p e ha hc hk s m _ below hf ((Spec.applies_iff_loose hf).mp happ).1 ⟨rfl, State.Warmed39.refl s, rfl⟩ trivial
  rw [own_law i0 i1 i2] at hv'
  subst hv'
  refine ⟨n, _, h1, h2, h3, hpost _ _ _ _ _ _ ⟨Cond.after_iff.mpr rfl, Cond.after_iff.mpr (eq_i res_at (Term.int_eval (1)) rfl), trivial⟩ ⟨hq.1, hq.2.1, (hq.2.2.sift fun y hy => Or.inr (N y hy)).mono (by decide) (by decide)⟩⟩
theorem main_1_1 : Claimed_1_1 := comes_1 fun _ _ _ _ _ _ h hF => ⟨h.1, hF⟩
theorem main_1_2 : Claimed_1_2 := comes_1 fun _ _ _ _ _ _ h hF => ⟨h.2.1, hF⟩
end Jvm.Pilot.@@N@@
namespace Jvm.Pilot.@@N@@
open Jvm Jvm.ClassFile Sem Op Lib Jvm.Free Jvm.Stand Jvm.Pilot.@@N@@.Jvm.D
/-! MADE BY PROGRAM (witnessworld.py) out of the Statement's table words and the real class files: 12 classes; the members and pool entries that the words name. The judged class is class 1, her method 1. -/
namespace start1
open Jvm.ClassFile
def u (s : String) : CpInfo := .utf8 (stringToUtf16 s)
/-- a pool by its gaps: so many unusable entries, then the entry; so many at the end -/
def gap : Nat → List CpInfo → List CpInfo
  | 0, r => r
  | n + 1, r => .unusable :: gap n r
def poolList (es : List (Nat × CpInfo)) (last : Nat) : List CpInfo := es.foldr (fun e r => gap e.1 (e.2 :: r)) (gap last [])
def pool (es : List (Nat × CpInfo)) (last : Nat) : Array CpInfo := ⟨poolList es last⟩
def fileOf (pool : Array CpInfo) (this : Nat) (attrs : Array Attribute := #[]) (ms : Array MethodInfo := #[]) (fl : Nat := 33) (sup : Nat := 0) (ifs : Array Nat := #[]) (fds : Array FieldInfo := #[]) : ClassFile where
  minorVersion := 0
  majorVersion := 65
  constantPool := pool
  accessFlags := fl
  thisClass := this
  superClass := sup
  interfaces := ifs
  fields := fds
  methods := ms
  attributes := attrs
def plain (name : String) (sup : Option ClassId) : Class where
  name := name
  kind := .ordinary
  loader := none
  accessFlags := 33
  super := sup
  interfaces := #[]
  cf := none
  fields := #[]
  methods := #[]
  instanceTypes := #[]
  staticTypes := #[]
  resolved := #[]
  callSites := []
  init := .initialized
  statics := none
  mirror := none

def pool0 : Array CpInfo := pool [(5, u "<init>"), (0, u "()V"), (1, .class_ 10), (1, u "java/lang/Object")] 113

def k0m0 : Method := { name := "<init>", desc := "()V", sig := { parameters := [], returnType := none }, accessFlags := 1, code := none }
/-- java/lang/Object -/
def k0 : Class := { plain "java/lang/Object" none with
  accessFlags := 33
  interfaces := #[]
  cf := some (fileOf pool0 8 #[] #[{ accessFlags := 1, nameIndex := 5, descriptorIndex := 6, attributes := #[] }] 33 0 #[] #[])
  fields := #[]
  methods := #[k0m0]
  instanceTypes := #[]
  staticTypes := #[]
  resolved := Array.replicate 124 none
  statics := none }

def pool1 : Array CpInfo := pool [(2, .class_ 4), (1, u "java/lang/Object"), (0, u "<init>"), (0, u "()V"), (0, .methodref 8 9), (0, .class_ 10), (0, .nameAndType 11 12), (0, u "com/example/titlepoint/titlepoint/Iso2709ReaderBeginsWithRecordLengthPinLaw"), (0, u "pick"), (0, u "(JJI)B"), (0, .methodref 8 14), (0, .nameAndType 15 16), (0, u "putLineEnd"), (0, u "([BIZZ)I"), (0, .methodref 8 18), (0, .nameAndType 19 20), (0, u "put"), (0, u "([BIB)V"), (0, .methodref 8 22), (0, .nameAndType 23 24), (0, u "digit"), (0, u "(B)Z"), (0, .methodref 26 27), (0, .class_ 28), (0, .nameAndType 29 30), (0, u "com/example/titlepoint/titlepoint/Iso2709Reader"), (0, u "beginsWithRecordLength"), (0, u "([B)Z"), (0, .long 15), (1, .long 255), (3, u "law"), (0, u "(IJJ)Z")] 5

def k1m0 : Method := { name := "<init>", desc := "()V", sig := { parameters := [], returnType := none }, accessFlags := 1, code := none }
def k1c1 : Code := { maxStack := 5, maxLocals := 21, code := code, exceptionTable := #[], attributes := #[] }
def k1m1 : Method := { name := "law", desc := "(IJJ)Z", sig := { parameters := [.int, .long, .long], returnType := some .boolean }, accessFlags := 9, code := some k1c1 }
def k1c2 : Code := { maxStack := 4, maxLocals := 7, code := method_3_code, exceptionTable := #[], attributes := #[] }
def k1m2 : Method := { name := "pick", desc := "(JJI)B", sig := { parameters := [.long, .long, .int], returnType := some .byte }, accessFlags := 10, code := some k1c2 }
def k1c3 : Code := { maxStack := 3, maxLocals := 4, code := method_4_code, exceptionTable := #[], attributes := #[] }
def k1m3 : Method := { name := "putLineEnd", desc := "([BIZZ)I", sig := { parameters := [(.array .byte), .int, .boolean, .boolean], returnType := some .int }, accessFlags := 10, code := some k1c3 }
def k1c4 : Code := { maxStack := 3, maxLocals := 3, code := method_5_code, exceptionTable := #[], attributes := #[] }
def k1m4 : Method := { name := "put", desc := "([BIB)V", sig := { parameters := [(.array .byte), .int, .byte], returnType := none }, accessFlags := 10, code := some k1c4 }
def k1c5 : Code := { maxStack := 2, maxLocals := 1, code := method_6_code, exceptionTable := #[], attributes := #[] }
def k1m5 : Method := { name := "digit", desc := "(B)Z", sig := { parameters := [.byte], returnType := some .boolean }, accessFlags := 10, code := some k1c5 }
/-- com/example/titlepoint/titlepoint/Iso2709ReaderBeginsWithRecordLengthPinLaw -/
def k1 : Class := { plain "com/example/titlepoint/titlepoint/Iso2709ReaderBeginsWithRecordLengthPinLaw" (some 0) with
  accessFlags := 49
  interfaces := #[]
  cf := some (fileOf pool1 8 #[] #[{ accessFlags := 1, nameIndex := 5, descriptorIndex := 6, attributes := #[] }, { accessFlags := 9, nameIndex := 37, descriptorIndex := 38, attributes := #[] }, { accessFlags := 10, nameIndex := 11, descriptorIndex := 12, attributes := #[] }, { accessFlags := 10, nameIndex := 15, descriptorIndex := 16, attributes := #[] }, { accessFlags := 10, nameIndex := 19, descriptorIndex := 20, attributes := #[] }, { accessFlags := 10, nameIndex := 23, descriptorIndex := 24, attributes := #[] }] 49 2 #[] #[])
  fields := #[]
  methods := #[k1m0, k1m1, k1m2, k1m3, k1m4, k1m5]
  instanceTypes := #[]
  staticTypes := #[]
  resolved := Array.replicate 44 none
  statics := none }

def pool2 : Array CpInfo := pool [(1, .class_ 2), (0, u "java/lang/AutoCloseable"), (0, .class_ 4), (0, u "java/lang/Object")] 7

/-- java/lang/AutoCloseable -/
def k2 : Class := { plain "java/lang/AutoCloseable" (some 0) with
  accessFlags := 1537
  interfaces := #[]
  cf := some (fileOf pool2 1 #[] #[] 1537 3 #[] #[])
  fields := #[]
  methods := #[]
  instanceTypes := #[]
  staticTypes := #[]
  resolved := Array.replicate 12 none
  statics := none }

def pool3 : Array CpInfo := pool [(1, .class_ 2), (0, u "java/io/Closeable"), (0, .class_ 4), (0, u "java/lang/Object"), (0, .class_ 6), (0, u "java/lang/AutoCloseable")] 7

/-- java/io/Closeable -/
def k3 : Class := { plain "java/io/Closeable" (some 0) with
  accessFlags := 1537
  interfaces := #[2]
  cf := some (fileOf pool3 1 #[] #[] 1537 3 #[5] #[])
  fields := #[]
  methods := #[]
  instanceTypes := #[]
  staticTypes := #[]
  resolved := Array.replicate 14 none
  statics := none }

def pool4 : Array CpInfo := pool [(1, .class_ 2), (0, u "com/example/titlepoint/titlepoint/RecordReader"), (0, .class_ 4), (0, u "java/lang/Object"), (0, .class_ 6), (0, u "java/io/Closeable")] 7

/-- com/example/titlepoint/titlepoint/RecordReader -/
def k4 : Class := { plain "com/example/titlepoint/titlepoint/RecordReader" (some 0) with
  accessFlags := 1537
  interfaces := #[3]
  cf := some (fileOf pool4 1 #[] #[] 1537 3 #[5] #[])
  fields := #[]
  methods := #[]
  instanceTypes := #[]
  staticTypes := #[]
  resolved := Array.replicate 14 none
  statics := none }

def pool5 : Array CpInfo := pool [(4, .class_ 6), (1, u "java/lang/Object"), (2, .class_ 10), (0, u "com/example/titlepoint/titlepoint/Iso2709Reader"), (3, u "_buffer"), (0, u "[B"), (4, u "_tags"), (0, u "[Ljava/lang/String;"), (2, u "_tagBytes"), (0, u "[I"), (4, u "_fields"), (0, u "[Lcom/example/titlepoint/titlepoint/Field;"), (2, u "_extents"), (0, u "[J"), (2, u "_entryTags"), (4, u "_subfields"), (0, u "[Lcom/example/titlepoint/titlepoint/Subfield;"), (2, u "_units"), (0, u "[C"), (2, u "_in"), (0, u "Ljava/io/InputStream;"), (0, .methodref 9 54), (0, .nameAndType 55 56), (0, u "lineEnd"), (0, u "([BII)I"), (0, .methodref 9 58), (0, .nameAndType 59 56), (0, u "number"), (2, u "_refused"), (0, u "Z"), (12, u "_number"), (0, u "J"), (2, u "_position"), (0, u "I"), (2, u "_recordAt"), (2, u "_claimed"), (2, u "_entries"), (2, u "_heldLength"), (45, u "_limit"), (8, u "_bufferOffset"), (87, u "TAG_SLOT_BITS"), (95, u "_dataPastAscii"), (83, .class_ 417), (0, u "com/example/titlepoint/titlepoint/RecordReader"), (0, u "MAX_RECORD_BYTES"), (2, u "BUFFER_BYTES"), (0, u "LENGTH_DIGITS"), (1, u "LABEL_LENGTH"), (1, u "INDICATOR_COUNT_AT"), (1, u "INDICATOR_COUNT_AND_IDENTIFIER_LENGTH"), (0, u "Ljava/lang/String;"), (0, u "BASE_ADDRESS_AT"), (1, u "ENTRY_MAP_AT"), (1, u "TAG_LENGTH"), (1, u "SUBFIELD_DELIMITER"), (0, u "B"), (1, u "FIELD_TERMINATOR"), (1, u "RECORD_TERMINATOR"), (1, u "LINE_FEED"), (0, u "CARRIAGE_RETURN"), (1, u "TAG_SLOTS"), (4, u "beginsWithRecordLength"), (0, u "([B)Z")] 66

def k5c0 : Code := { maxStack := 3, maxLocals := 3, code := prog_8_method_2_code, exceptionTable := #[], attributes := #[] }
def k5m0 : Method := { name := "beginsWithRecordLength", desc := "([B)Z", sig := { parameters := [(.array .byte)], returnType := some .boolean }, accessFlags := 8, code := some k5c0 }
def k5c1 : Code := { maxStack := 3, maxLocals := 3, code := prog_8_method_3_code, exceptionTable := #[], attributes := #[] }
def k5m1 : Method := { name := "lineEnd", desc := "([BII)I", sig := { parameters := [(.array .byte), .int, .int], returnType := some .int }, accessFlags := 10, code := some k5c1 }
def k5c2 : Code := { maxStack := 3, maxLocals := 6, code := prog_8_method_36_code, exceptionTable := #[], attributes := #[] }
def k5m2 : Method := { name := "number", desc := "([BII)I", sig := { parameters := [(.array .byte), .int, .int], returnType := some .int }, accessFlags := 10, code := some k5c2 }
/-- com/example/titlepoint/titlepoint/Iso2709Reader -/
def k5 : Class := { plain "com/example/titlepoint/titlepoint/Iso2709Reader" (some 0) with
  accessFlags := 49
  interfaces := #[4]
  cf := some (fileOf pool5 9 #[] #[{ accessFlags := 8, nameIndex := 451, descriptorIndex := 452, attributes := #[] }, { accessFlags := 10, nameIndex := 55, descriptorIndex := 56, attributes := #[] }, { accessFlags := 10, nameIndex := 59, descriptorIndex := 56, attributes := #[] }] 49 4 #[416] #[{ accessFlags := 24, nameIndex := 418, descriptorIndex := 81, attributes := #[] }, { accessFlags := 24, nameIndex := 421, descriptorIndex := 81, attributes := #[] }, { accessFlags := 24, nameIndex := 422, descriptorIndex := 81, attributes := #[] }, { accessFlags := 26, nameIndex := 424, descriptorIndex := 81, attributes := #[] }, { accessFlags := 24, nameIndex := 426, descriptorIndex := 81, attributes := #[] }, { accessFlags := 24, nameIndex := 428, descriptorIndex := 429, attributes := #[] }, { accessFlags := 24, nameIndex := 430, descriptorIndex := 81, attributes := #[] }, { accessFlags := 24, nameIndex := 432, descriptorIndex := 81, attributes := #[] }, { accessFlags := 24, nameIndex := 434, descriptorIndex := 81, attributes := #[] }, { accessFlags := 24, nameIndex := 436, descriptorIndex := 437, attributes := #[] }, { accessFlags := 24, nameIndex := 439, descriptorIndex := 437, attributes := #[] }, { accessFlags := 24, nameIndex := 441, descriptorIndex := 437, attributes := #[] }, { accessFlags := 26, nameIndex := 443, descriptorIndex := 437, attributes := #[] }, { accessFlags := 26, nameIndex := 444, descriptorIndex := 437, attributes := #[] }, { accessFlags := 18, nameIndex := 51, descriptorIndex := 52, attributes := #[] }, { accessFlags := 18, nameIndex := 14, descriptorIndex := 15, attributes := #[] }, { accessFlags := 26, nameIndex := 446, descriptorIndex := 81, attributes := #[] }, { accessFlags := 26, nameIndex := 236, descriptorIndex := 81, attributes := #[] }, { accessFlags := 18, nameIndex := 20, descriptorIndex := 21, attributes := #[] }, { accessFlags := 18, nameIndex := 24, descriptorIndex := 25, attributes := #[] }, { accessFlags := 2, nameIndex := 30, descriptorIndex := 31, attributes := #[] }, { accessFlags := 2, nameIndex := 34, descriptorIndex := 35, attributes := #[] }, { accessFlags := 2, nameIndex := 38, descriptorIndex := 21, attributes := #[] }, { accessFlags := 2, nameIndex := 90, descriptorIndex := 81, attributes := #[] }, { accessFlags := 2, nameIndex := 87, descriptorIndex := 81, attributes := #[] }, { accessFlags := 2, nameIndex := 93, descriptorIndex := 81, attributes := #[] }, { accessFlags := 2, nameIndex := 43, descriptorIndex := 44, attributes := #[] }, { accessFlags := 2, nameIndex := 47, descriptorIndex := 48, attributes := #[] }, { accessFlags := 2, nameIndex := 332, descriptorIndex := 63, attributes := #[] }, { accessFlags := 2, nameIndex := 80, descriptorIndex := 81, attributes := #[] }, { accessFlags := 2, nameIndex := 139, descriptorIndex := 81, attributes := #[] }, { accessFlags := 2, nameIndex := 148, descriptorIndex := 77, attributes := #[] }, { accessFlags := 2, nameIndex := 84, descriptorIndex := 81, attributes := #[] }, { accessFlags := 2, nameIndex := 76, descriptorIndex := 77, attributes := #[] }, { accessFlags := 2, nameIndex := 62, descriptorIndex := 63, attributes := #[] }])
  fields := #[{ name := "MAX_RECORD_BYTES", type := .int, accessFlags := 24, slot := 0, constantValue := 0 }, { name := "BUFFER_BYTES", type := .int, accessFlags := 24, slot := 1, constantValue := 0 }, { name := "LENGTH_DIGITS", type := .int, accessFlags := 24, slot := 2, constantValue := 0 }, { name := "LABEL_LENGTH", type := .int, accessFlags := 26, slot := 3, constantValue := 0 }, { name := "INDICATOR_COUNT_AT", type := .int, accessFlags := 24, slot := 4, constantValue := 0 }, { name := "INDICATOR_COUNT_AND_IDENTIFIER_LENGTH", type := (.object "java/lang/String"), accessFlags := 24, slot := 5, constantValue := 0 }, { name := "BASE_ADDRESS_AT", type := .int, accessFlags := 24, slot := 6, constantValue := 0 }, { name := "ENTRY_MAP_AT", type := .int, accessFlags := 24, slot := 7, constantValue := 0 }, { name := "TAG_LENGTH", type := .int, accessFlags := 24, slot := 8, constantValue := 0 }, { name := "SUBFIELD_DELIMITER", type := .byte, accessFlags := 24, slot := 9, constantValue := 0 }, { name := "FIELD_TERMINATOR", type := .byte, accessFlags := 24, slot := 10, constantValue := 0 }, { name := "RECORD_TERMINATOR", type := .byte, accessFlags := 24, slot := 11, constantValue := 0 }, { name := "LINE_FEED", type := .byte, accessFlags := 26, slot := 12, constantValue := 0 }, { name := "CARRIAGE_RETURN", type := .byte, accessFlags := 26, slot := 13, constantValue := 0 }, { name := "_in", type := (.object "java/io/InputStream"), accessFlags := 18, slot := 0, constantValue := 0 }, { name := "_buffer", type := (.array .byte), accessFlags := 18, slot := 1, constantValue := 0 }, { name := "TAG_SLOTS", type := .int, accessFlags := 26, slot := 14, constantValue := 0 }, { name := "TAG_SLOT_BITS", type := .int, accessFlags := 26, slot := 15, constantValue := 0 }, { name := "_tags", type := (.array (.object "java/lang/String")), accessFlags := 18, slot := 2, constantValue := 0 }, { name := "_tagBytes", type := (.array .int), accessFlags := 18, slot := 3, constantValue := 0 }, { name := "_fields", type := (.array (.object "com/example/titlepoint/titlepoint/Field")), accessFlags := 2, slot := 4, constantValue := 0 }, { name := "_extents", type := (.array .long), accessFlags := 2, slot := 5, constantValue := 0 }, { name := "_entryTags", type := (.array (.object "java/lang/String")), accessFlags := 2, slot := 6, constantValue := 0 }, { name := "_entries", type := .int, accessFlags := 2, slot := 7, constantValue := 0 }, { name := "_claimed", type := .int, accessFlags := 2, slot := 8, constantValue := 0 }, { name := "_heldLength", type := .int, accessFlags := 2, slot := 9, constantValue := 0 }, { name := "_subfields", type := (.array (.object "com/example/titlepoint/titlepoint/Subfield")), accessFlags := 2, slot := 10, constantValue := 0 }, { name := "_units", type := (.array .char), accessFlags := 2, slot := 11, constantValue := 0 }, { name := "_dataPastAscii", type := .boolean, accessFlags := 2, slot := 12, constantValue := 0 }, { name := "_position", type := .int, accessFlags := 2, slot := 13, constantValue := 0 }, { name := "_limit", type := .int, accessFlags := 2, slot := 14, constantValue := 0 }, { name := "_bufferOffset", type := .long, accessFlags := 2, slot := 15, constantValue := 0 }, { name := "_recordAt", type := .int, accessFlags := 2, slot := 16, constantValue := 0 }, { name := "_number", type := .long, accessFlags := 2, slot := 17, constantValue := 0 }, { name := "_refused", type := .boolean, accessFlags := 2, slot := 18, constantValue := 0 }]
  methods := #[k5m0, k5m1, k5m2]
  instanceTypes := #[(.object "java/io/InputStream"), (.array .byte), (.array (.object "java/lang/String")), (.array .int), (.array (.object "com/example/titlepoint/titlepoint/Field")), (.array .long), (.array (.object "java/lang/String")), .int, .int, .int, (.array (.object "com/example/titlepoint/titlepoint/Subfield")), (.array .char), .boolean, .int, .int, .long, .int, .long, .boolean]
  staticTypes := #[.int, .int, .int, .int, .int, (.object "java/lang/String"), .int, .int, .int, .byte, .byte, .byte, .byte, .byte, .int, .int]
  resolved := Array.replicate 519 none
  statics := none }

def pool6 : Array CpInfo := pool [(1, u "java/lang/Cloneable"), (0, .class_ 1), (0, u "java/lang/Object"), (0, .class_ 3)] 3

/-- java/lang/Cloneable -/
def k6 : Class := { plain "java/lang/Cloneable" (some 0) with
  accessFlags := 1537
  interfaces := #[]
  cf := some (fileOf pool6 2 #[] #[] 1537 4 #[] #[])
  fields := #[]
  methods := #[]
  instanceTypes := #[]
  staticTypes := #[]
  resolved := Array.replicate 8 none
  statics := none }

def pool7 : Array CpInfo := pool [(1, u "java/io/Serializable"), (0, .class_ 1), (0, u "java/lang/Object"), (0, .class_ 3)] 3

/-- java/io/Serializable -/
def k7 : Class := { plain "java/io/Serializable" (some 0) with
  accessFlags := 1537
  interfaces := #[]
  cf := some (fileOf pool7 2 #[] #[] 1537 4 #[] #[])
  fields := #[]
  methods := #[]
  instanceTypes := #[]
  staticTypes := #[]
  resolved := Array.replicate 8 none
  statics := none }

/-- the primitive byte -/
def k8 : Class := { plain "byte" none with kind := .primitive 'B', accessFlags := 0x411 }
/-- [B -/
def k9 : Class := { plain "[B" (some 0) with kind := .array 8 .byte, interfaces := #[6, 7], accessFlags := 1041 }

/-- the primitive int -/
def k10 : Class := { plain "int" none with kind := .primitive 'I', accessFlags := 0x411 }
/-- [I -/
def k11 : Class := { plain "[I" (some 0) with kind := .array 10 .int, interfaces := #[6, 7], accessFlags := 1041 }

def heap : Heap := #[]
def classes : Array Class := #[k0, k1, k2, k3, k4, k5, k6, k7, k8, k9, k10, k11]
def interned : List (Array UInt16 × Addr) := []
def slotsUsed : Nat := 0
def theMethod : MethodId := ⟨1, 1⟩
def args0 : Array Value := #[.int 37, .long 5, .long 7]
def aboutOver (below : List Frame) : State where
  vm := { classes := classes, interned := interned.toArray }
  heap := heap
  slotsUsed := slotsUsed
  threads := #[{ frames := .invoking theMethod args0 :: below }]
def below0 : List Frame := [.native { method := ⟨0, 0⟩, args := #[] }]
def about1 : State := aboutOver below0
def p0 : Program := .bare "" "" ""
def e0 : Env := launch0.env 0 0 0
theorem w_frames : about1.frames = Frame.invoking theMethod args0 :: below0 := rfl
set_option maxRecDepth 65536 in
theorem w_args : argsFit about1.vm theMethod args0 = true := by decide +kernel
set_option maxRecDepth 65536 in
theorem w_heap : heapFits about1 = true := by decide +kernel
set_option maxRecDepth 65536 in
theorem w_runnable : about1.curStatus? = some .runnable := by decide +kernel
set_option maxRecDepth 65536 in
theorem w_alone : about1.alone = true := by decide +kernel
set_option maxRecDepth 65536 in
theorem w_named : about1.methodNamed? x = some theMethod := by decide +kernel
set_option maxRecDepth 65536 in
theorem w_hears : about1.hears theMethod below0 = true := by decide +kernel
set_option maxRecDepth 65536 in
theorem w_ripe : about1.ripe theMethod args0 below0 = true := by decide +kernel
theorem w_running : about1.status = .running := rfl
set_option maxRecDepth 65536 in
theorem w_room : about1.hasRoom e0.platform room_1 = true :=
  launch0.hasRoom_least _ room_1 (by decide +kernel) (by decide +kernel) (by decide +kernel) (by decide +kernel) (by decide +kernel) (by decide +kernel)
theorem allAtoms_all (ts : List Jvm.Cond) (a : Array Jvm.Value) (st : Jvm.State) : (allAtoms ts).before a st = ts.all (fun c => c.before a st) := by
  induction ts with
  | nil => rfl
  | cons c t ih =>
    show (Jvm.Cond.and c (allAtoms t)).before a st = _
    rw [Jvm.Cond.before_and, ih, List.all_cons]
def words1 : List Jvm.Cond := Jvm.Cond.code x code maxLocals ret :: tables_1
/-- a 'code' word, met by the world's own term for the bytes: nothing is compared byte by byte -/
theorem code_word {y : MethodName} {bytes : ByteArray} {mx : Nat} {rt : Option FieldType} {a : Array Value} {s : State} {m : MethodId} {meth : Method} {c : Code} (h1 : s.methodNamed? y = some m) (h2 : s.vm.method? m = some meth) (h3 : meth.code = some c) (h4 : c.code = bytes)
    (h5 : (c.maxLocals == mx && c.exceptionTable.isEmpty && decide (c.maxStack ≤ mostOperands) && decide (meth.sig.returnType = rt) && !meth.locks && decide (parseMethodDescriptor y.desc = some meth.sig)) = true) : (Jvm.Cond.code y bytes mx rt).before a s = true := by
  simp only [Bool.and_eq_true, beq_iff_eq, Bool.not_eq_true', decide_eq_true_eq] at h5
  obtain ⟨⟨⟨⟨⟨g1, g2⟩, g3⟩, g4⟩, g5⟩, g6⟩ := h5
  simp [Cond.before, Cond.holds, Cond.value, h1, h2, h3, h4, g1, g2, g3, g4, g5, g6]
def isCode : Jvm.Cond → Bool
  | .code _ _ _ _ => true
  | _ => false
theorem all_split {L : List Jvm.Cond} {P : Jvm.Cond → Bool} (h1 : L.all (fun c => isCode c || P c) = true) (h2 : ∀ c ∈ L.filter isCode, P c = true) : L.all P = true := by
  refine List.all_eq_true.mpr fun c hc => ?_
  have h := List.all_eq_true.mp h1 c hc
  rcases Bool.eq_false_or_eq_true (isCode c) with hi | hi
  · exact h2 c (List.mem_filter.mpr ⟨hc, hi⟩)
  · simpa [hi] using h
set_option maxRecDepth 65536 in
theorem w_c0 : (Jvm.Cond.code x code maxLocals ret).before args0 about1 = true := code_word (m := ⟨1, 1⟩) (meth := k1m1) (c := k1c1) (by decide +kernel) rfl rfl rfl (by decide +kernel)
set_option maxRecDepth 65536 in
theorem w_c1 : (Jvm.Cond.code ({ cls := "com/example/titlepoint/titlepoint/Iso2709ReaderBeginsWithRecordLengthPinLaw", name := "pick", desc := "(JJI)B" } : Jvm.MethodName) method_3_code (7 : Nat) (Option.some Jvm.ClassFile.FieldType.byte)).before args0 about1 = true := code_word (m := ⟨1, 2⟩) (meth := k1m2) (c := k1c2) (by decide +kernel) rfl rfl rfl (by decide +kernel)
set_option maxRecDepth 65536 in
theorem w_c2 : (Jvm.Cond.code ({ cls := "com/example/titlepoint/titlepoint/Iso2709ReaderBeginsWithRecordLengthPinLaw", name := "putLineEnd", desc := "([BIZZ)I" } : Jvm.MethodName) method_4_code (4 : Nat) (Option.some Jvm.ClassFile.FieldType.int)).before args0 about1 = true := code_word (m := ⟨1, 3⟩) (meth := k1m3) (c := k1c3) (by decide +kernel) rfl rfl rfl (by decide +kernel)
set_option maxRecDepth 65536 in
theorem w_c3 : (Jvm.Cond.code ({ cls := "com/example/titlepoint/titlepoint/Iso2709ReaderBeginsWithRecordLengthPinLaw", name := "put", desc := "([BIB)V" } : Jvm.MethodName) method_5_code (3 : Nat) (Option.none : Option Jvm.ClassFile.FieldType)).before args0 about1 = true := code_word (m := ⟨1, 4⟩) (meth := k1m4) (c := k1c4) (by decide +kernel) rfl rfl rfl (by decide +kernel)
set_option maxRecDepth 65536 in
theorem w_c4 : (Jvm.Cond.code ({ cls := "com/example/titlepoint/titlepoint/Iso2709Reader", name := "beginsWithRecordLength", desc := "([B)Z" } : Jvm.MethodName) prog_8_method_2_code (3 : Nat) (Option.some Jvm.ClassFile.FieldType.boolean)).before args0 about1 = true := code_word (m := ⟨5, 0⟩) (meth := k5m0) (c := k5c0) (by decide +kernel) rfl rfl rfl (by decide +kernel)
set_option maxRecDepth 65536 in
theorem w_c5 : (Jvm.Cond.code ({ cls := "com/example/titlepoint/titlepoint/Iso2709Reader", name := "lineEnd", desc := "([BII)I" } : Jvm.MethodName) prog_8_method_3_code (3 : Nat) (Option.some Jvm.ClassFile.FieldType.int)).before args0 about1 = true := code_word (m := ⟨5, 1⟩) (meth := k5m1) (c := k5c1) (by decide +kernel) rfl rfl rfl (by decide +kernel)
set_option maxRecDepth 65536 in
theorem w_c6 : (Jvm.Cond.code ({ cls := "com/example/titlepoint/titlepoint/Iso2709ReaderBeginsWithRecordLengthPinLaw", name := "digit", desc := "(B)Z" } : Jvm.MethodName) method_6_code (1 : Nat) (Option.some Jvm.ClassFile.FieldType.boolean)).before args0 about1 = true := code_word (m := ⟨1, 5⟩) (meth := k1m5) (c := k1c5) (by decide +kernel) rfl rfl rfl (by decide +kernel)
set_option maxRecDepth 65536 in
theorem w_c7 : (Jvm.Cond.code ({ cls := "com/example/titlepoint/titlepoint/Iso2709Reader", name := "number", desc := "([BII)I" } : Jvm.MethodName) prog_8_method_36_code (6 : Nat) (Option.some Jvm.ClassFile.FieldType.int)).before args0 about1 = true := code_word (m := ⟨5, 2⟩) (meth := k5m2) (c := k5c2) (by decide +kernel) rfl rfl rfl (by decide +kernel)
def codes1 : List Jvm.Cond := [Jvm.Cond.code x code maxLocals ret, Jvm.Cond.code ({ cls := "com/example/titlepoint/titlepoint/Iso2709ReaderBeginsWithRecordLengthPinLaw", name := "pick", desc := "(JJI)B" } : Jvm.MethodName) method_3_code (7 : Nat) (Option.some Jvm.ClassFile.FieldType.byte), Jvm.Cond.code ({ cls := "com/example/titlepoint/titlepoint/Iso2709ReaderBeginsWithRecordLengthPinLaw", name := "putLineEnd", desc := "([BIZZ)I" } : Jvm.MethodName) method_4_code (4 : Nat) (Option.some Jvm.ClassFile.FieldType.int), Jvm.Cond.code ({ cls := "com/example/titlepoint/titlepoint/Iso2709ReaderBeginsWithRecordLengthPinLaw", name := "put", desc := "([BIB)V" } : Jvm.MethodName) method_5_code (3 : Nat) (Option.none : Option Jvm.ClassFile.FieldType), Jvm.Cond.code ({ cls := "com/example/titlepoint/titlepoint/Iso2709Reader", name := "beginsWithRecordLength", desc := "([B)Z" } : Jvm.MethodName) prog_8_method_2_code (3 : Nat) (Option.some Jvm.ClassFile.FieldType.boolean), Jvm.Cond.code ({ cls := "com/example/titlepoint/titlepoint/Iso2709Reader", name := "lineEnd", desc := "([BII)I" } : Jvm.MethodName) prog_8_method_3_code (3 : Nat) (Option.some Jvm.ClassFile.FieldType.int), Jvm.Cond.code ({ cls := "com/example/titlepoint/titlepoint/Iso2709ReaderBeginsWithRecordLengthPinLaw", name := "digit", desc := "(B)Z" } : Jvm.MethodName) method_6_code (1 : Nat) (Option.some Jvm.ClassFile.FieldType.boolean), Jvm.Cond.code ({ cls := "com/example/titlepoint/titlepoint/Iso2709Reader", name := "number", desc := "([BII)I" } : Jvm.MethodName) prog_8_method_36_code (6 : Nat) (Option.some Jvm.ClassFile.FieldType.int)]
set_option maxRecDepth 65536 in
theorem codes_eq : words1.filter isCode = codes1 := rfl
theorem w_codes : ∀ c ∈ words1.filter isCode, c.before args0 about1 = true := by
  rw [codes_eq]
  intro c hc
  simp only [codes1, List.mem_cons, List.not_mem_nil, or_false] at hc
  rcases hc with rfl | rfl | rfl | rfl | rfl | rfl | rfl | rfl
  · exact w_c0
  · exact w_c1
  · exact w_c2
  · exact w_c3
  · exact w_c4
  · exact w_c5
  · exact w_c6
  · exact w_c7
set_option maxRecDepth 65536 in
theorem w_t1 : (words1.take 24).all (fun c => isCode c || c.before args0 about1) = true := by decide +kernel
set_option maxRecDepth 65536 in
theorem w_t2 : (words1.drop 24).all (fun c => isCode c || c.before args0 about1) = true := by decide +kernel
theorem w_tables : (allAtoms (Jvm.Cond.code x code maxLocals ret :: tables_1)).before args0 about1 = true := by
  rw [allAtoms_all]
  show words1.all (fun c => c.before args0 about1) = true
  refine all_split ?_ w_codes
  rw [← List.take_append_drop 24 words1, List.all_append, w_t1, w_t2]
  rfl
set_option maxRecDepth 65536 in
theorem w_case : (Jvm.Cond.and given_1 narrow_1).before args0 about1 = true := by decide +kernel
theorem w_applies : (headSpec (Jvm.Cond.code x code maxLocals ret :: tables_1) room_1).applies x e0.platform about1 = true :=
  (Spec.applies_iff w_frames).mpr ⟨w_running, w_runnable, w_alone, w_named, w_hears, w_ripe, w_room, w_tables⟩
theorem atStart : AtStart classFile x code maxLocals ret World_1 tables_1 room_1 Calls_1 rest_1 Pre_1 launch0 p0 e0 about1 theMethod args0 below0 :=
  ⟨lists_1, trivial, launch0.admits_env _ _ _, launch0.least_env, fairChoices_fair.cas, fairChoices_fair.clock, w_frames, w_args, w_heap, w_applies, trivial, trivial, w_case⟩
end start1
theorem witness_1 : WitnessClaimed_1 := ⟨start1.p0, start1.e0, start1.about1, start1.theMethod, start1.args0, start1.below0, start1.atStart⟩
end Jvm.Pilot.@@N@@
