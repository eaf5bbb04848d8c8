import JvmDerived
import JvmDerived.Pilot.@@N@@Statement
import JvmDerived.Pilot.@@N@@Code
set_option linter.unusedVariables false
set_option linter.unusedSimpArgs false
namespace Jvm.RoadKit
open Sem ClassFile Op Lib Jvm.Stand Jvm.Free Jvm.LawKit
section New
variable {p : Program} {l : Launch} {e : Env} {R : Room} {s : State} {m : MethodId} {args : Array Value} {below : List Frame} {meth : Method} {c : Code} {T : State} {locs : List Loc} {cells slots : Nat}
theorem retI (X : Stand p l e R s m args below meth c T locs cells slots) (hx : p.tables.exec = Jvm.exec) {pc : Nat} {Ls : Array Slot} {z : Int32} {rest : List Value} (hret : meth.sig.returnType = some .int) (hd : decode c.code pc = .ok (.ireturn, 1)) {fs : List Frame}
    (hl : ∀ (f : JFrame) (acts : List Action), f.method = m → f.locked = none → f.entered = [] → (doReturn e (T.setTop f) acts (some (.int z))).1 = T.setFrames fs) : Steps p.tables e below (T.setTop (mkF m pc Ls (.int z :: rest))) (T.setFrames fs) := by
  have hm' : T.vm.method? m = some meth := X.method'
  have hn : narrow .int (.int z) = .int z := rfl
  show Steps p.tables e below (T.setTop { method := m, pc := pc, locals := Ls, stack := _ :: rest, locked := none }) _
  jvm_step X.here [X.here.top, hx, hd, hm', hret, hn]
  first | (intro acts; rw [hl _ acts rfl rfl rfl]) | rw [hl _ _ rfl rfl rfl]
  exact Steps.refl _
end New
end Jvm.RoadKit
namespace Jvm.Pilot.@@N@@
open Jvm Jvm.ClassFile Sem Op Lib Jvm.Free Jvm.Stand Jvm.LawKit Jvm.RoadKit Bundle Jvm.Pilot.@@N@@.Jvm.D
open Jvm.Free.Fl (NoNaN64 Fin64 Nz64)
theorem own_nan {x : UInt64} (h : NoNaN64 x) : FP.Core.val64 x ≠ .nan := (FP.Core.notNaN_iff x).mp (Jvm.Free.Fl.noNaN64_no.mp h)
theorem own_cv {x y : UInt64} {o : CmpOp} (hx : NoNaN64 x) (hy : NoNaN64 y) : (cmpValue (FP.dcmp x y) o < (0 : Int32) ↔ FP.Core.dkey x < FP.Core.dkey y) ∧ ((0 : Int32) < cmpValue (FP.dcmp x y) o ↔ FP.Core.dkey y < FP.Core.dkey x) ∧ (cmpValue (FP.dcmp x y) o = (0 : Int32) ↔ FP.Core.dkey x = FP.Core.dkey y) := by
  have h1 := FP.Core.dcmp_lt_key (own_nan hx) (own_nan hy)
  have h2 := FP.Core.dcmp_eq_key (own_nan hx) (own_nan hy)
  have h3 := FP.Core.dcmp_gt_key (own_nan hx) (own_nan hy)
  have hk := FP.Core.dcmp_key (own_nan hx) (own_nan hy)
  rcases Int.lt_trichotomy (FP.Core.dkey x) (FP.Core.dkey y) with q | q | q
  · have e : FP.dcmp x y = some .lt := h1.mpr q
    rw [e]; cases o <;> simp [cmpValue] <;> omega
  · have e : FP.dcmp x y = some .eq := h2.mpr q
    rw [e]; cases o <;> simp [cmpValue] <;> omega
  · have e : FP.dcmp x y = some .gt := h3.mpr q
    rw [e]; cases o <;> simp [cmpValue] <;> omega
theorem own_max {x : UInt64} (h : NoNaN64 x) : FP.Core.dkey x ≤ 9218868437227405312 := by
  unfold FP.Core.dkey
  split
  · have := x.toNat_lt; omega
  · rename_i q
    have h' : (x &&& 0x7fffffffffffffff).toNat ≤ 9218868437227405312 := UInt64.le_iff_toNat_le.mp h
    rw [UInt64.toNat_and] at h'
    have e : x.toNat &&& (0x7fffffffffffffff : UInt64).toNat = x.toNat := by
      have : (0x7fffffffffffffff : UInt64).toNat = 2 ^ 63 - 1 := rfl
      rw [this, Nat.and_two_pow_sub_one_eq_mod]; omega
    omega
theorem own_k0 : FP.Core.dkey 0 = 0 := by decide +kernel
theorem own_k1 : FP.Core.dkey 1 = 1 := by decide +kernel
theorem own_kmax : FP.Core.dkey 9218868437227405311 = 9218868437227405311 := by decide +kernel
theorem own_kinf : FP.Core.dkey 9218868437227405312 = 9218868437227405312 := by decide +kernel
theorem own_n0 : NoNaN64 0 := by unfold NoNaN64; decide
theorem own_n1 : NoNaN64 1 := by unfold NoNaN64; decide
theorem own_nmax : NoNaN64 9218868437227405311 := by unfold NoNaN64; decide
theorem own_ninf : NoNaN64 9218868437227405312 := by unfold NoNaN64; decide
def own_in (v lo hi : UInt64) : Int32 := if cmpValue (FP.dcmp v lo) .l < (0 : Int32) then (0 : Int32) else if (0 : Int32) < cmpValue (FP.dcmp v hi) .g then (0 : Int32) else (1 : Int32)
theorem own_r0 {v : UInt64} (h : NoNaN64 v) : own_in v 1 9218868437227405311 = (if (0 : Int32) < cmpValue (FP.dcmp v 0) .l then (if cmpValue (FP.dcmp v 9218868437227405312) .l = (0 : Int32) then (0 : Int32) else (1 : Int32)) else (0 : Int32)) := by
  unfold own_in
  have m := own_max h
  have a := (own_cv (o := .l) h own_n1).1
  have b := (own_cv (o := .g) h own_nmax).2.1
  have c := (own_cv (o := .l) h own_n0).2.1
  have d := (own_cv (o := .l) h own_ninf).2.2
  rw [own_k1] at a
  rw [own_kmax] at b
  rw [own_k0] at c
  rw [own_kinf] at d
  by_cases q1 : cmpValue (FP.dcmp v 1) .l < (0 : Int32)
  · rw [if_pos q1, if_neg (fun z => by have := a.mp q1; have := c.mp z; omega)]
  · rw [if_neg q1, if_pos (c.mpr (by have := (not_congr a).mp q1; omega))]
    by_cases q2 : (0 : Int32) < cmpValue (FP.dcmp v 9218868437227405311) .g
    · rw [if_pos q2, if_pos (d.mpr (by have := b.mp q2; omega))]
    · rw [if_neg q2, if_neg (fun z => by have := (not_congr b).mp q2; have := d.mp z; omega)]
theorem own_r1 {v : UInt64} (h : NoNaN64 v) : own_in v 0 9218868437227405311 = (if cmpValue (FP.dcmp v 0) .l < (0 : Int32) then (0 : Int32) else (if cmpValue (FP.dcmp v 9218868437227405312) .l = (0 : Int32) then (0 : Int32) else (1 : Int32))) := by
  unfold own_in
  have m := own_max h
  have b := (own_cv (o := .g) h own_nmax).2.1
  have d := (own_cv (o := .l) h own_ninf).2.2
  rw [own_kmax] at b
  rw [own_kinf] at d
  by_cases q1 : cmpValue (FP.dcmp v 0) .l < (0 : Int32)
  · rw [if_pos q1, if_pos q1]
  · rw [if_neg q1, if_neg q1]
    by_cases q2 : (0 : Int32) < cmpValue (FP.dcmp v 9218868437227405311) .g
    · rw [if_pos q2, if_pos (d.mpr (by have := b.mp q2; omega))]
    · rw [if_neg q2, if_neg (fun z => by have := (not_congr b).mp q2; have := d.mp z; omega)]
theorem own_p3 : ∀ k : Fin 4, Nz64 (FP.i2d ((1 : Int32) <<< (Int32.ofNat k.val &&& 31))) := by unfold Nz64; decide +kernel
theorem own_dv (k a : Int32) (h0 : ¬ k < (0 : Int32)) (h4 : k < (4 : Int32)) : NoNaN64 (FP.ddiv (FP.i2d a) (FP.i2d ((1 : Int32) <<< (k &&& 31)))) := by
  have e : k = Int32.ofNat k.toInt.toNat := by
    rw [Int32.lt_iff_toInt_lt] at h0 h4
    have z0 : (0 : Int32).toInt = 0 := rfl
    have z4 : (4 : Int32).toInt = 4 := rfl
    apply Int32.toInt_inj.mp
    rw [Int32.toInt_ofNat_small (by omega)]; omega
  have hl : k.toInt.toNat < 4 := by
    rw [Int32.lt_iff_toInt_lt] at h0 h4
    have z0 : (0 : Int32).toInt = 0 := rfl
    have z4 : (4 : Int32).toInt = 4 := rfl
    omega
  refine Jvm.Free.Fl.ddiv_out (Jvm.Free.Fl.i2d_fin a).noNaN (Jvm.Free.Fl.i2d_fin _) ?_
  rw [e]
  exact own_p3 ⟨_, hl⟩
def own_val (k a : Int32) : UInt64 := if k < (4 : Int32) then FP.ddiv (FP.i2d a) (FP.i2d ((1 : Int32) <<< (k &&& 31))) else if k = (4 : Int32) then (if (if (a &&& (1 : Int32)) = (0 : Int32) then (0 : Int32) else (1 : Int32)) = (0 : Int32) then (1 : UInt64) else (9223372036854775809 : UInt64)) else if k = (5 : Int32) then (if (if (a &&& (1 : Int32)) = (0 : Int32) then (0 : Int32) else (1 : Int32)) = (0 : Int32) then (9218868437227405311 : UInt64) else (18442240474082181119 : UInt64)) else if k = (6 : Int32) then (if (if (a &&& (1 : Int32)) = (0 : Int32) then (0 : Int32) else (1 : Int32)) = (0 : Int32) then (9218868437227405312 : UInt64) else (18442240474082181120 : UInt64)) else if (a &&& (3 : Int32)) = (0 : Int32) then (9223372036854775808 : UInt64) else if (a &&& (3 : Int32)) = (1 : Int32) then (4746794007248502784 : UInt64) else if (a &&& (3 : Int32)) = (2 : Int32) then (4746794007246405632 : UInt64) else (4607182418800017409 : UInt64)
theorem own_c38 : NoNaN64 (9223372036854775809 : UInt64) := by unfold NoNaN64; decide
theorem own_c40 : NoNaN64 (1 : UInt64) := by unfold NoNaN64; decide
theorem own_c42 : NoNaN64 (18442240474082181119 : UInt64) := by unfold NoNaN64; decide
theorem own_c44 : NoNaN64 (9218868437227405311 : UInt64) := by unfold NoNaN64; decide
theorem own_c46 : NoNaN64 (18442240474082181120 : UInt64) := by unfold NoNaN64; decide
theorem own_c21 : NoNaN64 (9218868437227405312 : UInt64) := by unfold NoNaN64; decide
theorem own_c48 : NoNaN64 (9223372036854775808 : UInt64) := by unfold NoNaN64; decide
theorem own_c50 : NoNaN64 (4746794007248502784 : UInt64) := by unfold NoNaN64; decide
theorem own_c52 : NoNaN64 (4746794007246405632 : UInt64) := by unfold NoNaN64; decide
theorem own_c54 : NoNaN64 (4607182418800017409 : UInt64) := by unfold NoNaN64; decide
theorem own_valn (k a : Int32) (h0 : ¬ k < (0 : Int32)) : NoNaN64 (own_val k a) := by
  unfold own_val
  by_cases h4 : k < (4 : Int32)
  · rw [if_pos h4]; exact own_dv k a h0 h4
  · rw [if_neg h4]
    repeat' split
    all_goals first | exact own_c40 | exact own_c38 | exact own_c44 | exact own_c42 | exact own_c21 | exact own_c46 | exact own_c48 | exact own_c50 | exact own_c52 | exact own_c54
theorem own_k7 (v : Int32) : ¬ (v &&& (7 : Int32)) < (0 : Int32) := by
  have m := c_mask v 7 3 (by decide) (by decide)
  rw [Int32.lt_iff_toInt_lt]
  have : (0 : Int32).toInt = 0 := rfl
  omega
theorem own_dbl {args : Array Value} {s : State} {t : Term} {k : Int64} {b : UInt64} (hb : (Term.op1 Jvm.Unary.bitsD (Term.long k)).eval args s none [] s = some (.double b)) (h : (Jvm.Cond.eq t (Term.op1 Jvm.Unary.bitsD (Term.long k))).value args s none s [] = some true) : t.eval args s none [] s = some (.double b) := by
  simp only [Cond.value, hb] at h
  cases ht : t.eval args s none [] s with
  | none => simp [ht] at h
  | some x => cases x <;> simp [ht] at h ⊢; exact h
theorem ef1 (m : MethodId) (x0 : Int32) (x1 : Int32) : entryFrame m #[(.int x0), (.int x1)] 4 = mkF m 0 #[.val (.int x0), .val (.int x1), .unset, .unset] [] := by first | (simp [entryFrame, mkF, argsToLocals, Value.category]; done) | rfl
theorem pn_0 : plainName "com/example/latchmeter/latchmeter/analysis/RangeContainsPinLaw" = true := by first | (simp [plainName, overriddenIn]; done) | decide +kernel
theorem d1_0 : decode method_3_code 0 = .ok (.iload_n 0, 1) := by decide +kernel
theorem d1_1 : decode method_3_code 1 = .ok (.iconst 4, 1) := by decide +kernel
theorem d1_2 : decode method_3_code 2 = .ok (.if_icmp .ge 11, 3) := by decide +kernel
theorem d1_5 : decode method_3_code 5 = .ok (.iload_n 1, 1) := by decide +kernel
theorem d1_6 : decode method_3_code 6 = .ok (.i2d, 1) := by decide +kernel
theorem d1_7 : decode method_3_code 7 = .ok (.iconst 1, 1) := by decide +kernel
theorem d1_8 : decode method_3_code 8 = .ok (.iload_n 0, 1) := by decide +kernel
theorem d1_9 : decode method_3_code 9 = .ok (.ishl, 1) := by decide +kernel
theorem d1_10 : decode method_3_code 10 = .ok (.i2d, 1) := by decide +kernel
theorem d1_11 : decode method_3_code 11 = .ok (.ddiv, 1) := by decide +kernel
theorem d1_12 : decode method_3_code 12 = .ok (.dreturn, 1) := by decide +kernel
theorem d1_13 : decode method_3_code 13 = .ok (.iload_n 1, 1) := by decide +kernel
theorem d1_14 : decode method_3_code 14 = .ok (.iconst 1, 1) := by decide +kernel
theorem d1_15 : decode method_3_code 15 = .ok (.iand, 1) := by decide +kernel
theorem d1_16 : decode method_3_code 16 = .ok (.ifCond .eq 7, 3) := by decide +kernel
theorem d1_23 : decode method_3_code 23 = .ok (.iconst 0, 1) := by decide +kernel
theorem d1_19 : decode method_3_code 19 = .ok (.iconst 1, 1) := by decide +kernel
theorem d1_20 : decode method_3_code 20 = .ok (.goto 4, 3) := by decide +kernel
theorem d1_24 : decode method_3_code 24 = .ok (.istore_n 2, 1) := by decide +kernel
theorem d1_25 : decode method_3_code 25 = .ok (.iload_n 0, 1) := by decide +kernel
theorem d1_26 : decode method_3_code 26 = .ok (.iconst 4, 1) := by decide +kernel
theorem d1_27 : decode method_3_code 27 = .ok (.if_icmp .ne 17, 3) := by decide +kernel
theorem d1_30 : decode method_3_code 30 = .ok (.iload_n 2, 1) := by decide +kernel
theorem d1_31 : decode method_3_code 31 = .ok (.ifCond .eq 9, 3) := by decide +kernel
theorem d1_40 : decode method_3_code 40 = .ok (.ldc2_w 40, 3) := by decide +kernel
theorem d1_43 : decode method_3_code 43 = .ok (.dreturn, 1) := by decide +kernel
theorem d1_34 : decode method_3_code 34 = .ok (.ldc2_w 38, 3) := by decide +kernel
theorem d1_37 : decode method_3_code 37 = .ok (.goto 6, 3) := by decide +kernel
theorem d1_44 : decode method_3_code 44 = .ok (.iload_n 0, 1) := by decide +kernel
theorem d1_45 : decode method_3_code 45 = .ok (.iconst 5, 1) := by decide +kernel
theorem d1_46 : decode method_3_code 46 = .ok (.if_icmp .ne 17, 3) := by decide +kernel
theorem d1_49 : decode method_3_code 49 = .ok (.iload_n 2, 1) := by decide +kernel
theorem d1_50 : decode method_3_code 50 = .ok (.ifCond .eq 9, 3) := by decide +kernel
theorem d1_59 : decode method_3_code 59 = .ok (.ldc2_w 44, 3) := by decide +kernel
theorem d1_62 : decode method_3_code 62 = .ok (.dreturn, 1) := by decide +kernel
theorem d1_53 : decode method_3_code 53 = .ok (.ldc2_w 42, 3) := by decide +kernel
theorem d1_56 : decode method_3_code 56 = .ok (.goto 6, 3) := by decide +kernel
theorem d1_63 : decode method_3_code 63 = .ok (.iload_n 0, 1) := by decide +kernel
theorem d1_64 : decode method_3_code 64 = .ok (.bipush 6, 2) := by decide +kernel
theorem d1_66 : decode method_3_code 66 = .ok (.if_icmp .ne 17, 3) := by decide +kernel
theorem d1_69 : decode method_3_code 69 = .ok (.iload_n 2, 1) := by decide +kernel
theorem d1_70 : decode method_3_code 70 = .ok (.ifCond .eq 9, 3) := by decide +kernel
theorem d1_79 : decode method_3_code 79 = .ok (.ldc2_w 21, 3) := by decide +kernel
theorem d1_82 : decode method_3_code 82 = .ok (.dreturn, 1) := by decide +kernel
theorem d1_73 : decode method_3_code 73 = .ok (.ldc2_w 46, 3) := by decide +kernel
theorem d1_76 : decode method_3_code 76 = .ok (.goto 6, 3) := by decide +kernel
theorem d1_83 : decode method_3_code 83 = .ok (.iload_n 1, 1) := by decide +kernel
theorem d1_84 : decode method_3_code 84 = .ok (.iconst 3, 1) := by decide +kernel
theorem d1_85 : decode method_3_code 85 = .ok (.iand, 1) := by decide +kernel
theorem d1_86 : decode method_3_code 86 = .ok (.istore_n 3, 1) := by decide +kernel
theorem d1_87 : decode method_3_code 87 = .ok (.iload_n 3, 1) := by decide +kernel
theorem d1_88 : decode method_3_code 88 = .ok (.ifCond .ne 7, 3) := by decide +kernel
theorem d1_91 : decode method_3_code 91 = .ok (.ldc2_w 48, 3) := by decide +kernel
theorem d1_94 : decode method_3_code 94 = .ok (.dreturn, 1) := by decide +kernel
theorem d1_95 : decode method_3_code 95 = .ok (.iload_n 3, 1) := by decide +kernel
theorem d1_96 : decode method_3_code 96 = .ok (.iconst 1, 1) := by decide +kernel
theorem d1_97 : decode method_3_code 97 = .ok (.if_icmp .ne 7, 3) := by decide +kernel
theorem d1_100 : decode method_3_code 100 = .ok (.ldc2_w 50, 3) := by decide +kernel
theorem d1_103 : decode method_3_code 103 = .ok (.dreturn, 1) := by decide +kernel
theorem d1_104 : decode method_3_code 104 = .ok (.iload_n 3, 1) := by decide +kernel
theorem d1_105 : decode method_3_code 105 = .ok (.iconst 2, 1) := by decide +kernel
theorem d1_106 : decode method_3_code 106 = .ok (.if_icmp .ne 7, 3) := by decide +kernel
theorem d1_109 : decode method_3_code 109 = .ok (.ldc2_w 52, 3) := by decide +kernel
theorem d1_112 : decode method_3_code 112 = .ok (.dreturn, 1) := by decide +kernel
theorem d1_113 : decode method_3_code 113 = .ok (.ldc2_w 54, 3) := by decide +kernel
theorem d1_116 : decode method_3_code 116 = .ok (.dreturn, 1) := by decide +kernel
def Q1 (Z : State) (kk : Int32) (a : Int32) (h0 : Heap) (n0 : Nat) (v : Option Value) (h : Heap) (L : List Loc) : Prop := v = some (.double (own_val kk a)) ∧ Fr n0 L ∧ h = h0
set_option maxRecDepth 65536 in
set_option maxHeartbeats 40000000 in
theorem rm1 (l : Launch) (Z : State) (a0 : Array Value) (hw : ∀ d ∈ tables_1, d.before a0 Z = true) (ws : List Jvm.Cond) (kk : Int32) (a : Int32) (h0 : Heap) (n0 : Nat) (Z0 : n0 ≤ h0.size) (hk0 : ¬ kk < (0 : Int32)) :
    MetFree l (⟨"com/example/latchmeter/latchmeter/analysis/RangeContainsPinLaw", "value", "(II)D"⟩ : MethodName) (head1 (Jvm.Cond.code (⟨"com/example/latchmeter/latchmeter/analysis/RangeContainsPinLaw", "value", "(II)D"⟩ : MethodName) method_3_code 4 (some .double) :: ws) ({ frames := 0, cells := 0, slots := 0, locals := 0 } : Room)) (fun zza zzU => zza = #[(.int kk), (.int a)] ∧ Z.Warmed39 zzU.vm ∧ zzU.heap = h0) (fun _ _ _ _ _ => True) (fun _ zzU zzo zzV => ∃ zzv zzL, zzo = .returned zzv ∧ Q1 Z kk a h0 n0 zzv zzV.heap zzL ∧ FrameEnd zzU zzo zzV zzL ({ frames := 0, cells := 0, slots := 0, locals := 0 } : Room).cells ({ frames := 0, cells := 0, slots := 0, locals := 0 } : Room).slots) := by
  refine MetFree.of_bodySF (plainFor_of_name pn_0) hisR ?_
  intro p e s m args below meth c s₁ Bd hml0 hP hK
  obtain ⟨rfl, hZ, hh⟩ := hP
  have hx := Bd.exec
  have hby := Bd.bytes
  have hml : c.maxLocals = 4 := hml0
  have hown : s.vm.findClass "com/example/latchmeter/latchmeter/analysis/RangeContainsPinLaw" = some m.cls := findClass_of_methodNamed Bd.named
  have hnm := (name_of_methodNamed Bd.named Bd.method).1
  have X0 : Stand p l e ({ frames := 0, cells := 0, slots := 0, locals := 0 } : Room) s m #[(.int kk), (.int a)] below meth c s₁ [] 0 0 := Stand.of_body Bd
  have e0 : s₁.heap = h0 := by rw [← hh, Bd.state]; rfl
  have N0 := Fr.nil n0
  have R0 : ∀ zt, Steps p.tables e below (s₁.setTop (mkF m 0 #[.val (.int kk), .val (.int a), .unset, .unset] [])) zt → Steps p.tables e below (s₁.setTop (entryFrame m #[(.int kk), (.int a)] 4)) zt := fun zt zk => castTop (ef1 m kk a) zk
  have R1 : ∀ zt, Steps p.tables e below (s₁.setTop (mkF m 2 #[.val (.int kk), .val (.int a), .unset, .unset] [(.int (4 : Int32)), (.int kk)])) zt → Steps p.tables e below (s₁.setTop (entryFrame m #[(.int kk), (.int a)] 4)) zt := by
    intro zt zk
    refine R0 zt ?_
    show Steps p.tables e below (s₁.setTop (mkF m 0 #[.val (.int kk), .val (.int a), .unset, .unset] [])) _
    refine XS.iloadN X0.here hx rfl (hb hby d1_0) rfl ?_
    show Steps p.tables e below (s₁.setTop (mkF m 1 #[.val (.int kk), .val (.int a), .unset, .unset] [(.int kk)])) _
    refine XS.iconst X0.here hx rfl (hb hby d1_1) ?_
    exact zk
  by_cases hc2 : kk < (4 : Int32)
  ·
    skip
    have R3 : ∀ zt, Steps p.tables e below (s₁.setTop (mkF m 12 #[.val (.int kk), .val (.int a), .unset, .unset] [(.double (FP.ddiv (FP.i2d a) (FP.i2d (((1 : Int32) <<< (kk &&& 31))))))])) zt → Steps p.tables e below (s₁.setTop (entryFrame m #[(.int kk), (.int a)] 4)) zt := by
      intro zt zk
      refine R1 zt ?_
      show Steps p.tables e below (s₁.setTop (mkF m 2 #[.val (.int kk), .val (.int a), .unset, .unset] [(.int (4 : Int32)), (.int kk)])) _
      refine XS.icmpNo X0.here hx rfl (hb hby d1_2) rfl (tlt hc2).2.1 ?_
      show Steps p.tables e below (s₁.setTop (mkF m 5 #[.val (.int kk), .val (.int a), .unset, .unset] [])) _
      refine XS.iloadN X0.here hx rfl (hb hby d1_5) rfl ?_
      show Steps p.tables e below (s₁.setTop (mkF m 6 #[.val (.int kk), .val (.int a), .unset, .unset] [(.int a)])) _
      refine XS.i2dS X0.here hx rfl (hb hby d1_6) rfl rfl ?_
      show Steps p.tables e below (s₁.setTop (mkF m 7 #[.val (.int kk), .val (.int a), .unset, .unset] [(.double (FP.i2d a))])) _
      refine XS.iconst X0.here hx rfl (hb hby d1_7) ?_
      show Steps p.tables e below (s₁.setTop (mkF m 8 #[.val (.int kk), .val (.int a), .unset, .unset] [(.int (1 : Int32)), (.double (FP.i2d a))])) _
      refine XS.iloadN X0.here hx rfl (hb hby d1_8) rfl ?_
      show Steps p.tables e below (s₁.setTop (mkF m 9 #[.val (.int kk), .val (.int a), .unset, .unset] [(.int kk), (.int (1 : Int32)), (.double (FP.i2d a))])) _
      refine XS.ishl X0.here hx rfl (hb hby d1_9) rfl ?_
      show Steps p.tables e below (s₁.setTop (mkF m 10 #[.val (.int kk), .val (.int a), .unset, .unset] [(.int (((1 : Int32) <<< (kk &&& 31)))), (.double (FP.i2d a))])) _
      refine XS.i2dS X0.here hx rfl (hb hby d1_10) rfl rfl ?_
      show Steps p.tables e below (s₁.setTop (mkF m 11 #[.val (.int kk), .val (.int a), .unset, .unset] [(.double (FP.i2d (((1 : Int32) <<< (kk &&& 31))))), (.double (FP.i2d a))])) _
      refine XS.ddivS X0.here hx rfl (hb hby d1_11) rfl (own_dv _ _ hk0 hc2) rfl ?_
      exact zk
    obtain ⟨fs, hr, hrun, hended, hW, hsame⟩ := X0.leave (v := some (.double (FP.ddiv (FP.i2d a) (FP.i2d (((1 : Int32) <<< (kk &&& 31))))))) (fun h => by rw [Bd.returns] at h; cases h)
    refine ⟨_, _, R3 _ ?_, hrun, hended, _, _, rfl, ?_, ⟨_, rfl⟩, hW, hsame.mono (by decide) (by decide)⟩
    · exact retOut X0 hx Bd.returns rfl (Or.inr (Or.inr (Or.inl ⟨rfl, rfl, _, rfl⟩))) (hb hby d1_12) hr
    · show Q1 Z kk a h0 n0 _ s₁.heap _
      rw [e0]
      exact ⟨(by unfold own_val; rw [if_pos hc2]), N0, rfl⟩
  ·
    skip
    have R4 : ∀ zt, Steps p.tables e below (s₁.setTop (mkF m 13 #[.val (.int kk), .val (.int a), .unset, .unset] [])) zt → Steps p.tables e below (s₁.setTop (entryFrame m #[(.int kk), (.int a)] 4)) zt := by
      intro zt zk
      refine R1 zt ?_
      show Steps p.tables e below (s₁.setTop (mkF m 2 #[.val (.int kk), .val (.int a), .unset, .unset] [(.int (4 : Int32)), (.int kk)])) _
      refine XS.icmpYes X0.here hx rfl (pc0 := 2) (pc' := 13) rfl (hb hby d1_2) rfl (flt hc2).2.1 (by decide) (by decide) ?_
      exact zk
    have R5 : ∀ zt, Steps p.tables e below (s₁.setTop (mkF m 24 #[.val (.int kk), .val (.int a), .unset, .unset] [(.int (if (a &&& (1 : Int32)) = (0 : Int32) then (0 : Int32) else (1 : Int32) : Int32))])) zt → Steps p.tables e below (s₁.setTop (entryFrame m #[(.int kk), (.int a)] 4)) zt := by
      have R7 : ∀ zt, Steps p.tables e below (s₁.setTop (mkF m 16 #[.val (.int kk), .val (.int a), .unset, .unset] [(.int (a &&& (1 : Int32)))])) zt → Steps p.tables e below (s₁.setTop (entryFrame m #[(.int kk), (.int a)] 4)) zt := by
        intro zt zk
        refine R4 zt ?_
        show Steps p.tables e below (s₁.setTop (mkF m 13 #[.val (.int kk), .val (.int a), .unset, .unset] [])) _
        refine XS.iloadN X0.here hx rfl (hb hby d1_13) rfl ?_
        show Steps p.tables e below (s₁.setTop (mkF m 14 #[.val (.int kk), .val (.int a), .unset, .unset] [(.int a)])) _
        refine XS.iconst X0.here hx rfl (hb hby d1_14) ?_
        show Steps p.tables e below (s₁.setTop (mkF m 15 #[.val (.int kk), .val (.int a), .unset, .unset] [(.int (1 : Int32)), (.int a)])) _
        refine XS.iand X0.here hx rfl (hb hby d1_15) rfl ?_
        exact zk
      by_cases hc6 : (a &&& (1 : Int32)) = (0 : Int32)
      ·
        skip
        have R8 : ∀ zt, Steps p.tables e below (s₁.setTop (mkF m 24 #[.val (.int kk), .val (.int a), .unset, .unset] [(.int (0 : Int32))])) zt → Steps p.tables e below (s₁.setTop (entryFrame m #[(.int kk), (.int a)] 4)) zt := by
          intro zt zk
          refine R7 zt ?_
          show Steps p.tables e below (s₁.setTop (mkF m 16 #[.val (.int kk), .val (.int a), .unset, .unset] [(.int (a &&& (1 : Int32)))])) _
          refine XS.ifYes X0.here hx rfl (pc0 := 16) (pc' := 23) rfl (hb hby d1_16) rfl ((if0 _ _).trans (teq hc6).1) (by decide) (by decide) ?_
          show Steps p.tables e below (s₁.setTop (mkF m 23 #[.val (.int kk), .val (.int a), .unset, .unset] [])) _
          refine XS.iconst X0.here hx rfl (hb hby d1_23) ?_
          exact zk
        refine fun zt zk => R8 zt ?_
        have q9 : (if (a &&& (1 : Int32)) = (0 : Int32) then (0 : Int32) else (1 : Int32) : Int32) = (0 : Int32) := (if_pos hc6)
        rw [q9] at zk
        try rw [q9]
        exact zk
      ·
        skip
        have R10 : ∀ zt, Steps p.tables e below (s₁.setTop (mkF m 24 #[.val (.int kk), .val (.int a), .unset, .unset] [(.int (1 : Int32))])) zt → Steps p.tables e below (s₁.setTop (entryFrame m #[(.int kk), (.int a)] 4)) zt := by
          intro zt zk
          refine R7 zt ?_
          show Steps p.tables e below (s₁.setTop (mkF m 16 #[.val (.int kk), .val (.int a), .unset, .unset] [(.int (a &&& (1 : Int32)))])) _
          refine XS.ifNo X0.here hx rfl (hb hby d1_16) rfl ((if0 _ _).trans (feq hc6).1) ?_
          show Steps p.tables e below (s₁.setTop (mkF m 19 #[.val (.int kk), .val (.int a), .unset, .unset] [])) _
          refine XS.iconst X0.here hx rfl (hb hby d1_19) ?_
          show Steps p.tables e below (s₁.setTop (mkF m 20 #[.val (.int kk), .val (.int a), .unset, .unset] [(.int (1 : Int32))])) _
          refine XS.goto X0.here hx rfl (pc0 := 20) (pc' := 24) rfl (hb hby d1_20) (by decide) (by decide) ?_
          exact zk
        refine fun zt zk => R10 zt ?_
        have q11 : (if (a &&& (1 : Int32)) = (0 : Int32) then (0 : Int32) else (1 : Int32) : Int32) = (1 : Int32) := (if_neg hc6)
        rw [q11] at zk
        try rw [q11]
        exact zk
    have R12 : ∀ zt, Steps p.tables e below (s₁.setTop (mkF m 27 #[.val (.int kk), .val (.int a), .val (.int (if (a &&& (1 : Int32)) = (0 : Int32) then (0 : Int32) else (1 : Int32) : Int32)), .unset] [(.int (4 : Int32)), (.int kk)])) zt → Steps p.tables e below (s₁.setTop (entryFrame m #[(.int kk), (.int a)] 4)) zt := by
      intro zt zk
      refine R5 zt ?_
      show Steps p.tables e below (s₁.setTop (mkF m 24 #[.val (.int kk), .val (.int a), .unset, .unset] [(.int (if (a &&& (1 : Int32)) = (0 : Int32) then (0 : Int32) else (1 : Int32) : Int32))])) _
      refine XS.istoreN X0.here hx rfl (hb hby d1_24) rfl (l' := #[.val (.int kk), .val (.int a), .val (.int (if (a &&& (1 : Int32)) = (0 : Int32) then (0 : Int32) else (1 : Int32) : Int32)), .unset]) rfl ?_
      show Steps p.tables e below (s₁.setTop (mkF m 25 #[.val (.int kk), .val (.int a), .val (.int (if (a &&& (1 : Int32)) = (0 : Int32) then (0 : Int32) else (1 : Int32) : Int32)), .unset] [])) _
      refine XS.iloadN X0.here hx rfl (hb hby d1_25) rfl ?_
      show Steps p.tables e below (s₁.setTop (mkF m 26 #[.val (.int kk), .val (.int a), .val (.int (if (a &&& (1 : Int32)) = (0 : Int32) then (0 : Int32) else (1 : Int32) : Int32)), .unset] [(.int kk)])) _
      refine XS.iconst X0.here hx rfl (hb hby d1_26) ?_
      exact zk
    by_cases hc13 : kk = (4 : Int32)
    ·
      skip
      have R14 : ∀ zt, Steps p.tables e below (s₁.setTop (mkF m 31 #[.val (.int kk), .val (.int a), .val (.int (if (a &&& (1 : Int32)) = (0 : Int32) then (0 : Int32) else (1 : Int32) : Int32)), .unset] [(.int (if (a &&& (1 : Int32)) = (0 : Int32) then (0 : Int32) else (1 : Int32) : Int32))])) zt → Steps p.tables e below (s₁.setTop (entryFrame m #[(.int kk), (.int a)] 4)) zt := by
        intro zt zk
        refine R12 zt ?_
        show Steps p.tables e below (s₁.setTop (mkF m 27 #[.val (.int kk), .val (.int a), .val (.int (if (a &&& (1 : Int32)) = (0 : Int32) then (0 : Int32) else (1 : Int32) : Int32)), .unset] [(.int (4 : Int32)), (.int kk)])) _
        refine XS.icmpNo X0.here hx rfl (hb hby d1_27) rfl (teq hc13).2 ?_
        show Steps p.tables e below (s₁.setTop (mkF m 30 #[.val (.int kk), .val (.int a), .val (.int (if (a &&& (1 : Int32)) = (0 : Int32) then (0 : Int32) else (1 : Int32) : Int32)), .unset] [])) _
        refine XS.iloadN X0.here hx rfl (hb hby d1_30) rfl ?_
        exact zk
      by_cases hc15 : (if (a &&& (1 : Int32)) = (0 : Int32) then (0 : Int32) else (1 : Int32) : Int32) = (0 : Int32)
      ·
        skip
        have R16 : ∀ zt, Steps p.tables e below (s₁.setTop (mkF m 43 #[.val (.int kk), .val (.int a), .val (.int (if (a &&& (1 : Int32)) = (0 : Int32) then (0 : Int32) else (1 : Int32) : Int32)), .unset] [(.double (1 : UInt64))])) zt → Steps p.tables e below (s₁.setTop (entryFrame m #[(.int kk), (.int a)] 4)) zt := by
          intro zt zk
          refine R14 zt ?_
          show Steps p.tables e below (s₁.setTop (mkF m 31 #[.val (.int kk), .val (.int a), .val (.int (if (a &&& (1 : Int32)) = (0 : Int32) then (0 : Int32) else (1 : Int32) : Int32)), .unset] [(.int (if (a &&& (1 : Int32)) = (0 : Int32) then (0 : Int32) else (1 : Int32) : Int32))])) _
          refine XS.ifYes X0.here hx rfl (pc0 := 31) (pc' := 40) rfl (hb hby d1_31) rfl ((if0 _ _).trans (teq hc15).1) (by decide) (by decide) ?_
          show Steps p.tables e below (s₁.setTop (mkF m 40 #[.val (.int kk), .val (.int a), .val (.int (if (a &&& (1 : Int32)) = (0 : Int32) then (0 : Int32) else (1 : Int32) : Int32)), .unset] [])) _
          refine X0.ldc2DoubleC hx hown (mvT hZ (hw _ (List.mem_of_getElem? (i := 28) rfl))) (g := (mkF m 40 #[.val (.int kk), .val (.int a), .val (.int (if (a &&& (1 : Int32)) = (0 : Int32) then (0 : Int32) else (1 : Int32) : Int32)), .unset] [])) rfl (hb hby d1_40) _ ?_
          exact zk
        obtain ⟨fs, hr, hrun, hended, hW, hsame⟩ := X0.leave (v := some (.double (1 : UInt64))) (fun h => by rw [Bd.returns] at h; cases h)
        refine ⟨_, _, R16 _ ?_, hrun, hended, _, _, rfl, ?_, ⟨_, rfl⟩, hW, hsame.mono (by decide) (by decide)⟩
        · exact retOut X0 hx Bd.returns rfl (Or.inr (Or.inr (Or.inl ⟨rfl, rfl, _, rfl⟩))) (hb hby d1_43) hr
        · show Q1 Z kk a h0 n0 _ s₁.heap _
          rw [e0]
          exact ⟨(by unfold own_val; rw [if_neg hc2, if_pos hc13, if_pos hc15]), N0, rfl⟩
      ·
        skip
        have R17 : ∀ zt, Steps p.tables e below (s₁.setTop (mkF m 43 #[.val (.int kk), .val (.int a), .val (.int (if (a &&& (1 : Int32)) = (0 : Int32) then (0 : Int32) else (1 : Int32) : Int32)), .unset] [(.double (9223372036854775809 : UInt64))])) zt → Steps p.tables e below (s₁.setTop (entryFrame m #[(.int kk), (.int a)] 4)) zt := by
          intro zt zk
          refine R14 zt ?_
          show Steps p.tables e below (s₁.setTop (mkF m 31 #[.val (.int kk), .val (.int a), .val (.int (if (a &&& (1 : Int32)) = (0 : Int32) then (0 : Int32) else (1 : Int32) : Int32)), .unset] [(.int (if (a &&& (1 : Int32)) = (0 : Int32) then (0 : Int32) else (1 : Int32) : Int32))])) _
          refine XS.ifNo X0.here hx rfl (hb hby d1_31) rfl ((if0 _ _).trans (feq hc15).1) ?_
          show Steps p.tables e below (s₁.setTop (mkF m 34 #[.val (.int kk), .val (.int a), .val (.int (if (a &&& (1 : Int32)) = (0 : Int32) then (0 : Int32) else (1 : Int32) : Int32)), .unset] [])) _
          refine X0.ldc2DoubleC hx hown (mvT hZ (hw _ (List.mem_of_getElem? (i := 26) rfl))) (g := (mkF m 34 #[.val (.int kk), .val (.int a), .val (.int (if (a &&& (1 : Int32)) = (0 : Int32) then (0 : Int32) else (1 : Int32) : Int32)), .unset] [])) rfl (hb hby d1_34) _ ?_
          show Steps p.tables e below (s₁.setTop (mkF m 37 #[.val (.int kk), .val (.int a), .val (.int (if (a &&& (1 : Int32)) = (0 : Int32) then (0 : Int32) else (1 : Int32) : Int32)), .unset] [(.double (9223372036854775809 : UInt64))])) _
          refine XS.goto X0.here hx rfl (pc0 := 37) (pc' := 43) rfl (hb hby d1_37) (by decide) (by decide) ?_
          exact zk
        obtain ⟨fs, hr, hrun, hended, hW, hsame⟩ := X0.leave (v := some (.double (9223372036854775809 : UInt64))) (fun h => by rw [Bd.returns] at h; cases h)
        refine ⟨_, _, R17 _ ?_, hrun, hended, _, _, rfl, ?_, ⟨_, rfl⟩, hW, hsame.mono (by decide) (by decide)⟩
        · exact retOut X0 hx Bd.returns rfl (Or.inr (Or.inr (Or.inl ⟨rfl, rfl, _, rfl⟩))) (hb hby d1_43) hr
        · show Q1 Z kk a h0 n0 _ s₁.heap _
          rw [e0]
          exact ⟨(by unfold own_val; rw [if_neg hc2, if_pos hc13, if_neg hc15]), N0, rfl⟩
    ·
      skip
      have R18 : ∀ zt, Steps p.tables e below (s₁.setTop (mkF m 46 #[.val (.int kk), .val (.int a), .val (.int (if (a &&& (1 : Int32)) = (0 : Int32) then (0 : Int32) else (1 : Int32) : Int32)), .unset] [(.int (5 : Int32)), (.int kk)])) zt → Steps p.tables e below (s₁.setTop (entryFrame m #[(.int kk), (.int a)] 4)) zt := by
        intro zt zk
        refine R12 zt ?_
        show Steps p.tables e below (s₁.setTop (mkF m 27 #[.val (.int kk), .val (.int a), .val (.int (if (a &&& (1 : Int32)) = (0 : Int32) then (0 : Int32) else (1 : Int32) : Int32)), .unset] [(.int (4 : Int32)), (.int kk)])) _
        refine XS.icmpYes X0.here hx rfl (pc0 := 27) (pc' := 44) rfl (hb hby d1_27) rfl (feq hc13).2 (by decide) (by decide) ?_
        show Steps p.tables e below (s₁.setTop (mkF m 44 #[.val (.int kk), .val (.int a), .val (.int (if (a &&& (1 : Int32)) = (0 : Int32) then (0 : Int32) else (1 : Int32) : Int32)), .unset] [])) _
        refine XS.iloadN X0.here hx rfl (hb hby d1_44) rfl ?_
        show Steps p.tables e below (s₁.setTop (mkF m 45 #[.val (.int kk), .val (.int a), .val (.int (if (a &&& (1 : Int32)) = (0 : Int32) then (0 : Int32) else (1 : Int32) : Int32)), .unset] [(.int kk)])) _
        refine XS.iconst X0.here hx rfl (hb hby d1_45) ?_
        exact zk
      by_cases hc19 : kk = (5 : Int32)
      ·
        skip
        have R20 : ∀ zt, Steps p.tables e below (s₁.setTop (mkF m 50 #[.val (.int kk), .val (.int a), .val (.int (if (a &&& (1 : Int32)) = (0 : Int32) then (0 : Int32) else (1 : Int32) : Int32)), .unset] [(.int (if (a &&& (1 : Int32)) = (0 : Int32) then (0 : Int32) else (1 : Int32) : Int32))])) zt → Steps p.tables e below (s₁.setTop (entryFrame m #[(.int kk), (.int a)] 4)) zt := by
          intro zt zk
          refine R18 zt ?_
          show Steps p.tables e below (s₁.setTop (mkF m 46 #[.val (.int kk), .val (.int a), .val (.int (if (a &&& (1 : Int32)) = (0 : Int32) then (0 : Int32) else (1 : Int32) : Int32)), .unset] [(.int (5 : Int32)), (.int kk)])) _
          refine XS.icmpNo X0.here hx rfl (hb hby d1_46) rfl (teq hc19).2 ?_
          show Steps p.tables e below (s₁.setTop (mkF m 49 #[.val (.int kk), .val (.int a), .val (.int (if (a &&& (1 : Int32)) = (0 : Int32) then (0 : Int32) else (1 : Int32) : Int32)), .unset] [])) _
          refine XS.iloadN X0.here hx rfl (hb hby d1_49) rfl ?_
          exact zk
        by_cases hc21 : (if (a &&& (1 : Int32)) = (0 : Int32) then (0 : Int32) else (1 : Int32) : Int32) = (0 : Int32)
        ·
          skip
          have R22 : ∀ zt, Steps p.tables e below (s₁.setTop (mkF m 62 #[.val (.int kk), .val (.int a), .val (.int (if (a &&& (1 : Int32)) = (0 : Int32) then (0 : Int32) else (1 : Int32) : Int32)), .unset] [(.double (9218868437227405311 : UInt64))])) zt → Steps p.tables e below (s₁.setTop (entryFrame m #[(.int kk), (.int a)] 4)) zt := by
            intro zt zk
            refine R20 zt ?_
            show Steps p.tables e below (s₁.setTop (mkF m 50 #[.val (.int kk), .val (.int a), .val (.int (if (a &&& (1 : Int32)) = (0 : Int32) then (0 : Int32) else (1 : Int32) : Int32)), .unset] [(.int (if (a &&& (1 : Int32)) = (0 : Int32) then (0 : Int32) else (1 : Int32) : Int32))])) _
            refine XS.ifYes X0.here hx rfl (pc0 := 50) (pc' := 59) rfl (hb hby d1_50) rfl ((if0 _ _).trans (teq hc21).1) (by decide) (by decide) ?_
            show Steps p.tables e below (s₁.setTop (mkF m 59 #[.val (.int kk), .val (.int a), .val (.int (if (a &&& (1 : Int32)) = (0 : Int32) then (0 : Int32) else (1 : Int32) : Int32)), .unset] [])) _
            refine X0.ldc2DoubleC hx hown (mvT hZ (hw _ (List.mem_of_getElem? (i := 21) rfl))) (g := (mkF m 59 #[.val (.int kk), .val (.int a), .val (.int (if (a &&& (1 : Int32)) = (0 : Int32) then (0 : Int32) else (1 : Int32) : Int32)), .unset] [])) rfl (hb hby d1_59) _ ?_
            exact zk
          obtain ⟨fs, hr, hrun, hended, hW, hsame⟩ := X0.leave (v := some (.double (9218868437227405311 : UInt64))) (fun h => by rw [Bd.returns] at h; cases h)
          refine ⟨_, _, R22 _ ?_, hrun, hended, _, _, rfl, ?_, ⟨_, rfl⟩, hW, hsame.mono (by decide) (by decide)⟩
          · exact retOut X0 hx Bd.returns rfl (Or.inr (Or.inr (Or.inl ⟨rfl, rfl, _, rfl⟩))) (hb hby d1_62) hr
          · show Q1 Z kk a h0 n0 _ s₁.heap _
            rw [e0]
            exact ⟨(by unfold own_val; rw [if_neg hc2, if_neg hc13, if_pos hc19, if_pos hc21]), N0, rfl⟩
        ·
          skip
          have R23 : ∀ zt, Steps p.tables e below (s₁.setTop (mkF m 62 #[.val (.int kk), .val (.int a), .val (.int (if (a &&& (1 : Int32)) = (0 : Int32) then (0 : Int32) else (1 : Int32) : Int32)), .unset] [(.double (18442240474082181119 : UInt64))])) zt → Steps p.tables e below (s₁.setTop (entryFrame m #[(.int kk), (.int a)] 4)) zt := by
            intro zt zk
            refine R20 zt ?_
            show Steps p.tables e below (s₁.setTop (mkF m 50 #[.val (.int kk), .val (.int a), .val (.int (if (a &&& (1 : Int32)) = (0 : Int32) then (0 : Int32) else (1 : Int32) : Int32)), .unset] [(.int (if (a &&& (1 : Int32)) = (0 : Int32) then (0 : Int32) else (1 : Int32) : Int32))])) _
            refine XS.ifNo X0.here hx rfl (hb hby d1_50) rfl ((if0 _ _).trans (feq hc21).1) ?_
            show Steps p.tables e below (s₁.setTop (mkF m 53 #[.val (.int kk), .val (.int a), .val (.int (if (a &&& (1 : Int32)) = (0 : Int32) then (0 : Int32) else (1 : Int32) : Int32)), .unset] [])) _
            refine X0.ldc2DoubleC hx hown (mvT hZ (hw _ (List.mem_of_getElem? (i := 30) rfl))) (g := (mkF m 53 #[.val (.int kk), .val (.int a), .val (.int (if (a &&& (1 : Int32)) = (0 : Int32) then (0 : Int32) else (1 : Int32) : Int32)), .unset] [])) rfl (hb hby d1_53) _ ?_
            show Steps p.tables e below (s₁.setTop (mkF m 56 #[.val (.int kk), .val (.int a), .val (.int (if (a &&& (1 : Int32)) = (0 : Int32) then (0 : Int32) else (1 : Int32) : Int32)), .unset] [(.double (18442240474082181119 : UInt64))])) _
            refine XS.goto X0.here hx rfl (pc0 := 56) (pc' := 62) rfl (hb hby d1_56) (by decide) (by decide) ?_
            exact zk
          obtain ⟨fs, hr, hrun, hended, hW, hsame⟩ := X0.leave (v := some (.double (18442240474082181119 : UInt64))) (fun h => by rw [Bd.returns] at h; cases h)
          refine ⟨_, _, R23 _ ?_, hrun, hended, _, _, rfl, ?_, ⟨_, rfl⟩, hW, hsame.mono (by decide) (by decide)⟩
          · exact retOut X0 hx Bd.returns rfl (Or.inr (Or.inr (Or.inl ⟨rfl, rfl, _, rfl⟩))) (hb hby d1_62) hr
          · show Q1 Z kk a h0 n0 _ s₁.heap _
            rw [e0]
            exact ⟨(by unfold own_val; rw [if_neg hc2, if_neg hc13, if_pos hc19, if_neg hc21]), N0, rfl⟩
      ·
        skip
        have R24 : ∀ zt, Steps p.tables e below (s₁.setTop (mkF m 66 #[.val (.int kk), .val (.int a), .val (.int (if (a &&& (1 : Int32)) = (0 : Int32) then (0 : Int32) else (1 : Int32) : Int32)), .unset] [(.int (6 : Int32)), (.int kk)])) zt → Steps p.tables e below (s₁.setTop (entryFrame m #[(.int kk), (.int a)] 4)) zt := by
          intro zt zk
          refine R18 zt ?_
          show Steps p.tables e below (s₁.setTop (mkF m 46 #[.val (.int kk), .val (.int a), .val (.int (if (a &&& (1 : Int32)) = (0 : Int32) then (0 : Int32) else (1 : Int32) : Int32)), .unset] [(.int (5 : Int32)), (.int kk)])) _
          refine XS.icmpYes X0.here hx rfl (pc0 := 46) (pc' := 63) rfl (hb hby d1_46) rfl (feq hc19).2 (by decide) (by decide) ?_
          show Steps p.tables e below (s₁.setTop (mkF m 63 #[.val (.int kk), .val (.int a), .val (.int (if (a &&& (1 : Int32)) = (0 : Int32) then (0 : Int32) else (1 : Int32) : Int32)), .unset] [])) _
          refine XS.iloadN X0.here hx rfl (hb hby d1_63) rfl ?_
          show Steps p.tables e below (s₁.setTop (mkF m 64 #[.val (.int kk), .val (.int a), .val (.int (if (a &&& (1 : Int32)) = (0 : Int32) then (0 : Int32) else (1 : Int32) : Int32)), .unset] [(.int kk)])) _
          refine XS.bipush X0.here hx rfl (hb hby d1_64) ?_
          exact zk
        by_cases hc25 : kk = (6 : Int32)
        ·
          skip
          have R26 : ∀ zt, Steps p.tables e below (s₁.setTop (mkF m 70 #[.val (.int kk), .val (.int a), .val (.int (if (a &&& (1 : Int32)) = (0 : Int32) then (0 : Int32) else (1 : Int32) : Int32)), .unset] [(.int (if (a &&& (1 : Int32)) = (0 : Int32) then (0 : Int32) else (1 : Int32) : Int32))])) zt → Steps p.tables e below (s₁.setTop (entryFrame m #[(.int kk), (.int a)] 4)) zt := by
            intro zt zk
            refine R24 zt ?_
            show Steps p.tables e below (s₁.setTop (mkF m 66 #[.val (.int kk), .val (.int a), .val (.int (if (a &&& (1 : Int32)) = (0 : Int32) then (0 : Int32) else (1 : Int32) : Int32)), .unset] [(.int (6 : Int32)), (.int kk)])) _
            refine XS.icmpNo X0.here hx rfl (hb hby d1_66) rfl (teq hc25).2 ?_
            show Steps p.tables e below (s₁.setTop (mkF m 69 #[.val (.int kk), .val (.int a), .val (.int (if (a &&& (1 : Int32)) = (0 : Int32) then (0 : Int32) else (1 : Int32) : Int32)), .unset] [])) _
            refine XS.iloadN X0.here hx rfl (hb hby d1_69) rfl ?_
            exact zk
          by_cases hc27 : (if (a &&& (1 : Int32)) = (0 : Int32) then (0 : Int32) else (1 : Int32) : Int32) = (0 : Int32)
          ·
            skip
            have R28 : ∀ zt, Steps p.tables e below (s₁.setTop (mkF m 82 #[.val (.int kk), .val (.int a), .val (.int (if (a &&& (1 : Int32)) = (0 : Int32) then (0 : Int32) else (1 : Int32) : Int32)), .unset] [(.double (9218868437227405312 : UInt64))])) zt → Steps p.tables e below (s₁.setTop (entryFrame m #[(.int kk), (.int a)] 4)) zt := by
              intro zt zk
              refine R26 zt ?_
              show Steps p.tables e below (s₁.setTop (mkF m 70 #[.val (.int kk), .val (.int a), .val (.int (if (a &&& (1 : Int32)) = (0 : Int32) then (0 : Int32) else (1 : Int32) : Int32)), .unset] [(.int (if (a &&& (1 : Int32)) = (0 : Int32) then (0 : Int32) else (1 : Int32) : Int32))])) _
              refine XS.ifYes X0.here hx rfl (pc0 := 70) (pc' := 79) rfl (hb hby d1_70) rfl ((if0 _ _).trans (teq hc27).1) (by decide) (by decide) ?_
              show Steps p.tables e below (s₁.setTop (mkF m 79 #[.val (.int kk), .val (.int a), .val (.int (if (a &&& (1 : Int32)) = (0 : Int32) then (0 : Int32) else (1 : Int32) : Int32)), .unset] [])) _
              refine X0.ldc2DoubleC hx hown (mvT hZ (hw _ (List.mem_of_getElem? (i := 7) rfl))) (g := (mkF m 79 #[.val (.int kk), .val (.int a), .val (.int (if (a &&& (1 : Int32)) = (0 : Int32) then (0 : Int32) else (1 : Int32) : Int32)), .unset] [])) rfl (hb hby d1_79) _ ?_
              exact zk
            obtain ⟨fs, hr, hrun, hended, hW, hsame⟩ := X0.leave (v := some (.double (9218868437227405312 : UInt64))) (fun h => by rw [Bd.returns] at h; cases h)
            refine ⟨_, _, R28 _ ?_, hrun, hended, _, _, rfl, ?_, ⟨_, rfl⟩, hW, hsame.mono (by decide) (by decide)⟩
            · exact retOut X0 hx Bd.returns rfl (Or.inr (Or.inr (Or.inl ⟨rfl, rfl, _, rfl⟩))) (hb hby d1_82) hr
            · show Q1 Z kk a h0 n0 _ s₁.heap _
              rw [e0]
              exact ⟨(by unfold own_val; rw [if_neg hc2, if_neg hc13, if_neg hc19, if_pos hc25, if_pos hc27]), N0, rfl⟩
          ·
            skip
            have R29 : ∀ zt, Steps p.tables e below (s₁.setTop (mkF m 82 #[.val (.int kk), .val (.int a), .val (.int (if (a &&& (1 : Int32)) = (0 : Int32) then (0 : Int32) else (1 : Int32) : Int32)), .unset] [(.double (18442240474082181120 : UInt64))])) zt → Steps p.tables e below (s₁.setTop (entryFrame m #[(.int kk), (.int a)] 4)) zt := by
              intro zt zk
              refine R26 zt ?_
              show Steps p.tables e below (s₁.setTop (mkF m 70 #[.val (.int kk), .val (.int a), .val (.int (if (a &&& (1 : Int32)) = (0 : Int32) then (0 : Int32) else (1 : Int32) : Int32)), .unset] [(.int (if (a &&& (1 : Int32)) = (0 : Int32) then (0 : Int32) else (1 : Int32) : Int32))])) _
              refine XS.ifNo X0.here hx rfl (hb hby d1_70) rfl ((if0 _ _).trans (feq hc27).1) ?_
              show Steps p.tables e below (s₁.setTop (mkF m 73 #[.val (.int kk), .val (.int a), .val (.int (if (a &&& (1 : Int32)) = (0 : Int32) then (0 : Int32) else (1 : Int32) : Int32)), .unset] [])) _
              refine X0.ldc2DoubleC hx hown (mvT hZ (hw _ (List.mem_of_getElem? (i := 27) rfl))) (g := (mkF m 73 #[.val (.int kk), .val (.int a), .val (.int (if (a &&& (1 : Int32)) = (0 : Int32) then (0 : Int32) else (1 : Int32) : Int32)), .unset] [])) rfl (hb hby d1_73) _ ?_
              show Steps p.tables e below (s₁.setTop (mkF m 76 #[.val (.int kk), .val (.int a), .val (.int (if (a &&& (1 : Int32)) = (0 : Int32) then (0 : Int32) else (1 : Int32) : Int32)), .unset] [(.double (18442240474082181120 : UInt64))])) _
              refine XS.goto X0.here hx rfl (pc0 := 76) (pc' := 82) rfl (hb hby d1_76) (by decide) (by decide) ?_
              exact zk
            obtain ⟨fs, hr, hrun, hended, hW, hsame⟩ := X0.leave (v := some (.double (18442240474082181120 : UInt64))) (fun h => by rw [Bd.returns] at h; cases h)
            refine ⟨_, _, R29 _ ?_, hrun, hended, _, _, rfl, ?_, ⟨_, rfl⟩, hW, hsame.mono (by decide) (by decide)⟩
            · exact retOut X0 hx Bd.returns rfl (Or.inr (Or.inr (Or.inl ⟨rfl, rfl, _, rfl⟩))) (hb hby d1_82) hr
            · show Q1 Z kk a h0 n0 _ s₁.heap _
              rw [e0]
              exact ⟨(by unfold own_val; rw [if_neg hc2, if_neg hc13, if_neg hc19, if_pos hc25, if_neg hc27]), N0, rfl⟩
        ·
          skip
          have R30 : ∀ zt, Steps p.tables e below (s₁.setTop (mkF m 88 #[.val (.int kk), .val (.int a), .val (.int (if (a &&& (1 : Int32)) = (0 : Int32) then (0 : Int32) else (1 : Int32) : Int32)), .val (.int (a &&& (3 : Int32)))] [(.int (a &&& (3 : Int32)))])) zt → Steps p.tables e below (s₁.setTop (entryFrame m #[(.int kk), (.int a)] 4)) zt := by
            intro zt zk
            refine R24 zt ?_
            show Steps p.tables e below (s₁.setTop (mkF m 66 #[.val (.int kk), .val (.int a), .val (.int (if (a &&& (1 : Int32)) = (0 : Int32) then (0 : Int32) else (1 : Int32) : Int32)), .unset] [(.int (6 : Int32)), (.int kk)])) _
            refine XS.icmpYes X0.here hx rfl (pc0 := 66) (pc' := 83) rfl (hb hby d1_66) rfl (feq hc25).2 (by decide) (by decide) ?_
            show Steps p.tables e below (s₁.setTop (mkF m 83 #[.val (.int kk), .val (.int a), .val (.int (if (a &&& (1 : Int32)) = (0 : Int32) then (0 : Int32) else (1 : Int32) : Int32)), .unset] [])) _
            refine XS.iloadN X0.here hx rfl (hb hby d1_83) rfl ?_
            show Steps p.tables e below (s₁.setTop (mkF m 84 #[.val (.int kk), .val (.int a), .val (.int (if (a &&& (1 : Int32)) = (0 : Int32) then (0 : Int32) else (1 : Int32) : Int32)), .unset] [(.int a)])) _
            refine XS.iconst X0.here hx rfl (hb hby d1_84) ?_
            show Steps p.tables e below (s₁.setTop (mkF m 85 #[.val (.int kk), .val (.int a), .val (.int (if (a &&& (1 : Int32)) = (0 : Int32) then (0 : Int32) else (1 : Int32) : Int32)), .unset] [(.int (3 : Int32)), (.int a)])) _
            refine XS.iand X0.here hx rfl (hb hby d1_85) rfl ?_
            show Steps p.tables e below (s₁.setTop (mkF m 86 #[.val (.int kk), .val (.int a), .val (.int (if (a &&& (1 : Int32)) = (0 : Int32) then (0 : Int32) else (1 : Int32) : Int32)), .unset] [(.int (a &&& (3 : Int32)))])) _
            refine XS.istoreN X0.here hx rfl (hb hby d1_86) rfl (l' := #[.val (.int kk), .val (.int a), .val (.int (if (a &&& (1 : Int32)) = (0 : Int32) then (0 : Int32) else (1 : Int32) : Int32)), .val (.int (a &&& (3 : Int32)))]) rfl ?_
            show Steps p.tables e below (s₁.setTop (mkF m 87 #[.val (.int kk), .val (.int a), .val (.int (if (a &&& (1 : Int32)) = (0 : Int32) then (0 : Int32) else (1 : Int32) : Int32)), .val (.int (a &&& (3 : Int32)))] [])) _
            refine XS.iloadN X0.here hx rfl (hb hby d1_87) rfl ?_
            exact zk
          by_cases hc31 : (a &&& (3 : Int32)) = (0 : Int32)
          ·
            skip
            have R32 : ∀ zt, Steps p.tables e below (s₁.setTop (mkF m 94 #[.val (.int kk), .val (.int a), .val (.int (if (a &&& (1 : Int32)) = (0 : Int32) then (0 : Int32) else (1 : Int32) : Int32)), .val (.int (a &&& (3 : Int32)))] [(.double (9223372036854775808 : UInt64))])) zt → Steps p.tables e below (s₁.setTop (entryFrame m #[(.int kk), (.int a)] 4)) zt := by
              intro zt zk
              refine R30 zt ?_
              show Steps p.tables e below (s₁.setTop (mkF m 88 #[.val (.int kk), .val (.int a), .val (.int (if (a &&& (1 : Int32)) = (0 : Int32) then (0 : Int32) else (1 : Int32) : Int32)), .val (.int (a &&& (3 : Int32)))] [(.int (a &&& (3 : Int32)))])) _
              refine XS.ifNo X0.here hx rfl (hb hby d1_88) rfl ((if0 _ _).trans (teq hc31).2) ?_
              show Steps p.tables e below (s₁.setTop (mkF m 91 #[.val (.int kk), .val (.int a), .val (.int (if (a &&& (1 : Int32)) = (0 : Int32) then (0 : Int32) else (1 : Int32) : Int32)), .val (.int (a &&& (3 : Int32)))] [])) _
              refine X0.ldc2DoubleC hx hown (mvT hZ (hw _ (List.mem_of_getElem? (i := 29) rfl))) (g := (mkF m 91 #[.val (.int kk), .val (.int a), .val (.int (if (a &&& (1 : Int32)) = (0 : Int32) then (0 : Int32) else (1 : Int32) : Int32)), .val (.int (a &&& (3 : Int32)))] [])) rfl (hb hby d1_91) _ ?_
              exact zk
            obtain ⟨fs, hr, hrun, hended, hW, hsame⟩ := X0.leave (v := some (.double (9223372036854775808 : UInt64))) (fun h => by rw [Bd.returns] at h; cases h)
            refine ⟨_, _, R32 _ ?_, hrun, hended, _, _, rfl, ?_, ⟨_, rfl⟩, hW, hsame.mono (by decide) (by decide)⟩
            · exact retOut X0 hx Bd.returns rfl (Or.inr (Or.inr (Or.inl ⟨rfl, rfl, _, rfl⟩))) (hb hby d1_94) hr
            · show Q1 Z kk a h0 n0 _ s₁.heap _
              rw [e0]
              exact ⟨(by unfold own_val; rw [if_neg hc2, if_neg hc13, if_neg hc19, if_neg hc25, if_pos hc31]), N0, rfl⟩
          ·
            skip
            have R33 : ∀ zt, Steps p.tables e below (s₁.setTop (mkF m 97 #[.val (.int kk), .val (.int a), .val (.int (if (a &&& (1 : Int32)) = (0 : Int32) then (0 : Int32) else (1 : Int32) : Int32)), .val (.int (a &&& (3 : Int32)))] [(.int (1 : Int32)), (.int (a &&& (3 : Int32)))])) zt → Steps p.tables e below (s₁.setTop (entryFrame m #[(.int kk), (.int a)] 4)) zt := by
              intro zt zk
              refine R30 zt ?_
              show Steps p.tables e below (s₁.setTop (mkF m 88 #[.val (.int kk), .val (.int a), .val (.int (if (a &&& (1 : Int32)) = (0 : Int32) then (0 : Int32) else (1 : Int32) : Int32)), .val (.int (a &&& (3 : Int32)))] [(.int (a &&& (3 : Int32)))])) _
              refine XS.ifYes X0.here hx rfl (pc0 := 88) (pc' := 95) rfl (hb hby d1_88) rfl ((if0 _ _).trans (feq hc31).2) (by decide) (by decide) ?_
              show Steps p.tables e below (s₁.setTop (mkF m 95 #[.val (.int kk), .val (.int a), .val (.int (if (a &&& (1 : Int32)) = (0 : Int32) then (0 : Int32) else (1 : Int32) : Int32)), .val (.int (a &&& (3 : Int32)))] [])) _
              refine XS.iloadN X0.here hx rfl (hb hby d1_95) rfl ?_
              show Steps p.tables e below (s₁.setTop (mkF m 96 #[.val (.int kk), .val (.int a), .val (.int (if (a &&& (1 : Int32)) = (0 : Int32) then (0 : Int32) else (1 : Int32) : Int32)), .val (.int (a &&& (3 : Int32)))] [(.int (a &&& (3 : Int32)))])) _
              refine XS.iconst X0.here hx rfl (hb hby d1_96) ?_
              exact zk
            by_cases hc34 : (a &&& (3 : Int32)) = (1 : Int32)
            ·
              skip
              have R35 : ∀ zt, Steps p.tables e below (s₁.setTop (mkF m 103 #[.val (.int kk), .val (.int a), .val (.int (if (a &&& (1 : Int32)) = (0 : Int32) then (0 : Int32) else (1 : Int32) : Int32)), .val (.int (a &&& (3 : Int32)))] [(.double (4746794007248502784 : UInt64))])) zt → Steps p.tables e below (s₁.setTop (entryFrame m #[(.int kk), (.int a)] 4)) zt := by
                intro zt zk
                refine R33 zt ?_
                show Steps p.tables e below (s₁.setTop (mkF m 97 #[.val (.int kk), .val (.int a), .val (.int (if (a &&& (1 : Int32)) = (0 : Int32) then (0 : Int32) else (1 : Int32) : Int32)), .val (.int (a &&& (3 : Int32)))] [(.int (1 : Int32)), (.int (a &&& (3 : Int32)))])) _
                refine XS.icmpNo X0.here hx rfl (hb hby d1_97) rfl (teq hc34).2 ?_
                show Steps p.tables e below (s₁.setTop (mkF m 100 #[.val (.int kk), .val (.int a), .val (.int (if (a &&& (1 : Int32)) = (0 : Int32) then (0 : Int32) else (1 : Int32) : Int32)), .val (.int (a &&& (3 : Int32)))] [])) _
                refine X0.ldc2DoubleC hx hown (mvT hZ (hw _ (List.mem_of_getElem? (i := 32) rfl))) (g := (mkF m 100 #[.val (.int kk), .val (.int a), .val (.int (if (a &&& (1 : Int32)) = (0 : Int32) then (0 : Int32) else (1 : Int32) : Int32)), .val (.int (a &&& (3 : Int32)))] [])) rfl (hb hby d1_100) _ ?_
                exact zk
              obtain ⟨fs, hr, hrun, hended, hW, hsame⟩ := X0.leave (v := some (.double (4746794007248502784 : UInt64))) (fun h => by rw [Bd.returns] at h; cases h)
              refine ⟨_, _, R35 _ ?_, hrun, hended, _, _, rfl, ?_, ⟨_, rfl⟩, hW, hsame.mono (by decide) (by decide)⟩
              · exact retOut X0 hx Bd.returns rfl (Or.inr (Or.inr (Or.inl ⟨rfl, rfl, _, rfl⟩))) (hb hby d1_103) hr
              · show Q1 Z kk a h0 n0 _ s₁.heap _
                rw [e0]
                exact ⟨(by unfold own_val; rw [if_neg hc2, if_neg hc13, if_neg hc19, if_neg hc25, if_neg hc31, if_pos hc34]), N0, rfl⟩
            ·
              skip
              have R36 : ∀ zt, Steps p.tables e below (s₁.setTop (mkF m 106 #[.val (.int kk), .val (.int a), .val (.int (if (a &&& (1 : Int32)) = (0 : Int32) then (0 : Int32) else (1 : Int32) : Int32)), .val (.int (a &&& (3 : Int32)))] [(.int (2 : Int32)), (.int (a &&& (3 : Int32)))])) zt → Steps p.tables e below (s₁.setTop (entryFrame m #[(.int kk), (.int a)] 4)) zt := by
                intro zt zk
                refine R33 zt ?_
                show Steps p.tables e below (s₁.setTop (mkF m 97 #[.val (.int kk), .val (.int a), .val (.int (if (a &&& (1 : Int32)) = (0 : Int32) then (0 : Int32) else (1 : Int32) : Int32)), .val (.int (a &&& (3 : Int32)))] [(.int (1 : Int32)), (.int (a &&& (3 : Int32)))])) _
                refine XS.icmpYes X0.here hx rfl (pc0 := 97) (pc' := 104) rfl (hb hby d1_97) rfl (feq hc34).2 (by decide) (by decide) ?_
                show Steps p.tables e below (s₁.setTop (mkF m 104 #[.val (.int kk), .val (.int a), .val (.int (if (a &&& (1 : Int32)) = (0 : Int32) then (0 : Int32) else (1 : Int32) : Int32)), .val (.int (a &&& (3 : Int32)))] [])) _
                refine XS.iloadN X0.here hx rfl (hb hby d1_104) rfl ?_
                show Steps p.tables e below (s₁.setTop (mkF m 105 #[.val (.int kk), .val (.int a), .val (.int (if (a &&& (1 : Int32)) = (0 : Int32) then (0 : Int32) else (1 : Int32) : Int32)), .val (.int (a &&& (3 : Int32)))] [(.int (a &&& (3 : Int32)))])) _
                refine XS.iconst X0.here hx rfl (hb hby d1_105) ?_
                exact zk
              by_cases hc37 : (a &&& (3 : Int32)) = (2 : Int32)
              ·
                skip
                have R38 : ∀ zt, Steps p.tables e below (s₁.setTop (mkF m 112 #[.val (.int kk), .val (.int a), .val (.int (if (a &&& (1 : Int32)) = (0 : Int32) then (0 : Int32) else (1 : Int32) : Int32)), .val (.int (a &&& (3 : Int32)))] [(.double (4746794007246405632 : UInt64))])) zt → Steps p.tables e below (s₁.setTop (entryFrame m #[(.int kk), (.int a)] 4)) zt := by
                  intro zt zk
                  refine R36 zt ?_
                  show Steps p.tables e below (s₁.setTop (mkF m 106 #[.val (.int kk), .val (.int a), .val (.int (if (a &&& (1 : Int32)) = (0 : Int32) then (0 : Int32) else (1 : Int32) : Int32)), .val (.int (a &&& (3 : Int32)))] [(.int (2 : Int32)), (.int (a &&& (3 : Int32)))])) _
                  refine XS.icmpNo X0.here hx rfl (hb hby d1_106) rfl (teq hc37).2 ?_
                  show Steps p.tables e below (s₁.setTop (mkF m 109 #[.val (.int kk), .val (.int a), .val (.int (if (a &&& (1 : Int32)) = (0 : Int32) then (0 : Int32) else (1 : Int32) : Int32)), .val (.int (a &&& (3 : Int32)))] [])) _
                  refine X0.ldc2DoubleC hx hown (mvT hZ (hw _ (List.mem_of_getElem? (i := 31) rfl))) (g := (mkF m 109 #[.val (.int kk), .val (.int a), .val (.int (if (a &&& (1 : Int32)) = (0 : Int32) then (0 : Int32) else (1 : Int32) : Int32)), .val (.int (a &&& (3 : Int32)))] [])) rfl (hb hby d1_109) _ ?_
                  exact zk
                obtain ⟨fs, hr, hrun, hended, hW, hsame⟩ := X0.leave (v := some (.double (4746794007246405632 : UInt64))) (fun h => by rw [Bd.returns] at h; cases h)
                refine ⟨_, _, R38 _ ?_, hrun, hended, _, _, rfl, ?_, ⟨_, rfl⟩, hW, hsame.mono (by decide) (by decide)⟩
                · exact retOut X0 hx Bd.returns rfl (Or.inr (Or.inr (Or.inl ⟨rfl, rfl, _, rfl⟩))) (hb hby d1_112) hr
                · show Q1 Z kk a h0 n0 _ s₁.heap _
                  rw [e0]
                  exact ⟨(by unfold own_val; rw [if_neg hc2, if_neg hc13, if_neg hc19, if_neg hc25, if_neg hc31, if_neg hc34, if_pos hc37]), N0, rfl⟩
              ·
                skip
                have R39 : ∀ zt, Steps p.tables e below (s₁.setTop (mkF m 116 #[.val (.int kk), .val (.int a), .val (.int (if (a &&& (1 : Int32)) = (0 : Int32) then (0 : Int32) else (1 : Int32) : Int32)), .val (.int (a &&& (3 : Int32)))] [(.double (4607182418800017409 : UInt64))])) zt → Steps p.tables e below (s₁.setTop (entryFrame m #[(.int kk), (.int a)] 4)) zt := by
                  intro zt zk
                  refine R36 zt ?_
                  show Steps p.tables e below (s₁.setTop (mkF m 106 #[.val (.int kk), .val (.int a), .val (.int (if (a &&& (1 : Int32)) = (0 : Int32) then (0 : Int32) else (1 : Int32) : Int32)), .val (.int (a &&& (3 : Int32)))] [(.int (2 : Int32)), (.int (a &&& (3 : Int32)))])) _
                  refine XS.icmpYes X0.here hx rfl (pc0 := 106) (pc' := 113) rfl (hb hby d1_106) rfl (feq hc37).2 (by decide) (by decide) ?_
                  show Steps p.tables e below (s₁.setTop (mkF m 113 #[.val (.int kk), .val (.int a), .val (.int (if (a &&& (1 : Int32)) = (0 : Int32) then (0 : Int32) else (1 : Int32) : Int32)), .val (.int (a &&& (3 : Int32)))] [])) _
                  refine X0.ldc2DoubleC hx hown (mvT hZ (hw _ (List.mem_of_getElem? (i := 25) rfl))) (g := (mkF m 113 #[.val (.int kk), .val (.int a), .val (.int (if (a &&& (1 : Int32)) = (0 : Int32) then (0 : Int32) else (1 : Int32) : Int32)), .val (.int (a &&& (3 : Int32)))] [])) rfl (hb hby d1_113) _ ?_
                  exact zk
                obtain ⟨fs, hr, hrun, hended, hW, hsame⟩ := X0.leave (v := some (.double (4607182418800017409 : UInt64))) (fun h => by rw [Bd.returns] at h; cases h)
                refine ⟨_, _, R39 _ ?_, hrun, hended, _, _, rfl, ?_, ⟨_, rfl⟩, hW, hsame.mono (by decide) (by decide)⟩
                · exact retOut X0 hx Bd.returns rfl (Or.inr (Or.inr (Or.inl ⟨rfl, rfl, _, rfl⟩))) (hb hby d1_116) hr
                · show Q1 Z kk a h0 n0 _ s₁.heap _
                  rw [e0]
                  exact ⟨(by unfold own_val; rw [if_neg hc2, if_neg hc13, if_neg hc19, if_neg hc25, if_neg hc31, if_neg hc34, if_neg hc37]), N0, rfl⟩
theorem ef2 (m : MethodId) (x0 : Addr) (x1 : UInt64) : entryFrame m #[(.ref x0), (.double x1)] 3 = mkF m 0 #[.val (.ref x0), .val (.double x1), .second] [] := by first | (simp [entryFrame, mkF, argsToLocals, Value.category]; done) | rfl
theorem pn_1 : plainName "com/example/latchmeter/latchmeter/analysis/Parameter$Range" = true := by first | (simp [plainName, overriddenIn]; done) | decide +kernel
theorem d2_0 : decode prog_8_method_4_code 0 = .ok (.dload_n 1, 1) := by decide +kernel
theorem d2_1 : decode prog_8_method_4_code 1 = .ok (.aload_n 0, 1) := by decide +kernel
theorem d2_2 : decode prog_8_method_4_code 2 = .ok (.getfield 35, 3) := by decide +kernel
theorem d2_5 : decode prog_8_method_4_code 5 = .ok (.dcmp .l, 1) := by decide +kernel
theorem d2_6 : decode prog_8_method_4_code 6 = .ok (.ifCond .lt 16, 3) := by decide +kernel
theorem d2_22 : decode prog_8_method_4_code 22 = .ok (.iconst 0, 1) := by decide +kernel
theorem d2_23 : decode prog_8_method_4_code 23 = .ok (.ireturn, 1) := by decide +kernel
theorem d2_9 : decode prog_8_method_4_code 9 = .ok (.dload_n 1, 1) := by decide +kernel
theorem d2_10 : decode prog_8_method_4_code 10 = .ok (.aload_n 0, 1) := by decide +kernel
theorem d2_11 : decode prog_8_method_4_code 11 = .ok (.getfield 39, 3) := by decide +kernel
theorem d2_14 : decode prog_8_method_4_code 14 = .ok (.dcmp .g, 1) := by decide +kernel
theorem d2_15 : decode prog_8_method_4_code 15 = .ok (.ifCond .gt 7, 3) := by decide +kernel
theorem d2_18 : decode prog_8_method_4_code 18 = .ok (.iconst 1, 1) := by decide +kernel
theorem d2_19 : decode prog_8_method_4_code 19 = .ok (.goto 4, 3) := by decide +kernel
def Q2 (Z : State) (a : Addr) (dv : UInt64) (lo : UInt64) (hi : UInt64) (h0 : Heap) (n0 : Nat) (v : Option Value) (h : Heap) (L : List Loc) : Prop := v = some (.int (own_in dv lo hi)) ∧ Fr n0 L ∧ h = h0
set_option maxRecDepth 65536 in
set_option maxHeartbeats 40000000 in
theorem rm2 (l : Launch) (Z : State) (a0 : Array Value) (hw : ∀ d ∈ tables_1, d.before a0 Z = true) (ws : List Jvm.Cond) (a : Addr) (dv : UInt64) (lo : UInt64) (hi : UInt64) (h0 : Heap) (n0 : Nat) (Z0 : n0 ≤ h0.size) (F_lo : Fld Z h0 a "com/example/latchmeter/latchmeter/analysis/Parameter$Range" "least" "D" (.double lo)) (F_hi : Fld Z h0 a "com/example/latchmeter/latchmeter/analysis/Parameter$Range" "most" "D" (.double hi)) :
    MetFree l (⟨"com/example/latchmeter/latchmeter/analysis/Parameter$Range", "contains", "(D)Z"⟩ : MethodName) (head1 (Jvm.Cond.code (⟨"com/example/latchmeter/latchmeter/analysis/Parameter$Range", "contains", "(D)Z"⟩ : MethodName) prog_8_method_4_code 3 (some .boolean) :: ws) ({ frames := 0, cells := 0, slots := 0, locals := 0 } : Room)) (fun zza zzU => zza = #[(.ref a), (.double dv)] ∧ Z.Warmed39 zzU.vm ∧ zzU.heap = h0) (fun _ _ _ _ _ => True) (fun _ zzU zzo zzV => ∃ zzv zzL, zzo = .returned zzv ∧ Q2 Z a dv lo hi h0 n0 zzv zzV.heap zzL ∧ FrameEnd zzU zzo zzV zzL ({ frames := 0, cells := 0, slots := 0, locals := 0 } : Room).cells ({ frames := 0, cells := 0, slots := 0, locals := 0 } : Room).slots) := by
  refine MetFree.of_bodySF (plainFor_of_name pn_1) hisR ?_
  intro p e s m args below meth c s₁ Bd hml0 hP hK
  obtain ⟨rfl, hZ, hh⟩ := hP
  have hx := Bd.exec
  have hby := Bd.bytes
  have hml : c.maxLocals = 3 := hml0
  have hown : s.vm.findClass "com/example/latchmeter/latchmeter/analysis/Parameter$Range" = some m.cls := findClass_of_methodNamed Bd.named
  have hnm := (name_of_methodNamed Bd.named Bd.method).1
  have X0 : Stand p l e ({ frames := 0, cells := 0, slots := 0, locals := 0 } : Room) s m #[(.ref a), (.double dv)] below meth c s₁ [] 0 0 := Stand.of_body Bd
  have e0 : s₁.heap = h0 := by rw [← hh, Bd.state]; rfl
  have N0 := Fr.nil n0
  have R0 : ∀ zt, Steps p.tables e below (s₁.setTop (mkF m 0 #[.val (.ref a), .val (.double dv), .second] [])) zt → Steps p.tables e below (s₁.setTop (entryFrame m #[(.ref a), (.double dv)] 3)) zt := fun zt zk => castTop (ef2 m a dv) zk
  have R1 : ∀ zt, Steps p.tables e below (s₁.setTop (mkF m 2 #[.val (.ref a), .val (.double dv), .second] [(.ref a), (.double dv)])) zt → Steps p.tables e below (s₁.setTop (entryFrame m #[(.ref a), (.double dv)] 3)) zt := by
    intro zt zk
    refine R0 zt ?_
    show Steps p.tables e below (s₁.setTop (mkF m 0 #[.val (.ref a), .val (.double dv), .second] [])) _
    refine XS.dloadN X0.here hx rfl (hb hby d2_0) rfl ?_
    show Steps p.tables e below (s₁.setTop (mkF m 1 #[.val (.ref a), .val (.double dv), .second] [(.double dv)])) _
    refine XS.aloadN X0.here hx rfl (hb hby d2_1) rfl rfl ?_
    exact zk
  obtain ⟨T2, X2, e2, st2⟩ := getF X0 hx hZ hown (host := "") (Or.inl (hw _ (List.mem_of_getElem? (i := 13) rfl))) Via.refl e0 F_lo (g := (mkF m 2 #[.val (.ref a), .val (.double dv), .second] [(.ref a), (.double dv)])) rfl rfl (hb hby d2_2)
  have R3 : ∀ zt, Steps p.tables e below (T2.setTop (mkF m 6 #[.val (.ref a), .val (.double dv), .second] [(.int (cmpValue (FP.dcmp dv lo) .l))])) zt → Steps p.tables e below (s₁.setTop (entryFrame m #[(.ref a), (.double dv)] 3)) zt := by
    intro zt zk
    refine R1 zt ?_
    show Steps p.tables e below (s₁.setTop (mkF m 2 #[.val (.ref a), .val (.double dv), .second] [(.ref a), (.double dv)])) _
    refine st2 _ ?_
    show Steps p.tables e below (T2.setTop (mkF m 5 #[.val (.ref a), .val (.double dv), .second] [(.double lo), (.double dv)])) _
    refine XS.dcmpS X2.here hx rfl (hb hby d2_5) rfl rfl ?_
    exact zk
  by_cases hc4 : (cmpValue (FP.dcmp dv lo) .l) < (0 : Int32)
  ·
    skip
    have R5 : ∀ zt, Steps p.tables e below (T2.setTop (mkF m 23 #[.val (.ref a), .val (.double dv), .second] [(.int (0 : Int32))])) zt → Steps p.tables e below (s₁.setTop (entryFrame m #[(.ref a), (.double dv)] 3)) zt := by
      intro zt zk
      refine R3 zt ?_
      show Steps p.tables e below (T2.setTop (mkF m 6 #[.val (.ref a), .val (.double dv), .second] [(.int (cmpValue (FP.dcmp dv lo) .l))])) _
      refine XS.ifYes X2.here hx rfl (pc0 := 6) (pc' := 22) rfl (hb hby d2_6) rfl ((if0 _ _).trans (tlt hc4).1) (by decide) (by decide) ?_
      show Steps p.tables e below (T2.setTop (mkF m 22 #[.val (.ref a), .val (.double dv), .second] [])) _
      refine XS.iconst X2.here hx rfl (hb hby d2_22) ?_
      exact zk
    obtain ⟨fs, hr, hrun, hended, hW, hsame⟩ := X2.leave (v := some (.int (0 : Int32))) (fun h => by rw [Bd.returns] at h; cases h)
    refine ⟨_, _, R5 _ ?_, hrun, hended, _, _, rfl, ?_, ⟨_, rfl⟩, hW, hsame.mono (by decide) (by decide)⟩
    · exact retN X2 hx (t := .boolean) Bd.returns (by simp) (hb hby d2_23) hr
    · show Q2 Z a dv lo hi h0 n0 _ T2.heap _
      rw [e2]
      exact ⟨(by unfold own_in; rw [if_pos hc4]), N0, rfl⟩
  ·
    skip
    have R6 : ∀ zt, Steps p.tables e below (T2.setTop (mkF m 11 #[.val (.ref a), .val (.double dv), .second] [(.ref a), (.double dv)])) zt → Steps p.tables e below (s₁.setTop (entryFrame m #[(.ref a), (.double dv)] 3)) zt := by
      intro zt zk
      refine R3 zt ?_
      show Steps p.tables e below (T2.setTop (mkF m 6 #[.val (.ref a), .val (.double dv), .second] [(.int (cmpValue (FP.dcmp dv lo) .l))])) _
      refine XS.ifNo X2.here hx rfl (hb hby d2_6) rfl ((if0 _ _).trans (flt hc4).1) ?_
      show Steps p.tables e below (T2.setTop (mkF m 9 #[.val (.ref a), .val (.double dv), .second] [])) _
      refine XS.dloadN X2.here hx rfl (hb hby d2_9) rfl ?_
      show Steps p.tables e below (T2.setTop (mkF m 10 #[.val (.ref a), .val (.double dv), .second] [(.double dv)])) _
      refine XS.aloadN X2.here hx rfl (hb hby d2_10) rfl rfl ?_
      exact zk
    obtain ⟨T7, X7, e7, st7⟩ := getF X2 hx hZ hown (host := "") (Or.inl (hw _ (List.mem_of_getElem? (i := 15) rfl))) Via.refl e2 F_hi (g := (mkF m 11 #[.val (.ref a), .val (.double dv), .second] [(.ref a), (.double dv)])) rfl rfl (hb hby d2_11)
    have R8 : ∀ zt, Steps p.tables e below (T7.setTop (mkF m 15 #[.val (.ref a), .val (.double dv), .second] [(.int (cmpValue (FP.dcmp dv hi) .g))])) zt → Steps p.tables e below (s₁.setTop (entryFrame m #[(.ref a), (.double dv)] 3)) zt := by
      intro zt zk
      refine R6 zt ?_
      show Steps p.tables e below (T2.setTop (mkF m 11 #[.val (.ref a), .val (.double dv), .second] [(.ref a), (.double dv)])) _
      refine st7 _ ?_
      show Steps p.tables e below (T7.setTop (mkF m 14 #[.val (.ref a), .val (.double dv), .second] [(.double hi), (.double dv)])) _
      refine XS.dcmpS X7.here hx rfl (hb hby d2_14) rfl rfl ?_
      exact zk
    by_cases hc9 : (0 : Int32) < (cmpValue (FP.dcmp dv hi) .g)
    ·
      skip
      have R10 : ∀ zt, Steps p.tables e below (T7.setTop (mkF m 23 #[.val (.ref a), .val (.double dv), .second] [(.int (0 : Int32))])) zt → Steps p.tables e below (s₁.setTop (entryFrame m #[(.ref a), (.double dv)] 3)) zt := by
        intro zt zk
        refine R8 zt ?_
        show Steps p.tables e below (T7.setTop (mkF m 15 #[.val (.ref a), .val (.double dv), .second] [(.int (cmpValue (FP.dcmp dv hi) .g))])) _
        refine XS.ifYes X7.here hx rfl (pc0 := 15) (pc' := 22) rfl (hb hby d2_15) rfl ((if0 _ _).trans (tlt hc9).2.2.1) (by decide) (by decide) ?_
        show Steps p.tables e below (T7.setTop (mkF m 22 #[.val (.ref a), .val (.double dv), .second] [])) _
        refine XS.iconst X7.here hx rfl (hb hby d2_22) ?_
        exact zk
      obtain ⟨fs, hr, hrun, hended, hW, hsame⟩ := X7.leave (v := some (.int (0 : Int32))) (fun h => by rw [Bd.returns] at h; cases h)
      refine ⟨_, _, R10 _ ?_, hrun, hended, _, _, rfl, ?_, ⟨_, rfl⟩, hW, hsame.mono (by decide) (by decide)⟩
      · exact retN X7 hx (t := .boolean) Bd.returns (by simp) (hb hby d2_23) hr
      · show Q2 Z a dv lo hi h0 n0 _ T7.heap _
        rw [e7]
        exact ⟨(by unfold own_in; rw [if_neg hc4, if_pos hc9]), N0, rfl⟩
    ·
      skip
      have R11 : ∀ zt, Steps p.tables e below (T7.setTop (mkF m 23 #[.val (.ref a), .val (.double dv), .second] [(.int (1 : Int32))])) zt → Steps p.tables e below (s₁.setTop (entryFrame m #[(.ref a), (.double dv)] 3)) zt := by
        intro zt zk
        refine R8 zt ?_
        show Steps p.tables e below (T7.setTop (mkF m 15 #[.val (.ref a), .val (.double dv), .second] [(.int (cmpValue (FP.dcmp dv hi) .g))])) _
        refine XS.ifNo X7.here hx rfl (hb hby d2_15) rfl ((if0 _ _).trans (flt hc9).2.2.1) ?_
        show Steps p.tables e below (T7.setTop (mkF m 18 #[.val (.ref a), .val (.double dv), .second] [])) _
        refine XS.iconst X7.here hx rfl (hb hby d2_18) ?_
        show Steps p.tables e below (T7.setTop (mkF m 19 #[.val (.ref a), .val (.double dv), .second] [(.int (1 : Int32))])) _
        refine XS.goto X7.here hx rfl (pc0 := 19) (pc' := 23) rfl (hb hby d2_19) (by decide) (by decide) ?_
        exact zk
      obtain ⟨fs, hr, hrun, hended, hW, hsame⟩ := X7.leave (v := some (.int (1 : Int32))) (fun h => by rw [Bd.returns] at h; cases h)
      refine ⟨_, _, R11 _ ?_, hrun, hended, _, _, rfl, ?_, ⟨_, rfl⟩, hW, hsame.mono (by decide) (by decide)⟩
      · exact retN X7 hx (t := .boolean) Bd.returns (by simp) (hb hby d2_23) hr
      · show Q2 Z a dv lo hi h0 n0 _ T7.heap _
        rw [e7]
        exact ⟨(by unfold own_in; rw [if_neg hc4, if_neg hc9]), N0, rfl⟩
theorem ef0 (m : MethodId) (x0 : Int32) (x1 : Int32) : entryFrame m #[(.int x0), (.int x1)] maxLocals = mkF m 0 #[.val (.int x0), .val (.int x1), .unset, .unset, .unset, .unset, .unset, .unset] [] := by first | (simp [entryFrame, mkF, argsToLocals, Value.category, maxLocals]; done) | rfl
theorem pd_0 : parseMethodDescriptor "(II)D" = some ⟨[.int, .int], some .double⟩ := by decide +kernel
theorem pd_1 : parseMethodDescriptor "(D)Z" = some ⟨[.double], some .boolean⟩ := by decide +kernel
def Q0 (Z : State) (p0 : Int32) (p1 : Int32) (r0 : Addr) (r1 : Addr) (r2 : Addr) (r3 : Addr) (h0 : Heap) (n0 : Nat) (v : Option Value) (h : Heap) (L : List Loc) : Prop := v = some (.int (1 : Int32)) ∧ Fr n0 L
set_option maxRecDepth 65536 in
set_option maxHeartbeats 40000000 in
theorem rm0 (l : Launch) (Z : State) (a0 : Array Value) (hw : ∀ d ∈ tables_1, d.before a0 Z = true) (ws : List Jvm.Cond) (p0 : Int32) (p1 : Int32) (r0 : Addr) (r1 : Addr) (r2 : Addr) (r3 : Addr) (h0 : Heap) (n0 : Nat) (Z0 : n0 ≤ h0.size) (Sr0 : Sta Z h0 "com/example/latchmeter/latchmeter/analysis/Parameter$Range" "ABOVE_ZERO" "Lcom/example/latchmeter/latchmeter/analysis/Parameter$Range;" (.ref r0)) (E_r0 : Exa Z h0 r0 "com/example/latchmeter/latchmeter/analysis/Parameter$Range") (L_r0 : Fld Z h0 r0 "com/example/latchmeter/latchmeter/analysis/Parameter$Range" "least" "D" (.double (1 : UInt64))) (M_r0 : Fld Z h0 r0 "com/example/latchmeter/latchmeter/analysis/Parameter$Range" "most" "D" (.double (9218868437227405311 : UInt64))) (Sr1 : Sta Z h0 "com/example/latchmeter/latchmeter/analysis/Parameter$Range" "NOT_NEGATIVE" "Lcom/example/latchmeter/latchmeter/analysis/Parameter$Range;" (.ref r1)) (E_r1 : Exa Z h0 r1 "com/example/latchmeter/latchmeter/analysis/Parameter$Range") (L_r1 : Fld Z h0 r1 "com/example/latchmeter/latchmeter/analysis/Parameter$Range" "least" "D" (.double (0 : UInt64))) (M_r1 : Fld Z h0 r1 "com/example/latchmeter/latchmeter/analysis/Parameter$Range" "most" "D" (.double (9218868437227405311 : UInt64))) (Sr2 : Sta Z h0 "com/example/latchmeter/latchmeter/analysis/Parameter$Range" "FRACTION" "Lcom/example/latchmeter/latchmeter/analysis/Parameter$Range;" (.ref r2)) (E_r2 : Exa Z h0 r2 "com/example/latchmeter/latchmeter/analysis/Parameter$Range") (L_r2 : Fld Z h0 r2 "com/example/latchmeter/latchmeter/analysis/Parameter$Range" "least" "D" (.double (0 : UInt64))) (M_r2 : Fld Z h0 r2 "com/example/latchmeter/latchmeter/analysis/Parameter$Range" "most" "D" (.double (4607182418800017408 : UInt64))) (Sr3 : Sta Z h0 "com/example/latchmeter/latchmeter/analysis/Parameter$Range" "COUNT" "Lcom/example/latchmeter/latchmeter/analysis/Parameter$Range;" (.ref r3)) (E_r3 : Exa Z h0 r3 "com/example/latchmeter/latchmeter/analysis/Parameter$Range") (L_r3 : Fld Z h0 r3 "com/example/latchmeter/latchmeter/analysis/Parameter$Range" "least" "D" (.double (4607182418800017408 : UInt64))) (M_r3 : Fld Z h0 r3 "com/example/latchmeter/latchmeter/analysis/Parameter$Range" "most" "D" (.double (4746794007244308480 : UInt64))) :
    MetFree l x (head1 (Jvm.Cond.code x code maxLocals ret :: ws) room_1) (fun zza zzU => zza = #[(.int p0), (.int p1)] ∧ Z.Warmed39 zzU.vm ∧ zzU.heap = h0) (fun _ _ _ _ _ => True) (fun _ zzU zzo zzV => ∃ zzv zzL, zzo = .returned zzv ∧ Q0 Z p0 p1 r0 r1 r2 r3 h0 n0 zzv zzV.heap zzL ∧ FrameEnd zzU zzo zzV zzL 0 0) := by
  refine MetFree.of_bodySF (plainFor_of_name pn_0) hisR ?_
  intro p e s m args below meth c s₁ Bd hml0 hP hK
  obtain ⟨rfl, hZ, hh⟩ := hP
  have hx := Bd.exec
  have hby := Bd.bytes
  have hml : c.maxLocals = 8 := hml0
  have hown : s.vm.findClass "com/example/latchmeter/latchmeter/analysis/RangeContainsPinLaw" = some m.cls := findClass_of_methodNamed Bd.named
  have hnm := (name_of_methodNamed Bd.named Bd.method).1
  have X0 : Stand p l e room_1 s m #[(.int p0), (.int p1)] below meth c s₁ [] 0 0 := Stand.of_body Bd
  have e0 : s₁.heap = h0 := by rw [← hh, Bd.state]; rfl
  have N0 := Fr.nil n0
  have R0 : ∀ zt, Steps p.tables e below (s₁.setTop (mkF m 0 #[.val (.int p0), .val (.int p1), .unset, .unset, .unset, .unset, .unset, .unset] [])) zt → Steps p.tables e below (s₁.setTop (entryFrame m #[(.int p0), (.int p1)] maxLocals)) zt := fun zt zk => castTop (ef0 m p0 p1) zk
  have R1 : ∀ zt, Steps p.tables e below (s₁.setTop (mkF m 13 #[.val (.int p0), .val (.int p1), .val (.int (p0 &&& (3 : Int32))), .val (.int ((((p0).toUInt32 >>> ((2 : Int32) &&& 31).toUInt32).toInt32) &&& (7 : Int32))), .unset, .unset, .unset, .unset] [(.int p1), (.int ((((p0).toUInt32 >>> ((2 : Int32) &&& 31).toUInt32).toInt32) &&& (7 : Int32)))])) zt → Steps p.tables e below (s₁.setTop (entryFrame m #[(.int p0), (.int p1)] maxLocals)) zt := by
    intro zt zk
    refine R0 zt ?_
    show Steps p.tables e below (s₁.setTop (mkF m 0 #[.val (.int p0), .val (.int p1), .unset, .unset, .unset, .unset, .unset, .unset] [])) _
    refine XS.iloadN X0.here hx rfl (hb hby at_0) rfl ?_
    show Steps p.tables e below (s₁.setTop (mkF m 1 #[.val (.int p0), .val (.int p1), .unset, .unset, .unset, .unset, .unset, .unset] [(.int p0)])) _
    refine XS.iconst X0.here hx rfl (hb hby at_1) ?_
    show Steps p.tables e below (s₁.setTop (mkF m 2 #[.val (.int p0), .val (.int p1), .unset, .unset, .unset, .unset, .unset, .unset] [(.int (3 : Int32)), (.int p0)])) _
    refine XS.iand X0.here hx rfl (hb hby at_2) rfl ?_
    show Steps p.tables e below (s₁.setTop (mkF m 3 #[.val (.int p0), .val (.int p1), .unset, .unset, .unset, .unset, .unset, .unset] [(.int (p0 &&& (3 : Int32)))])) _
    refine XS.istoreN X0.here hx rfl (hb hby at_3) rfl (l' := #[.val (.int p0), .val (.int p1), .val (.int (p0 &&& (3 : Int32))), .unset, .unset, .unset, .unset, .unset]) rfl ?_
    show Steps p.tables e below (s₁.setTop (mkF m 4 #[.val (.int p0), .val (.int p1), .val (.int (p0 &&& (3 : Int32))), .unset, .unset, .unset, .unset, .unset] [])) _
    refine XS.iloadN X0.here hx rfl (hb hby at_4) rfl ?_
    show Steps p.tables e below (s₁.setTop (mkF m 5 #[.val (.int p0), .val (.int p1), .val (.int (p0 &&& (3 : Int32))), .unset, .unset, .unset, .unset, .unset] [(.int p0)])) _
    refine XS.iconst X0.here hx rfl (hb hby at_5) ?_
    show Steps p.tables e below (s₁.setTop (mkF m 6 #[.val (.int p0), .val (.int p1), .val (.int (p0 &&& (3 : Int32))), .unset, .unset, .unset, .unset, .unset] [(.int (2 : Int32)), (.int p0)])) _
    refine XS.iushr X0.here hx rfl (hb hby at_6) rfl ?_
    show Steps p.tables e below (s₁.setTop (mkF m 7 #[.val (.int p0), .val (.int p1), .val (.int (p0 &&& (3 : Int32))), .unset, .unset, .unset, .unset, .unset] [(.int (((p0).toUInt32 >>> ((2 : Int32) &&& 31).toUInt32).toInt32))])) _
    refine XS.bipush X0.here hx rfl (hb hby at_7) ?_
    show Steps p.tables e below (s₁.setTop (mkF m 9 #[.val (.int p0), .val (.int p1), .val (.int (p0 &&& (3 : Int32))), .unset, .unset, .unset, .unset, .unset] [(.int (7 : Int32)), (.int (((p0).toUInt32 >>> ((2 : Int32) &&& 31).toUInt32).toInt32))])) _
    refine XS.iand X0.here hx rfl (hb hby at_9) rfl ?_
    show Steps p.tables e below (s₁.setTop (mkF m 10 #[.val (.int p0), .val (.int p1), .val (.int (p0 &&& (3 : Int32))), .unset, .unset, .unset, .unset, .unset] [(.int ((((p0).toUInt32 >>> ((2 : Int32) &&& 31).toUInt32).toInt32) &&& (7 : Int32)))])) _
    refine XS.istoreN X0.here hx rfl (hb hby at_10) rfl (l' := #[.val (.int p0), .val (.int p1), .val (.int (p0 &&& (3 : Int32))), .val (.int ((((p0).toUInt32 >>> ((2 : Int32) &&& 31).toUInt32).toInt32) &&& (7 : Int32))), .unset, .unset, .unset, .unset]) rfl ?_
    show Steps p.tables e below (s₁.setTop (mkF m 11 #[.val (.int p0), .val (.int p1), .val (.int (p0 &&& (3 : Int32))), .val (.int ((((p0).toUInt32 >>> ((2 : Int32) &&& 31).toUInt32).toInt32) &&& (7 : Int32))), .unset, .unset, .unset, .unset] [])) _
    refine XS.iloadN X0.here hx rfl (hb hby at_11) rfl ?_
    show Steps p.tables e below (s₁.setTop (mkF m 12 #[.val (.int p0), .val (.int p1), .val (.int (p0 &&& (3 : Int32))), .val (.int ((((p0).toUInt32 >>> ((2 : Int32) &&& 31).toUInt32).toInt32) &&& (7 : Int32))), .unset, .unset, .unset, .unset] [(.int ((((p0).toUInt32 >>> ((2 : Int32) &&& 31).toUInt32).toInt32) &&& (7 : Int32)))])) _
    refine XS.iloadN X0.here hx rfl (hb hby at_12) rfl ?_
    exact zk
  obtain ⟨_, _, ⟨T2, L2, k2, n2⟩, -, X2, ⟨Lc2, hQ2, l2, y2, z2⟩, st2⟩ := Jvm.LawKit.callS X0 hx (y := (⟨"com/example/latchmeter/latchmeter/analysis/RangeContainsPinLaw", "value", "(II)D"⟩ : MethodName)) hown (mvT hZ (hw _ (List.mem_of_getElem? (i := 0) rfl))) (mvT hZ (hw _ (List.mem_of_getElem? (i := 1) rfl))) (mvT hZ (hw _ (List.mem_of_getElem? (i := 2) rfl))) (mvT hZ (hw _ (List.mem_of_getElem? (i := 3) rfl))) (by decide) (backOf (W := 0) (rm1 l Z a0 hw [] ((((p0).toUInt32 >>> ((2 : Int32) &&& 31).toUInt32).toInt32) &&& (7 : Int32)) p1 h0 n0 Z0 (own_k7 _)) hZ (hw _ (List.mem_of_getElem? (i := 3) rfl)) (hw _ (List.mem_of_getElem? (i := 2) rfl)) (by decide) (by decide)) (g := (mkF m 13 #[.val (.int p0), .val (.int p1), .val (.int (p0 &&& (3 : Int32))), .val (.int ((((p0).toUInt32 >>> ((2 : Int32) &&& 31).toUInt32).toInt32) &&& (7 : Int32))), .unset, .unset, .unset, .unset] [(.int p1), (.int ((((p0).toUInt32 >>> ((2 : Int32) &&& 31).toUInt32).toInt32) &&& (7 : Int32)))])) rfl (by rw [hml]; rfl) (argsL := [(.int ((((p0).toUInt32 >>> ((2 : Int32) &&& 31).toUInt32).toInt32) &&& (7 : Int32))), (.int p1)]) (rest := []) (lenOf pd_0 rfl) rfl (by show 2 * 0 + _ ≤ _; exact Nat.le_of_eq rfl) (hb hby at_13) (fun _ _ => ⟨rfl, e0, (by decide : 0 + 0 ≤ _), (by decide : 0 + 0 ≤ _)⟩)
  dsimp only [Pt.U, Pt.locs, Pt.cells, Pt.slots] at X2 l2 y2 z2 st2 hQ2
  rw [y2, z2] at X2
  have X2 : Stand p l e room_1 s m #[(.int p0), (.int p1)] below meth c T2 L2 0 0 := X2
  obtain ⟨rfl, Nq2, eq2⟩ := hQ2
  have N2 : Fr n0 L2 := by rw [l2]; exact Fr.app N0 Nq2
  clear l2 y2 z2
  have e2 : T2.heap = h0 := eq2
  have R3 : ∀ zt, Steps p.tables e below (T2.setTop (mkF m 16 #[.val (.int p0), .val (.int p1), .val (.int (p0 &&& (3 : Int32))), .val (.int ((((p0).toUInt32 >>> ((2 : Int32) &&& 31).toUInt32).toInt32) &&& (7 : Int32))), .unset, .unset, .unset, .unset] [(.double (own_val ((((p0).toUInt32 >>> ((2 : Int32) &&& 31).toUInt32).toInt32) &&& (7 : Int32)) p1))])) zt → Steps p.tables e below (s₁.setTop (entryFrame m #[(.int p0), (.int p1)] maxLocals)) zt := by
    intro zt zk
    refine R1 zt ?_
    show Steps p.tables e below (s₁.setTop (mkF m 13 #[.val (.int p0), .val (.int p1), .val (.int (p0 &&& (3 : Int32))), .val (.int ((((p0).toUInt32 >>> ((2 : Int32) &&& 31).toUInt32).toInt32) &&& (7 : Int32))), .unset, .unset, .unset, .unset] [(.int p1), (.int ((((p0).toUInt32 >>> ((2 : Int32) &&& 31).toUInt32).toInt32) &&& (7 : Int32)))])) _
    refine st2 _ ?_
    exact zk
  obtain ⟨vd, hn_vd⟩ : ∃ z : UInt64, z = (own_val ((((p0).toUInt32 >>> ((2 : Int32) &&& 31).toUInt32).toInt32) &&& (7 : Int32)) p1) := ⟨_, rfl⟩
  rw [← hn_vd] at R3
  have hnv : NoNaN64 vd := by rw [hn_vd]; exact own_valn ((((p0).toUInt32 >>> ((2 : Int32) &&& 31).toUInt32).toInt32) &&& (7 : Int32)) p1 (own_k7 _)
  have R4 : ∀ zt, Steps p.tables e below (T2.setTop (mkF m 19 #[.val (.int p0), .val (.int p1), .val (.int (p0 &&& (3 : Int32))), .val (.int ((((p0).toUInt32 >>> ((2 : Int32) &&& 31).toUInt32).toInt32) &&& (7 : Int32))), .val (.double vd), .second, .unset, .unset] [(.int (p0 &&& (3 : Int32)))])) zt → Steps p.tables e below (s₁.setTop (entryFrame m #[(.int p0), (.int p1)] maxLocals)) zt := by
    intro zt zk
    refine R3 zt ?_
    show Steps p.tables e below (T2.setTop (mkF m 16 #[.val (.int p0), .val (.int p1), .val (.int (p0 &&& (3 : Int32))), .val (.int ((((p0).toUInt32 >>> ((2 : Int32) &&& 31).toUInt32).toInt32) &&& (7 : Int32))), .unset, .unset, .unset, .unset] [(.double vd)])) _
    refine XS.dstore X2.here hx rfl (hb hby at_16) rfl (l' := #[.val (.int p0), .val (.int p1), .val (.int (p0 &&& (3 : Int32))), .val (.int ((((p0).toUInt32 >>> ((2 : Int32) &&& 31).toUInt32).toInt32) &&& (7 : Int32))), .val (.double vd), .second, .unset, .unset]) rfl ?_
    show Steps p.tables e below (T2.setTop (mkF m 18 #[.val (.int p0), .val (.int p1), .val (.int (p0 &&& (3 : Int32))), .val (.int ((((p0).toUInt32 >>> ((2 : Int32) &&& 31).toUInt32).toInt32) &&& (7 : Int32))), .val (.double vd), .second, .unset, .unset] [])) _
    refine XS.iloadN X2.here hx rfl (hb hby at_18) rfl ?_
    exact zk
  by_cases hc5 : (p0 &&& (3 : Int32)) = (0 : Int32)
  ·
    skip
    have R6 : ∀ zt, Steps p.tables e below (T2.setTop (mkF m 22 #[.val (.int p0), .val (.int p1), .val (.int (p0 &&& (3 : Int32))), .val (.int ((((p0).toUInt32 >>> ((2 : Int32) &&& 31).toUInt32).toInt32) &&& (7 : Int32))), .val (.double vd), .second, .unset, .unset] [])) zt → Steps p.tables e below (s₁.setTop (entryFrame m #[(.int p0), (.int p1)] maxLocals)) zt := by
      intro zt zk
      refine R4 zt ?_
      show Steps p.tables e below (T2.setTop (mkF m 19 #[.val (.int p0), .val (.int p1), .val (.int (p0 &&& (3 : Int32))), .val (.int ((((p0).toUInt32 >>> ((2 : Int32) &&& 31).toUInt32).toInt32) &&& (7 : Int32))), .val (.double vd), .second, .unset, .unset] [(.int (p0 &&& (3 : Int32)))])) _
      refine XS.ifNo X2.here hx rfl (hb hby at_19) rfl ((if0 _ _).trans (teq hc5).2) ?_
      exact zk
    obtain ⟨T7, X7, e7, st7⟩ := getS2 X2 hx hZ hown (host := "") (Or.inl (hw _ (List.mem_of_getElem? (i := 4) rfl))) Via.refl e2 Sr0 (g := (mkF m 22 #[.val (.int p0), .val (.int p1), .val (.int (p0 &&& (3 : Int32))), .val (.int ((((p0).toUInt32 >>> ((2 : Int32) &&& 31).toUInt32).toInt32) &&& (7 : Int32))), .val (.double vd), .second, .unset, .unset] [])) rfl (hb hby at_22)
    have R8 : ∀ zt, Steps p.tables e below (T7.setTop (mkF m 31 #[.val (.int p0), .val (.int p1), .val (.int (p0 &&& (3 : Int32))), .val (.int ((((p0).toUInt32 >>> ((2 : Int32) &&& 31).toUInt32).toInt32) &&& (7 : Int32))), .val (.double vd), .second, .val (.ref r0), .unset] [(.int (cmpValue (FP.dcmp vd (0 : UInt64)) .l))])) zt → Steps p.tables e below (s₁.setTop (entryFrame m #[(.int p0), (.int p1)] maxLocals)) zt := by
      intro zt zk
      refine R6 zt ?_
      show Steps p.tables e below (T2.setTop (mkF m 22 #[.val (.int p0), .val (.int p1), .val (.int (p0 &&& (3 : Int32))), .val (.int ((((p0).toUInt32 >>> ((2 : Int32) &&& 31).toUInt32).toInt32) &&& (7 : Int32))), .val (.double vd), .second, .unset, .unset] [])) _
      refine st7 _ ?_
      show Steps p.tables e below (T7.setTop (mkF m 25 #[.val (.int p0), .val (.int p1), .val (.int (p0 &&& (3 : Int32))), .val (.int ((((p0).toUInt32 >>> ((2 : Int32) &&& 31).toUInt32).toInt32) &&& (7 : Int32))), .val (.double vd), .second, .unset, .unset] [(.ref r0)])) _
      refine XS.astore X7.here hx rfl (hb hby at_25) rfl rfl (l' := #[.val (.int p0), .val (.int p1), .val (.int (p0 &&& (3 : Int32))), .val (.int ((((p0).toUInt32 >>> ((2 : Int32) &&& 31).toUInt32).toInt32) &&& (7 : Int32))), .val (.double vd), .second, .val (.ref r0), .unset]) rfl ?_
      show Steps p.tables e below (T7.setTop (mkF m 27 #[.val (.int p0), .val (.int p1), .val (.int (p0 &&& (3 : Int32))), .val (.int ((((p0).toUInt32 >>> ((2 : Int32) &&& 31).toUInt32).toInt32) &&& (7 : Int32))), .val (.double vd), .second, .val (.ref r0), .unset] [])) _
      refine XS.dload X7.here hx rfl (hb hby at_27) rfl ?_
      show Steps p.tables e below (T7.setTop (mkF m 29 #[.val (.int p0), .val (.int p1), .val (.int (p0 &&& (3 : Int32))), .val (.int ((((p0).toUInt32 >>> ((2 : Int32) &&& 31).toUInt32).toInt32) &&& (7 : Int32))), .val (.double vd), .second, .val (.ref r0), .unset] [(.double vd)])) _
      refine XS.dconst0 X7.here hx rfl (hb hby at_29) (v := (0 : UInt64)) rfl ?_
      show Steps p.tables e below (T7.setTop (mkF m 30 #[.val (.int p0), .val (.int p1), .val (.int (p0 &&& (3 : Int32))), .val (.int ((((p0).toUInt32 >>> ((2 : Int32) &&& 31).toUInt32).toInt32) &&& (7 : Int32))), .val (.double vd), .second, .val (.ref r0), .unset] [(.double (0 : UInt64)), (.double vd)])) _
      refine XS.dcmpS X7.here hx rfl (hb hby at_30) rfl rfl ?_
      exact zk
    have R9 : ∀ zt, Steps p.tables e below (T7.setTop (mkF m 48 #[.val (.int p0), .val (.int p1), .val (.int (p0 &&& (3 : Int32))), .val (.int ((((p0).toUInt32 >>> ((2 : Int32) &&& 31).toUInt32).toInt32) &&& (7 : Int32))), .val (.double vd), .second, .val (.ref r0), .unset] [(.int (if (0 : Int32) < (cmpValue (FP.dcmp vd (0 : UInt64)) .l) then (if (cmpValue (FP.dcmp vd (9218868437227405312 : UInt64)) .l) = (0 : Int32) then (0 : Int32) else (1 : Int32)) else (0 : Int32) : Int32))])) zt → Steps p.tables e below (s₁.setTop (entryFrame m #[(.int p0), (.int p1)] maxLocals)) zt := by
      by_cases hc10 : (0 : Int32) < (cmpValue (FP.dcmp vd (0 : UInt64)) .l)
      ·
        skip
        have R12 : ∀ zt, Steps p.tables e below (T7.setTop (mkF m 40 #[.val (.int p0), .val (.int p1), .val (.int (p0 &&& (3 : Int32))), .val (.int ((((p0).toUInt32 >>> ((2 : Int32) &&& 31).toUInt32).toInt32) &&& (7 : Int32))), .val (.double vd), .second, .val (.ref r0), .unset] [(.int (cmpValue (FP.dcmp vd (9218868437227405312 : UInt64)) .l))])) zt → Steps p.tables e below (s₁.setTop (entryFrame m #[(.int p0), (.int p1)] maxLocals)) zt := by
          intro zt zk
          refine R8 zt ?_
          show Steps p.tables e below (T7.setTop (mkF m 31 #[.val (.int p0), .val (.int p1), .val (.int (p0 &&& (3 : Int32))), .val (.int ((((p0).toUInt32 >>> ((2 : Int32) &&& 31).toUInt32).toInt32) &&& (7 : Int32))), .val (.double vd), .second, .val (.ref r0), .unset] [(.int (cmpValue (FP.dcmp vd (0 : UInt64)) .l))])) _
          refine XS.ifNo X7.here hx rfl (hb hby at_31) rfl ((if0 _ _).trans (tlt hc10).2.2.2) ?_
          show Steps p.tables e below (T7.setTop (mkF m 34 #[.val (.int p0), .val (.int p1), .val (.int (p0 &&& (3 : Int32))), .val (.int ((((p0).toUInt32 >>> ((2 : Int32) &&& 31).toUInt32).toInt32) &&& (7 : Int32))), .val (.double vd), .second, .val (.ref r0), .unset] [])) _
          refine XS.dload X7.here hx rfl (hb hby at_34) rfl ?_
          show Steps p.tables e below (T7.setTop (mkF m 36 #[.val (.int p0), .val (.int p1), .val (.int (p0 &&& (3 : Int32))), .val (.int ((((p0).toUInt32 >>> ((2 : Int32) &&& 31).toUInt32).toInt32) &&& (7 : Int32))), .val (.double vd), .second, .val (.ref r0), .unset] [(.double vd)])) _
          refine X7.ldc2DoubleC hx hown (mvT hZ (hw _ (List.mem_of_getElem? (i := 7) rfl))) (g := (mkF m 36 #[.val (.int p0), .val (.int p1), .val (.int (p0 &&& (3 : Int32))), .val (.int ((((p0).toUInt32 >>> ((2 : Int32) &&& 31).toUInt32).toInt32) &&& (7 : Int32))), .val (.double vd), .second, .val (.ref r0), .unset] [(.double vd)])) rfl (hb hby at_36) _ ?_
          show Steps p.tables e below (T7.setTop (mkF m 39 #[.val (.int p0), .val (.int p1), .val (.int (p0 &&& (3 : Int32))), .val (.int ((((p0).toUInt32 >>> ((2 : Int32) &&& 31).toUInt32).toInt32) &&& (7 : Int32))), .val (.double vd), .second, .val (.ref r0), .unset] [(.double (9218868437227405312 : UInt64)), (.double vd)])) _
          refine XS.dcmpS X7.here hx rfl (hb hby at_39) rfl rfl ?_
          exact zk
        by_cases hc11 : (cmpValue (FP.dcmp vd (9218868437227405312 : UInt64)) .l) = (0 : Int32)
        ·
          skip
          have R13 : ∀ zt, Steps p.tables e below (T7.setTop (mkF m 48 #[.val (.int p0), .val (.int p1), .val (.int (p0 &&& (3 : Int32))), .val (.int ((((p0).toUInt32 >>> ((2 : Int32) &&& 31).toUInt32).toInt32) &&& (7 : Int32))), .val (.double vd), .second, .val (.ref r0), .unset] [(.int (0 : Int32))])) zt → Steps p.tables e below (s₁.setTop (entryFrame m #[(.int p0), (.int p1)] maxLocals)) zt := by
            intro zt zk
            refine R12 zt ?_
            show Steps p.tables e below (T7.setTop (mkF m 40 #[.val (.int p0), .val (.int p1), .val (.int (p0 &&& (3 : Int32))), .val (.int ((((p0).toUInt32 >>> ((2 : Int32) &&& 31).toUInt32).toInt32) &&& (7 : Int32))), .val (.double vd), .second, .val (.ref r0), .unset] [(.int (cmpValue (FP.dcmp vd (9218868437227405312 : UInt64)) .l))])) _
            refine XS.ifYes X7.here hx rfl (pc0 := 40) (pc' := 47) rfl (hb hby at_40) rfl ((if0 _ _).trans (teq hc11).1) (by decide) (by decide) ?_
            show Steps p.tables e below (T7.setTop (mkF m 47 #[.val (.int p0), .val (.int p1), .val (.int (p0 &&& (3 : Int32))), .val (.int ((((p0).toUInt32 >>> ((2 : Int32) &&& 31).toUInt32).toInt32) &&& (7 : Int32))), .val (.double vd), .second, .val (.ref r0), .unset] [])) _
            refine XS.iconst X7.here hx rfl (hb hby at_47) ?_
            exact zk
          refine fun zt zk => R13 zt ?_
          have q14 : (if (0 : Int32) < (cmpValue (FP.dcmp vd (0 : UInt64)) .l) then (if (cmpValue (FP.dcmp vd (9218868437227405312 : UInt64)) .l) = (0 : Int32) then (0 : Int32) else (1 : Int32)) else (0 : Int32) : Int32) = (0 : Int32) := ((if_pos hc10).trans (if_pos hc11))
          rw [q14] at zk
          try rw [q14]
          exact zk
        ·
          skip
          have R15 : ∀ zt, Steps p.tables e below (T7.setTop (mkF m 48 #[.val (.int p0), .val (.int p1), .val (.int (p0 &&& (3 : Int32))), .val (.int ((((p0).toUInt32 >>> ((2 : Int32) &&& 31).toUInt32).toInt32) &&& (7 : Int32))), .val (.double vd), .second, .val (.ref r0), .unset] [(.int (1 : Int32))])) zt → Steps p.tables e below (s₁.setTop (entryFrame m #[(.int p0), (.int p1)] maxLocals)) zt := by
            intro zt zk
            refine R12 zt ?_
            show Steps p.tables e below (T7.setTop (mkF m 40 #[.val (.int p0), .val (.int p1), .val (.int (p0 &&& (3 : Int32))), .val (.int ((((p0).toUInt32 >>> ((2 : Int32) &&& 31).toUInt32).toInt32) &&& (7 : Int32))), .val (.double vd), .second, .val (.ref r0), .unset] [(.int (cmpValue (FP.dcmp vd (9218868437227405312 : UInt64)) .l))])) _
            refine XS.ifNo X7.here hx rfl (hb hby at_40) rfl ((if0 _ _).trans (feq hc11).1) ?_
            show Steps p.tables e below (T7.setTop (mkF m 43 #[.val (.int p0), .val (.int p1), .val (.int (p0 &&& (3 : Int32))), .val (.int ((((p0).toUInt32 >>> ((2 : Int32) &&& 31).toUInt32).toInt32) &&& (7 : Int32))), .val (.double vd), .second, .val (.ref r0), .unset] [])) _
            refine XS.iconst X7.here hx rfl (hb hby at_43) ?_
            show Steps p.tables e below (T7.setTop (mkF m 44 #[.val (.int p0), .val (.int p1), .val (.int (p0 &&& (3 : Int32))), .val (.int ((((p0).toUInt32 >>> ((2 : Int32) &&& 31).toUInt32).toInt32) &&& (7 : Int32))), .val (.double vd), .second, .val (.ref r0), .unset] [(.int (1 : Int32))])) _
            refine XS.goto X7.here hx rfl (pc0 := 44) (pc' := 48) rfl (hb hby at_44) (by decide) (by decide) ?_
            exact zk
          refine fun zt zk => R15 zt ?_
          have q16 : (if (0 : Int32) < (cmpValue (FP.dcmp vd (0 : UInt64)) .l) then (if (cmpValue (FP.dcmp vd (9218868437227405312 : UInt64)) .l) = (0 : Int32) then (0 : Int32) else (1 : Int32)) else (0 : Int32) : Int32) = (1 : Int32) := ((if_pos hc10).trans (if_neg hc11))
          rw [q16] at zk
          try rw [q16]
          exact zk
      ·
        skip
        have R17 : ∀ zt, Steps p.tables e below (T7.setTop (mkF m 48 #[.val (.int p0), .val (.int p1), .val (.int (p0 &&& (3 : Int32))), .val (.int ((((p0).toUInt32 >>> ((2 : Int32) &&& 31).toUInt32).toInt32) &&& (7 : Int32))), .val (.double vd), .second, .val (.ref r0), .unset] [(.int (0 : Int32))])) zt → Steps p.tables e below (s₁.setTop (entryFrame m #[(.int p0), (.int p1)] maxLocals)) zt := by
          intro zt zk
          refine R8 zt ?_
          show Steps p.tables e below (T7.setTop (mkF m 31 #[.val (.int p0), .val (.int p1), .val (.int (p0 &&& (3 : Int32))), .val (.int ((((p0).toUInt32 >>> ((2 : Int32) &&& 31).toUInt32).toInt32) &&& (7 : Int32))), .val (.double vd), .second, .val (.ref r0), .unset] [(.int (cmpValue (FP.dcmp vd (0 : UInt64)) .l))])) _
          refine XS.ifYes X7.here hx rfl (pc0 := 31) (pc' := 47) rfl (hb hby at_31) rfl ((if0 _ _).trans (flt hc10).2.2.2) (by decide) (by decide) ?_
          show Steps p.tables e below (T7.setTop (mkF m 47 #[.val (.int p0), .val (.int p1), .val (.int (p0 &&& (3 : Int32))), .val (.int ((((p0).toUInt32 >>> ((2 : Int32) &&& 31).toUInt32).toInt32) &&& (7 : Int32))), .val (.double vd), .second, .val (.ref r0), .unset] [])) _
          refine XS.iconst X7.here hx rfl (hb hby at_47) ?_
          exact zk
        refine fun zt zk => R17 zt ?_
        have q18 : (if (0 : Int32) < (cmpValue (FP.dcmp vd (0 : UInt64)) .l) then (if (cmpValue (FP.dcmp vd (9218868437227405312 : UInt64)) .l) = (0 : Int32) then (0 : Int32) else (1 : Int32)) else (0 : Int32) : Int32) = (0 : Int32) := (if_neg hc10)
        rw [q18] at zk
        try rw [q18]
        exact zk
    have R19 : ∀ zt, Steps p.tables e below (T7.setTop (mkF m 155 #[.val (.int p0), .val (.int p1), .val (.int (p0 &&& (3 : Int32))), .val (.int ((((p0).toUInt32 >>> ((2 : Int32) &&& 31).toUInt32).toInt32) &&& (7 : Int32))), .val (.double vd), .second, .val (.ref r0), .val (.int (if (0 : Int32) < (cmpValue (FP.dcmp vd (0 : UInt64)) .l) then (if (cmpValue (FP.dcmp vd (9218868437227405312 : UInt64)) .l) = (0 : Int32) then (0 : Int32) else (1 : Int32)) else (0 : Int32) : Int32))] [(.double vd), (.ref r0)])) zt → Steps p.tables e below (s₁.setTop (entryFrame m #[(.int p0), (.int p1)] maxLocals)) zt := by
      intro zt zk
      refine R9 zt ?_
      show Steps p.tables e below (T7.setTop (mkF m 48 #[.val (.int p0), .val (.int p1), .val (.int (p0 &&& (3 : Int32))), .val (.int ((((p0).toUInt32 >>> ((2 : Int32) &&& 31).toUInt32).toInt32) &&& (7 : Int32))), .val (.double vd), .second, .val (.ref r0), .unset] [(.int (if (0 : Int32) < (cmpValue (FP.dcmp vd (0 : UInt64)) .l) then (if (cmpValue (FP.dcmp vd (9218868437227405312 : UInt64)) .l) = (0 : Int32) then (0 : Int32) else (1 : Int32)) else (0 : Int32) : Int32))])) _
      refine XS.istore X7.here hx rfl (hb hby at_48) rfl (l' := #[.val (.int p0), .val (.int p1), .val (.int (p0 &&& (3 : Int32))), .val (.int ((((p0).toUInt32 >>> ((2 : Int32) &&& 31).toUInt32).toInt32) &&& (7 : Int32))), .val (.double vd), .second, .val (.ref r0), .val (.int (if (0 : Int32) < (cmpValue (FP.dcmp vd (0 : UInt64)) .l) then (if (cmpValue (FP.dcmp vd (9218868437227405312 : UInt64)) .l) = (0 : Int32) then (0 : Int32) else (1 : Int32)) else (0 : Int32) : Int32))]) rfl ?_
      show Steps p.tables e below (T7.setTop (mkF m 50 #[.val (.int p0), .val (.int p1), .val (.int (p0 &&& (3 : Int32))), .val (.int ((((p0).toUInt32 >>> ((2 : Int32) &&& 31).toUInt32).toInt32) &&& (7 : Int32))), .val (.double vd), .second, .val (.ref r0), .val (.int (if (0 : Int32) < (cmpValue (FP.dcmp vd (0 : UInt64)) .l) then (if (cmpValue (FP.dcmp vd (9218868437227405312 : UInt64)) .l) = (0 : Int32) then (0 : Int32) else (1 : Int32)) else (0 : Int32) : Int32))] [])) _
      refine XS.goto X7.here hx rfl (pc0 := 50) (pc' := 151) rfl (hb hby at_50) (by decide) (by decide) ?_
      show Steps p.tables e below (T7.setTop (mkF m 151 #[.val (.int p0), .val (.int p1), .val (.int (p0 &&& (3 : Int32))), .val (.int ((((p0).toUInt32 >>> ((2 : Int32) &&& 31).toUInt32).toInt32) &&& (7 : Int32))), .val (.double vd), .second, .val (.ref r0), .val (.int (if (0 : Int32) < (cmpValue (FP.dcmp vd (0 : UInt64)) .l) then (if (cmpValue (FP.dcmp vd (9218868437227405312 : UInt64)) .l) = (0 : Int32) then (0 : Int32) else (1 : Int32)) else (0 : Int32) : Int32))] [])) _
      refine XS.aload X7.here hx rfl (hb hby at_151) rfl rfl ?_
      show Steps p.tables e below (T7.setTop (mkF m 153 #[.val (.int p0), .val (.int p1), .val (.int (p0 &&& (3 : Int32))), .val (.int ((((p0).toUInt32 >>> ((2 : Int32) &&& 31).toUInt32).toInt32) &&& (7 : Int32))), .val (.double vd), .second, .val (.ref r0), .val (.int (if (0 : Int32) < (cmpValue (FP.dcmp vd (0 : UInt64)) .l) then (if (cmpValue (FP.dcmp vd (9218868437227405312 : UInt64)) .l) = (0 : Int32) then (0 : Int32) else (1 : Int32)) else (0 : Int32) : Int32))] [(.ref r0)])) _
      refine XS.dload X7.here hx rfl (hb hby at_153) rfl ?_
      exact zk
    obtain ⟨cq20, kq20, q20a, q20b, q20c⟩ := isOf hZ e7 E_r0
    obtain ⟨_, _, ⟨T20, L20, k20, n20⟩, -, X20, ⟨Lc20, hQ20, l20, y20, z20⟩, st20⟩ := X7.virtualBack hx (y := (⟨"com/example/latchmeter/latchmeter/analysis/Parameter$Range", "contains", "(D)Z"⟩ : MethodName)) (z := (⟨"com/example/latchmeter/latchmeter/analysis/Parameter$Range", "contains", "(D)Z"⟩ : MethodName)) hown (mvT hZ (hw _ (List.mem_of_getElem? (i := 8) rfl))) (mvT hZ (hw _ (List.mem_of_getElem? (i := 9) rfl))) (notFace_of_selects (args := #[]) (mvT hZ (hw _ (List.mem_of_getElem? (i := 11) rfl)))) (mvT hZ (hw _ (List.mem_of_getElem? (i := 11) rfl))) (mvT hZ (hw _ (List.mem_of_getElem? (i := 10) rfl))) (by decide) (backOf (W := 0) (rm2 l Z a0 hw [] r0 vd (1 : UInt64) (9218868437227405311 : UInt64) h0 n0 Z0 L_r0 M_r0) hZ (hw _ (List.mem_of_getElem? (i := 12) rfl)) (hw _ (List.mem_of_getElem? (i := 5) rfl)) (by decide) (by decide)) q20a q20c (g := (mkF m 155 #[.val (.int p0), .val (.int p1), .val (.int (p0 &&& (3 : Int32))), .val (.int ((((p0).toUInt32 >>> ((2 : Int32) &&& 31).toUInt32).toInt32) &&& (7 : Int32))), .val (.double vd), .second, .val (.ref r0), .val (.int (if (0 : Int32) < (cmpValue (FP.dcmp vd (0 : UInt64)) .l) then (if (cmpValue (FP.dcmp vd (9218868437227405312 : UInt64)) .l) = (0 : Int32) then (0 : Int32) else (1 : Int32)) else (0 : Int32) : Int32))] [(.double vd), (.ref r0)])) rfl (by rw [hml]; rfl) (Steps.refl _) (argsL := [(.double vd)]) (rest := []) (lenOf pd_1 rfl) rfl (by show 2 * 0 + _ ≤ _; exact Nat.le_of_eq rfl) (hb hby at_155) (fun _ _ => ⟨rfl, e7, (by decide : 0 + 0 ≤ _), (by decide : 0 + 0 ≤ _)⟩)
    dsimp only [Pt.U, Pt.locs, Pt.cells, Pt.slots] at X20 l20 y20 z20 st20 hQ20
    rw [y20, z20] at X20
    have X20 : Stand p l e room_1 s m #[(.int p0), (.int p1)] below meth c T20 L20 0 0 := X20
    obtain ⟨rfl, Nq20, eq20⟩ := hQ20
    have N20 : Fr n0 L20 := by rw [l20]; exact Fr.app N2 Nq20
    clear l20 y20 z20
    have e20 : T20.heap = h0 := eq20
    have R21 : ∀ zt, Steps p.tables e below (T20.setTop (mkF m 168 #[.val (.int p0), .val (.int p1), .val (.int (p0 &&& (3 : Int32))), .val (.int ((((p0).toUInt32 >>> ((2 : Int32) &&& 31).toUInt32).toInt32) &&& (7 : Int32))), .val (.double vd), .second, .val (.ref r0), .val (.int (if (0 : Int32) < (cmpValue (FP.dcmp vd (0 : UInt64)) .l) then (if (cmpValue (FP.dcmp vd (9218868437227405312 : UInt64)) .l) = (0 : Int32) then (0 : Int32) else (1 : Int32)) else (0 : Int32) : Int32))] [(.int (1 : Int32))])) zt → Steps p.tables e below (s₁.setTop (entryFrame m #[(.int p0), (.int p1)] maxLocals)) zt := by
      intro zt zk
      refine R19 zt ?_
      show Steps p.tables e below (T7.setTop (mkF m 155 #[.val (.int p0), .val (.int p1), .val (.int (p0 &&& (3 : Int32))), .val (.int ((((p0).toUInt32 >>> ((2 : Int32) &&& 31).toUInt32).toInt32) &&& (7 : Int32))), .val (.double vd), .second, .val (.ref r0), .val (.int (if (0 : Int32) < (cmpValue (FP.dcmp vd (0 : UInt64)) .l) then (if (cmpValue (FP.dcmp vd (9218868437227405312 : UInt64)) .l) = (0 : Int32) then (0 : Int32) else (1 : Int32)) else (0 : Int32) : Int32))] [(.double vd), (.ref r0)])) _
      refine st20.trans ?_
      show Steps p.tables e below (T20.setTop (mkF m 158 #[.val (.int p0), .val (.int p1), .val (.int (p0 &&& (3 : Int32))), .val (.int ((((p0).toUInt32 >>> ((2 : Int32) &&& 31).toUInt32).toInt32) &&& (7 : Int32))), .val (.double vd), .second, .val (.ref r0), .val (.int (if (0 : Int32) < (cmpValue (FP.dcmp vd (0 : UInt64)) .l) then (if (cmpValue (FP.dcmp vd (9218868437227405312 : UInt64)) .l) = (0 : Int32) then (0 : Int32) else (1 : Int32)) else (0 : Int32) : Int32))] [(.int (own_in vd (1 : UInt64) (9218868437227405311 : UInt64)))])) _
      refine XS.iload X20.here hx rfl (hb hby at_158) rfl ?_
      show Steps p.tables e below (T20.setTop (mkF m 160 #[.val (.int p0), .val (.int p1), .val (.int (p0 &&& (3 : Int32))), .val (.int ((((p0).toUInt32 >>> ((2 : Int32) &&& 31).toUInt32).toInt32) &&& (7 : Int32))), .val (.double vd), .second, .val (.ref r0), .val (.int (if (0 : Int32) < (cmpValue (FP.dcmp vd (0 : UInt64)) .l) then (if (cmpValue (FP.dcmp vd (9218868437227405312 : UInt64)) .l) = (0 : Int32) then (0 : Int32) else (1 : Int32)) else (0 : Int32) : Int32))] [(.int (if (0 : Int32) < (cmpValue (FP.dcmp vd (0 : UInt64)) .l) then (if (cmpValue (FP.dcmp vd (9218868437227405312 : UInt64)) .l) = (0 : Int32) then (0 : Int32) else (1 : Int32)) else (0 : Int32) : Int32)), (.int (own_in vd (1 : UInt64) (9218868437227405311 : UInt64)))])) _
      refine XS.icmpNo X20.here hx rfl (hb hby at_160) rfl (teq (own_r0 hnv)).2 ?_
      show Steps p.tables e below (T20.setTop (mkF m 163 #[.val (.int p0), .val (.int p1), .val (.int (p0 &&& (3 : Int32))), .val (.int ((((p0).toUInt32 >>> ((2 : Int32) &&& 31).toUInt32).toInt32) &&& (7 : Int32))), .val (.double vd), .second, .val (.ref r0), .val (.int (if (0 : Int32) < (cmpValue (FP.dcmp vd (0 : UInt64)) .l) then (if (cmpValue (FP.dcmp vd (9218868437227405312 : UInt64)) .l) = (0 : Int32) then (0 : Int32) else (1 : Int32)) else (0 : Int32) : Int32))] [])) _
      refine XS.iconst X20.here hx rfl (hb hby at_163) ?_
      show Steps p.tables e below (T20.setTop (mkF m 164 #[.val (.int p0), .val (.int p1), .val (.int (p0 &&& (3 : Int32))), .val (.int ((((p0).toUInt32 >>> ((2 : Int32) &&& 31).toUInt32).toInt32) &&& (7 : Int32))), .val (.double vd), .second, .val (.ref r0), .val (.int (if (0 : Int32) < (cmpValue (FP.dcmp vd (0 : UInt64)) .l) then (if (cmpValue (FP.dcmp vd (9218868437227405312 : UInt64)) .l) = (0 : Int32) then (0 : Int32) else (1 : Int32)) else (0 : Int32) : Int32))] [(.int (1 : Int32))])) _
      refine XS.goto X20.here hx rfl (pc0 := 164) (pc' := 168) rfl (hb hby at_164) (by decide) (by decide) ?_
      exact zk
    obtain ⟨fs, hr, hrun, hended, hW, hsame⟩ := X20.leave (v := some (.int (1 : Int32))) (fun h => by rw [Bd.returns] at h; cases h)
    refine ⟨_, _, R21 _ ?_, hrun, hended, _, _, rfl, ?_, ⟨_, rfl⟩, hW, hsame.mono (by decide) (by decide)⟩
    · exact retN X20 hx (t := .boolean) Bd.returns (by simp) (hb hby at_168) hr
    · show Q0 Z p0 p1 r0 r1 r2 r3 h0 n0 _ T20.heap _
      rw [e20]
      exact ⟨rfl, N20⟩
  ·
    skip
    have R22 : ∀ zt, Steps p.tables e below (T2.setTop (mkF m 55 #[.val (.int p0), .val (.int p1), .val (.int (p0 &&& (3 : Int32))), .val (.int ((((p0).toUInt32 >>> ((2 : Int32) &&& 31).toUInt32).toInt32) &&& (7 : Int32))), .val (.double vd), .second, .unset, .unset] [(.int (1 : Int32)), (.int (p0 &&& (3 : Int32)))])) zt → Steps p.tables e below (s₁.setTop (entryFrame m #[(.int p0), (.int p1)] maxLocals)) zt := by
      intro zt zk
      refine R4 zt ?_
      show Steps p.tables e below (T2.setTop (mkF m 19 #[.val (.int p0), .val (.int p1), .val (.int (p0 &&& (3 : Int32))), .val (.int ((((p0).toUInt32 >>> ((2 : Int32) &&& 31).toUInt32).toInt32) &&& (7 : Int32))), .val (.double vd), .second, .unset, .unset] [(.int (p0 &&& (3 : Int32)))])) _
      refine XS.ifYes X2.here hx rfl (pc0 := 19) (pc' := 53) rfl (hb hby at_19) rfl ((if0 _ _).trans (feq hc5).2) (by decide) (by decide) ?_
      show Steps p.tables e below (T2.setTop (mkF m 53 #[.val (.int p0), .val (.int p1), .val (.int (p0 &&& (3 : Int32))), .val (.int ((((p0).toUInt32 >>> ((2 : Int32) &&& 31).toUInt32).toInt32) &&& (7 : Int32))), .val (.double vd), .second, .unset, .unset] [])) _
      refine XS.iloadN X2.here hx rfl (hb hby at_53) rfl ?_
      show Steps p.tables e below (T2.setTop (mkF m 54 #[.val (.int p0), .val (.int p1), .val (.int (p0 &&& (3 : Int32))), .val (.int ((((p0).toUInt32 >>> ((2 : Int32) &&& 31).toUInt32).toInt32) &&& (7 : Int32))), .val (.double vd), .second, .unset, .unset] [(.int (p0 &&& (3 : Int32)))])) _
      refine XS.iconst X2.here hx rfl (hb hby at_54) ?_
      exact zk
    by_cases hc23 : (p0 &&& (3 : Int32)) = (1 : Int32)
    ·
      skip
      have R24 : ∀ zt, Steps p.tables e below (T2.setTop (mkF m 58 #[.val (.int p0), .val (.int p1), .val (.int (p0 &&& (3 : Int32))), .val (.int ((((p0).toUInt32 >>> ((2 : Int32) &&& 31).toUInt32).toInt32) &&& (7 : Int32))), .val (.double vd), .second, .unset, .unset] [])) zt → Steps p.tables e below (s₁.setTop (entryFrame m #[(.int p0), (.int p1)] maxLocals)) zt := by
        intro zt zk
        refine R22 zt ?_
        show Steps p.tables e below (T2.setTop (mkF m 55 #[.val (.int p0), .val (.int p1), .val (.int (p0 &&& (3 : Int32))), .val (.int ((((p0).toUInt32 >>> ((2 : Int32) &&& 31).toUInt32).toInt32) &&& (7 : Int32))), .val (.double vd), .second, .unset, .unset] [(.int (1 : Int32)), (.int (p0 &&& (3 : Int32)))])) _
        refine XS.icmpNo X2.here hx rfl (hb hby at_55) rfl (teq hc23).2 ?_
        exact zk
      obtain ⟨T25, X25, e25, st25⟩ := getS2 X2 hx hZ hown (host := "") (Or.inl (hw _ (List.mem_of_getElem? (i := 19) rfl))) Via.refl e2 Sr1 (g := (mkF m 58 #[.val (.int p0), .val (.int p1), .val (.int (p0 &&& (3 : Int32))), .val (.int ((((p0).toUInt32 >>> ((2 : Int32) &&& 31).toUInt32).toInt32) &&& (7 : Int32))), .val (.double vd), .second, .unset, .unset] [])) rfl (hb hby at_58)
      have R26 : ∀ zt, Steps p.tables e below (T25.setTop (mkF m 67 #[.val (.int p0), .val (.int p1), .val (.int (p0 &&& (3 : Int32))), .val (.int ((((p0).toUInt32 >>> ((2 : Int32) &&& 31).toUInt32).toInt32) &&& (7 : Int32))), .val (.double vd), .second, .val (.ref r1), .unset] [(.int (cmpValue (FP.dcmp vd (0 : UInt64)) .l))])) zt → Steps p.tables e below (s₁.setTop (entryFrame m #[(.int p0), (.int p1)] maxLocals)) zt := by
        intro zt zk
        refine R24 zt ?_
        show Steps p.tables e below (T2.setTop (mkF m 58 #[.val (.int p0), .val (.int p1), .val (.int (p0 &&& (3 : Int32))), .val (.int ((((p0).toUInt32 >>> ((2 : Int32) &&& 31).toUInt32).toInt32) &&& (7 : Int32))), .val (.double vd), .second, .unset, .unset] [])) _
        refine st25 _ ?_
        show Steps p.tables e below (T25.setTop (mkF m 61 #[.val (.int p0), .val (.int p1), .val (.int (p0 &&& (3 : Int32))), .val (.int ((((p0).toUInt32 >>> ((2 : Int32) &&& 31).toUInt32).toInt32) &&& (7 : Int32))), .val (.double vd), .second, .unset, .unset] [(.ref r1)])) _
        refine XS.astore X25.here hx rfl (hb hby at_61) rfl rfl (l' := #[.val (.int p0), .val (.int p1), .val (.int (p0 &&& (3 : Int32))), .val (.int ((((p0).toUInt32 >>> ((2 : Int32) &&& 31).toUInt32).toInt32) &&& (7 : Int32))), .val (.double vd), .second, .val (.ref r1), .unset]) rfl ?_
        show Steps p.tables e below (T25.setTop (mkF m 63 #[.val (.int p0), .val (.int p1), .val (.int (p0 &&& (3 : Int32))), .val (.int ((((p0).toUInt32 >>> ((2 : Int32) &&& 31).toUInt32).toInt32) &&& (7 : Int32))), .val (.double vd), .second, .val (.ref r1), .unset] [])) _
        refine XS.dload X25.here hx rfl (hb hby at_63) rfl ?_
        show Steps p.tables e below (T25.setTop (mkF m 65 #[.val (.int p0), .val (.int p1), .val (.int (p0 &&& (3 : Int32))), .val (.int ((((p0).toUInt32 >>> ((2 : Int32) &&& 31).toUInt32).toInt32) &&& (7 : Int32))), .val (.double vd), .second, .val (.ref r1), .unset] [(.double vd)])) _
        refine XS.dconst0 X25.here hx rfl (hb hby at_65) (v := (0 : UInt64)) rfl ?_
        show Steps p.tables e below (T25.setTop (mkF m 66 #[.val (.int p0), .val (.int p1), .val (.int (p0 &&& (3 : Int32))), .val (.int ((((p0).toUInt32 >>> ((2 : Int32) &&& 31).toUInt32).toInt32) &&& (7 : Int32))), .val (.double vd), .second, .val (.ref r1), .unset] [(.double (0 : UInt64)), (.double vd)])) _
        refine XS.dcmpS X25.here hx rfl (hb hby at_66) rfl rfl ?_
        exact zk
      have R27 : ∀ zt, Steps p.tables e below (T25.setTop (mkF m 84 #[.val (.int p0), .val (.int p1), .val (.int (p0 &&& (3 : Int32))), .val (.int ((((p0).toUInt32 >>> ((2 : Int32) &&& 31).toUInt32).toInt32) &&& (7 : Int32))), .val (.double vd), .second, .val (.ref r1), .unset] [(.int (if (cmpValue (FP.dcmp vd (0 : UInt64)) .l) < (0 : Int32) then (0 : Int32) else (if (cmpValue (FP.dcmp vd (9218868437227405312 : UInt64)) .l) = (0 : Int32) then (0 : Int32) else (1 : Int32)) : Int32))])) zt → Steps p.tables e below (s₁.setTop (entryFrame m #[(.int p0), (.int p1)] maxLocals)) zt := by
        by_cases hc28 : (cmpValue (FP.dcmp vd (0 : UInt64)) .l) < (0 : Int32)
        ·
          skip
          have R29 : ∀ zt, Steps p.tables e below (T25.setTop (mkF m 84 #[.val (.int p0), .val (.int p1), .val (.int (p0 &&& (3 : Int32))), .val (.int ((((p0).toUInt32 >>> ((2 : Int32) &&& 31).toUInt32).toInt32) &&& (7 : Int32))), .val (.double vd), .second, .val (.ref r1), .unset] [(.int (0 : Int32))])) zt → Steps p.tables e below (s₁.setTop (entryFrame m #[(.int p0), (.int p1)] maxLocals)) zt := by
            intro zt zk
            refine R26 zt ?_
            show Steps p.tables e below (T25.setTop (mkF m 67 #[.val (.int p0), .val (.int p1), .val (.int (p0 &&& (3 : Int32))), .val (.int ((((p0).toUInt32 >>> ((2 : Int32) &&& 31).toUInt32).toInt32) &&& (7 : Int32))), .val (.double vd), .second, .val (.ref r1), .unset] [(.int (cmpValue (FP.dcmp vd (0 : UInt64)) .l))])) _
            refine XS.ifYes X25.here hx rfl (pc0 := 67) (pc' := 83) rfl (hb hby at_67) rfl ((if0 _ _).trans (tlt hc28).1) (by decide) (by decide) ?_
            show Steps p.tables e below (T25.setTop (mkF m 83 #[.val (.int p0), .val (.int p1), .val (.int (p0 &&& (3 : Int32))), .val (.int ((((p0).toUInt32 >>> ((2 : Int32) &&& 31).toUInt32).toInt32) &&& (7 : Int32))), .val (.double vd), .second, .val (.ref r1), .unset] [])) _
            refine XS.iconst X25.here hx rfl (hb hby at_83) ?_
            exact zk
          refine fun zt zk => R29 zt ?_
          have q30 : (if (cmpValue (FP.dcmp vd (0 : UInt64)) .l) < (0 : Int32) then (0 : Int32) else (if (cmpValue (FP.dcmp vd (9218868437227405312 : UInt64)) .l) = (0 : Int32) then (0 : Int32) else (1 : Int32)) : Int32) = (0 : Int32) := (if_pos hc28)
          rw [q30] at zk
          try rw [q30]
          exact zk
        ·
          skip
          have R32 : ∀ zt, Steps p.tables e below (T25.setTop (mkF m 76 #[.val (.int p0), .val (.int p1), .val (.int (p0 &&& (3 : Int32))), .val (.int ((((p0).toUInt32 >>> ((2 : Int32) &&& 31).toUInt32).toInt32) &&& (7 : Int32))), .val (.double vd), .second, .val (.ref r1), .unset] [(.int (cmpValue (FP.dcmp vd (9218868437227405312 : UInt64)) .l))])) zt → Steps p.tables e below (s₁.setTop (entryFrame m #[(.int p0), (.int p1)] maxLocals)) zt := by
            intro zt zk
            refine R26 zt ?_
            show Steps p.tables e below (T25.setTop (mkF m 67 #[.val (.int p0), .val (.int p1), .val (.int (p0 &&& (3 : Int32))), .val (.int ((((p0).toUInt32 >>> ((2 : Int32) &&& 31).toUInt32).toInt32) &&& (7 : Int32))), .val (.double vd), .second, .val (.ref r1), .unset] [(.int (cmpValue (FP.dcmp vd (0 : UInt64)) .l))])) _
            refine XS.ifNo X25.here hx rfl (hb hby at_67) rfl ((if0 _ _).trans (flt hc28).1) ?_
            show Steps p.tables e below (T25.setTop (mkF m 70 #[.val (.int p0), .val (.int p1), .val (.int (p0 &&& (3 : Int32))), .val (.int ((((p0).toUInt32 >>> ((2 : Int32) &&& 31).toUInt32).toInt32) &&& (7 : Int32))), .val (.double vd), .second, .val (.ref r1), .unset] [])) _
            refine XS.dload X25.here hx rfl (hb hby at_70) rfl ?_
            show Steps p.tables e below (T25.setTop (mkF m 72 #[.val (.int p0), .val (.int p1), .val (.int (p0 &&& (3 : Int32))), .val (.int ((((p0).toUInt32 >>> ((2 : Int32) &&& 31).toUInt32).toInt32) &&& (7 : Int32))), .val (.double vd), .second, .val (.ref r1), .unset] [(.double vd)])) _
            refine X25.ldc2DoubleC hx hown (mvT hZ (hw _ (List.mem_of_getElem? (i := 7) rfl))) (g := (mkF m 72 #[.val (.int p0), .val (.int p1), .val (.int (p0 &&& (3 : Int32))), .val (.int ((((p0).toUInt32 >>> ((2 : Int32) &&& 31).toUInt32).toInt32) &&& (7 : Int32))), .val (.double vd), .second, .val (.ref r1), .unset] [(.double vd)])) rfl (hb hby at_72) _ ?_
            show Steps p.tables e below (T25.setTop (mkF m 75 #[.val (.int p0), .val (.int p1), .val (.int (p0 &&& (3 : Int32))), .val (.int ((((p0).toUInt32 >>> ((2 : Int32) &&& 31).toUInt32).toInt32) &&& (7 : Int32))), .val (.double vd), .second, .val (.ref r1), .unset] [(.double (9218868437227405312 : UInt64)), (.double vd)])) _
            refine XS.dcmpS X25.here hx rfl (hb hby at_75) rfl rfl ?_
            exact zk
          by_cases hc31 : (cmpValue (FP.dcmp vd (9218868437227405312 : UInt64)) .l) = (0 : Int32)
          ·
            skip
            have R33 : ∀ zt, Steps p.tables e below (T25.setTop (mkF m 84 #[.val (.int p0), .val (.int p1), .val (.int (p0 &&& (3 : Int32))), .val (.int ((((p0).toUInt32 >>> ((2 : Int32) &&& 31).toUInt32).toInt32) &&& (7 : Int32))), .val (.double vd), .second, .val (.ref r1), .unset] [(.int (0 : Int32))])) zt → Steps p.tables e below (s₁.setTop (entryFrame m #[(.int p0), (.int p1)] maxLocals)) zt := by
              intro zt zk
              refine R32 zt ?_
              show Steps p.tables e below (T25.setTop (mkF m 76 #[.val (.int p0), .val (.int p1), .val (.int (p0 &&& (3 : Int32))), .val (.int ((((p0).toUInt32 >>> ((2 : Int32) &&& 31).toUInt32).toInt32) &&& (7 : Int32))), .val (.double vd), .second, .val (.ref r1), .unset] [(.int (cmpValue (FP.dcmp vd (9218868437227405312 : UInt64)) .l))])) _
              refine XS.ifYes X25.here hx rfl (pc0 := 76) (pc' := 83) rfl (hb hby at_76) rfl ((if0 _ _).trans (teq hc31).1) (by decide) (by decide) ?_
              show Steps p.tables e below (T25.setTop (mkF m 83 #[.val (.int p0), .val (.int p1), .val (.int (p0 &&& (3 : Int32))), .val (.int ((((p0).toUInt32 >>> ((2 : Int32) &&& 31).toUInt32).toInt32) &&& (7 : Int32))), .val (.double vd), .second, .val (.ref r1), .unset] [])) _
              refine XS.iconst X25.here hx rfl (hb hby at_83) ?_
              exact zk
            refine fun zt zk => R33 zt ?_
            have q34 : (if (cmpValue (FP.dcmp vd (0 : UInt64)) .l) < (0 : Int32) then (0 : Int32) else (if (cmpValue (FP.dcmp vd (9218868437227405312 : UInt64)) .l) = (0 : Int32) then (0 : Int32) else (1 : Int32)) : Int32) = (0 : Int32) := ((if_neg hc28).trans (if_pos hc31))
            rw [q34] at zk
            try rw [q34]
            exact zk
          ·
            skip
            have R35 : ∀ zt, Steps p.tables e below (T25.setTop (mkF m 84 #[.val (.int p0), .val (.int p1), .val (.int (p0 &&& (3 : Int32))), .val (.int ((((p0).toUInt32 >>> ((2 : Int32) &&& 31).toUInt32).toInt32) &&& (7 : Int32))), .val (.double vd), .second, .val (.ref r1), .unset] [(.int (1 : Int32))])) zt → Steps p.tables e below (s₁.setTop (entryFrame m #[(.int p0), (.int p1)] maxLocals)) zt := by
              intro zt zk
              refine R32 zt ?_
              show Steps p.tables e below (T25.setTop (mkF m 76 #[.val (.int p0), .val (.int p1), .val (.int (p0 &&& (3 : Int32))), .val (.int ((((p0).toUInt32 >>> ((2 : Int32) &&& 31).toUInt32).toInt32) &&& (7 : Int32))), .val (.double vd), .second, .val (.ref r1), .unset] [(.int (cmpValue (FP.dcmp vd (9218868437227405312 : UInt64)) .l))])) _
              refine XS.ifNo X25.here hx rfl (hb hby at_76) rfl ((if0 _ _).trans (feq hc31).1) ?_
              show Steps p.tables e below (T25.setTop (mkF m 79 #[.val (.int p0), .val (.int p1), .val (.int (p0 &&& (3 : Int32))), .val (.int ((((p0).toUInt32 >>> ((2 : Int32) &&& 31).toUInt32).toInt32) &&& (7 : Int32))), .val (.double vd), .second, .val (.ref r1), .unset] [])) _
              refine XS.iconst X25.here hx rfl (hb hby at_79) ?_
              show Steps p.tables e below (T25.setTop (mkF m 80 #[.val (.int p0), .val (.int p1), .val (.int (p0 &&& (3 : Int32))), .val (.int ((((p0).toUInt32 >>> ((2 : Int32) &&& 31).toUInt32).toInt32) &&& (7 : Int32))), .val (.double vd), .second, .val (.ref r1), .unset] [(.int (1 : Int32))])) _
              refine XS.goto X25.here hx rfl (pc0 := 80) (pc' := 84) rfl (hb hby at_80) (by decide) (by decide) ?_
              exact zk
            refine fun zt zk => R35 zt ?_
            have q36 : (if (cmpValue (FP.dcmp vd (0 : UInt64)) .l) < (0 : Int32) then (0 : Int32) else (if (cmpValue (FP.dcmp vd (9218868437227405312 : UInt64)) .l) = (0 : Int32) then (0 : Int32) else (1 : Int32)) : Int32) = (1 : Int32) := ((if_neg hc28).trans (if_neg hc31))
            rw [q36] at zk
            try rw [q36]
            exact zk
      have R37 : ∀ zt, Steps p.tables e below (T25.setTop (mkF m 155 #[.val (.int p0), .val (.int p1), .val (.int (p0 &&& (3 : Int32))), .val (.int ((((p0).toUInt32 >>> ((2 : Int32) &&& 31).toUInt32).toInt32) &&& (7 : Int32))), .val (.double vd), .second, .val (.ref r1), .val (.int (if (cmpValue (FP.dcmp vd (0 : UInt64)) .l) < (0 : Int32) then (0 : Int32) else (if (cmpValue (FP.dcmp vd (9218868437227405312 : UInt64)) .l) = (0 : Int32) then (0 : Int32) else (1 : Int32)) : Int32))] [(.double vd), (.ref r1)])) zt → Steps p.tables e below (s₁.setTop (entryFrame m #[(.int p0), (.int p1)] maxLocals)) zt := by
        intro zt zk
        refine R27 zt ?_
        show Steps p.tables e below (T25.setTop (mkF m 84 #[.val (.int p0), .val (.int p1), .val (.int (p0 &&& (3 : Int32))), .val (.int ((((p0).toUInt32 >>> ((2 : Int32) &&& 31).toUInt32).toInt32) &&& (7 : Int32))), .val (.double vd), .second, .val (.ref r1), .unset] [(.int (if (cmpValue (FP.dcmp vd (0 : UInt64)) .l) < (0 : Int32) then (0 : Int32) else (if (cmpValue (FP.dcmp vd (9218868437227405312 : UInt64)) .l) = (0 : Int32) then (0 : Int32) else (1 : Int32)) : Int32))])) _
        refine XS.istore X25.here hx rfl (hb hby at_84) rfl (l' := #[.val (.int p0), .val (.int p1), .val (.int (p0 &&& (3 : Int32))), .val (.int ((((p0).toUInt32 >>> ((2 : Int32) &&& 31).toUInt32).toInt32) &&& (7 : Int32))), .val (.double vd), .second, .val (.ref r1), .val (.int (if (cmpValue (FP.dcmp vd (0 : UInt64)) .l) < (0 : Int32) then (0 : Int32) else (if (cmpValue (FP.dcmp vd (9218868437227405312 : UInt64)) .l) = (0 : Int32) then (0 : Int32) else (1 : Int32)) : Int32))]) rfl ?_
        show Steps p.tables e below (T25.setTop (mkF m 86 #[.val (.int p0), .val (.int p1), .val (.int (p0 &&& (3 : Int32))), .val (.int ((((p0).toUInt32 >>> ((2 : Int32) &&& 31).toUInt32).toInt32) &&& (7 : Int32))), .val (.double vd), .second, .val (.ref r1), .val (.int (if (cmpValue (FP.dcmp vd (0 : UInt64)) .l) < (0 : Int32) then (0 : Int32) else (if (cmpValue (FP.dcmp vd (9218868437227405312 : UInt64)) .l) = (0 : Int32) then (0 : Int32) else (1 : Int32)) : Int32))] [])) _
        refine XS.goto X25.here hx rfl (pc0 := 86) (pc' := 151) rfl (hb hby at_86) (by decide) (by decide) ?_
        show Steps p.tables e below (T25.setTop (mkF m 151 #[.val (.int p0), .val (.int p1), .val (.int (p0 &&& (3 : Int32))), .val (.int ((((p0).toUInt32 >>> ((2 : Int32) &&& 31).toUInt32).toInt32) &&& (7 : Int32))), .val (.double vd), .second, .val (.ref r1), .val (.int (if (cmpValue (FP.dcmp vd (0 : UInt64)) .l) < (0 : Int32) then (0 : Int32) else (if (cmpValue (FP.dcmp vd (9218868437227405312 : UInt64)) .l) = (0 : Int32) then (0 : Int32) else (1 : Int32)) : Int32))] [])) _
        refine XS.aload X25.here hx rfl (hb hby at_151) rfl rfl ?_
        show Steps p.tables e below (T25.setTop (mkF m 153 #[.val (.int p0), .val (.int p1), .val (.int (p0 &&& (3 : Int32))), .val (.int ((((p0).toUInt32 >>> ((2 : Int32) &&& 31).toUInt32).toInt32) &&& (7 : Int32))), .val (.double vd), .second, .val (.ref r1), .val (.int (if (cmpValue (FP.dcmp vd (0 : UInt64)) .l) < (0 : Int32) then (0 : Int32) else (if (cmpValue (FP.dcmp vd (9218868437227405312 : UInt64)) .l) = (0 : Int32) then (0 : Int32) else (1 : Int32)) : Int32))] [(.ref r1)])) _
        refine XS.dload X25.here hx rfl (hb hby at_153) rfl ?_
        exact zk
      obtain ⟨cq38, kq38, q38a, q38b, q38c⟩ := isOf hZ e25 E_r1
      obtain ⟨_, _, ⟨T38, L38, k38, n38⟩, -, X38, ⟨Lc38, hQ38, l38, y38, z38⟩, st38⟩ := X25.virtualBack hx (y := (⟨"com/example/latchmeter/latchmeter/analysis/Parameter$Range", "contains", "(D)Z"⟩ : MethodName)) (z := (⟨"com/example/latchmeter/latchmeter/analysis/Parameter$Range", "contains", "(D)Z"⟩ : MethodName)) hown (mvT hZ (hw _ (List.mem_of_getElem? (i := 8) rfl))) (mvT hZ (hw _ (List.mem_of_getElem? (i := 9) rfl))) (notFace_of_selects (args := #[]) (mvT hZ (hw _ (List.mem_of_getElem? (i := 11) rfl)))) (mvT hZ (hw _ (List.mem_of_getElem? (i := 11) rfl))) (mvT hZ (hw _ (List.mem_of_getElem? (i := 10) rfl))) (by decide) (backOf (W := 0) (rm2 l Z a0 hw [] r1 vd (0 : UInt64) (9218868437227405311 : UInt64) h0 n0 Z0 L_r1 M_r1) hZ (hw _ (List.mem_of_getElem? (i := 12) rfl)) (hw _ (List.mem_of_getElem? (i := 5) rfl)) (by decide) (by decide)) q38a q38c (g := (mkF m 155 #[.val (.int p0), .val (.int p1), .val (.int (p0 &&& (3 : Int32))), .val (.int ((((p0).toUInt32 >>> ((2 : Int32) &&& 31).toUInt32).toInt32) &&& (7 : Int32))), .val (.double vd), .second, .val (.ref r1), .val (.int (if (cmpValue (FP.dcmp vd (0 : UInt64)) .l) < (0 : Int32) then (0 : Int32) else (if (cmpValue (FP.dcmp vd (9218868437227405312 : UInt64)) .l) = (0 : Int32) then (0 : Int32) else (1 : Int32)) : Int32))] [(.double vd), (.ref r1)])) rfl (by rw [hml]; rfl) (Steps.refl _) (argsL := [(.double vd)]) (rest := []) (lenOf pd_1 rfl) rfl (by show 2 * 0 + _ ≤ _; exact Nat.le_of_eq rfl) (hb hby at_155) (fun _ _ => ⟨rfl, e25, (by decide : 0 + 0 ≤ _), (by decide : 0 + 0 ≤ _)⟩)
      dsimp only [Pt.U, Pt.locs, Pt.cells, Pt.slots] at X38 l38 y38 z38 st38 hQ38
      rw [y38, z38] at X38
      have X38 : Stand p l e room_1 s m #[(.int p0), (.int p1)] below meth c T38 L38 0 0 := X38
      obtain ⟨rfl, Nq38, eq38⟩ := hQ38
      have N38 : Fr n0 L38 := by rw [l38]; exact Fr.app N2 Nq38
      clear l38 y38 z38
      have e38 : T38.heap = h0 := eq38
      have R39 : ∀ zt, Steps p.tables e below (T38.setTop (mkF m 168 #[.val (.int p0), .val (.int p1), .val (.int (p0 &&& (3 : Int32))), .val (.int ((((p0).toUInt32 >>> ((2 : Int32) &&& 31).toUInt32).toInt32) &&& (7 : Int32))), .val (.double vd), .second, .val (.ref r1), .val (.int (if (cmpValue (FP.dcmp vd (0 : UInt64)) .l) < (0 : Int32) then (0 : Int32) else (if (cmpValue (FP.dcmp vd (9218868437227405312 : UInt64)) .l) = (0 : Int32) then (0 : Int32) else (1 : Int32)) : Int32))] [(.int (1 : Int32))])) zt → Steps p.tables e below (s₁.setTop (entryFrame m #[(.int p0), (.int p1)] maxLocals)) zt := by
        intro zt zk
        refine R37 zt ?_
        show Steps p.tables e below (T25.setTop (mkF m 155 #[.val (.int p0), .val (.int p1), .val (.int (p0 &&& (3 : Int32))), .val (.int ((((p0).toUInt32 >>> ((2 : Int32) &&& 31).toUInt32).toInt32) &&& (7 : Int32))), .val (.double vd), .second, .val (.ref r1), .val (.int (if (cmpValue (FP.dcmp vd (0 : UInt64)) .l) < (0 : Int32) then (0 : Int32) else (if (cmpValue (FP.dcmp vd (9218868437227405312 : UInt64)) .l) = (0 : Int32) then (0 : Int32) else (1 : Int32)) : Int32))] [(.double vd), (.ref r1)])) _
        refine st38.trans ?_
        show Steps p.tables e below (T38.setTop (mkF m 158 #[.val (.int p0), .val (.int p1), .val (.int (p0 &&& (3 : Int32))), .val (.int ((((p0).toUInt32 >>> ((2 : Int32) &&& 31).toUInt32).toInt32) &&& (7 : Int32))), .val (.double vd), .second, .val (.ref r1), .val (.int (if (cmpValue (FP.dcmp vd (0 : UInt64)) .l) < (0 : Int32) then (0 : Int32) else (if (cmpValue (FP.dcmp vd (9218868437227405312 : UInt64)) .l) = (0 : Int32) then (0 : Int32) else (1 : Int32)) : Int32))] [(.int (own_in vd (0 : UInt64) (9218868437227405311 : UInt64)))])) _
        refine XS.iload X38.here hx rfl (hb hby at_158) rfl ?_
        show Steps p.tables e below (T38.setTop (mkF m 160 #[.val (.int p0), .val (.int p1), .val (.int (p0 &&& (3 : Int32))), .val (.int ((((p0).toUInt32 >>> ((2 : Int32) &&& 31).toUInt32).toInt32) &&& (7 : Int32))), .val (.double vd), .second, .val (.ref r1), .val (.int (if (cmpValue (FP.dcmp vd (0 : UInt64)) .l) < (0 : Int32) then (0 : Int32) else (if (cmpValue (FP.dcmp vd (9218868437227405312 : UInt64)) .l) = (0 : Int32) then (0 : Int32) else (1 : Int32)) : Int32))] [(.int (if (cmpValue (FP.dcmp vd (0 : UInt64)) .l) < (0 : Int32) then (0 : Int32) else (if (cmpValue (FP.dcmp vd (9218868437227405312 : UInt64)) .l) = (0 : Int32) then (0 : Int32) else (1 : Int32)) : Int32)), (.int (own_in vd (0 : UInt64) (9218868437227405311 : UInt64)))])) _
        refine XS.icmpNo X38.here hx rfl (hb hby at_160) rfl (teq (own_r1 hnv)).2 ?_
        show Steps p.tables e below (T38.setTop (mkF m 163 #[.val (.int p0), .val (.int p1), .val (.int (p0 &&& (3 : Int32))), .val (.int ((((p0).toUInt32 >>> ((2 : Int32) &&& 31).toUInt32).toInt32) &&& (7 : Int32))), .val (.double vd), .second, .val (.ref r1), .val (.int (if (cmpValue (FP.dcmp vd (0 : UInt64)) .l) < (0 : Int32) then (0 : Int32) else (if (cmpValue (FP.dcmp vd (9218868437227405312 : UInt64)) .l) = (0 : Int32) then (0 : Int32) else (1 : Int32)) : Int32))] [])) _
        refine XS.iconst X38.here hx rfl (hb hby at_163) ?_
        show Steps p.tables e below (T38.setTop (mkF m 164 #[.val (.int p0), .val (.int p1), .val (.int (p0 &&& (3 : Int32))), .val (.int ((((p0).toUInt32 >>> ((2 : Int32) &&& 31).toUInt32).toInt32) &&& (7 : Int32))), .val (.double vd), .second, .val (.ref r1), .val (.int (if (cmpValue (FP.dcmp vd (0 : UInt64)) .l) < (0 : Int32) then (0 : Int32) else (if (cmpValue (FP.dcmp vd (9218868437227405312 : UInt64)) .l) = (0 : Int32) then (0 : Int32) else (1 : Int32)) : Int32))] [(.int (1 : Int32))])) _
        refine XS.goto X38.here hx rfl (pc0 := 164) (pc' := 168) rfl (hb hby at_164) (by decide) (by decide) ?_
        exact zk
      obtain ⟨fs, hr, hrun, hended, hW, hsame⟩ := X38.leave (v := some (.int (1 : Int32))) (fun h => by rw [Bd.returns] at h; cases h)
      refine ⟨_, _, R39 _ ?_, hrun, hended, _, _, rfl, ?_, ⟨_, rfl⟩, hW, hsame.mono (by decide) (by decide)⟩
      · exact retN X38 hx (t := .boolean) Bd.returns (by simp) (hb hby at_168) hr
      · show Q0 Z p0 p1 r0 r1 r2 r3 h0 n0 _ T38.heap _
        rw [e38]
        exact ⟨rfl, N38⟩
    ·
      skip
      have R40 : ∀ zt, Steps p.tables e below (T2.setTop (mkF m 91 #[.val (.int p0), .val (.int p1), .val (.int (p0 &&& (3 : Int32))), .val (.int ((((p0).toUInt32 >>> ((2 : Int32) &&& 31).toUInt32).toInt32) &&& (7 : Int32))), .val (.double vd), .second, .unset, .unset] [(.int (2 : Int32)), (.int (p0 &&& (3 : Int32)))])) zt → Steps p.tables e below (s₁.setTop (entryFrame m #[(.int p0), (.int p1)] maxLocals)) zt := by
        intro zt zk
        refine R22 zt ?_
        show Steps p.tables e below (T2.setTop (mkF m 55 #[.val (.int p0), .val (.int p1), .val (.int (p0 &&& (3 : Int32))), .val (.int ((((p0).toUInt32 >>> ((2 : Int32) &&& 31).toUInt32).toInt32) &&& (7 : Int32))), .val (.double vd), .second, .unset, .unset] [(.int (1 : Int32)), (.int (p0 &&& (3 : Int32)))])) _
        refine XS.icmpYes X2.here hx rfl (pc0 := 55) (pc' := 89) rfl (hb hby at_55) rfl (feq hc23).2 (by decide) (by decide) ?_
        show Steps p.tables e below (T2.setTop (mkF m 89 #[.val (.int p0), .val (.int p1), .val (.int (p0 &&& (3 : Int32))), .val (.int ((((p0).toUInt32 >>> ((2 : Int32) &&& 31).toUInt32).toInt32) &&& (7 : Int32))), .val (.double vd), .second, .unset, .unset] [])) _
        refine XS.iloadN X2.here hx rfl (hb hby at_89) rfl ?_
        show Steps p.tables e below (T2.setTop (mkF m 90 #[.val (.int p0), .val (.int p1), .val (.int (p0 &&& (3 : Int32))), .val (.int ((((p0).toUInt32 >>> ((2 : Int32) &&& 31).toUInt32).toInt32) &&& (7 : Int32))), .val (.double vd), .second, .unset, .unset] [(.int (p0 &&& (3 : Int32)))])) _
        refine XS.iconst X2.here hx rfl (hb hby at_90) ?_
        exact zk
      by_cases hc41 : (p0 &&& (3 : Int32)) = (2 : Int32)
      ·
        skip
        have R42 : ∀ zt, Steps p.tables e below (T2.setTop (mkF m 94 #[.val (.int p0), .val (.int p1), .val (.int (p0 &&& (3 : Int32))), .val (.int ((((p0).toUInt32 >>> ((2 : Int32) &&& 31).toUInt32).toInt32) &&& (7 : Int32))), .val (.double vd), .second, .unset, .unset] [])) zt → Steps p.tables e below (s₁.setTop (entryFrame m #[(.int p0), (.int p1)] maxLocals)) zt := by
          intro zt zk
          refine R40 zt ?_
          show Steps p.tables e below (T2.setTop (mkF m 91 #[.val (.int p0), .val (.int p1), .val (.int (p0 &&& (3 : Int32))), .val (.int ((((p0).toUInt32 >>> ((2 : Int32) &&& 31).toUInt32).toInt32) &&& (7 : Int32))), .val (.double vd), .second, .unset, .unset] [(.int (2 : Int32)), (.int (p0 &&& (3 : Int32)))])) _
          refine XS.icmpNo X2.here hx rfl (hb hby at_91) rfl (teq hc41).2 ?_
          exact zk
        obtain ⟨T43, X43, e43, st43⟩ := getS2 X2 hx hZ hown (host := "") (Or.inl (hw _ (List.mem_of_getElem? (i := 17) rfl))) Via.refl e2 Sr2 (g := (mkF m 94 #[.val (.int p0), .val (.int p1), .val (.int (p0 &&& (3 : Int32))), .val (.int ((((p0).toUInt32 >>> ((2 : Int32) &&& 31).toUInt32).toInt32) &&& (7 : Int32))), .val (.double vd), .second, .unset, .unset] [])) rfl (hb hby at_94)
        have R44 : ∀ zt, Steps p.tables e below (T43.setTop (mkF m 103 #[.val (.int p0), .val (.int p1), .val (.int (p0 &&& (3 : Int32))), .val (.int ((((p0).toUInt32 >>> ((2 : Int32) &&& 31).toUInt32).toInt32) &&& (7 : Int32))), .val (.double vd), .second, .val (.ref r2), .unset] [(.int (cmpValue (FP.dcmp vd (0 : UInt64)) .l))])) zt → Steps p.tables e below (s₁.setTop (entryFrame m #[(.int p0), (.int p1)] maxLocals)) zt := by
          intro zt zk
          refine R42 zt ?_
          show Steps p.tables e below (T2.setTop (mkF m 94 #[.val (.int p0), .val (.int p1), .val (.int (p0 &&& (3 : Int32))), .val (.int ((((p0).toUInt32 >>> ((2 : Int32) &&& 31).toUInt32).toInt32) &&& (7 : Int32))), .val (.double vd), .second, .unset, .unset] [])) _
          refine st43 _ ?_
          show Steps p.tables e below (T43.setTop (mkF m 97 #[.val (.int p0), .val (.int p1), .val (.int (p0 &&& (3 : Int32))), .val (.int ((((p0).toUInt32 >>> ((2 : Int32) &&& 31).toUInt32).toInt32) &&& (7 : Int32))), .val (.double vd), .second, .unset, .unset] [(.ref r2)])) _
          refine XS.astore X43.here hx rfl (hb hby at_97) rfl rfl (l' := #[.val (.int p0), .val (.int p1), .val (.int (p0 &&& (3 : Int32))), .val (.int ((((p0).toUInt32 >>> ((2 : Int32) &&& 31).toUInt32).toInt32) &&& (7 : Int32))), .val (.double vd), .second, .val (.ref r2), .unset]) rfl ?_
          show Steps p.tables e below (T43.setTop (mkF m 99 #[.val (.int p0), .val (.int p1), .val (.int (p0 &&& (3 : Int32))), .val (.int ((((p0).toUInt32 >>> ((2 : Int32) &&& 31).toUInt32).toInt32) &&& (7 : Int32))), .val (.double vd), .second, .val (.ref r2), .unset] [])) _
          refine XS.dload X43.here hx rfl (hb hby at_99) rfl ?_
          show Steps p.tables e below (T43.setTop (mkF m 101 #[.val (.int p0), .val (.int p1), .val (.int (p0 &&& (3 : Int32))), .val (.int ((((p0).toUInt32 >>> ((2 : Int32) &&& 31).toUInt32).toInt32) &&& (7 : Int32))), .val (.double vd), .second, .val (.ref r2), .unset] [(.double vd)])) _
          refine XS.dconst0 X43.here hx rfl (hb hby at_101) (v := (0 : UInt64)) rfl ?_
          show Steps p.tables e below (T43.setTop (mkF m 102 #[.val (.int p0), .val (.int p1), .val (.int (p0 &&& (3 : Int32))), .val (.int ((((p0).toUInt32 >>> ((2 : Int32) &&& 31).toUInt32).toInt32) &&& (7 : Int32))), .val (.double vd), .second, .val (.ref r2), .unset] [(.double (0 : UInt64)), (.double vd)])) _
          refine XS.dcmpS X43.here hx rfl (hb hby at_102) rfl rfl ?_
          exact zk
        have R45 : ∀ zt, Steps p.tables e below (T43.setTop (mkF m 118 #[.val (.int p0), .val (.int p1), .val (.int (p0 &&& (3 : Int32))), .val (.int ((((p0).toUInt32 >>> ((2 : Int32) &&& 31).toUInt32).toInt32) &&& (7 : Int32))), .val (.double vd), .second, .val (.ref r2), .unset] [(.int (if (cmpValue (FP.dcmp vd (0 : UInt64)) .l) < (0 : Int32) then (0 : Int32) else (if (0 : Int32) < (cmpValue (FP.dcmp vd (4607182418800017408 : UInt64)) .g) then (0 : Int32) else (1 : Int32)) : Int32))])) zt → Steps p.tables e below (s₁.setTop (entryFrame m #[(.int p0), (.int p1)] maxLocals)) zt := by
          by_cases hc46 : (cmpValue (FP.dcmp vd (0 : UInt64)) .l) < (0 : Int32)
          ·
            skip
            have R47 : ∀ zt, Steps p.tables e below (T43.setTop (mkF m 118 #[.val (.int p0), .val (.int p1), .val (.int (p0 &&& (3 : Int32))), .val (.int ((((p0).toUInt32 >>> ((2 : Int32) &&& 31).toUInt32).toInt32) &&& (7 : Int32))), .val (.double vd), .second, .val (.ref r2), .unset] [(.int (0 : Int32))])) zt → Steps p.tables e below (s₁.setTop (entryFrame m #[(.int p0), (.int p1)] maxLocals)) zt := by
              intro zt zk
              refine R44 zt ?_
              show Steps p.tables e below (T43.setTop (mkF m 103 #[.val (.int p0), .val (.int p1), .val (.int (p0 &&& (3 : Int32))), .val (.int ((((p0).toUInt32 >>> ((2 : Int32) &&& 31).toUInt32).toInt32) &&& (7 : Int32))), .val (.double vd), .second, .val (.ref r2), .unset] [(.int (cmpValue (FP.dcmp vd (0 : UInt64)) .l))])) _
              refine XS.ifYes X43.here hx rfl (pc0 := 103) (pc' := 117) rfl (hb hby at_103) rfl ((if0 _ _).trans (tlt hc46).1) (by decide) (by decide) ?_
              show Steps p.tables e below (T43.setTop (mkF m 117 #[.val (.int p0), .val (.int p1), .val (.int (p0 &&& (3 : Int32))), .val (.int ((((p0).toUInt32 >>> ((2 : Int32) &&& 31).toUInt32).toInt32) &&& (7 : Int32))), .val (.double vd), .second, .val (.ref r2), .unset] [])) _
              refine XS.iconst X43.here hx rfl (hb hby at_117) ?_
              exact zk
            refine fun zt zk => R47 zt ?_
            have q48 : (if (cmpValue (FP.dcmp vd (0 : UInt64)) .l) < (0 : Int32) then (0 : Int32) else (if (0 : Int32) < (cmpValue (FP.dcmp vd (4607182418800017408 : UInt64)) .g) then (0 : Int32) else (1 : Int32)) : Int32) = (0 : Int32) := (if_pos hc46)
            rw [q48] at zk
            try rw [q48]
            exact zk
          ·
            skip
            have R50 : ∀ zt, Steps p.tables e below (T43.setTop (mkF m 110 #[.val (.int p0), .val (.int p1), .val (.int (p0 &&& (3 : Int32))), .val (.int ((((p0).toUInt32 >>> ((2 : Int32) &&& 31).toUInt32).toInt32) &&& (7 : Int32))), .val (.double vd), .second, .val (.ref r2), .unset] [(.int (cmpValue (FP.dcmp vd (4607182418800017408 : UInt64)) .g))])) zt → Steps p.tables e below (s₁.setTop (entryFrame m #[(.int p0), (.int p1)] maxLocals)) zt := by
              intro zt zk
              refine R44 zt ?_
              show Steps p.tables e below (T43.setTop (mkF m 103 #[.val (.int p0), .val (.int p1), .val (.int (p0 &&& (3 : Int32))), .val (.int ((((p0).toUInt32 >>> ((2 : Int32) &&& 31).toUInt32).toInt32) &&& (7 : Int32))), .val (.double vd), .second, .val (.ref r2), .unset] [(.int (cmpValue (FP.dcmp vd (0 : UInt64)) .l))])) _
              refine XS.ifNo X43.here hx rfl (hb hby at_103) rfl ((if0 _ _).trans (flt hc46).1) ?_
              show Steps p.tables e below (T43.setTop (mkF m 106 #[.val (.int p0), .val (.int p1), .val (.int (p0 &&& (3 : Int32))), .val (.int ((((p0).toUInt32 >>> ((2 : Int32) &&& 31).toUInt32).toInt32) &&& (7 : Int32))), .val (.double vd), .second, .val (.ref r2), .unset] [])) _
              refine XS.dload X43.here hx rfl (hb hby at_106) rfl ?_
              show Steps p.tables e below (T43.setTop (mkF m 108 #[.val (.int p0), .val (.int p1), .val (.int (p0 &&& (3 : Int32))), .val (.int ((((p0).toUInt32 >>> ((2 : Int32) &&& 31).toUInt32).toInt32) &&& (7 : Int32))), .val (.double vd), .second, .val (.ref r2), .unset] [(.double vd)])) _
              refine XS.dconst1 X43.here hx rfl (hb hby at_108) (v := (4607182418800017408 : UInt64)) rfl ?_
              show Steps p.tables e below (T43.setTop (mkF m 109 #[.val (.int p0), .val (.int p1), .val (.int (p0 &&& (3 : Int32))), .val (.int ((((p0).toUInt32 >>> ((2 : Int32) &&& 31).toUInt32).toInt32) &&& (7 : Int32))), .val (.double vd), .second, .val (.ref r2), .unset] [(.double (4607182418800017408 : UInt64)), (.double vd)])) _
              refine XS.dcmpS X43.here hx rfl (hb hby at_109) rfl rfl ?_
              exact zk
            by_cases hc49 : (0 : Int32) < (cmpValue (FP.dcmp vd (4607182418800017408 : UInt64)) .g)
            ·
              skip
              have R51 : ∀ zt, Steps p.tables e below (T43.setTop (mkF m 118 #[.val (.int p0), .val (.int p1), .val (.int (p0 &&& (3 : Int32))), .val (.int ((((p0).toUInt32 >>> ((2 : Int32) &&& 31).toUInt32).toInt32) &&& (7 : Int32))), .val (.double vd), .second, .val (.ref r2), .unset] [(.int (0 : Int32))])) zt → Steps p.tables e below (s₁.setTop (entryFrame m #[(.int p0), (.int p1)] maxLocals)) zt := by
                intro zt zk
                refine R50 zt ?_
                show Steps p.tables e below (T43.setTop (mkF m 110 #[.val (.int p0), .val (.int p1), .val (.int (p0 &&& (3 : Int32))), .val (.int ((((p0).toUInt32 >>> ((2 : Int32) &&& 31).toUInt32).toInt32) &&& (7 : Int32))), .val (.double vd), .second, .val (.ref r2), .unset] [(.int (cmpValue (FP.dcmp vd (4607182418800017408 : UInt64)) .g))])) _
                refine XS.ifYes X43.here hx rfl (pc0 := 110) (pc' := 117) rfl (hb hby at_110) rfl ((if0 _ _).trans (tlt hc49).2.2.1) (by decide) (by decide) ?_
                show Steps p.tables e below (T43.setTop (mkF m 117 #[.val (.int p0), .val (.int p1), .val (.int (p0 &&& (3 : Int32))), .val (.int ((((p0).toUInt32 >>> ((2 : Int32) &&& 31).toUInt32).toInt32) &&& (7 : Int32))), .val (.double vd), .second, .val (.ref r2), .unset] [])) _
                refine XS.iconst X43.here hx rfl (hb hby at_117) ?_
                exact zk
              refine fun zt zk => R51 zt ?_
              have q52 : (if (cmpValue (FP.dcmp vd (0 : UInt64)) .l) < (0 : Int32) then (0 : Int32) else (if (0 : Int32) < (cmpValue (FP.dcmp vd (4607182418800017408 : UInt64)) .g) then (0 : Int32) else (1 : Int32)) : Int32) = (0 : Int32) := ((if_neg hc46).trans (if_pos hc49))
              rw [q52] at zk
              try rw [q52]
              exact zk
            ·
              skip
              have R53 : ∀ zt, Steps p.tables e below (T43.setTop (mkF m 118 #[.val (.int p0), .val (.int p1), .val (.int (p0 &&& (3 : Int32))), .val (.int ((((p0).toUInt32 >>> ((2 : Int32) &&& 31).toUInt32).toInt32) &&& (7 : Int32))), .val (.double vd), .second, .val (.ref r2), .unset] [(.int (1 : Int32))])) zt → Steps p.tables e below (s₁.setTop (entryFrame m #[(.int p0), (.int p1)] maxLocals)) zt := by
                intro zt zk
                refine R50 zt ?_
                show Steps p.tables e below (T43.setTop (mkF m 110 #[.val (.int p0), .val (.int p1), .val (.int (p0 &&& (3 : Int32))), .val (.int ((((p0).toUInt32 >>> ((2 : Int32) &&& 31).toUInt32).toInt32) &&& (7 : Int32))), .val (.double vd), .second, .val (.ref r2), .unset] [(.int (cmpValue (FP.dcmp vd (4607182418800017408 : UInt64)) .g))])) _
                refine XS.ifNo X43.here hx rfl (hb hby at_110) rfl ((if0 _ _).trans (flt hc49).2.2.1) ?_
                show Steps p.tables e below (T43.setTop (mkF m 113 #[.val (.int p0), .val (.int p1), .val (.int (p0 &&& (3 : Int32))), .val (.int ((((p0).toUInt32 >>> ((2 : Int32) &&& 31).toUInt32).toInt32) &&& (7 : Int32))), .val (.double vd), .second, .val (.ref r2), .unset] [])) _
                refine XS.iconst X43.here hx rfl (hb hby at_113) ?_
                show Steps p.tables e below (T43.setTop (mkF m 114 #[.val (.int p0), .val (.int p1), .val (.int (p0 &&& (3 : Int32))), .val (.int ((((p0).toUInt32 >>> ((2 : Int32) &&& 31).toUInt32).toInt32) &&& (7 : Int32))), .val (.double vd), .second, .val (.ref r2), .unset] [(.int (1 : Int32))])) _
                refine XS.goto X43.here hx rfl (pc0 := 114) (pc' := 118) rfl (hb hby at_114) (by decide) (by decide) ?_
                exact zk
              refine fun zt zk => R53 zt ?_
              have q54 : (if (cmpValue (FP.dcmp vd (0 : UInt64)) .l) < (0 : Int32) then (0 : Int32) else (if (0 : Int32) < (cmpValue (FP.dcmp vd (4607182418800017408 : UInt64)) .g) then (0 : Int32) else (1 : Int32)) : Int32) = (1 : Int32) := ((if_neg hc46).trans (if_neg hc49))
              rw [q54] at zk
              try rw [q54]
              exact zk
        have R55 : ∀ zt, Steps p.tables e below (T43.setTop (mkF m 155 #[.val (.int p0), .val (.int p1), .val (.int (p0 &&& (3 : Int32))), .val (.int ((((p0).toUInt32 >>> ((2 : Int32) &&& 31).toUInt32).toInt32) &&& (7 : Int32))), .val (.double vd), .second, .val (.ref r2), .val (.int (if (cmpValue (FP.dcmp vd (0 : UInt64)) .l) < (0 : Int32) then (0 : Int32) else (if (0 : Int32) < (cmpValue (FP.dcmp vd (4607182418800017408 : UInt64)) .g) then (0 : Int32) else (1 : Int32)) : Int32))] [(.double vd), (.ref r2)])) zt → Steps p.tables e below (s₁.setTop (entryFrame m #[(.int p0), (.int p1)] maxLocals)) zt := by
          intro zt zk
          refine R45 zt ?_
          show Steps p.tables e below (T43.setTop (mkF m 118 #[.val (.int p0), .val (.int p1), .val (.int (p0 &&& (3 : Int32))), .val (.int ((((p0).toUInt32 >>> ((2 : Int32) &&& 31).toUInt32).toInt32) &&& (7 : Int32))), .val (.double vd), .second, .val (.ref r2), .unset] [(.int (if (cmpValue (FP.dcmp vd (0 : UInt64)) .l) < (0 : Int32) then (0 : Int32) else (if (0 : Int32) < (cmpValue (FP.dcmp vd (4607182418800017408 : UInt64)) .g) then (0 : Int32) else (1 : Int32)) : Int32))])) _
          refine XS.istore X43.here hx rfl (hb hby at_118) rfl (l' := #[.val (.int p0), .val (.int p1), .val (.int (p0 &&& (3 : Int32))), .val (.int ((((p0).toUInt32 >>> ((2 : Int32) &&& 31).toUInt32).toInt32) &&& (7 : Int32))), .val (.double vd), .second, .val (.ref r2), .val (.int (if (cmpValue (FP.dcmp vd (0 : UInt64)) .l) < (0 : Int32) then (0 : Int32) else (if (0 : Int32) < (cmpValue (FP.dcmp vd (4607182418800017408 : UInt64)) .g) then (0 : Int32) else (1 : Int32)) : Int32))]) rfl ?_
          show Steps p.tables e below (T43.setTop (mkF m 120 #[.val (.int p0), .val (.int p1), .val (.int (p0 &&& (3 : Int32))), .val (.int ((((p0).toUInt32 >>> ((2 : Int32) &&& 31).toUInt32).toInt32) &&& (7 : Int32))), .val (.double vd), .second, .val (.ref r2), .val (.int (if (cmpValue (FP.dcmp vd (0 : UInt64)) .l) < (0 : Int32) then (0 : Int32) else (if (0 : Int32) < (cmpValue (FP.dcmp vd (4607182418800017408 : UInt64)) .g) then (0 : Int32) else (1 : Int32)) : Int32))] [])) _
          refine XS.goto X43.here hx rfl (pc0 := 120) (pc' := 151) rfl (hb hby at_120) (by decide) (by decide) ?_
          show Steps p.tables e below (T43.setTop (mkF m 151 #[.val (.int p0), .val (.int p1), .val (.int (p0 &&& (3 : Int32))), .val (.int ((((p0).toUInt32 >>> ((2 : Int32) &&& 31).toUInt32).toInt32) &&& (7 : Int32))), .val (.double vd), .second, .val (.ref r2), .val (.int (if (cmpValue (FP.dcmp vd (0 : UInt64)) .l) < (0 : Int32) then (0 : Int32) else (if (0 : Int32) < (cmpValue (FP.dcmp vd (4607182418800017408 : UInt64)) .g) then (0 : Int32) else (1 : Int32)) : Int32))] [])) _
          refine XS.aload X43.here hx rfl (hb hby at_151) rfl rfl ?_
          show Steps p.tables e below (T43.setTop (mkF m 153 #[.val (.int p0), .val (.int p1), .val (.int (p0 &&& (3 : Int32))), .val (.int ((((p0).toUInt32 >>> ((2 : Int32) &&& 31).toUInt32).toInt32) &&& (7 : Int32))), .val (.double vd), .second, .val (.ref r2), .val (.int (if (cmpValue (FP.dcmp vd (0 : UInt64)) .l) < (0 : Int32) then (0 : Int32) else (if (0 : Int32) < (cmpValue (FP.dcmp vd (4607182418800017408 : UInt64)) .g) then (0 : Int32) else (1 : Int32)) : Int32))] [(.ref r2)])) _
          refine XS.dload X43.here hx rfl (hb hby at_153) rfl ?_
          exact zk
        obtain ⟨cq56, kq56, q56a, q56b, q56c⟩ := isOf hZ e43 E_r2
        obtain ⟨_, _, ⟨T56, L56, k56, n56⟩, -, X56, ⟨Lc56, hQ56, l56, y56, z56⟩, st56⟩ := X43.virtualBack hx (y := (⟨"com/example/latchmeter/latchmeter/analysis/Parameter$Range", "contains", "(D)Z"⟩ : MethodName)) (z := (⟨"com/example/latchmeter/latchmeter/analysis/Parameter$Range", "contains", "(D)Z"⟩ : MethodName)) hown (mvT hZ (hw _ (List.mem_of_getElem? (i := 8) rfl))) (mvT hZ (hw _ (List.mem_of_getElem? (i := 9) rfl))) (notFace_of_selects (args := #[]) (mvT hZ (hw _ (List.mem_of_getElem? (i := 11) rfl)))) (mvT hZ (hw _ (List.mem_of_getElem? (i := 11) rfl))) (mvT hZ (hw _ (List.mem_of_getElem? (i := 10) rfl))) (by decide) (backOf (W := 0) (rm2 l Z a0 hw [] r2 vd (0 : UInt64) (4607182418800017408 : UInt64) h0 n0 Z0 L_r2 M_r2) hZ (hw _ (List.mem_of_getElem? (i := 12) rfl)) (hw _ (List.mem_of_getElem? (i := 5) rfl)) (by decide) (by decide)) q56a q56c (g := (mkF m 155 #[.val (.int p0), .val (.int p1), .val (.int (p0 &&& (3 : Int32))), .val (.int ((((p0).toUInt32 >>> ((2 : Int32) &&& 31).toUInt32).toInt32) &&& (7 : Int32))), .val (.double vd), .second, .val (.ref r2), .val (.int (if (cmpValue (FP.dcmp vd (0 : UInt64)) .l) < (0 : Int32) then (0 : Int32) else (if (0 : Int32) < (cmpValue (FP.dcmp vd (4607182418800017408 : UInt64)) .g) then (0 : Int32) else (1 : Int32)) : Int32))] [(.double vd), (.ref r2)])) rfl (by rw [hml]; rfl) (Steps.refl _) (argsL := [(.double vd)]) (rest := []) (lenOf pd_1 rfl) rfl (by show 2 * 0 + _ ≤ _; exact Nat.le_of_eq rfl) (hb hby at_155) (fun _ _ => ⟨rfl, e43, (by decide : 0 + 0 ≤ _), (by decide : 0 + 0 ≤ _)⟩)
        dsimp only [Pt.U, Pt.locs, Pt.cells, Pt.slots] at X56 l56 y56 z56 st56 hQ56
        rw [y56, z56] at X56
        have X56 : Stand p l e room_1 s m #[(.int p0), (.int p1)] below meth c T56 L56 0 0 := X56
        obtain ⟨rfl, Nq56, eq56⟩ := hQ56
        have N56 : Fr n0 L56 := by rw [l56]; exact Fr.app N2 Nq56
        clear l56 y56 z56
        have e56 : T56.heap = h0 := eq56
        have R57 : ∀ zt, Steps p.tables e below (T56.setTop (mkF m 168 #[.val (.int p0), .val (.int p1), .val (.int (p0 &&& (3 : Int32))), .val (.int ((((p0).toUInt32 >>> ((2 : Int32) &&& 31).toUInt32).toInt32) &&& (7 : Int32))), .val (.double vd), .second, .val (.ref r2), .val (.int (if (cmpValue (FP.dcmp vd (0 : UInt64)) .l) < (0 : Int32) then (0 : Int32) else (if (0 : Int32) < (cmpValue (FP.dcmp vd (4607182418800017408 : UInt64)) .g) then (0 : Int32) else (1 : Int32)) : Int32))] [(.int (1 : Int32))])) zt → Steps p.tables e below (s₁.setTop (entryFrame m #[(.int p0), (.int p1)] maxLocals)) zt := by
          intro zt zk
          refine R55 zt ?_
          show Steps p.tables e below (T43.setTop (mkF m 155 #[.val (.int p0), .val (.int p1), .val (.int (p0 &&& (3 : Int32))), .val (.int ((((p0).toUInt32 >>> ((2 : Int32) &&& 31).toUInt32).toInt32) &&& (7 : Int32))), .val (.double vd), .second, .val (.ref r2), .val (.int (if (cmpValue (FP.dcmp vd (0 : UInt64)) .l) < (0 : Int32) then (0 : Int32) else (if (0 : Int32) < (cmpValue (FP.dcmp vd (4607182418800017408 : UInt64)) .g) then (0 : Int32) else (1 : Int32)) : Int32))] [(.double vd), (.ref r2)])) _
          refine st56.trans ?_
          show Steps p.tables e below (T56.setTop (mkF m 158 #[.val (.int p0), .val (.int p1), .val (.int (p0 &&& (3 : Int32))), .val (.int ((((p0).toUInt32 >>> ((2 : Int32) &&& 31).toUInt32).toInt32) &&& (7 : Int32))), .val (.double vd), .second, .val (.ref r2), .val (.int (if (cmpValue (FP.dcmp vd (0 : UInt64)) .l) < (0 : Int32) then (0 : Int32) else (if (0 : Int32) < (cmpValue (FP.dcmp vd (4607182418800017408 : UInt64)) .g) then (0 : Int32) else (1 : Int32)) : Int32))] [(.int (own_in vd (0 : UInt64) (4607182418800017408 : UInt64)))])) _
          refine XS.iload X56.here hx rfl (hb hby at_158) rfl ?_
          show Steps p.tables e below (T56.setTop (mkF m 160 #[.val (.int p0), .val (.int p1), .val (.int (p0 &&& (3 : Int32))), .val (.int ((((p0).toUInt32 >>> ((2 : Int32) &&& 31).toUInt32).toInt32) &&& (7 : Int32))), .val (.double vd), .second, .val (.ref r2), .val (.int (if (cmpValue (FP.dcmp vd (0 : UInt64)) .l) < (0 : Int32) then (0 : Int32) else (if (0 : Int32) < (cmpValue (FP.dcmp vd (4607182418800017408 : UInt64)) .g) then (0 : Int32) else (1 : Int32)) : Int32))] [(.int (if (cmpValue (FP.dcmp vd (0 : UInt64)) .l) < (0 : Int32) then (0 : Int32) else (if (0 : Int32) < (cmpValue (FP.dcmp vd (4607182418800017408 : UInt64)) .g) then (0 : Int32) else (1 : Int32)) : Int32)), (.int (own_in vd (0 : UInt64) (4607182418800017408 : UInt64)))])) _
          refine XS.icmpNo X56.here hx rfl (hb hby at_160) rfl (teq (rfl : own_in vd (0 : UInt64) (4607182418800017408 : UInt64) = (if (cmpValue (FP.dcmp vd (0 : UInt64)) .l) < (0 : Int32) then (0 : Int32) else (if (0 : Int32) < (cmpValue (FP.dcmp vd (4607182418800017408 : UInt64)) .g) then (0 : Int32) else (1 : Int32)) : Int32))).2 ?_
          show Steps p.tables e below (T56.setTop (mkF m 163 #[.val (.int p0), .val (.int p1), .val (.int (p0 &&& (3 : Int32))), .val (.int ((((p0).toUInt32 >>> ((2 : Int32) &&& 31).toUInt32).toInt32) &&& (7 : Int32))), .val (.double vd), .second, .val (.ref r2), .val (.int (if (cmpValue (FP.dcmp vd (0 : UInt64)) .l) < (0 : Int32) then (0 : Int32) else (if (0 : Int32) < (cmpValue (FP.dcmp vd (4607182418800017408 : UInt64)) .g) then (0 : Int32) else (1 : Int32)) : Int32))] [])) _
          refine XS.iconst X56.here hx rfl (hb hby at_163) ?_
          show Steps p.tables e below (T56.setTop (mkF m 164 #[.val (.int p0), .val (.int p1), .val (.int (p0 &&& (3 : Int32))), .val (.int ((((p0).toUInt32 >>> ((2 : Int32) &&& 31).toUInt32).toInt32) &&& (7 : Int32))), .val (.double vd), .second, .val (.ref r2), .val (.int (if (cmpValue (FP.dcmp vd (0 : UInt64)) .l) < (0 : Int32) then (0 : Int32) else (if (0 : Int32) < (cmpValue (FP.dcmp vd (4607182418800017408 : UInt64)) .g) then (0 : Int32) else (1 : Int32)) : Int32))] [(.int (1 : Int32))])) _
          refine XS.goto X56.here hx rfl (pc0 := 164) (pc' := 168) rfl (hb hby at_164) (by decide) (by decide) ?_
          exact zk
        obtain ⟨fs, hr, hrun, hended, hW, hsame⟩ := X56.leave (v := some (.int (1 : Int32))) (fun h => by rw [Bd.returns] at h; cases h)
        refine ⟨_, _, R57 _ ?_, hrun, hended, _, _, rfl, ?_, ⟨_, rfl⟩, hW, hsame.mono (by decide) (by decide)⟩
        · exact retN X56 hx (t := .boolean) Bd.returns (by simp) (hb hby at_168) hr
        · show Q0 Z p0 p1 r0 r1 r2 r3 h0 n0 _ T56.heap _
          rw [e56]
          exact ⟨rfl, N56⟩
      ·
        skip
        have R58 : ∀ zt, Steps p.tables e below (T2.setTop (mkF m 123 #[.val (.int p0), .val (.int p1), .val (.int (p0 &&& (3 : Int32))), .val (.int ((((p0).toUInt32 >>> ((2 : Int32) &&& 31).toUInt32).toInt32) &&& (7 : Int32))), .val (.double vd), .second, .unset, .unset] [])) zt → Steps p.tables e below (s₁.setTop (entryFrame m #[(.int p0), (.int p1)] maxLocals)) zt := by
          intro zt zk
          refine R40 zt ?_
          show Steps p.tables e below (T2.setTop (mkF m 91 #[.val (.int p0), .val (.int p1), .val (.int (p0 &&& (3 : Int32))), .val (.int ((((p0).toUInt32 >>> ((2 : Int32) &&& 31).toUInt32).toInt32) &&& (7 : Int32))), .val (.double vd), .second, .unset, .unset] [(.int (2 : Int32)), (.int (p0 &&& (3 : Int32)))])) _
          refine XS.icmpYes X2.here hx rfl (pc0 := 91) (pc' := 123) rfl (hb hby at_91) rfl (feq hc41).2 (by decide) (by decide) ?_
          exact zk
        obtain ⟨T59, X59, e59, st59⟩ := getS2 X2 hx hZ hown (host := "") (Or.inl (hw _ (List.mem_of_getElem? (i := 22) rfl))) Via.refl e2 Sr3 (g := (mkF m 123 #[.val (.int p0), .val (.int p1), .val (.int (p0 &&& (3 : Int32))), .val (.int ((((p0).toUInt32 >>> ((2 : Int32) &&& 31).toUInt32).toInt32) &&& (7 : Int32))), .val (.double vd), .second, .unset, .unset] [])) rfl (hb hby at_123)
        have R60 : ∀ zt, Steps p.tables e below (T59.setTop (mkF m 132 #[.val (.int p0), .val (.int p1), .val (.int (p0 &&& (3 : Int32))), .val (.int ((((p0).toUInt32 >>> ((2 : Int32) &&& 31).toUInt32).toInt32) &&& (7 : Int32))), .val (.double vd), .second, .val (.ref r3), .unset] [(.int (cmpValue (FP.dcmp vd (4607182418800017408 : UInt64)) .l))])) zt → Steps p.tables e below (s₁.setTop (entryFrame m #[(.int p0), (.int p1)] maxLocals)) zt := by
          intro zt zk
          refine R58 zt ?_
          show Steps p.tables e below (T2.setTop (mkF m 123 #[.val (.int p0), .val (.int p1), .val (.int (p0 &&& (3 : Int32))), .val (.int ((((p0).toUInt32 >>> ((2 : Int32) &&& 31).toUInt32).toInt32) &&& (7 : Int32))), .val (.double vd), .second, .unset, .unset] [])) _
          refine st59 _ ?_
          show Steps p.tables e below (T59.setTop (mkF m 126 #[.val (.int p0), .val (.int p1), .val (.int (p0 &&& (3 : Int32))), .val (.int ((((p0).toUInt32 >>> ((2 : Int32) &&& 31).toUInt32).toInt32) &&& (7 : Int32))), .val (.double vd), .second, .unset, .unset] [(.ref r3)])) _
          refine XS.astore X59.here hx rfl (hb hby at_126) rfl rfl (l' := #[.val (.int p0), .val (.int p1), .val (.int (p0 &&& (3 : Int32))), .val (.int ((((p0).toUInt32 >>> ((2 : Int32) &&& 31).toUInt32).toInt32) &&& (7 : Int32))), .val (.double vd), .second, .val (.ref r3), .unset]) rfl ?_
          show Steps p.tables e below (T59.setTop (mkF m 128 #[.val (.int p0), .val (.int p1), .val (.int (p0 &&& (3 : Int32))), .val (.int ((((p0).toUInt32 >>> ((2 : Int32) &&& 31).toUInt32).toInt32) &&& (7 : Int32))), .val (.double vd), .second, .val (.ref r3), .unset] [])) _
          refine XS.dload X59.here hx rfl (hb hby at_128) rfl ?_
          show Steps p.tables e below (T59.setTop (mkF m 130 #[.val (.int p0), .val (.int p1), .val (.int (p0 &&& (3 : Int32))), .val (.int ((((p0).toUInt32 >>> ((2 : Int32) &&& 31).toUInt32).toInt32) &&& (7 : Int32))), .val (.double vd), .second, .val (.ref r3), .unset] [(.double vd)])) _
          refine XS.dconst1 X59.here hx rfl (hb hby at_130) (v := (4607182418800017408 : UInt64)) rfl ?_
          show Steps p.tables e below (T59.setTop (mkF m 131 #[.val (.int p0), .val (.int p1), .val (.int (p0 &&& (3 : Int32))), .val (.int ((((p0).toUInt32 >>> ((2 : Int32) &&& 31).toUInt32).toInt32) &&& (7 : Int32))), .val (.double vd), .second, .val (.ref r3), .unset] [(.double (4607182418800017408 : UInt64)), (.double vd)])) _
          refine XS.dcmpS X59.here hx rfl (hb hby at_131) rfl rfl ?_
          exact zk
        have R61 : ∀ zt, Steps p.tables e below (T59.setTop (mkF m 149 #[.val (.int p0), .val (.int p1), .val (.int (p0 &&& (3 : Int32))), .val (.int ((((p0).toUInt32 >>> ((2 : Int32) &&& 31).toUInt32).toInt32) &&& (7 : Int32))), .val (.double vd), .second, .val (.ref r3), .unset] [(.int (if (cmpValue (FP.dcmp vd (4607182418800017408 : UInt64)) .l) < (0 : Int32) then (0 : Int32) else (if (0 : Int32) < (cmpValue (FP.dcmp vd (4746794007244308480 : UInt64)) .g) then (0 : Int32) else (1 : Int32)) : Int32))])) zt → Steps p.tables e below (s₁.setTop (entryFrame m #[(.int p0), (.int p1)] maxLocals)) zt := by
          by_cases hc62 : (cmpValue (FP.dcmp vd (4607182418800017408 : UInt64)) .l) < (0 : Int32)
          ·
            skip
            have R63 : ∀ zt, Steps p.tables e below (T59.setTop (mkF m 149 #[.val (.int p0), .val (.int p1), .val (.int (p0 &&& (3 : Int32))), .val (.int ((((p0).toUInt32 >>> ((2 : Int32) &&& 31).toUInt32).toInt32) &&& (7 : Int32))), .val (.double vd), .second, .val (.ref r3), .unset] [(.int (0 : Int32))])) zt → Steps p.tables e below (s₁.setTop (entryFrame m #[(.int p0), (.int p1)] maxLocals)) zt := by
              intro zt zk
              refine R60 zt ?_
              show Steps p.tables e below (T59.setTop (mkF m 132 #[.val (.int p0), .val (.int p1), .val (.int (p0 &&& (3 : Int32))), .val (.int ((((p0).toUInt32 >>> ((2 : Int32) &&& 31).toUInt32).toInt32) &&& (7 : Int32))), .val (.double vd), .second, .val (.ref r3), .unset] [(.int (cmpValue (FP.dcmp vd (4607182418800017408 : UInt64)) .l))])) _
              refine XS.ifYes X59.here hx rfl (pc0 := 132) (pc' := 148) rfl (hb hby at_132) rfl ((if0 _ _).trans (tlt hc62).1) (by decide) (by decide) ?_
              show Steps p.tables e below (T59.setTop (mkF m 148 #[.val (.int p0), .val (.int p1), .val (.int (p0 &&& (3 : Int32))), .val (.int ((((p0).toUInt32 >>> ((2 : Int32) &&& 31).toUInt32).toInt32) &&& (7 : Int32))), .val (.double vd), .second, .val (.ref r3), .unset] [])) _
              refine XS.iconst X59.here hx rfl (hb hby at_148) ?_
              exact zk
            refine fun zt zk => R63 zt ?_
            have q64 : (if (cmpValue (FP.dcmp vd (4607182418800017408 : UInt64)) .l) < (0 : Int32) then (0 : Int32) else (if (0 : Int32) < (cmpValue (FP.dcmp vd (4746794007244308480 : UInt64)) .g) then (0 : Int32) else (1 : Int32)) : Int32) = (0 : Int32) := (if_pos hc62)
            rw [q64] at zk
            try rw [q64]
            exact zk
          ·
            skip
            have R66 : ∀ zt, Steps p.tables e below (T59.setTop (mkF m 141 #[.val (.int p0), .val (.int p1), .val (.int (p0 &&& (3 : Int32))), .val (.int ((((p0).toUInt32 >>> ((2 : Int32) &&& 31).toUInt32).toInt32) &&& (7 : Int32))), .val (.double vd), .second, .val (.ref r3), .unset] [(.int (cmpValue (FP.dcmp vd (4746794007244308480 : UInt64)) .g))])) zt → Steps p.tables e below (s₁.setTop (entryFrame m #[(.int p0), (.int p1)] maxLocals)) zt := by
              intro zt zk
              refine R60 zt ?_
              show Steps p.tables e below (T59.setTop (mkF m 132 #[.val (.int p0), .val (.int p1), .val (.int (p0 &&& (3 : Int32))), .val (.int ((((p0).toUInt32 >>> ((2 : Int32) &&& 31).toUInt32).toInt32) &&& (7 : Int32))), .val (.double vd), .second, .val (.ref r3), .unset] [(.int (cmpValue (FP.dcmp vd (4607182418800017408 : UInt64)) .l))])) _
              refine XS.ifNo X59.here hx rfl (hb hby at_132) rfl ((if0 _ _).trans (flt hc62).1) ?_
              show Steps p.tables e below (T59.setTop (mkF m 135 #[.val (.int p0), .val (.int p1), .val (.int (p0 &&& (3 : Int32))), .val (.int ((((p0).toUInt32 >>> ((2 : Int32) &&& 31).toUInt32).toInt32) &&& (7 : Int32))), .val (.double vd), .second, .val (.ref r3), .unset] [])) _
              refine XS.dload X59.here hx rfl (hb hby at_135) rfl ?_
              show Steps p.tables e below (T59.setTop (mkF m 137 #[.val (.int p0), .val (.int p1), .val (.int (p0 &&& (3 : Int32))), .val (.int ((((p0).toUInt32 >>> ((2 : Int32) &&& 31).toUInt32).toInt32) &&& (7 : Int32))), .val (.double vd), .second, .val (.ref r3), .unset] [(.double vd)])) _
              refine X59.ldc2DoubleC hx hown (mvT hZ (hw _ (List.mem_of_getElem? (i := 24) rfl))) (g := (mkF m 137 #[.val (.int p0), .val (.int p1), .val (.int (p0 &&& (3 : Int32))), .val (.int ((((p0).toUInt32 >>> ((2 : Int32) &&& 31).toUInt32).toInt32) &&& (7 : Int32))), .val (.double vd), .second, .val (.ref r3), .unset] [(.double vd)])) rfl (hb hby at_137) _ ?_
              show Steps p.tables e below (T59.setTop (mkF m 140 #[.val (.int p0), .val (.int p1), .val (.int (p0 &&& (3 : Int32))), .val (.int ((((p0).toUInt32 >>> ((2 : Int32) &&& 31).toUInt32).toInt32) &&& (7 : Int32))), .val (.double vd), .second, .val (.ref r3), .unset] [(.double (4746794007244308480 : UInt64)), (.double vd)])) _
              refine XS.dcmpS X59.here hx rfl (hb hby at_140) rfl rfl ?_
              exact zk
            by_cases hc65 : (0 : Int32) < (cmpValue (FP.dcmp vd (4746794007244308480 : UInt64)) .g)
            ·
              skip
              have R67 : ∀ zt, Steps p.tables e below (T59.setTop (mkF m 149 #[.val (.int p0), .val (.int p1), .val (.int (p0 &&& (3 : Int32))), .val (.int ((((p0).toUInt32 >>> ((2 : Int32) &&& 31).toUInt32).toInt32) &&& (7 : Int32))), .val (.double vd), .second, .val (.ref r3), .unset] [(.int (0 : Int32))])) zt → Steps p.tables e below (s₁.setTop (entryFrame m #[(.int p0), (.int p1)] maxLocals)) zt := by
                intro zt zk
                refine R66 zt ?_
                show Steps p.tables e below (T59.setTop (mkF m 141 #[.val (.int p0), .val (.int p1), .val (.int (p0 &&& (3 : Int32))), .val (.int ((((p0).toUInt32 >>> ((2 : Int32) &&& 31).toUInt32).toInt32) &&& (7 : Int32))), .val (.double vd), .second, .val (.ref r3), .unset] [(.int (cmpValue (FP.dcmp vd (4746794007244308480 : UInt64)) .g))])) _
                refine XS.ifYes X59.here hx rfl (pc0 := 141) (pc' := 148) rfl (hb hby at_141) rfl ((if0 _ _).trans (tlt hc65).2.2.1) (by decide) (by decide) ?_
                show Steps p.tables e below (T59.setTop (mkF m 148 #[.val (.int p0), .val (.int p1), .val (.int (p0 &&& (3 : Int32))), .val (.int ((((p0).toUInt32 >>> ((2 : Int32) &&& 31).toUInt32).toInt32) &&& (7 : Int32))), .val (.double vd), .second, .val (.ref r3), .unset] [])) _
                refine XS.iconst X59.here hx rfl (hb hby at_148) ?_
                exact zk
              refine fun zt zk => R67 zt ?_
              have q68 : (if (cmpValue (FP.dcmp vd (4607182418800017408 : UInt64)) .l) < (0 : Int32) then (0 : Int32) else (if (0 : Int32) < (cmpValue (FP.dcmp vd (4746794007244308480 : UInt64)) .g) then (0 : Int32) else (1 : Int32)) : Int32) = (0 : Int32) := ((if_neg hc62).trans (if_pos hc65))
              rw [q68] at zk
              try rw [q68]
              exact zk
            ·
              skip
              have R69 : ∀ zt, Steps p.tables e below (T59.setTop (mkF m 149 #[.val (.int p0), .val (.int p1), .val (.int (p0 &&& (3 : Int32))), .val (.int ((((p0).toUInt32 >>> ((2 : Int32) &&& 31).toUInt32).toInt32) &&& (7 : Int32))), .val (.double vd), .second, .val (.ref r3), .unset] [(.int (1 : Int32))])) zt → Steps p.tables e below (s₁.setTop (entryFrame m #[(.int p0), (.int p1)] maxLocals)) zt := by
                intro zt zk
                refine R66 zt ?_
                show Steps p.tables e below (T59.setTop (mkF m 141 #[.val (.int p0), .val (.int p1), .val (.int (p0 &&& (3 : Int32))), .val (.int ((((p0).toUInt32 >>> ((2 : Int32) &&& 31).toUInt32).toInt32) &&& (7 : Int32))), .val (.double vd), .second, .val (.ref r3), .unset] [(.int (cmpValue (FP.dcmp vd (4746794007244308480 : UInt64)) .g))])) _
                refine XS.ifNo X59.here hx rfl (hb hby at_141) rfl ((if0 _ _).trans (flt hc65).2.2.1) ?_
                show Steps p.tables e below (T59.setTop (mkF m 144 #[.val (.int p0), .val (.int p1), .val (.int (p0 &&& (3 : Int32))), .val (.int ((((p0).toUInt32 >>> ((2 : Int32) &&& 31).toUInt32).toInt32) &&& (7 : Int32))), .val (.double vd), .second, .val (.ref r3), .unset] [])) _
                refine XS.iconst X59.here hx rfl (hb hby at_144) ?_
                show Steps p.tables e below (T59.setTop (mkF m 145 #[.val (.int p0), .val (.int p1), .val (.int (p0 &&& (3 : Int32))), .val (.int ((((p0).toUInt32 >>> ((2 : Int32) &&& 31).toUInt32).toInt32) &&& (7 : Int32))), .val (.double vd), .second, .val (.ref r3), .unset] [(.int (1 : Int32))])) _
                refine XS.goto X59.here hx rfl (pc0 := 145) (pc' := 149) rfl (hb hby at_145) (by decide) (by decide) ?_
                exact zk
              refine fun zt zk => R69 zt ?_
              have q70 : (if (cmpValue (FP.dcmp vd (4607182418800017408 : UInt64)) .l) < (0 : Int32) then (0 : Int32) else (if (0 : Int32) < (cmpValue (FP.dcmp vd (4746794007244308480 : UInt64)) .g) then (0 : Int32) else (1 : Int32)) : Int32) = (1 : Int32) := ((if_neg hc62).trans (if_neg hc65))
              rw [q70] at zk
              try rw [q70]
              exact zk
        have R71 : ∀ zt, Steps p.tables e below (T59.setTop (mkF m 155 #[.val (.int p0), .val (.int p1), .val (.int (p0 &&& (3 : Int32))), .val (.int ((((p0).toUInt32 >>> ((2 : Int32) &&& 31).toUInt32).toInt32) &&& (7 : Int32))), .val (.double vd), .second, .val (.ref r3), .val (.int (if (cmpValue (FP.dcmp vd (4607182418800017408 : UInt64)) .l) < (0 : Int32) then (0 : Int32) else (if (0 : Int32) < (cmpValue (FP.dcmp vd (4746794007244308480 : UInt64)) .g) then (0 : Int32) else (1 : Int32)) : Int32))] [(.double vd), (.ref r3)])) zt → Steps p.tables e below (s₁.setTop (entryFrame m #[(.int p0), (.int p1)] maxLocals)) zt := by
          intro zt zk
          refine R61 zt ?_
          show Steps p.tables e below (T59.setTop (mkF m 149 #[.val (.int p0), .val (.int p1), .val (.int (p0 &&& (3 : Int32))), .val (.int ((((p0).toUInt32 >>> ((2 : Int32) &&& 31).toUInt32).toInt32) &&& (7 : Int32))), .val (.double vd), .second, .val (.ref r3), .unset] [(.int (if (cmpValue (FP.dcmp vd (4607182418800017408 : UInt64)) .l) < (0 : Int32) then (0 : Int32) else (if (0 : Int32) < (cmpValue (FP.dcmp vd (4746794007244308480 : UInt64)) .g) then (0 : Int32) else (1 : Int32)) : Int32))])) _
          refine XS.istore X59.here hx rfl (hb hby at_149) rfl (l' := #[.val (.int p0), .val (.int p1), .val (.int (p0 &&& (3 : Int32))), .val (.int ((((p0).toUInt32 >>> ((2 : Int32) &&& 31).toUInt32).toInt32) &&& (7 : Int32))), .val (.double vd), .second, .val (.ref r3), .val (.int (if (cmpValue (FP.dcmp vd (4607182418800017408 : UInt64)) .l) < (0 : Int32) then (0 : Int32) else (if (0 : Int32) < (cmpValue (FP.dcmp vd (4746794007244308480 : UInt64)) .g) then (0 : Int32) else (1 : Int32)) : Int32))]) rfl ?_
          show Steps p.tables e below (T59.setTop (mkF m 151 #[.val (.int p0), .val (.int p1), .val (.int (p0 &&& (3 : Int32))), .val (.int ((((p0).toUInt32 >>> ((2 : Int32) &&& 31).toUInt32).toInt32) &&& (7 : Int32))), .val (.double vd), .second, .val (.ref r3), .val (.int (if (cmpValue (FP.dcmp vd (4607182418800017408 : UInt64)) .l) < (0 : Int32) then (0 : Int32) else (if (0 : Int32) < (cmpValue (FP.dcmp vd (4746794007244308480 : UInt64)) .g) then (0 : Int32) else (1 : Int32)) : Int32))] [])) _
          refine XS.aload X59.here hx rfl (hb hby at_151) rfl rfl ?_
          show Steps p.tables e below (T59.setTop (mkF m 153 #[.val (.int p0), .val (.int p1), .val (.int (p0 &&& (3 : Int32))), .val (.int ((((p0).toUInt32 >>> ((2 : Int32) &&& 31).toUInt32).toInt32) &&& (7 : Int32))), .val (.double vd), .second, .val (.ref r3), .val (.int (if (cmpValue (FP.dcmp vd (4607182418800017408 : UInt64)) .l) < (0 : Int32) then (0 : Int32) else (if (0 : Int32) < (cmpValue (FP.dcmp vd (4746794007244308480 : UInt64)) .g) then (0 : Int32) else (1 : Int32)) : Int32))] [(.ref r3)])) _
          refine XS.dload X59.here hx rfl (hb hby at_153) rfl ?_
          exact zk
        obtain ⟨cq72, kq72, q72a, q72b, q72c⟩ := isOf hZ e59 E_r3
        obtain ⟨_, _, ⟨T72, L72, k72, n72⟩, -, X72, ⟨Lc72, hQ72, l72, y72, z72⟩, st72⟩ := X59.virtualBack hx (y := (⟨"com/example/latchmeter/latchmeter/analysis/Parameter$Range", "contains", "(D)Z"⟩ : MethodName)) (z := (⟨"com/example/latchmeter/latchmeter/analysis/Parameter$Range", "contains", "(D)Z"⟩ : MethodName)) hown (mvT hZ (hw _ (List.mem_of_getElem? (i := 8) rfl))) (mvT hZ (hw _ (List.mem_of_getElem? (i := 9) rfl))) (notFace_of_selects (args := #[]) (mvT hZ (hw _ (List.mem_of_getElem? (i := 11) rfl)))) (mvT hZ (hw _ (List.mem_of_getElem? (i := 11) rfl))) (mvT hZ (hw _ (List.mem_of_getElem? (i := 10) rfl))) (by decide) (backOf (W := 0) (rm2 l Z a0 hw [] r3 vd (4607182418800017408 : UInt64) (4746794007244308480 : UInt64) h0 n0 Z0 L_r3 M_r3) hZ (hw _ (List.mem_of_getElem? (i := 12) rfl)) (hw _ (List.mem_of_getElem? (i := 5) rfl)) (by decide) (by decide)) q72a q72c (g := (mkF m 155 #[.val (.int p0), .val (.int p1), .val (.int (p0 &&& (3 : Int32))), .val (.int ((((p0).toUInt32 >>> ((2 : Int32) &&& 31).toUInt32).toInt32) &&& (7 : Int32))), .val (.double vd), .second, .val (.ref r3), .val (.int (if (cmpValue (FP.dcmp vd (4607182418800017408 : UInt64)) .l) < (0 : Int32) then (0 : Int32) else (if (0 : Int32) < (cmpValue (FP.dcmp vd (4746794007244308480 : UInt64)) .g) then (0 : Int32) else (1 : Int32)) : Int32))] [(.double vd), (.ref r3)])) rfl (by rw [hml]; rfl) (Steps.refl _) (argsL := [(.double vd)]) (rest := []) (lenOf pd_1 rfl) rfl (by show 2 * 0 + _ ≤ _; exact Nat.le_of_eq rfl) (hb hby at_155) (fun _ _ => ⟨rfl, e59, (by decide : 0 + 0 ≤ _), (by decide : 0 + 0 ≤ _)⟩)
        dsimp only [Pt.U, Pt.locs, Pt.cells, Pt.slots] at X72 l72 y72 z72 st72 hQ72
        rw [y72, z72] at X72
        have X72 : Stand p l e room_1 s m #[(.int p0), (.int p1)] below meth c T72 L72 0 0 := X72
        obtain ⟨rfl, Nq72, eq72⟩ := hQ72
        have N72 : Fr n0 L72 := by rw [l72]; exact Fr.app N2 Nq72
        clear l72 y72 z72
        have e72 : T72.heap = h0 := eq72
        have R73 : ∀ zt, Steps p.tables e below (T72.setTop (mkF m 168 #[.val (.int p0), .val (.int p1), .val (.int (p0 &&& (3 : Int32))), .val (.int ((((p0).toUInt32 >>> ((2 : Int32) &&& 31).toUInt32).toInt32) &&& (7 : Int32))), .val (.double vd), .second, .val (.ref r3), .val (.int (if (cmpValue (FP.dcmp vd (4607182418800017408 : UInt64)) .l) < (0 : Int32) then (0 : Int32) else (if (0 : Int32) < (cmpValue (FP.dcmp vd (4746794007244308480 : UInt64)) .g) then (0 : Int32) else (1 : Int32)) : Int32))] [(.int (1 : Int32))])) zt → Steps p.tables e below (s₁.setTop (entryFrame m #[(.int p0), (.int p1)] maxLocals)) zt := by
          intro zt zk
          refine R71 zt ?_
          show Steps p.tables e below (T59.setTop (mkF m 155 #[.val (.int p0), .val (.int p1), .val (.int (p0 &&& (3 : Int32))), .val (.int ((((p0).toUInt32 >>> ((2 : Int32) &&& 31).toUInt32).toInt32) &&& (7 : Int32))), .val (.double vd), .second, .val (.ref r3), .val (.int (if (cmpValue (FP.dcmp vd (4607182418800017408 : UInt64)) .l) < (0 : Int32) then (0 : Int32) else (if (0 : Int32) < (cmpValue (FP.dcmp vd (4746794007244308480 : UInt64)) .g) then (0 : Int32) else (1 : Int32)) : Int32))] [(.double vd), (.ref r3)])) _
          refine st72.trans ?_
          show Steps p.tables e below (T72.setTop (mkF m 158 #[.val (.int p0), .val (.int p1), .val (.int (p0 &&& (3 : Int32))), .val (.int ((((p0).toUInt32 >>> ((2 : Int32) &&& 31).toUInt32).toInt32) &&& (7 : Int32))), .val (.double vd), .second, .val (.ref r3), .val (.int (if (cmpValue (FP.dcmp vd (4607182418800017408 : UInt64)) .l) < (0 : Int32) then (0 : Int32) else (if (0 : Int32) < (cmpValue (FP.dcmp vd (4746794007244308480 : UInt64)) .g) then (0 : Int32) else (1 : Int32)) : Int32))] [(.int (own_in vd (4607182418800017408 : UInt64) (4746794007244308480 : UInt64)))])) _
          refine XS.iload X72.here hx rfl (hb hby at_158) rfl ?_
          show Steps p.tables e below (T72.setTop (mkF m 160 #[.val (.int p0), .val (.int p1), .val (.int (p0 &&& (3 : Int32))), .val (.int ((((p0).toUInt32 >>> ((2 : Int32) &&& 31).toUInt32).toInt32) &&& (7 : Int32))), .val (.double vd), .second, .val (.ref r3), .val (.int (if (cmpValue (FP.dcmp vd (4607182418800017408 : UInt64)) .l) < (0 : Int32) then (0 : Int32) else (if (0 : Int32) < (cmpValue (FP.dcmp vd (4746794007244308480 : UInt64)) .g) then (0 : Int32) else (1 : Int32)) : Int32))] [(.int (if (cmpValue (FP.dcmp vd (4607182418800017408 : UInt64)) .l) < (0 : Int32) then (0 : Int32) else (if (0 : Int32) < (cmpValue (FP.dcmp vd (4746794007244308480 : UInt64)) .g) then (0 : Int32) else (1 : Int32)) : Int32)), (.int (own_in vd (4607182418800017408 : UInt64) (4746794007244308480 : UInt64)))])) _
          refine XS.icmpNo X72.here hx rfl (hb hby at_160) rfl (teq (rfl : own_in vd (4607182418800017408 : UInt64) (4746794007244308480 : UInt64) = (if (cmpValue (FP.dcmp vd (4607182418800017408 : UInt64)) .l) < (0 : Int32) then (0 : Int32) else (if (0 : Int32) < (cmpValue (FP.dcmp vd (4746794007244308480 : UInt64)) .g) then (0 : Int32) else (1 : Int32)) : Int32))).2 ?_
          show Steps p.tables e below (T72.setTop (mkF m 163 #[.val (.int p0), .val (.int p1), .val (.int (p0 &&& (3 : Int32))), .val (.int ((((p0).toUInt32 >>> ((2 : Int32) &&& 31).toUInt32).toInt32) &&& (7 : Int32))), .val (.double vd), .second, .val (.ref r3), .val (.int (if (cmpValue (FP.dcmp vd (4607182418800017408 : UInt64)) .l) < (0 : Int32) then (0 : Int32) else (if (0 : Int32) < (cmpValue (FP.dcmp vd (4746794007244308480 : UInt64)) .g) then (0 : Int32) else (1 : Int32)) : Int32))] [])) _
          refine XS.iconst X72.here hx rfl (hb hby at_163) ?_
          show Steps p.tables e below (T72.setTop (mkF m 164 #[.val (.int p0), .val (.int p1), .val (.int (p0 &&& (3 : Int32))), .val (.int ((((p0).toUInt32 >>> ((2 : Int32) &&& 31).toUInt32).toInt32) &&& (7 : Int32))), .val (.double vd), .second, .val (.ref r3), .val (.int (if (cmpValue (FP.dcmp vd (4607182418800017408 : UInt64)) .l) < (0 : Int32) then (0 : Int32) else (if (0 : Int32) < (cmpValue (FP.dcmp vd (4746794007244308480 : UInt64)) .g) then (0 : Int32) else (1 : Int32)) : Int32))] [(.int (1 : Int32))])) _
          refine XS.goto X72.here hx rfl (pc0 := 164) (pc' := 168) rfl (hb hby at_164) (by decide) (by decide) ?_
          exact zk
        obtain ⟨fs, hr, hrun, hended, hW, hsame⟩ := X72.leave (v := some (.int (1 : Int32))) (fun h => by rw [Bd.returns] at h; cases h)
        refine ⟨_, _, R73 _ ?_, hrun, hended, _, _, rfl, ?_, ⟨_, rfl⟩, hW, hsame.mono (by decide) (by decide)⟩
        · exact retN X72 hx (t := .boolean) Bd.returns (by simp) (hb hby at_168) hr
        · show Q0 Z p0 p1 r0 r1 r2 r3 h0 n0 _ T72.heap _
          rw [e72]
          exact ⟨rfl, N72⟩
set_option maxRecDepth 65536 in
set_option maxHeartbeats 40000000 in
theorem comes_1 {Post : Tables → Env → Array Value → State → Outcome → State → Prop} (hpost : ∀ tb e args s v u, (limb_1_1.after args s (.returned v) u = true ∧ limb_1_2.after args s (.returned v) u = true ∧ True) → FrameEnd s (.returned v) u (Jvm.fieldLocs frame_1_writes args s ++ Jvm.arrayLocs frame_1_arrays args s ++ Jvm.staticLocs frame_1_statics s) 0 0 → Post tb e args s (.returned v) u) :
    ArmFor flags0 classFile x code maxLocals ret World_1 tables_1 room_1 Calls_1 rest_1 Pre_1 Post := by
  intro l hfl _ _ p e ha hc hk s m args below hf hA hF happ hP
  obtain ⟨hcalls, hrest, hpre⟩ := hP
  obtain ⟨-, -, -, hnamed, -, -, -, hat⟩ := (Spec.applies_iff hf).mp happ
  obtain ⟨hg, hn⟩ := and_e (Cond.before_iff.mp (show (Jvm.Cond.and given_1 narrow_1).before args s = true from hpre))
  obtain ⟨hcount, hg0⟩ := and_e hg
  obtain ⟨hi0, hg1⟩ := and_e hg0
  have hi1 := hg1
  obtain ⟨w0, w1, rfl⟩ : ∃ w0 w1 : Value, args = #[w0, w1] := by
    have hs : args.size = 2 := by simpa [Cond.value, given_1] using hcount
    obtain ⟨L⟩ := args
    match L, hs with
    | [w0, w1], _ => exact ⟨w0, w1, rfl⟩
  have hw := fun d (hd : d ∈ tables_1) => atoms_spec (ws := Jvm.Cond.code x code maxLocals ret :: tables_1) hat d (List.mem_cons_of_mem _ hd)
  have hfit : Fit s := fun {y c} hc i hi => by
    obtain ⟨ha, rfl⟩ := Array.getElem?_eq_some_iff.mp hc
    have q := List.all_eq_true.mp ((Array.all_eq_true_iff_forall_mem.mp hF) _ (Array.getElem_mem ha)) i (List.mem_range.mpr hi)
    simpa [Array.getElem?_eq_getElem hi] using q
  obtain ⟨i0, ei0⟩ := is_v hi0
  obtain rfl : w0 = (.int i0) := Option.some.inj ei0
  obtain ⟨i1, ei1⟩ := is_v hi1
  obtain rfl : w1 = (.int i1) := Option.some.inj ei1
  obtain ⟨hz0, hy0⟩ := and_e hn
  obtain ⟨hz1, hy1⟩ := and_e hy0
  obtain ⟨hz2, hy2⟩ := and_e hy1
  obtain ⟨hz3, hy3⟩ := and_e hy2
  obtain ⟨hz4, hy4⟩ := and_e hy3
  obtain ⟨hz5, hy5⟩ := and_e hy4
  obtain ⟨hz6, hy6⟩ := and_e hy5
  obtain ⟨hz7, hy7⟩ := and_e hy6
  obtain ⟨hz8, hy8⟩ := and_e hy7
  obtain ⟨hz9, hy9⟩ := and_e hy8
  obtain ⟨hz10, hy10⟩ := and_e hy9
  obtain ⟨a_ABOVE_ZERO, ev_ABOVE_ZERO⟩ := exa_v hz0
  have S_ABOVE_ZERO : Sta s s.heap "com/example/latchmeter/latchmeter/analysis/Parameter$Range" "ABOVE_ZERO" "Lcom/example/latchmeter/latchmeter/analysis/Parameter$Range;" (.ref a_ABOVE_ZERO) := Sta.start ev_ABOVE_ZERO (Or.inr ⟨(hw _ (List.mem_of_getElem? (i := 5) rfl)), (hw _ (List.mem_of_getElem? (i := 6) rfl))⟩)
  have E_ABOVE_ZERO : Exa s s.heap a_ABOVE_ZERO "com/example/latchmeter/latchmeter/analysis/Parameter$Range" := Exa.start ev_ABOVE_ZERO hz0
  have F_ABOVE_ZERO_least : Fld s s.heap a_ABOVE_ZERO "com/example/latchmeter/latchmeter/analysis/Parameter$Range" "least" "D" (.double (1 : UInt64)) := Fld.start ((fld_at ev_ABOVE_ZERO).symm.trans (own_dbl rfl hz1))
  have F_ABOVE_ZERO_most : Fld s s.heap a_ABOVE_ZERO "com/example/latchmeter/latchmeter/analysis/Parameter$Range" "most" "D" (.double (9218868437227405311 : UInt64)) := Fld.start ((fld_at ev_ABOVE_ZERO).symm.trans (own_dbl rfl hz2))
  obtain ⟨a_FRACTION, ev_FRACTION⟩ := exa_v hz3
  have S_FRACTION : Sta s s.heap "com/example/latchmeter/latchmeter/analysis/Parameter$Range" "FRACTION" "Lcom/example/latchmeter/latchmeter/analysis/Parameter$Range;" (.ref a_FRACTION) := Sta.start ev_FRACTION (Or.inr ⟨(hw _ (List.mem_of_getElem? (i := 5) rfl)), (hw _ (List.mem_of_getElem? (i := 18) rfl))⟩)
  have E_FRACTION : Exa s s.heap a_FRACTION "com/example/latchmeter/latchmeter/analysis/Parameter$Range" := Exa.start ev_FRACTION hz3
  have F_FRACTION_least : Fld s s.heap a_FRACTION "com/example/latchmeter/latchmeter/analysis/Parameter$Range" "least" "D" (.double (0 : UInt64)) := Fld.start ((fld_at ev_FRACTION).symm.trans (own_dbl rfl hz4))
  have F_FRACTION_most : Fld s s.heap a_FRACTION "com/example/latchmeter/latchmeter/analysis/Parameter$Range" "most" "D" (.double (4607182418800017408 : UInt64)) := Fld.start ((fld_at ev_FRACTION).symm.trans (own_dbl rfl hz5))
  obtain ⟨a_NOT_NEGATIVE, ev_NOT_NEGATIVE⟩ := exa_v hz6
  have S_NOT_NEGATIVE : Sta s s.heap "com/example/latchmeter/latchmeter/analysis/Parameter$Range" "NOT_NEGATIVE" "Lcom/example/latchmeter/latchmeter/analysis/Parameter$Range;" (.ref a_NOT_NEGATIVE) := Sta.start ev_NOT_NEGATIVE (Or.inr ⟨(hw _ (List.mem_of_getElem? (i := 5) rfl)), (hw _ (List.mem_of_getElem? (i := 20) rfl))⟩)
  have E_NOT_NEGATIVE : Exa s s.heap a_NOT_NEGATIVE "com/example/latchmeter/latchmeter/analysis/Parameter$Range" := Exa.start ev_NOT_NEGATIVE hz6
  have F_NOT_NEGATIVE_least : Fld s s.heap a_NOT_NEGATIVE "com/example/latchmeter/latchmeter/analysis/Parameter$Range" "least" "D" (.double (0 : UInt64)) := Fld.start ((fld_at ev_NOT_NEGATIVE).symm.trans (own_dbl rfl hz7))
  have F_NOT_NEGATIVE_most : Fld s s.heap a_NOT_NEGATIVE "com/example/latchmeter/latchmeter/analysis/Parameter$Range" "most" "D" (.double (9218868437227405311 : UInt64)) := Fld.start ((fld_at ev_NOT_NEGATIVE).symm.trans (own_dbl rfl hz8))
  obtain ⟨a_COUNT, ev_COUNT⟩ := exa_v hz9
  have S_COUNT : Sta s s.heap "com/example/latchmeter/latchmeter/analysis/Parameter$Range" "COUNT" "Lcom/example/latchmeter/latchmeter/analysis/Parameter$Range;" (.ref a_COUNT) := Sta.start ev_COUNT (Or.inr ⟨(hw _ (List.mem_of_getElem? (i := 5) rfl)), (hw _ (List.mem_of_getElem? (i := 23) rfl))⟩)
  have E_COUNT : Exa s s.heap a_COUNT "com/example/latchmeter/latchmeter/analysis/Parameter$Range" := Exa.start ev_COUNT hz9
  have F_COUNT_least : Fld s s.heap a_COUNT "com/example/latchmeter/latchmeter/analysis/Parameter$Range" "least" "D" (.double (4607182418800017408 : UInt64)) := Fld.start ((fld_at ev_COUNT).symm.trans (own_dbl rfl hz10))
  have F_COUNT_most : Fld s s.heap a_COUNT "com/example/latchmeter/latchmeter/analysis/Parameter$Range" "most" "D" (.double (4746794007244308480 : UInt64)) := Fld.start ((fld_at ev_COUNT).symm.trans (own_dbl rfl hy10))
  obtain ⟨n, o, h1, h2, h3, _, L, rfl, ⟨rfl, N⟩, hq⟩ := rm0 l s _ hw tables_1 i0 i1 a_ABOVE_ZERO a_NOT_NEGATIVE a_FRACTION a_COUNT s.heap s.heap.size (Nat.le_refl _) S_ABOVE_ZERO E_ABOVE_ZERO F_ABOVE_ZERO_least F_ABOVE_ZERO_most S_NOT_NEGATIVE E_NOT_NEGATIVE F_NOT_NEGATIVE_least F_NOT_NEGATIVE_most S_FRACTION E_FRACTION F_FRACTION_least F_FRACTION_most S_COUNT E_COUNT F_COUNT_least F_COUNT_most p e ha hc hk s m _ below hf ((Spec.applies_iff_loose hf).mp happ).1 ⟨rfl, State.Warmed39.refl s, rfl⟩ trivial
  refine ⟨n, _, h1, h2, h3, hpost _ _ _ _ _ _ ⟨Cond.after_iff.mpr rfl, Cond.after_iff.mpr (eq_i res_at (Term.int_eval (1)) rfl), trivial⟩ ⟨hq.1, hq.2.1, (hq.2.2.sift fun y hy => Or.inr (N y hy)).mono (by decide) (by decide)⟩⟩
theorem main_1_1 : Claimed_1_1 := comes_1 fun _ _ _ _ _ _ h hF => ⟨h.1, hF⟩
theorem main_1_2 : Claimed_1_2 := comes_1 fun _ _ _ _ _ _ h hF => ⟨h.2.1, hF⟩
end Jvm.Pilot.@@N@@

namespace Jvm.Pilot.@@N@@
open Jvm Jvm.ClassFile Sem Op Lib Jvm.Free Jvm.Stand Jvm.Pilot.@@N@@.Jvm.D
/-! MADE BY PROGRAM (witnessworld.py) out of the Statement's table words and the real class files: 12 classes; the members and pool entries that the words name. The judged class is class 1, her method 1. -/
namespace start1
open Jvm.ClassFile
def u (s : String) : CpInfo := .utf8 (stringToUtf16 s)
/-- a pool by its gaps: so many unusable entries, then the entry; so many at the end -/
def gap : Nat → List CpInfo → List CpInfo
  | 0, r => r
  | n + 1, r => .unusable :: gap n r
def poolList (es : List (Nat × CpInfo)) (last : Nat) : List CpInfo := es.foldr (fun e r => gap e.1 (e.2 :: r)) (gap last [])
def pool (es : List (Nat × CpInfo)) (last : Nat) : Array CpInfo := ⟨poolList es last⟩
def fileOf (pool : Array CpInfo) (this : Nat) (attrs : Array Attribute := #[]) (ms : Array MethodInfo := #[]) (fl : Nat := 33) (sup : Nat := 0) (ifs : Array Nat := #[]) (fds : Array FieldInfo := #[]) : ClassFile where
  minorVersion := 0
  majorVersion := 65
  constantPool := pool
  accessFlags := fl
  thisClass := this
  superClass := sup
  interfaces := ifs
  fields := fds
  methods := ms
  attributes := attrs
def plain (name : String) (sup : Option ClassId) : Class where
  name := name
  kind := .ordinary
  loader := none
  accessFlags := 33
  super := sup
  interfaces := #[]
  cf := none
  fields := #[]
  methods := #[]
  instanceTypes := #[]
  staticTypes := #[]
  resolved := #[]
  callSites := []
  init := .initialized
  statics := none
  mirror := none

def pool0 : Array CpInfo := pool [(5, u "<init>"), (0, u "()V"), (1, .class_ 10), (1, u "java/lang/Object")] 113

def k0m0 : Method := { name := "<init>", desc := "()V", sig := { parameters := [], returnType := none }, accessFlags := 1, code := none }
/-- java/lang/Object -/
def k0 : Class := { plain "java/lang/Object" none with
  accessFlags := 33
  interfaces := #[]
  cf := some (fileOf pool0 8 #[] #[{ accessFlags := 1, nameIndex := 5, descriptorIndex := 6, attributes := #[] }] 33 0 #[] #[])
  fields := #[]
  methods := #[k0m0]
  instanceTypes := #[]
  staticTypes := #[]
  resolved := Array.replicate 124 none
  statics := none }

def pool1 : Array CpInfo := pool [(2, .class_ 4), (1, u "java/lang/Object"), (0, u "<init>"), (0, u "()V"), (0, .methodref 8 9), (0, .class_ 10), (0, .nameAndType 11 12), (0, u "com/example/latchmeter/latchmeter/analysis/RangeContainsPinLaw"), (0, u "value"), (0, u "(II)D"), (0, .fieldref 14 15), (0, .class_ 16), (0, .nameAndType 17 18), (0, u "com/example/latchmeter/latchmeter/analysis/Parameter$Range"), (0, u "ABOVE_ZERO"), (0, u "Lcom/example/latchmeter/latchmeter/analysis/Parameter$Range;"), (2, .double 9218868437227405312), (1, .fieldref 14 24), (0, .nameAndType 25 18), (0, u "NOT_NEGATIVE"), (0, .fieldref 14 27), (0, .nameAndType 28 18), (0, u "FRACTION"), (0, .fieldref 14 30), (0, .nameAndType 31 18), (0, u "COUNT"), (0, .double 4746794007244308480), (1, .methodref 14 35), (0, .nameAndType 36 37), (0, u "contains"), (0, u "(D)Z"), (0, .double 9223372036854775809), (1, .double 1), (1, .double 18442240474082181119), (1, .double 9218868437227405311), (1, .double 18442240474082181120), (1, .double 9223372036854775808), (1, .double 4746794007248502784), (1, .double 4746794007246405632), (1, .double 4607182418800017409), (3, u "law"), (0, u "(II)Z")] 7

def k1m0 : Method := { name := "<init>", desc := "()V", sig := { parameters := [], returnType := none }, accessFlags := 1, code := none }
def k1c1 : Code := { maxStack := 4, maxLocals := 8, code := code, exceptionTable := #[], attributes := #[] }
def k1m1 : Method := { name := "law", desc := "(II)Z", sig := { parameters := [.int, .int], returnType := some .boolean }, accessFlags := 9, code := some k1c1 }
def k1c2 : Code := { maxStack := 4, maxLocals := 4, code := method_3_code, exceptionTable := #[], attributes := #[] }
def k1m2 : Method := { name := "value", desc := "(II)D", sig := { parameters := [.int, .int], returnType := some .double }, accessFlags := 10, code := some k1c2 }
/-- com/example/latchmeter/latchmeter/analysis/RangeContainsPinLaw -/
def k1 : Class := { plain "com/example/latchmeter/latchmeter/analysis/RangeContainsPinLaw" (some 0) with
  accessFlags := 49
  interfaces := #[]
  cf := some (fileOf pool1 8 #[] #[{ accessFlags := 1, nameIndex := 5, descriptorIndex := 6, attributes := #[] }, { accessFlags := 9, nameIndex := 58, descriptorIndex := 59, attributes := #[] }, { accessFlags := 10, nameIndex := 11, descriptorIndex := 12, attributes := #[] }] 49 2 #[] #[])
  fields := #[]
  methods := #[k1m0, k1m1, k1m2]
  instanceTypes := #[]
  staticTypes := #[]
  resolved := Array.replicate 67 none
  statics := none }

def pool2 : Array CpInfo := pool [(1, .class_ 2), (0, u "java/lang/constant/Constable"), (0, .class_ 4), (0, u "java/lang/Object")] 6

/-- java/lang/constant/Constable -/
def k2 : Class := { plain "java/lang/constant/Constable" (some 0) with
  accessFlags := 1537
  interfaces := #[]
  cf := some (fileOf pool2 1 #[] #[] 1537 3 #[] #[])
  fields := #[]
  methods := #[]
  instanceTypes := #[]
  staticTypes := #[]
  resolved := Array.replicate 11 none
  statics := none }

def pool3 : Array CpInfo := pool [(1, .class_ 2), (0, u "java/lang/Comparable"), (0, .class_ 4), (0, u "java/lang/Object")] 7

/-- java/lang/Comparable -/
def k3 : Class := { plain "java/lang/Comparable" (some 0) with
  accessFlags := 1537
  interfaces := #[]
  cf := some (fileOf pool3 1 #[] #[] 1537 3 #[] #[])
  fields := #[]
  methods := #[]
  instanceTypes := #[]
  staticTypes := #[]
  resolved := Array.replicate 12 none
  statics := none }

def pool4 : Array CpInfo := pool [(1, .class_ 2), (0, u "java/io/Serializable"), (0, .class_ 4), (0, u "java/lang/Object")] 2

/-- java/io/Serializable -/
def k4 : Class := { plain "java/io/Serializable" (some 0) with
  accessFlags := 1537
  interfaces := #[]
  cf := some (fileOf pool4 1 #[] #[] 1537 3 #[] #[])
  fields := #[]
  methods := #[]
  instanceTypes := #[]
  staticTypes := #[]
  resolved := Array.replicate 7 none
  statics := none }

def pool5 : Array CpInfo := pool [(2, .class_ 4), (1, u "java/lang/Enum"), (0, u "name"), (0, u "Ljava/lang/String;"), (2, u "ordinal"), (0, u "I"), (1, .class_ 14), (1, u "java/lang/Object"), (4, u "hash"), (86, .class_ 108), (1, u "java/lang/Enum$EnumDesc"), (2, .class_ 112), (0, u "java/lang/constant/Constable"), (0, .class_ 114), (0, u "java/lang/Comparable"), (0, .class_ 116), (0, u "java/io/Serializable")] 87

/-- java/lang/Enum -/
def k5 : Class := { plain "java/lang/Enum" (some 0) with
  accessFlags := 1057
  interfaces := #[2, 3, 4]
  cf := some (fileOf pool5 2 #[.nestMembers #[106]] #[] 1057 12 #[111, 113, 115] #[{ accessFlags := 18, nameIndex := 5, descriptorIndex := 6, attributes := #[] }, { accessFlags := 18, nameIndex := 9, descriptorIndex := 10, attributes := #[] }, { accessFlags := 2, nameIndex := 19, descriptorIndex := 10, attributes := #[] }])
  fields := #[{ name := "name", type := (.object "java/lang/String"), accessFlags := 18, slot := 0, constantValue := 0 }, { name := "ordinal", type := .int, accessFlags := 18, slot := 1, constantValue := 0 }, { name := "hash", type := .int, accessFlags := 2, slot := 2, constantValue := 0 }]
  methods := #[]
  instanceTypes := #[(.object "java/lang/String"), .int, .int]
  staticTypes := #[]
  resolved := Array.replicate 204 none
  statics := none }

def pool6 : Array CpInfo := pool [(1, .class_ 2), (0, u "com/example/latchmeter/latchmeter/analysis/Parameter$Range"), (2, u "ABOVE_ZERO"), (0, u "Lcom/example/latchmeter/latchmeter/analysis/Parameter$Range;"), (2, u "NOT_NEGATIVE"), (2, u "FRACTION"), (2, u "COUNT"), (2, u "$VALUES"), (0, u "[Lcom/example/latchmeter/latchmeter/analysis/Parameter$Range;"), (6, .class_ 28), (1, u "java/lang/Enum"), (6, .fieldref 1 36), (0, .nameAndType 37 38), (0, u "least"), (0, u "D"), (0, .fieldref 1 40), (0, .nameAndType 41 38), (0, u "most"), (2, u "words"), (0, u "Ljava/lang/String;"), (2, u "requirement"), (40, u "contains"), (0, u "(D)Z"), (10, .class_ 102), (0, u "com/example/latchmeter/latchmeter/analysis/Parameter")] 2

def k6c0 : Code := { maxStack := 4, maxLocals := 3, code := prog_8_method_4_code, exceptionTable := #[], attributes := #[] }
def k6m0 : Method := { name := "contains", desc := "(D)Z", sig := { parameters := [.double], returnType := some .boolean }, accessFlags := 1, code := some k6c0 }
/-- com/example/latchmeter/latchmeter/analysis/Parameter$Range -/
def k6 : Class := { plain "com/example/latchmeter/latchmeter/analysis/Parameter$Range" (some 5) with
  accessFlags := 16433
  interfaces := #[]
  cf := some (fileOf pool6 1 #[.nestHost 101] #[{ accessFlags := 1, nameIndex := 89, descriptorIndex := 90, attributes := #[] }] 16433 26 #[] #[{ accessFlags := 16409, nameIndex := 5, descriptorIndex := 6, attributes := #[] }, { accessFlags := 16409, nameIndex := 9, descriptorIndex := 6, attributes := #[] }, { accessFlags := 16409, nameIndex := 12, descriptorIndex := 6, attributes := #[] }, { accessFlags := 16409, nameIndex := 15, descriptorIndex := 6, attributes := #[] }, { accessFlags := 18, nameIndex := 37, descriptorIndex := 38, attributes := #[] }, { accessFlags := 18, nameIndex := 41, descriptorIndex := 38, attributes := #[] }, { accessFlags := 18, nameIndex := 44, descriptorIndex := 45, attributes := #[] }, { accessFlags := 18, nameIndex := 48, descriptorIndex := 45, attributes := #[] }, { accessFlags := 4122, nameIndex := 18, descriptorIndex := 19, attributes := #[] }])
  fields := #[{ name := "ABOVE_ZERO", type := (.object "com/example/latchmeter/latchmeter/analysis/Parameter$Range"), accessFlags := 16409, slot := 0, constantValue := 0 }, { name := "NOT_NEGATIVE", type := (.object "com/example/latchmeter/latchmeter/analysis/Parameter$Range"), accessFlags := 16409, slot := 1, constantValue := 0 }, { name := "FRACTION", type := (.object "com/example/latchmeter/latchmeter/analysis/Parameter$Range"), accessFlags := 16409, slot := 2, constantValue := 0 }, { name := "COUNT", type := (.object "com/example/latchmeter/latchmeter/analysis/Parameter$Range"), accessFlags := 16409, slot := 3, constantValue := 0 }, { name := "least", type := .double, accessFlags := 18, slot := 3, constantValue := 0 }, { name := "most", type := .double, accessFlags := 18, slot := 4, constantValue := 0 }, { name := "words", type := (.object "java/lang/String"), accessFlags := 18, slot := 5, constantValue := 0 }, { name := "requirement", type := (.object "java/lang/String"), accessFlags := 18, slot := 6, constantValue := 0 }, { name := "$VALUES", type := (.array (.object "com/example/latchmeter/latchmeter/analysis/Parameter$Range")), accessFlags := 4122, slot := 4, constantValue := 0 }]
  methods := #[k6m0]
  instanceTypes := #[(.object "java/lang/String"), .int, .int, .double, .double, (.object "java/lang/String"), (.object "java/lang/String")]
  staticTypes := #[(.object "com/example/latchmeter/latchmeter/analysis/Parameter$Range"), (.object "com/example/latchmeter/latchmeter/analysis/Parameter$Range"), (.object "com/example/latchmeter/latchmeter/analysis/Parameter$Range"), (.object "com/example/latchmeter/latchmeter/analysis/Parameter$Range"), (.array (.object "com/example/latchmeter/latchmeter/analysis/Parameter$Range"))]
  resolved := Array.replicate 105 none
  statics := some 0 }

def pool7 : Array CpInfo := pool [(1, u "java/lang/Cloneable"), (0, .class_ 1), (0, u "java/lang/Object"), (0, .class_ 3)] 3

/-- java/lang/Cloneable -/
def k7 : Class := { plain "java/lang/Cloneable" (some 0) with
  accessFlags := 1537
  interfaces := #[]
  cf := some (fileOf pool7 2 #[] #[] 1537 4 #[] #[])
  fields := #[]
  methods := #[]
  instanceTypes := #[]
  staticTypes := #[]
  resolved := Array.replicate 8 none
  statics := none }

/-- the primitive byte -/
def k8 : Class := { plain "byte" none with kind := .primitive 'B', accessFlags := 0x411 }
/-- [B -/
def k9 : Class := { plain "[B" (some 0) with kind := .array 8 .byte, interfaces := #[7, 4], accessFlags := 1041 }

/-- the primitive int -/
def k10 : Class := { plain "int" none with kind := .primitive 'I', accessFlags := 0x411 }
/-- [I -/
def k11 : Class := { plain "[I" (some 0) with kind := .array 10 .int, interfaces := #[7, 4], accessFlags := 1041 }

def heap : Heap := #[{ cls := 6, slots := #[.ref 1, .ref 2, .ref 3, .ref 4, .null], vm := .statics 6 },
  { cls := 6, slots := #[.null, .int 0, .int 0, .double 1, .double 9218868437227405311, .null, .null], vm := .none },
  { cls := 6, slots := #[.null, .int 1, .int 0, .double 0, .double 9218868437227405311, .null, .null], vm := .none },
  { cls := 6, slots := #[.null, .int 2, .int 0, .double 0, .double 4607182418800017408, .null, .null], vm := .none },
  { cls := 6, slots := #[.null, .int 3, .int 0, .double 4607182418800017408, .double 4746794007244308480, .null, .null], vm := .none }]
def classes : Array Class := #[k0, k1, k2, k3, k4, k5, k6, k7, k8, k9, k10, k11]
def interned : List (Array UInt16 × Addr) := []
def slotsUsed : Nat := 33
def theMethod : MethodId := ⟨1, 1⟩
def args0 : Array Value := #[.int 5, .int 2]
def aboutOver (below : List Frame) : State where
  vm := { classes := classes, interned := interned.toArray }
  heap := heap
  slotsUsed := slotsUsed
  threads := #[{ frames := .invoking theMethod args0 :: below }]
def below0 : List Frame := [.native { method := ⟨0, 0⟩, args := #[] }]
def about1 : State := aboutOver below0
def p0 : Program := .bare "" "" ""
def e0 : Env := launch0.env 0 0 0
theorem w_frames : about1.frames = Frame.invoking theMethod args0 :: below0 := rfl
set_option maxRecDepth 65536 in
theorem w_args : argsFit about1.vm theMethod args0 = true := by decide +kernel
set_option maxRecDepth 65536 in
theorem w_heap : heapFits about1 = true := by decide +kernel
set_option maxRecDepth 65536 in
theorem w_runnable : about1.curStatus? = some .runnable := by decide +kernel
set_option maxRecDepth 65536 in
theorem w_alone : about1.alone = true := by decide +kernel
set_option maxRecDepth 65536 in
theorem w_named : about1.methodNamed? x = some theMethod := by decide +kernel
set_option maxRecDepth 65536 in
theorem w_hears : about1.hears theMethod below0 = true := by decide +kernel
set_option maxRecDepth 65536 in
theorem w_ripe : about1.ripe theMethod args0 below0 = true := by decide +kernel
theorem w_running : about1.status = .running := rfl
set_option maxRecDepth 65536 in
theorem w_room : about1.hasRoom e0.platform room_1 = true :=
  launch0.hasRoom_least _ room_1 (by decide +kernel) (by decide +kernel) (by decide +kernel) (by decide +kernel) (by decide +kernel) (by decide +kernel)
theorem allAtoms_all (ts : List Jvm.Cond) (a : Array Jvm.Value) (st : Jvm.State) : (allAtoms ts).before a st = ts.all (fun c => c.before a st) := by
  induction ts with
  | nil => rfl
  | cons c t ih =>
    show (Jvm.Cond.and c (allAtoms t)).before a st = _
    rw [Jvm.Cond.before_and, ih, List.all_cons]
def words1 : List Jvm.Cond := Jvm.Cond.code x code maxLocals ret :: tables_1
/-- a 'code' word, met by the world's own term for the bytes: nothing is compared byte by byte -/
theorem code_word {y : MethodName} {bytes : ByteArray} {mx : Nat} {rt : Option FieldType} {a : Array Value} {s : State} {m : MethodId} {meth : Method} {c : Code} (h1 : s.methodNamed? y = some m) (h2 : s.vm.method? m = some meth) (h3 : meth.code = some c) (h4 : c.code = bytes)
    (h5 : (c.maxLocals == mx && c.exceptionTable.isEmpty && decide (c.maxStack ≤ mostOperands) && decide (meth.sig.returnType = rt) && !meth.locks && decide (parseMethodDescriptor y.desc = some meth.sig)) = true) : (Jvm.Cond.code y bytes mx rt).before a s = true := by
  simp only [Bool.and_eq_true, beq_iff_eq, Bool.not_eq_true', decide_eq_true_eq] at h5
  obtain ⟨⟨⟨⟨⟨g1, g2⟩, g3⟩, g4⟩, g5⟩, g6⟩ := h5
  simp [Cond.before, Cond.holds, Cond.value, h1, h2, h3, h4, g1, g2, g3, g4, g5, g6]
def isCode : Jvm.Cond → Bool
  | .code _ _ _ _ => true
  | _ => false
theorem all_split {L : List Jvm.Cond} {P : Jvm.Cond → Bool} (h1 : L.all (fun c => isCode c || P c) = true) (h2 : ∀ c ∈ L.filter isCode, P c = true) : L.all P = true := by
  refine List.all_eq_true.mpr fun c hc => ?_
  have h := List.all_eq_true.mp h1 c hc
  rcases Bool.eq_false_or_eq_true (isCode c) with hi | hi
  · exact h2 c (List.mem_filter.mpr ⟨hc, hi⟩)
  · simpa [hi] using h
set_option maxRecDepth 65536 in
theorem w_c0 : (Jvm.Cond.code x code maxLocals ret).before args0 about1 = true := code_word (m := ⟨1, 1⟩) (meth := k1m1) (c := k1c1) (by decide +kernel) rfl rfl rfl (by decide +kernel)
set_option maxRecDepth 65536 in
theorem w_c1 : (Jvm.Cond.code ({ cls := "com/example/latchmeter/latchmeter/analysis/RangeContainsPinLaw", name := "value", desc := "(II)D" } : Jvm.MethodName) method_3_code (4 : Nat) (Option.some Jvm.ClassFile.FieldType.double)).before args0 about1 = true := code_word (m := ⟨1, 2⟩) (meth := k1m2) (c := k1c2) (by decide +kernel) rfl rfl rfl (by decide +kernel)
set_option maxRecDepth 65536 in
theorem w_c2 : (Jvm.Cond.code ({ cls := "com/example/latchmeter/latchmeter/analysis/Parameter$Range", name := "contains", desc := "(D)Z" } : Jvm.MethodName) prog_8_method_4_code (3 : Nat) (Option.some Jvm.ClassFile.FieldType.boolean)).before args0 about1 = true := code_word (m := ⟨6, 0⟩) (meth := k6m0) (c := k6c0) (by decide +kernel) rfl rfl rfl (by decide +kernel)
def codes1 : List Jvm.Cond := [Jvm.Cond.code x code maxLocals ret, Jvm.Cond.code ({ cls := "com/example/latchmeter/latchmeter/analysis/RangeContainsPinLaw", name := "value", desc := "(II)D" } : Jvm.MethodName) method_3_code (4 : Nat) (Option.some Jvm.ClassFile.FieldType.double), Jvm.Cond.code ({ cls := "com/example/latchmeter/latchmeter/analysis/Parameter$Range", name := "contains", desc := "(D)Z" } : Jvm.MethodName) prog_8_method_4_code (3 : Nat) (Option.some Jvm.ClassFile.FieldType.boolean)]
set_option maxRecDepth 65536 in
theorem codes_eq : words1.filter isCode = codes1 := rfl
theorem w_codes : ∀ c ∈ words1.filter isCode, c.before args0 about1 = true := by
  rw [codes_eq]
  intro c hc
  simp only [codes1, List.mem_cons, List.not_mem_nil, or_false] at hc
  rcases hc with rfl | rfl | rfl
  · exact w_c0
  · exact w_c1
  · exact w_c2
set_option maxRecDepth 65536 in
theorem w_t1 : (words1.take 24).all (fun c => isCode c || c.before args0 about1) = true := by decide +kernel
set_option maxRecDepth 65536 in
theorem w_t2 : (words1.drop 24).all (fun c => isCode c || c.before args0 about1) = true := by decide +kernel
theorem w_tables : (allAtoms (Jvm.Cond.code x code maxLocals ret :: tables_1)).before args0 about1 = true := by
  rw [allAtoms_all]
  show words1.all (fun c => c.before args0 about1) = true
  refine all_split ?_ w_codes
  rw [← List.take_append_drop 24 words1, List.all_append, w_t1, w_t2]
  rfl
set_option maxRecDepth 65536 in
theorem w_case : (Jvm.Cond.and given_1 narrow_1).before args0 about1 = true := by decide +kernel
theorem w_applies : (headSpec (Jvm.Cond.code x code maxLocals ret :: tables_1) room_1).applies x e0.platform about1 = true :=
  (Spec.applies_iff w_frames).mpr ⟨w_running, w_runnable, w_alone, w_named, w_hears, w_ripe, w_room, w_tables⟩
theorem atStart : AtStart classFile x code maxLocals ret World_1 tables_1 room_1 Calls_1 rest_1 Pre_1 launch0 p0 e0 about1 theMethod args0 below0 :=
  ⟨lists_1, trivial, launch0.admits_env _ _ _, launch0.least_env, fairChoices_fair.cas, fairChoices_fair.clock, w_frames, w_args, w_heap, w_applies, trivial, trivial, w_case⟩
end start1
theorem witness_1 : WitnessClaimed_1 := ⟨start1.p0, start1.e0, start1.about1, start1.theMethod, start1.args0, start1.below0, start1.atStart⟩
end Jvm.Pilot.@@N@@
