import JvmDerived
import JvmDerived.Pilot.@@N@@Statement
import JvmDerived.Pilot.@@N@@Code
set_option linter.unusedVariables false
set_option linter.unusedSimpArgs false
namespace Jvm.RoadKit
open Sem ClassFile Op Lib Jvm.Stand Jvm.Free Jvm.LawKit
section New
variable {p : Program} {l : Launch} {e : Env} {R : Room} {s : State} {m : MethodId} {args : Array Value} {below : List Frame} {meth : Method} {c : Code} {T : State} {locs : List Loc} {cells slots : Nat}
theorem retI (X : Stand p l e R s m args below meth c T locs cells slots) (hx : p.tables.exec = Jvm.exec) {pc : Nat} {Ls : Array Slot} {z : Int32} {rest : List Value} (hret : meth.sig.returnType = some .int) (hd : decode c.code pc = .ok (.ireturn, 1)) {fs : List Frame}
    (hl : ∀ (f : JFrame) (acts : List Action), f.method = m → f.locked = none → f.entered = [] → (doReturn e (T.setTop f) acts (some (.int z))).1 = T.setFrames fs) : Steps p.tables e below (T.setTop (mkF m pc Ls (.int z :: rest))) (T.setFrames fs) := by
  have hm' : T.vm.method? m = some meth := X.method'
  have hn : narrow .int (.int z) = .int z := rfl
  show Steps p.tables e below (T.setTop { method := m, pc := pc, locals := Ls, stack := _ :: rest, locked := none }) _
  jvm_step X.here [X.here.top, hx, hd, hm', hret, hn]
  first | (intro acts; rw [hl _ acts rfl rfl rfl]) | rw [hl _ _ rfl rfl rfl]
  exact Steps.refl _
end New
end Jvm.RoadKit
namespace Jvm.Pilot.@@N@@
open Jvm Jvm.ClassFile Sem Op Lib Jvm.Free Jvm.Stand Jvm.LawKit Jvm.RoadKit Bundle Jvm.Pilot.@@N@@.Jvm.D
theorem own_eqI {args : Array Value} {first s : State} {o : Option Outcome} {idx : List Nat} {t : Term} {k : Int32} (h : (Jvm.Cond.eq t (Term.int k)).value args first o s idx = some true) : t.eval args first o idx s = some (.int k) := by
  simp only [Cond.value, Term.eval] at h
  cases ht : t.eval args first o idx s with
  | none => simp [ht] at h
  | some x => cases x <;> simp [ht] at h ⊢; exact h
theorem own_root {Z : State} {a0 : Array Value} {O K : String} {n : Nat} (w : (Jvm.Cond.noSuperclass O).before a0 Z = true) (wk : (Jvm.Cond.instantiable K n).before a0 Z = true) (hn : O ≠ K) : NS Z O K := by
  obtain ⟨c1, k1, u1, u2, u3, -, -⟩ := Cond.noSuperclass_spec w
  obtain ⟨c2, k2, v1, -⟩ := Cond.instantiable_spec wk
  refine ⟨c1, c2, u1, v1, fun fuel => ?_⟩
  have hne := ids_ne u1 v1 hn
  match fuel with
  | 0 => rfl
  | f + 1 => simp [Vm.isSubclassAux, hne, u2, u3]
theorem own_not {Z : State} {a0 : Array Value} {C S K : String} {n : Nat} (w : (Jvm.Cond.superclass C S).before a0 Z = true) (wk : (Jvm.Cond.instantiable K n).before a0 Z = true) (ns : NS Z C K) (hn : C ≠ K) : ∃ c t, Z.vm.findClass C = some c ∧ Z.vm.findClass K = some t ∧ Z.vm.assignable c t = false := by
  obtain ⟨c1, c2, u1, v1, hall⟩ := ns
  obtain ⟨q, k, kp, -, h2, -, -, h5, -, -⟩ := Cond.superclass_spec u1 w
  obtain ⟨c3, k3, w1, w2, w3, w4, -⟩ := Cond.instantiable_spec wk
  cases v1.symm.trans w1
  have hne := ids_ne u1 v1 hn
  have hi : k3.isInterface = false := by
    cases hq : k3.isInterface with
    | false => rfl
    | true => rw [hq] at w4; simp at w4
  refine ⟨c1, c2, u1, v1, ?_⟩
  show Z.vm.assignableAux (255 + 1) c1 c2 = false
  simp [Vm.assignableAux, hne, h2, w2, h5, w3, hi, Vm.isSubclass, hall]
theorem own_j0 (v : Int32) (h1 : ¬ v < (-128 : Int32)) (h2 : ¬ (127 : Int32) < v) : ¬ (v + (128 : Int32)) < 0 := by
  have a1 := c_iadd v 128
  have a2 := rng32 (v + 128)
  rw [Int32.lt_iff_toInt_lt] at *
  have : (-128 : Int32).toInt = -128 := rfl
  have : (127 : Int32).toInt = 127 := rfl
  have : (128 : Int32).toInt = 128 := rfl
  have : (0 : Int32).toInt = 0 := rfl
  omega
theorem own_j1 (v : Int32) (h1 : ¬ v < (-128 : Int32)) (h2 : ¬ (127 : Int32) < v) : (v + (128 : Int32)) < (256 : Int32) := by
  have a1 := c_iadd v 128
  have a2 := rng32 (v + 128)
  rw [Int32.lt_iff_toInt_lt] at *
  have : (-128 : Int32).toInt = -128 := rfl
  have : (127 : Int32).toInt = 127 := rfl
  have : (128 : Int32).toInt = 128 := rfl
  have : (256 : Int32).toInt = 256 := rfl
  omega
theorem own_cache {s : State} {args : Array Value} {ca : Addr} {cl : Cell} {ct : Term} {B : Jvm.Cond} (evc : ct.eval args s none [] s = some (.ref ca)) (AC : Arr s s.heap ca cl (.object "java/lang/Integer")) (hlen : (Term.length ct).eval args s none [] s = some (.int (256 : Int32)))
    (hall : ∀ i, i < cl.slots.size → (Jvm.Cond.and (Jvm.Cond.exactly (Term.elem ct (Term.index 0)) "java/lang/Integer") B).value args s none s [i] = some true) (hct : ∀ idx, ct.eval args s none idx s = some (.ref ca)) :
    ∀ j : Int32, ¬ j < 0 → j < (256 : Int32) → ¬ (j < 0 ∨ cl.slots.size ≤ j.toNatClampNeg) ∧ ∃ r, cl.slots[j.toNatClampNeg]? = some (.ref r) ∧ Exa s s.heap r "java/lang/Integer" := by
  intro j h0 h1
  obtain ⟨a', c', l1, l2, l3⟩ := Term.length_spec hlen
  cases evc.symm.trans l1
  cases l2.symm.trans (AC.fin (Vm.Alike.refl _))
  have hsz : cl.slots.size = 256 := by
    have q : (256 : Int32) = cl.slots.size.toInt32 := Value.int.inj l3
    have hb : cl.slots.size < 2147483648 := by
      simp only [Term.eval, Option.bind_eq_bind, evc, Option.bind_some, l2] at hlen
      by_cases hn : cl.slots.size < 2147483648
      · exact hn
      · rw [if_neg hn] at hlen; cases hlen
    have e := len_toInt hb
    rw [← q] at e
    have : (256 : Int32).toInt = 256 := rfl
    omega
  have hlt : j.toNatClampNeg < 256 := by
    rw [Int32.lt_iff_toInt_lt] at h0 h1
    have : (256 : Int32).toInt = 256 := rfl
    have : (0 : Int32).toInt = 0 := rfl
    simp only [Int32.toNatClampNeg]; omega
  have hin : ¬ (j < 0 ∨ cl.slots.size ≤ j.toNatClampNeg) := by
    rintro (q | q)
    · exact h0 q
    · omega
  refine ⟨hin, ?_⟩
  obtain ⟨hx1, -⟩ := and_e (hall j.toNatClampNeg (by omega))
  obtain ⟨r, er⟩ := exa_v hx1
  obtain ⟨-, hat⟩ := elem_in er (hct _) (idx_at h0) AC.1
  exact ⟨r, hat, exa_at er hx1⟩
theorem own_sw (a b c d : Int32) : (if b = a then (if d = c then (1 : Int32) else (0 : Int32)) else (0 : Int32)) = (if a = b then (if c = d then (1 : Int32) else (0 : Int32)) else (0 : Int32)) := by
  by_cases h1 : a = b
  · subst h1
    by_cases h2 : c = d
    · subst h2; rfl
    · rw [if_pos rfl, if_pos rfl, if_neg h2, if_neg (fun q => h2 q.symm)]
  · rw [if_neg h1, if_neg (fun q => h1 q.symm)]
theorem ef2 (m : MethodId) (x0 : Addr) : entryFrame m #[(.ref x0)] 1 = mkF m 0 #[.val (.ref x0)] [] := by first | (simp [entryFrame, mkF, argsToLocals, Value.category]; done) | rfl
theorem pn_0 : plainName "java/lang/Record" = true := by first | (simp [plainName, overriddenIn]; done) | decide +kernel
theorem d2_0 : decode jdk_30_method_1_code 0 = .ok (.aload_n 0, 1) := by decide +kernel
theorem d2_1 : decode jdk_30_method_1_code 1 = .ok (.invokespecial 1, 3) := by decide +kernel
theorem d2_4 : decode jdk_30_method_1_code 4 = .ok (.return_, 1) := by decide +kernel
def Q2 (Z : State) (a : Addr) (h0 : Heap) (n0 : Nat) (v : Option Value) (h : Heap) (L : List Loc) : Prop := v = none ∧ Fr n0 L ∧ h = h0
set_option maxRecDepth 65536 in
set_option maxHeartbeats 40000000 in
theorem rm2 (l : Launch) (Z : State) (a0 : Array Value) (hw : ∀ d ∈ tables_1, d.before a0 Z = true) (ws : List Jvm.Cond) (a : Addr) (h0 : Heap) (n0 : Nat) (Z0 : n0 ≤ h0.size)  :
    MetFree l (⟨"java/lang/Record", "<init>", "()V"⟩ : MethodName) (head1 (Jvm.Cond.code (⟨"java/lang/Record", "<init>", "()V"⟩ : MethodName) jdk_30_method_1_code 1 none :: ws) ({ frames := 1, cells := 0, slots := 0, locals := 12 } : Room)) (fun zza zzU => zza = #[(.ref a)] ∧ Z.Warmed39 zzU.vm ∧ zzU.heap = h0) (fun _ _ _ _ _ => True) (fun _ zzU zzo zzV => ∃ zzv zzL, zzo = .returned zzv ∧ Q2 Z a h0 n0 zzv zzV.heap zzL ∧ FrameEnd zzU zzo zzV zzL ({ frames := 1, cells := 0, slots := 0, locals := 12 } : Room).cells ({ frames := 1, cells := 0, slots := 0, locals := 12 } : Room).slots) := by
  refine MetFree.of_bodySF (plainFor_of_name pn_0) hisR ?_
  intro p e s m args below meth c s₁ Bd hml0 hP hK
  obtain ⟨rfl, hZ, hh⟩ := hP
  have hx := Bd.exec
  have hby := Bd.bytes
  have hml : c.maxLocals = 1 := hml0
  have hown : s.vm.findClass "java/lang/Record" = some m.cls := findClass_of_methodNamed Bd.named
  have hnm := (name_of_methodNamed Bd.named Bd.method).1
  have X0 : Stand p l e ({ frames := 1, cells := 0, slots := 0, locals := 12 } : Room) s m #[(.ref a)] below meth c s₁ [] 0 0 := Stand.of_body Bd
  have e0 : s₁.heap = h0 := by rw [← hh, Bd.state]; rfl
  have N0 := Fr.nil n0
  have R0 : ∀ t, Steps p.tables e below (s₁.setTop (mkF m 0 #[.val (.ref a)] [])) t → Steps p.tables e below (s₁.setTop (entryFrame m #[(.ref a)] 1)) t := fun t k => castTop (ef2 m a) k
  have R1 : ∀ t, Steps p.tables e below (s₁.setTop (mkF m 1 #[.val (.ref a)] [(.ref a)])) t → Steps p.tables e below (s₁.setTop (entryFrame m #[(.ref a)] 1)) t := by
    intro t k
    refine R0 t ?_
    show Steps p.tables e below (s₁.setTop (mkF m 0 #[.val (.ref a)] [])) _
    refine XS.aloadN X0.here hx rfl (hb hby d2_0) rfl rfl ?_
    exact k
  obtain ⟨T2, X2, e2, st2⟩ := initO X0 hx hZ hown (hw _ (List.mem_of_getElem? (i := 11) rfl)) (hw _ (List.mem_of_getElem? (i := 12) rfl)) (hw _ (List.mem_of_getElem? (i := 13) rfl)) e0 (g := (mkF m 1 #[.val (.ref a)] [(.ref a)])) rfl (by rw [hml]; rfl) rfl (hb hby d2_1) (by decide) (W := 0) (by show 2 * 0 + _ ≤ _; exact Nat.le_of_eq rfl) (by decide)
  have R3 : ∀ t, Steps p.tables e below (T2.setTop (mkF m 4 #[.val (.ref a)] [])) t → Steps p.tables e below (s₁.setTop (entryFrame m #[(.ref a)] 1)) t := by
    intro t k
    refine R1 t ?_
    show Steps p.tables e below (s₁.setTop (mkF m 1 #[.val (.ref a)] [(.ref a)])) _
    refine st2 _ ?_
    exact k
  obtain ⟨fs, hr, hrun, hended, hW, hsame⟩ := X2.leave (v := none) (fun _ => rfl)
  refine ⟨_, _, R3 _ ?_, hrun, hended, _, _, rfl, ?_, ⟨_, rfl⟩, hW, hsame.mono (by decide) (by decide)⟩
  · exact X2.returnOut hx Bd.returns (hb hby d2_4) hr
  · show Q2 Z a h0 n0 _ T2.heap _
    rw [e2]
    exact ⟨rfl, N0, rfl⟩
theorem ef7 (m : MethodId) (x0 : Addr) : entryFrame m #[(.ref x0)] 1 = mkF m 0 #[.val (.ref x0)] [] := by first | (simp [entryFrame, mkF, argsToLocals, Value.category]; done) | rfl
theorem pn_1 : plainName "java/lang/Number" = true := by first | (simp [plainName, overriddenIn]; done) | decide +kernel
theorem d7_0 : decode jdk_18_method_1_code 0 = .ok (.aload_n 0, 1) := by decide +kernel
theorem d7_1 : decode jdk_18_method_1_code 1 = .ok (.invokespecial 1, 3) := by decide +kernel
theorem d7_4 : decode jdk_18_method_1_code 4 = .ok (.return_, 1) := by decide +kernel
def Q7 (Z : State) (a : Addr) (h0 : Heap) (n0 : Nat) (v : Option Value) (h : Heap) (L : List Loc) : Prop := v = none ∧ Fr n0 L ∧ h = h0
set_option maxRecDepth 65536 in
set_option maxHeartbeats 40000000 in
theorem rm7 (l : Launch) (Z : State) (a0 : Array Value) (hw : ∀ d ∈ tables_1, d.before a0 Z = true) (ws : List Jvm.Cond) (a : Addr) (h0 : Heap) (n0 : Nat) (Z0 : n0 ≤ h0.size)  :
    MetFree l (⟨"java/lang/Number", "<init>", "()V"⟩ : MethodName) (head1 (Jvm.Cond.code (⟨"java/lang/Number", "<init>", "()V"⟩ : MethodName) jdk_18_method_1_code 1 none :: ws) ({ frames := 1, cells := 0, slots := 0, locals := 12 } : Room)) (fun zza zzU => zza = #[(.ref a)] ∧ Z.Warmed39 zzU.vm ∧ zzU.heap = h0) (fun _ _ _ _ _ => True) (fun _ zzU zzo zzV => ∃ zzv zzL, zzo = .returned zzv ∧ Q7 Z a h0 n0 zzv zzV.heap zzL ∧ FrameEnd zzU zzo zzV zzL ({ frames := 1, cells := 0, slots := 0, locals := 12 } : Room).cells ({ frames := 1, cells := 0, slots := 0, locals := 12 } : Room).slots) := by
  refine MetFree.of_bodySF (plainFor_of_name pn_1) hisR ?_
  intro p e s m args below meth c s₁ Bd hml0 hP hK
  obtain ⟨rfl, hZ, hh⟩ := hP
  have hx := Bd.exec
  have hby := Bd.bytes
  have hml : c.maxLocals = 1 := hml0
  have hown : s.vm.findClass "java/lang/Number" = some m.cls := findClass_of_methodNamed Bd.named
  have hnm := (name_of_methodNamed Bd.named Bd.method).1
  have X0 : Stand p l e ({ frames := 1, cells := 0, slots := 0, locals := 12 } : Room) s m #[(.ref a)] below meth c s₁ [] 0 0 := Stand.of_body Bd
  have e0 : s₁.heap = h0 := by rw [← hh, Bd.state]; rfl
  have N0 := Fr.nil n0
  have R0 : ∀ t, Steps p.tables e below (s₁.setTop (mkF m 0 #[.val (.ref a)] [])) t → Steps p.tables e below (s₁.setTop (entryFrame m #[(.ref a)] 1)) t := fun t k => castTop (ef7 m a) k
  have R1 : ∀ t, Steps p.tables e below (s₁.setTop (mkF m 1 #[.val (.ref a)] [(.ref a)])) t → Steps p.tables e below (s₁.setTop (entryFrame m #[(.ref a)] 1)) t := by
    intro t k
    refine R0 t ?_
    show Steps p.tables e below (s₁.setTop (mkF m 0 #[.val (.ref a)] [])) _
    refine XS.aloadN X0.here hx rfl (hb hby d7_0) rfl rfl ?_
    exact k
  obtain ⟨T2, X2, e2, st2⟩ := initO X0 hx hZ hown (hw _ (List.mem_of_getElem? (i := 47) rfl)) (hw _ (List.mem_of_getElem? (i := 12) rfl)) (hw _ (List.mem_of_getElem? (i := 13) rfl)) e0 (g := (mkF m 1 #[.val (.ref a)] [(.ref a)])) rfl (by rw [hml]; rfl) rfl (hb hby d7_1) (by decide) (W := 0) (by show 2 * 0 + _ ≤ _; exact Nat.le_of_eq rfl) (by decide)
  have R3 : ∀ t, Steps p.tables e below (T2.setTop (mkF m 4 #[.val (.ref a)] [])) t → Steps p.tables e below (s₁.setTop (entryFrame m #[(.ref a)] 1)) t := by
    intro t k
    refine R1 t ?_
    show Steps p.tables e below (s₁.setTop (mkF m 1 #[.val (.ref a)] [(.ref a)])) _
    refine st2 _ ?_
    exact k
  obtain ⟨fs, hr, hrun, hended, hW, hsame⟩ := X2.leave (v := none) (fun _ => rfl)
  refine ⟨_, _, R3 _ ?_, hrun, hended, _, _, rfl, ?_, ⟨_, rfl⟩, hW, hsame.mono (by decide) (by decide)⟩
  · exact X2.returnOut hx Bd.returns (hb hby d7_4) hr
  · show Q7 Z a h0 n0 _ T2.heap _
    rw [e2]
    exact ⟨rfl, N0, rfl⟩
theorem ef1 (m : MethodId) (x0 : Addr) (x1 : Int32) (x2 : Int32) : entryFrame m #[(.ref x0), (.int x1), (.int x2)] 3 = mkF m 0 #[.val (.ref x0), .val (.int x1), .val (.int x2)] [] := by first | (simp [entryFrame, mkF, argsToLocals, Value.category]; done) | rfl
theorem pn_2 : plainName "com/example/tapline/emv/RecordNumber" = true := by first | (simp [plainName, overriddenIn]; done) | decide +kernel
theorem d1_0 : decode prog_58_method_1_code 0 = .ok (.aload_n 0, 1) := by decide +kernel
theorem pd_0 : parseMethodDescriptor "()V" = some ⟨[], none⟩ := by decide +kernel
theorem d1_1 : decode prog_58_method_1_code 1 = .ok (.invokespecial 1, 3) := by decide +kernel
theorem d1_4 : decode prog_58_method_1_code 4 = .ok (.aload_n 0, 1) := by decide +kernel
theorem d1_5 : decode prog_58_method_1_code 5 = .ok (.iload_n 1, 1) := by decide +kernel
theorem d1_6 : decode prog_58_method_1_code 6 = .ok (.putfield 7, 3) := by decide +kernel
theorem d1_9 : decode prog_58_method_1_code 9 = .ok (.aload_n 0, 1) := by decide +kernel
theorem d1_10 : decode prog_58_method_1_code 10 = .ok (.iload_n 2, 1) := by decide +kernel
theorem d1_11 : decode prog_58_method_1_code 11 = .ok (.putfield 13, 3) := by decide +kernel
theorem d1_14 : decode prog_58_method_1_code 14 = .ok (.return_, 1) := by decide +kernel
def Q1 (Z : State) (a : Addr) (u : Int32) (q : Int32) (h0 : Heap) (n0 : Nat) (v : Option Value) (h : Heap) (L : List Loc) : Prop := v = none ∧ Fr n0 L ∧ Keep h0 h [a] ∧ Fld Z h a "com/example/tapline/emv/RecordNumber" "sfi" "I" (.int u) ∧ Fld Z h a "com/example/tapline/emv/RecordNumber" "number" "I" (.int q)
set_option maxRecDepth 65536 in
set_option maxHeartbeats 40000000 in
theorem rm1 (l : Launch) (Z : State) (a0 : Array Value) (hw : ∀ d ∈ tables_1, d.before a0 Z = true) (ws : List Jvm.Cond) (a : Addr) (u : Int32) (q : Int32) (h0 : Heap) (n0 : Nat) (Z0 : n0 ≤ h0.size) (E_a : Exa Z h0 a "com/example/tapline/emv/RecordNumber") (F_sfi_a : Fld Z h0 a "com/example/tapline/emv/RecordNumber" "sfi" "I" (.int (0 : Int32))) (F_number_a : Fld Z h0 a "com/example/tapline/emv/RecordNumber" "number" "I" (.int (0 : Int32))) (ge_a : n0 ≤ a) :
    MetFree l (⟨"com/example/tapline/emv/RecordNumber", "<init>", "(II)V"⟩ : MethodName) (head1 (Jvm.Cond.code (⟨"com/example/tapline/emv/RecordNumber", "<init>", "(II)V"⟩ : MethodName) prog_58_method_1_code 3 none :: ws) ({ frames := 2, cells := 0, slots := 0, locals := 24 } : Room)) (fun zza zzU => zza = #[(.ref a), (.int u), (.int q)] ∧ Z.Warmed39 zzU.vm ∧ zzU.heap = h0) (fun _ _ _ _ _ => True) (fun _ zzU zzo zzV => ∃ zzv zzL, zzo = .returned zzv ∧ Q1 Z a u q h0 n0 zzv zzV.heap zzL ∧ FrameEnd zzU zzo zzV zzL ({ frames := 2, cells := 0, slots := 0, locals := 24 } : Room).cells ({ frames := 2, cells := 0, slots := 0, locals := 24 } : Room).slots) := by
  refine MetFree.of_bodySF (plainFor_of_name pn_2) hisR ?_
  intro p e s m args below meth c s₁ Bd hml0 hP hK
  obtain ⟨rfl, hZ, hh⟩ := hP
  have hx := Bd.exec
  have hby := Bd.bytes
  have hml : c.maxLocals = 3 := hml0
  have hown : s.vm.findClass "com/example/tapline/emv/RecordNumber" = some m.cls := findClass_of_methodNamed Bd.named
  have hnm := (name_of_methodNamed Bd.named Bd.method).1
  have X0 : Stand p l e ({ frames := 2, cells := 0, slots := 0, locals := 24 } : Room) s m #[(.ref a), (.int u), (.int q)] below meth c s₁ [] 0 0 := Stand.of_body Bd
  have e0 : s₁.heap = h0 := by rw [← hh, Bd.state]; rfl
  have N0 := Fr.nil n0
  have R0 : ∀ t, Steps p.tables e below (s₁.setTop (mkF m 0 #[.val (.ref a), .val (.int u), .val (.int q)] [])) t → Steps p.tables e below (s₁.setTop (entryFrame m #[(.ref a), (.int u), (.int q)] 3)) t := fun t k => castTop (ef1 m a u q) k
  have KP := Keep.refl h0 [a]
  have R1 : ∀ t, Steps p.tables e below (s₁.setTop (mkF m 1 #[.val (.ref a), .val (.int u), .val (.int q)] [(.ref a)])) t → Steps p.tables e below (s₁.setTop (entryFrame m #[(.ref a), (.int u), (.int q)] 3)) t := by
    intro t k
    refine R0 t ?_
    show Steps p.tables e below (s₁.setTop (mkF m 0 #[.val (.ref a), .val (.int u), .val (.int q)] [])) _
    refine XS.aloadN X0.here hx rfl (hb hby d1_0) rfl rfl ?_
    exact k
  obtain ⟨_, _, ⟨T2, L2, k2, n2⟩, -, X2, ⟨Lc2, hQ2, l2, y2, z2⟩, st2⟩ := X0.specialBack hx (y := (⟨"java/lang/Record", "<init>", "()V"⟩ : MethodName)) rfl hown (mvT hZ (hw _ (List.mem_of_getElem? (i := 6) rfl))) (mvT hZ (hw _ (List.mem_of_getElem? (i := 7) rfl))) (mvT hZ (hw _ (List.mem_of_getElem? (i := 10) rfl))) (by decide) (backOf (W := 0) (rm2 l Z a0 hw [] a h0 n0 Z0) hZ (hw _ (List.mem_of_getElem? (i := 10) rfl)) (hw _ (List.mem_of_getElem? (i := 9) rfl)) (by decide) (by decide)) (g := (mkF m 1 #[.val (.ref a), .val (.int u), .val (.int q)] [(.ref a)])) rfl (by rw [hml]; rfl) (Steps.refl _) (a := a) (argsL := []) (rest := []) (lenOf pd_0 rfl) rfl (by show 2 * 0 + _ ≤ _; exact Nat.le_of_eq rfl) (hb hby d1_1) (fun _ _ => ⟨rfl, e0, (by decide : 0 + 0 ≤ _), (by decide : 0 + 0 ≤ _)⟩)
  dsimp only [Pt.U, Pt.locs, Pt.cells, Pt.slots] at X2 l2 y2 z2 st2 hQ2
  subst l2 y2 z2
  obtain ⟨rfl, Nq2, eq2⟩ := hQ2
  have N2 := Fr.app N0 Nq2
  have e2 : T2.heap = h0 := eq2
  have R3 : ∀ t, Steps p.tables e below (T2.setTop (mkF m 6 #[.val (.ref a), .val (.int u), .val (.int q)] [(.int u), (.ref a)])) t → Steps p.tables e below (s₁.setTop (entryFrame m #[(.ref a), (.int u), (.int q)] 3)) t := by
    intro t k
    refine R1 t ?_
    show Steps p.tables e below (s₁.setTop (mkF m 1 #[.val (.ref a), .val (.int u), .val (.int q)] [(.ref a)])) _
    refine st2.trans ?_
    show Steps p.tables e below (T2.setTop (mkF m 4 #[.val (.ref a), .val (.int u), .val (.int q)] [])) _
    refine XS.aloadN X2.here hx rfl (hb hby d1_4) rfl rfl ?_
    show Steps p.tables e below (T2.setTop (mkF m 5 #[.val (.ref a), .val (.int u), .val (.int q)] [(.ref a)])) _
    refine XS.iloadN X2.here hx rfl (hb hby d1_5) rfl ?_
    exact k
  obtain ⟨T4, h4, X4, e4, W4, st4⟩ := putF X2 hx hZ hown (host := "") (Or.inl (hw _ (List.mem_of_getElem? (i := 14) rfl))) Via.refl e2 F_sfi_a E_a (Or.inr ⟨(hw _ (List.mem_of_getElem? (i := 15) rfl)), rfl, hnm⟩) (hw _ (List.mem_of_getElem? (i := 1) rfl)) (ty := .int) (by decide) rfl rfl (g := (mkF m 6 #[.val (.ref a), .val (.int u), .val (.int q)] [(.int u), (.ref a)])) rfl rfl (hb hby d1_6)
  have N4 := Fr.snoc X4 N2 ge_a
  have Sz4 := Nat.le_trans Z0 (Keep.of_wr W4).1
  have E_a := E_a.wr W4
  have F_number_a := F_number_a.other W4 (Or.inr (slot_ne (Or.inr (hw _ (List.mem_of_getElem? (i := 17) rfl))) (Or.inr (hw _ (List.mem_of_getElem? (i := 15) rfl))) (by decide) (t := .int) (t' := .int) (by decide) (by decide)))
  have F_sfi_a := F_sfi_a.same W4
  have KP := KP.wr W4 (Or.inl (List.mem_of_getElem? (i := 0) rfl))
  have R5 : ∀ t, Steps p.tables e below (T4.setTop (mkF m 11 #[.val (.ref a), .val (.int u), .val (.int q)] [(.int q), (.ref a)])) t → Steps p.tables e below (s₁.setTop (entryFrame m #[(.ref a), (.int u), (.int q)] 3)) t := by
    intro t k
    refine R3 t ?_
    show Steps p.tables e below (T2.setTop (mkF m 6 #[.val (.ref a), .val (.int u), .val (.int q)] [(.int u), (.ref a)])) _
    refine st4 _ ?_
    show Steps p.tables e below (T4.setTop (mkF m 9 #[.val (.ref a), .val (.int u), .val (.int q)] [])) _
    refine XS.aloadN X4.here hx rfl (hb hby d1_9) rfl rfl ?_
    show Steps p.tables e below (T4.setTop (mkF m 10 #[.val (.ref a), .val (.int u), .val (.int q)] [(.ref a)])) _
    refine XS.iloadN X4.here hx rfl (hb hby d1_10) rfl ?_
    exact k
  obtain ⟨T6, h6, X6, e6, W6, st6⟩ := putF X4 hx hZ hown (host := "") (Or.inl (hw _ (List.mem_of_getElem? (i := 16) rfl))) Via.refl e4 F_number_a E_a (Or.inr ⟨(hw _ (List.mem_of_getElem? (i := 17) rfl)), rfl, hnm⟩) (hw _ (List.mem_of_getElem? (i := 1) rfl)) (ty := .int) (by decide) rfl rfl (g := (mkF m 11 #[.val (.ref a), .val (.int u), .val (.int q)] [(.int q), (.ref a)])) rfl rfl (hb hby d1_11)
  have N6 := Fr.snoc X6 N4 ge_a
  have Sz6 := Nat.le_trans Sz4 (Keep.of_wr W6).1
  have E_a := E_a.wr W6
  have F_sfi_a := F_sfi_a.other W6 (Or.inr (slot_ne (Or.inr (hw _ (List.mem_of_getElem? (i := 15) rfl))) (Or.inr (hw _ (List.mem_of_getElem? (i := 17) rfl))) (by decide) (t := .int) (t' := .int) (by decide) (by decide)))
  have F_number_a := F_number_a.same W6
  have KP := KP.wr W6 (Or.inl (List.mem_of_getElem? (i := 0) rfl))
  have R7 : ∀ t, Steps p.tables e below (T6.setTop (mkF m 14 #[.val (.ref a), .val (.int u), .val (.int q)] [])) t → Steps p.tables e below (s₁.setTop (entryFrame m #[(.ref a), (.int u), (.int q)] 3)) t := by
    intro t k
    refine R5 t ?_
    show Steps p.tables e below (T4.setTop (mkF m 11 #[.val (.ref a), .val (.int u), .val (.int q)] [(.int q), (.ref a)])) _
    refine st6 _ ?_
    exact k
  obtain ⟨fs, hr, hrun, hended, hW, hsame⟩ := X6.leave (v := none) (fun _ => rfl)
  refine ⟨_, _, R7 _ ?_, hrun, hended, _, _, rfl, ?_, ⟨_, rfl⟩, hW, hsame.mono (by decide) (by decide)⟩
  · exact X6.returnOut hx Bd.returns (hb hby d1_14) hr
  · show Q1 Z a u q h0 n0 _ T6.heap _
    rw [e6]
    exact ⟨rfl, N6, KP, F_sfi_a, F_number_a⟩
theorem ef6 (m : MethodId) (x0 : Addr) (x1 : Int32) : entryFrame m #[(.ref x0), (.int x1)] 2 = mkF m 0 #[.val (.ref x0), .val (.int x1)] [] := by first | (simp [entryFrame, mkF, argsToLocals, Value.category]; done) | rfl
theorem pn_3 : plainName "java/lang/Integer" = true := by first | (simp [plainName, overriddenIn]; done) | decide +kernel
theorem d6_0 : decode jdk_33_method_23_code 0 = .ok (.aload_n 0, 1) := by decide +kernel
theorem d6_1 : decode jdk_33_method_23_code 1 = .ok (.invokespecial 202, 3) := by decide +kernel
theorem d6_4 : decode jdk_33_method_23_code 4 = .ok (.aload_n 0, 1) := by decide +kernel
theorem d6_5 : decode jdk_33_method_23_code 5 = .ok (.iload_n 1, 1) := by decide +kernel
theorem d6_6 : decode jdk_33_method_23_code 6 = .ok (.putfield 205, 3) := by decide +kernel
theorem d6_9 : decode jdk_33_method_23_code 9 = .ok (.return_, 1) := by decide +kernel
def Q6 (Z : State) (a : Addr) (u : Int32) (h0 : Heap) (n0 : Nat) (v : Option Value) (h : Heap) (L : List Loc) : Prop := v = none ∧ Fr n0 L ∧ Keep h0 h [a]
set_option maxRecDepth 65536 in
set_option maxHeartbeats 40000000 in
theorem rm6 (l : Launch) (Z : State) (a0 : Array Value) (hw : ∀ d ∈ tables_1, d.before a0 Z = true) (ws : List Jvm.Cond) (a : Addr) (u : Int32) (h0 : Heap) (n0 : Nat) (Z0 : n0 ≤ h0.size) (E_a : Exa Z h0 a "java/lang/Integer") (F_value_a : Fld Z h0 a "java/lang/Integer" "value" "I" (.int (0 : Int32))) (ge_a : n0 ≤ a) :
    MetFree l (⟨"java/lang/Integer", "<init>", "(I)V"⟩ : MethodName) (head1 (Jvm.Cond.code (⟨"java/lang/Integer", "<init>", "(I)V"⟩ : MethodName) jdk_33_method_23_code 2 none :: ws) ({ frames := 2, cells := 0, slots := 0, locals := 24 } : Room)) (fun zza zzU => zza = #[(.ref a), (.int u)] ∧ Z.Warmed39 zzU.vm ∧ zzU.heap = h0) (fun _ _ _ _ _ => True) (fun _ zzU zzo zzV => ∃ zzv zzL, zzo = .returned zzv ∧ Q6 Z a u h0 n0 zzv zzV.heap zzL ∧ FrameEnd zzU zzo zzV zzL ({ frames := 2, cells := 0, slots := 0, locals := 24 } : Room).cells ({ frames := 2, cells := 0, slots := 0, locals := 24 } : Room).slots) := by
  refine MetFree.of_bodySF (plainFor_of_name pn_3) hisR ?_
  intro p e s m args below meth c s₁ Bd hml0 hP hK
  obtain ⟨rfl, hZ, hh⟩ := hP
  have hx := Bd.exec
  have hby := Bd.bytes
  have hml : c.maxLocals = 2 := hml0
  have hown : s.vm.findClass "java/lang/Integer" = some m.cls := findClass_of_methodNamed Bd.named
  have hnm := (name_of_methodNamed Bd.named Bd.method).1
  have X0 : Stand p l e ({ frames := 2, cells := 0, slots := 0, locals := 24 } : Room) s m #[(.ref a), (.int u)] below meth c s₁ [] 0 0 := Stand.of_body Bd
  have e0 : s₁.heap = h0 := by rw [← hh, Bd.state]; rfl
  have N0 := Fr.nil n0
  have R0 : ∀ t, Steps p.tables e below (s₁.setTop (mkF m 0 #[.val (.ref a), .val (.int u)] [])) t → Steps p.tables e below (s₁.setTop (entryFrame m #[(.ref a), (.int u)] 2)) t := fun t k => castTop (ef6 m a u) k
  have KP := Keep.refl h0 [a]
  have R1 : ∀ t, Steps p.tables e below (s₁.setTop (mkF m 1 #[.val (.ref a), .val (.int u)] [(.ref a)])) t → Steps p.tables e below (s₁.setTop (entryFrame m #[(.ref a), (.int u)] 2)) t := by
    intro t k
    refine R0 t ?_
    show Steps p.tables e below (s₁.setTop (mkF m 0 #[.val (.ref a), .val (.int u)] [])) _
    refine XS.aloadN X0.here hx rfl (hb hby d6_0) rfl rfl ?_
    exact k
  obtain ⟨_, _, ⟨T2, L2, k2, n2⟩, -, X2, ⟨Lc2, hQ2, l2, y2, z2⟩, st2⟩ := X0.specialBack hx (y := (⟨"java/lang/Number", "<init>", "()V"⟩ : MethodName)) rfl hown (mvT hZ (hw _ (List.mem_of_getElem? (i := 41) rfl))) (mvT hZ (hw _ (List.mem_of_getElem? (i := 42) rfl))) (mvT hZ (hw _ (List.mem_of_getElem? (i := 46) rfl))) (by decide) (backOf (W := 0) (rm7 l Z a0 hw [] a h0 n0 Z0) hZ (hw _ (List.mem_of_getElem? (i := 46) rfl)) (hw _ (List.mem_of_getElem? (i := 45) rfl)) (by decide) (by decide)) (g := (mkF m 1 #[.val (.ref a), .val (.int u)] [(.ref a)])) rfl (by rw [hml]; rfl) (Steps.refl _) (a := a) (argsL := []) (rest := []) (lenOf pd_0 rfl) rfl (by show 2 * 0 + _ ≤ _; exact Nat.le_of_eq rfl) (hb hby d6_1) (fun _ _ => ⟨rfl, e0, (by decide : 0 + 0 ≤ _), (by decide : 0 + 0 ≤ _)⟩)
  dsimp only [Pt.U, Pt.locs, Pt.cells, Pt.slots] at X2 l2 y2 z2 st2 hQ2
  subst l2 y2 z2
  obtain ⟨rfl, Nq2, eq2⟩ := hQ2
  have N2 := Fr.app N0 Nq2
  have e2 : T2.heap = h0 := eq2
  have R3 : ∀ t, Steps p.tables e below (T2.setTop (mkF m 6 #[.val (.ref a), .val (.int u)] [(.int u), (.ref a)])) t → Steps p.tables e below (s₁.setTop (entryFrame m #[(.ref a), (.int u)] 2)) t := by
    intro t k
    refine R1 t ?_
    show Steps p.tables e below (s₁.setTop (mkF m 1 #[.val (.ref a), .val (.int u)] [(.ref a)])) _
    refine st2.trans ?_
    show Steps p.tables e below (T2.setTop (mkF m 4 #[.val (.ref a), .val (.int u)] [])) _
    refine XS.aloadN X2.here hx rfl (hb hby d6_4) rfl rfl ?_
    show Steps p.tables e below (T2.setTop (mkF m 5 #[.val (.ref a), .val (.int u)] [(.ref a)])) _
    refine XS.iloadN X2.here hx rfl (hb hby d6_5) rfl ?_
    exact k
  obtain ⟨T4, h4, X4, e4, W4, st4⟩ := putF X2 hx hZ hown (host := "") (Or.inl (hw _ (List.mem_of_getElem? (i := 48) rfl))) Via.refl e2 F_value_a E_a (Or.inr ⟨(hw _ (List.mem_of_getElem? (i := 49) rfl)), rfl, hnm⟩) (hw _ (List.mem_of_getElem? (i := 36) rfl)) (ty := .int) (by decide) rfl rfl (g := (mkF m 6 #[.val (.ref a), .val (.int u)] [(.int u), (.ref a)])) rfl rfl (hb hby d6_6)
  have N4 := Fr.snoc X4 N2 ge_a
  have Sz4 := Nat.le_trans Z0 (Keep.of_wr W4).1
  have E_a := E_a.wr W4
  have F_value_a := F_value_a.same W4
  have KP := KP.wr W4 (Or.inl (List.mem_of_getElem? (i := 0) rfl))
  have R5 : ∀ t, Steps p.tables e below (T4.setTop (mkF m 9 #[.val (.ref a), .val (.int u)] [])) t → Steps p.tables e below (s₁.setTop (entryFrame m #[(.ref a), (.int u)] 2)) t := by
    intro t k
    refine R3 t ?_
    show Steps p.tables e below (T2.setTop (mkF m 6 #[.val (.ref a), .val (.int u)] [(.int u), (.ref a)])) _
    refine st4 _ ?_
    exact k
  obtain ⟨fs, hr, hrun, hended, hW, hsame⟩ := X4.leave (v := none) (fun _ => rfl)
  refine ⟨_, _, R5 _ ?_, hrun, hended, _, _, rfl, ?_, ⟨_, rfl⟩, hW, hsame.mono (by decide) (by decide)⟩
  · exact X4.returnOut hx Bd.returns (hb hby d6_9) hr
  · show Q6 Z a u h0 n0 _ T4.heap _
    rw [e4]
    exact ⟨rfl, N4, KP⟩
theorem ef4lo (m : MethodId) (x0 : Int32) : entryFrame m #[(.int x0)] 1 = mkF m 0 #[.val (.int x0)] [] := by first | (simp [entryFrame, mkF, argsToLocals, Value.category]; done) | rfl
theorem d4_0 : decode jdk_33_method_22_code 0 = .ok (.iload_n 0, 1) := by decide +kernel
theorem d4_1 : decode jdk_33_method_22_code 1 = .ok (.bipush (-128), 2) := by decide +kernel
theorem d4_3 : decode jdk_33_method_22_code 3 = .ok (.if_icmp .lt 20, 3) := by decide +kernel
theorem d4_23 : decode jdk_33_method_22_code 23 = .ok (.new 1, 3) := by decide +kernel
theorem d4_26 : decode jdk_33_method_22_code 26 = .ok (.dup, 1) := by decide +kernel
theorem d4_27 : decode jdk_33_method_22_code 27 = .ok (.iload_n 0, 1) := by decide +kernel
theorem pd_1 : parseMethodDescriptor "(I)V" = some ⟨[.int], none⟩ := by decide +kernel
theorem d4_28 : decode jdk_33_method_22_code 28 = .ok (.invokespecial 199, 3) := by decide +kernel
theorem d4_31 : decode jdk_33_method_22_code 31 = .ok (.areturn, 1) := by decide +kernel
def Q4lo (Z : State) (u : Int32) (h0 : Heap) (n0 : Nat) (v : Option Value) (h : Heap) (L : List Loc) : Prop := v = some (.ref h0.size) ∧ Fr n0 L ∧ Keep h0 h [] ∧ Exa Z h h0.size "java/lang/Integer"
set_option maxRecDepth 65536 in
set_option maxHeartbeats 40000000 in
theorem rm4lo (l : Launch) (Z : State) (a0 : Array Value) (hw : ∀ d ∈ tables_1, d.before a0 Z = true) (ws : List Jvm.Cond) (u : Int32) (h0 : Heap) (n0 : Nat) (Z0 : n0 ≤ h0.size) (hu : u < (-128 : Int32)) (SH : Sta Z h0 "java/lang/Integer$IntegerCache" "high" "I" (.int (127 : Int32))) :
    MetFree l (⟨"java/lang/Integer", "valueOf", "(I)Ljava/lang/Integer;"⟩ : MethodName) (head1 (Jvm.Cond.code (⟨"java/lang/Integer", "valueOf", "(I)Ljava/lang/Integer;"⟩ : MethodName) jdk_33_method_22_code 1 (some (.object "java/lang/Integer")) :: ws) ({ frames := 3, cells := 1, slots := 1, locals := 38 } : Room)) (fun zza zzU => zza = #[(.int u)] ∧ Z.Warmed39 zzU.vm ∧ zzU.heap = h0) (fun _ _ _ _ _ => True) (fun _ zzU zzo zzV => ∃ zzv zzL, zzo = .returned zzv ∧ Q4lo Z u h0 n0 zzv zzV.heap zzL ∧ FrameEnd zzU zzo zzV zzL ({ frames := 3, cells := 1, slots := 1, locals := 38 } : Room).cells ({ frames := 3, cells := 1, slots := 1, locals := 38 } : Room).slots) := by
  refine MetFree.of_bodySF (plainFor_of_name pn_3) hisR ?_
  intro p e s m args below meth c s₁ Bd hml0 hP hK
  obtain ⟨rfl, hZ, hh⟩ := hP
  have hx := Bd.exec
  have hby := Bd.bytes
  have hml : c.maxLocals = 1 := hml0
  have hown : s.vm.findClass "java/lang/Integer" = some m.cls := findClass_of_methodNamed Bd.named
  have hnm := (name_of_methodNamed Bd.named Bd.method).1
  have X0 : Stand p l e ({ frames := 3, cells := 1, slots := 1, locals := 38 } : Room) s m #[(.int u)] below meth c s₁ [] 0 0 := Stand.of_body Bd
  have e0 : s₁.heap = h0 := by rw [← hh, Bd.state]; rfl
  have N0 := Fr.nil n0
  have R0 : ∀ t, Steps p.tables e below (s₁.setTop (mkF m 0 #[.val (.int u)] [])) t → Steps p.tables e below (s₁.setTop (entryFrame m #[(.int u)] 1)) t := fun t k => castTop (ef4lo m u) k
  have KP := Keep.refl h0 []
  have R1 : ∀ t, Steps p.tables e below (s₁.setTop (mkF m 23 #[.val (.int u)] [])) t → Steps p.tables e below (s₁.setTop (entryFrame m #[(.int u)] 1)) t := by
    intro t k
    refine R0 t ?_
    show Steps p.tables e below (s₁.setTop (mkF m 0 #[.val (.int u)] [])) _
    refine XS.iloadN X0.here hx rfl (hb hby d4_0) rfl ?_
    show Steps p.tables e below (s₁.setTop (mkF m 1 #[.val (.int u)] [(.int u)])) _
    refine XS.bipush X0.here hx rfl (hb hby d4_1) ?_
    show Steps p.tables e below (s₁.setTop (mkF m 3 #[.val (.int u)] [(.int (-128 : Int32)), (.int u)])) _
    refine XS.icmpYes X0.here hx rfl (pc0 := 3) (pc' := 23) rfl (hb hby d4_3) rfl (tlt hu).1 (by decide) (by decide) ?_
    exact k
  obtain ⟨T2, h2, X2, e2, E2, A2, D2, -, st2⟩ := newO X0 hx hZ hown (hw _ (List.mem_of_getElem? (i := 35) rfl)) (hw _ (List.mem_of_getElem? (i := 36) rfl)) (hw _ (List.mem_of_getElem? (i := 20) rfl)) e0 (g := (mkF m 23 #[.val (.int u)] [])) rfl (hb hby d4_23) (by decide) (by decide)
  obtain ⟨b, g2⟩ : ∃ z, z = h0.size := ⟨_, rfl⟩
  rw [← g2] at A2 D2 st2
  have ge_b : n0 ≤ b := by rw [g2]; exact Z0
  have Sz2 := Nat.le_trans Z0 E2.1
  have sz0_b : h0.size ≤ b := by rw [g2]; exact KP.1
  have KP := KP.ext E2
  have E_b := A2
  have F_value_b : Fld Z h2 b "java/lang/Integer" "value" "I" (.int (0 : Int32)) := D2 (Or.inr (hw _ (List.mem_of_getElem? (i := 49) rfl))) (ty := .int) (by decide)
  have R3 : ∀ t, Steps p.tables e below (T2.setTop (mkF m 28 #[.val (.int u)] [(.int u), (.ref b), (.ref b)])) t → Steps p.tables e below (s₁.setTop (entryFrame m #[(.int u)] 1)) t := by
    intro t k
    refine R1 t ?_
    show Steps p.tables e below (s₁.setTop (mkF m 23 #[.val (.int u)] [])) _
    refine st2 _ ?_
    show Steps p.tables e below (T2.setTop (mkF m 26 #[.val (.int u)] [(.ref b)])) _
    refine XS.dup X2.here hx rfl (hb hby d4_26) rfl rfl ?_
    show Steps p.tables e below (T2.setTop (mkF m 27 #[.val (.int u)] [(.ref b), (.ref b)])) _
    refine XS.iloadN X2.here hx rfl (hb hby d4_27) rfl ?_
    exact k
  obtain ⟨_, _, ⟨T4, L4, k4, n4⟩, -, X4, ⟨Lc4, hQ4, l4, y4, z4⟩, st4⟩ := X2.specialBack hx (y := (⟨"java/lang/Integer", "<init>", "(I)V"⟩ : MethodName)) rfl hown (mvT hZ (hw _ (List.mem_of_getElem? (i := 37) rfl))) (mvT hZ (hw _ (List.mem_of_getElem? (i := 38) rfl))) (mvT hZ (hw _ (List.mem_of_getElem? (i := 40) rfl))) (by decide) (backOf (W := 1) (rm6 l Z a0 hw [] b u h2 n0 Sz2 E_b F_value_b ge_b) hZ (hw _ (List.mem_of_getElem? (i := 40) rfl)) (hw _ (List.mem_of_getElem? (i := 20) rfl)) (by decide) (by decide)) (g := (mkF m 28 #[.val (.int u)] [(.int u), (.ref b), (.ref b)])) rfl (by rw [hml]; rfl) (Steps.refl _) (a := b) (argsL := [(.int u)]) (rest := [(.ref b)]) (lenOf pd_1 rfl) rfl (by show 2 * 0 + _ ≤ _; exact Nat.le_of_eq rfl) (hb hby d4_28) (fun _ _ => ⟨rfl, e2, (by decide : 1 + 0 ≤ _), (by decide : 1 + 0 ≤ _)⟩)
  dsimp only [Pt.U, Pt.locs, Pt.cells, Pt.slots] at X4 l4 y4 z4 st4 hQ4
  subst l4 y4 z4
  obtain ⟨rfl, Nq4, K4⟩ := hQ4
  have N4 := Fr.app N0 Nq4
  have Sz4 := Nat.le_trans Sz2 K4.1
  have E_b := E_b.keep K4
  have KP := KP.trans K4 (allS (Or.inr sz0_b) all0)
  have R5 : ∀ t, Steps p.tables e below (T4.setTop (mkF m 31 #[.val (.int u)] [(.ref b)])) t → Steps p.tables e below (s₁.setTop (entryFrame m #[(.int u)] 1)) t := by
    intro t k
    refine R3 t ?_
    show Steps p.tables e below (T2.setTop (mkF m 28 #[.val (.int u)] [(.int u), (.ref b), (.ref b)])) _
    refine st4.trans ?_
    exact k
  have gb : b = h0.size := g2
  obtain ⟨fs, hr, hrun, hended, hW, hsame⟩ := X4.leave (v := some (.ref b)) (fun h => by rw [Bd.returns] at h; cases h)
  refine ⟨_, _, R5 _ ?_, hrun, hended, _, _, rfl, ?_, ⟨_, rfl⟩, hW, hsame.mono (by decide) (by decide)⟩
  · exact retOut X4 hx Bd.returns rfl (Or.inr (Or.inr (Or.inr (Or.inr ⟨rfl, rfl, rfl⟩)))) (hb hby d4_31) hr
  · show Q4lo Z u h0 n0 _ T4.heap _
    exact ⟨(by rw [gb]), N4, KP, gb ▸ E_b⟩
theorem ef4hi (m : MethodId) (x0 : Int32) : entryFrame m #[(.int x0)] 1 = mkF m 0 #[.val (.int x0)] [] := by first | (simp [entryFrame, mkF, argsToLocals, Value.category]; done) | rfl
theorem d4_6 : decode jdk_33_method_22_code 6 = .ok (.iload_n 0, 1) := by decide +kernel
theorem d4_7 : decode jdk_33_method_22_code 7 = .ok (.getstatic 191, 3) := by decide +kernel
theorem d4_10 : decode jdk_33_method_22_code 10 = .ok (.if_icmp .gt 13, 3) := by decide +kernel
def Q4hi (Z : State) (u : Int32) (h0 : Heap) (n0 : Nat) (v : Option Value) (h : Heap) (L : List Loc) : Prop := v = some (.ref h0.size) ∧ Fr n0 L ∧ Keep h0 h [] ∧ Exa Z h h0.size "java/lang/Integer"
set_option maxRecDepth 65536 in
set_option maxHeartbeats 40000000 in
theorem rm4hi (l : Launch) (Z : State) (a0 : Array Value) (hw : ∀ d ∈ tables_1, d.before a0 Z = true) (ws : List Jvm.Cond) (u : Int32) (h0 : Heap) (n0 : Nat) (Z0 : n0 ≤ h0.size) (hl : ¬ u < (-128 : Int32)) (hu : (127 : Int32) < u) (SH : Sta Z h0 "java/lang/Integer$IntegerCache" "high" "I" (.int (127 : Int32))) :
    MetFree l (⟨"java/lang/Integer", "valueOf", "(I)Ljava/lang/Integer;"⟩ : MethodName) (head1 (Jvm.Cond.code (⟨"java/lang/Integer", "valueOf", "(I)Ljava/lang/Integer;"⟩ : MethodName) jdk_33_method_22_code 1 (some (.object "java/lang/Integer")) :: ws) ({ frames := 3, cells := 1, slots := 1, locals := 38 } : Room)) (fun zza zzU => zza = #[(.int u)] ∧ Z.Warmed39 zzU.vm ∧ zzU.heap = h0) (fun _ _ _ _ _ => True) (fun _ zzU zzo zzV => ∃ zzv zzL, zzo = .returned zzv ∧ Q4hi Z u h0 n0 zzv zzV.heap zzL ∧ FrameEnd zzU zzo zzV zzL ({ frames := 3, cells := 1, slots := 1, locals := 38 } : Room).cells ({ frames := 3, cells := 1, slots := 1, locals := 38 } : Room).slots) := by
  refine MetFree.of_bodySF (plainFor_of_name pn_3) hisR ?_
  intro p e s m args below meth c s₁ Bd hml0 hP hK
  obtain ⟨rfl, hZ, hh⟩ := hP
  have hx := Bd.exec
  have hby := Bd.bytes
  have hml : c.maxLocals = 1 := hml0
  have hown : s.vm.findClass "java/lang/Integer" = some m.cls := findClass_of_methodNamed Bd.named
  have hnm := (name_of_methodNamed Bd.named Bd.method).1
  have X0 : Stand p l e ({ frames := 3, cells := 1, slots := 1, locals := 38 } : Room) s m #[(.int u)] below meth c s₁ [] 0 0 := Stand.of_body Bd
  have e0 : s₁.heap = h0 := by rw [← hh, Bd.state]; rfl
  have N0 := Fr.nil n0
  have R0 : ∀ t, Steps p.tables e below (s₁.setTop (mkF m 0 #[.val (.int u)] [])) t → Steps p.tables e below (s₁.setTop (entryFrame m #[(.int u)] 1)) t := fun t k => castTop (ef4hi m u) k
  have KP := Keep.refl h0 []
  have R1 : ∀ t, Steps p.tables e below (s₁.setTop (mkF m 7 #[.val (.int u)] [(.int u)])) t → Steps p.tables e below (s₁.setTop (entryFrame m #[(.int u)] 1)) t := by
    intro t k
    refine R0 t ?_
    show Steps p.tables e below (s₁.setTop (mkF m 0 #[.val (.int u)] [])) _
    refine XS.iloadN X0.here hx rfl (hb hby d4_0) rfl ?_
    show Steps p.tables e below (s₁.setTop (mkF m 1 #[.val (.int u)] [(.int u)])) _
    refine XS.bipush X0.here hx rfl (hb hby d4_1) ?_
    show Steps p.tables e below (s₁.setTop (mkF m 3 #[.val (.int u)] [(.int (-128 : Int32)), (.int u)])) _
    refine XS.icmpNo X0.here hx rfl (hb hby d4_3) rfl (flt hl).1 ?_
    show Steps p.tables e below (s₁.setTop (mkF m 6 #[.val (.int u)] [])) _
    refine XS.iloadN X0.here hx rfl (hb hby d4_6) rfl ?_
    exact k
  obtain ⟨T2, X2, e2, st2⟩ := getS2 X0 hx hZ hown (host := "") (Or.inl (hw _ (List.mem_of_getElem? (i := 22) rfl))) Via.refl e0 SH (g := (mkF m 7 #[.val (.int u)] [(.int u)])) rfl (hb hby d4_7)
  have R3 : ∀ t, Steps p.tables e below (T2.setTop (mkF m 23 #[.val (.int u)] [])) t → Steps p.tables e below (s₁.setTop (entryFrame m #[(.int u)] 1)) t := by
    intro t k
    refine R1 t ?_
    show Steps p.tables e below (s₁.setTop (mkF m 7 #[.val (.int u)] [(.int u)])) _
    refine st2 _ ?_
    show Steps p.tables e below (T2.setTop (mkF m 10 #[.val (.int u)] [(.int (127 : Int32)), (.int u)])) _
    refine XS.icmpYes X2.here hx rfl (pc0 := 10) (pc' := 23) rfl (hb hby d4_10) rfl (tlt hu).2.2.1 (by decide) (by decide) ?_
    exact k
  obtain ⟨T4, h4, X4, e4, E4, A4, D4, -, st4⟩ := newO X2 hx hZ hown (hw _ (List.mem_of_getElem? (i := 35) rfl)) (hw _ (List.mem_of_getElem? (i := 36) rfl)) (hw _ (List.mem_of_getElem? (i := 20) rfl)) e2 (g := (mkF m 23 #[.val (.int u)] [])) rfl (hb hby d4_23) (by decide) (by decide)
  obtain ⟨b, g4⟩ : ∃ z, z = h0.size := ⟨_, rfl⟩
  rw [← g4] at A4 D4 st4
  have ge_b : n0 ≤ b := by rw [g4]; exact Z0
  have Sz4 := Nat.le_trans Z0 E4.1
  have sz0_b : h0.size ≤ b := by rw [g4]; exact KP.1
  have KP := KP.ext E4
  have E_b := A4
  have F_value_b : Fld Z h4 b "java/lang/Integer" "value" "I" (.int (0 : Int32)) := D4 (Or.inr (hw _ (List.mem_of_getElem? (i := 49) rfl))) (ty := .int) (by decide)
  have R5 : ∀ t, Steps p.tables e below (T4.setTop (mkF m 28 #[.val (.int u)] [(.int u), (.ref b), (.ref b)])) t → Steps p.tables e below (s₁.setTop (entryFrame m #[(.int u)] 1)) t := by
    intro t k
    refine R3 t ?_
    show Steps p.tables e below (T2.setTop (mkF m 23 #[.val (.int u)] [])) _
    refine st4 _ ?_
    show Steps p.tables e below (T4.setTop (mkF m 26 #[.val (.int u)] [(.ref b)])) _
    refine XS.dup X4.here hx rfl (hb hby d4_26) rfl rfl ?_
    show Steps p.tables e below (T4.setTop (mkF m 27 #[.val (.int u)] [(.ref b), (.ref b)])) _
    refine XS.iloadN X4.here hx rfl (hb hby d4_27) rfl ?_
    exact k
  obtain ⟨_, _, ⟨T6, L6, k6, n6⟩, -, X6, ⟨Lc6, hQ6, l6, y6, z6⟩, st6⟩ := X4.specialBack hx (y := (⟨"java/lang/Integer", "<init>", "(I)V"⟩ : MethodName)) rfl hown (mvT hZ (hw _ (List.mem_of_getElem? (i := 37) rfl))) (mvT hZ (hw _ (List.mem_of_getElem? (i := 38) rfl))) (mvT hZ (hw _ (List.mem_of_getElem? (i := 40) rfl))) (by decide) (backOf (W := 1) (rm6 l Z a0 hw [] b u h4 n0 Sz4 E_b F_value_b ge_b) hZ (hw _ (List.mem_of_getElem? (i := 40) rfl)) (hw _ (List.mem_of_getElem? (i := 20) rfl)) (by decide) (by decide)) (g := (mkF m 28 #[.val (.int u)] [(.int u), (.ref b), (.ref b)])) rfl (by rw [hml]; rfl) (Steps.refl _) (a := b) (argsL := [(.int u)]) (rest := [(.ref b)]) (lenOf pd_1 rfl) rfl (by show 2 * 0 + _ ≤ _; exact Nat.le_of_eq rfl) (hb hby d4_28) (fun _ _ => ⟨rfl, e4, (by decide : 1 + 0 ≤ _), (by decide : 1 + 0 ≤ _)⟩)
  dsimp only [Pt.U, Pt.locs, Pt.cells, Pt.slots] at X6 l6 y6 z6 st6 hQ6
  subst l6 y6 z6
  obtain ⟨rfl, Nq6, K6⟩ := hQ6
  have N6 := Fr.app N0 Nq6
  have Sz6 := Nat.le_trans Sz4 K6.1
  have E_b := E_b.keep K6
  have KP := KP.trans K6 (allS (Or.inr sz0_b) all0)
  have R7 : ∀ t, Steps p.tables e below (T6.setTop (mkF m 31 #[.val (.int u)] [(.ref b)])) t → Steps p.tables e below (s₁.setTop (entryFrame m #[(.int u)] 1)) t := by
    intro t k
    refine R5 t ?_
    show Steps p.tables e below (T4.setTop (mkF m 28 #[.val (.int u)] [(.int u), (.ref b), (.ref b)])) _
    refine st6.trans ?_
    exact k
  have gb : b = h0.size := g4
  obtain ⟨fs, hr, hrun, hended, hW, hsame⟩ := X6.leave (v := some (.ref b)) (fun h => by rw [Bd.returns] at h; cases h)
  refine ⟨_, _, R7 _ ?_, hrun, hended, _, _, rfl, ?_, ⟨_, rfl⟩, hW, hsame.mono (by decide) (by decide)⟩
  · exact retOut X6 hx Bd.returns rfl (Or.inr (Or.inr (Or.inr (Or.inr ⟨rfl, rfl, rfl⟩)))) (hb hby d4_31) hr
  · show Q4hi Z u h0 n0 _ T6.heap _
    exact ⟨(by rw [gb]), N6, KP, gb ▸ E_b⟩
theorem ef4ca (m : MethodId) (x0 : Int32) : entryFrame m #[(.int x0)] 1 = mkF m 0 #[.val (.int x0)] [] := by first | (simp [entryFrame, mkF, argsToLocals, Value.category]; done) | rfl
theorem d4_13 : decode jdk_33_method_22_code 13 = .ok (.getstatic 195, 3) := by decide +kernel
theorem d4_16 : decode jdk_33_method_22_code 16 = .ok (.iload_n 0, 1) := by decide +kernel
theorem d4_17 : decode jdk_33_method_22_code 17 = .ok (.sipush 128, 3) := by decide +kernel
theorem d4_20 : decode jdk_33_method_22_code 20 = .ok (.iadd, 1) := by decide +kernel
theorem d4_21 : decode jdk_33_method_22_code 21 = .ok (.aaload, 1) := by decide +kernel
theorem d4_22 : decode jdk_33_method_22_code 22 = .ok (.areturn, 1) := by decide +kernel
def Q4ca (Z : State) (u : Int32) (ca : Addr) (cl : Cell) (r : Addr) (h0 : Heap) (n0 : Nat) (v : Option Value) (h : Heap) (L : List Loc) : Prop := v = some (.ref r) ∧ Fr n0 L ∧ h = h0
set_option maxRecDepth 65536 in
set_option maxHeartbeats 40000000 in
theorem rm4ca (l : Launch) (Z : State) (a0 : Array Value) (hw : ∀ d ∈ tables_1, d.before a0 Z = true) (ws : List Jvm.Cond) (u : Int32) (ca : Addr) (cl : Cell) (r : Addr) (h0 : Heap) (n0 : Nat) (Z0 : n0 ≤ h0.size) (hl : ¬ u < (-128 : Int32)) (hu : ¬ (127 : Int32) < u) (SH : Sta Z h0 "java/lang/Integer$IntegerCache" "high" "I" (.int (127 : Int32))) (SC : Sta Z h0 "java/lang/Integer$IntegerCache" "cache" "[Ljava/lang/Integer;" (.ref ca)) (AC : Arr Z h0 ca cl (.object "java/lang/Integer")) (hin : ¬ ((u + (128 : Int32)) < 0 ∨ cl.slots.size ≤ (u + (128 : Int32)).toNatClampNeg)) (hat : cl.slots[(u + (128 : Int32)).toNatClampNeg]? = some (.ref r)) :
    MetFree l (⟨"java/lang/Integer", "valueOf", "(I)Ljava/lang/Integer;"⟩ : MethodName) (head1 (Jvm.Cond.code (⟨"java/lang/Integer", "valueOf", "(I)Ljava/lang/Integer;"⟩ : MethodName) jdk_33_method_22_code 1 (some (.object "java/lang/Integer")) :: ws) ({ frames := 0, cells := 0, slots := 0, locals := 0 } : Room)) (fun zza zzU => zza = #[(.int u)] ∧ Z.Warmed39 zzU.vm ∧ zzU.heap = h0) (fun _ _ _ _ _ => True) (fun _ zzU zzo zzV => ∃ zzv zzL, zzo = .returned zzv ∧ Q4ca Z u ca cl r h0 n0 zzv zzV.heap zzL ∧ FrameEnd zzU zzo zzV zzL ({ frames := 0, cells := 0, slots := 0, locals := 0 } : Room).cells ({ frames := 0, cells := 0, slots := 0, locals := 0 } : Room).slots) := by
  refine MetFree.of_bodySF (plainFor_of_name pn_3) hisR ?_
  intro p e s m args below meth c s₁ Bd hml0 hP hK
  obtain ⟨rfl, hZ, hh⟩ := hP
  have hx := Bd.exec
  have hby := Bd.bytes
  have hml : c.maxLocals = 1 := hml0
  have hown : s.vm.findClass "java/lang/Integer" = some m.cls := findClass_of_methodNamed Bd.named
  have hnm := (name_of_methodNamed Bd.named Bd.method).1
  have X0 : Stand p l e ({ frames := 0, cells := 0, slots := 0, locals := 0 } : Room) s m #[(.int u)] below meth c s₁ [] 0 0 := Stand.of_body Bd
  have e0 : s₁.heap = h0 := by rw [← hh, Bd.state]; rfl
  have N0 := Fr.nil n0
  have R0 : ∀ t, Steps p.tables e below (s₁.setTop (mkF m 0 #[.val (.int u)] [])) t → Steps p.tables e below (s₁.setTop (entryFrame m #[(.int u)] 1)) t := fun t k => castTop (ef4ca m u) k
  have R1 : ∀ t, Steps p.tables e below (s₁.setTop (mkF m 7 #[.val (.int u)] [(.int u)])) t → Steps p.tables e below (s₁.setTop (entryFrame m #[(.int u)] 1)) t := by
    intro t k
    refine R0 t ?_
    show Steps p.tables e below (s₁.setTop (mkF m 0 #[.val (.int u)] [])) _
    refine XS.iloadN X0.here hx rfl (hb hby d4_0) rfl ?_
    show Steps p.tables e below (s₁.setTop (mkF m 1 #[.val (.int u)] [(.int u)])) _
    refine XS.bipush X0.here hx rfl (hb hby d4_1) ?_
    show Steps p.tables e below (s₁.setTop (mkF m 3 #[.val (.int u)] [(.int (-128 : Int32)), (.int u)])) _
    refine XS.icmpNo X0.here hx rfl (hb hby d4_3) rfl (flt hl).1 ?_
    show Steps p.tables e below (s₁.setTop (mkF m 6 #[.val (.int u)] [])) _
    refine XS.iloadN X0.here hx rfl (hb hby d4_6) rfl ?_
    exact k
  obtain ⟨T2, X2, e2, st2⟩ := getS2 X0 hx hZ hown (host := "") (Or.inl (hw _ (List.mem_of_getElem? (i := 22) rfl))) Via.refl e0 SH (g := (mkF m 7 #[.val (.int u)] [(.int u)])) rfl (hb hby d4_7)
  have R3 : ∀ t, Steps p.tables e below (T2.setTop (mkF m 13 #[.val (.int u)] [])) t → Steps p.tables e below (s₁.setTop (entryFrame m #[(.int u)] 1)) t := by
    intro t k
    refine R1 t ?_
    show Steps p.tables e below (s₁.setTop (mkF m 7 #[.val (.int u)] [(.int u)])) _
    refine st2 _ ?_
    show Steps p.tables e below (T2.setTop (mkF m 10 #[.val (.int u)] [(.int (127 : Int32)), (.int u)])) _
    refine XS.icmpNo X2.here hx rfl (hb hby d4_10) rfl (flt hu).2.2.1 ?_
    exact k
  obtain ⟨T4, X4, e4, st4⟩ := getS2 X2 hx hZ hown (host := "") (Or.inl (hw _ (List.mem_of_getElem? (i := 24) rfl))) Via.refl e2 SC (g := (mkF m 13 #[.val (.int u)] [])) rfl (hb hby d4_13)
  have R5 : ∀ t, Steps p.tables e below (T4.setTop (mkF m 22 #[.val (.int u)] [(.ref r)])) t → Steps p.tables e below (s₁.setTop (entryFrame m #[(.int u)] 1)) t := by
    intro t k
    refine R3 t ?_
    show Steps p.tables e below (T2.setTop (mkF m 13 #[.val (.int u)] [])) _
    refine st4 _ ?_
    show Steps p.tables e below (T4.setTop (mkF m 16 #[.val (.int u)] [(.ref ca)])) _
    refine XS.iloadN X4.here hx rfl (hb hby d4_16) rfl ?_
    show Steps p.tables e below (T4.setTop (mkF m 17 #[.val (.int u)] [(.int u), (.ref ca)])) _
    refine XS.sipush X4.here hx rfl (hb hby d4_17) ?_
    show Steps p.tables e below (T4.setTop (mkF m 20 #[.val (.int u)] [(.int (128 : Int32)), (.int u), (.ref ca)])) _
    refine XS.iadd X4.here hx rfl (hb hby d4_20) rfl ?_
    show Steps p.tables e below (T4.setTop (mkF m 21 #[.val (.int u)] [(.int (u + (128 : Int32))), (.ref ca)])) _
    refine X4.aaload hx (j := (u + (128 : Int32))) (v := .ref r) (by rw [e4]; exact AC.1) (State.isArrayOf_alike hZ.alike AC.2.1) rfl AC.2.2 hin hat (g := (mkF m 21 #[.val (.int u)] [(.int (u + (128 : Int32))), (.ref ca)])) rfl rfl (hb hby d4_21) _ ?_
    exact k
  obtain ⟨fs, hr, hrun, hended, hW, hsame⟩ := X4.leave (v := some (.ref r)) (fun h => by rw [Bd.returns] at h; cases h)
  refine ⟨_, _, R5 _ ?_, hrun, hended, _, _, rfl, ?_, ⟨_, rfl⟩, hW, hsame.mono (by decide) (by decide)⟩
  · exact retOut X4 hx Bd.returns rfl (Or.inr (Or.inr (Or.inr (Or.inr ⟨rfl, rfl, rfl⟩)))) (hb hby d4_22) hr
  · show Q4ca Z u ca cl r h0 n0 _ T4.heap _
    rw [e4]
    exact ⟨rfl, N0, rfl⟩
theorem ef5r (m : MethodId) (x0 : Addr) (x1 : Addr) : entryFrame m #[(.ref x0), (.ref x1)] 2 = mkF m 0 #[.val (.ref x0), .val (.ref x1)] [] := by first | (simp [entryFrame, mkF, argsToLocals, Value.category]; done) | rfl
theorem d5_0 : decode prog_58_method_3_code 0 = .ok (.aload_n 1, 1) := by decide +kernel
theorem d5_1 : decode prog_58_method_3_code 1 = .ok (.instanceof 8, 3) := by decide +kernel
theorem d5_4 : decode prog_58_method_3_code 4 = .ok (.ifCond .eq 35, 3) := by decide +kernel
theorem d5_7 : decode prog_58_method_3_code 7 = .ok (.aload_n 0, 1) := by decide +kernel
theorem d5_8 : decode prog_58_method_3_code 8 = .ok (.getfield 7, 3) := by decide +kernel
theorem d5_11 : decode prog_58_method_3_code 11 = .ok (.aload_n 1, 1) := by decide +kernel
theorem d5_12 : decode prog_58_method_3_code 12 = .ok (.checkcast 8, 3) := by decide +kernel
theorem d5_15 : decode prog_58_method_3_code 15 = .ok (.getfield 7, 3) := by decide +kernel
theorem d5_18 : decode prog_58_method_3_code 18 = .ok (.if_icmp .ne 21, 3) := by decide +kernel
theorem d5_21 : decode prog_58_method_3_code 21 = .ok (.aload_n 0, 1) := by decide +kernel
theorem d5_22 : decode prog_58_method_3_code 22 = .ok (.getfield 13, 3) := by decide +kernel
theorem d5_25 : decode prog_58_method_3_code 25 = .ok (.aload_n 1, 1) := by decide +kernel
theorem d5_26 : decode prog_58_method_3_code 26 = .ok (.checkcast 8, 3) := by decide +kernel
theorem d5_29 : decode prog_58_method_3_code 29 = .ok (.getfield 13, 3) := by decide +kernel
theorem d5_32 : decode prog_58_method_3_code 32 = .ok (.if_icmp .ne 7, 3) := by decide +kernel
theorem d5_35 : decode prog_58_method_3_code 35 = .ok (.iconst 1, 1) := by decide +kernel
theorem d5_36 : decode prog_58_method_3_code 36 = .ok (.goto 4, 3) := by decide +kernel
theorem d5_40 : decode prog_58_method_3_code 40 = .ok (.ireturn, 1) := by decide +kernel
theorem d5_39 : decode prog_58_method_3_code 39 = .ok (.iconst 0, 1) := by decide +kernel
def Q5r (Z : State) (a : Addr) (b : Addr) (s1 : Int32) (m1 : Int32) (s2 : Int32) (m2 : Int32) (h0 : Heap) (n0 : Nat) (v : Option Value) (h : Heap) (L : List Loc) : Prop := v = some (.int (if s1 = s2 then (if m1 = m2 then (1 : Int32) else (0 : Int32)) else (0 : Int32))) ∧ Fr n0 L ∧ h = h0
set_option maxRecDepth 65536 in
set_option maxHeartbeats 40000000 in
theorem rm5r (l : Launch) (Z : State) (a0 : Array Value) (hw : ∀ d ∈ tables_1, d.before a0 Z = true) (ws : List Jvm.Cond) (a : Addr) (b : Addr) (s1 : Int32) (m1 : Int32) (s2 : Int32) (m2 : Int32) (h0 : Heap) (n0 : Nat) (Z0 : n0 ≤ h0.size) (F_sfi_a : Fld Z h0 a "com/example/tapline/emv/RecordNumber" "sfi" "I" (.int s1)) (F_number_a : Fld Z h0 a "com/example/tapline/emv/RecordNumber" "number" "I" (.int m1)) (F_sfi_b : Fld Z h0 b "com/example/tapline/emv/RecordNumber" "sfi" "I" (.int s2)) (F_number_b : Fld Z h0 b "com/example/tapline/emv/RecordNumber" "number" "I" (.int m2)) (E_b : Exa Z h0 b "com/example/tapline/emv/RecordNumber") :
    MetFree l (⟨"com/example/tapline/emv/RecordNumber", "equals", "(Ljava/lang/Object;)Z"⟩ : MethodName) (head1 (Jvm.Cond.code (⟨"com/example/tapline/emv/RecordNumber", "equals", "(Ljava/lang/Object;)Z"⟩ : MethodName) prog_58_method_3_code 2 (some .boolean) :: ws) ({ frames := 0, cells := 0, slots := 0, locals := 0 } : Room)) (fun zza zzU => zza = #[(.ref a), (.ref b)] ∧ Z.Warmed39 zzU.vm ∧ zzU.heap = h0) (fun _ _ _ _ _ => True) (fun _ zzU zzo zzV => ∃ zzv zzL, zzo = .returned zzv ∧ Q5r Z a b s1 m1 s2 m2 h0 n0 zzv zzV.heap zzL ∧ FrameEnd zzU zzo zzV zzL ({ frames := 0, cells := 0, slots := 0, locals := 0 } : Room).cells ({ frames := 0, cells := 0, slots := 0, locals := 0 } : Room).slots) := by
  refine MetFree.of_bodySF (plainFor_of_name pn_2) hisR ?_
  intro p e s m args below meth c s₁ Bd hml0 hP hK
  obtain ⟨rfl, hZ, hh⟩ := hP
  have hx := Bd.exec
  have hby := Bd.bytes
  have hml : c.maxLocals = 2 := hml0
  have hown : s.vm.findClass "com/example/tapline/emv/RecordNumber" = some m.cls := findClass_of_methodNamed Bd.named
  have hnm := (name_of_methodNamed Bd.named Bd.method).1
  have X0 : Stand p l e ({ frames := 0, cells := 0, slots := 0, locals := 0 } : Room) s m #[(.ref a), (.ref b)] below meth c s₁ [] 0 0 := Stand.of_body Bd
  have e0 : s₁.heap = h0 := by rw [← hh, Bd.state]; rfl
  have N0 := Fr.nil n0
  have R0 : ∀ t, Steps p.tables e below (s₁.setTop (mkF m 0 #[.val (.ref a), .val (.ref b)] [])) t → Steps p.tables e below (s₁.setTop (entryFrame m #[(.ref a), (.ref b)] 2)) t := fun t k => castTop (ef5r m a b) k
  have R1 : ∀ t, Steps p.tables e below (s₁.setTop (mkF m 1 #[.val (.ref a), .val (.ref b)] [(.ref b)])) t → Steps p.tables e below (s₁.setTop (entryFrame m #[(.ref a), (.ref b)] 2)) t := by
    intro t k
    refine R0 t ?_
    show Steps p.tables e below (s₁.setTop (mkF m 0 #[.val (.ref a), .val (.ref b)] [])) _
    refine XS.aloadN X0.here hx rfl (hb hby d5_0) rfl rfl ?_
    exact k
  obtain ⟨T2, X2, e2, st2⟩ := instY X0 hx hZ hown (hw _ (List.mem_of_getElem? (i := 30) rfl)) e0 (Ins.self E_b) (g := (mkF m 1 #[.val (.ref a), .val (.ref b)] [(.ref b)])) rfl rfl (hb hby d5_1)
  have R3 : ∀ t, Steps p.tables e below (T2.setTop (mkF m 8 #[.val (.ref a), .val (.ref b)] [(.ref a)])) t → Steps p.tables e below (s₁.setTop (entryFrame m #[(.ref a), (.ref b)] 2)) t := by
    intro t k
    refine R1 t ?_
    show Steps p.tables e below (s₁.setTop (mkF m 1 #[.val (.ref a), .val (.ref b)] [(.ref b)])) _
    refine st2 _ ?_
    show Steps p.tables e below (T2.setTop (mkF m 4 #[.val (.ref a), .val (.ref b)] [(.int (1 : Int32))])) _
    refine XS.ifNo X2.here hx rfl (hb hby d5_4) rfl ((if0 _ _).trans (feq (by decide)).1) ?_
    show Steps p.tables e below (T2.setTop (mkF m 7 #[.val (.ref a), .val (.ref b)] [])) _
    refine XS.aloadN X2.here hx rfl (hb hby d5_7) rfl rfl ?_
    exact k
  obtain ⟨T4, X4, e4, st4⟩ := getF X2 hx hZ hown (host := "") (Or.inl (hw _ (List.mem_of_getElem? (i := 14) rfl))) Via.refl e2 F_sfi_a (g := (mkF m 8 #[.val (.ref a), .val (.ref b)] [(.ref a)])) rfl rfl (hb hby d5_8)
  have R5 : ∀ t, Steps p.tables e below (T4.setTop (mkF m 12 #[.val (.ref a), .val (.ref b)] [(.ref b), (.int s1)])) t → Steps p.tables e below (s₁.setTop (entryFrame m #[(.ref a), (.ref b)] 2)) t := by
    intro t k
    refine R3 t ?_
    show Steps p.tables e below (T2.setTop (mkF m 8 #[.val (.ref a), .val (.ref b)] [(.ref a)])) _
    refine st4 _ ?_
    show Steps p.tables e below (T4.setTop (mkF m 11 #[.val (.ref a), .val (.ref b)] [(.int s1)])) _
    refine XS.aloadN X4.here hx rfl (hb hby d5_11) rfl rfl ?_
    exact k
  obtain ⟨T6, X6, e6, st6⟩ := castY X4 hx hZ hown (hw _ (List.mem_of_getElem? (i := 30) rfl)) e4 (Ins.self E_b) (g := (mkF m 12 #[.val (.ref a), .val (.ref b)] [(.ref b), (.int s1)])) rfl rfl (hb hby d5_12)
  have R7 : ∀ t, Steps p.tables e below (T6.setTop (mkF m 15 #[.val (.ref a), .val (.ref b)] [(.ref b), (.int s1)])) t → Steps p.tables e below (s₁.setTop (entryFrame m #[(.ref a), (.ref b)] 2)) t := by
    intro t k
    refine R5 t ?_
    show Steps p.tables e below (T4.setTop (mkF m 12 #[.val (.ref a), .val (.ref b)] [(.ref b), (.int s1)])) _
    refine st6 _ ?_
    exact k
  obtain ⟨T8, X8, e8, st8⟩ := getF X6 hx hZ hown (host := "") (Or.inl (hw _ (List.mem_of_getElem? (i := 14) rfl))) Via.refl e6 F_sfi_b (g := (mkF m 15 #[.val (.ref a), .val (.ref b)] [(.ref b), (.int s1)])) rfl rfl (hb hby d5_15)
  have R9 : ∀ t, Steps p.tables e below (T8.setTop (mkF m 18 #[.val (.ref a), .val (.ref b)] [(.int s2), (.int s1)])) t → Steps p.tables e below (s₁.setTop (entryFrame m #[(.ref a), (.ref b)] 2)) t := by
    intro t k
    refine R7 t ?_
    show Steps p.tables e below (T6.setTop (mkF m 15 #[.val (.ref a), .val (.ref b)] [(.ref b), (.int s1)])) _
    refine st8 _ ?_
    exact k
  by_cases hc10 : s1 = s2
  ·
    skip
    have R11 : ∀ t, Steps p.tables e below (T8.setTop (mkF m 22 #[.val (.ref a), .val (.ref b)] [(.ref a)])) t → Steps p.tables e below (s₁.setTop (entryFrame m #[(.ref a), (.ref b)] 2)) t := by
      intro t k
      refine R9 t ?_
      show Steps p.tables e below (T8.setTop (mkF m 18 #[.val (.ref a), .val (.ref b)] [(.int s2), (.int s1)])) _
      refine XS.icmpNo X8.here hx rfl (hb hby d5_18) rfl (teq hc10).2 ?_
      show Steps p.tables e below (T8.setTop (mkF m 21 #[.val (.ref a), .val (.ref b)] [])) _
      refine XS.aloadN X8.here hx rfl (hb hby d5_21) rfl rfl ?_
      exact k
    obtain ⟨T12, X12, e12, st12⟩ := getF X8 hx hZ hown (host := "") (Or.inl (hw _ (List.mem_of_getElem? (i := 16) rfl))) Via.refl e8 F_number_a (g := (mkF m 22 #[.val (.ref a), .val (.ref b)] [(.ref a)])) rfl rfl (hb hby d5_22)
    have R13 : ∀ t, Steps p.tables e below (T12.setTop (mkF m 26 #[.val (.ref a), .val (.ref b)] [(.ref b), (.int m1)])) t → Steps p.tables e below (s₁.setTop (entryFrame m #[(.ref a), (.ref b)] 2)) t := by
      intro t k
      refine R11 t ?_
      show Steps p.tables e below (T8.setTop (mkF m 22 #[.val (.ref a), .val (.ref b)] [(.ref a)])) _
      refine st12 _ ?_
      show Steps p.tables e below (T12.setTop (mkF m 25 #[.val (.ref a), .val (.ref b)] [(.int m1)])) _
      refine XS.aloadN X12.here hx rfl (hb hby d5_25) rfl rfl ?_
      exact k
    obtain ⟨T14, X14, e14, st14⟩ := castY X12 hx hZ hown (hw _ (List.mem_of_getElem? (i := 30) rfl)) e12 (Ins.self E_b) (g := (mkF m 26 #[.val (.ref a), .val (.ref b)] [(.ref b), (.int m1)])) rfl rfl (hb hby d5_26)
    have R15 : ∀ t, Steps p.tables e below (T14.setTop (mkF m 29 #[.val (.ref a), .val (.ref b)] [(.ref b), (.int m1)])) t → Steps p.tables e below (s₁.setTop (entryFrame m #[(.ref a), (.ref b)] 2)) t := by
      intro t k
      refine R13 t ?_
      show Steps p.tables e below (T12.setTop (mkF m 26 #[.val (.ref a), .val (.ref b)] [(.ref b), (.int m1)])) _
      refine st14 _ ?_
      exact k
    obtain ⟨T16, X16, e16, st16⟩ := getF X14 hx hZ hown (host := "") (Or.inl (hw _ (List.mem_of_getElem? (i := 16) rfl))) Via.refl e14 F_number_b (g := (mkF m 29 #[.val (.ref a), .val (.ref b)] [(.ref b), (.int m1)])) rfl rfl (hb hby d5_29)
    have R17 : ∀ t, Steps p.tables e below (T16.setTop (mkF m 32 #[.val (.ref a), .val (.ref b)] [(.int m2), (.int m1)])) t → Steps p.tables e below (s₁.setTop (entryFrame m #[(.ref a), (.ref b)] 2)) t := by
      intro t k
      refine R15 t ?_
      show Steps p.tables e below (T14.setTop (mkF m 29 #[.val (.ref a), .val (.ref b)] [(.ref b), (.int m1)])) _
      refine st16 _ ?_
      exact k
    by_cases hc18 : m1 = m2
    ·
      skip
      have R19 : ∀ t, Steps p.tables e below (T16.setTop (mkF m 40 #[.val (.ref a), .val (.ref b)] [(.int (1 : Int32))])) t → Steps p.tables e below (s₁.setTop (entryFrame m #[(.ref a), (.ref b)] 2)) t := by
        intro t k
        refine R17 t ?_
        show Steps p.tables e below (T16.setTop (mkF m 32 #[.val (.ref a), .val (.ref b)] [(.int m2), (.int m1)])) _
        refine XS.icmpNo X16.here hx rfl (hb hby d5_32) rfl (teq hc18).2 ?_
        show Steps p.tables e below (T16.setTop (mkF m 35 #[.val (.ref a), .val (.ref b)] [])) _
        refine XS.iconst X16.here hx rfl (hb hby d5_35) ?_
        show Steps p.tables e below (T16.setTop (mkF m 36 #[.val (.ref a), .val (.ref b)] [(.int (1 : Int32))])) _
        refine XS.goto X16.here hx rfl (pc0 := 36) (pc' := 40) rfl (hb hby d5_36) (by decide) (by decide) ?_
        exact k
      obtain ⟨fs, hr, hrun, hended, hW, hsame⟩ := X16.leave (v := some (.int (1 : Int32))) (fun h => by rw [Bd.returns] at h; cases h)
      refine ⟨_, _, R19 _ ?_, hrun, hended, _, _, rfl, ?_, ⟨_, rfl⟩, hW, hsame.mono (by decide) (by decide)⟩
      · exact retN X16 hx (t := .boolean) Bd.returns (by simp) (hb hby d5_40) hr
      · show Q5r Z a b s1 m1 s2 m2 h0 n0 _ T16.heap _
        rw [e16]
        exact ⟨(by rw [if_pos hc10, if_pos hc18]), N0, rfl⟩
    ·
      skip
      have R20 : ∀ t, Steps p.tables e below (T16.setTop (mkF m 40 #[.val (.ref a), .val (.ref b)] [(.int (0 : Int32))])) t → Steps p.tables e below (s₁.setTop (entryFrame m #[(.ref a), (.ref b)] 2)) t := by
        intro t k
        refine R17 t ?_
        show Steps p.tables e below (T16.setTop (mkF m 32 #[.val (.ref a), .val (.ref b)] [(.int m2), (.int m1)])) _
        refine XS.icmpYes X16.here hx rfl (pc0 := 32) (pc' := 39) rfl (hb hby d5_32) rfl (feq hc18).2 (by decide) (by decide) ?_
        show Steps p.tables e below (T16.setTop (mkF m 39 #[.val (.ref a), .val (.ref b)] [])) _
        refine XS.iconst X16.here hx rfl (hb hby d5_39) ?_
        exact k
      obtain ⟨fs, hr, hrun, hended, hW, hsame⟩ := X16.leave (v := some (.int (0 : Int32))) (fun h => by rw [Bd.returns] at h; cases h)
      refine ⟨_, _, R20 _ ?_, hrun, hended, _, _, rfl, ?_, ⟨_, rfl⟩, hW, hsame.mono (by decide) (by decide)⟩
      · exact retN X16 hx (t := .boolean) Bd.returns (by simp) (hb hby d5_40) hr
      · show Q5r Z a b s1 m1 s2 m2 h0 n0 _ T16.heap _
        rw [e16]
        exact ⟨(by rw [if_pos hc10, if_neg hc18]), N0, rfl⟩
  ·
    skip
    have R21 : ∀ t, Steps p.tables e below (T8.setTop (mkF m 40 #[.val (.ref a), .val (.ref b)] [(.int (0 : Int32))])) t → Steps p.tables e below (s₁.setTop (entryFrame m #[(.ref a), (.ref b)] 2)) t := by
      intro t k
      refine R9 t ?_
      show Steps p.tables e below (T8.setTop (mkF m 18 #[.val (.ref a), .val (.ref b)] [(.int s2), (.int s1)])) _
      refine XS.icmpYes X8.here hx rfl (pc0 := 18) (pc' := 39) rfl (hb hby d5_18) rfl (feq hc10).2 (by decide) (by decide) ?_
      show Steps p.tables e below (T8.setTop (mkF m 39 #[.val (.ref a), .val (.ref b)] [])) _
      refine XS.iconst X8.here hx rfl (hb hby d5_39) ?_
      exact k
    obtain ⟨fs, hr, hrun, hended, hW, hsame⟩ := X8.leave (v := some (.int (0 : Int32))) (fun h => by rw [Bd.returns] at h; cases h)
    refine ⟨_, _, R21 _ ?_, hrun, hended, _, _, rfl, ?_, ⟨_, rfl⟩, hW, hsame.mono (by decide) (by decide)⟩
    · exact retN X8 hx (t := .boolean) Bd.returns (by simp) (hb hby d5_40) hr
    · show Q5r Z a b s1 m1 s2 m2 h0 n0 _ T8.heap _
      rw [e8]
      exact ⟨(by rw [if_neg hc10]), N0, rfl⟩
theorem ef5n (m : MethodId) (x0 : Addr) : entryFrame m #[(.ref x0), .null] 2 = mkF m 0 #[.val (.ref x0), .val .null] [] := by first | (simp [entryFrame, mkF, argsToLocals, Value.category]; done) | rfl
def Q5n (Z : State) (a : Addr) (h0 : Heap) (n0 : Nat) (v : Option Value) (h : Heap) (L : List Loc) : Prop := v = some (.int (0 : Int32)) ∧ Fr n0 L ∧ h = h0
set_option maxRecDepth 65536 in
set_option maxHeartbeats 40000000 in
theorem rm5n (l : Launch) (Z : State) (a0 : Array Value) (hw : ∀ d ∈ tables_1, d.before a0 Z = true) (ws : List Jvm.Cond) (a : Addr) (h0 : Heap) (n0 : Nat) (Z0 : n0 ≤ h0.size)  :
    MetFree l (⟨"com/example/tapline/emv/RecordNumber", "equals", "(Ljava/lang/Object;)Z"⟩ : MethodName) (head1 (Jvm.Cond.code (⟨"com/example/tapline/emv/RecordNumber", "equals", "(Ljava/lang/Object;)Z"⟩ : MethodName) prog_58_method_3_code 2 (some .boolean) :: ws) ({ frames := 0, cells := 0, slots := 0, locals := 0 } : Room)) (fun zza zzU => zza = #[(.ref a), .null] ∧ Z.Warmed39 zzU.vm ∧ zzU.heap = h0) (fun _ _ _ _ _ => True) (fun _ zzU zzo zzV => ∃ zzv zzL, zzo = .returned zzv ∧ Q5n Z a h0 n0 zzv zzV.heap zzL ∧ FrameEnd zzU zzo zzV zzL ({ frames := 0, cells := 0, slots := 0, locals := 0 } : Room).cells ({ frames := 0, cells := 0, slots := 0, locals := 0 } : Room).slots) := by
  refine MetFree.of_bodySF (plainFor_of_name pn_2) hisR ?_
  intro p e s m args below meth c s₁ Bd hml0 hP hK
  obtain ⟨rfl, hZ, hh⟩ := hP
  have hx := Bd.exec
  have hby := Bd.bytes
  have hml : c.maxLocals = 2 := hml0
  have hown : s.vm.findClass "com/example/tapline/emv/RecordNumber" = some m.cls := findClass_of_methodNamed Bd.named
  have hnm := (name_of_methodNamed Bd.named Bd.method).1
  have X0 : Stand p l e ({ frames := 0, cells := 0, slots := 0, locals := 0 } : Room) s m #[(.ref a), .null] below meth c s₁ [] 0 0 := Stand.of_body Bd
  have e0 : s₁.heap = h0 := by rw [← hh, Bd.state]; rfl
  have N0 := Fr.nil n0
  have R0 : ∀ t, Steps p.tables e below (s₁.setTop (mkF m 0 #[.val (.ref a), .val .null] [])) t → Steps p.tables e below (s₁.setTop (entryFrame m #[(.ref a), .null] 2)) t := fun t k => castTop (ef5n m a) k
  have R1 : ∀ t, Steps p.tables e below (s₁.setTop (mkF m 1 #[.val (.ref a), .val .null] [.null])) t → Steps p.tables e below (s₁.setTop (entryFrame m #[(.ref a), .null] 2)) t := by
    intro t k
    refine R0 t ?_
    show Steps p.tables e below (s₁.setTop (mkF m 0 #[.val (.ref a), .val .null] [])) _
    refine XS.aloadN X0.here hx rfl (hb hby d5_0) rfl rfl ?_
    exact k
  have R3 : ∀ t, Steps p.tables e below (s₁.setTop (mkF m 40 #[.val (.ref a), .val .null] [(.int (0 : Int32))])) t → Steps p.tables e below (s₁.setTop (entryFrame m #[(.ref a), .null] 2)) t := by
    intro t k
    refine R1 t ?_
    show Steps p.tables e below (s₁.setTop (mkF m 1 #[.val (.ref a), .val .null] [.null])) _
    refine X0.instanceofNull hx (g := (mkF m 1 #[.val (.ref a), .val .null] [.null])) rfl rfl (hb hby d5_1) _ ?_
    show Steps p.tables e below (s₁.setTop (mkF m 4 #[.val (.ref a), .val .null] [(.int (0 : Int32))])) _
    refine XS.ifYes X0.here hx rfl (pc0 := 4) (pc' := 39) rfl (hb hby d5_4) rfl ((if0 _ _).trans (teq (by decide)).1) (by decide) (by decide) ?_
    show Steps p.tables e below (s₁.setTop (mkF m 39 #[.val (.ref a), .val .null] [])) _
    refine XS.iconst X0.here hx rfl (hb hby d5_39) ?_
    exact k
  obtain ⟨fs, hr, hrun, hended, hW, hsame⟩ := X0.leave (v := some (.int (0 : Int32))) (fun h => by rw [Bd.returns] at h; cases h)
  refine ⟨_, _, R3 _ ?_, hrun, hended, _, _, rfl, ?_, ⟨_, rfl⟩, hW, hsame.mono (by decide) (by decide)⟩
  · exact retN X0 hx (t := .boolean) Bd.returns (by simp) (hb hby d5_40) hr
  · show Q5n Z a h0 n0 _ s₁.heap _
    rw [e0]
    exact ⟨rfl, N0, rfl⟩
theorem ef5i (m : MethodId) (x0 : Addr) (x1 : Addr) : entryFrame m #[(.ref x0), (.ref x1)] 2 = mkF m 0 #[.val (.ref x0), .val (.ref x1)] [] := by first | (simp [entryFrame, mkF, argsToLocals, Value.category]; done) | rfl
def Q5i (Z : State) (a : Addr) (b : Addr) (h0 : Heap) (n0 : Nat) (v : Option Value) (h : Heap) (L : List Loc) : Prop := v = some (.int (0 : Int32)) ∧ Fr n0 L ∧ h = h0
set_option maxRecDepth 65536 in
set_option maxHeartbeats 40000000 in
theorem rm5i (l : Launch) (Z : State) (a0 : Array Value) (hw : ∀ d ∈ tables_1, d.before a0 Z = true) (ws : List Jvm.Cond) (a : Addr) (b : Addr) (h0 : Heap) (n0 : Nat) (Z0 : n0 ≤ h0.size) (E_b : Exa Z h0 b "java/lang/Integer") :
    MetFree l (⟨"com/example/tapline/emv/RecordNumber", "equals", "(Ljava/lang/Object;)Z"⟩ : MethodName) (head1 (Jvm.Cond.code (⟨"com/example/tapline/emv/RecordNumber", "equals", "(Ljava/lang/Object;)Z"⟩ : MethodName) prog_58_method_3_code 2 (some .boolean) :: ws) ({ frames := 0, cells := 0, slots := 0, locals := 0 } : Room)) (fun zza zzU => zza = #[(.ref a), (.ref b)] ∧ Z.Warmed39 zzU.vm ∧ zzU.heap = h0) (fun _ _ _ _ _ => True) (fun _ zzU zzo zzV => ∃ zzv zzL, zzo = .returned zzv ∧ Q5i Z a b h0 n0 zzv zzV.heap zzL ∧ FrameEnd zzU zzo zzV zzL ({ frames := 0, cells := 0, slots := 0, locals := 0 } : Room).cells ({ frames := 0, cells := 0, slots := 0, locals := 0 } : Room).slots) := by
  refine MetFree.of_bodySF (plainFor_of_name pn_2) hisR ?_
  intro p e s m args below meth c s₁ Bd hml0 hP hK
  obtain ⟨rfl, hZ, hh⟩ := hP
  have hx := Bd.exec
  have hby := Bd.bytes
  have hml : c.maxLocals = 2 := hml0
  have hown : s.vm.findClass "com/example/tapline/emv/RecordNumber" = some m.cls := findClass_of_methodNamed Bd.named
  have hnm := (name_of_methodNamed Bd.named Bd.method).1
  have X0 : Stand p l e ({ frames := 0, cells := 0, slots := 0, locals := 0 } : Room) s m #[(.ref a), (.ref b)] below meth c s₁ [] 0 0 := Stand.of_body Bd
  have e0 : s₁.heap = h0 := by rw [← hh, Bd.state]; rfl
  have N0 := Fr.nil n0
  have R0 : ∀ t, Steps p.tables e below (s₁.setTop (mkF m 0 #[.val (.ref a), .val (.ref b)] [])) t → Steps p.tables e below (s₁.setTop (entryFrame m #[(.ref a), (.ref b)] 2)) t := fun t k => castTop (ef5i m a b) k
  have R1 : ∀ t, Steps p.tables e below (s₁.setTop (mkF m 1 #[.val (.ref a), .val (.ref b)] [(.ref b)])) t → Steps p.tables e below (s₁.setTop (entryFrame m #[(.ref a), (.ref b)] 2)) t := by
    intro t k
    refine R0 t ?_
    show Steps p.tables e below (s₁.setTop (mkF m 0 #[.val (.ref a), .val (.ref b)] [])) _
    refine XS.aloadN X0.here hx rfl (hb hby d5_0) rfl rfl ?_
    exact k
  obtain ⟨T2, X2, e2, st2⟩ := instNo X0 hx hZ hown (hw _ (List.mem_of_getElem? (i := 30) rfl)) e0 E_b (own_not (hw _ (List.mem_of_getElem? (i := 32) rfl)) (hw _ (List.mem_of_getElem? (i := 1) rfl)) (NS.step (hw _ (List.mem_of_getElem? (i := 32) rfl)) (NS.step (hw _ (List.mem_of_getElem? (i := 33) rfl)) (own_root (hw _ (List.mem_of_getElem? (i := 34) rfl)) (hw _ (List.mem_of_getElem? (i := 1) rfl)) (by decide)) (by decide)) (by decide)) (by decide)) (g := (mkF m 1 #[.val (.ref a), .val (.ref b)] [(.ref b)])) rfl rfl (hb hby d5_1)
  have R3 : ∀ t, Steps p.tables e below (T2.setTop (mkF m 40 #[.val (.ref a), .val (.ref b)] [(.int (0 : Int32))])) t → Steps p.tables e below (s₁.setTop (entryFrame m #[(.ref a), (.ref b)] 2)) t := by
    intro t k
    refine R1 t ?_
    show Steps p.tables e below (s₁.setTop (mkF m 1 #[.val (.ref a), .val (.ref b)] [(.ref b)])) _
    refine st2 _ ?_
    show Steps p.tables e below (T2.setTop (mkF m 4 #[.val (.ref a), .val (.ref b)] [(.int (0 : Int32))])) _
    refine XS.ifYes X2.here hx rfl (pc0 := 4) (pc' := 39) rfl (hb hby d5_4) rfl ((if0 _ _).trans (teq (by decide)).1) (by decide) (by decide) ?_
    show Steps p.tables e below (T2.setTop (mkF m 39 #[.val (.ref a), .val (.ref b)] [])) _
    refine XS.iconst X2.here hx rfl (hb hby d5_39) ?_
    exact k
  obtain ⟨fs, hr, hrun, hended, hW, hsame⟩ := X2.leave (v := some (.int (0 : Int32))) (fun h => by rw [Bd.returns] at h; cases h)
  refine ⟨_, _, R3 _ ?_, hrun, hended, _, _, rfl, ?_, ⟨_, rfl⟩, hW, hsame.mono (by decide) (by decide)⟩
  · exact retN X2 hx (t := .boolean) Bd.returns (by simp) (hb hby d5_40) hr
  · show Q5i Z a b h0 n0 _ T2.heap _
    rw [e2]
    exact ⟨rfl, N0, rfl⟩
theorem ef0 (m : MethodId) (x0 : Int32) (x1 : Int32) (x2 : Int32) (x3 : Int32) (x4 : Int32) : entryFrame m #[(.int x0), (.int x1), (.int x2), (.int x3), (.int x4)] maxLocals = mkF m 0 #[.val (.int x0), .val (.int x1), .val (.int x2), .val (.int x3), .val (.int x4), .unset, .unset, .unset, .unset, .unset, .unset, .unset, .unset, .unset, .unset, .unset] [] := by first | (simp [entryFrame, mkF, argsToLocals, Value.category, maxLocals]; done) | rfl
theorem pn_4 : plainName "com/example/tapline/emv/RecordNumberEqualsPinLaw" = true := by first | (simp [plainName, overriddenIn]; done) | decide +kernel
theorem pd_2 : parseMethodDescriptor "(II)V" = some ⟨[.int, .int], none⟩ := by decide +kernel
theorem pd_3 : parseMethodDescriptor "(I)Ljava/lang/Integer;" = some ⟨[.int], some (.object "java/lang/Integer")⟩ := by decide +kernel
theorem pd_4 : parseMethodDescriptor "(Ljava/lang/Object;)Z" = some ⟨[(.object "java/lang/Object")], some .boolean⟩ := by decide +kernel
def Q0 (Z : State) (p0 : Int32) (p1 : Int32) (p2 : Int32) (p3 : Int32) (p4 : Int32) (ca : Addr) (cl : Cell) (h0 : Heap) (n0 : Nat) (v : Option Value) (h : Heap) (L : List Loc) : Prop := v = some (.int (1 : Int32)) ∧ Fr n0 L
set_option maxRecDepth 65536 in
set_option maxHeartbeats 40000000 in
theorem rm0 (l : Launch) (Z : State) (a0 : Array Value) (hw : ∀ d ∈ tables_1, d.before a0 Z = true) (ws : List Jvm.Cond) (p0 : Int32) (p1 : Int32) (p2 : Int32) (p3 : Int32) (p4 : Int32) (ca : Addr) (cl : Cell) (h0 : Heap) (n0 : Nat) (Z0 : n0 ≤ h0.size) (O : Old Z n0 h0) (SH : Sta Z Z.heap "java/lang/Integer$IntegerCache" "high" "I" (.int (127 : Int32))) (SC : Sta Z Z.heap "java/lang/Integer$IntegerCache" "cache" "[Ljava/lang/Integer;" (.ref ca)) (AC : Arr Z Z.heap ca cl (.object "java/lang/Integer")) (HC : ∀ j : Int32, ¬ j < 0 → j < (256 : Int32) → ¬ (j < 0 ∨ cl.slots.size ≤ j.toNatClampNeg) ∧ ∃ r, cl.slots[j.toNatClampNeg]? = some (.ref r) ∧ Exa Z Z.heap r "java/lang/Integer") :
    MetFree l x (head1 (Jvm.Cond.code x code maxLocals ret :: ws) room_1) (fun zza zzU => zza = #[(.int p0), (.int p1), (.int p2), (.int p3), (.int p4)] ∧ Z.Warmed39 zzU.vm ∧ zzU.heap = h0) (fun _ _ _ _ _ => True) (fun _ zzU zzo zzV => ∃ zzv zzL, zzo = .returned zzv ∧ Q0 Z p0 p1 p2 p3 p4 ca cl h0 n0 zzv zzV.heap zzL ∧ FrameEnd zzU zzo zzV zzL 16 128) := by
  refine MetFree.of_bodySF (plainFor_of_name pn_4) hisR ?_
  intro p e s m args below meth c s₁ Bd hml0 hP hK
  obtain ⟨rfl, hZ, hh⟩ := hP
  have hx := Bd.exec
  have hby := Bd.bytes
  have hml : c.maxLocals = 16 := hml0
  have hown : s.vm.findClass "com/example/tapline/emv/RecordNumberEqualsPinLaw" = some m.cls := findClass_of_methodNamed Bd.named
  have hnm := (name_of_methodNamed Bd.named Bd.method).1
  have X0 : Stand p l e room_1 s m #[(.int p0), (.int p1), (.int p2), (.int p3), (.int p4)] below meth c s₁ [] 0 0 := Stand.of_body Bd
  have e0 : s₁.heap = h0 := by rw [← hh, Bd.state]; rfl
  have N0 := Fr.nil n0
  have R0 : ∀ t, Steps p.tables e below (s₁.setTop (mkF m 0 #[.val (.int p0), .val (.int p1), .val (.int p2), .val (.int p3), .val (.int p4), .unset, .unset, .unset, .unset, .unset, .unset, .unset, .unset, .unset, .unset, .unset] [])) t → Steps p.tables e below (s₁.setTop (entryFrame m #[(.int p0), (.int p1), (.int p2), (.int p3), (.int p4)] maxLocals)) t := fun t k => castTop (ef0 m p0 p1 p2 p3 p4) k
  have R1 : ∀ t, Steps p.tables e below (s₁.setTop (mkF m 12 #[.val (.int p0), .val (.int p1), .val (.int p2), .val (.int p3), .val (.int p4), .unset, .unset, .unset, .unset, .unset, .unset, .unset, .unset, .unset, .unset, .unset] [(.int (if (p4 &&& (1 : Int32)) = (0 : Int32) then p2 else p0 : Int32))])) t → Steps p.tables e below (s₁.setTop (entryFrame m #[(.int p0), (.int p1), (.int p2), (.int p3), (.int p4)] maxLocals)) t := by
    have R3 : ∀ t, Steps p.tables e below (s₁.setTop (mkF m 4 #[.val (.int p0), .val (.int p1), .val (.int p2), .val (.int p3), .val (.int p4), .unset, .unset, .unset, .unset, .unset, .unset, .unset, .unset, .unset, .unset, .unset] [(.int (p4 &&& (1 : Int32)))])) t → Steps p.tables e below (s₁.setTop (entryFrame m #[(.int p0), (.int p1), (.int p2), (.int p3), (.int p4)] maxLocals)) t := by
      intro t k
      refine R0 t ?_
      show Steps p.tables e below (s₁.setTop (mkF m 0 #[.val (.int p0), .val (.int p1), .val (.int p2), .val (.int p3), .val (.int p4), .unset, .unset, .unset, .unset, .unset, .unset, .unset, .unset, .unset, .unset, .unset] [])) _
      refine XS.iload X0.here hx rfl (hb hby at_0) rfl ?_
      show Steps p.tables e below (s₁.setTop (mkF m 2 #[.val (.int p0), .val (.int p1), .val (.int p2), .val (.int p3), .val (.int p4), .unset, .unset, .unset, .unset, .unset, .unset, .unset, .unset, .unset, .unset, .unset] [(.int p4)])) _
      refine XS.iconst X0.here hx rfl (hb hby at_2) ?_
      show Steps p.tables e below (s₁.setTop (mkF m 3 #[.val (.int p0), .val (.int p1), .val (.int p2), .val (.int p3), .val (.int p4), .unset, .unset, .unset, .unset, .unset, .unset, .unset, .unset, .unset, .unset, .unset] [(.int (1 : Int32)), (.int p4)])) _
      refine XS.iand X0.here hx rfl (hb hby at_3) rfl ?_
      exact k
    by_cases hc2 : (p4 &&& (1 : Int32)) = (0 : Int32)
    ·
      skip
      have R4 : ∀ t, Steps p.tables e below (s₁.setTop (mkF m 12 #[.val (.int p0), .val (.int p1), .val (.int p2), .val (.int p3), .val (.int p4), .unset, .unset, .unset, .unset, .unset, .unset, .unset, .unset, .unset, .unset, .unset] [(.int p2)])) t → Steps p.tables e below (s₁.setTop (entryFrame m #[(.int p0), (.int p1), (.int p2), (.int p3), (.int p4)] maxLocals)) t := by
        intro t k
        refine R3 t ?_
        show Steps p.tables e below (s₁.setTop (mkF m 4 #[.val (.int p0), .val (.int p1), .val (.int p2), .val (.int p3), .val (.int p4), .unset, .unset, .unset, .unset, .unset, .unset, .unset, .unset, .unset, .unset, .unset] [(.int (p4 &&& (1 : Int32)))])) _
        refine XS.ifYes X0.here hx rfl (pc0 := 4) (pc' := 11) rfl (hb hby at_4) rfl ((if0 _ _).trans (teq hc2).1) (by decide) (by decide) ?_
        show Steps p.tables e below (s₁.setTop (mkF m 11 #[.val (.int p0), .val (.int p1), .val (.int p2), .val (.int p3), .val (.int p4), .unset, .unset, .unset, .unset, .unset, .unset, .unset, .unset, .unset, .unset, .unset] [])) _
        refine XS.iloadN X0.here hx rfl (hb hby at_11) rfl ?_
        exact k
      refine fun t k => R4 t ?_
      have q5 : (if (p4 &&& (1 : Int32)) = (0 : Int32) then p2 else p0 : Int32) = p2 := (if_pos hc2)
      rw [q5] at k
      exact k
    ·
      skip
      have R6 : ∀ t, Steps p.tables e below (s₁.setTop (mkF m 12 #[.val (.int p0), .val (.int p1), .val (.int p2), .val (.int p3), .val (.int p4), .unset, .unset, .unset, .unset, .unset, .unset, .unset, .unset, .unset, .unset, .unset] [(.int p0)])) t → Steps p.tables e below (s₁.setTop (entryFrame m #[(.int p0), (.int p1), (.int p2), (.int p3), (.int p4)] maxLocals)) t := by
        intro t k
        refine R3 t ?_
        show Steps p.tables e below (s₁.setTop (mkF m 4 #[.val (.int p0), .val (.int p1), .val (.int p2), .val (.int p3), .val (.int p4), .unset, .unset, .unset, .unset, .unset, .unset, .unset, .unset, .unset, .unset, .unset] [(.int (p4 &&& (1 : Int32)))])) _
        refine XS.ifNo X0.here hx rfl (hb hby at_4) rfl ((if0 _ _).trans (feq hc2).1) ?_
        show Steps p.tables e below (s₁.setTop (mkF m 7 #[.val (.int p0), .val (.int p1), .val (.int p2), .val (.int p3), .val (.int p4), .unset, .unset, .unset, .unset, .unset, .unset, .unset, .unset, .unset, .unset, .unset] [])) _
        refine XS.iloadN X0.here hx rfl (hb hby at_7) rfl ?_
        show Steps p.tables e below (s₁.setTop (mkF m 8 #[.val (.int p0), .val (.int p1), .val (.int p2), .val (.int p3), .val (.int p4), .unset, .unset, .unset, .unset, .unset, .unset, .unset, .unset, .unset, .unset, .unset] [(.int p0)])) _
        refine XS.goto X0.here hx rfl (pc0 := 8) (pc' := 12) rfl (hb hby at_8) (by decide) (by decide) ?_
        exact k
      refine fun t k => R6 t ?_
      have q7 : (if (p4 &&& (1 : Int32)) = (0 : Int32) then p2 else p0 : Int32) = p0 := (if_neg hc2)
      rw [q7] at k
      exact k
  have R8 : ∀ t, Steps p.tables e below (s₁.setTop (mkF m 14 #[.val (.int p0), .val (.int p1), .val (.int p2), .val (.int p3), .val (.int p4), .val (.int (if (p4 &&& (1 : Int32)) = (0 : Int32) then p2 else p0 : Int32)), .unset, .unset, .unset, .unset, .unset, .unset, .unset, .unset, .unset, .unset] [])) t → Steps p.tables e below (s₁.setTop (entryFrame m #[(.int p0), (.int p1), (.int p2), (.int p3), (.int p4)] maxLocals)) t := by
    intro t k
    refine R1 t ?_
    show Steps p.tables e below (s₁.setTop (mkF m 12 #[.val (.int p0), .val (.int p1), .val (.int p2), .val (.int p3), .val (.int p4), .unset, .unset, .unset, .unset, .unset, .unset, .unset, .unset, .unset, .unset, .unset] [(.int (if (p4 &&& (1 : Int32)) = (0 : Int32) then p2 else p0 : Int32))])) _
    refine XS.istore X0.here hx rfl (hb hby at_12) rfl (l' := #[.val (.int p0), .val (.int p1), .val (.int p2), .val (.int p3), .val (.int p4), .val (.int (if (p4 &&& (1 : Int32)) = (0 : Int32) then p2 else p0 : Int32)), .unset, .unset, .unset, .unset, .unset, .unset, .unset, .unset, .unset, .unset]) rfl ?_
    exact k
  have R9 : ∀ t, Steps p.tables e below (s₁.setTop (mkF m 26 #[.val (.int p0), .val (.int p1), .val (.int p2), .val (.int p3), .val (.int p4), .val (.int (if (p4 &&& (1 : Int32)) = (0 : Int32) then p2 else p0 : Int32)), .unset, .unset, .unset, .unset, .unset, .unset, .unset, .unset, .unset, .unset] [(.int (if (p4 &&& (2 : Int32)) = (0 : Int32) then p3 else p1 : Int32))])) t → Steps p.tables e below (s₁.setTop (entryFrame m #[(.int p0), (.int p1), (.int p2), (.int p3), (.int p4)] maxLocals)) t := by
    have R11 : ∀ t, Steps p.tables e below (s₁.setTop (mkF m 18 #[.val (.int p0), .val (.int p1), .val (.int p2), .val (.int p3), .val (.int p4), .val (.int (if (p4 &&& (1 : Int32)) = (0 : Int32) then p2 else p0 : Int32)), .unset, .unset, .unset, .unset, .unset, .unset, .unset, .unset, .unset, .unset] [(.int (p4 &&& (2 : Int32)))])) t → Steps p.tables e below (s₁.setTop (entryFrame m #[(.int p0), (.int p1), (.int p2), (.int p3), (.int p4)] maxLocals)) t := by
      intro t k
      refine R8 t ?_
      show Steps p.tables e below (s₁.setTop (mkF m 14 #[.val (.int p0), .val (.int p1), .val (.int p2), .val (.int p3), .val (.int p4), .val (.int (if (p4 &&& (1 : Int32)) = (0 : Int32) then p2 else p0 : Int32)), .unset, .unset, .unset, .unset, .unset, .unset, .unset, .unset, .unset, .unset] [])) _
      refine XS.iload X0.here hx rfl (hb hby at_14) rfl ?_
      show Steps p.tables e below (s₁.setTop (mkF m 16 #[.val (.int p0), .val (.int p1), .val (.int p2), .val (.int p3), .val (.int p4), .val (.int (if (p4 &&& (1 : Int32)) = (0 : Int32) then p2 else p0 : Int32)), .unset, .unset, .unset, .unset, .unset, .unset, .unset, .unset, .unset, .unset] [(.int p4)])) _
      refine XS.iconst X0.here hx rfl (hb hby at_16) ?_
      show Steps p.tables e below (s₁.setTop (mkF m 17 #[.val (.int p0), .val (.int p1), .val (.int p2), .val (.int p3), .val (.int p4), .val (.int (if (p4 &&& (1 : Int32)) = (0 : Int32) then p2 else p0 : Int32)), .unset, .unset, .unset, .unset, .unset, .unset, .unset, .unset, .unset, .unset] [(.int (2 : Int32)), (.int p4)])) _
      refine XS.iand X0.here hx rfl (hb hby at_17) rfl ?_
      exact k
    by_cases hc10 : (p4 &&& (2 : Int32)) = (0 : Int32)
    ·
      skip
      have R12 : ∀ t, Steps p.tables e below (s₁.setTop (mkF m 26 #[.val (.int p0), .val (.int p1), .val (.int p2), .val (.int p3), .val (.int p4), .val (.int (if (p4 &&& (1 : Int32)) = (0 : Int32) then p2 else p0 : Int32)), .unset, .unset, .unset, .unset, .unset, .unset, .unset, .unset, .unset, .unset] [(.int p3)])) t → Steps p.tables e below (s₁.setTop (entryFrame m #[(.int p0), (.int p1), (.int p2), (.int p3), (.int p4)] maxLocals)) t := by
        intro t k
        refine R11 t ?_
        show Steps p.tables e below (s₁.setTop (mkF m 18 #[.val (.int p0), .val (.int p1), .val (.int p2), .val (.int p3), .val (.int p4), .val (.int (if (p4 &&& (1 : Int32)) = (0 : Int32) then p2 else p0 : Int32)), .unset, .unset, .unset, .unset, .unset, .unset, .unset, .unset, .unset, .unset] [(.int (p4 &&& (2 : Int32)))])) _
        refine XS.ifYes X0.here hx rfl (pc0 := 18) (pc' := 25) rfl (hb hby at_18) rfl ((if0 _ _).trans (teq hc10).1) (by decide) (by decide) ?_
        show Steps p.tables e below (s₁.setTop (mkF m 25 #[.val (.int p0), .val (.int p1), .val (.int p2), .val (.int p3), .val (.int p4), .val (.int (if (p4 &&& (1 : Int32)) = (0 : Int32) then p2 else p0 : Int32)), .unset, .unset, .unset, .unset, .unset, .unset, .unset, .unset, .unset, .unset] [])) _
        refine XS.iloadN X0.here hx rfl (hb hby at_25) rfl ?_
        exact k
      refine fun t k => R12 t ?_
      have q13 : (if (p4 &&& (2 : Int32)) = (0 : Int32) then p3 else p1 : Int32) = p3 := (if_pos hc10)
      rw [q13] at k
      exact k
    ·
      skip
      have R14 : ∀ t, Steps p.tables e below (s₁.setTop (mkF m 26 #[.val (.int p0), .val (.int p1), .val (.int p2), .val (.int p3), .val (.int p4), .val (.int (if (p4 &&& (1 : Int32)) = (0 : Int32) then p2 else p0 : Int32)), .unset, .unset, .unset, .unset, .unset, .unset, .unset, .unset, .unset, .unset] [(.int p1)])) t → Steps p.tables e below (s₁.setTop (entryFrame m #[(.int p0), (.int p1), (.int p2), (.int p3), (.int p4)] maxLocals)) t := by
        intro t k
        refine R11 t ?_
        show Steps p.tables e below (s₁.setTop (mkF m 18 #[.val (.int p0), .val (.int p1), .val (.int p2), .val (.int p3), .val (.int p4), .val (.int (if (p4 &&& (1 : Int32)) = (0 : Int32) then p2 else p0 : Int32)), .unset, .unset, .unset, .unset, .unset, .unset, .unset, .unset, .unset, .unset] [(.int (p4 &&& (2 : Int32)))])) _
        refine XS.ifNo X0.here hx rfl (hb hby at_18) rfl ((if0 _ _).trans (feq hc10).1) ?_
        show Steps p.tables e below (s₁.setTop (mkF m 21 #[.val (.int p0), .val (.int p1), .val (.int p2), .val (.int p3), .val (.int p4), .val (.int (if (p4 &&& (1 : Int32)) = (0 : Int32) then p2 else p0 : Int32)), .unset, .unset, .unset, .unset, .unset, .unset, .unset, .unset, .unset, .unset] [])) _
        refine XS.iloadN X0.here hx rfl (hb hby at_21) rfl ?_
        show Steps p.tables e below (s₁.setTop (mkF m 22 #[.val (.int p0), .val (.int p1), .val (.int p2), .val (.int p3), .val (.int p4), .val (.int (if (p4 &&& (1 : Int32)) = (0 : Int32) then p2 else p0 : Int32)), .unset, .unset, .unset, .unset, .unset, .unset, .unset, .unset, .unset, .unset] [(.int p1)])) _
        refine XS.goto X0.here hx rfl (pc0 := 22) (pc' := 26) rfl (hb hby at_22) (by decide) (by decide) ?_
        exact k
      refine fun t k => R14 t ?_
      have q15 : (if (p4 &&& (2 : Int32)) = (0 : Int32) then p3 else p1 : Int32) = p1 := (if_neg hc10)
      rw [q15] at k
      exact k
  have R16 : ∀ t, Steps p.tables e below (s₁.setTop (mkF m 28 #[.val (.int p0), .val (.int p1), .val (.int p2), .val (.int p3), .val (.int p4), .val (.int (if (p4 &&& (1 : Int32)) = (0 : Int32) then p2 else p0 : Int32)), .val (.int (if (p4 &&& (2 : Int32)) = (0 : Int32) then p3 else p1 : Int32)), .unset, .unset, .unset, .unset, .unset, .unset, .unset, .unset, .unset] [])) t → Steps p.tables e below (s₁.setTop (entryFrame m #[(.int p0), (.int p1), (.int p2), (.int p3), (.int p4)] maxLocals)) t := by
    intro t k
    refine R9 t ?_
    show Steps p.tables e below (s₁.setTop (mkF m 26 #[.val (.int p0), .val (.int p1), .val (.int p2), .val (.int p3), .val (.int p4), .val (.int (if (p4 &&& (1 : Int32)) = (0 : Int32) then p2 else p0 : Int32)), .unset, .unset, .unset, .unset, .unset, .unset, .unset, .unset, .unset, .unset] [(.int (if (p4 &&& (2 : Int32)) = (0 : Int32) then p3 else p1 : Int32))])) _
    refine XS.istore X0.here hx rfl (hb hby at_26) rfl (l' := #[.val (.int p0), .val (.int p1), .val (.int p2), .val (.int p3), .val (.int p4), .val (.int (if (p4 &&& (1 : Int32)) = (0 : Int32) then p2 else p0 : Int32)), .val (.int (if (p4 &&& (2 : Int32)) = (0 : Int32) then p3 else p1 : Int32)), .unset, .unset, .unset, .unset, .unset, .unset, .unset, .unset, .unset]) rfl ?_
    exact k
  obtain ⟨T17, h17, X17, e17, E17, A17, D17, -, st17⟩ := newO X0 hx hZ hown (hw _ (List.mem_of_getElem? (i := 0) rfl)) (hw _ (List.mem_of_getElem? (i := 1) rfl)) (hw _ (List.mem_of_getElem? (i := 2) rfl)) e0 (g := (mkF m 28 #[.val (.int p0), .val (.int p1), .val (.int p2), .val (.int p3), .val (.int p4), .val (.int (if (p4 &&& (1 : Int32)) = (0 : Int32) then p2 else p0 : Int32)), .val (.int (if (p4 &&& (2 : Int32)) = (0 : Int32) then p3 else p1 : Int32)), .unset, .unset, .unset, .unset, .unset, .unset, .unset, .unset, .unset] [])) rfl (hb hby at_28) (by decide) (by decide)
  obtain ⟨a, g17⟩ : ∃ z, z = h0.size := ⟨_, rfl⟩
  rw [← g17] at A17 D17 st17
  have ge_a : n0 ≤ a := by rw [g17]; exact Z0
  have Sz17 := Nat.le_trans Z0 E17.1
  have O := O.ext E17
  have E_a := A17
  have F_sfi_a : Fld Z h17 a "com/example/tapline/emv/RecordNumber" "sfi" "I" (.int (0 : Int32)) := D17 (Or.inr (hw _ (List.mem_of_getElem? (i := 15) rfl))) (ty := .int) (by decide)
  have F_number_a : Fld Z h17 a "com/example/tapline/emv/RecordNumber" "number" "I" (.int (0 : Int32)) := D17 (Or.inr (hw _ (List.mem_of_getElem? (i := 17) rfl))) (ty := .int) (by decide)
  have R18 : ∀ t, Steps p.tables e below (T17.setTop (mkF m 34 #[.val (.int p0), .val (.int p1), .val (.int p2), .val (.int p3), .val (.int p4), .val (.int (if (p4 &&& (1 : Int32)) = (0 : Int32) then p2 else p0 : Int32)), .val (.int (if (p4 &&& (2 : Int32)) = (0 : Int32) then p3 else p1 : Int32)), .unset, .unset, .unset, .unset, .unset, .unset, .unset, .unset, .unset] [(.int p1), (.int p0), (.ref a), (.ref a)])) t → Steps p.tables e below (s₁.setTop (entryFrame m #[(.int p0), (.int p1), (.int p2), (.int p3), (.int p4)] maxLocals)) t := by
    intro t k
    refine R16 t ?_
    show Steps p.tables e below (s₁.setTop (mkF m 28 #[.val (.int p0), .val (.int p1), .val (.int p2), .val (.int p3), .val (.int p4), .val (.int (if (p4 &&& (1 : Int32)) = (0 : Int32) then p2 else p0 : Int32)), .val (.int (if (p4 &&& (2 : Int32)) = (0 : Int32) then p3 else p1 : Int32)), .unset, .unset, .unset, .unset, .unset, .unset, .unset, .unset, .unset] [])) _
    refine st17 _ ?_
    show Steps p.tables e below (T17.setTop (mkF m 31 #[.val (.int p0), .val (.int p1), .val (.int p2), .val (.int p3), .val (.int p4), .val (.int (if (p4 &&& (1 : Int32)) = (0 : Int32) then p2 else p0 : Int32)), .val (.int (if (p4 &&& (2 : Int32)) = (0 : Int32) then p3 else p1 : Int32)), .unset, .unset, .unset, .unset, .unset, .unset, .unset, .unset, .unset] [(.ref a)])) _
    refine XS.dup X17.here hx rfl (hb hby at_31) rfl rfl ?_
    show Steps p.tables e below (T17.setTop (mkF m 32 #[.val (.int p0), .val (.int p1), .val (.int p2), .val (.int p3), .val (.int p4), .val (.int (if (p4 &&& (1 : Int32)) = (0 : Int32) then p2 else p0 : Int32)), .val (.int (if (p4 &&& (2 : Int32)) = (0 : Int32) then p3 else p1 : Int32)), .unset, .unset, .unset, .unset, .unset, .unset, .unset, .unset, .unset] [(.ref a), (.ref a)])) _
    refine XS.iloadN X17.here hx rfl (hb hby at_32) rfl ?_
    show Steps p.tables e below (T17.setTop (mkF m 33 #[.val (.int p0), .val (.int p1), .val (.int p2), .val (.int p3), .val (.int p4), .val (.int (if (p4 &&& (1 : Int32)) = (0 : Int32) then p2 else p0 : Int32)), .val (.int (if (p4 &&& (2 : Int32)) = (0 : Int32) then p3 else p1 : Int32)), .unset, .unset, .unset, .unset, .unset, .unset, .unset, .unset, .unset] [(.int p0), (.ref a), (.ref a)])) _
    refine XS.iloadN X17.here hx rfl (hb hby at_33) rfl ?_
    exact k
  obtain ⟨_, _, ⟨T19, L19, k19, n19⟩, -, X19, ⟨Lc19, hQ19, l19, y19, z19⟩, st19⟩ := X17.specialBack hx (y := (⟨"com/example/tapline/emv/RecordNumber", "<init>", "(II)V"⟩ : MethodName)) rfl hown (mvT hZ (hw _ (List.mem_of_getElem? (i := 3) rfl))) (mvT hZ (hw _ (List.mem_of_getElem? (i := 4) rfl))) (mvT hZ (hw _ (List.mem_of_getElem? (i := 5) rfl))) (by decide) (backOf (W := 1) (rm1 l Z a0 hw [] a p0 p1 h17 n0 Sz17 E_a F_sfi_a F_number_a ge_a) hZ (hw _ (List.mem_of_getElem? (i := 5) rfl)) (hw _ (List.mem_of_getElem? (i := 2) rfl)) (by decide) (by decide)) (g := (mkF m 34 #[.val (.int p0), .val (.int p1), .val (.int p2), .val (.int p3), .val (.int p4), .val (.int (if (p4 &&& (1 : Int32)) = (0 : Int32) then p2 else p0 : Int32)), .val (.int (if (p4 &&& (2 : Int32)) = (0 : Int32) then p3 else p1 : Int32)), .unset, .unset, .unset, .unset, .unset, .unset, .unset, .unset, .unset] [(.int p1), (.int p0), (.ref a), (.ref a)])) rfl (by rw [hml]; rfl) (Steps.refl _) (a := a) (argsL := [(.int p0), (.int p1)]) (rest := [(.ref a)]) (lenOf pd_2 rfl) rfl (by show 2 * 0 + _ ≤ _; exact Nat.le_of_eq rfl) (hb hby at_34) (fun _ _ => ⟨rfl, e17, (by decide : 1 + 0 ≤ _), (by decide : 2 + 0 ≤ _)⟩)
  dsimp only [Pt.U, Pt.locs, Pt.cells, Pt.slots] at X19 l19 y19 z19 st19 hQ19
  subst l19 y19 z19
  obtain ⟨rfl, Nq19, K19, F_sfi_a, F_number_a⟩ := hQ19
  have N19 := Fr.app N0 Nq19
  have Sz19 := Nat.le_trans Sz17 K19.1
  have O := O.keep K19 (allS ge_a all0)
  have E_a := E_a.keep K19
  have R20 : ∀ t, Steps p.tables e below (T19.setTop (mkF m 39 #[.val (.int p0), .val (.int p1), .val (.int p2), .val (.int p3), .val (.int p4), .val (.int (if (p4 &&& (1 : Int32)) = (0 : Int32) then p2 else p0 : Int32)), .val (.int (if (p4 &&& (2 : Int32)) = (0 : Int32) then p3 else p1 : Int32)), .val (.ref a), .unset, .unset, .unset, .unset, .unset, .unset, .unset, .unset] [])) t → Steps p.tables e below (s₁.setTop (entryFrame m #[(.int p0), (.int p1), (.int p2), (.int p3), (.int p4)] maxLocals)) t := by
    intro t k
    refine R18 t ?_
    show Steps p.tables e below (T17.setTop (mkF m 34 #[.val (.int p0), .val (.int p1), .val (.int p2), .val (.int p3), .val (.int p4), .val (.int (if (p4 &&& (1 : Int32)) = (0 : Int32) then p2 else p0 : Int32)), .val (.int (if (p4 &&& (2 : Int32)) = (0 : Int32) then p3 else p1 : Int32)), .unset, .unset, .unset, .unset, .unset, .unset, .unset, .unset, .unset] [(.int p1), (.int p0), (.ref a), (.ref a)])) _
    refine st19.trans ?_
    show Steps p.tables e below (T19.setTop (mkF m 37 #[.val (.int p0), .val (.int p1), .val (.int p2), .val (.int p3), .val (.int p4), .val (.int (if (p4 &&& (1 : Int32)) = (0 : Int32) then p2 else p0 : Int32)), .val (.int (if (p4 &&& (2 : Int32)) = (0 : Int32) then p3 else p1 : Int32)), .unset, .unset, .unset, .unset, .unset, .unset, .unset, .unset, .unset] [(.ref a)])) _
    refine XS.astore X19.here hx rfl (hb hby at_37) rfl rfl (l' := #[.val (.int p0), .val (.int p1), .val (.int p2), .val (.int p3), .val (.int p4), .val (.int (if (p4 &&& (1 : Int32)) = (0 : Int32) then p2 else p0 : Int32)), .val (.int (if (p4 &&& (2 : Int32)) = (0 : Int32) then p3 else p1 : Int32)), .val (.ref a), .unset, .unset, .unset, .unset, .unset, .unset, .unset, .unset]) rfl ?_
    exact k
  obtain ⟨T21, h21, X21, e21, E21, A21, D21, -, st21⟩ := newO X19 hx hZ hown (hw _ (List.mem_of_getElem? (i := 0) rfl)) (hw _ (List.mem_of_getElem? (i := 1) rfl)) (hw _ (List.mem_of_getElem? (i := 2) rfl)) rfl (g := (mkF m 39 #[.val (.int p0), .val (.int p1), .val (.int p2), .val (.int p3), .val (.int p4), .val (.int (if (p4 &&& (1 : Int32)) = (0 : Int32) then p2 else p0 : Int32)), .val (.int (if (p4 &&& (2 : Int32)) = (0 : Int32) then p3 else p1 : Int32)), .val (.ref a), .unset, .unset, .unset, .unset, .unset, .unset, .unset, .unset] [])) rfl (hb hby at_39) (by decide) (by decide)
  obtain ⟨b, g21⟩ : ∃ z, z = T19.heap.size := ⟨_, rfl⟩
  rw [← g21] at A21 D21 st21
  have ge_b : n0 ≤ b := by rw [g21]; exact Sz19
  have Sz21 := Nat.le_trans Sz19 E21.1
  have ne_a_b : a ≠ b := Nat.ne_of_lt (Nat.lt_of_lt_of_le E_a.lt (Nat.le_of_eq g21.symm))
  have O := O.ext E21
  have E_a := E_a.ext E21
  have F_sfi_a := F_sfi_a.ext E21
  have F_number_a := F_number_a.ext E21
  have E_b := A21
  have F_sfi_b : Fld Z h21 b "com/example/tapline/emv/RecordNumber" "sfi" "I" (.int (0 : Int32)) := D21 (Or.inr (hw _ (List.mem_of_getElem? (i := 15) rfl))) (ty := .int) (by decide)
  have F_number_b : Fld Z h21 b "com/example/tapline/emv/RecordNumber" "number" "I" (.int (0 : Int32)) := D21 (Or.inr (hw _ (List.mem_of_getElem? (i := 17) rfl))) (ty := .int) (by decide)
  have R22 : ∀ t, Steps p.tables e below (T21.setTop (mkF m 47 #[.val (.int p0), .val (.int p1), .val (.int p2), .val (.int p3), .val (.int p4), .val (.int (if (p4 &&& (1 : Int32)) = (0 : Int32) then p2 else p0 : Int32)), .val (.int (if (p4 &&& (2 : Int32)) = (0 : Int32) then p3 else p1 : Int32)), .val (.ref a), .unset, .unset, .unset, .unset, .unset, .unset, .unset, .unset] [(.int (if (p4 &&& (2 : Int32)) = (0 : Int32) then p3 else p1 : Int32)), (.int (if (p4 &&& (1 : Int32)) = (0 : Int32) then p2 else p0 : Int32)), (.ref b), (.ref b)])) t → Steps p.tables e below (s₁.setTop (entryFrame m #[(.int p0), (.int p1), (.int p2), (.int p3), (.int p4)] maxLocals)) t := by
    intro t k
    refine R20 t ?_
    show Steps p.tables e below (T19.setTop (mkF m 39 #[.val (.int p0), .val (.int p1), .val (.int p2), .val (.int p3), .val (.int p4), .val (.int (if (p4 &&& (1 : Int32)) = (0 : Int32) then p2 else p0 : Int32)), .val (.int (if (p4 &&& (2 : Int32)) = (0 : Int32) then p3 else p1 : Int32)), .val (.ref a), .unset, .unset, .unset, .unset, .unset, .unset, .unset, .unset] [])) _
    refine st21 _ ?_
    show Steps p.tables e below (T21.setTop (mkF m 42 #[.val (.int p0), .val (.int p1), .val (.int p2), .val (.int p3), .val (.int p4), .val (.int (if (p4 &&& (1 : Int32)) = (0 : Int32) then p2 else p0 : Int32)), .val (.int (if (p4 &&& (2 : Int32)) = (0 : Int32) then p3 else p1 : Int32)), .val (.ref a), .unset, .unset, .unset, .unset, .unset, .unset, .unset, .unset] [(.ref b)])) _
    refine XS.dup X21.here hx rfl (hb hby at_42) rfl rfl ?_
    show Steps p.tables e below (T21.setTop (mkF m 43 #[.val (.int p0), .val (.int p1), .val (.int p2), .val (.int p3), .val (.int p4), .val (.int (if (p4 &&& (1 : Int32)) = (0 : Int32) then p2 else p0 : Int32)), .val (.int (if (p4 &&& (2 : Int32)) = (0 : Int32) then p3 else p1 : Int32)), .val (.ref a), .unset, .unset, .unset, .unset, .unset, .unset, .unset, .unset] [(.ref b), (.ref b)])) _
    refine XS.iload X21.here hx rfl (hb hby at_43) rfl ?_
    show Steps p.tables e below (T21.setTop (mkF m 45 #[.val (.int p0), .val (.int p1), .val (.int p2), .val (.int p3), .val (.int p4), .val (.int (if (p4 &&& (1 : Int32)) = (0 : Int32) then p2 else p0 : Int32)), .val (.int (if (p4 &&& (2 : Int32)) = (0 : Int32) then p3 else p1 : Int32)), .val (.ref a), .unset, .unset, .unset, .unset, .unset, .unset, .unset, .unset] [(.int (if (p4 &&& (1 : Int32)) = (0 : Int32) then p2 else p0 : Int32)), (.ref b), (.ref b)])) _
    refine XS.iload X21.here hx rfl (hb hby at_45) rfl ?_
    exact k
  obtain ⟨_, _, ⟨T23, L23, k23, n23⟩, -, X23, ⟨Lc23, hQ23, l23, y23, z23⟩, st23⟩ := X21.specialBack hx (y := (⟨"com/example/tapline/emv/RecordNumber", "<init>", "(II)V"⟩ : MethodName)) rfl hown (mvT hZ (hw _ (List.mem_of_getElem? (i := 3) rfl))) (mvT hZ (hw _ (List.mem_of_getElem? (i := 4) rfl))) (mvT hZ (hw _ (List.mem_of_getElem? (i := 5) rfl))) (by decide) (backOf (W := 1) (rm1 l Z a0 hw [] b (if (p4 &&& (1 : Int32)) = (0 : Int32) then p2 else p0 : Int32) (if (p4 &&& (2 : Int32)) = (0 : Int32) then p3 else p1 : Int32) h21 n0 Sz21 E_b F_sfi_b F_number_b ge_b) hZ (hw _ (List.mem_of_getElem? (i := 5) rfl)) (hw _ (List.mem_of_getElem? (i := 2) rfl)) (by decide) (by decide)) (g := (mkF m 47 #[.val (.int p0), .val (.int p1), .val (.int p2), .val (.int p3), .val (.int p4), .val (.int (if (p4 &&& (1 : Int32)) = (0 : Int32) then p2 else p0 : Int32)), .val (.int (if (p4 &&& (2 : Int32)) = (0 : Int32) then p3 else p1 : Int32)), .val (.ref a), .unset, .unset, .unset, .unset, .unset, .unset, .unset, .unset] [(.int (if (p4 &&& (2 : Int32)) = (0 : Int32) then p3 else p1 : Int32)), (.int (if (p4 &&& (1 : Int32)) = (0 : Int32) then p2 else p0 : Int32)), (.ref b), (.ref b)])) rfl (by rw [hml]; rfl) (Steps.refl _) (a := b) (argsL := [(.int (if (p4 &&& (1 : Int32)) = (0 : Int32) then p2 else p0 : Int32)), (.int (if (p4 &&& (2 : Int32)) = (0 : Int32) then p3 else p1 : Int32))]) (rest := [(.ref b)]) (lenOf pd_2 rfl) rfl (by show 2 * 0 + _ ≤ _; exact Nat.le_of_eq rfl) (hb hby at_47) (fun _ _ => ⟨rfl, e21, (by decide : 2 + 0 ≤ _), (by decide : 4 + 0 ≤ _)⟩)
  dsimp only [Pt.U, Pt.locs, Pt.cells, Pt.slots] at X23 l23 y23 z23 st23 hQ23
  subst l23 y23 z23
  obtain ⟨rfl, Nq23, K23, F_sfi_b, F_number_b⟩ := hQ23
  have N23 := Fr.app N19 Nq23
  have Sz23 := Nat.le_trans Sz21 K23.1
  have O := O.keep K23 (allS ge_b all0)
  have E_a := E_a.keep K23
  have F_sfi_a := F_sfi_a.keep K23 (ninS ne_a_b nin0)
  have F_number_a := F_number_a.keep K23 (ninS ne_a_b nin0)
  have E_b := E_b.keep K23
  have R24 : ∀ t, Steps p.tables e below (T23.setTop (mkF m 55 #[.val (.int p0), .val (.int p1), .val (.int p2), .val (.int p3), .val (.int p4), .val (.int (if (p4 &&& (1 : Int32)) = (0 : Int32) then p2 else p0 : Int32)), .val (.int (if (p4 &&& (2 : Int32)) = (0 : Int32) then p3 else p1 : Int32)), .val (.ref a), .val (.ref b), .unset, .unset, .unset, .unset, .unset, .unset, .unset] [(.int (if (p4 &&& (1 : Int32)) = (0 : Int32) then p2 else p0 : Int32)), (.int p0)])) t → Steps p.tables e below (s₁.setTop (entryFrame m #[(.int p0), (.int p1), (.int p2), (.int p3), (.int p4)] maxLocals)) t := by
    intro t k
    refine R22 t ?_
    show Steps p.tables e below (T21.setTop (mkF m 47 #[.val (.int p0), .val (.int p1), .val (.int p2), .val (.int p3), .val (.int p4), .val (.int (if (p4 &&& (1 : Int32)) = (0 : Int32) then p2 else p0 : Int32)), .val (.int (if (p4 &&& (2 : Int32)) = (0 : Int32) then p3 else p1 : Int32)), .val (.ref a), .unset, .unset, .unset, .unset, .unset, .unset, .unset, .unset] [(.int (if (p4 &&& (2 : Int32)) = (0 : Int32) then p3 else p1 : Int32)), (.int (if (p4 &&& (1 : Int32)) = (0 : Int32) then p2 else p0 : Int32)), (.ref b), (.ref b)])) _
    refine st23.trans ?_
    show Steps p.tables e below (T23.setTop (mkF m 50 #[.val (.int p0), .val (.int p1), .val (.int p2), .val (.int p3), .val (.int p4), .val (.int (if (p4 &&& (1 : Int32)) = (0 : Int32) then p2 else p0 : Int32)), .val (.int (if (p4 &&& (2 : Int32)) = (0 : Int32) then p3 else p1 : Int32)), .val (.ref a), .unset, .unset, .unset, .unset, .unset, .unset, .unset, .unset] [(.ref b)])) _
    refine XS.astore X23.here hx rfl (hb hby at_50) rfl rfl (l' := #[.val (.int p0), .val (.int p1), .val (.int p2), .val (.int p3), .val (.int p4), .val (.int (if (p4 &&& (1 : Int32)) = (0 : Int32) then p2 else p0 : Int32)), .val (.int (if (p4 &&& (2 : Int32)) = (0 : Int32) then p3 else p1 : Int32)), .val (.ref a), .val (.ref b), .unset, .unset, .unset, .unset, .unset, .unset, .unset]) rfl ?_
    show Steps p.tables e below (T23.setTop (mkF m 52 #[.val (.int p0), .val (.int p1), .val (.int p2), .val (.int p3), .val (.int p4), .val (.int (if (p4 &&& (1 : Int32)) = (0 : Int32) then p2 else p0 : Int32)), .val (.int (if (p4 &&& (2 : Int32)) = (0 : Int32) then p3 else p1 : Int32)), .val (.ref a), .val (.ref b), .unset, .unset, .unset, .unset, .unset, .unset, .unset] [])) _
    refine XS.iloadN X23.here hx rfl (hb hby at_52) rfl ?_
    show Steps p.tables e below (T23.setTop (mkF m 53 #[.val (.int p0), .val (.int p1), .val (.int p2), .val (.int p3), .val (.int p4), .val (.int (if (p4 &&& (1 : Int32)) = (0 : Int32) then p2 else p0 : Int32)), .val (.int (if (p4 &&& (2 : Int32)) = (0 : Int32) then p3 else p1 : Int32)), .val (.ref a), .val (.ref b), .unset, .unset, .unset, .unset, .unset, .unset, .unset] [(.int p0)])) _
    refine XS.iload X23.here hx rfl (hb hby at_53) rfl ?_
    exact k
  have R25 : ∀ t, Steps p.tables e below (T23.setTop (mkF m 69 #[.val (.int p0), .val (.int p1), .val (.int p2), .val (.int p3), .val (.int p4), .val (.int (if (p4 &&& (1 : Int32)) = (0 : Int32) then p2 else p0 : Int32)), .val (.int (if (p4 &&& (2 : Int32)) = (0 : Int32) then p3 else p1 : Int32)), .val (.ref a), .val (.ref b), .unset, .unset, .unset, .unset, .unset, .unset, .unset] [(.int (if p0 = (if (p4 &&& (1 : Int32)) = (0 : Int32) then p2 else p0 : Int32) then (if p1 = (if (p4 &&& (2 : Int32)) = (0 : Int32) then p3 else p1 : Int32) then (1 : Int32) else (0 : Int32)) else (0 : Int32) : Int32))])) t → Steps p.tables e below (s₁.setTop (entryFrame m #[(.int p0), (.int p1), (.int p2), (.int p3), (.int p4)] maxLocals)) t := by
    by_cases hc26 : p0 = (if (p4 &&& (1 : Int32)) = (0 : Int32) then p2 else p0 : Int32)
    ·
      skip
      have R28 : ∀ t, Steps p.tables e below (T23.setTop (mkF m 61 #[.val (.int p0), .val (.int p1), .val (.int p2), .val (.int p3), .val (.int p4), .val (.int (if (p4 &&& (1 : Int32)) = (0 : Int32) then p2 else p0 : Int32)), .val (.int (if (p4 &&& (2 : Int32)) = (0 : Int32) then p3 else p1 : Int32)), .val (.ref a), .val (.ref b), .unset, .unset, .unset, .unset, .unset, .unset, .unset] [(.int (if (p4 &&& (2 : Int32)) = (0 : Int32) then p3 else p1 : Int32)), (.int p1)])) t → Steps p.tables e below (s₁.setTop (entryFrame m #[(.int p0), (.int p1), (.int p2), (.int p3), (.int p4)] maxLocals)) t := by
        intro t k
        refine R24 t ?_
        show Steps p.tables e below (T23.setTop (mkF m 55 #[.val (.int p0), .val (.int p1), .val (.int p2), .val (.int p3), .val (.int p4), .val (.int (if (p4 &&& (1 : Int32)) = (0 : Int32) then p2 else p0 : Int32)), .val (.int (if (p4 &&& (2 : Int32)) = (0 : Int32) then p3 else p1 : Int32)), .val (.ref a), .val (.ref b), .unset, .unset, .unset, .unset, .unset, .unset, .unset] [(.int (if (p4 &&& (1 : Int32)) = (0 : Int32) then p2 else p0 : Int32)), (.int p0)])) _
        refine XS.icmpNo X23.here hx rfl (hb hby at_55) rfl (teq hc26).2 ?_
        show Steps p.tables e below (T23.setTop (mkF m 58 #[.val (.int p0), .val (.int p1), .val (.int p2), .val (.int p3), .val (.int p4), .val (.int (if (p4 &&& (1 : Int32)) = (0 : Int32) then p2 else p0 : Int32)), .val (.int (if (p4 &&& (2 : Int32)) = (0 : Int32) then p3 else p1 : Int32)), .val (.ref a), .val (.ref b), .unset, .unset, .unset, .unset, .unset, .unset, .unset] [])) _
        refine XS.iloadN X23.here hx rfl (hb hby at_58) rfl ?_
        show Steps p.tables e below (T23.setTop (mkF m 59 #[.val (.int p0), .val (.int p1), .val (.int p2), .val (.int p3), .val (.int p4), .val (.int (if (p4 &&& (1 : Int32)) = (0 : Int32) then p2 else p0 : Int32)), .val (.int (if (p4 &&& (2 : Int32)) = (0 : Int32) then p3 else p1 : Int32)), .val (.ref a), .val (.ref b), .unset, .unset, .unset, .unset, .unset, .unset, .unset] [(.int p1)])) _
        refine XS.iload X23.here hx rfl (hb hby at_59) rfl ?_
        exact k
      by_cases hc27 : p1 = (if (p4 &&& (2 : Int32)) = (0 : Int32) then p3 else p1 : Int32)
      ·
        skip
        have R29 : ∀ t, Steps p.tables e below (T23.setTop (mkF m 69 #[.val (.int p0), .val (.int p1), .val (.int p2), .val (.int p3), .val (.int p4), .val (.int (if (p4 &&& (1 : Int32)) = (0 : Int32) then p2 else p0 : Int32)), .val (.int (if (p4 &&& (2 : Int32)) = (0 : Int32) then p3 else p1 : Int32)), .val (.ref a), .val (.ref b), .unset, .unset, .unset, .unset, .unset, .unset, .unset] [(.int (1 : Int32))])) t → Steps p.tables e below (s₁.setTop (entryFrame m #[(.int p0), (.int p1), (.int p2), (.int p3), (.int p4)] maxLocals)) t := by
          intro t k
          refine R28 t ?_
          show Steps p.tables e below (T23.setTop (mkF m 61 #[.val (.int p0), .val (.int p1), .val (.int p2), .val (.int p3), .val (.int p4), .val (.int (if (p4 &&& (1 : Int32)) = (0 : Int32) then p2 else p0 : Int32)), .val (.int (if (p4 &&& (2 : Int32)) = (0 : Int32) then p3 else p1 : Int32)), .val (.ref a), .val (.ref b), .unset, .unset, .unset, .unset, .unset, .unset, .unset] [(.int (if (p4 &&& (2 : Int32)) = (0 : Int32) then p3 else p1 : Int32)), (.int p1)])) _
          refine XS.icmpNo X23.here hx rfl (hb hby at_61) rfl (teq hc27).2 ?_
          show Steps p.tables e below (T23.setTop (mkF m 64 #[.val (.int p0), .val (.int p1), .val (.int p2), .val (.int p3), .val (.int p4), .val (.int (if (p4 &&& (1 : Int32)) = (0 : Int32) then p2 else p0 : Int32)), .val (.int (if (p4 &&& (2 : Int32)) = (0 : Int32) then p3 else p1 : Int32)), .val (.ref a), .val (.ref b), .unset, .unset, .unset, .unset, .unset, .unset, .unset] [])) _
          refine XS.iconst X23.here hx rfl (hb hby at_64) ?_
          show Steps p.tables e below (T23.setTop (mkF m 65 #[.val (.int p0), .val (.int p1), .val (.int p2), .val (.int p3), .val (.int p4), .val (.int (if (p4 &&& (1 : Int32)) = (0 : Int32) then p2 else p0 : Int32)), .val (.int (if (p4 &&& (2 : Int32)) = (0 : Int32) then p3 else p1 : Int32)), .val (.ref a), .val (.ref b), .unset, .unset, .unset, .unset, .unset, .unset, .unset] [(.int (1 : Int32))])) _
          refine XS.goto X23.here hx rfl (pc0 := 65) (pc' := 69) rfl (hb hby at_65) (by decide) (by decide) ?_
          exact k
        refine fun t k => R29 t ?_
        have q30 : (if p0 = (if (p4 &&& (1 : Int32)) = (0 : Int32) then p2 else p0 : Int32) then (if p1 = (if (p4 &&& (2 : Int32)) = (0 : Int32) then p3 else p1 : Int32) then (1 : Int32) else (0 : Int32)) else (0 : Int32) : Int32) = (1 : Int32) := ((if_pos hc26).trans (if_pos hc27))
        rw [q30] at k
        exact k
      ·
        skip
        have R31 : ∀ t, Steps p.tables e below (T23.setTop (mkF m 69 #[.val (.int p0), .val (.int p1), .val (.int p2), .val (.int p3), .val (.int p4), .val (.int (if (p4 &&& (1 : Int32)) = (0 : Int32) then p2 else p0 : Int32)), .val (.int (if (p4 &&& (2 : Int32)) = (0 : Int32) then p3 else p1 : Int32)), .val (.ref a), .val (.ref b), .unset, .unset, .unset, .unset, .unset, .unset, .unset] [(.int (0 : Int32))])) t → Steps p.tables e below (s₁.setTop (entryFrame m #[(.int p0), (.int p1), (.int p2), (.int p3), (.int p4)] maxLocals)) t := by
          intro t k
          refine R28 t ?_
          show Steps p.tables e below (T23.setTop (mkF m 61 #[.val (.int p0), .val (.int p1), .val (.int p2), .val (.int p3), .val (.int p4), .val (.int (if (p4 &&& (1 : Int32)) = (0 : Int32) then p2 else p0 : Int32)), .val (.int (if (p4 &&& (2 : Int32)) = (0 : Int32) then p3 else p1 : Int32)), .val (.ref a), .val (.ref b), .unset, .unset, .unset, .unset, .unset, .unset, .unset] [(.int (if (p4 &&& (2 : Int32)) = (0 : Int32) then p3 else p1 : Int32)), (.int p1)])) _
          refine XS.icmpYes X23.here hx rfl (pc0 := 61) (pc' := 68) rfl (hb hby at_61) rfl (feq hc27).2 (by decide) (by decide) ?_
          show Steps p.tables e below (T23.setTop (mkF m 68 #[.val (.int p0), .val (.int p1), .val (.int p2), .val (.int p3), .val (.int p4), .val (.int (if (p4 &&& (1 : Int32)) = (0 : Int32) then p2 else p0 : Int32)), .val (.int (if (p4 &&& (2 : Int32)) = (0 : Int32) then p3 else p1 : Int32)), .val (.ref a), .val (.ref b), .unset, .unset, .unset, .unset, .unset, .unset, .unset] [])) _
          refine XS.iconst X23.here hx rfl (hb hby at_68) ?_
          exact k
        refine fun t k => R31 t ?_
        have q32 : (if p0 = (if (p4 &&& (1 : Int32)) = (0 : Int32) then p2 else p0 : Int32) then (if p1 = (if (p4 &&& (2 : Int32)) = (0 : Int32) then p3 else p1 : Int32) then (1 : Int32) else (0 : Int32)) else (0 : Int32) : Int32) = (0 : Int32) := ((if_pos hc26).trans (if_neg hc27))
        rw [q32] at k
        exact k
    ·
      skip
      have R33 : ∀ t, Steps p.tables e below (T23.setTop (mkF m 69 #[.val (.int p0), .val (.int p1), .val (.int p2), .val (.int p3), .val (.int p4), .val (.int (if (p4 &&& (1 : Int32)) = (0 : Int32) then p2 else p0 : Int32)), .val (.int (if (p4 &&& (2 : Int32)) = (0 : Int32) then p3 else p1 : Int32)), .val (.ref a), .val (.ref b), .unset, .unset, .unset, .unset, .unset, .unset, .unset] [(.int (0 : Int32))])) t → Steps p.tables e below (s₁.setTop (entryFrame m #[(.int p0), (.int p1), (.int p2), (.int p3), (.int p4)] maxLocals)) t := by
        intro t k
        refine R24 t ?_
        show Steps p.tables e below (T23.setTop (mkF m 55 #[.val (.int p0), .val (.int p1), .val (.int p2), .val (.int p3), .val (.int p4), .val (.int (if (p4 &&& (1 : Int32)) = (0 : Int32) then p2 else p0 : Int32)), .val (.int (if (p4 &&& (2 : Int32)) = (0 : Int32) then p3 else p1 : Int32)), .val (.ref a), .val (.ref b), .unset, .unset, .unset, .unset, .unset, .unset, .unset] [(.int (if (p4 &&& (1 : Int32)) = (0 : Int32) then p2 else p0 : Int32)), (.int p0)])) _
        refine XS.icmpYes X23.here hx rfl (pc0 := 55) (pc' := 68) rfl (hb hby at_55) rfl (feq hc26).2 (by decide) (by decide) ?_
        show Steps p.tables e below (T23.setTop (mkF m 68 #[.val (.int p0), .val (.int p1), .val (.int p2), .val (.int p3), .val (.int p4), .val (.int (if (p4 &&& (1 : Int32)) = (0 : Int32) then p2 else p0 : Int32)), .val (.int (if (p4 &&& (2 : Int32)) = (0 : Int32) then p3 else p1 : Int32)), .val (.ref a), .val (.ref b), .unset, .unset, .unset, .unset, .unset, .unset, .unset] [])) _
        refine XS.iconst X23.here hx rfl (hb hby at_68) ?_
        exact k
      refine fun t k => R33 t ?_
      have q34 : (if p0 = (if (p4 &&& (1 : Int32)) = (0 : Int32) then p2 else p0 : Int32) then (if p1 = (if (p4 &&& (2 : Int32)) = (0 : Int32) then p3 else p1 : Int32) then (1 : Int32) else (0 : Int32)) else (0 : Int32) : Int32) = (0 : Int32) := (if_neg hc26)
      rw [q34] at k
      exact k
  have R35 : ∀ t, Steps p.tables e below (T23.setTop (mkF m 72 #[.val (.int p0), .val (.int p1), .val (.int p2), .val (.int p3), .val (.int p4), .val (.int (if (p4 &&& (1 : Int32)) = (0 : Int32) then p2 else p0 : Int32)), .val (.int (if (p4 &&& (2 : Int32)) = (0 : Int32) then p3 else p1 : Int32)), .val (.ref a), .val (.ref b), .val (.int (if p0 = (if (p4 &&& (1 : Int32)) = (0 : Int32) then p2 else p0 : Int32) then (if p1 = (if (p4 &&& (2 : Int32)) = (0 : Int32) then p3 else p1 : Int32) then (1 : Int32) else (0 : Int32)) else (0 : Int32) : Int32)), .unset, .unset, .unset, .unset, .unset, .unset] [(.int p0)])) t → Steps p.tables e below (s₁.setTop (entryFrame m #[(.int p0), (.int p1), (.int p2), (.int p3), (.int p4)] maxLocals)) t := by
    intro t k
    refine R25 t ?_
    show Steps p.tables e below (T23.setTop (mkF m 69 #[.val (.int p0), .val (.int p1), .val (.int p2), .val (.int p3), .val (.int p4), .val (.int (if (p4 &&& (1 : Int32)) = (0 : Int32) then p2 else p0 : Int32)), .val (.int (if (p4 &&& (2 : Int32)) = (0 : Int32) then p3 else p1 : Int32)), .val (.ref a), .val (.ref b), .unset, .unset, .unset, .unset, .unset, .unset, .unset] [(.int (if p0 = (if (p4 &&& (1 : Int32)) = (0 : Int32) then p2 else p0 : Int32) then (if p1 = (if (p4 &&& (2 : Int32)) = (0 : Int32) then p3 else p1 : Int32) then (1 : Int32) else (0 : Int32)) else (0 : Int32) : Int32))])) _
    refine XS.istore X23.here hx rfl (hb hby at_69) rfl (l' := #[.val (.int p0), .val (.int p1), .val (.int p2), .val (.int p3), .val (.int p4), .val (.int (if (p4 &&& (1 : Int32)) = (0 : Int32) then p2 else p0 : Int32)), .val (.int (if (p4 &&& (2 : Int32)) = (0 : Int32) then p3 else p1 : Int32)), .val (.ref a), .val (.ref b), .val (.int (if p0 = (if (p4 &&& (1 : Int32)) = (0 : Int32) then p2 else p0 : Int32) then (if p1 = (if (p4 &&& (2 : Int32)) = (0 : Int32) then p3 else p1 : Int32) then (1 : Int32) else (0 : Int32)) else (0 : Int32) : Int32)), .unset, .unset, .unset, .unset, .unset, .unset]) rfl ?_
    show Steps p.tables e below (T23.setTop (mkF m 71 #[.val (.int p0), .val (.int p1), .val (.int p2), .val (.int p3), .val (.int p4), .val (.int (if (p4 &&& (1 : Int32)) = (0 : Int32) then p2 else p0 : Int32)), .val (.int (if (p4 &&& (2 : Int32)) = (0 : Int32) then p3 else p1 : Int32)), .val (.ref a), .val (.ref b), .val (.int (if p0 = (if (p4 &&& (1 : Int32)) = (0 : Int32) then p2 else p0 : Int32) then (if p1 = (if (p4 &&& (2 : Int32)) = (0 : Int32) then p3 else p1 : Int32) then (1 : Int32) else (0 : Int32)) else (0 : Int32) : Int32)), .unset, .unset, .unset, .unset, .unset, .unset] [])) _
    refine XS.iloadN X23.here hx rfl (hb hby at_71) rfl ?_
    exact k
  by_cases hlo : p0 < (-128 : Int32)
  ·
    skip
    obtain ⟨_, _, ⟨T36, L36, k36, n36⟩, -, X36, ⟨Lc36, hQ36, l36, y36, z36⟩, st36⟩ := Jvm.LawKit.callS X23 hx (y := (⟨"java/lang/Integer", "valueOf", "(I)Ljava/lang/Integer;"⟩ : MethodName)) hown (mvT hZ (hw _ (List.mem_of_getElem? (i := 18) rfl))) (mvT hZ (hw _ (List.mem_of_getElem? (i := 19) rfl))) (mvT hZ (hw _ (List.mem_of_getElem? (i := 20) rfl))) (mvT hZ (hw _ (List.mem_of_getElem? (i := 21) rfl))) (by decide) (backOf (W := 0) (rm4lo l Z a0 hw [] p0 T23.heap n0 Sz23 hlo (SH.ext O.2)) hZ (hw _ (List.mem_of_getElem? (i := 21) rfl)) (hw _ (List.mem_of_getElem? (i := 20) rfl)) (by decide) (by decide)) (g := (mkF m 72 #[.val (.int p0), .val (.int p1), .val (.int p2), .val (.int p3), .val (.int p4), .val (.int (if (p4 &&& (1 : Int32)) = (0 : Int32) then p2 else p0 : Int32)), .val (.int (if (p4 &&& (2 : Int32)) = (0 : Int32) then p3 else p1 : Int32)), .val (.ref a), .val (.ref b), .val (.int (if p0 = (if (p4 &&& (1 : Int32)) = (0 : Int32) then p2 else p0 : Int32) then (if p1 = (if (p4 &&& (2 : Int32)) = (0 : Int32) then p3 else p1 : Int32) then (1 : Int32) else (0 : Int32)) else (0 : Int32) : Int32)), .unset, .unset, .unset, .unset, .unset, .unset] [(.int p0)])) rfl (by rw [hml]; rfl) (argsL := [(.int p0)]) (rest := []) (lenOf pd_3 rfl) rfl (by show 2 * 0 + _ ≤ _; exact Nat.le_of_eq rfl) (hb hby at_72) (fun _ _ => ⟨rfl, rfl, (by decide : 2 + 1 ≤ _), (by decide : 4 + 1 ≤ _)⟩)
    dsimp only [Pt.U, Pt.locs, Pt.cells, Pt.slots] at X36 l36 y36 z36 st36 hQ36
    subst l36 y36 z36
    obtain ⟨rfl, Nq36, K36, E_r⟩ := hQ36
    have N36 := Fr.app N23 Nq36
    have Sz36 := Nat.le_trans Sz23 K36.1
    have O := O.keep K36 all0
    have E_a := E_a.keep K36
    have F_sfi_a := F_sfi_a.keep K36 nin0
    have F_number_a := F_number_a.keep K36 nin0
    have E_b := E_b.keep K36
    have F_sfi_b := F_sfi_b.keep K36 nin0
    have F_number_b := F_number_b.keep K36 nin0
    have R37 : ∀ t, Steps p.tables e below (T36.setTop (mkF m 81 #[.val (.int p0), .val (.int p1), .val (.int p2), .val (.int p3), .val (.int p4), .val (.int (if (p4 &&& (1 : Int32)) = (0 : Int32) then p2 else p0 : Int32)), .val (.int (if (p4 &&& (2 : Int32)) = (0 : Int32) then p3 else p1 : Int32)), .val (.ref a), .val (.ref b), .val (.int (if p0 = (if (p4 &&& (1 : Int32)) = (0 : Int32) then p2 else p0 : Int32) then (if p1 = (if (p4 &&& (2 : Int32)) = (0 : Int32) then p3 else p1 : Int32) then (1 : Int32) else (0 : Int32)) else (0 : Int32) : Int32)), .val (.ref T23.heap.size), .unset, .unset, .unset, .unset, .unset] [(.ref b), (.ref a)])) t → Steps p.tables e below (s₁.setTop (entryFrame m #[(.int p0), (.int p1), (.int p2), (.int p3), (.int p4)] maxLocals)) t := by
      intro t k
      refine R35 t ?_
      show Steps p.tables e below (T23.setTop (mkF m 72 #[.val (.int p0), .val (.int p1), .val (.int p2), .val (.int p3), .val (.int p4), .val (.int (if (p4 &&& (1 : Int32)) = (0 : Int32) then p2 else p0 : Int32)), .val (.int (if (p4 &&& (2 : Int32)) = (0 : Int32) then p3 else p1 : Int32)), .val (.ref a), .val (.ref b), .val (.int (if p0 = (if (p4 &&& (1 : Int32)) = (0 : Int32) then p2 else p0 : Int32) then (if p1 = (if (p4 &&& (2 : Int32)) = (0 : Int32) then p3 else p1 : Int32) then (1 : Int32) else (0 : Int32)) else (0 : Int32) : Int32)), .unset, .unset, .unset, .unset, .unset, .unset] [(.int p0)])) _
      refine st36 _ ?_
      show Steps p.tables e below (T36.setTop (mkF m 75 #[.val (.int p0), .val (.int p1), .val (.int p2), .val (.int p3), .val (.int p4), .val (.int (if (p4 &&& (1 : Int32)) = (0 : Int32) then p2 else p0 : Int32)), .val (.int (if (p4 &&& (2 : Int32)) = (0 : Int32) then p3 else p1 : Int32)), .val (.ref a), .val (.ref b), .val (.int (if p0 = (if (p4 &&& (1 : Int32)) = (0 : Int32) then p2 else p0 : Int32) then (if p1 = (if (p4 &&& (2 : Int32)) = (0 : Int32) then p3 else p1 : Int32) then (1 : Int32) else (0 : Int32)) else (0 : Int32) : Int32)), .unset, .unset, .unset, .unset, .unset, .unset] [(.ref T23.heap.size)])) _
      refine XS.astore X36.here hx rfl (hb hby at_75) rfl rfl (l' := #[.val (.int p0), .val (.int p1), .val (.int p2), .val (.int p3), .val (.int p4), .val (.int (if (p4 &&& (1 : Int32)) = (0 : Int32) then p2 else p0 : Int32)), .val (.int (if (p4 &&& (2 : Int32)) = (0 : Int32) then p3 else p1 : Int32)), .val (.ref a), .val (.ref b), .val (.int (if p0 = (if (p4 &&& (1 : Int32)) = (0 : Int32) then p2 else p0 : Int32) then (if p1 = (if (p4 &&& (2 : Int32)) = (0 : Int32) then p3 else p1 : Int32) then (1 : Int32) else (0 : Int32)) else (0 : Int32) : Int32)), .val (.ref T23.heap.size), .unset, .unset, .unset, .unset, .unset]) rfl ?_
      show Steps p.tables e below (T36.setTop (mkF m 77 #[.val (.int p0), .val (.int p1), .val (.int p2), .val (.int p3), .val (.int p4), .val (.int (if (p4 &&& (1 : Int32)) = (0 : Int32) then p2 else p0 : Int32)), .val (.int (if (p4 &&& (2 : Int32)) = (0 : Int32) then p3 else p1 : Int32)), .val (.ref a), .val (.ref b), .val (.int (if p0 = (if (p4 &&& (1 : Int32)) = (0 : Int32) then p2 else p0 : Int32) then (if p1 = (if (p4 &&& (2 : Int32)) = (0 : Int32) then p3 else p1 : Int32) then (1 : Int32) else (0 : Int32)) else (0 : Int32) : Int32)), .val (.ref T23.heap.size), .unset, .unset, .unset, .unset, .unset] [])) _
      refine XS.aload X36.here hx rfl (hb hby at_77) rfl rfl ?_
      show Steps p.tables e below (T36.setTop (mkF m 79 #[.val (.int p0), .val (.int p1), .val (.int p2), .val (.int p3), .val (.int p4), .val (.int (if (p4 &&& (1 : Int32)) = (0 : Int32) then p2 else p0 : Int32)), .val (.int (if (p4 &&& (2 : Int32)) = (0 : Int32) then p3 else p1 : Int32)), .val (.ref a), .val (.ref b), .val (.int (if p0 = (if (p4 &&& (1 : Int32)) = (0 : Int32) then p2 else p0 : Int32) then (if p1 = (if (p4 &&& (2 : Int32)) = (0 : Int32) then p3 else p1 : Int32) then (1 : Int32) else (0 : Int32)) else (0 : Int32) : Int32)), .val (.ref T23.heap.size), .unset, .unset, .unset, .unset, .unset] [(.ref a)])) _
      refine XS.aload X36.here hx rfl (hb hby at_79) rfl rfl ?_
      exact k
    obtain ⟨cq38, kq38, q38a, q38b, q38c⟩ := isOf hZ rfl E_a
    obtain ⟨_, _, ⟨T38, L38, k38, n38⟩, -, X38, ⟨Lc38, hQ38, l38, y38, z38⟩, st38⟩ := X36.virtualBack hx (y := (⟨"com/example/tapline/emv/RecordNumber", "equals", "(Ljava/lang/Object;)Z"⟩ : MethodName)) (z := (⟨"com/example/tapline/emv/RecordNumber", "equals", "(Ljava/lang/Object;)Z"⟩ : MethodName)) hown (mvT hZ (hw _ (List.mem_of_getElem? (i := 25) rfl))) (mvT hZ (hw _ (List.mem_of_getElem? (i := 26) rfl))) (notFace_of_selects (args := #[]) (mvT hZ (hw _ (List.mem_of_getElem? (i := 28) rfl)))) (mvT hZ (hw _ (List.mem_of_getElem? (i := 28) rfl))) (mvT hZ (hw _ (List.mem_of_getElem? (i := 27) rfl))) (by decide) (backOf (W := 0) (rm5r l Z a0 hw [] a b p0 p1 (if (p4 &&& (1 : Int32)) = (0 : Int32) then p2 else p0 : Int32) (if (p4 &&& (2 : Int32)) = (0 : Int32) then p3 else p1 : Int32) T36.heap n0 Sz36 F_sfi_a F_number_a F_sfi_b F_number_b E_b) hZ (hw _ (List.mem_of_getElem? (i := 29) rfl)) (hw _ (List.mem_of_getElem? (i := 2) rfl)) (by decide) (by decide)) q38a q38c (g := (mkF m 81 #[.val (.int p0), .val (.int p1), .val (.int p2), .val (.int p3), .val (.int p4), .val (.int (if (p4 &&& (1 : Int32)) = (0 : Int32) then p2 else p0 : Int32)), .val (.int (if (p4 &&& (2 : Int32)) = (0 : Int32) then p3 else p1 : Int32)), .val (.ref a), .val (.ref b), .val (.int (if p0 = (if (p4 &&& (1 : Int32)) = (0 : Int32) then p2 else p0 : Int32) then (if p1 = (if (p4 &&& (2 : Int32)) = (0 : Int32) then p3 else p1 : Int32) then (1 : Int32) else (0 : Int32)) else (0 : Int32) : Int32)), .val (.ref T23.heap.size), .unset, .unset, .unset, .unset, .unset] [(.ref b), (.ref a)])) rfl (by rw [hml]; rfl) (Steps.refl _) (argsL := [(.ref b)]) (rest := []) (lenOf pd_4 rfl) rfl (by show 2 * 0 + _ ≤ _; exact Nat.le_of_eq rfl) (hb hby at_81) (fun _ _ => ⟨rfl, rfl, (by decide : 3 + 0 ≤ _), (by decide : 5 + 0 ≤ _)⟩)
    dsimp only [Pt.U, Pt.locs, Pt.cells, Pt.slots] at X38 l38 y38 z38 st38 hQ38
    subst l38 y38 z38
    obtain ⟨rfl, Nq38, eq38⟩ := hQ38
    have N38 := Fr.app N36 Nq38
    have e38 : T38.heap = T36.heap := eq38
    have R39 : ∀ t, Steps p.tables e below (T38.setTop (mkF m 90 #[.val (.int p0), .val (.int p1), .val (.int p2), .val (.int p3), .val (.int p4), .val (.int (if (p4 &&& (1 : Int32)) = (0 : Int32) then p2 else p0 : Int32)), .val (.int (if (p4 &&& (2 : Int32)) = (0 : Int32) then p3 else p1 : Int32)), .val (.ref a), .val (.ref b), .val (.int (if p0 = (if (p4 &&& (1 : Int32)) = (0 : Int32) then p2 else p0 : Int32) then (if p1 = (if (p4 &&& (2 : Int32)) = (0 : Int32) then p3 else p1 : Int32) then (1 : Int32) else (0 : Int32)) else (0 : Int32) : Int32)), .val (.ref T23.heap.size), .val (.int (if p0 = (if (p4 &&& (1 : Int32)) = (0 : Int32) then p2 else p0 : Int32) then (if p1 = (if (p4 &&& (2 : Int32)) = (0 : Int32) then p3 else p1 : Int32) then (1 : Int32) else (0 : Int32)) else (0 : Int32))), .unset, .unset, .unset, .unset] [(.ref a), (.ref b)])) t → Steps p.tables e below (s₁.setTop (entryFrame m #[(.int p0), (.int p1), (.int p2), (.int p3), (.int p4)] maxLocals)) t := by
      intro t k
      refine R37 t ?_
      show Steps p.tables e below (T36.setTop (mkF m 81 #[.val (.int p0), .val (.int p1), .val (.int p2), .val (.int p3), .val (.int p4), .val (.int (if (p4 &&& (1 : Int32)) = (0 : Int32) then p2 else p0 : Int32)), .val (.int (if (p4 &&& (2 : Int32)) = (0 : Int32) then p3 else p1 : Int32)), .val (.ref a), .val (.ref b), .val (.int (if p0 = (if (p4 &&& (1 : Int32)) = (0 : Int32) then p2 else p0 : Int32) then (if p1 = (if (p4 &&& (2 : Int32)) = (0 : Int32) then p3 else p1 : Int32) then (1 : Int32) else (0 : Int32)) else (0 : Int32) : Int32)), .val (.ref T23.heap.size), .unset, .unset, .unset, .unset, .unset] [(.ref b), (.ref a)])) _
      refine st38.trans ?_
      show Steps p.tables e below (T38.setTop (mkF m 84 #[.val (.int p0), .val (.int p1), .val (.int p2), .val (.int p3), .val (.int p4), .val (.int (if (p4 &&& (1 : Int32)) = (0 : Int32) then p2 else p0 : Int32)), .val (.int (if (p4 &&& (2 : Int32)) = (0 : Int32) then p3 else p1 : Int32)), .val (.ref a), .val (.ref b), .val (.int (if p0 = (if (p4 &&& (1 : Int32)) = (0 : Int32) then p2 else p0 : Int32) then (if p1 = (if (p4 &&& (2 : Int32)) = (0 : Int32) then p3 else p1 : Int32) then (1 : Int32) else (0 : Int32)) else (0 : Int32) : Int32)), .val (.ref T23.heap.size), .unset, .unset, .unset, .unset, .unset] [(.int (if p0 = (if (p4 &&& (1 : Int32)) = (0 : Int32) then p2 else p0 : Int32) then (if p1 = (if (p4 &&& (2 : Int32)) = (0 : Int32) then p3 else p1 : Int32) then (1 : Int32) else (0 : Int32)) else (0 : Int32)))])) _
      refine XS.istore X38.here hx rfl (hb hby at_84) rfl (l' := #[.val (.int p0), .val (.int p1), .val (.int p2), .val (.int p3), .val (.int p4), .val (.int (if (p4 &&& (1 : Int32)) = (0 : Int32) then p2 else p0 : Int32)), .val (.int (if (p4 &&& (2 : Int32)) = (0 : Int32) then p3 else p1 : Int32)), .val (.ref a), .val (.ref b), .val (.int (if p0 = (if (p4 &&& (1 : Int32)) = (0 : Int32) then p2 else p0 : Int32) then (if p1 = (if (p4 &&& (2 : Int32)) = (0 : Int32) then p3 else p1 : Int32) then (1 : Int32) else (0 : Int32)) else (0 : Int32) : Int32)), .val (.ref T23.heap.size), .val (.int (if p0 = (if (p4 &&& (1 : Int32)) = (0 : Int32) then p2 else p0 : Int32) then (if p1 = (if (p4 &&& (2 : Int32)) = (0 : Int32) then p3 else p1 : Int32) then (1 : Int32) else (0 : Int32)) else (0 : Int32))), .unset, .unset, .unset, .unset]) rfl ?_
      show Steps p.tables e below (T38.setTop (mkF m 86 #[.val (.int p0), .val (.int p1), .val (.int p2), .val (.int p3), .val (.int p4), .val (.int (if (p4 &&& (1 : Int32)) = (0 : Int32) then p2 else p0 : Int32)), .val (.int (if (p4 &&& (2 : Int32)) = (0 : Int32) then p3 else p1 : Int32)), .val (.ref a), .val (.ref b), .val (.int (if p0 = (if (p4 &&& (1 : Int32)) = (0 : Int32) then p2 else p0 : Int32) then (if p1 = (if (p4 &&& (2 : Int32)) = (0 : Int32) then p3 else p1 : Int32) then (1 : Int32) else (0 : Int32)) else (0 : Int32) : Int32)), .val (.ref T23.heap.size), .val (.int (if p0 = (if (p4 &&& (1 : Int32)) = (0 : Int32) then p2 else p0 : Int32) then (if p1 = (if (p4 &&& (2 : Int32)) = (0 : Int32) then p3 else p1 : Int32) then (1 : Int32) else (0 : Int32)) else (0 : Int32))), .unset, .unset, .unset, .unset] [])) _
      refine XS.aload X38.here hx rfl (hb hby at_86) rfl rfl ?_
      show Steps p.tables e below (T38.setTop (mkF m 88 #[.val (.int p0), .val (.int p1), .val (.int p2), .val (.int p3), .val (.int p4), .val (.int (if (p4 &&& (1 : Int32)) = (0 : Int32) then p2 else p0 : Int32)), .val (.int (if (p4 &&& (2 : Int32)) = (0 : Int32) then p3 else p1 : Int32)), .val (.ref a), .val (.ref b), .val (.int (if p0 = (if (p4 &&& (1 : Int32)) = (0 : Int32) then p2 else p0 : Int32) then (if p1 = (if (p4 &&& (2 : Int32)) = (0 : Int32) then p3 else p1 : Int32) then (1 : Int32) else (0 : Int32)) else (0 : Int32) : Int32)), .val (.ref T23.heap.size), .val (.int (if p0 = (if (p4 &&& (1 : Int32)) = (0 : Int32) then p2 else p0 : Int32) then (if p1 = (if (p4 &&& (2 : Int32)) = (0 : Int32) then p3 else p1 : Int32) then (1 : Int32) else (0 : Int32)) else (0 : Int32))), .unset, .unset, .unset, .unset] [(.ref b)])) _
      refine XS.aload X38.here hx rfl (hb hby at_88) rfl rfl ?_
      exact k
    obtain ⟨cq40, kq40, q40a, q40b, q40c⟩ := isOf hZ e38 E_b
    obtain ⟨_, _, ⟨T40, L40, k40, n40⟩, -, X40, ⟨Lc40, hQ40, l40, y40, z40⟩, st40⟩ := X38.virtualBack hx (y := (⟨"com/example/tapline/emv/RecordNumber", "equals", "(Ljava/lang/Object;)Z"⟩ : MethodName)) (z := (⟨"com/example/tapline/emv/RecordNumber", "equals", "(Ljava/lang/Object;)Z"⟩ : MethodName)) hown (mvT hZ (hw _ (List.mem_of_getElem? (i := 25) rfl))) (mvT hZ (hw _ (List.mem_of_getElem? (i := 26) rfl))) (notFace_of_selects (args := #[]) (mvT hZ (hw _ (List.mem_of_getElem? (i := 28) rfl)))) (mvT hZ (hw _ (List.mem_of_getElem? (i := 28) rfl))) (mvT hZ (hw _ (List.mem_of_getElem? (i := 27) rfl))) (by decide) (backOf (W := 0) (rm5r l Z a0 hw [] b a (if (p4 &&& (1 : Int32)) = (0 : Int32) then p2 else p0 : Int32) (if (p4 &&& (2 : Int32)) = (0 : Int32) then p3 else p1 : Int32) p0 p1 T36.heap n0 Sz36 F_sfi_b F_number_b F_sfi_a F_number_a E_a) hZ (hw _ (List.mem_of_getElem? (i := 29) rfl)) (hw _ (List.mem_of_getElem? (i := 2) rfl)) (by decide) (by decide)) q40a q40c (g := (mkF m 90 #[.val (.int p0), .val (.int p1), .val (.int p2), .val (.int p3), .val (.int p4), .val (.int (if (p4 &&& (1 : Int32)) = (0 : Int32) then p2 else p0 : Int32)), .val (.int (if (p4 &&& (2 : Int32)) = (0 : Int32) then p3 else p1 : Int32)), .val (.ref a), .val (.ref b), .val (.int (if p0 = (if (p4 &&& (1 : Int32)) = (0 : Int32) then p2 else p0 : Int32) then (if p1 = (if (p4 &&& (2 : Int32)) = (0 : Int32) then p3 else p1 : Int32) then (1 : Int32) else (0 : Int32)) else (0 : Int32) : Int32)), .val (.ref T23.heap.size), .val (.int (if p0 = (if (p4 &&& (1 : Int32)) = (0 : Int32) then p2 else p0 : Int32) then (if p1 = (if (p4 &&& (2 : Int32)) = (0 : Int32) then p3 else p1 : Int32) then (1 : Int32) else (0 : Int32)) else (0 : Int32))), .unset, .unset, .unset, .unset] [(.ref a), (.ref b)])) rfl (by rw [hml]; rfl) (Steps.refl _) (argsL := [(.ref a)]) (rest := []) (lenOf pd_4 rfl) rfl (by show 2 * 0 + _ ≤ _; exact Nat.le_of_eq rfl) (hb hby at_90) (fun _ _ => ⟨rfl, e38, (by decide : 3 + 0 ≤ _), (by decide : 5 + 0 ≤ _)⟩)
    dsimp only [Pt.U, Pt.locs, Pt.cells, Pt.slots] at X40 l40 y40 z40 st40 hQ40
    subst l40 y40 z40
    obtain ⟨rfl, Nq40, eq40⟩ := hQ40
    have N40 := Fr.app N38 Nq40
    have e40 : T40.heap = T36.heap := eq40
    have R41 : ∀ t, Steps p.tables e below (T40.setTop (mkF m 99 #[.val (.int p0), .val (.int p1), .val (.int p2), .val (.int p3), .val (.int p4), .val (.int (if (p4 &&& (1 : Int32)) = (0 : Int32) then p2 else p0 : Int32)), .val (.int (if (p4 &&& (2 : Int32)) = (0 : Int32) then p3 else p1 : Int32)), .val (.ref a), .val (.ref b), .val (.int (if p0 = (if (p4 &&& (1 : Int32)) = (0 : Int32) then p2 else p0 : Int32) then (if p1 = (if (p4 &&& (2 : Int32)) = (0 : Int32) then p3 else p1 : Int32) then (1 : Int32) else (0 : Int32)) else (0 : Int32) : Int32)), .val (.ref T23.heap.size), .val (.int (if p0 = (if (p4 &&& (1 : Int32)) = (0 : Int32) then p2 else p0 : Int32) then (if p1 = (if (p4 &&& (2 : Int32)) = (0 : Int32) then p3 else p1 : Int32) then (1 : Int32) else (0 : Int32)) else (0 : Int32))), .val (.int (if (if (p4 &&& (1 : Int32)) = (0 : Int32) then p2 else p0 : Int32) = p0 then (if (if (p4 &&& (2 : Int32)) = (0 : Int32) then p3 else p1 : Int32) = p1 then (1 : Int32) else (0 : Int32)) else (0 : Int32))), .unset, .unset, .unset] [(.ref a), (.ref a)])) t → Steps p.tables e below (s₁.setTop (entryFrame m #[(.int p0), (.int p1), (.int p2), (.int p3), (.int p4)] maxLocals)) t := by
      intro t k
      refine R39 t ?_
      show Steps p.tables e below (T38.setTop (mkF m 90 #[.val (.int p0), .val (.int p1), .val (.int p2), .val (.int p3), .val (.int p4), .val (.int (if (p4 &&& (1 : Int32)) = (0 : Int32) then p2 else p0 : Int32)), .val (.int (if (p4 &&& (2 : Int32)) = (0 : Int32) then p3 else p1 : Int32)), .val (.ref a), .val (.ref b), .val (.int (if p0 = (if (p4 &&& (1 : Int32)) = (0 : Int32) then p2 else p0 : Int32) then (if p1 = (if (p4 &&& (2 : Int32)) = (0 : Int32) then p3 else p1 : Int32) then (1 : Int32) else (0 : Int32)) else (0 : Int32) : Int32)), .val (.ref T23.heap.size), .val (.int (if p0 = (if (p4 &&& (1 : Int32)) = (0 : Int32) then p2 else p0 : Int32) then (if p1 = (if (p4 &&& (2 : Int32)) = (0 : Int32) then p3 else p1 : Int32) then (1 : Int32) else (0 : Int32)) else (0 : Int32))), .unset, .unset, .unset, .unset] [(.ref a), (.ref b)])) _
      refine st40.trans ?_
      show Steps p.tables e below (T40.setTop (mkF m 93 #[.val (.int p0), .val (.int p1), .val (.int p2), .val (.int p3), .val (.int p4), .val (.int (if (p4 &&& (1 : Int32)) = (0 : Int32) then p2 else p0 : Int32)), .val (.int (if (p4 &&& (2 : Int32)) = (0 : Int32) then p3 else p1 : Int32)), .val (.ref a), .val (.ref b), .val (.int (if p0 = (if (p4 &&& (1 : Int32)) = (0 : Int32) then p2 else p0 : Int32) then (if p1 = (if (p4 &&& (2 : Int32)) = (0 : Int32) then p3 else p1 : Int32) then (1 : Int32) else (0 : Int32)) else (0 : Int32) : Int32)), .val (.ref T23.heap.size), .val (.int (if p0 = (if (p4 &&& (1 : Int32)) = (0 : Int32) then p2 else p0 : Int32) then (if p1 = (if (p4 &&& (2 : Int32)) = (0 : Int32) then p3 else p1 : Int32) then (1 : Int32) else (0 : Int32)) else (0 : Int32))), .unset, .unset, .unset, .unset] [(.int (if (if (p4 &&& (1 : Int32)) = (0 : Int32) then p2 else p0 : Int32) = p0 then (if (if (p4 &&& (2 : Int32)) = (0 : Int32) then p3 else p1 : Int32) = p1 then (1 : Int32) else (0 : Int32)) else (0 : Int32)))])) _
      refine XS.istore X40.here hx rfl (hb hby at_93) rfl (l' := #[.val (.int p0), .val (.int p1), .val (.int p2), .val (.int p3), .val (.int p4), .val (.int (if (p4 &&& (1 : Int32)) = (0 : Int32) then p2 else p0 : Int32)), .val (.int (if (p4 &&& (2 : Int32)) = (0 : Int32) then p3 else p1 : Int32)), .val (.ref a), .val (.ref b), .val (.int (if p0 = (if (p4 &&& (1 : Int32)) = (0 : Int32) then p2 else p0 : Int32) then (if p1 = (if (p4 &&& (2 : Int32)) = (0 : Int32) then p3 else p1 : Int32) then (1 : Int32) else (0 : Int32)) else (0 : Int32) : Int32)), .val (.ref T23.heap.size), .val (.int (if p0 = (if (p4 &&& (1 : Int32)) = (0 : Int32) then p2 else p0 : Int32) then (if p1 = (if (p4 &&& (2 : Int32)) = (0 : Int32) then p3 else p1 : Int32) then (1 : Int32) else (0 : Int32)) else (0 : Int32))), .val (.int (if (if (p4 &&& (1 : Int32)) = (0 : Int32) then p2 else p0 : Int32) = p0 then (if (if (p4 &&& (2 : Int32)) = (0 : Int32) then p3 else p1 : Int32) = p1 then (1 : Int32) else (0 : Int32)) else (0 : Int32))), .unset, .unset, .unset]) rfl ?_
      show Steps p.tables e below (T40.setTop (mkF m 95 #[.val (.int p0), .val (.int p1), .val (.int p2), .val (.int p3), .val (.int p4), .val (.int (if (p4 &&& (1 : Int32)) = (0 : Int32) then p2 else p0 : Int32)), .val (.int (if (p4 &&& (2 : Int32)) = (0 : Int32) then p3 else p1 : Int32)), .val (.ref a), .val (.ref b), .val (.int (if p0 = (if (p4 &&& (1 : Int32)) = (0 : Int32) then p2 else p0 : Int32) then (if p1 = (if (p4 &&& (2 : Int32)) = (0 : Int32) then p3 else p1 : Int32) then (1 : Int32) else (0 : Int32)) else (0 : Int32) : Int32)), .val (.ref T23.heap.size), .val (.int (if p0 = (if (p4 &&& (1 : Int32)) = (0 : Int32) then p2 else p0 : Int32) then (if p1 = (if (p4 &&& (2 : Int32)) = (0 : Int32) then p3 else p1 : Int32) then (1 : Int32) else (0 : Int32)) else (0 : Int32))), .val (.int (if (if (p4 &&& (1 : Int32)) = (0 : Int32) then p2 else p0 : Int32) = p0 then (if (if (p4 &&& (2 : Int32)) = (0 : Int32) then p3 else p1 : Int32) = p1 then (1 : Int32) else (0 : Int32)) else (0 : Int32))), .unset, .unset, .unset] [])) _
      refine XS.aload X40.here hx rfl (hb hby at_95) rfl rfl ?_
      show Steps p.tables e below (T40.setTop (mkF m 97 #[.val (.int p0), .val (.int p1), .val (.int p2), .val (.int p3), .val (.int p4), .val (.int (if (p4 &&& (1 : Int32)) = (0 : Int32) then p2 else p0 : Int32)), .val (.int (if (p4 &&& (2 : Int32)) = (0 : Int32) then p3 else p1 : Int32)), .val (.ref a), .val (.ref b), .val (.int (if p0 = (if (p4 &&& (1 : Int32)) = (0 : Int32) then p2 else p0 : Int32) then (if p1 = (if (p4 &&& (2 : Int32)) = (0 : Int32) then p3 else p1 : Int32) then (1 : Int32) else (0 : Int32)) else (0 : Int32) : Int32)), .val (.ref T23.heap.size), .val (.int (if p0 = (if (p4 &&& (1 : Int32)) = (0 : Int32) then p2 else p0 : Int32) then (if p1 = (if (p4 &&& (2 : Int32)) = (0 : Int32) then p3 else p1 : Int32) then (1 : Int32) else (0 : Int32)) else (0 : Int32))), .val (.int (if (if (p4 &&& (1 : Int32)) = (0 : Int32) then p2 else p0 : Int32) = p0 then (if (if (p4 &&& (2 : Int32)) = (0 : Int32) then p3 else p1 : Int32) = p1 then (1 : Int32) else (0 : Int32)) else (0 : Int32))), .unset, .unset, .unset] [(.ref a)])) _
      refine XS.aload X40.here hx rfl (hb hby at_97) rfl rfl ?_
      exact k
    obtain ⟨cq42, kq42, q42a, q42b, q42c⟩ := isOf hZ e40 E_a
    obtain ⟨_, _, ⟨T42, L42, k42, n42⟩, -, X42, ⟨Lc42, hQ42, l42, y42, z42⟩, st42⟩ := X40.virtualBack hx (y := (⟨"com/example/tapline/emv/RecordNumber", "equals", "(Ljava/lang/Object;)Z"⟩ : MethodName)) (z := (⟨"com/example/tapline/emv/RecordNumber", "equals", "(Ljava/lang/Object;)Z"⟩ : MethodName)) hown (mvT hZ (hw _ (List.mem_of_getElem? (i := 25) rfl))) (mvT hZ (hw _ (List.mem_of_getElem? (i := 26) rfl))) (notFace_of_selects (args := #[]) (mvT hZ (hw _ (List.mem_of_getElem? (i := 28) rfl)))) (mvT hZ (hw _ (List.mem_of_getElem? (i := 28) rfl))) (mvT hZ (hw _ (List.mem_of_getElem? (i := 27) rfl))) (by decide) (backOf (W := 0) (rm5r l Z a0 hw [] a a p0 p1 p0 p1 T36.heap n0 Sz36 F_sfi_a F_number_a F_sfi_a F_number_a E_a) hZ (hw _ (List.mem_of_getElem? (i := 29) rfl)) (hw _ (List.mem_of_getElem? (i := 2) rfl)) (by decide) (by decide)) q42a q42c (g := (mkF m 99 #[.val (.int p0), .val (.int p1), .val (.int p2), .val (.int p3), .val (.int p4), .val (.int (if (p4 &&& (1 : Int32)) = (0 : Int32) then p2 else p0 : Int32)), .val (.int (if (p4 &&& (2 : Int32)) = (0 : Int32) then p3 else p1 : Int32)), .val (.ref a), .val (.ref b), .val (.int (if p0 = (if (p4 &&& (1 : Int32)) = (0 : Int32) then p2 else p0 : Int32) then (if p1 = (if (p4 &&& (2 : Int32)) = (0 : Int32) then p3 else p1 : Int32) then (1 : Int32) else (0 : Int32)) else (0 : Int32) : Int32)), .val (.ref T23.heap.size), .val (.int (if p0 = (if (p4 &&& (1 : Int32)) = (0 : Int32) then p2 else p0 : Int32) then (if p1 = (if (p4 &&& (2 : Int32)) = (0 : Int32) then p3 else p1 : Int32) then (1 : Int32) else (0 : Int32)) else (0 : Int32))), .val (.int (if (if (p4 &&& (1 : Int32)) = (0 : Int32) then p2 else p0 : Int32) = p0 then (if (if (p4 &&& (2 : Int32)) = (0 : Int32) then p3 else p1 : Int32) = p1 then (1 : Int32) else (0 : Int32)) else (0 : Int32))), .unset, .unset, .unset] [(.ref a), (.ref a)])) rfl (by rw [hml]; rfl) (Steps.refl _) (argsL := [(.ref a)]) (rest := []) (lenOf pd_4 rfl) rfl (by show 2 * 0 + _ ≤ _; exact Nat.le_of_eq rfl) (hb hby at_99) (fun _ _ => ⟨rfl, e40, (by decide : 3 + 0 ≤ _), (by decide : 5 + 0 ≤ _)⟩)
    dsimp only [Pt.U, Pt.locs, Pt.cells, Pt.slots] at X42 l42 y42 z42 st42 hQ42
    subst l42 y42 z42
    obtain ⟨rfl, Nq42, eq42⟩ := hQ42
    have N42 := Fr.app N40 Nq42
    have e42 : T42.heap = T36.heap := eq42
    have R43 : ∀ t, Steps p.tables e below (T42.setTop (mkF m 107 #[.val (.int p0), .val (.int p1), .val (.int p2), .val (.int p3), .val (.int p4), .val (.int (if (p4 &&& (1 : Int32)) = (0 : Int32) then p2 else p0 : Int32)), .val (.int (if (p4 &&& (2 : Int32)) = (0 : Int32) then p3 else p1 : Int32)), .val (.ref a), .val (.ref b), .val (.int (if p0 = (if (p4 &&& (1 : Int32)) = (0 : Int32) then p2 else p0 : Int32) then (if p1 = (if (p4 &&& (2 : Int32)) = (0 : Int32) then p3 else p1 : Int32) then (1 : Int32) else (0 : Int32)) else (0 : Int32) : Int32)), .val (.ref T23.heap.size), .val (.int (if p0 = (if (p4 &&& (1 : Int32)) = (0 : Int32) then p2 else p0 : Int32) then (if p1 = (if (p4 &&& (2 : Int32)) = (0 : Int32) then p3 else p1 : Int32) then (1 : Int32) else (0 : Int32)) else (0 : Int32))), .val (.int (if (if (p4 &&& (1 : Int32)) = (0 : Int32) then p2 else p0 : Int32) = p0 then (if (if (p4 &&& (2 : Int32)) = (0 : Int32) then p3 else p1 : Int32) = p1 then (1 : Int32) else (0 : Int32)) else (0 : Int32))), .val (.int (if p0 = p0 then (if p1 = p1 then (1 : Int32) else (0 : Int32)) else (0 : Int32))), .unset, .unset] [.null, (.ref a)])) t → Steps p.tables e below (s₁.setTop (entryFrame m #[(.int p0), (.int p1), (.int p2), (.int p3), (.int p4)] maxLocals)) t := by
      intro t k
      refine R41 t ?_
      show Steps p.tables e below (T40.setTop (mkF m 99 #[.val (.int p0), .val (.int p1), .val (.int p2), .val (.int p3), .val (.int p4), .val (.int (if (p4 &&& (1 : Int32)) = (0 : Int32) then p2 else p0 : Int32)), .val (.int (if (p4 &&& (2 : Int32)) = (0 : Int32) then p3 else p1 : Int32)), .val (.ref a), .val (.ref b), .val (.int (if p0 = (if (p4 &&& (1 : Int32)) = (0 : Int32) then p2 else p0 : Int32) then (if p1 = (if (p4 &&& (2 : Int32)) = (0 : Int32) then p3 else p1 : Int32) then (1 : Int32) else (0 : Int32)) else (0 : Int32) : Int32)), .val (.ref T23.heap.size), .val (.int (if p0 = (if (p4 &&& (1 : Int32)) = (0 : Int32) then p2 else p0 : Int32) then (if p1 = (if (p4 &&& (2 : Int32)) = (0 : Int32) then p3 else p1 : Int32) then (1 : Int32) else (0 : Int32)) else (0 : Int32))), .val (.int (if (if (p4 &&& (1 : Int32)) = (0 : Int32) then p2 else p0 : Int32) = p0 then (if (if (p4 &&& (2 : Int32)) = (0 : Int32) then p3 else p1 : Int32) = p1 then (1 : Int32) else (0 : Int32)) else (0 : Int32))), .unset, .unset, .unset] [(.ref a), (.ref a)])) _
      refine st42.trans ?_
      show Steps p.tables e below (T42.setTop (mkF m 102 #[.val (.int p0), .val (.int p1), .val (.int p2), .val (.int p3), .val (.int p4), .val (.int (if (p4 &&& (1 : Int32)) = (0 : Int32) then p2 else p0 : Int32)), .val (.int (if (p4 &&& (2 : Int32)) = (0 : Int32) then p3 else p1 : Int32)), .val (.ref a), .val (.ref b), .val (.int (if p0 = (if (p4 &&& (1 : Int32)) = (0 : Int32) then p2 else p0 : Int32) then (if p1 = (if (p4 &&& (2 : Int32)) = (0 : Int32) then p3 else p1 : Int32) then (1 : Int32) else (0 : Int32)) else (0 : Int32) : Int32)), .val (.ref T23.heap.size), .val (.int (if p0 = (if (p4 &&& (1 : Int32)) = (0 : Int32) then p2 else p0 : Int32) then (if p1 = (if (p4 &&& (2 : Int32)) = (0 : Int32) then p3 else p1 : Int32) then (1 : Int32) else (0 : Int32)) else (0 : Int32))), .val (.int (if (if (p4 &&& (1 : Int32)) = (0 : Int32) then p2 else p0 : Int32) = p0 then (if (if (p4 &&& (2 : Int32)) = (0 : Int32) then p3 else p1 : Int32) = p1 then (1 : Int32) else (0 : Int32)) else (0 : Int32))), .unset, .unset, .unset] [(.int (if p0 = p0 then (if p1 = p1 then (1 : Int32) else (0 : Int32)) else (0 : Int32)))])) _
      refine XS.istore X42.here hx rfl (hb hby at_102) rfl (l' := #[.val (.int p0), .val (.int p1), .val (.int p2), .val (.int p3), .val (.int p4), .val (.int (if (p4 &&& (1 : Int32)) = (0 : Int32) then p2 else p0 : Int32)), .val (.int (if (p4 &&& (2 : Int32)) = (0 : Int32) then p3 else p1 : Int32)), .val (.ref a), .val (.ref b), .val (.int (if p0 = (if (p4 &&& (1 : Int32)) = (0 : Int32) then p2 else p0 : Int32) then (if p1 = (if (p4 &&& (2 : Int32)) = (0 : Int32) then p3 else p1 : Int32) then (1 : Int32) else (0 : Int32)) else (0 : Int32) : Int32)), .val (.ref T23.heap.size), .val (.int (if p0 = (if (p4 &&& (1 : Int32)) = (0 : Int32) then p2 else p0 : Int32) then (if p1 = (if (p4 &&& (2 : Int32)) = (0 : Int32) then p3 else p1 : Int32) then (1 : Int32) else (0 : Int32)) else (0 : Int32))), .val (.int (if (if (p4 &&& (1 : Int32)) = (0 : Int32) then p2 else p0 : Int32) = p0 then (if (if (p4 &&& (2 : Int32)) = (0 : Int32) then p3 else p1 : Int32) = p1 then (1 : Int32) else (0 : Int32)) else (0 : Int32))), .val (.int (if p0 = p0 then (if p1 = p1 then (1 : Int32) else (0 : Int32)) else (0 : Int32))), .unset, .unset]) rfl ?_
      show Steps p.tables e below (T42.setTop (mkF m 104 #[.val (.int p0), .val (.int p1), .val (.int p2), .val (.int p3), .val (.int p4), .val (.int (if (p4 &&& (1 : Int32)) = (0 : Int32) then p2 else p0 : Int32)), .val (.int (if (p4 &&& (2 : Int32)) = (0 : Int32) then p3 else p1 : Int32)), .val (.ref a), .val (.ref b), .val (.int (if p0 = (if (p4 &&& (1 : Int32)) = (0 : Int32) then p2 else p0 : Int32) then (if p1 = (if (p4 &&& (2 : Int32)) = (0 : Int32) then p3 else p1 : Int32) then (1 : Int32) else (0 : Int32)) else (0 : Int32) : Int32)), .val (.ref T23.heap.size), .val (.int (if p0 = (if (p4 &&& (1 : Int32)) = (0 : Int32) then p2 else p0 : Int32) then (if p1 = (if (p4 &&& (2 : Int32)) = (0 : Int32) then p3 else p1 : Int32) then (1 : Int32) else (0 : Int32)) else (0 : Int32))), .val (.int (if (if (p4 &&& (1 : Int32)) = (0 : Int32) then p2 else p0 : Int32) = p0 then (if (if (p4 &&& (2 : Int32)) = (0 : Int32) then p3 else p1 : Int32) = p1 then (1 : Int32) else (0 : Int32)) else (0 : Int32))), .val (.int (if p0 = p0 then (if p1 = p1 then (1 : Int32) else (0 : Int32)) else (0 : Int32))), .unset, .unset] [])) _
      refine XS.aload X42.here hx rfl (hb hby at_104) rfl rfl ?_
      show Steps p.tables e below (T42.setTop (mkF m 106 #[.val (.int p0), .val (.int p1), .val (.int p2), .val (.int p3), .val (.int p4), .val (.int (if (p4 &&& (1 : Int32)) = (0 : Int32) then p2 else p0 : Int32)), .val (.int (if (p4 &&& (2 : Int32)) = (0 : Int32) then p3 else p1 : Int32)), .val (.ref a), .val (.ref b), .val (.int (if p0 = (if (p4 &&& (1 : Int32)) = (0 : Int32) then p2 else p0 : Int32) then (if p1 = (if (p4 &&& (2 : Int32)) = (0 : Int32) then p3 else p1 : Int32) then (1 : Int32) else (0 : Int32)) else (0 : Int32) : Int32)), .val (.ref T23.heap.size), .val (.int (if p0 = (if (p4 &&& (1 : Int32)) = (0 : Int32) then p2 else p0 : Int32) then (if p1 = (if (p4 &&& (2 : Int32)) = (0 : Int32) then p3 else p1 : Int32) then (1 : Int32) else (0 : Int32)) else (0 : Int32))), .val (.int (if (if (p4 &&& (1 : Int32)) = (0 : Int32) then p2 else p0 : Int32) = p0 then (if (if (p4 &&& (2 : Int32)) = (0 : Int32) then p3 else p1 : Int32) = p1 then (1 : Int32) else (0 : Int32)) else (0 : Int32))), .val (.int (if p0 = p0 then (if p1 = p1 then (1 : Int32) else (0 : Int32)) else (0 : Int32))), .unset, .unset] [(.ref a)])) _
      refine XS.aconstNull X42.here hx rfl (hb hby at_106) ?_
      exact k
    obtain ⟨cq44, kq44, q44a, q44b, q44c⟩ := isOf hZ e42 E_a
    obtain ⟨_, _, ⟨T44, L44, k44, n44⟩, -, X44, ⟨Lc44, hQ44, l44, y44, z44⟩, st44⟩ := X42.virtualBack hx (y := (⟨"com/example/tapline/emv/RecordNumber", "equals", "(Ljava/lang/Object;)Z"⟩ : MethodName)) (z := (⟨"com/example/tapline/emv/RecordNumber", "equals", "(Ljava/lang/Object;)Z"⟩ : MethodName)) hown (mvT hZ (hw _ (List.mem_of_getElem? (i := 25) rfl))) (mvT hZ (hw _ (List.mem_of_getElem? (i := 26) rfl))) (notFace_of_selects (args := #[]) (mvT hZ (hw _ (List.mem_of_getElem? (i := 28) rfl)))) (mvT hZ (hw _ (List.mem_of_getElem? (i := 28) rfl))) (mvT hZ (hw _ (List.mem_of_getElem? (i := 27) rfl))) (by decide) (backOf (W := 0) (rm5n l Z a0 hw [] a T36.heap n0 Sz36) hZ (hw _ (List.mem_of_getElem? (i := 29) rfl)) (hw _ (List.mem_of_getElem? (i := 2) rfl)) (by decide) (by decide)) q44a q44c (g := (mkF m 107 #[.val (.int p0), .val (.int p1), .val (.int p2), .val (.int p3), .val (.int p4), .val (.int (if (p4 &&& (1 : Int32)) = (0 : Int32) then p2 else p0 : Int32)), .val (.int (if (p4 &&& (2 : Int32)) = (0 : Int32) then p3 else p1 : Int32)), .val (.ref a), .val (.ref b), .val (.int (if p0 = (if (p4 &&& (1 : Int32)) = (0 : Int32) then p2 else p0 : Int32) then (if p1 = (if (p4 &&& (2 : Int32)) = (0 : Int32) then p3 else p1 : Int32) then (1 : Int32) else (0 : Int32)) else (0 : Int32) : Int32)), .val (.ref T23.heap.size), .val (.int (if p0 = (if (p4 &&& (1 : Int32)) = (0 : Int32) then p2 else p0 : Int32) then (if p1 = (if (p4 &&& (2 : Int32)) = (0 : Int32) then p3 else p1 : Int32) then (1 : Int32) else (0 : Int32)) else (0 : Int32))), .val (.int (if (if (p4 &&& (1 : Int32)) = (0 : Int32) then p2 else p0 : Int32) = p0 then (if (if (p4 &&& (2 : Int32)) = (0 : Int32) then p3 else p1 : Int32) = p1 then (1 : Int32) else (0 : Int32)) else (0 : Int32))), .val (.int (if p0 = p0 then (if p1 = p1 then (1 : Int32) else (0 : Int32)) else (0 : Int32))), .unset, .unset] [.null, (.ref a)])) rfl (by rw [hml]; rfl) (Steps.refl _) (argsL := [.null]) (rest := []) (lenOf pd_4 rfl) rfl (by show 2 * 0 + _ ≤ _; exact Nat.le_of_eq rfl) (hb hby at_107) (fun _ _ => ⟨rfl, e42, (by decide : 3 + 0 ≤ _), (by decide : 5 + 0 ≤ _)⟩)
    dsimp only [Pt.U, Pt.locs, Pt.cells, Pt.slots] at X44 l44 y44 z44 st44 hQ44
    subst l44 y44 z44
    obtain ⟨rfl, Nq44, eq44⟩ := hQ44
    have N44 := Fr.app N42 Nq44
    have e44 : T44.heap = T36.heap := eq44
    have R45 : ∀ t, Steps p.tables e below (T44.setTop (mkF m 116 #[.val (.int p0), .val (.int p1), .val (.int p2), .val (.int p3), .val (.int p4), .val (.int (if (p4 &&& (1 : Int32)) = (0 : Int32) then p2 else p0 : Int32)), .val (.int (if (p4 &&& (2 : Int32)) = (0 : Int32) then p3 else p1 : Int32)), .val (.ref a), .val (.ref b), .val (.int (if p0 = (if (p4 &&& (1 : Int32)) = (0 : Int32) then p2 else p0 : Int32) then (if p1 = (if (p4 &&& (2 : Int32)) = (0 : Int32) then p3 else p1 : Int32) then (1 : Int32) else (0 : Int32)) else (0 : Int32) : Int32)), .val (.ref T23.heap.size), .val (.int (if p0 = (if (p4 &&& (1 : Int32)) = (0 : Int32) then p2 else p0 : Int32) then (if p1 = (if (p4 &&& (2 : Int32)) = (0 : Int32) then p3 else p1 : Int32) then (1 : Int32) else (0 : Int32)) else (0 : Int32))), .val (.int (if (if (p4 &&& (1 : Int32)) = (0 : Int32) then p2 else p0 : Int32) = p0 then (if (if (p4 &&& (2 : Int32)) = (0 : Int32) then p3 else p1 : Int32) = p1 then (1 : Int32) else (0 : Int32)) else (0 : Int32))), .val (.int (if p0 = p0 then (if p1 = p1 then (1 : Int32) else (0 : Int32)) else (0 : Int32))), .val (.int (0 : Int32)), .unset] [(.ref T23.heap.size), (.ref a)])) t → Steps p.tables e below (s₁.setTop (entryFrame m #[(.int p0), (.int p1), (.int p2), (.int p3), (.int p4)] maxLocals)) t := by
      intro t k
      refine R43 t ?_
      show Steps p.tables e below (T42.setTop (mkF m 107 #[.val (.int p0), .val (.int p1), .val (.int p2), .val (.int p3), .val (.int p4), .val (.int (if (p4 &&& (1 : Int32)) = (0 : Int32) then p2 else p0 : Int32)), .val (.int (if (p4 &&& (2 : Int32)) = (0 : Int32) then p3 else p1 : Int32)), .val (.ref a), .val (.ref b), .val (.int (if p0 = (if (p4 &&& (1 : Int32)) = (0 : Int32) then p2 else p0 : Int32) then (if p1 = (if (p4 &&& (2 : Int32)) = (0 : Int32) then p3 else p1 : Int32) then (1 : Int32) else (0 : Int32)) else (0 : Int32) : Int32)), .val (.ref T23.heap.size), .val (.int (if p0 = (if (p4 &&& (1 : Int32)) = (0 : Int32) then p2 else p0 : Int32) then (if p1 = (if (p4 &&& (2 : Int32)) = (0 : Int32) then p3 else p1 : Int32) then (1 : Int32) else (0 : Int32)) else (0 : Int32))), .val (.int (if (if (p4 &&& (1 : Int32)) = (0 : Int32) then p2 else p0 : Int32) = p0 then (if (if (p4 &&& (2 : Int32)) = (0 : Int32) then p3 else p1 : Int32) = p1 then (1 : Int32) else (0 : Int32)) else (0 : Int32))), .val (.int (if p0 = p0 then (if p1 = p1 then (1 : Int32) else (0 : Int32)) else (0 : Int32))), .unset, .unset] [.null, (.ref a)])) _
      refine st44.trans ?_
      show Steps p.tables e below (T44.setTop (mkF m 110 #[.val (.int p0), .val (.int p1), .val (.int p2), .val (.int p3), .val (.int p4), .val (.int (if (p4 &&& (1 : Int32)) = (0 : Int32) then p2 else p0 : Int32)), .val (.int (if (p4 &&& (2 : Int32)) = (0 : Int32) then p3 else p1 : Int32)), .val (.ref a), .val (.ref b), .val (.int (if p0 = (if (p4 &&& (1 : Int32)) = (0 : Int32) then p2 else p0 : Int32) then (if p1 = (if (p4 &&& (2 : Int32)) = (0 : Int32) then p3 else p1 : Int32) then (1 : Int32) else (0 : Int32)) else (0 : Int32) : Int32)), .val (.ref T23.heap.size), .val (.int (if p0 = (if (p4 &&& (1 : Int32)) = (0 : Int32) then p2 else p0 : Int32) then (if p1 = (if (p4 &&& (2 : Int32)) = (0 : Int32) then p3 else p1 : Int32) then (1 : Int32) else (0 : Int32)) else (0 : Int32))), .val (.int (if (if (p4 &&& (1 : Int32)) = (0 : Int32) then p2 else p0 : Int32) = p0 then (if (if (p4 &&& (2 : Int32)) = (0 : Int32) then p3 else p1 : Int32) = p1 then (1 : Int32) else (0 : Int32)) else (0 : Int32))), .val (.int (if p0 = p0 then (if p1 = p1 then (1 : Int32) else (0 : Int32)) else (0 : Int32))), .unset, .unset] [(.int (0 : Int32))])) _
      refine XS.istore X44.here hx rfl (hb hby at_110) rfl (l' := #[.val (.int p0), .val (.int p1), .val (.int p2), .val (.int p3), .val (.int p4), .val (.int (if (p4 &&& (1 : Int32)) = (0 : Int32) then p2 else p0 : Int32)), .val (.int (if (p4 &&& (2 : Int32)) = (0 : Int32) then p3 else p1 : Int32)), .val (.ref a), .val (.ref b), .val (.int (if p0 = (if (p4 &&& (1 : Int32)) = (0 : Int32) then p2 else p0 : Int32) then (if p1 = (if (p4 &&& (2 : Int32)) = (0 : Int32) then p3 else p1 : Int32) then (1 : Int32) else (0 : Int32)) else (0 : Int32) : Int32)), .val (.ref T23.heap.size), .val (.int (if p0 = (if (p4 &&& (1 : Int32)) = (0 : Int32) then p2 else p0 : Int32) then (if p1 = (if (p4 &&& (2 : Int32)) = (0 : Int32) then p3 else p1 : Int32) then (1 : Int32) else (0 : Int32)) else (0 : Int32))), .val (.int (if (if (p4 &&& (1 : Int32)) = (0 : Int32) then p2 else p0 : Int32) = p0 then (if (if (p4 &&& (2 : Int32)) = (0 : Int32) then p3 else p1 : Int32) = p1 then (1 : Int32) else (0 : Int32)) else (0 : Int32))), .val (.int (if p0 = p0 then (if p1 = p1 then (1 : Int32) else (0 : Int32)) else (0 : Int32))), .val (.int (0 : Int32)), .unset]) rfl ?_
      show Steps p.tables e below (T44.setTop (mkF m 112 #[.val (.int p0), .val (.int p1), .val (.int p2), .val (.int p3), .val (.int p4), .val (.int (if (p4 &&& (1 : Int32)) = (0 : Int32) then p2 else p0 : Int32)), .val (.int (if (p4 &&& (2 : Int32)) = (0 : Int32) then p3 else p1 : Int32)), .val (.ref a), .val (.ref b), .val (.int (if p0 = (if (p4 &&& (1 : Int32)) = (0 : Int32) then p2 else p0 : Int32) then (if p1 = (if (p4 &&& (2 : Int32)) = (0 : Int32) then p3 else p1 : Int32) then (1 : Int32) else (0 : Int32)) else (0 : Int32) : Int32)), .val (.ref T23.heap.size), .val (.int (if p0 = (if (p4 &&& (1 : Int32)) = (0 : Int32) then p2 else p0 : Int32) then (if p1 = (if (p4 &&& (2 : Int32)) = (0 : Int32) then p3 else p1 : Int32) then (1 : Int32) else (0 : Int32)) else (0 : Int32))), .val (.int (if (if (p4 &&& (1 : Int32)) = (0 : Int32) then p2 else p0 : Int32) = p0 then (if (if (p4 &&& (2 : Int32)) = (0 : Int32) then p3 else p1 : Int32) = p1 then (1 : Int32) else (0 : Int32)) else (0 : Int32))), .val (.int (if p0 = p0 then (if p1 = p1 then (1 : Int32) else (0 : Int32)) else (0 : Int32))), .val (.int (0 : Int32)), .unset] [])) _
      refine XS.aload X44.here hx rfl (hb hby at_112) rfl rfl ?_
      show Steps p.tables e below (T44.setTop (mkF m 114 #[.val (.int p0), .val (.int p1), .val (.int p2), .val (.int p3), .val (.int p4), .val (.int (if (p4 &&& (1 : Int32)) = (0 : Int32) then p2 else p0 : Int32)), .val (.int (if (p4 &&& (2 : Int32)) = (0 : Int32) then p3 else p1 : Int32)), .val (.ref a), .val (.ref b), .val (.int (if p0 = (if (p4 &&& (1 : Int32)) = (0 : Int32) then p2 else p0 : Int32) then (if p1 = (if (p4 &&& (2 : Int32)) = (0 : Int32) then p3 else p1 : Int32) then (1 : Int32) else (0 : Int32)) else (0 : Int32) : Int32)), .val (.ref T23.heap.size), .val (.int (if p0 = (if (p4 &&& (1 : Int32)) = (0 : Int32) then p2 else p0 : Int32) then (if p1 = (if (p4 &&& (2 : Int32)) = (0 : Int32) then p3 else p1 : Int32) then (1 : Int32) else (0 : Int32)) else (0 : Int32))), .val (.int (if (if (p4 &&& (1 : Int32)) = (0 : Int32) then p2 else p0 : Int32) = p0 then (if (if (p4 &&& (2 : Int32)) = (0 : Int32) then p3 else p1 : Int32) = p1 then (1 : Int32) else (0 : Int32)) else (0 : Int32))), .val (.int (if p0 = p0 then (if p1 = p1 then (1 : Int32) else (0 : Int32)) else (0 : Int32))), .val (.int (0 : Int32)), .unset] [(.ref a)])) _
      refine XS.aload X44.here hx rfl (hb hby at_114) rfl rfl ?_
      exact k
    obtain ⟨cq46, kq46, q46a, q46b, q46c⟩ := isOf hZ e44 E_a
    obtain ⟨_, _, ⟨T46, L46, k46, n46⟩, -, X46, ⟨Lc46, hQ46, l46, y46, z46⟩, st46⟩ := X44.virtualBack hx (y := (⟨"com/example/tapline/emv/RecordNumber", "equals", "(Ljava/lang/Object;)Z"⟩ : MethodName)) (z := (⟨"com/example/tapline/emv/RecordNumber", "equals", "(Ljava/lang/Object;)Z"⟩ : MethodName)) hown (mvT hZ (hw _ (List.mem_of_getElem? (i := 25) rfl))) (mvT hZ (hw _ (List.mem_of_getElem? (i := 26) rfl))) (notFace_of_selects (args := #[]) (mvT hZ (hw _ (List.mem_of_getElem? (i := 28) rfl)))) (mvT hZ (hw _ (List.mem_of_getElem? (i := 28) rfl))) (mvT hZ (hw _ (List.mem_of_getElem? (i := 27) rfl))) (by decide) (backOf (W := 0) (rm5i l Z a0 hw [] a T23.heap.size T36.heap n0 Sz36 E_r) hZ (hw _ (List.mem_of_getElem? (i := 29) rfl)) (hw _ (List.mem_of_getElem? (i := 2) rfl)) (by decide) (by decide)) q46a q46c (g := (mkF m 116 #[.val (.int p0), .val (.int p1), .val (.int p2), .val (.int p3), .val (.int p4), .val (.int (if (p4 &&& (1 : Int32)) = (0 : Int32) then p2 else p0 : Int32)), .val (.int (if (p4 &&& (2 : Int32)) = (0 : Int32) then p3 else p1 : Int32)), .val (.ref a), .val (.ref b), .val (.int (if p0 = (if (p4 &&& (1 : Int32)) = (0 : Int32) then p2 else p0 : Int32) then (if p1 = (if (p4 &&& (2 : Int32)) = (0 : Int32) then p3 else p1 : Int32) then (1 : Int32) else (0 : Int32)) else (0 : Int32) : Int32)), .val (.ref T23.heap.size), .val (.int (if p0 = (if (p4 &&& (1 : Int32)) = (0 : Int32) then p2 else p0 : Int32) then (if p1 = (if (p4 &&& (2 : Int32)) = (0 : Int32) then p3 else p1 : Int32) then (1 : Int32) else (0 : Int32)) else (0 : Int32))), .val (.int (if (if (p4 &&& (1 : Int32)) = (0 : Int32) then p2 else p0 : Int32) = p0 then (if (if (p4 &&& (2 : Int32)) = (0 : Int32) then p3 else p1 : Int32) = p1 then (1 : Int32) else (0 : Int32)) else (0 : Int32))), .val (.int (if p0 = p0 then (if p1 = p1 then (1 : Int32) else (0 : Int32)) else (0 : Int32))), .val (.int (0 : Int32)), .unset] [(.ref T23.heap.size), (.ref a)])) rfl (by rw [hml]; rfl) (Steps.refl _) (argsL := [(.ref T23.heap.size)]) (rest := []) (lenOf pd_4 rfl) rfl (by show 2 * 0 + _ ≤ _; exact Nat.le_of_eq rfl) (hb hby at_116) (fun _ _ => ⟨rfl, e44, (by decide : 3 + 0 ≤ _), (by decide : 5 + 0 ≤ _)⟩)
    dsimp only [Pt.U, Pt.locs, Pt.cells, Pt.slots] at X46 l46 y46 z46 st46 hQ46
    subst l46 y46 z46
    obtain ⟨rfl, Nq46, eq46⟩ := hQ46
    have N46 := Fr.app N44 Nq46
    have e46 : T46.heap = T36.heap := eq46
    have R47 : ∀ t, Steps p.tables e below (T46.setTop (mkF m 155 #[.val (.int p0), .val (.int p1), .val (.int p2), .val (.int p3), .val (.int p4), .val (.int (if (p4 &&& (1 : Int32)) = (0 : Int32) then p2 else p0 : Int32)), .val (.int (if (p4 &&& (2 : Int32)) = (0 : Int32) then p3 else p1 : Int32)), .val (.ref a), .val (.ref b), .val (.int (if p0 = (if (p4 &&& (1 : Int32)) = (0 : Int32) then p2 else p0 : Int32) then (if p1 = (if (p4 &&& (2 : Int32)) = (0 : Int32) then p3 else p1 : Int32) then (1 : Int32) else (0 : Int32)) else (0 : Int32) : Int32)), .val (.ref T23.heap.size), .val (.int (if p0 = (if (p4 &&& (1 : Int32)) = (0 : Int32) then p2 else p0 : Int32) then (if p1 = (if (p4 &&& (2 : Int32)) = (0 : Int32) then p3 else p1 : Int32) then (1 : Int32) else (0 : Int32)) else (0 : Int32))), .val (.int (if (if (p4 &&& (1 : Int32)) = (0 : Int32) then p2 else p0 : Int32) = p0 then (if (if (p4 &&& (2 : Int32)) = (0 : Int32) then p3 else p1 : Int32) = p1 then (1 : Int32) else (0 : Int32)) else (0 : Int32))), .val (.int (if p0 = p0 then (if p1 = p1 then (1 : Int32) else (0 : Int32)) else (0 : Int32))), .val (.int (0 : Int32)), .val (.int (0 : Int32))] [(.int (1 : Int32))])) t → Steps p.tables e below (s₁.setTop (entryFrame m #[(.int p0), (.int p1), (.int p2), (.int p3), (.int p4)] maxLocals)) t := by
      intro t k
      refine R45 t ?_
      show Steps p.tables e below (T44.setTop (mkF m 116 #[.val (.int p0), .val (.int p1), .val (.int p2), .val (.int p3), .val (.int p4), .val (.int (if (p4 &&& (1 : Int32)) = (0 : Int32) then p2 else p0 : Int32)), .val (.int (if (p4 &&& (2 : Int32)) = (0 : Int32) then p3 else p1 : Int32)), .val (.ref a), .val (.ref b), .val (.int (if p0 = (if (p4 &&& (1 : Int32)) = (0 : Int32) then p2 else p0 : Int32) then (if p1 = (if (p4 &&& (2 : Int32)) = (0 : Int32) then p3 else p1 : Int32) then (1 : Int32) else (0 : Int32)) else (0 : Int32) : Int32)), .val (.ref T23.heap.size), .val (.int (if p0 = (if (p4 &&& (1 : Int32)) = (0 : Int32) then p2 else p0 : Int32) then (if p1 = (if (p4 &&& (2 : Int32)) = (0 : Int32) then p3 else p1 : Int32) then (1 : Int32) else (0 : Int32)) else (0 : Int32))), .val (.int (if (if (p4 &&& (1 : Int32)) = (0 : Int32) then p2 else p0 : Int32) = p0 then (if (if (p4 &&& (2 : Int32)) = (0 : Int32) then p3 else p1 : Int32) = p1 then (1 : Int32) else (0 : Int32)) else (0 : Int32))), .val (.int (if p0 = p0 then (if p1 = p1 then (1 : Int32) else (0 : Int32)) else (0 : Int32))), .val (.int (0 : Int32)), .unset] [(.ref T23.heap.size), (.ref a)])) _
      refine st46.trans ?_
      show Steps p.tables e below (T46.setTop (mkF m 119 #[.val (.int p0), .val (.int p1), .val (.int p2), .val (.int p3), .val (.int p4), .val (.int (if (p4 &&& (1 : Int32)) = (0 : Int32) then p2 else p0 : Int32)), .val (.int (if (p4 &&& (2 : Int32)) = (0 : Int32) then p3 else p1 : Int32)), .val (.ref a), .val (.ref b), .val (.int (if p0 = (if (p4 &&& (1 : Int32)) = (0 : Int32) then p2 else p0 : Int32) then (if p1 = (if (p4 &&& (2 : Int32)) = (0 : Int32) then p3 else p1 : Int32) then (1 : Int32) else (0 : Int32)) else (0 : Int32) : Int32)), .val (.ref T23.heap.size), .val (.int (if p0 = (if (p4 &&& (1 : Int32)) = (0 : Int32) then p2 else p0 : Int32) then (if p1 = (if (p4 &&& (2 : Int32)) = (0 : Int32) then p3 else p1 : Int32) then (1 : Int32) else (0 : Int32)) else (0 : Int32))), .val (.int (if (if (p4 &&& (1 : Int32)) = (0 : Int32) then p2 else p0 : Int32) = p0 then (if (if (p4 &&& (2 : Int32)) = (0 : Int32) then p3 else p1 : Int32) = p1 then (1 : Int32) else (0 : Int32)) else (0 : Int32))), .val (.int (if p0 = p0 then (if p1 = p1 then (1 : Int32) else (0 : Int32)) else (0 : Int32))), .val (.int (0 : Int32)), .unset] [(.int (0 : Int32))])) _
      refine XS.istore X46.here hx rfl (hb hby at_119) rfl (l' := #[.val (.int p0), .val (.int p1), .val (.int p2), .val (.int p3), .val (.int p4), .val (.int (if (p4 &&& (1 : Int32)) = (0 : Int32) then p2 else p0 : Int32)), .val (.int (if (p4 &&& (2 : Int32)) = (0 : Int32) then p3 else p1 : Int32)), .val (.ref a), .val (.ref b), .val (.int (if p0 = (if (p4 &&& (1 : Int32)) = (0 : Int32) then p2 else p0 : Int32) then (if p1 = (if (p4 &&& (2 : Int32)) = (0 : Int32) then p3 else p1 : Int32) then (1 : Int32) else (0 : Int32)) else (0 : Int32) : Int32)), .val (.ref T23.heap.size), .val (.int (if p0 = (if (p4 &&& (1 : Int32)) = (0 : Int32) then p2 else p0 : Int32) then (if p1 = (if (p4 &&& (2 : Int32)) = (0 : Int32) then p3 else p1 : Int32) then (1 : Int32) else (0 : Int32)) else (0 : Int32))), .val (.int (if (if (p4 &&& (1 : Int32)) = (0 : Int32) then p2 else p0 : Int32) = p0 then (if (if (p4 &&& (2 : Int32)) = (0 : Int32) then p3 else p1 : Int32) = p1 then (1 : Int32) else (0 : Int32)) else (0 : Int32))), .val (.int (if p0 = p0 then (if p1 = p1 then (1 : Int32) else (0 : Int32)) else (0 : Int32))), .val (.int (0 : Int32)), .val (.int (0 : Int32))]) rfl ?_
      show Steps p.tables e below (T46.setTop (mkF m 121 #[.val (.int p0), .val (.int p1), .val (.int p2), .val (.int p3), .val (.int p4), .val (.int (if (p4 &&& (1 : Int32)) = (0 : Int32) then p2 else p0 : Int32)), .val (.int (if (p4 &&& (2 : Int32)) = (0 : Int32) then p3 else p1 : Int32)), .val (.ref a), .val (.ref b), .val (.int (if p0 = (if (p4 &&& (1 : Int32)) = (0 : Int32) then p2 else p0 : Int32) then (if p1 = (if (p4 &&& (2 : Int32)) = (0 : Int32) then p3 else p1 : Int32) then (1 : Int32) else (0 : Int32)) else (0 : Int32) : Int32)), .val (.ref T23.heap.size), .val (.int (if p0 = (if (p4 &&& (1 : Int32)) = (0 : Int32) then p2 else p0 : Int32) then (if p1 = (if (p4 &&& (2 : Int32)) = (0 : Int32) then p3 else p1 : Int32) then (1 : Int32) else (0 : Int32)) else (0 : Int32))), .val (.int (if (if (p4 &&& (1 : Int32)) = (0 : Int32) then p2 else p0 : Int32) = p0 then (if (if (p4 &&& (2 : Int32)) = (0 : Int32) then p3 else p1 : Int32) = p1 then (1 : Int32) else (0 : Int32)) else (0 : Int32))), .val (.int (if p0 = p0 then (if p1 = p1 then (1 : Int32) else (0 : Int32)) else (0 : Int32))), .val (.int (0 : Int32)), .val (.int (0 : Int32))] [])) _
      refine XS.iload X46.here hx rfl (hb hby at_121) rfl ?_
      show Steps p.tables e below (T46.setTop (mkF m 123 #[.val (.int p0), .val (.int p1), .val (.int p2), .val (.int p3), .val (.int p4), .val (.int (if (p4 &&& (1 : Int32)) = (0 : Int32) then p2 else p0 : Int32)), .val (.int (if (p4 &&& (2 : Int32)) = (0 : Int32) then p3 else p1 : Int32)), .val (.ref a), .val (.ref b), .val (.int (if p0 = (if (p4 &&& (1 : Int32)) = (0 : Int32) then p2 else p0 : Int32) then (if p1 = (if (p4 &&& (2 : Int32)) = (0 : Int32) then p3 else p1 : Int32) then (1 : Int32) else (0 : Int32)) else (0 : Int32) : Int32)), .val (.ref T23.heap.size), .val (.int (if p0 = (if (p4 &&& (1 : Int32)) = (0 : Int32) then p2 else p0 : Int32) then (if p1 = (if (p4 &&& (2 : Int32)) = (0 : Int32) then p3 else p1 : Int32) then (1 : Int32) else (0 : Int32)) else (0 : Int32))), .val (.int (if (if (p4 &&& (1 : Int32)) = (0 : Int32) then p2 else p0 : Int32) = p0 then (if (if (p4 &&& (2 : Int32)) = (0 : Int32) then p3 else p1 : Int32) = p1 then (1 : Int32) else (0 : Int32)) else (0 : Int32))), .val (.int (if p0 = p0 then (if p1 = p1 then (1 : Int32) else (0 : Int32)) else (0 : Int32))), .val (.int (0 : Int32)), .val (.int (0 : Int32))] [(.int (if p0 = (if (p4 &&& (1 : Int32)) = (0 : Int32) then p2 else p0 : Int32) then (if p1 = (if (p4 &&& (2 : Int32)) = (0 : Int32) then p3 else p1 : Int32) then (1 : Int32) else (0 : Int32)) else (0 : Int32)))])) _
      refine XS.iload X46.here hx rfl (hb hby at_123) rfl ?_
      show Steps p.tables e below (T46.setTop (mkF m 125 #[.val (.int p0), .val (.int p1), .val (.int p2), .val (.int p3), .val (.int p4), .val (.int (if (p4 &&& (1 : Int32)) = (0 : Int32) then p2 else p0 : Int32)), .val (.int (if (p4 &&& (2 : Int32)) = (0 : Int32) then p3 else p1 : Int32)), .val (.ref a), .val (.ref b), .val (.int (if p0 = (if (p4 &&& (1 : Int32)) = (0 : Int32) then p2 else p0 : Int32) then (if p1 = (if (p4 &&& (2 : Int32)) = (0 : Int32) then p3 else p1 : Int32) then (1 : Int32) else (0 : Int32)) else (0 : Int32) : Int32)), .val (.ref T23.heap.size), .val (.int (if p0 = (if (p4 &&& (1 : Int32)) = (0 : Int32) then p2 else p0 : Int32) then (if p1 = (if (p4 &&& (2 : Int32)) = (0 : Int32) then p3 else p1 : Int32) then (1 : Int32) else (0 : Int32)) else (0 : Int32))), .val (.int (if (if (p4 &&& (1 : Int32)) = (0 : Int32) then p2 else p0 : Int32) = p0 then (if (if (p4 &&& (2 : Int32)) = (0 : Int32) then p3 else p1 : Int32) = p1 then (1 : Int32) else (0 : Int32)) else (0 : Int32))), .val (.int (if p0 = p0 then (if p1 = p1 then (1 : Int32) else (0 : Int32)) else (0 : Int32))), .val (.int (0 : Int32)), .val (.int (0 : Int32))] [(.int (if p0 = (if (p4 &&& (1 : Int32)) = (0 : Int32) then p2 else p0 : Int32) then (if p1 = (if (p4 &&& (2 : Int32)) = (0 : Int32) then p3 else p1 : Int32) then (1 : Int32) else (0 : Int32)) else (0 : Int32) : Int32)), (.int (if p0 = (if (p4 &&& (1 : Int32)) = (0 : Int32) then p2 else p0 : Int32) then (if p1 = (if (p4 &&& (2 : Int32)) = (0 : Int32) then p3 else p1 : Int32) then (1 : Int32) else (0 : Int32)) else (0 : Int32)))])) _
      refine XS.icmpNo X46.here hx rfl (hb hby at_125) rfl (teq (rfl : (if p0 = (if (p4 &&& (1 : Int32)) = (0 : Int32) then p2 else p0 : Int32) then (if p1 = (if (p4 &&& (2 : Int32)) = (0 : Int32) then p3 else p1 : Int32) then (1 : Int32) else (0 : Int32)) else (0 : Int32) : Int32) = (if p0 = (if (p4 &&& (1 : Int32)) = (0 : Int32) then p2 else p0 : Int32) then (if p1 = (if (p4 &&& (2 : Int32)) = (0 : Int32) then p3 else p1 : Int32) then (1 : Int32) else (0 : Int32)) else (0 : Int32) : Int32))).2 ?_
      show Steps p.tables e below (T46.setTop (mkF m 128 #[.val (.int p0), .val (.int p1), .val (.int p2), .val (.int p3), .val (.int p4), .val (.int (if (p4 &&& (1 : Int32)) = (0 : Int32) then p2 else p0 : Int32)), .val (.int (if (p4 &&& (2 : Int32)) = (0 : Int32) then p3 else p1 : Int32)), .val (.ref a), .val (.ref b), .val (.int (if p0 = (if (p4 &&& (1 : Int32)) = (0 : Int32) then p2 else p0 : Int32) then (if p1 = (if (p4 &&& (2 : Int32)) = (0 : Int32) then p3 else p1 : Int32) then (1 : Int32) else (0 : Int32)) else (0 : Int32) : Int32)), .val (.ref T23.heap.size), .val (.int (if p0 = (if (p4 &&& (1 : Int32)) = (0 : Int32) then p2 else p0 : Int32) then (if p1 = (if (p4 &&& (2 : Int32)) = (0 : Int32) then p3 else p1 : Int32) then (1 : Int32) else (0 : Int32)) else (0 : Int32))), .val (.int (if (if (p4 &&& (1 : Int32)) = (0 : Int32) then p2 else p0 : Int32) = p0 then (if (if (p4 &&& (2 : Int32)) = (0 : Int32) then p3 else p1 : Int32) = p1 then (1 : Int32) else (0 : Int32)) else (0 : Int32))), .val (.int (if p0 = p0 then (if p1 = p1 then (1 : Int32) else (0 : Int32)) else (0 : Int32))), .val (.int (0 : Int32)), .val (.int (0 : Int32))] [])) _
      refine XS.iload X46.here hx rfl (hb hby at_128) rfl ?_
      show Steps p.tables e below (T46.setTop (mkF m 130 #[.val (.int p0), .val (.int p1), .val (.int p2), .val (.int p3), .val (.int p4), .val (.int (if (p4 &&& (1 : Int32)) = (0 : Int32) then p2 else p0 : Int32)), .val (.int (if (p4 &&& (2 : Int32)) = (0 : Int32) then p3 else p1 : Int32)), .val (.ref a), .val (.ref b), .val (.int (if p0 = (if (p4 &&& (1 : Int32)) = (0 : Int32) then p2 else p0 : Int32) then (if p1 = (if (p4 &&& (2 : Int32)) = (0 : Int32) then p3 else p1 : Int32) then (1 : Int32) else (0 : Int32)) else (0 : Int32) : Int32)), .val (.ref T23.heap.size), .val (.int (if p0 = (if (p4 &&& (1 : Int32)) = (0 : Int32) then p2 else p0 : Int32) then (if p1 = (if (p4 &&& (2 : Int32)) = (0 : Int32) then p3 else p1 : Int32) then (1 : Int32) else (0 : Int32)) else (0 : Int32))), .val (.int (if (if (p4 &&& (1 : Int32)) = (0 : Int32) then p2 else p0 : Int32) = p0 then (if (if (p4 &&& (2 : Int32)) = (0 : Int32) then p3 else p1 : Int32) = p1 then (1 : Int32) else (0 : Int32)) else (0 : Int32))), .val (.int (if p0 = p0 then (if p1 = p1 then (1 : Int32) else (0 : Int32)) else (0 : Int32))), .val (.int (0 : Int32)), .val (.int (0 : Int32))] [(.int (if (if (p4 &&& (1 : Int32)) = (0 : Int32) then p2 else p0 : Int32) = p0 then (if (if (p4 &&& (2 : Int32)) = (0 : Int32) then p3 else p1 : Int32) = p1 then (1 : Int32) else (0 : Int32)) else (0 : Int32)))])) _
      refine XS.iload X46.here hx rfl (hb hby at_130) rfl ?_
      show Steps p.tables e below (T46.setTop (mkF m 132 #[.val (.int p0), .val (.int p1), .val (.int p2), .val (.int p3), .val (.int p4), .val (.int (if (p4 &&& (1 : Int32)) = (0 : Int32) then p2 else p0 : Int32)), .val (.int (if (p4 &&& (2 : Int32)) = (0 : Int32) then p3 else p1 : Int32)), .val (.ref a), .val (.ref b), .val (.int (if p0 = (if (p4 &&& (1 : Int32)) = (0 : Int32) then p2 else p0 : Int32) then (if p1 = (if (p4 &&& (2 : Int32)) = (0 : Int32) then p3 else p1 : Int32) then (1 : Int32) else (0 : Int32)) else (0 : Int32) : Int32)), .val (.ref T23.heap.size), .val (.int (if p0 = (if (p4 &&& (1 : Int32)) = (0 : Int32) then p2 else p0 : Int32) then (if p1 = (if (p4 &&& (2 : Int32)) = (0 : Int32) then p3 else p1 : Int32) then (1 : Int32) else (0 : Int32)) else (0 : Int32))), .val (.int (if (if (p4 &&& (1 : Int32)) = (0 : Int32) then p2 else p0 : Int32) = p0 then (if (if (p4 &&& (2 : Int32)) = (0 : Int32) then p3 else p1 : Int32) = p1 then (1 : Int32) else (0 : Int32)) else (0 : Int32))), .val (.int (if p0 = p0 then (if p1 = p1 then (1 : Int32) else (0 : Int32)) else (0 : Int32))), .val (.int (0 : Int32)), .val (.int (0 : Int32))] [(.int (if p0 = (if (p4 &&& (1 : Int32)) = (0 : Int32) then p2 else p0 : Int32) then (if p1 = (if (p4 &&& (2 : Int32)) = (0 : Int32) then p3 else p1 : Int32) then (1 : Int32) else (0 : Int32)) else (0 : Int32) : Int32)), (.int (if (if (p4 &&& (1 : Int32)) = (0 : Int32) then p2 else p0 : Int32) = p0 then (if (if (p4 &&& (2 : Int32)) = (0 : Int32) then p3 else p1 : Int32) = p1 then (1 : Int32) else (0 : Int32)) else (0 : Int32)))])) _
      refine XS.icmpNo X46.here hx rfl (hb hby at_132) rfl (teq (own_sw p0 (if (p4 &&& (1 : Int32)) = (0 : Int32) then p2 else p0 : Int32) p1 (if (p4 &&& (2 : Int32)) = (0 : Int32) then p3 else p1 : Int32))).2 ?_
      show Steps p.tables e below (T46.setTop (mkF m 135 #[.val (.int p0), .val (.int p1), .val (.int p2), .val (.int p3), .val (.int p4), .val (.int (if (p4 &&& (1 : Int32)) = (0 : Int32) then p2 else p0 : Int32)), .val (.int (if (p4 &&& (2 : Int32)) = (0 : Int32) then p3 else p1 : Int32)), .val (.ref a), .val (.ref b), .val (.int (if p0 = (if (p4 &&& (1 : Int32)) = (0 : Int32) then p2 else p0 : Int32) then (if p1 = (if (p4 &&& (2 : Int32)) = (0 : Int32) then p3 else p1 : Int32) then (1 : Int32) else (0 : Int32)) else (0 : Int32) : Int32)), .val (.ref T23.heap.size), .val (.int (if p0 = (if (p4 &&& (1 : Int32)) = (0 : Int32) then p2 else p0 : Int32) then (if p1 = (if (p4 &&& (2 : Int32)) = (0 : Int32) then p3 else p1 : Int32) then (1 : Int32) else (0 : Int32)) else (0 : Int32))), .val (.int (if (if (p4 &&& (1 : Int32)) = (0 : Int32) then p2 else p0 : Int32) = p0 then (if (if (p4 &&& (2 : Int32)) = (0 : Int32) then p3 else p1 : Int32) = p1 then (1 : Int32) else (0 : Int32)) else (0 : Int32))), .val (.int (if p0 = p0 then (if p1 = p1 then (1 : Int32) else (0 : Int32)) else (0 : Int32))), .val (.int (0 : Int32)), .val (.int (0 : Int32))] [])) _
      refine XS.iload X46.here hx rfl (hb hby at_135) rfl ?_
      show Steps p.tables e below (T46.setTop (mkF m 137 #[.val (.int p0), .val (.int p1), .val (.int p2), .val (.int p3), .val (.int p4), .val (.int (if (p4 &&& (1 : Int32)) = (0 : Int32) then p2 else p0 : Int32)), .val (.int (if (p4 &&& (2 : Int32)) = (0 : Int32) then p3 else p1 : Int32)), .val (.ref a), .val (.ref b), .val (.int (if p0 = (if (p4 &&& (1 : Int32)) = (0 : Int32) then p2 else p0 : Int32) then (if p1 = (if (p4 &&& (2 : Int32)) = (0 : Int32) then p3 else p1 : Int32) then (1 : Int32) else (0 : Int32)) else (0 : Int32) : Int32)), .val (.ref T23.heap.size), .val (.int (if p0 = (if (p4 &&& (1 : Int32)) = (0 : Int32) then p2 else p0 : Int32) then (if p1 = (if (p4 &&& (2 : Int32)) = (0 : Int32) then p3 else p1 : Int32) then (1 : Int32) else (0 : Int32)) else (0 : Int32))), .val (.int (if (if (p4 &&& (1 : Int32)) = (0 : Int32) then p2 else p0 : Int32) = p0 then (if (if (p4 &&& (2 : Int32)) = (0 : Int32) then p3 else p1 : Int32) = p1 then (1 : Int32) else (0 : Int32)) else (0 : Int32))), .val (.int (if p0 = p0 then (if p1 = p1 then (1 : Int32) else (0 : Int32)) else (0 : Int32))), .val (.int (0 : Int32)), .val (.int (0 : Int32))] [(.int (if p0 = p0 then (if p1 = p1 then (1 : Int32) else (0 : Int32)) else (0 : Int32)))])) _
      refine XS.ifNo X46.here hx rfl (hb hby at_137) rfl ((if0 _ _).trans (feq (by simp)).1) ?_
      show Steps p.tables e below (T46.setTop (mkF m 140 #[.val (.int p0), .val (.int p1), .val (.int p2), .val (.int p3), .val (.int p4), .val (.int (if (p4 &&& (1 : Int32)) = (0 : Int32) then p2 else p0 : Int32)), .val (.int (if (p4 &&& (2 : Int32)) = (0 : Int32) then p3 else p1 : Int32)), .val (.ref a), .val (.ref b), .val (.int (if p0 = (if (p4 &&& (1 : Int32)) = (0 : Int32) then p2 else p0 : Int32) then (if p1 = (if (p4 &&& (2 : Int32)) = (0 : Int32) then p3 else p1 : Int32) then (1 : Int32) else (0 : Int32)) else (0 : Int32) : Int32)), .val (.ref T23.heap.size), .val (.int (if p0 = (if (p4 &&& (1 : Int32)) = (0 : Int32) then p2 else p0 : Int32) then (if p1 = (if (p4 &&& (2 : Int32)) = (0 : Int32) then p3 else p1 : Int32) then (1 : Int32) else (0 : Int32)) else (0 : Int32))), .val (.int (if (if (p4 &&& (1 : Int32)) = (0 : Int32) then p2 else p0 : Int32) = p0 then (if (if (p4 &&& (2 : Int32)) = (0 : Int32) then p3 else p1 : Int32) = p1 then (1 : Int32) else (0 : Int32)) else (0 : Int32))), .val (.int (if p0 = p0 then (if p1 = p1 then (1 : Int32) else (0 : Int32)) else (0 : Int32))), .val (.int (0 : Int32)), .val (.int (0 : Int32))] [])) _
      refine XS.iload X46.here hx rfl (hb hby at_140) rfl ?_
      show Steps p.tables e below (T46.setTop (mkF m 142 #[.val (.int p0), .val (.int p1), .val (.int p2), .val (.int p3), .val (.int p4), .val (.int (if (p4 &&& (1 : Int32)) = (0 : Int32) then p2 else p0 : Int32)), .val (.int (if (p4 &&& (2 : Int32)) = (0 : Int32) then p3 else p1 : Int32)), .val (.ref a), .val (.ref b), .val (.int (if p0 = (if (p4 &&& (1 : Int32)) = (0 : Int32) then p2 else p0 : Int32) then (if p1 = (if (p4 &&& (2 : Int32)) = (0 : Int32) then p3 else p1 : Int32) then (1 : Int32) else (0 : Int32)) else (0 : Int32) : Int32)), .val (.ref T23.heap.size), .val (.int (if p0 = (if (p4 &&& (1 : Int32)) = (0 : Int32) then p2 else p0 : Int32) then (if p1 = (if (p4 &&& (2 : Int32)) = (0 : Int32) then p3 else p1 : Int32) then (1 : Int32) else (0 : Int32)) else (0 : Int32))), .val (.int (if (if (p4 &&& (1 : Int32)) = (0 : Int32) then p2 else p0 : Int32) = p0 then (if (if (p4 &&& (2 : Int32)) = (0 : Int32) then p3 else p1 : Int32) = p1 then (1 : Int32) else (0 : Int32)) else (0 : Int32))), .val (.int (if p0 = p0 then (if p1 = p1 then (1 : Int32) else (0 : Int32)) else (0 : Int32))), .val (.int (0 : Int32)), .val (.int (0 : Int32))] [(.int (0 : Int32))])) _
      refine XS.ifNo X46.here hx rfl (hb hby at_142) rfl ((if0 _ _).trans (teq (by decide)).2) ?_
      show Steps p.tables e below (T46.setTop (mkF m 145 #[.val (.int p0), .val (.int p1), .val (.int p2), .val (.int p3), .val (.int p4), .val (.int (if (p4 &&& (1 : Int32)) = (0 : Int32) then p2 else p0 : Int32)), .val (.int (if (p4 &&& (2 : Int32)) = (0 : Int32) then p3 else p1 : Int32)), .val (.ref a), .val (.ref b), .val (.int (if p0 = (if (p4 &&& (1 : Int32)) = (0 : Int32) then p2 else p0 : Int32) then (if p1 = (if (p4 &&& (2 : Int32)) = (0 : Int32) then p3 else p1 : Int32) then (1 : Int32) else (0 : Int32)) else (0 : Int32) : Int32)), .val (.ref T23.heap.size), .val (.int (if p0 = (if (p4 &&& (1 : Int32)) = (0 : Int32) then p2 else p0 : Int32) then (if p1 = (if (p4 &&& (2 : Int32)) = (0 : Int32) then p3 else p1 : Int32) then (1 : Int32) else (0 : Int32)) else (0 : Int32))), .val (.int (if (if (p4 &&& (1 : Int32)) = (0 : Int32) then p2 else p0 : Int32) = p0 then (if (if (p4 &&& (2 : Int32)) = (0 : Int32) then p3 else p1 : Int32) = p1 then (1 : Int32) else (0 : Int32)) else (0 : Int32))), .val (.int (if p0 = p0 then (if p1 = p1 then (1 : Int32) else (0 : Int32)) else (0 : Int32))), .val (.int (0 : Int32)), .val (.int (0 : Int32))] [])) _
      refine XS.iload X46.here hx rfl (hb hby at_145) rfl ?_
      show Steps p.tables e below (T46.setTop (mkF m 147 #[.val (.int p0), .val (.int p1), .val (.int p2), .val (.int p3), .val (.int p4), .val (.int (if (p4 &&& (1 : Int32)) = (0 : Int32) then p2 else p0 : Int32)), .val (.int (if (p4 &&& (2 : Int32)) = (0 : Int32) then p3 else p1 : Int32)), .val (.ref a), .val (.ref b), .val (.int (if p0 = (if (p4 &&& (1 : Int32)) = (0 : Int32) then p2 else p0 : Int32) then (if p1 = (if (p4 &&& (2 : Int32)) = (0 : Int32) then p3 else p1 : Int32) then (1 : Int32) else (0 : Int32)) else (0 : Int32) : Int32)), .val (.ref T23.heap.size), .val (.int (if p0 = (if (p4 &&& (1 : Int32)) = (0 : Int32) then p2 else p0 : Int32) then (if p1 = (if (p4 &&& (2 : Int32)) = (0 : Int32) then p3 else p1 : Int32) then (1 : Int32) else (0 : Int32)) else (0 : Int32))), .val (.int (if (if (p4 &&& (1 : Int32)) = (0 : Int32) then p2 else p0 : Int32) = p0 then (if (if (p4 &&& (2 : Int32)) = (0 : Int32) then p3 else p1 : Int32) = p1 then (1 : Int32) else (0 : Int32)) else (0 : Int32))), .val (.int (if p0 = p0 then (if p1 = p1 then (1 : Int32) else (0 : Int32)) else (0 : Int32))), .val (.int (0 : Int32)), .val (.int (0 : Int32))] [(.int (0 : Int32))])) _
      refine XS.ifNo X46.here hx rfl (hb hby at_147) rfl ((if0 _ _).trans (teq (by decide)).2) ?_
      show Steps p.tables e below (T46.setTop (mkF m 150 #[.val (.int p0), .val (.int p1), .val (.int p2), .val (.int p3), .val (.int p4), .val (.int (if (p4 &&& (1 : Int32)) = (0 : Int32) then p2 else p0 : Int32)), .val (.int (if (p4 &&& (2 : Int32)) = (0 : Int32) then p3 else p1 : Int32)), .val (.ref a), .val (.ref b), .val (.int (if p0 = (if (p4 &&& (1 : Int32)) = (0 : Int32) then p2 else p0 : Int32) then (if p1 = (if (p4 &&& (2 : Int32)) = (0 : Int32) then p3 else p1 : Int32) then (1 : Int32) else (0 : Int32)) else (0 : Int32) : Int32)), .val (.ref T23.heap.size), .val (.int (if p0 = (if (p4 &&& (1 : Int32)) = (0 : Int32) then p2 else p0 : Int32) then (if p1 = (if (p4 &&& (2 : Int32)) = (0 : Int32) then p3 else p1 : Int32) then (1 : Int32) else (0 : Int32)) else (0 : Int32))), .val (.int (if (if (p4 &&& (1 : Int32)) = (0 : Int32) then p2 else p0 : Int32) = p0 then (if (if (p4 &&& (2 : Int32)) = (0 : Int32) then p3 else p1 : Int32) = p1 then (1 : Int32) else (0 : Int32)) else (0 : Int32))), .val (.int (if p0 = p0 then (if p1 = p1 then (1 : Int32) else (0 : Int32)) else (0 : Int32))), .val (.int (0 : Int32)), .val (.int (0 : Int32))] [])) _
      refine XS.iconst X46.here hx rfl (hb hby at_150) ?_
      show Steps p.tables e below (T46.setTop (mkF m 151 #[.val (.int p0), .val (.int p1), .val (.int p2), .val (.int p3), .val (.int p4), .val (.int (if (p4 &&& (1 : Int32)) = (0 : Int32) then p2 else p0 : Int32)), .val (.int (if (p4 &&& (2 : Int32)) = (0 : Int32) then p3 else p1 : Int32)), .val (.ref a), .val (.ref b), .val (.int (if p0 = (if (p4 &&& (1 : Int32)) = (0 : Int32) then p2 else p0 : Int32) then (if p1 = (if (p4 &&& (2 : Int32)) = (0 : Int32) then p3 else p1 : Int32) then (1 : Int32) else (0 : Int32)) else (0 : Int32) : Int32)), .val (.ref T23.heap.size), .val (.int (if p0 = (if (p4 &&& (1 : Int32)) = (0 : Int32) then p2 else p0 : Int32) then (if p1 = (if (p4 &&& (2 : Int32)) = (0 : Int32) then p3 else p1 : Int32) then (1 : Int32) else (0 : Int32)) else (0 : Int32))), .val (.int (if (if (p4 &&& (1 : Int32)) = (0 : Int32) then p2 else p0 : Int32) = p0 then (if (if (p4 &&& (2 : Int32)) = (0 : Int32) then p3 else p1 : Int32) = p1 then (1 : Int32) else (0 : Int32)) else (0 : Int32))), .val (.int (if p0 = p0 then (if p1 = p1 then (1 : Int32) else (0 : Int32)) else (0 : Int32))), .val (.int (0 : Int32)), .val (.int (0 : Int32))] [(.int (1 : Int32))])) _
      refine XS.goto X46.here hx rfl (pc0 := 151) (pc' := 155) rfl (hb hby at_151) (by decide) (by decide) ?_
      exact k
    obtain ⟨fs, hr, hrun, hended, hW, hsame⟩ := X46.leave (v := some (.int (1 : Int32))) (fun h => by rw [Bd.returns] at h; cases h)
    refine ⟨_, _, R47 _ ?_, hrun, hended, _, _, rfl, ?_, ⟨_, rfl⟩, hW, hsame.mono (by decide) (by decide)⟩
    · exact retN X46 hx (t := .boolean) Bd.returns (by simp) (hb hby at_155) hr
    · show Q0 Z p0 p1 p2 p3 p4 ca cl h0 n0 _ T46.heap _
      rw [e46]
      exact ⟨rfl, N46⟩
  ·
    by_cases hhi : (127 : Int32) < p0
    ·
      skip
      obtain ⟨_, _, ⟨T48, L48, k48, n48⟩, -, X48, ⟨Lc48, hQ48, l48, y48, z48⟩, st48⟩ := Jvm.LawKit.callS X23 hx (y := (⟨"java/lang/Integer", "valueOf", "(I)Ljava/lang/Integer;"⟩ : MethodName)) hown (mvT hZ (hw _ (List.mem_of_getElem? (i := 18) rfl))) (mvT hZ (hw _ (List.mem_of_getElem? (i := 19) rfl))) (mvT hZ (hw _ (List.mem_of_getElem? (i := 20) rfl))) (mvT hZ (hw _ (List.mem_of_getElem? (i := 21) rfl))) (by decide) (backOf (W := 0) (rm4hi l Z a0 hw [] p0 T23.heap n0 Sz23 hlo hhi (SH.ext O.2)) hZ (hw _ (List.mem_of_getElem? (i := 21) rfl)) (hw _ (List.mem_of_getElem? (i := 20) rfl)) (by decide) (by decide)) (g := (mkF m 72 #[.val (.int p0), .val (.int p1), .val (.int p2), .val (.int p3), .val (.int p4), .val (.int (if (p4 &&& (1 : Int32)) = (0 : Int32) then p2 else p0 : Int32)), .val (.int (if (p4 &&& (2 : Int32)) = (0 : Int32) then p3 else p1 : Int32)), .val (.ref a), .val (.ref b), .val (.int (if p0 = (if (p4 &&& (1 : Int32)) = (0 : Int32) then p2 else p0 : Int32) then (if p1 = (if (p4 &&& (2 : Int32)) = (0 : Int32) then p3 else p1 : Int32) then (1 : Int32) else (0 : Int32)) else (0 : Int32) : Int32)), .unset, .unset, .unset, .unset, .unset, .unset] [(.int p0)])) rfl (by rw [hml]; rfl) (argsL := [(.int p0)]) (rest := []) (lenOf pd_3 rfl) rfl (by show 2 * 0 + _ ≤ _; exact Nat.le_of_eq rfl) (hb hby at_72) (fun _ _ => ⟨rfl, rfl, (by decide : 2 + 1 ≤ _), (by decide : 4 + 1 ≤ _)⟩)
      dsimp only [Pt.U, Pt.locs, Pt.cells, Pt.slots] at X48 l48 y48 z48 st48 hQ48
      subst l48 y48 z48
      obtain ⟨rfl, Nq48, K48, E_r⟩ := hQ48
      have N48 := Fr.app N23 Nq48
      have Sz48 := Nat.le_trans Sz23 K48.1
      have O := O.keep K48 all0
      have E_a := E_a.keep K48
      have F_sfi_a := F_sfi_a.keep K48 nin0
      have F_number_a := F_number_a.keep K48 nin0
      have E_b := E_b.keep K48
      have F_sfi_b := F_sfi_b.keep K48 nin0
      have F_number_b := F_number_b.keep K48 nin0
      have R49 : ∀ t, Steps p.tables e below (T48.setTop (mkF m 81 #[.val (.int p0), .val (.int p1), .val (.int p2), .val (.int p3), .val (.int p4), .val (.int (if (p4 &&& (1 : Int32)) = (0 : Int32) then p2 else p0 : Int32)), .val (.int (if (p4 &&& (2 : Int32)) = (0 : Int32) then p3 else p1 : Int32)), .val (.ref a), .val (.ref b), .val (.int (if p0 = (if (p4 &&& (1 : Int32)) = (0 : Int32) then p2 else p0 : Int32) then (if p1 = (if (p4 &&& (2 : Int32)) = (0 : Int32) then p3 else p1 : Int32) then (1 : Int32) else (0 : Int32)) else (0 : Int32) : Int32)), .val (.ref T23.heap.size), .unset, .unset, .unset, .unset, .unset] [(.ref b), (.ref a)])) t → Steps p.tables e below (s₁.setTop (entryFrame m #[(.int p0), (.int p1), (.int p2), (.int p3), (.int p4)] maxLocals)) t := by
        intro t k
        refine R35 t ?_
        show Steps p.tables e below (T23.setTop (mkF m 72 #[.val (.int p0), .val (.int p1), .val (.int p2), .val (.int p3), .val (.int p4), .val (.int (if (p4 &&& (1 : Int32)) = (0 : Int32) then p2 else p0 : Int32)), .val (.int (if (p4 &&& (2 : Int32)) = (0 : Int32) then p3 else p1 : Int32)), .val (.ref a), .val (.ref b), .val (.int (if p0 = (if (p4 &&& (1 : Int32)) = (0 : Int32) then p2 else p0 : Int32) then (if p1 = (if (p4 &&& (2 : Int32)) = (0 : Int32) then p3 else p1 : Int32) then (1 : Int32) else (0 : Int32)) else (0 : Int32) : Int32)), .unset, .unset, .unset, .unset, .unset, .unset] [(.int p0)])) _
        refine st48 _ ?_
        show Steps p.tables e below (T48.setTop (mkF m 75 #[.val (.int p0), .val (.int p1), .val (.int p2), .val (.int p3), .val (.int p4), .val (.int (if (p4 &&& (1 : Int32)) = (0 : Int32) then p2 else p0 : Int32)), .val (.int (if (p4 &&& (2 : Int32)) = (0 : Int32) then p3 else p1 : Int32)), .val (.ref a), .val (.ref b), .val (.int (if p0 = (if (p4 &&& (1 : Int32)) = (0 : Int32) then p2 else p0 : Int32) then (if p1 = (if (p4 &&& (2 : Int32)) = (0 : Int32) then p3 else p1 : Int32) then (1 : Int32) else (0 : Int32)) else (0 : Int32) : Int32)), .unset, .unset, .unset, .unset, .unset, .unset] [(.ref T23.heap.size)])) _
        refine XS.astore X48.here hx rfl (hb hby at_75) rfl rfl (l' := #[.val (.int p0), .val (.int p1), .val (.int p2), .val (.int p3), .val (.int p4), .val (.int (if (p4 &&& (1 : Int32)) = (0 : Int32) then p2 else p0 : Int32)), .val (.int (if (p4 &&& (2 : Int32)) = (0 : Int32) then p3 else p1 : Int32)), .val (.ref a), .val (.ref b), .val (.int (if p0 = (if (p4 &&& (1 : Int32)) = (0 : Int32) then p2 else p0 : Int32) then (if p1 = (if (p4 &&& (2 : Int32)) = (0 : Int32) then p3 else p1 : Int32) then (1 : Int32) else (0 : Int32)) else (0 : Int32) : Int32)), .val (.ref T23.heap.size), .unset, .unset, .unset, .unset, .unset]) rfl ?_
        show Steps p.tables e below (T48.setTop (mkF m 77 #[.val (.int p0), .val (.int p1), .val (.int p2), .val (.int p3), .val (.int p4), .val (.int (if (p4 &&& (1 : Int32)) = (0 : Int32) then p2 else p0 : Int32)), .val (.int (if (p4 &&& (2 : Int32)) = (0 : Int32) then p3 else p1 : Int32)), .val (.ref a), .val (.ref b), .val (.int (if p0 = (if (p4 &&& (1 : Int32)) = (0 : Int32) then p2 else p0 : Int32) then (if p1 = (if (p4 &&& (2 : Int32)) = (0 : Int32) then p3 else p1 : Int32) then (1 : Int32) else (0 : Int32)) else (0 : Int32) : Int32)), .val (.ref T23.heap.size), .unset, .unset, .unset, .unset, .unset] [])) _
        refine XS.aload X48.here hx rfl (hb hby at_77) rfl rfl ?_
        show Steps p.tables e below (T48.setTop (mkF m 79 #[.val (.int p0), .val (.int p1), .val (.int p2), .val (.int p3), .val (.int p4), .val (.int (if (p4 &&& (1 : Int32)) = (0 : Int32) then p2 else p0 : Int32)), .val (.int (if (p4 &&& (2 : Int32)) = (0 : Int32) then p3 else p1 : Int32)), .val (.ref a), .val (.ref b), .val (.int (if p0 = (if (p4 &&& (1 : Int32)) = (0 : Int32) then p2 else p0 : Int32) then (if p1 = (if (p4 &&& (2 : Int32)) = (0 : Int32) then p3 else p1 : Int32) then (1 : Int32) else (0 : Int32)) else (0 : Int32) : Int32)), .val (.ref T23.heap.size), .unset, .unset, .unset, .unset, .unset] [(.ref a)])) _
        refine XS.aload X48.here hx rfl (hb hby at_79) rfl rfl ?_
        exact k
      obtain ⟨cq50, kq50, q50a, q50b, q50c⟩ := isOf hZ rfl E_a
      obtain ⟨_, _, ⟨T50, L50, k50, n50⟩, -, X50, ⟨Lc50, hQ50, l50, y50, z50⟩, st50⟩ := X48.virtualBack hx (y := (⟨"com/example/tapline/emv/RecordNumber", "equals", "(Ljava/lang/Object;)Z"⟩ : MethodName)) (z := (⟨"com/example/tapline/emv/RecordNumber", "equals", "(Ljava/lang/Object;)Z"⟩ : MethodName)) hown (mvT hZ (hw _ (List.mem_of_getElem? (i := 25) rfl))) (mvT hZ (hw _ (List.mem_of_getElem? (i := 26) rfl))) (notFace_of_selects (args := #[]) (mvT hZ (hw _ (List.mem_of_getElem? (i := 28) rfl)))) (mvT hZ (hw _ (List.mem_of_getElem? (i := 28) rfl))) (mvT hZ (hw _ (List.mem_of_getElem? (i := 27) rfl))) (by decide) (backOf (W := 0) (rm5r l Z a0 hw [] a b p0 p1 (if (p4 &&& (1 : Int32)) = (0 : Int32) then p2 else p0 : Int32) (if (p4 &&& (2 : Int32)) = (0 : Int32) then p3 else p1 : Int32) T48.heap n0 Sz48 F_sfi_a F_number_a F_sfi_b F_number_b E_b) hZ (hw _ (List.mem_of_getElem? (i := 29) rfl)) (hw _ (List.mem_of_getElem? (i := 2) rfl)) (by decide) (by decide)) q50a q50c (g := (mkF m 81 #[.val (.int p0), .val (.int p1), .val (.int p2), .val (.int p3), .val (.int p4), .val (.int (if (p4 &&& (1 : Int32)) = (0 : Int32) then p2 else p0 : Int32)), .val (.int (if (p4 &&& (2 : Int32)) = (0 : Int32) then p3 else p1 : Int32)), .val (.ref a), .val (.ref b), .val (.int (if p0 = (if (p4 &&& (1 : Int32)) = (0 : Int32) then p2 else p0 : Int32) then (if p1 = (if (p4 &&& (2 : Int32)) = (0 : Int32) then p3 else p1 : Int32) then (1 : Int32) else (0 : Int32)) else (0 : Int32) : Int32)), .val (.ref T23.heap.size), .unset, .unset, .unset, .unset, .unset] [(.ref b), (.ref a)])) rfl (by rw [hml]; rfl) (Steps.refl _) (argsL := [(.ref b)]) (rest := []) (lenOf pd_4 rfl) rfl (by show 2 * 0 + _ ≤ _; exact Nat.le_of_eq rfl) (hb hby at_81) (fun _ _ => ⟨rfl, rfl, (by decide : 3 + 0 ≤ _), (by decide : 5 + 0 ≤ _)⟩)
      dsimp only [Pt.U, Pt.locs, Pt.cells, Pt.slots] at X50 l50 y50 z50 st50 hQ50
      subst l50 y50 z50
      obtain ⟨rfl, Nq50, eq50⟩ := hQ50
      have N50 := Fr.app N48 Nq50
      have e50 : T50.heap = T48.heap := eq50
      have R51 : ∀ t, Steps p.tables e below (T50.setTop (mkF m 90 #[.val (.int p0), .val (.int p1), .val (.int p2), .val (.int p3), .val (.int p4), .val (.int (if (p4 &&& (1 : Int32)) = (0 : Int32) then p2 else p0 : Int32)), .val (.int (if (p4 &&& (2 : Int32)) = (0 : Int32) then p3 else p1 : Int32)), .val (.ref a), .val (.ref b), .val (.int (if p0 = (if (p4 &&& (1 : Int32)) = (0 : Int32) then p2 else p0 : Int32) then (if p1 = (if (p4 &&& (2 : Int32)) = (0 : Int32) then p3 else p1 : Int32) then (1 : Int32) else (0 : Int32)) else (0 : Int32) : Int32)), .val (.ref T23.heap.size), .val (.int (if p0 = (if (p4 &&& (1 : Int32)) = (0 : Int32) then p2 else p0 : Int32) then (if p1 = (if (p4 &&& (2 : Int32)) = (0 : Int32) then p3 else p1 : Int32) then (1 : Int32) else (0 : Int32)) else (0 : Int32))), .unset, .unset, .unset, .unset] [(.ref a), (.ref b)])) t → Steps p.tables e below (s₁.setTop (entryFrame m #[(.int p0), (.int p1), (.int p2), (.int p3), (.int p4)] maxLocals)) t := by
        intro t k
        refine R49 t ?_
        show Steps p.tables e below (T48.setTop (mkF m 81 #[.val (.int p0), .val (.int p1), .val (.int p2), .val (.int p3), .val (.int p4), .val (.int (if (p4 &&& (1 : Int32)) = (0 : Int32) then p2 else p0 : Int32)), .val (.int (if (p4 &&& (2 : Int32)) = (0 : Int32) then p3 else p1 : Int32)), .val (.ref a), .val (.ref b), .val (.int (if p0 = (if (p4 &&& (1 : Int32)) = (0 : Int32) then p2 else p0 : Int32) then (if p1 = (if (p4 &&& (2 : Int32)) = (0 : Int32) then p3 else p1 : Int32) then (1 : Int32) else (0 : Int32)) else (0 : Int32) : Int32)), .val (.ref T23.heap.size), .unset, .unset, .unset, .unset, .unset] [(.ref b), (.ref a)])) _
        refine st50.trans ?_
        show Steps p.tables e below (T50.setTop (mkF m 84 #[.val (.int p0), .val (.int p1), .val (.int p2), .val (.int p3), .val (.int p4), .val (.int (if (p4 &&& (1 : Int32)) = (0 : Int32) then p2 else p0 : Int32)), .val (.int (if (p4 &&& (2 : Int32)) = (0 : Int32) then p3 else p1 : Int32)), .val (.ref a), .val (.ref b), .val (.int (if p0 = (if (p4 &&& (1 : Int32)) = (0 : Int32) then p2 else p0 : Int32) then (if p1 = (if (p4 &&& (2 : Int32)) = (0 : Int32) then p3 else p1 : Int32) then (1 : Int32) else (0 : Int32)) else (0 : Int32) : Int32)), .val (.ref T23.heap.size), .unset, .unset, .unset, .unset, .unset] [(.int (if p0 = (if (p4 &&& (1 : Int32)) = (0 : Int32) then p2 else p0 : Int32) then (if p1 = (if (p4 &&& (2 : Int32)) = (0 : Int32) then p3 else p1 : Int32) then (1 : Int32) else (0 : Int32)) else (0 : Int32)))])) _
        refine XS.istore X50.here hx rfl (hb hby at_84) rfl (l' := #[.val (.int p0), .val (.int p1), .val (.int p2), .val (.int p3), .val (.int p4), .val (.int (if (p4 &&& (1 : Int32)) = (0 : Int32) then p2 else p0 : Int32)), .val (.int (if (p4 &&& (2 : Int32)) = (0 : Int32) then p3 else p1 : Int32)), .val (.ref a), .val (.ref b), .val (.int (if p0 = (if (p4 &&& (1 : Int32)) = (0 : Int32) then p2 else p0 : Int32) then (if p1 = (if (p4 &&& (2 : Int32)) = (0 : Int32) then p3 else p1 : Int32) then (1 : Int32) else (0 : Int32)) else (0 : Int32) : Int32)), .val (.ref T23.heap.size), .val (.int (if p0 = (if (p4 &&& (1 : Int32)) = (0 : Int32) then p2 else p0 : Int32) then (if p1 = (if (p4 &&& (2 : Int32)) = (0 : Int32) then p3 else p1 : Int32) then (1 : Int32) else (0 : Int32)) else (0 : Int32))), .unset, .unset, .unset, .unset]) rfl ?_
        show Steps p.tables e below (T50.setTop (mkF m 86 #[.val (.int p0), .val (.int p1), .val (.int p2), .val (.int p3), .val (.int p4), .val (.int (if (p4 &&& (1 : Int32)) = (0 : Int32) then p2 else p0 : Int32)), .val (.int (if (p4 &&& (2 : Int32)) = (0 : Int32) then p3 else p1 : Int32)), .val (.ref a), .val (.ref b), .val (.int (if p0 = (if (p4 &&& (1 : Int32)) = (0 : Int32) then p2 else p0 : Int32) then (if p1 = (if (p4 &&& (2 : Int32)) = (0 : Int32) then p3 else p1 : Int32) then (1 : Int32) else (0 : Int32)) else (0 : Int32) : Int32)), .val (.ref T23.heap.size), .val (.int (if p0 = (if (p4 &&& (1 : Int32)) = (0 : Int32) then p2 else p0 : Int32) then (if p1 = (if (p4 &&& (2 : Int32)) = (0 : Int32) then p3 else p1 : Int32) then (1 : Int32) else (0 : Int32)) else (0 : Int32))), .unset, .unset, .unset, .unset] [])) _
        refine XS.aload X50.here hx rfl (hb hby at_86) rfl rfl ?_
        show Steps p.tables e below (T50.setTop (mkF m 88 #[.val (.int p0), .val (.int p1), .val (.int p2), .val (.int p3), .val (.int p4), .val (.int (if (p4 &&& (1 : Int32)) = (0 : Int32) then p2 else p0 : Int32)), .val (.int (if (p4 &&& (2 : Int32)) = (0 : Int32) then p3 else p1 : Int32)), .val (.ref a), .val (.ref b), .val (.int (if p0 = (if (p4 &&& (1 : Int32)) = (0 : Int32) then p2 else p0 : Int32) then (if p1 = (if (p4 &&& (2 : Int32)) = (0 : Int32) then p3 else p1 : Int32) then (1 : Int32) else (0 : Int32)) else (0 : Int32) : Int32)), .val (.ref T23.heap.size), .val (.int (if p0 = (if (p4 &&& (1 : Int32)) = (0 : Int32) then p2 else p0 : Int32) then (if p1 = (if (p4 &&& (2 : Int32)) = (0 : Int32) then p3 else p1 : Int32) then (1 : Int32) else (0 : Int32)) else (0 : Int32))), .unset, .unset, .unset, .unset] [(.ref b)])) _
        refine XS.aload X50.here hx rfl (hb hby at_88) rfl rfl ?_
        exact k
      obtain ⟨cq52, kq52, q52a, q52b, q52c⟩ := isOf hZ e50 E_b
      obtain ⟨_, _, ⟨T52, L52, k52, n52⟩, -, X52, ⟨Lc52, hQ52, l52, y52, z52⟩, st52⟩ := X50.virtualBack hx (y := (⟨"com/example/tapline/emv/RecordNumber", "equals", "(Ljava/lang/Object;)Z"⟩ : MethodName)) (z := (⟨"com/example/tapline/emv/RecordNumber", "equals", "(Ljava/lang/Object;)Z"⟩ : MethodName)) hown (mvT hZ (hw _ (List.mem_of_getElem? (i := 25) rfl))) (mvT hZ (hw _ (List.mem_of_getElem? (i := 26) rfl))) (notFace_of_selects (args := #[]) (mvT hZ (hw _ (List.mem_of_getElem? (i := 28) rfl)))) (mvT hZ (hw _ (List.mem_of_getElem? (i := 28) rfl))) (mvT hZ (hw _ (List.mem_of_getElem? (i := 27) rfl))) (by decide) (backOf (W := 0) (rm5r l Z a0 hw [] b a (if (p4 &&& (1 : Int32)) = (0 : Int32) then p2 else p0 : Int32) (if (p4 &&& (2 : Int32)) = (0 : Int32) then p3 else p1 : Int32) p0 p1 T48.heap n0 Sz48 F_sfi_b F_number_b F_sfi_a F_number_a E_a) hZ (hw _ (List.mem_of_getElem? (i := 29) rfl)) (hw _ (List.mem_of_getElem? (i := 2) rfl)) (by decide) (by decide)) q52a q52c (g := (mkF m 90 #[.val (.int p0), .val (.int p1), .val (.int p2), .val (.int p3), .val (.int p4), .val (.int (if (p4 &&& (1 : Int32)) = (0 : Int32) then p2 else p0 : Int32)), .val (.int (if (p4 &&& (2 : Int32)) = (0 : Int32) then p3 else p1 : Int32)), .val (.ref a), .val (.ref b), .val (.int (if p0 = (if (p4 &&& (1 : Int32)) = (0 : Int32) then p2 else p0 : Int32) then (if p1 = (if (p4 &&& (2 : Int32)) = (0 : Int32) then p3 else p1 : Int32) then (1 : Int32) else (0 : Int32)) else (0 : Int32) : Int32)), .val (.ref T23.heap.size), .val (.int (if p0 = (if (p4 &&& (1 : Int32)) = (0 : Int32) then p2 else p0 : Int32) then (if p1 = (if (p4 &&& (2 : Int32)) = (0 : Int32) then p3 else p1 : Int32) then (1 : Int32) else (0 : Int32)) else (0 : Int32))), .unset, .unset, .unset, .unset] [(.ref a), (.ref b)])) rfl (by rw [hml]; rfl) (Steps.refl _) (argsL := [(.ref a)]) (rest := []) (lenOf pd_4 rfl) rfl (by show 2 * 0 + _ ≤ _; exact Nat.le_of_eq rfl) (hb hby at_90) (fun _ _ => ⟨rfl, e50, (by decide : 3 + 0 ≤ _), (by decide : 5 + 0 ≤ _)⟩)
      dsimp only [Pt.U, Pt.locs, Pt.cells, Pt.slots] at X52 l52 y52 z52 st52 hQ52
      subst l52 y52 z52
      obtain ⟨rfl, Nq52, eq52⟩ := hQ52
      have N52 := Fr.app N50 Nq52
      have e52 : T52.heap = T48.heap := eq52
      have R53 : ∀ t, Steps p.tables e below (T52.setTop (mkF m 99 #[.val (.int p0), .val (.int p1), .val (.int p2), .val (.int p3), .val (.int p4), .val (.int (if (p4 &&& (1 : Int32)) = (0 : Int32) then p2 else p0 : Int32)), .val (.int (if (p4 &&& (2 : Int32)) = (0 : Int32) then p3 else p1 : Int32)), .val (.ref a), .val (.ref b), .val (.int (if p0 = (if (p4 &&& (1 : Int32)) = (0 : Int32) then p2 else p0 : Int32) then (if p1 = (if (p4 &&& (2 : Int32)) = (0 : Int32) then p3 else p1 : Int32) then (1 : Int32) else (0 : Int32)) else (0 : Int32) : Int32)), .val (.ref T23.heap.size), .val (.int (if p0 = (if (p4 &&& (1 : Int32)) = (0 : Int32) then p2 else p0 : Int32) then (if p1 = (if (p4 &&& (2 : Int32)) = (0 : Int32) then p3 else p1 : Int32) then (1 : Int32) else (0 : Int32)) else (0 : Int32))), .val (.int (if (if (p4 &&& (1 : Int32)) = (0 : Int32) then p2 else p0 : Int32) = p0 then (if (if (p4 &&& (2 : Int32)) = (0 : Int32) then p3 else p1 : Int32) = p1 then (1 : Int32) else (0 : Int32)) else (0 : Int32))), .unset, .unset, .unset] [(.ref a), (.ref a)])) t → Steps p.tables e below (s₁.setTop (entryFrame m #[(.int p0), (.int p1), (.int p2), (.int p3), (.int p4)] maxLocals)) t := by
        intro t k
        refine R51 t ?_
        show Steps p.tables e below (T50.setTop (mkF m 90 #[.val (.int p0), .val (.int p1), .val (.int p2), .val (.int p3), .val (.int p4), .val (.int (if (p4 &&& (1 : Int32)) = (0 : Int32) then p2 else p0 : Int32)), .val (.int (if (p4 &&& (2 : Int32)) = (0 : Int32) then p3 else p1 : Int32)), .val (.ref a), .val (.ref b), .val (.int (if p0 = (if (p4 &&& (1 : Int32)) = (0 : Int32) then p2 else p0 : Int32) then (if p1 = (if (p4 &&& (2 : Int32)) = (0 : Int32) then p3 else p1 : Int32) then (1 : Int32) else (0 : Int32)) else (0 : Int32) : Int32)), .val (.ref T23.heap.size), .val (.int (if p0 = (if (p4 &&& (1 : Int32)) = (0 : Int32) then p2 else p0 : Int32) then (if p1 = (if (p4 &&& (2 : Int32)) = (0 : Int32) then p3 else p1 : Int32) then (1 : Int32) else (0 : Int32)) else (0 : Int32))), .unset, .unset, .unset, .unset] [(.ref a), (.ref b)])) _
        refine st52.trans ?_
        show Steps p.tables e below (T52.setTop (mkF m 93 #[.val (.int p0), .val (.int p1), .val (.int p2), .val (.int p3), .val (.int p4), .val (.int (if (p4 &&& (1 : Int32)) = (0 : Int32) then p2 else p0 : Int32)), .val (.int (if (p4 &&& (2 : Int32)) = (0 : Int32) then p3 else p1 : Int32)), .val (.ref a), .val (.ref b), .val (.int (if p0 = (if (p4 &&& (1 : Int32)) = (0 : Int32) then p2 else p0 : Int32) then (if p1 = (if (p4 &&& (2 : Int32)) = (0 : Int32) then p3 else p1 : Int32) then (1 : Int32) else (0 : Int32)) else (0 : Int32) : Int32)), .val (.ref T23.heap.size), .val (.int (if p0 = (if (p4 &&& (1 : Int32)) = (0 : Int32) then p2 else p0 : Int32) then (if p1 = (if (p4 &&& (2 : Int32)) = (0 : Int32) then p3 else p1 : Int32) then (1 : Int32) else (0 : Int32)) else (0 : Int32))), .unset, .unset, .unset, .unset] [(.int (if (if (p4 &&& (1 : Int32)) = (0 : Int32) then p2 else p0 : Int32) = p0 then (if (if (p4 &&& (2 : Int32)) = (0 : Int32) then p3 else p1 : Int32) = p1 then (1 : Int32) else (0 : Int32)) else (0 : Int32)))])) _
        refine XS.istore X52.here hx rfl (hb hby at_93) rfl (l' := #[.val (.int p0), .val (.int p1), .val (.int p2), .val (.int p3), .val (.int p4), .val (.int (if (p4 &&& (1 : Int32)) = (0 : Int32) then p2 else p0 : Int32)), .val (.int (if (p4 &&& (2 : Int32)) = (0 : Int32) then p3 else p1 : Int32)), .val (.ref a), .val (.ref b), .val (.int (if p0 = (if (p4 &&& (1 : Int32)) = (0 : Int32) then p2 else p0 : Int32) then (if p1 = (if (p4 &&& (2 : Int32)) = (0 : Int32) then p3 else p1 : Int32) then (1 : Int32) else (0 : Int32)) else (0 : Int32) : Int32)), .val (.ref T23.heap.size), .val (.int (if p0 = (if (p4 &&& (1 : Int32)) = (0 : Int32) then p2 else p0 : Int32) then (if p1 = (if (p4 &&& (2 : Int32)) = (0 : Int32) then p3 else p1 : Int32) then (1 : Int32) else (0 : Int32)) else (0 : Int32))), .val (.int (if (if (p4 &&& (1 : Int32)) = (0 : Int32) then p2 else p0 : Int32) = p0 then (if (if (p4 &&& (2 : Int32)) = (0 : Int32) then p3 else p1 : Int32) = p1 then (1 : Int32) else (0 : Int32)) else (0 : Int32))), .unset, .unset, .unset]) rfl ?_
        show Steps p.tables e below (T52.setTop (mkF m 95 #[.val (.int p0), .val (.int p1), .val (.int p2), .val (.int p3), .val (.int p4), .val (.int (if (p4 &&& (1 : Int32)) = (0 : Int32) then p2 else p0 : Int32)), .val (.int (if (p4 &&& (2 : Int32)) = (0 : Int32) then p3 else p1 : Int32)), .val (.ref a), .val (.ref b), .val (.int (if p0 = (if (p4 &&& (1 : Int32)) = (0 : Int32) then p2 else p0 : Int32) then (if p1 = (if (p4 &&& (2 : Int32)) = (0 : Int32) then p3 else p1 : Int32) then (1 : Int32) else (0 : Int32)) else (0 : Int32) : Int32)), .val (.ref T23.heap.size), .val (.int (if p0 = (if (p4 &&& (1 : Int32)) = (0 : Int32) then p2 else p0 : Int32) then (if p1 = (if (p4 &&& (2 : Int32)) = (0 : Int32) then p3 else p1 : Int32) then (1 : Int32) else (0 : Int32)) else (0 : Int32))), .val (.int (if (if (p4 &&& (1 : Int32)) = (0 : Int32) then p2 else p0 : Int32) = p0 then (if (if (p4 &&& (2 : Int32)) = (0 : Int32) then p3 else p1 : Int32) = p1 then (1 : Int32) else (0 : Int32)) else (0 : Int32))), .unset, .unset, .unset] [])) _
        refine XS.aload X52.here hx rfl (hb hby at_95) rfl rfl ?_
        show Steps p.tables e below (T52.setTop (mkF m 97 #[.val (.int p0), .val (.int p1), .val (.int p2), .val (.int p3), .val (.int p4), .val (.int (if (p4 &&& (1 : Int32)) = (0 : Int32) then p2 else p0 : Int32)), .val (.int (if (p4 &&& (2 : Int32)) = (0 : Int32) then p3 else p1 : Int32)), .val (.ref a), .val (.ref b), .val (.int (if p0 = (if (p4 &&& (1 : Int32)) = (0 : Int32) then p2 else p0 : Int32) then (if p1 = (if (p4 &&& (2 : Int32)) = (0 : Int32) then p3 else p1 : Int32) then (1 : Int32) else (0 : Int32)) else (0 : Int32) : Int32)), .val (.ref T23.heap.size), .val (.int (if p0 = (if (p4 &&& (1 : Int32)) = (0 : Int32) then p2 else p0 : Int32) then (if p1 = (if (p4 &&& (2 : Int32)) = (0 : Int32) then p3 else p1 : Int32) then (1 : Int32) else (0 : Int32)) else (0 : Int32))), .val (.int (if (if (p4 &&& (1 : Int32)) = (0 : Int32) then p2 else p0 : Int32) = p0 then (if (if (p4 &&& (2 : Int32)) = (0 : Int32) then p3 else p1 : Int32) = p1 then (1 : Int32) else (0 : Int32)) else (0 : Int32))), .unset, .unset, .unset] [(.ref a)])) _
        refine XS.aload X52.here hx rfl (hb hby at_97) rfl rfl ?_
        exact k
      obtain ⟨cq54, kq54, q54a, q54b, q54c⟩ := isOf hZ e52 E_a
      obtain ⟨_, _, ⟨T54, L54, k54, n54⟩, -, X54, ⟨Lc54, hQ54, l54, y54, z54⟩, st54⟩ := X52.virtualBack hx (y := (⟨"com/example/tapline/emv/RecordNumber", "equals", "(Ljava/lang/Object;)Z"⟩ : MethodName)) (z := (⟨"com/example/tapline/emv/RecordNumber", "equals", "(Ljava/lang/Object;)Z"⟩ : MethodName)) hown (mvT hZ (hw _ (List.mem_of_getElem? (i := 25) rfl))) (mvT hZ (hw _ (List.mem_of_getElem? (i := 26) rfl))) (notFace_of_selects (args := #[]) (mvT hZ (hw _ (List.mem_of_getElem? (i := 28) rfl)))) (mvT hZ (hw _ (List.mem_of_getElem? (i := 28) rfl))) (mvT hZ (hw _ (List.mem_of_getElem? (i := 27) rfl))) (by decide) (backOf (W := 0) (rm5r l Z a0 hw [] a a p0 p1 p0 p1 T48.heap n0 Sz48 F_sfi_a F_number_a F_sfi_a F_number_a E_a) hZ (hw _ (List.mem_of_getElem? (i := 29) rfl)) (hw _ (List.mem_of_getElem? (i := 2) rfl)) (by decide) (by decide)) q54a q54c (g := (mkF m 99 #[.val (.int p0), .val (.int p1), .val (.int p2), .val (.int p3), .val (.int p4), .val (.int (if (p4 &&& (1 : Int32)) = (0 : Int32) then p2 else p0 : Int32)), .val (.int (if (p4 &&& (2 : Int32)) = (0 : Int32) then p3 else p1 : Int32)), .val (.ref a), .val (.ref b), .val (.int (if p0 = (if (p4 &&& (1 : Int32)) = (0 : Int32) then p2 else p0 : Int32) then (if p1 = (if (p4 &&& (2 : Int32)) = (0 : Int32) then p3 else p1 : Int32) then (1 : Int32) else (0 : Int32)) else (0 : Int32) : Int32)), .val (.ref T23.heap.size), .val (.int (if p0 = (if (p4 &&& (1 : Int32)) = (0 : Int32) then p2 else p0 : Int32) then (if p1 = (if (p4 &&& (2 : Int32)) = (0 : Int32) then p3 else p1 : Int32) then (1 : Int32) else (0 : Int32)) else (0 : Int32))), .val (.int (if (if (p4 &&& (1 : Int32)) = (0 : Int32) then p2 else p0 : Int32) = p0 then (if (if (p4 &&& (2 : Int32)) = (0 : Int32) then p3 else p1 : Int32) = p1 then (1 : Int32) else (0 : Int32)) else (0 : Int32))), .unset, .unset, .unset] [(.ref a), (.ref a)])) rfl (by rw [hml]; rfl) (Steps.refl _) (argsL := [(.ref a)]) (rest := []) (lenOf pd_4 rfl) rfl (by show 2 * 0 + _ ≤ _; exact Nat.le_of_eq rfl) (hb hby at_99) (fun _ _ => ⟨rfl, e52, (by decide : 3 + 0 ≤ _), (by decide : 5 + 0 ≤ _)⟩)
      dsimp only [Pt.U, Pt.locs, Pt.cells, Pt.slots] at X54 l54 y54 z54 st54 hQ54
      subst l54 y54 z54
      obtain ⟨rfl, Nq54, eq54⟩ := hQ54
      have N54 := Fr.app N52 Nq54
      have e54 : T54.heap = T48.heap := eq54
      have R55 : ∀ t, Steps p.tables e below (T54.setTop (mkF m 107 #[.val (.int p0), .val (.int p1), .val (.int p2), .val (.int p3), .val (.int p4), .val (.int (if (p4 &&& (1 : Int32)) = (0 : Int32) then p2 else p0 : Int32)), .val (.int (if (p4 &&& (2 : Int32)) = (0 : Int32) then p3 else p1 : Int32)), .val (.ref a), .val (.ref b), .val (.int (if p0 = (if (p4 &&& (1 : Int32)) = (0 : Int32) then p2 else p0 : Int32) then (if p1 = (if (p4 &&& (2 : Int32)) = (0 : Int32) then p3 else p1 : Int32) then (1 : Int32) else (0 : Int32)) else (0 : Int32) : Int32)), .val (.ref T23.heap.size), .val (.int (if p0 = (if (p4 &&& (1 : Int32)) = (0 : Int32) then p2 else p0 : Int32) then (if p1 = (if (p4 &&& (2 : Int32)) = (0 : Int32) then p3 else p1 : Int32) then (1 : Int32) else (0 : Int32)) else (0 : Int32))), .val (.int (if (if (p4 &&& (1 : Int32)) = (0 : Int32) then p2 else p0 : Int32) = p0 then (if (if (p4 &&& (2 : Int32)) = (0 : Int32) then p3 else p1 : Int32) = p1 then (1 : Int32) else (0 : Int32)) else (0 : Int32))), .val (.int (if p0 = p0 then (if p1 = p1 then (1 : Int32) else (0 : Int32)) else (0 : Int32))), .unset, .unset] [.null, (.ref a)])) t → Steps p.tables e below (s₁.setTop (entryFrame m #[(.int p0), (.int p1), (.int p2), (.int p3), (.int p4)] maxLocals)) t := by
        intro t k
        refine R53 t ?_
        show Steps p.tables e below (T52.setTop (mkF m 99 #[.val (.int p0), .val (.int p1), .val (.int p2), .val (.int p3), .val (.int p4), .val (.int (if (p4 &&& (1 : Int32)) = (0 : Int32) then p2 else p0 : Int32)), .val (.int (if (p4 &&& (2 : Int32)) = (0 : Int32) then p3 else p1 : Int32)), .val (.ref a), .val (.ref b), .val (.int (if p0 = (if (p4 &&& (1 : Int32)) = (0 : Int32) then p2 else p0 : Int32) then (if p1 = (if (p4 &&& (2 : Int32)) = (0 : Int32) then p3 else p1 : Int32) then (1 : Int32) else (0 : Int32)) else (0 : Int32) : Int32)), .val (.ref T23.heap.size), .val (.int (if p0 = (if (p4 &&& (1 : Int32)) = (0 : Int32) then p2 else p0 : Int32) then (if p1 = (if (p4 &&& (2 : Int32)) = (0 : Int32) then p3 else p1 : Int32) then (1 : Int32) else (0 : Int32)) else (0 : Int32))), .val (.int (if (if (p4 &&& (1 : Int32)) = (0 : Int32) then p2 else p0 : Int32) = p0 then (if (if (p4 &&& (2 : Int32)) = (0 : Int32) then p3 else p1 : Int32) = p1 then (1 : Int32) else (0 : Int32)) else (0 : Int32))), .unset, .unset, .unset] [(.ref a), (.ref a)])) _
        refine st54.trans ?_
        show Steps p.tables e below (T54.setTop (mkF m 102 #[.val (.int p0), .val (.int p1), .val (.int p2), .val (.int p3), .val (.int p4), .val (.int (if (p4 &&& (1 : Int32)) = (0 : Int32) then p2 else p0 : Int32)), .val (.int (if (p4 &&& (2 : Int32)) = (0 : Int32) then p3 else p1 : Int32)), .val (.ref a), .val (.ref b), .val (.int (if p0 = (if (p4 &&& (1 : Int32)) = (0 : Int32) then p2 else p0 : Int32) then (if p1 = (if (p4 &&& (2 : Int32)) = (0 : Int32) then p3 else p1 : Int32) then (1 : Int32) else (0 : Int32)) else (0 : Int32) : Int32)), .val (.ref T23.heap.size), .val (.int (if p0 = (if (p4 &&& (1 : Int32)) = (0 : Int32) then p2 else p0 : Int32) then (if p1 = (if (p4 &&& (2 : Int32)) = (0 : Int32) then p3 else p1 : Int32) then (1 : Int32) else (0 : Int32)) else (0 : Int32))), .val (.int (if (if (p4 &&& (1 : Int32)) = (0 : Int32) then p2 else p0 : Int32) = p0 then (if (if (p4 &&& (2 : Int32)) = (0 : Int32) then p3 else p1 : Int32) = p1 then (1 : Int32) else (0 : Int32)) else (0 : Int32))), .unset, .unset, .unset] [(.int (if p0 = p0 then (if p1 = p1 then (1 : Int32) else (0 : Int32)) else (0 : Int32)))])) _
        refine XS.istore X54.here hx rfl (hb hby at_102) rfl (l' := #[.val (.int p0), .val (.int p1), .val (.int p2), .val (.int p3), .val (.int p4), .val (.int (if (p4 &&& (1 : Int32)) = (0 : Int32) then p2 else p0 : Int32)), .val (.int (if (p4 &&& (2 : Int32)) = (0 : Int32) then p3 else p1 : Int32)), .val (.ref a), .val (.ref b), .val (.int (if p0 = (if (p4 &&& (1 : Int32)) = (0 : Int32) then p2 else p0 : Int32) then (if p1 = (if (p4 &&& (2 : Int32)) = (0 : Int32) then p3 else p1 : Int32) then (1 : Int32) else (0 : Int32)) else (0 : Int32) : Int32)), .val (.ref T23.heap.size), .val (.int (if p0 = (if (p4 &&& (1 : Int32)) = (0 : Int32) then p2 else p0 : Int32) then (if p1 = (if (p4 &&& (2 : Int32)) = (0 : Int32) then p3 else p1 : Int32) then (1 : Int32) else (0 : Int32)) else (0 : Int32))), .val (.int (if (if (p4 &&& (1 : Int32)) = (0 : Int32) then p2 else p0 : Int32) = p0 then (if (if (p4 &&& (2 : Int32)) = (0 : Int32) then p3 else p1 : Int32) = p1 then (1 : Int32) else (0 : Int32)) else (0 : Int32))), .val (.int (if p0 = p0 then (if p1 = p1 then (1 : Int32) else (0 : Int32)) else (0 : Int32))), .unset, .unset]) rfl ?_
        show Steps p.tables e below (T54.setTop (mkF m 104 #[.val (.int p0), .val (.int p1), .val (.int p2), .val (.int p3), .val (.int p4), .val (.int (if (p4 &&& (1 : Int32)) = (0 : Int32) then p2 else p0 : Int32)), .val (.int (if (p4 &&& (2 : Int32)) = (0 : Int32) then p3 else p1 : Int32)), .val (.ref a), .val (.ref b), .val (.int (if p0 = (if (p4 &&& (1 : Int32)) = (0 : Int32) then p2 else p0 : Int32) then (if p1 = (if (p4 &&& (2 : Int32)) = (0 : Int32) then p3 else p1 : Int32) then (1 : Int32) else (0 : Int32)) else (0 : Int32) : Int32)), .val (.ref T23.heap.size), .val (.int (if p0 = (if (p4 &&& (1 : Int32)) = (0 : Int32) then p2 else p0 : Int32) then (if p1 = (if (p4 &&& (2 : Int32)) = (0 : Int32) then p3 else p1 : Int32) then (1 : Int32) else (0 : Int32)) else (0 : Int32))), .val (.int (if (if (p4 &&& (1 : Int32)) = (0 : Int32) then p2 else p0 : Int32) = p0 then (if (if (p4 &&& (2 : Int32)) = (0 : Int32) then p3 else p1 : Int32) = p1 then (1 : Int32) else (0 : Int32)) else (0 : Int32))), .val (.int (if p0 = p0 then (if p1 = p1 then (1 : Int32) else (0 : Int32)) else (0 : Int32))), .unset, .unset] [])) _
        refine XS.aload X54.here hx rfl (hb hby at_104) rfl rfl ?_
        show Steps p.tables e below (T54.setTop (mkF m 106 #[.val (.int p0), .val (.int p1), .val (.int p2), .val (.int p3), .val (.int p4), .val (.int (if (p4 &&& (1 : Int32)) = (0 : Int32) then p2 else p0 : Int32)), .val (.int (if (p4 &&& (2 : Int32)) = (0 : Int32) then p3 else p1 : Int32)), .val (.ref a), .val (.ref b), .val (.int (if p0 = (if (p4 &&& (1 : Int32)) = (0 : Int32) then p2 else p0 : Int32) then (if p1 = (if (p4 &&& (2 : Int32)) = (0 : Int32) then p3 else p1 : Int32) then (1 : Int32) else (0 : Int32)) else (0 : Int32) : Int32)), .val (.ref T23.heap.size), .val (.int (if p0 = (if (p4 &&& (1 : Int32)) = (0 : Int32) then p2 else p0 : Int32) then (if p1 = (if (p4 &&& (2 : Int32)) = (0 : Int32) then p3 else p1 : Int32) then (1 : Int32) else (0 : Int32)) else (0 : Int32))), .val (.int (if (if (p4 &&& (1 : Int32)) = (0 : Int32) then p2 else p0 : Int32) = p0 then (if (if (p4 &&& (2 : Int32)) = (0 : Int32) then p3 else p1 : Int32) = p1 then (1 : Int32) else (0 : Int32)) else (0 : Int32))), .val (.int (if p0 = p0 then (if p1 = p1 then (1 : Int32) else (0 : Int32)) else (0 : Int32))), .unset, .unset] [(.ref a)])) _
        refine XS.aconstNull X54.here hx rfl (hb hby at_106) ?_
        exact k
      obtain ⟨cq56, kq56, q56a, q56b, q56c⟩ := isOf hZ e54 E_a
      obtain ⟨_, _, ⟨T56, L56, k56, n56⟩, -, X56, ⟨Lc56, hQ56, l56, y56, z56⟩, st56⟩ := X54.virtualBack hx (y := (⟨"com/example/tapline/emv/RecordNumber", "equals", "(Ljava/lang/Object;)Z"⟩ : MethodName)) (z := (⟨"com/example/tapline/emv/RecordNumber", "equals", "(Ljava/lang/Object;)Z"⟩ : MethodName)) hown (mvT hZ (hw _ (List.mem_of_getElem? (i := 25) rfl))) (mvT hZ (hw _ (List.mem_of_getElem? (i := 26) rfl))) (notFace_of_selects (args := #[]) (mvT hZ (hw _ (List.mem_of_getElem? (i := 28) rfl)))) (mvT hZ (hw _ (List.mem_of_getElem? (i := 28) rfl))) (mvT hZ (hw _ (List.mem_of_getElem? (i := 27) rfl))) (by decide) (backOf (W := 0) (rm5n l Z a0 hw [] a T48.heap n0 Sz48) hZ (hw _ (List.mem_of_getElem? (i := 29) rfl)) (hw _ (List.mem_of_getElem? (i := 2) rfl)) (by decide) (by decide)) q56a q56c (g := (mkF m 107 #[.val (.int p0), .val (.int p1), .val (.int p2), .val (.int p3), .val (.int p4), .val (.int (if (p4 &&& (1 : Int32)) = (0 : Int32) then p2 else p0 : Int32)), .val (.int (if (p4 &&& (2 : Int32)) = (0 : Int32) then p3 else p1 : Int32)), .val (.ref a), .val (.ref b), .val (.int (if p0 = (if (p4 &&& (1 : Int32)) = (0 : Int32) then p2 else p0 : Int32) then (if p1 = (if (p4 &&& (2 : Int32)) = (0 : Int32) then p3 else p1 : Int32) then (1 : Int32) else (0 : Int32)) else (0 : Int32) : Int32)), .val (.ref T23.heap.size), .val (.int (if p0 = (if (p4 &&& (1 : Int32)) = (0 : Int32) then p2 else p0 : Int32) then (if p1 = (if (p4 &&& (2 : Int32)) = (0 : Int32) then p3 else p1 : Int32) then (1 : Int32) else (0 : Int32)) else (0 : Int32))), .val (.int (if (if (p4 &&& (1 : Int32)) = (0 : Int32) then p2 else p0 : Int32) = p0 then (if (if (p4 &&& (2 : Int32)) = (0 : Int32) then p3 else p1 : Int32) = p1 then (1 : Int32) else (0 : Int32)) else (0 : Int32))), .val (.int (if p0 = p0 then (if p1 = p1 then (1 : Int32) else (0 : Int32)) else (0 : Int32))), .unset, .unset] [.null, (.ref a)])) rfl (by rw [hml]; rfl) (Steps.refl _) (argsL := [.null]) (rest := []) (lenOf pd_4 rfl) rfl (by show 2 * 0 + _ ≤ _; exact Nat.le_of_eq rfl) (hb hby at_107) (fun _ _ => ⟨rfl, e54, (by decide : 3 + 0 ≤ _), (by decide : 5 + 0 ≤ _)⟩)
      dsimp only [Pt.U, Pt.locs, Pt.cells, Pt.slots] at X56 l56 y56 z56 st56 hQ56
      subst l56 y56 z56
      obtain ⟨rfl, Nq56, eq56⟩ := hQ56
      have N56 := Fr.app N54 Nq56
      have e56 : T56.heap = T48.heap := eq56
      have R57 : ∀ t, Steps p.tables e below (T56.setTop (mkF m 116 #[.val (.int p0), .val (.int p1), .val (.int p2), .val (.int p3), .val (.int p4), .val (.int (if (p4 &&& (1 : Int32)) = (0 : Int32) then p2 else p0 : Int32)), .val (.int (if (p4 &&& (2 : Int32)) = (0 : Int32) then p3 else p1 : Int32)), .val (.ref a), .val (.ref b), .val (.int (if p0 = (if (p4 &&& (1 : Int32)) = (0 : Int32) then p2 else p0 : Int32) then (if p1 = (if (p4 &&& (2 : Int32)) = (0 : Int32) then p3 else p1 : Int32) then (1 : Int32) else (0 : Int32)) else (0 : Int32) : Int32)), .val (.ref T23.heap.size), .val (.int (if p0 = (if (p4 &&& (1 : Int32)) = (0 : Int32) then p2 else p0 : Int32) then (if p1 = (if (p4 &&& (2 : Int32)) = (0 : Int32) then p3 else p1 : Int32) then (1 : Int32) else (0 : Int32)) else (0 : Int32))), .val (.int (if (if (p4 &&& (1 : Int32)) = (0 : Int32) then p2 else p0 : Int32) = p0 then (if (if (p4 &&& (2 : Int32)) = (0 : Int32) then p3 else p1 : Int32) = p1 then (1 : Int32) else (0 : Int32)) else (0 : Int32))), .val (.int (if p0 = p0 then (if p1 = p1 then (1 : Int32) else (0 : Int32)) else (0 : Int32))), .val (.int (0 : Int32)), .unset] [(.ref T23.heap.size), (.ref a)])) t → Steps p.tables e below (s₁.setTop (entryFrame m #[(.int p0), (.int p1), (.int p2), (.int p3), (.int p4)] maxLocals)) t := by
        intro t k
        refine R55 t ?_
        show Steps p.tables e below (T54.setTop (mkF m 107 #[.val (.int p0), .val (.int p1), .val (.int p2), .val (.int p3), .val (.int p4), .val (.int (if (p4 &&& (1 : Int32)) = (0 : Int32) then p2 else p0 : Int32)), .val (.int (if (p4 &&& (2 : Int32)) = (0 : Int32) then p3 else p1 : Int32)), .val (.ref a), .val (.ref b), .val (.int (if p0 = (if (p4 &&& (1 : Int32)) = (0 : Int32) then p2 else p0 : Int32) then (if p1 = (if (p4 &&& (2 : Int32)) = (0 : Int32) then p3 else p1 : Int32) then (1 : Int32) else (0 : Int32)) else (0 : Int32) : Int32)), .val (.ref T23.heap.size), .val (.int (if p0 = (if (p4 &&& (1 : Int32)) = (0 : Int32) then p2 else p0 : Int32) then (if p1 = (if (p4 &&& (2 : Int32)) = (0 : Int32) then p3 else p1 : Int32) then (1 : Int32) else (0 : Int32)) else (0 : Int32))), .val (.int (if (if (p4 &&& (1 : Int32)) = (0 : Int32) then p2 else p0 : Int32) = p0 then (if (if (p4 &&& (2 : Int32)) = (0 : Int32) then p3 else p1 : Int32) = p1 then (1 : Int32) else (0 : Int32)) else (0 : Int32))), .val (.int (if p0 = p0 then (if p1 = p1 then (1 : Int32) else (0 : Int32)) else (0 : Int32))), .unset, .unset] [.null, (.ref a)])) _
        refine st56.trans ?_
        show Steps p.tables e below (T56.setTop (mkF m 110 #[.val (.int p0), .val (.int p1), .val (.int p2), .val (.int p3), .val (.int p4), .val (.int (if (p4 &&& (1 : Int32)) = (0 : Int32) then p2 else p0 : Int32)), .val (.int (if (p4 &&& (2 : Int32)) = (0 : Int32) then p3 else p1 : Int32)), .val (.ref a), .val (.ref b), .val (.int (if p0 = (if (p4 &&& (1 : Int32)) = (0 : Int32) then p2 else p0 : Int32) then (if p1 = (if (p4 &&& (2 : Int32)) = (0 : Int32) then p3 else p1 : Int32) then (1 : Int32) else (0 : Int32)) else (0 : Int32) : Int32)), .val (.ref T23.heap.size), .val (.int (if p0 = (if (p4 &&& (1 : Int32)) = (0 : Int32) then p2 else p0 : Int32) then (if p1 = (if (p4 &&& (2 : Int32)) = (0 : Int32) then p3 else p1 : Int32) then (1 : Int32) else (0 : Int32)) else (0 : Int32))), .val (.int (if (if (p4 &&& (1 : Int32)) = (0 : Int32) then p2 else p0 : Int32) = p0 then (if (if (p4 &&& (2 : Int32)) = (0 : Int32) then p3 else p1 : Int32) = p1 then (1 : Int32) else (0 : Int32)) else (0 : Int32))), .val (.int (if p0 = p0 then (if p1 = p1 then (1 : Int32) else (0 : Int32)) else (0 : Int32))), .unset, .unset] [(.int (0 : Int32))])) _
        refine XS.istore X56.here hx rfl (hb hby at_110) rfl (l' := #[.val (.int p0), .val (.int p1), .val (.int p2), .val (.int p3), .val (.int p4), .val (.int (if (p4 &&& (1 : Int32)) = (0 : Int32) then p2 else p0 : Int32)), .val (.int (if (p4 &&& (2 : Int32)) = (0 : Int32) then p3 else p1 : Int32)), .val (.ref a), .val (.ref b), .val (.int (if p0 = (if (p4 &&& (1 : Int32)) = (0 : Int32) then p2 else p0 : Int32) then (if p1 = (if (p4 &&& (2 : Int32)) = (0 : Int32) then p3 else p1 : Int32) then (1 : Int32) else (0 : Int32)) else (0 : Int32) : Int32)), .val (.ref T23.heap.size), .val (.int (if p0 = (if (p4 &&& (1 : Int32)) = (0 : Int32) then p2 else p0 : Int32) then (if p1 = (if (p4 &&& (2 : Int32)) = (0 : Int32) then p3 else p1 : Int32) then (1 : Int32) else (0 : Int32)) else (0 : Int32))), .val (.int (if (if (p4 &&& (1 : Int32)) = (0 : Int32) then p2 else p0 : Int32) = p0 then (if (if (p4 &&& (2 : Int32)) = (0 : Int32) then p3 else p1 : Int32) = p1 then (1 : Int32) else (0 : Int32)) else (0 : Int32))), .val (.int (if p0 = p0 then (if p1 = p1 then (1 : Int32) else (0 : Int32)) else (0 : Int32))), .val (.int (0 : Int32)), .unset]) rfl ?_
        show Steps p.tables e below (T56.setTop (mkF m 112 #[.val (.int p0), .val (.int p1), .val (.int p2), .val (.int p3), .val (.int p4), .val (.int (if (p4 &&& (1 : Int32)) = (0 : Int32) then p2 else p0 : Int32)), .val (.int (if (p4 &&& (2 : Int32)) = (0 : Int32) then p3 else p1 : Int32)), .val (.ref a), .val (.ref b), .val (.int (if p0 = (if (p4 &&& (1 : Int32)) = (0 : Int32) then p2 else p0 : Int32) then (if p1 = (if (p4 &&& (2 : Int32)) = (0 : Int32) then p3 else p1 : Int32) then (1 : Int32) else (0 : Int32)) else (0 : Int32) : Int32)), .val (.ref T23.heap.size), .val (.int (if p0 = (if (p4 &&& (1 : Int32)) = (0 : Int32) then p2 else p0 : Int32) then (if p1 = (if (p4 &&& (2 : Int32)) = (0 : Int32) then p3 else p1 : Int32) then (1 : Int32) else (0 : Int32)) else (0 : Int32))), .val (.int (if (if (p4 &&& (1 : Int32)) = (0 : Int32) then p2 else p0 : Int32) = p0 then (if (if (p4 &&& (2 : Int32)) = (0 : Int32) then p3 else p1 : Int32) = p1 then (1 : Int32) else (0 : Int32)) else (0 : Int32))), .val (.int (if p0 = p0 then (if p1 = p1 then (1 : Int32) else (0 : Int32)) else (0 : Int32))), .val (.int (0 : Int32)), .unset] [])) _
        refine XS.aload X56.here hx rfl (hb hby at_112) rfl rfl ?_
        show Steps p.tables e below (T56.setTop (mkF m 114 #[.val (.int p0), .val (.int p1), .val (.int p2), .val (.int p3), .val (.int p4), .val (.int (if (p4 &&& (1 : Int32)) = (0 : Int32) then p2 else p0 : Int32)), .val (.int (if (p4 &&& (2 : Int32)) = (0 : Int32) then p3 else p1 : Int32)), .val (.ref a), .val (.ref b), .val (.int (if p0 = (if (p4 &&& (1 : Int32)) = (0 : Int32) then p2 else p0 : Int32) then (if p1 = (if (p4 &&& (2 : Int32)) = (0 : Int32) then p3 else p1 : Int32) then (1 : Int32) else (0 : Int32)) else (0 : Int32) : Int32)), .val (.ref T23.heap.size), .val (.int (if p0 = (if (p4 &&& (1 : Int32)) = (0 : Int32) then p2 else p0 : Int32) then (if p1 = (if (p4 &&& (2 : Int32)) = (0 : Int32) then p3 else p1 : Int32) then (1 : Int32) else (0 : Int32)) else (0 : Int32))), .val (.int (if (if (p4 &&& (1 : Int32)) = (0 : Int32) then p2 else p0 : Int32) = p0 then (if (if (p4 &&& (2 : Int32)) = (0 : Int32) then p3 else p1 : Int32) = p1 then (1 : Int32) else (0 : Int32)) else (0 : Int32))), .val (.int (if p0 = p0 then (if p1 = p1 then (1 : Int32) else (0 : Int32)) else (0 : Int32))), .val (.int (0 : Int32)), .unset] [(.ref a)])) _
        refine XS.aload X56.here hx rfl (hb hby at_114) rfl rfl ?_
        exact k
      obtain ⟨cq58, kq58, q58a, q58b, q58c⟩ := isOf hZ e56 E_a
      obtain ⟨_, _, ⟨T58, L58, k58, n58⟩, -, X58, ⟨Lc58, hQ58, l58, y58, z58⟩, st58⟩ := X56.virtualBack hx (y := (⟨"com/example/tapline/emv/RecordNumber", "equals", "(Ljava/lang/Object;)Z"⟩ : MethodName)) (z := (⟨"com/example/tapline/emv/RecordNumber", "equals", "(Ljava/lang/Object;)Z"⟩ : MethodName)) hown (mvT hZ (hw _ (List.mem_of_getElem? (i := 25) rfl))) (mvT hZ (hw _ (List.mem_of_getElem? (i := 26) rfl))) (notFace_of_selects (args := #[]) (mvT hZ (hw _ (List.mem_of_getElem? (i := 28) rfl)))) (mvT hZ (hw _ (List.mem_of_getElem? (i := 28) rfl))) (mvT hZ (hw _ (List.mem_of_getElem? (i := 27) rfl))) (by decide) (backOf (W := 0) (rm5i l Z a0 hw [] a T23.heap.size T48.heap n0 Sz48 E_r) hZ (hw _ (List.mem_of_getElem? (i := 29) rfl)) (hw _ (List.mem_of_getElem? (i := 2) rfl)) (by decide) (by decide)) q58a q58c (g := (mkF m 116 #[.val (.int p0), .val (.int p1), .val (.int p2), .val (.int p3), .val (.int p4), .val (.int (if (p4 &&& (1 : Int32)) = (0 : Int32) then p2 else p0 : Int32)), .val (.int (if (p4 &&& (2 : Int32)) = (0 : Int32) then p3 else p1 : Int32)), .val (.ref a), .val (.ref b), .val (.int (if p0 = (if (p4 &&& (1 : Int32)) = (0 : Int32) then p2 else p0 : Int32) then (if p1 = (if (p4 &&& (2 : Int32)) = (0 : Int32) then p3 else p1 : Int32) then (1 : Int32) else (0 : Int32)) else (0 : Int32) : Int32)), .val (.ref T23.heap.size), .val (.int (if p0 = (if (p4 &&& (1 : Int32)) = (0 : Int32) then p2 else p0 : Int32) then (if p1 = (if (p4 &&& (2 : Int32)) = (0 : Int32) then p3 else p1 : Int32) then (1 : Int32) else (0 : Int32)) else (0 : Int32))), .val (.int (if (if (p4 &&& (1 : Int32)) = (0 : Int32) then p2 else p0 : Int32) = p0 then (if (if (p4 &&& (2 : Int32)) = (0 : Int32) then p3 else p1 : Int32) = p1 then (1 : Int32) else (0 : Int32)) else (0 : Int32))), .val (.int (if p0 = p0 then (if p1 = p1 then (1 : Int32) else (0 : Int32)) else (0 : Int32))), .val (.int (0 : Int32)), .unset] [(.ref T23.heap.size), (.ref a)])) rfl (by rw [hml]; rfl) (Steps.refl _) (argsL := [(.ref T23.heap.size)]) (rest := []) (lenOf pd_4 rfl) rfl (by show 2 * 0 + _ ≤ _; exact Nat.le_of_eq rfl) (hb hby at_116) (fun _ _ => ⟨rfl, e56, (by decide : 3 + 0 ≤ _), (by decide : 5 + 0 ≤ _)⟩)
      dsimp only [Pt.U, Pt.locs, Pt.cells, Pt.slots] at X58 l58 y58 z58 st58 hQ58
      subst l58 y58 z58
      obtain ⟨rfl, Nq58, eq58⟩ := hQ58
      have N58 := Fr.app N56 Nq58
      have e58 : T58.heap = T48.heap := eq58
      have R59 : ∀ t, Steps p.tables e below (T58.setTop (mkF m 155 #[.val (.int p0), .val (.int p1), .val (.int p2), .val (.int p3), .val (.int p4), .val (.int (if (p4 &&& (1 : Int32)) = (0 : Int32) then p2 else p0 : Int32)), .val (.int (if (p4 &&& (2 : Int32)) = (0 : Int32) then p3 else p1 : Int32)), .val (.ref a), .val (.ref b), .val (.int (if p0 = (if (p4 &&& (1 : Int32)) = (0 : Int32) then p2 else p0 : Int32) then (if p1 = (if (p4 &&& (2 : Int32)) = (0 : Int32) then p3 else p1 : Int32) then (1 : Int32) else (0 : Int32)) else (0 : Int32) : Int32)), .val (.ref T23.heap.size), .val (.int (if p0 = (if (p4 &&& (1 : Int32)) = (0 : Int32) then p2 else p0 : Int32) then (if p1 = (if (p4 &&& (2 : Int32)) = (0 : Int32) then p3 else p1 : Int32) then (1 : Int32) else (0 : Int32)) else (0 : Int32))), .val (.int (if (if (p4 &&& (1 : Int32)) = (0 : Int32) then p2 else p0 : Int32) = p0 then (if (if (p4 &&& (2 : Int32)) = (0 : Int32) then p3 else p1 : Int32) = p1 then (1 : Int32) else (0 : Int32)) else (0 : Int32))), .val (.int (if p0 = p0 then (if p1 = p1 then (1 : Int32) else (0 : Int32)) else (0 : Int32))), .val (.int (0 : Int32)), .val (.int (0 : Int32))] [(.int (1 : Int32))])) t → Steps p.tables e below (s₁.setTop (entryFrame m #[(.int p0), (.int p1), (.int p2), (.int p3), (.int p4)] maxLocals)) t := by
        intro t k
        refine R57 t ?_
        show Steps p.tables e below (T56.setTop (mkF m 116 #[.val (.int p0), .val (.int p1), .val (.int p2), .val (.int p3), .val (.int p4), .val (.int (if (p4 &&& (1 : Int32)) = (0 : Int32) then p2 else p0 : Int32)), .val (.int (if (p4 &&& (2 : Int32)) = (0 : Int32) then p3 else p1 : Int32)), .val (.ref a), .val (.ref b), .val (.int (if p0 = (if (p4 &&& (1 : Int32)) = (0 : Int32) then p2 else p0 : Int32) then (if p1 = (if (p4 &&& (2 : Int32)) = (0 : Int32) then p3 else p1 : Int32) then (1 : Int32) else (0 : Int32)) else (0 : Int32) : Int32)), .val (.ref T23.heap.size), .val (.int (if p0 = (if (p4 &&& (1 : Int32)) = (0 : Int32) then p2 else p0 : Int32) then (if p1 = (if (p4 &&& (2 : Int32)) = (0 : Int32) then p3 else p1 : Int32) then (1 : Int32) else (0 : Int32)) else (0 : Int32))), .val (.int (if (if (p4 &&& (1 : Int32)) = (0 : Int32) then p2 else p0 : Int32) = p0 then (if (if (p4 &&& (2 : Int32)) = (0 : Int32) then p3 else p1 : Int32) = p1 then (1 : Int32) else (0 : Int32)) else (0 : Int32))), .val (.int (if p0 = p0 then (if p1 = p1 then (1 : Int32) else (0 : Int32)) else (0 : Int32))), .val (.int (0 : Int32)), .unset] [(.ref T23.heap.size), (.ref a)])) _
        refine st58.trans ?_
        show Steps p.tables e below (T58.setTop (mkF m 119 #[.val (.int p0), .val (.int p1), .val (.int p2), .val (.int p3), .val (.int p4), .val (.int (if (p4 &&& (1 : Int32)) = (0 : Int32) then p2 else p0 : Int32)), .val (.int (if (p4 &&& (2 : Int32)) = (0 : Int32) then p3 else p1 : Int32)), .val (.ref a), .val (.ref b), .val (.int (if p0 = (if (p4 &&& (1 : Int32)) = (0 : Int32) then p2 else p0 : Int32) then (if p1 = (if (p4 &&& (2 : Int32)) = (0 : Int32) then p3 else p1 : Int32) then (1 : Int32) else (0 : Int32)) else (0 : Int32) : Int32)), .val (.ref T23.heap.size), .val (.int (if p0 = (if (p4 &&& (1 : Int32)) = (0 : Int32) then p2 else p0 : Int32) then (if p1 = (if (p4 &&& (2 : Int32)) = (0 : Int32) then p3 else p1 : Int32) then (1 : Int32) else (0 : Int32)) else (0 : Int32))), .val (.int (if (if (p4 &&& (1 : Int32)) = (0 : Int32) then p2 else p0 : Int32) = p0 then (if (if (p4 &&& (2 : Int32)) = (0 : Int32) then p3 else p1 : Int32) = p1 then (1 : Int32) else (0 : Int32)) else (0 : Int32))), .val (.int (if p0 = p0 then (if p1 = p1 then (1 : Int32) else (0 : Int32)) else (0 : Int32))), .val (.int (0 : Int32)), .unset] [(.int (0 : Int32))])) _
        refine XS.istore X58.here hx rfl (hb hby at_119) rfl (l' := #[.val (.int p0), .val (.int p1), .val (.int p2), .val (.int p3), .val (.int p4), .val (.int (if (p4 &&& (1 : Int32)) = (0 : Int32) then p2 else p0 : Int32)), .val (.int (if (p4 &&& (2 : Int32)) = (0 : Int32) then p3 else p1 : Int32)), .val (.ref a), .val (.ref b), .val (.int (if p0 = (if (p4 &&& (1 : Int32)) = (0 : Int32) then p2 else p0 : Int32) then (if p1 = (if (p4 &&& (2 : Int32)) = (0 : Int32) then p3 else p1 : Int32) then (1 : Int32) else (0 : Int32)) else (0 : Int32) : Int32)), .val (.ref T23.heap.size), .val (.int (if p0 = (if (p4 &&& (1 : Int32)) = (0 : Int32) then p2 else p0 : Int32) then (if p1 = (if (p4 &&& (2 : Int32)) = (0 : Int32) then p3 else p1 : Int32) then (1 : Int32) else (0 : Int32)) else (0 : Int32))), .val (.int (if (if (p4 &&& (1 : Int32)) = (0 : Int32) then p2 else p0 : Int32) = p0 then (if (if (p4 &&& (2 : Int32)) = (0 : Int32) then p3 else p1 : Int32) = p1 then (1 : Int32) else (0 : Int32)) else (0 : Int32))), .val (.int (if p0 = p0 then (if p1 = p1 then (1 : Int32) else (0 : Int32)) else (0 : Int32))), .val (.int (0 : Int32)), .val (.int (0 : Int32))]) rfl ?_
        show Steps p.tables e below (T58.setTop (mkF m 121 #[.val (.int p0), .val (.int p1), .val (.int p2), .val (.int p3), .val (.int p4), .val (.int (if (p4 &&& (1 : Int32)) = (0 : Int32) then p2 else p0 : Int32)), .val (.int (if (p4 &&& (2 : Int32)) = (0 : Int32) then p3 else p1 : Int32)), .val (.ref a), .val (.ref b), .val (.int (if p0 = (if (p4 &&& (1 : Int32)) = (0 : Int32) then p2 else p0 : Int32) then (if p1 = (if (p4 &&& (2 : Int32)) = (0 : Int32) then p3 else p1 : Int32) then (1 : Int32) else (0 : Int32)) else (0 : Int32) : Int32)), .val (.ref T23.heap.size), .val (.int (if p0 = (if (p4 &&& (1 : Int32)) = (0 : Int32) then p2 else p0 : Int32) then (if p1 = (if (p4 &&& (2 : Int32)) = (0 : Int32) then p3 else p1 : Int32) then (1 : Int32) else (0 : Int32)) else (0 : Int32))), .val (.int (if (if (p4 &&& (1 : Int32)) = (0 : Int32) then p2 else p0 : Int32) = p0 then (if (if (p4 &&& (2 : Int32)) = (0 : Int32) then p3 else p1 : Int32) = p1 then (1 : Int32) else (0 : Int32)) else (0 : Int32))), .val (.int (if p0 = p0 then (if p1 = p1 then (1 : Int32) else (0 : Int32)) else (0 : Int32))), .val (.int (0 : Int32)), .val (.int (0 : Int32))] [])) _
        refine XS.iload X58.here hx rfl (hb hby at_121) rfl ?_
        show Steps p.tables e below (T58.setTop (mkF m 123 #[.val (.int p0), .val (.int p1), .val (.int p2), .val (.int p3), .val (.int p4), .val (.int (if (p4 &&& (1 : Int32)) = (0 : Int32) then p2 else p0 : Int32)), .val (.int (if (p4 &&& (2 : Int32)) = (0 : Int32) then p3 else p1 : Int32)), .val (.ref a), .val (.ref b), .val (.int (if p0 = (if (p4 &&& (1 : Int32)) = (0 : Int32) then p2 else p0 : Int32) then (if p1 = (if (p4 &&& (2 : Int32)) = (0 : Int32) then p3 else p1 : Int32) then (1 : Int32) else (0 : Int32)) else (0 : Int32) : Int32)), .val (.ref T23.heap.size), .val (.int (if p0 = (if (p4 &&& (1 : Int32)) = (0 : Int32) then p2 else p0 : Int32) then (if p1 = (if (p4 &&& (2 : Int32)) = (0 : Int32) then p3 else p1 : Int32) then (1 : Int32) else (0 : Int32)) else (0 : Int32))), .val (.int (if (if (p4 &&& (1 : Int32)) = (0 : Int32) then p2 else p0 : Int32) = p0 then (if (if (p4 &&& (2 : Int32)) = (0 : Int32) then p3 else p1 : Int32) = p1 then (1 : Int32) else (0 : Int32)) else (0 : Int32))), .val (.int (if p0 = p0 then (if p1 = p1 then (1 : Int32) else (0 : Int32)) else (0 : Int32))), .val (.int (0 : Int32)), .val (.int (0 : Int32))] [(.int (if p0 = (if (p4 &&& (1 : Int32)) = (0 : Int32) then p2 else p0 : Int32) then (if p1 = (if (p4 &&& (2 : Int32)) = (0 : Int32) then p3 else p1 : Int32) then (1 : Int32) else (0 : Int32)) else (0 : Int32)))])) _
        refine XS.iload X58.here hx rfl (hb hby at_123) rfl ?_
        show Steps p.tables e below (T58.setTop (mkF m 125 #[.val (.int p0), .val (.int p1), .val (.int p2), .val (.int p3), .val (.int p4), .val (.int (if (p4 &&& (1 : Int32)) = (0 : Int32) then p2 else p0 : Int32)), .val (.int (if (p4 &&& (2 : Int32)) = (0 : Int32) then p3 else p1 : Int32)), .val (.ref a), .val (.ref b), .val (.int (if p0 = (if (p4 &&& (1 : Int32)) = (0 : Int32) then p2 else p0 : Int32) then (if p1 = (if (p4 &&& (2 : Int32)) = (0 : Int32) then p3 else p1 : Int32) then (1 : Int32) else (0 : Int32)) else (0 : Int32) : Int32)), .val (.ref T23.heap.size), .val (.int (if p0 = (if (p4 &&& (1 : Int32)) = (0 : Int32) then p2 else p0 : Int32) then (if p1 = (if (p4 &&& (2 : Int32)) = (0 : Int32) then p3 else p1 : Int32) then (1 : Int32) else (0 : Int32)) else (0 : Int32))), .val (.int (if (if (p4 &&& (1 : Int32)) = (0 : Int32) then p2 else p0 : Int32) = p0 then (if (if (p4 &&& (2 : Int32)) = (0 : Int32) then p3 else p1 : Int32) = p1 then (1 : Int32) else (0 : Int32)) else (0 : Int32))), .val (.int (if p0 = p0 then (if p1 = p1 then (1 : Int32) else (0 : Int32)) else (0 : Int32))), .val (.int (0 : Int32)), .val (.int (0 : Int32))] [(.int (if p0 = (if (p4 &&& (1 : Int32)) = (0 : Int32) then p2 else p0 : Int32) then (if p1 = (if (p4 &&& (2 : Int32)) = (0 : Int32) then p3 else p1 : Int32) then (1 : Int32) else (0 : Int32)) else (0 : Int32) : Int32)), (.int (if p0 = (if (p4 &&& (1 : Int32)) = (0 : Int32) then p2 else p0 : Int32) then (if p1 = (if (p4 &&& (2 : Int32)) = (0 : Int32) then p3 else p1 : Int32) then (1 : Int32) else (0 : Int32)) else (0 : Int32)))])) _
        refine XS.icmpNo X58.here hx rfl (hb hby at_125) rfl (teq (rfl : (if p0 = (if (p4 &&& (1 : Int32)) = (0 : Int32) then p2 else p0 : Int32) then (if p1 = (if (p4 &&& (2 : Int32)) = (0 : Int32) then p3 else p1 : Int32) then (1 : Int32) else (0 : Int32)) else (0 : Int32) : Int32) = (if p0 = (if (p4 &&& (1 : Int32)) = (0 : Int32) then p2 else p0 : Int32) then (if p1 = (if (p4 &&& (2 : Int32)) = (0 : Int32) then p3 else p1 : Int32) then (1 : Int32) else (0 : Int32)) else (0 : Int32) : Int32))).2 ?_
        show Steps p.tables e below (T58.setTop (mkF m 128 #[.val (.int p0), .val (.int p1), .val (.int p2), .val (.int p3), .val (.int p4), .val (.int (if (p4 &&& (1 : Int32)) = (0 : Int32) then p2 else p0 : Int32)), .val (.int (if (p4 &&& (2 : Int32)) = (0 : Int32) then p3 else p1 : Int32)), .val (.ref a), .val (.ref b), .val (.int (if p0 = (if (p4 &&& (1 : Int32)) = (0 : Int32) then p2 else p0 : Int32) then (if p1 = (if (p4 &&& (2 : Int32)) = (0 : Int32) then p3 else p1 : Int32) then (1 : Int32) else (0 : Int32)) else (0 : Int32) : Int32)), .val (.ref T23.heap.size), .val (.int (if p0 = (if (p4 &&& (1 : Int32)) = (0 : Int32) then p2 else p0 : Int32) then (if p1 = (if (p4 &&& (2 : Int32)) = (0 : Int32) then p3 else p1 : Int32) then (1 : Int32) else (0 : Int32)) else (0 : Int32))), .val (.int (if (if (p4 &&& (1 : Int32)) = (0 : Int32) then p2 else p0 : Int32) = p0 then (if (if (p4 &&& (2 : Int32)) = (0 : Int32) then p3 else p1 : Int32) = p1 then (1 : Int32) else (0 : Int32)) else (0 : Int32))), .val (.int (if p0 = p0 then (if p1 = p1 then (1 : Int32) else (0 : Int32)) else (0 : Int32))), .val (.int (0 : Int32)), .val (.int (0 : Int32))] [])) _
        refine XS.iload X58.here hx rfl (hb hby at_128) rfl ?_
        show Steps p.tables e below (T58.setTop (mkF m 130 #[.val (.int p0), .val (.int p1), .val (.int p2), .val (.int p3), .val (.int p4), .val (.int (if (p4 &&& (1 : Int32)) = (0 : Int32) then p2 else p0 : Int32)), .val (.int (if (p4 &&& (2 : Int32)) = (0 : Int32) then p3 else p1 : Int32)), .val (.ref a), .val (.ref b), .val (.int (if p0 = (if (p4 &&& (1 : Int32)) = (0 : Int32) then p2 else p0 : Int32) then (if p1 = (if (p4 &&& (2 : Int32)) = (0 : Int32) then p3 else p1 : Int32) then (1 : Int32) else (0 : Int32)) else (0 : Int32) : Int32)), .val (.ref T23.heap.size), .val (.int (if p0 = (if (p4 &&& (1 : Int32)) = (0 : Int32) then p2 else p0 : Int32) then (if p1 = (if (p4 &&& (2 : Int32)) = (0 : Int32) then p3 else p1 : Int32) then (1 : Int32) else (0 : Int32)) else (0 : Int32))), .val (.int (if (if (p4 &&& (1 : Int32)) = (0 : Int32) then p2 else p0 : Int32) = p0 then (if (if (p4 &&& (2 : Int32)) = (0 : Int32) then p3 else p1 : Int32) = p1 then (1 : Int32) else (0 : Int32)) else (0 : Int32))), .val (.int (if p0 = p0 then (if p1 = p1 then (1 : Int32) else (0 : Int32)) else (0 : Int32))), .val (.int (0 : Int32)), .val (.int (0 : Int32))] [(.int (if (if (p4 &&& (1 : Int32)) = (0 : Int32) then p2 else p0 : Int32) = p0 then (if (if (p4 &&& (2 : Int32)) = (0 : Int32) then p3 else p1 : Int32) = p1 then (1 : Int32) else (0 : Int32)) else (0 : Int32)))])) _
        refine XS.iload X58.here hx rfl (hb hby at_130) rfl ?_
        show Steps p.tables e below (T58.setTop (mkF m 132 #[.val (.int p0), .val (.int p1), .val (.int p2), .val (.int p3), .val (.int p4), .val (.int (if (p4 &&& (1 : Int32)) = (0 : Int32) then p2 else p0 : Int32)), .val (.int (if (p4 &&& (2 : Int32)) = (0 : Int32) then p3 else p1 : Int32)), .val (.ref a), .val (.ref b), .val (.int (if p0 = (if (p4 &&& (1 : Int32)) = (0 : Int32) then p2 else p0 : Int32) then (if p1 = (if (p4 &&& (2 : Int32)) = (0 : Int32) then p3 else p1 : Int32) then (1 : Int32) else (0 : Int32)) else (0 : Int32) : Int32)), .val (.ref T23.heap.size), .val (.int (if p0 = (if (p4 &&& (1 : Int32)) = (0 : Int32) then p2 else p0 : Int32) then (if p1 = (if (p4 &&& (2 : Int32)) = (0 : Int32) then p3 else p1 : Int32) then (1 : Int32) else (0 : Int32)) else (0 : Int32))), .val (.int (if (if (p4 &&& (1 : Int32)) = (0 : Int32) then p2 else p0 : Int32) = p0 then (if (if (p4 &&& (2 : Int32)) = (0 : Int32) then p3 else p1 : Int32) = p1 then (1 : Int32) else (0 : Int32)) else (0 : Int32))), .val (.int (if p0 = p0 then (if p1 = p1 then (1 : Int32) else (0 : Int32)) else (0 : Int32))), .val (.int (0 : Int32)), .val (.int (0 : Int32))] [(.int (if p0 = (if (p4 &&& (1 : Int32)) = (0 : Int32) then p2 else p0 : Int32) then (if p1 = (if (p4 &&& (2 : Int32)) = (0 : Int32) then p3 else p1 : Int32) then (1 : Int32) else (0 : Int32)) else (0 : Int32) : Int32)), (.int (if (if (p4 &&& (1 : Int32)) = (0 : Int32) then p2 else p0 : Int32) = p0 then (if (if (p4 &&& (2 : Int32)) = (0 : Int32) then p3 else p1 : Int32) = p1 then (1 : Int32) else (0 : Int32)) else (0 : Int32)))])) _
        refine XS.icmpNo X58.here hx rfl (hb hby at_132) rfl (teq (own_sw p0 (if (p4 &&& (1 : Int32)) = (0 : Int32) then p2 else p0 : Int32) p1 (if (p4 &&& (2 : Int32)) = (0 : Int32) then p3 else p1 : Int32))).2 ?_
        show Steps p.tables e below (T58.setTop (mkF m 135 #[.val (.int p0), .val (.int p1), .val (.int p2), .val (.int p3), .val (.int p4), .val (.int (if (p4 &&& (1 : Int32)) = (0 : Int32) then p2 else p0 : Int32)), .val (.int (if (p4 &&& (2 : Int32)) = (0 : Int32) then p3 else p1 : Int32)), .val (.ref a), .val (.ref b), .val (.int (if p0 = (if (p4 &&& (1 : Int32)) = (0 : Int32) then p2 else p0 : Int32) then (if p1 = (if (p4 &&& (2 : Int32)) = (0 : Int32) then p3 else p1 : Int32) then (1 : Int32) else (0 : Int32)) else (0 : Int32) : Int32)), .val (.ref T23.heap.size), .val (.int (if p0 = (if (p4 &&& (1 : Int32)) = (0 : Int32) then p2 else p0 : Int32) then (if p1 = (if (p4 &&& (2 : Int32)) = (0 : Int32) then p3 else p1 : Int32) then (1 : Int32) else (0 : Int32)) else (0 : Int32))), .val (.int (if (if (p4 &&& (1 : Int32)) = (0 : Int32) then p2 else p0 : Int32) = p0 then (if (if (p4 &&& (2 : Int32)) = (0 : Int32) then p3 else p1 : Int32) = p1 then (1 : Int32) else (0 : Int32)) else (0 : Int32))), .val (.int (if p0 = p0 then (if p1 = p1 then (1 : Int32) else (0 : Int32)) else (0 : Int32))), .val (.int (0 : Int32)), .val (.int (0 : Int32))] [])) _
        refine XS.iload X58.here hx rfl (hb hby at_135) rfl ?_
        show Steps p.tables e below (T58.setTop (mkF m 137 #[.val (.int p0), .val (.int p1), .val (.int p2), .val (.int p3), .val (.int p4), .val (.int (if (p4 &&& (1 : Int32)) = (0 : Int32) then p2 else p0 : Int32)), .val (.int (if (p4 &&& (2 : Int32)) = (0 : Int32) then p3 else p1 : Int32)), .val (.ref a), .val (.ref b), .val (.int (if p0 = (if (p4 &&& (1 : Int32)) = (0 : Int32) then p2 else p0 : Int32) then (if p1 = (if (p4 &&& (2 : Int32)) = (0 : Int32) then p3 else p1 : Int32) then (1 : Int32) else (0 : Int32)) else (0 : Int32) : Int32)), .val (.ref T23.heap.size), .val (.int (if p0 = (if (p4 &&& (1 : Int32)) = (0 : Int32) then p2 else p0 : Int32) then (if p1 = (if (p4 &&& (2 : Int32)) = (0 : Int32) then p3 else p1 : Int32) then (1 : Int32) else (0 : Int32)) else (0 : Int32))), .val (.int (if (if (p4 &&& (1 : Int32)) = (0 : Int32) then p2 else p0 : Int32) = p0 then (if (if (p4 &&& (2 : Int32)) = (0 : Int32) then p3 else p1 : Int32) = p1 then (1 : Int32) else (0 : Int32)) else (0 : Int32))), .val (.int (if p0 = p0 then (if p1 = p1 then (1 : Int32) else (0 : Int32)) else (0 : Int32))), .val (.int (0 : Int32)), .val (.int (0 : Int32))] [(.int (if p0 = p0 then (if p1 = p1 then (1 : Int32) else (0 : Int32)) else (0 : Int32)))])) _
        refine XS.ifNo X58.here hx rfl (hb hby at_137) rfl ((if0 _ _).trans (feq (by simp)).1) ?_
        show Steps p.tables e below (T58.setTop (mkF m 140 #[.val (.int p0), .val (.int p1), .val (.int p2), .val (.int p3), .val (.int p4), .val (.int (if (p4 &&& (1 : Int32)) = (0 : Int32) then p2 else p0 : Int32)), .val (.int (if (p4 &&& (2 : Int32)) = (0 : Int32) then p3 else p1 : Int32)), .val (.ref a), .val (.ref b), .val (.int (if p0 = (if (p4 &&& (1 : Int32)) = (0 : Int32) then p2 else p0 : Int32) then (if p1 = (if (p4 &&& (2 : Int32)) = (0 : Int32) then p3 else p1 : Int32) then (1 : Int32) else (0 : Int32)) else (0 : Int32) : Int32)), .val (.ref T23.heap.size), .val (.int (if p0 = (if (p4 &&& (1 : Int32)) = (0 : Int32) then p2 else p0 : Int32) then (if p1 = (if (p4 &&& (2 : Int32)) = (0 : Int32) then p3 else p1 : Int32) then (1 : Int32) else (0 : Int32)) else (0 : Int32))), .val (.int (if (if (p4 &&& (1 : Int32)) = (0 : Int32) then p2 else p0 : Int32) = p0 then (if (if (p4 &&& (2 : Int32)) = (0 : Int32) then p3 else p1 : Int32) = p1 then (1 : Int32) else (0 : Int32)) else (0 : Int32))), .val (.int (if p0 = p0 then (if p1 = p1 then (1 : Int32) else (0 : Int32)) else (0 : Int32))), .val (.int (0 : Int32)), .val (.int (0 : Int32))] [])) _
        refine XS.iload X58.here hx rfl (hb hby at_140) rfl ?_
        show Steps p.tables e below (T58.setTop (mkF m 142 #[.val (.int p0), .val (.int p1), .val (.int p2), .val (.int p3), .val (.int p4), .val (.int (if (p4 &&& (1 : Int32)) = (0 : Int32) then p2 else p0 : Int32)), .val (.int (if (p4 &&& (2 : Int32)) = (0 : Int32) then p3 else p1 : Int32)), .val (.ref a), .val (.ref b), .val (.int (if p0 = (if (p4 &&& (1 : Int32)) = (0 : Int32) then p2 else p0 : Int32) then (if p1 = (if (p4 &&& (2 : Int32)) = (0 : Int32) then p3 else p1 : Int32) then (1 : Int32) else (0 : Int32)) else (0 : Int32) : Int32)), .val (.ref T23.heap.size), .val (.int (if p0 = (if (p4 &&& (1 : Int32)) = (0 : Int32) then p2 else p0 : Int32) then (if p1 = (if (p4 &&& (2 : Int32)) = (0 : Int32) then p3 else p1 : Int32) then (1 : Int32) else (0 : Int32)) else (0 : Int32))), .val (.int (if (if (p4 &&& (1 : Int32)) = (0 : Int32) then p2 else p0 : Int32) = p0 then (if (if (p4 &&& (2 : Int32)) = (0 : Int32) then p3 else p1 : Int32) = p1 then (1 : Int32) else (0 : Int32)) else (0 : Int32))), .val (.int (if p0 = p0 then (if p1 = p1 then (1 : Int32) else (0 : Int32)) else (0 : Int32))), .val (.int (0 : Int32)), .val (.int (0 : Int32))] [(.int (0 : Int32))])) _
        refine XS.ifNo X58.here hx rfl (hb hby at_142) rfl ((if0 _ _).trans (teq (by decide)).2) ?_
        show Steps p.tables e below (T58.setTop (mkF m 145 #[.val (.int p0), .val (.int p1), .val (.int p2), .val (.int p3), .val (.int p4), .val (.int (if (p4 &&& (1 : Int32)) = (0 : Int32) then p2 else p0 : Int32)), .val (.int (if (p4 &&& (2 : Int32)) = (0 : Int32) then p3 else p1 : Int32)), .val (.ref a), .val (.ref b), .val (.int (if p0 = (if (p4 &&& (1 : Int32)) = (0 : Int32) then p2 else p0 : Int32) then (if p1 = (if (p4 &&& (2 : Int32)) = (0 : Int32) then p3 else p1 : Int32) then (1 : Int32) else (0 : Int32)) else (0 : Int32) : Int32)), .val (.ref T23.heap.size), .val (.int (if p0 = (if (p4 &&& (1 : Int32)) = (0 : Int32) then p2 else p0 : Int32) then (if p1 = (if (p4 &&& (2 : Int32)) = (0 : Int32) then p3 else p1 : Int32) then (1 : Int32) else (0 : Int32)) else (0 : Int32))), .val (.int (if (if (p4 &&& (1 : Int32)) = (0 : Int32) then p2 else p0 : Int32) = p0 then (if (if (p4 &&& (2 : Int32)) = (0 : Int32) then p3 else p1 : Int32) = p1 then (1 : Int32) else (0 : Int32)) else (0 : Int32))), .val (.int (if p0 = p0 then (if p1 = p1 then (1 : Int32) else (0 : Int32)) else (0 : Int32))), .val (.int (0 : Int32)), .val (.int (0 : Int32))] [])) _
        refine XS.iload X58.here hx rfl (hb hby at_145) rfl ?_
        show Steps p.tables e below (T58.setTop (mkF m 147 #[.val (.int p0), .val (.int p1), .val (.int p2), .val (.int p3), .val (.int p4), .val (.int (if (p4 &&& (1 : Int32)) = (0 : Int32) then p2 else p0 : Int32)), .val (.int (if (p4 &&& (2 : Int32)) = (0 : Int32) then p3 else p1 : Int32)), .val (.ref a), .val (.ref b), .val (.int (if p0 = (if (p4 &&& (1 : Int32)) = (0 : Int32) then p2 else p0 : Int32) then (if p1 = (if (p4 &&& (2 : Int32)) = (0 : Int32) then p3 else p1 : Int32) then (1 : Int32) else (0 : Int32)) else (0 : Int32) : Int32)), .val (.ref T23.heap.size), .val (.int (if p0 = (if (p4 &&& (1 : Int32)) = (0 : Int32) then p2 else p0 : Int32) then (if p1 = (if (p4 &&& (2 : Int32)) = (0 : Int32) then p3 else p1 : Int32) then (1 : Int32) else (0 : Int32)) else (0 : Int32))), .val (.int (if (if (p4 &&& (1 : Int32)) = (0 : Int32) then p2 else p0 : Int32) = p0 then (if (if (p4 &&& (2 : Int32)) = (0 : Int32) then p3 else p1 : Int32) = p1 then (1 : Int32) else (0 : Int32)) else (0 : Int32))), .val (.int (if p0 = p0 then (if p1 = p1 then (1 : Int32) else (0 : Int32)) else (0 : Int32))), .val (.int (0 : Int32)), .val (.int (0 : Int32))] [(.int (0 : Int32))])) _
        refine XS.ifNo X58.here hx rfl (hb hby at_147) rfl ((if0 _ _).trans (teq (by decide)).2) ?_
        show Steps p.tables e below (T58.setTop (mkF m 150 #[.val (.int p0), .val (.int p1), .val (.int p2), .val (.int p3), .val (.int p4), .val (.int (if (p4 &&& (1 : Int32)) = (0 : Int32) then p2 else p0 : Int32)), .val (.int (if (p4 &&& (2 : Int32)) = (0 : Int32) then p3 else p1 : Int32)), .val (.ref a), .val (.ref b), .val (.int (if p0 = (if (p4 &&& (1 : Int32)) = (0 : Int32) then p2 else p0 : Int32) then (if p1 = (if (p4 &&& (2 : Int32)) = (0 : Int32) then p3 else p1 : Int32) then (1 : Int32) else (0 : Int32)) else (0 : Int32) : Int32)), .val (.ref T23.heap.size), .val (.int (if p0 = (if (p4 &&& (1 : Int32)) = (0 : Int32) then p2 else p0 : Int32) then (if p1 = (if (p4 &&& (2 : Int32)) = (0 : Int32) then p3 else p1 : Int32) then (1 : Int32) else (0 : Int32)) else (0 : Int32))), .val (.int (if (if (p4 &&& (1 : Int32)) = (0 : Int32) then p2 else p0 : Int32) = p0 then (if (if (p4 &&& (2 : Int32)) = (0 : Int32) then p3 else p1 : Int32) = p1 then (1 : Int32) else (0 : Int32)) else (0 : Int32))), .val (.int (if p0 = p0 then (if p1 = p1 then (1 : Int32) else (0 : Int32)) else (0 : Int32))), .val (.int (0 : Int32)), .val (.int (0 : Int32))] [])) _
        refine XS.iconst X58.here hx rfl (hb hby at_150) ?_
        show Steps p.tables e below (T58.setTop (mkF m 151 #[.val (.int p0), .val (.int p1), .val (.int p2), .val (.int p3), .val (.int p4), .val (.int (if (p4 &&& (1 : Int32)) = (0 : Int32) then p2 else p0 : Int32)), .val (.int (if (p4 &&& (2 : Int32)) = (0 : Int32) then p3 else p1 : Int32)), .val (.ref a), .val (.ref b), .val (.int (if p0 = (if (p4 &&& (1 : Int32)) = (0 : Int32) then p2 else p0 : Int32) then (if p1 = (if (p4 &&& (2 : Int32)) = (0 : Int32) then p3 else p1 : Int32) then (1 : Int32) else (0 : Int32)) else (0 : Int32) : Int32)), .val (.ref T23.heap.size), .val (.int (if p0 = (if (p4 &&& (1 : Int32)) = (0 : Int32) then p2 else p0 : Int32) then (if p1 = (if (p4 &&& (2 : Int32)) = (0 : Int32) then p3 else p1 : Int32) then (1 : Int32) else (0 : Int32)) else (0 : Int32))), .val (.int (if (if (p4 &&& (1 : Int32)) = (0 : Int32) then p2 else p0 : Int32) = p0 then (if (if (p4 &&& (2 : Int32)) = (0 : Int32) then p3 else p1 : Int32) = p1 then (1 : Int32) else (0 : Int32)) else (0 : Int32))), .val (.int (if p0 = p0 then (if p1 = p1 then (1 : Int32) else (0 : Int32)) else (0 : Int32))), .val (.int (0 : Int32)), .val (.int (0 : Int32))] [(.int (1 : Int32))])) _
        refine XS.goto X58.here hx rfl (pc0 := 151) (pc' := 155) rfl (hb hby at_151) (by decide) (by decide) ?_
        exact k
      obtain ⟨fs, hr, hrun, hended, hW, hsame⟩ := X58.leave (v := some (.int (1 : Int32))) (fun h => by rw [Bd.returns] at h; cases h)
      refine ⟨_, _, R59 _ ?_, hrun, hended, _, _, rfl, ?_, ⟨_, rfl⟩, hW, hsame.mono (by decide) (by decide)⟩
      · exact retN X58 hx (t := .boolean) Bd.returns (by simp) (hb hby at_155) hr
      · show Q0 Z p0 p1 p2 p3 p4 ca cl h0 n0 _ T58.heap _
        rw [e58]
        exact ⟨rfl, N58⟩
    ·
      skip
      have hj0 : ¬ (p0 + (128 : Int32)) < 0 := own_j0 _ hlo hhi
      have hj1 : (p0 + (128 : Int32)) < (256 : Int32) := own_j1 _ hlo hhi
      obtain ⟨hin, r, hat, ER⟩ := HC _ hj0 hj1
      obtain ⟨_, _, ⟨T60, L60, k60, n60⟩, -, X60, ⟨Lc60, hQ60, l60, y60, z60⟩, st60⟩ := Jvm.LawKit.callS X23 hx (y := (⟨"java/lang/Integer", "valueOf", "(I)Ljava/lang/Integer;"⟩ : MethodName)) hown (mvT hZ (hw _ (List.mem_of_getElem? (i := 18) rfl))) (mvT hZ (hw _ (List.mem_of_getElem? (i := 19) rfl))) (mvT hZ (hw _ (List.mem_of_getElem? (i := 20) rfl))) (mvT hZ (hw _ (List.mem_of_getElem? (i := 21) rfl))) (by decide) (backOf (W := 0) (rm4ca l Z a0 hw [] p0 ca cl r T23.heap n0 Sz23 hlo hhi (SH.ext O.2) (SC.ext O.2) (AC.ext O.2) hin hat) hZ (hw _ (List.mem_of_getElem? (i := 21) rfl)) (hw _ (List.mem_of_getElem? (i := 20) rfl)) (by decide) (by decide)) (g := (mkF m 72 #[.val (.int p0), .val (.int p1), .val (.int p2), .val (.int p3), .val (.int p4), .val (.int (if (p4 &&& (1 : Int32)) = (0 : Int32) then p2 else p0 : Int32)), .val (.int (if (p4 &&& (2 : Int32)) = (0 : Int32) then p3 else p1 : Int32)), .val (.ref a), .val (.ref b), .val (.int (if p0 = (if (p4 &&& (1 : Int32)) = (0 : Int32) then p2 else p0 : Int32) then (if p1 = (if (p4 &&& (2 : Int32)) = (0 : Int32) then p3 else p1 : Int32) then (1 : Int32) else (0 : Int32)) else (0 : Int32) : Int32)), .unset, .unset, .unset, .unset, .unset, .unset] [(.int p0)])) rfl (by rw [hml]; rfl) (argsL := [(.int p0)]) (rest := []) (lenOf pd_3 rfl) rfl (by show 2 * 0 + _ ≤ _; exact Nat.le_of_eq rfl) (hb hby at_72) (fun _ _ => ⟨rfl, rfl, (by decide : 2 + 0 ≤ _), (by decide : 4 + 0 ≤ _)⟩)
      dsimp only [Pt.U, Pt.locs, Pt.cells, Pt.slots] at X60 l60 y60 z60 st60 hQ60
      subst l60 y60 z60
      obtain ⟨rfl, Nq60, eq60⟩ := hQ60
      have N60 := Fr.app N23 Nq60
      have e60 : T60.heap = T23.heap := eq60
      have E_r := ER.ext O.2
      have R61 : ∀ t, Steps p.tables e below (T60.setTop (mkF m 81 #[.val (.int p0), .val (.int p1), .val (.int p2), .val (.int p3), .val (.int p4), .val (.int (if (p4 &&& (1 : Int32)) = (0 : Int32) then p2 else p0 : Int32)), .val (.int (if (p4 &&& (2 : Int32)) = (0 : Int32) then p3 else p1 : Int32)), .val (.ref a), .val (.ref b), .val (.int (if p0 = (if (p4 &&& (1 : Int32)) = (0 : Int32) then p2 else p0 : Int32) then (if p1 = (if (p4 &&& (2 : Int32)) = (0 : Int32) then p3 else p1 : Int32) then (1 : Int32) else (0 : Int32)) else (0 : Int32) : Int32)), .val (.ref r), .unset, .unset, .unset, .unset, .unset] [(.ref b), (.ref a)])) t → Steps p.tables e below (s₁.setTop (entryFrame m #[(.int p0), (.int p1), (.int p2), (.int p3), (.int p4)] maxLocals)) t := by
        intro t k
        refine R35 t ?_
        show Steps p.tables e below (T23.setTop (mkF m 72 #[.val (.int p0), .val (.int p1), .val (.int p2), .val (.int p3), .val (.int p4), .val (.int (if (p4 &&& (1 : Int32)) = (0 : Int32) then p2 else p0 : Int32)), .val (.int (if (p4 &&& (2 : Int32)) = (0 : Int32) then p3 else p1 : Int32)), .val (.ref a), .val (.ref b), .val (.int (if p0 = (if (p4 &&& (1 : Int32)) = (0 : Int32) then p2 else p0 : Int32) then (if p1 = (if (p4 &&& (2 : Int32)) = (0 : Int32) then p3 else p1 : Int32) then (1 : Int32) else (0 : Int32)) else (0 : Int32) : Int32)), .unset, .unset, .unset, .unset, .unset, .unset] [(.int p0)])) _
        refine st60 _ ?_
        show Steps p.tables e below (T60.setTop (mkF m 75 #[.val (.int p0), .val (.int p1), .val (.int p2), .val (.int p3), .val (.int p4), .val (.int (if (p4 &&& (1 : Int32)) = (0 : Int32) then p2 else p0 : Int32)), .val (.int (if (p4 &&& (2 : Int32)) = (0 : Int32) then p3 else p1 : Int32)), .val (.ref a), .val (.ref b), .val (.int (if p0 = (if (p4 &&& (1 : Int32)) = (0 : Int32) then p2 else p0 : Int32) then (if p1 = (if (p4 &&& (2 : Int32)) = (0 : Int32) then p3 else p1 : Int32) then (1 : Int32) else (0 : Int32)) else (0 : Int32) : Int32)), .unset, .unset, .unset, .unset, .unset, .unset] [(.ref r)])) _
        refine XS.astore X60.here hx rfl (hb hby at_75) rfl rfl (l' := #[.val (.int p0), .val (.int p1), .val (.int p2), .val (.int p3), .val (.int p4), .val (.int (if (p4 &&& (1 : Int32)) = (0 : Int32) then p2 else p0 : Int32)), .val (.int (if (p4 &&& (2 : Int32)) = (0 : Int32) then p3 else p1 : Int32)), .val (.ref a), .val (.ref b), .val (.int (if p0 = (if (p4 &&& (1 : Int32)) = (0 : Int32) then p2 else p0 : Int32) then (if p1 = (if (p4 &&& (2 : Int32)) = (0 : Int32) then p3 else p1 : Int32) then (1 : Int32) else (0 : Int32)) else (0 : Int32) : Int32)), .val (.ref r), .unset, .unset, .unset, .unset, .unset]) rfl ?_
        show Steps p.tables e below (T60.setTop (mkF m 77 #[.val (.int p0), .val (.int p1), .val (.int p2), .val (.int p3), .val (.int p4), .val (.int (if (p4 &&& (1 : Int32)) = (0 : Int32) then p2 else p0 : Int32)), .val (.int (if (p4 &&& (2 : Int32)) = (0 : Int32) then p3 else p1 : Int32)), .val (.ref a), .val (.ref b), .val (.int (if p0 = (if (p4 &&& (1 : Int32)) = (0 : Int32) then p2 else p0 : Int32) then (if p1 = (if (p4 &&& (2 : Int32)) = (0 : Int32) then p3 else p1 : Int32) then (1 : Int32) else (0 : Int32)) else (0 : Int32) : Int32)), .val (.ref r), .unset, .unset, .unset, .unset, .unset] [])) _
        refine XS.aload X60.here hx rfl (hb hby at_77) rfl rfl ?_
        show Steps p.tables e below (T60.setTop (mkF m 79 #[.val (.int p0), .val (.int p1), .val (.int p2), .val (.int p3), .val (.int p4), .val (.int (if (p4 &&& (1 : Int32)) = (0 : Int32) then p2 else p0 : Int32)), .val (.int (if (p4 &&& (2 : Int32)) = (0 : Int32) then p3 else p1 : Int32)), .val (.ref a), .val (.ref b), .val (.int (if p0 = (if (p4 &&& (1 : Int32)) = (0 : Int32) then p2 else p0 : Int32) then (if p1 = (if (p4 &&& (2 : Int32)) = (0 : Int32) then p3 else p1 : Int32) then (1 : Int32) else (0 : Int32)) else (0 : Int32) : Int32)), .val (.ref r), .unset, .unset, .unset, .unset, .unset] [(.ref a)])) _
        refine XS.aload X60.here hx rfl (hb hby at_79) rfl rfl ?_
        exact k
      obtain ⟨cq62, kq62, q62a, q62b, q62c⟩ := isOf hZ e60 E_a
      obtain ⟨_, _, ⟨T62, L62, k62, n62⟩, -, X62, ⟨Lc62, hQ62, l62, y62, z62⟩, st62⟩ := X60.virtualBack hx (y := (⟨"com/example/tapline/emv/RecordNumber", "equals", "(Ljava/lang/Object;)Z"⟩ : MethodName)) (z := (⟨"com/example/tapline/emv/RecordNumber", "equals", "(Ljava/lang/Object;)Z"⟩ : MethodName)) hown (mvT hZ (hw _ (List.mem_of_getElem? (i := 25) rfl))) (mvT hZ (hw _ (List.mem_of_getElem? (i := 26) rfl))) (notFace_of_selects (args := #[]) (mvT hZ (hw _ (List.mem_of_getElem? (i := 28) rfl)))) (mvT hZ (hw _ (List.mem_of_getElem? (i := 28) rfl))) (mvT hZ (hw _ (List.mem_of_getElem? (i := 27) rfl))) (by decide) (backOf (W := 0) (rm5r l Z a0 hw [] a b p0 p1 (if (p4 &&& (1 : Int32)) = (0 : Int32) then p2 else p0 : Int32) (if (p4 &&& (2 : Int32)) = (0 : Int32) then p3 else p1 : Int32) T23.heap n0 Sz23 F_sfi_a F_number_a F_sfi_b F_number_b E_b) hZ (hw _ (List.mem_of_getElem? (i := 29) rfl)) (hw _ (List.mem_of_getElem? (i := 2) rfl)) (by decide) (by decide)) q62a q62c (g := (mkF m 81 #[.val (.int p0), .val (.int p1), .val (.int p2), .val (.int p3), .val (.int p4), .val (.int (if (p4 &&& (1 : Int32)) = (0 : Int32) then p2 else p0 : Int32)), .val (.int (if (p4 &&& (2 : Int32)) = (0 : Int32) then p3 else p1 : Int32)), .val (.ref a), .val (.ref b), .val (.int (if p0 = (if (p4 &&& (1 : Int32)) = (0 : Int32) then p2 else p0 : Int32) then (if p1 = (if (p4 &&& (2 : Int32)) = (0 : Int32) then p3 else p1 : Int32) then (1 : Int32) else (0 : Int32)) else (0 : Int32) : Int32)), .val (.ref r), .unset, .unset, .unset, .unset, .unset] [(.ref b), (.ref a)])) rfl (by rw [hml]; rfl) (Steps.refl _) (argsL := [(.ref b)]) (rest := []) (lenOf pd_4 rfl) rfl (by show 2 * 0 + _ ≤ _; exact Nat.le_of_eq rfl) (hb hby at_81) (fun _ _ => ⟨rfl, e60, (by decide : 2 + 0 ≤ _), (by decide : 4 + 0 ≤ _)⟩)
      dsimp only [Pt.U, Pt.locs, Pt.cells, Pt.slots] at X62 l62 y62 z62 st62 hQ62
      subst l62 y62 z62
      obtain ⟨rfl, Nq62, eq62⟩ := hQ62
      have N62 := Fr.app N60 Nq62
      have e62 : T62.heap = T23.heap := eq62
      have R63 : ∀ t, Steps p.tables e below (T62.setTop (mkF m 90 #[.val (.int p0), .val (.int p1), .val (.int p2), .val (.int p3), .val (.int p4), .val (.int (if (p4 &&& (1 : Int32)) = (0 : Int32) then p2 else p0 : Int32)), .val (.int (if (p4 &&& (2 : Int32)) = (0 : Int32) then p3 else p1 : Int32)), .val (.ref a), .val (.ref b), .val (.int (if p0 = (if (p4 &&& (1 : Int32)) = (0 : Int32) then p2 else p0 : Int32) then (if p1 = (if (p4 &&& (2 : Int32)) = (0 : Int32) then p3 else p1 : Int32) then (1 : Int32) else (0 : Int32)) else (0 : Int32) : Int32)), .val (.ref r), .val (.int (if p0 = (if (p4 &&& (1 : Int32)) = (0 : Int32) then p2 else p0 : Int32) then (if p1 = (if (p4 &&& (2 : Int32)) = (0 : Int32) then p3 else p1 : Int32) then (1 : Int32) else (0 : Int32)) else (0 : Int32))), .unset, .unset, .unset, .unset] [(.ref a), (.ref b)])) t → Steps p.tables e below (s₁.setTop (entryFrame m #[(.int p0), (.int p1), (.int p2), (.int p3), (.int p4)] maxLocals)) t := by
        intro t k
        refine R61 t ?_
        show Steps p.tables e below (T60.setTop (mkF m 81 #[.val (.int p0), .val (.int p1), .val (.int p2), .val (.int p3), .val (.int p4), .val (.int (if (p4 &&& (1 : Int32)) = (0 : Int32) then p2 else p0 : Int32)), .val (.int (if (p4 &&& (2 : Int32)) = (0 : Int32) then p3 else p1 : Int32)), .val (.ref a), .val (.ref b), .val (.int (if p0 = (if (p4 &&& (1 : Int32)) = (0 : Int32) then p2 else p0 : Int32) then (if p1 = (if (p4 &&& (2 : Int32)) = (0 : Int32) then p3 else p1 : Int32) then (1 : Int32) else (0 : Int32)) else (0 : Int32) : Int32)), .val (.ref r), .unset, .unset, .unset, .unset, .unset] [(.ref b), (.ref a)])) _
        refine st62.trans ?_
        show Steps p.tables e below (T62.setTop (mkF m 84 #[.val (.int p0), .val (.int p1), .val (.int p2), .val (.int p3), .val (.int p4), .val (.int (if (p4 &&& (1 : Int32)) = (0 : Int32) then p2 else p0 : Int32)), .val (.int (if (p4 &&& (2 : Int32)) = (0 : Int32) then p3 else p1 : Int32)), .val (.ref a), .val (.ref b), .val (.int (if p0 = (if (p4 &&& (1 : Int32)) = (0 : Int32) then p2 else p0 : Int32) then (if p1 = (if (p4 &&& (2 : Int32)) = (0 : Int32) then p3 else p1 : Int32) then (1 : Int32) else (0 : Int32)) else (0 : Int32) : Int32)), .val (.ref r), .unset, .unset, .unset, .unset, .unset] [(.int (if p0 = (if (p4 &&& (1 : Int32)) = (0 : Int32) then p2 else p0 : Int32) then (if p1 = (if (p4 &&& (2 : Int32)) = (0 : Int32) then p3 else p1 : Int32) then (1 : Int32) else (0 : Int32)) else (0 : Int32)))])) _
        refine XS.istore X62.here hx rfl (hb hby at_84) rfl (l' := #[.val (.int p0), .val (.int p1), .val (.int p2), .val (.int p3), .val (.int p4), .val (.int (if (p4 &&& (1 : Int32)) = (0 : Int32) then p2 else p0 : Int32)), .val (.int (if (p4 &&& (2 : Int32)) = (0 : Int32) then p3 else p1 : Int32)), .val (.ref a), .val (.ref b), .val (.int (if p0 = (if (p4 &&& (1 : Int32)) = (0 : Int32) then p2 else p0 : Int32) then (if p1 = (if (p4 &&& (2 : Int32)) = (0 : Int32) then p3 else p1 : Int32) then (1 : Int32) else (0 : Int32)) else (0 : Int32) : Int32)), .val (.ref r), .val (.int (if p0 = (if (p4 &&& (1 : Int32)) = (0 : Int32) then p2 else p0 : Int32) then (if p1 = (if (p4 &&& (2 : Int32)) = (0 : Int32) then p3 else p1 : Int32) then (1 : Int32) else (0 : Int32)) else (0 : Int32))), .unset, .unset, .unset, .unset]) rfl ?_
        show Steps p.tables e below (T62.setTop (mkF m 86 #[.val (.int p0), .val (.int p1), .val (.int p2), .val (.int p3), .val (.int p4), .val (.int (if (p4 &&& (1 : Int32)) = (0 : Int32) then p2 else p0 : Int32)), .val (.int (if (p4 &&& (2 : Int32)) = (0 : Int32) then p3 else p1 : Int32)), .val (.ref a), .val (.ref b), .val (.int (if p0 = (if (p4 &&& (1 : Int32)) = (0 : Int32) then p2 else p0 : Int32) then (if p1 = (if (p4 &&& (2 : Int32)) = (0 : Int32) then p3 else p1 : Int32) then (1 : Int32) else (0 : Int32)) else (0 : Int32) : Int32)), .val (.ref r), .val (.int (if p0 = (if (p4 &&& (1 : Int32)) = (0 : Int32) then p2 else p0 : Int32) then (if p1 = (if (p4 &&& (2 : Int32)) = (0 : Int32) then p3 else p1 : Int32) then (1 : Int32) else (0 : Int32)) else (0 : Int32))), .unset, .unset, .unset, .unset] [])) _
        refine XS.aload X62.here hx rfl (hb hby at_86) rfl rfl ?_
        show Steps p.tables e below (T62.setTop (mkF m 88 #[.val (.int p0), .val (.int p1), .val (.int p2), .val (.int p3), .val (.int p4), .val (.int (if (p4 &&& (1 : Int32)) = (0 : Int32) then p2 else p0 : Int32)), .val (.int (if (p4 &&& (2 : Int32)) = (0 : Int32) then p3 else p1 : Int32)), .val (.ref a), .val (.ref b), .val (.int (if p0 = (if (p4 &&& (1 : Int32)) = (0 : Int32) then p2 else p0 : Int32) then (if p1 = (if (p4 &&& (2 : Int32)) = (0 : Int32) then p3 else p1 : Int32) then (1 : Int32) else (0 : Int32)) else (0 : Int32) : Int32)), .val (.ref r), .val (.int (if p0 = (if (p4 &&& (1 : Int32)) = (0 : Int32) then p2 else p0 : Int32) then (if p1 = (if (p4 &&& (2 : Int32)) = (0 : Int32) then p3 else p1 : Int32) then (1 : Int32) else (0 : Int32)) else (0 : Int32))), .unset, .unset, .unset, .unset] [(.ref b)])) _
        refine XS.aload X62.here hx rfl (hb hby at_88) rfl rfl ?_
        exact k
      obtain ⟨cq64, kq64, q64a, q64b, q64c⟩ := isOf hZ e62 E_b
      obtain ⟨_, _, ⟨T64, L64, k64, n64⟩, -, X64, ⟨Lc64, hQ64, l64, y64, z64⟩, st64⟩ := X62.virtualBack hx (y := (⟨"com/example/tapline/emv/RecordNumber", "equals", "(Ljava/lang/Object;)Z"⟩ : MethodName)) (z := (⟨"com/example/tapline/emv/RecordNumber", "equals", "(Ljava/lang/Object;)Z"⟩ : MethodName)) hown (mvT hZ (hw _ (List.mem_of_getElem? (i := 25) rfl))) (mvT hZ (hw _ (List.mem_of_getElem? (i := 26) rfl))) (notFace_of_selects (args := #[]) (mvT hZ (hw _ (List.mem_of_getElem? (i := 28) rfl)))) (mvT hZ (hw _ (List.mem_of_getElem? (i := 28) rfl))) (mvT hZ (hw _ (List.mem_of_getElem? (i := 27) rfl))) (by decide) (backOf (W := 0) (rm5r l Z a0 hw [] b a (if (p4 &&& (1 : Int32)) = (0 : Int32) then p2 else p0 : Int32) (if (p4 &&& (2 : Int32)) = (0 : Int32) then p3 else p1 : Int32) p0 p1 T23.heap n0 Sz23 F_sfi_b F_number_b F_sfi_a F_number_a E_a) hZ (hw _ (List.mem_of_getElem? (i := 29) rfl)) (hw _ (List.mem_of_getElem? (i := 2) rfl)) (by decide) (by decide)) q64a q64c (g := (mkF m 90 #[.val (.int p0), .val (.int p1), .val (.int p2), .val (.int p3), .val (.int p4), .val (.int (if (p4 &&& (1 : Int32)) = (0 : Int32) then p2 else p0 : Int32)), .val (.int (if (p4 &&& (2 : Int32)) = (0 : Int32) then p3 else p1 : Int32)), .val (.ref a), .val (.ref b), .val (.int (if p0 = (if (p4 &&& (1 : Int32)) = (0 : Int32) then p2 else p0 : Int32) then (if p1 = (if (p4 &&& (2 : Int32)) = (0 : Int32) then p3 else p1 : Int32) then (1 : Int32) else (0 : Int32)) else (0 : Int32) : Int32)), .val (.ref r), .val (.int (if p0 = (if (p4 &&& (1 : Int32)) = (0 : Int32) then p2 else p0 : Int32) then (if p1 = (if (p4 &&& (2 : Int32)) = (0 : Int32) then p3 else p1 : Int32) then (1 : Int32) else (0 : Int32)) else (0 : Int32))), .unset, .unset, .unset, .unset] [(.ref a), (.ref b)])) rfl (by rw [hml]; rfl) (Steps.refl _) (argsL := [(.ref a)]) (rest := []) (lenOf pd_4 rfl) rfl (by show 2 * 0 + _ ≤ _; exact Nat.le_of_eq rfl) (hb hby at_90) (fun _ _ => ⟨rfl, e62, (by decide : 2 + 0 ≤ _), (by decide : 4 + 0 ≤ _)⟩)
      dsimp only [Pt.U, Pt.locs, Pt.cells, Pt.slots] at X64 l64 y64 z64 st64 hQ64
      subst l64 y64 z64
      obtain ⟨rfl, Nq64, eq64⟩ := hQ64
      have N64 := Fr.app N62 Nq64
      have e64 : T64.heap = T23.heap := eq64
      have R65 : ∀ t, Steps p.tables e below (T64.setTop (mkF m 99 #[.val (.int p0), .val (.int p1), .val (.int p2), .val (.int p3), .val (.int p4), .val (.int (if (p4 &&& (1 : Int32)) = (0 : Int32) then p2 else p0 : Int32)), .val (.int (if (p4 &&& (2 : Int32)) = (0 : Int32) then p3 else p1 : Int32)), .val (.ref a), .val (.ref b), .val (.int (if p0 = (if (p4 &&& (1 : Int32)) = (0 : Int32) then p2 else p0 : Int32) then (if p1 = (if (p4 &&& (2 : Int32)) = (0 : Int32) then p3 else p1 : Int32) then (1 : Int32) else (0 : Int32)) else (0 : Int32) : Int32)), .val (.ref r), .val (.int (if p0 = (if (p4 &&& (1 : Int32)) = (0 : Int32) then p2 else p0 : Int32) then (if p1 = (if (p4 &&& (2 : Int32)) = (0 : Int32) then p3 else p1 : Int32) then (1 : Int32) else (0 : Int32)) else (0 : Int32))), .val (.int (if (if (p4 &&& (1 : Int32)) = (0 : Int32) then p2 else p0 : Int32) = p0 then (if (if (p4 &&& (2 : Int32)) = (0 : Int32) then p3 else p1 : Int32) = p1 then (1 : Int32) else (0 : Int32)) else (0 : Int32))), .unset, .unset, .unset] [(.ref a), (.ref a)])) t → Steps p.tables e below (s₁.setTop (entryFrame m #[(.int p0), (.int p1), (.int p2), (.int p3), (.int p4)] maxLocals)) t := by
        intro t k
        refine R63 t ?_
        show Steps p.tables e below (T62.setTop (mkF m 90 #[.val (.int p0), .val (.int p1), .val (.int p2), .val (.int p3), .val (.int p4), .val (.int (if (p4 &&& (1 : Int32)) = (0 : Int32) then p2 else p0 : Int32)), .val (.int (if (p4 &&& (2 : Int32)) = (0 : Int32) then p3 else p1 : Int32)), .val (.ref a), .val (.ref b), .val (.int (if p0 = (if (p4 &&& (1 : Int32)) = (0 : Int32) then p2 else p0 : Int32) then (if p1 = (if (p4 &&& (2 : Int32)) = (0 : Int32) then p3 else p1 : Int32) then (1 : Int32) else (0 : Int32)) else (0 : Int32) : Int32)), .val (.ref r), .val (.int (if p0 = (if (p4 &&& (1 : Int32)) = (0 : Int32) then p2 else p0 : Int32) then (if p1 = (if (p4 &&& (2 : Int32)) = (0 : Int32) then p3 else p1 : Int32) then (1 : Int32) else (0 : Int32)) else (0 : Int32))), .unset, .unset, .unset, .unset] [(.ref a), (.ref b)])) _
        refine st64.trans ?_
        show Steps p.tables e below (T64.setTop (mkF m 93 #[.val (.int p0), .val (.int p1), .val (.int p2), .val (.int p3), .val (.int p4), .val (.int (if (p4 &&& (1 : Int32)) = (0 : Int32) then p2 else p0 : Int32)), .val (.int (if (p4 &&& (2 : Int32)) = (0 : Int32) then p3 else p1 : Int32)), .val (.ref a), .val (.ref b), .val (.int (if p0 = (if (p4 &&& (1 : Int32)) = (0 : Int32) then p2 else p0 : Int32) then (if p1 = (if (p4 &&& (2 : Int32)) = (0 : Int32) then p3 else p1 : Int32) then (1 : Int32) else (0 : Int32)) else (0 : Int32) : Int32)), .val (.ref r), .val (.int (if p0 = (if (p4 &&& (1 : Int32)) = (0 : Int32) then p2 else p0 : Int32) then (if p1 = (if (p4 &&& (2 : Int32)) = (0 : Int32) then p3 else p1 : Int32) then (1 : Int32) else (0 : Int32)) else (0 : Int32))), .unset, .unset, .unset, .unset] [(.int (if (if (p4 &&& (1 : Int32)) = (0 : Int32) then p2 else p0 : Int32) = p0 then (if (if (p4 &&& (2 : Int32)) = (0 : Int32) then p3 else p1 : Int32) = p1 then (1 : Int32) else (0 : Int32)) else (0 : Int32)))])) _
        refine XS.istore X64.here hx rfl (hb hby at_93) rfl (l' := #[.val (.int p0), .val (.int p1), .val (.int p2), .val (.int p3), .val (.int p4), .val (.int (if (p4 &&& (1 : Int32)) = (0 : Int32) then p2 else p0 : Int32)), .val (.int (if (p4 &&& (2 : Int32)) = (0 : Int32) then p3 else p1 : Int32)), .val (.ref a), .val (.ref b), .val (.int (if p0 = (if (p4 &&& (1 : Int32)) = (0 : Int32) then p2 else p0 : Int32) then (if p1 = (if (p4 &&& (2 : Int32)) = (0 : Int32) then p3 else p1 : Int32) then (1 : Int32) else (0 : Int32)) else (0 : Int32) : Int32)), .val (.ref r), .val (.int (if p0 = (if (p4 &&& (1 : Int32)) = (0 : Int32) then p2 else p0 : Int32) then (if p1 = (if (p4 &&& (2 : Int32)) = (0 : Int32) then p3 else p1 : Int32) then (1 : Int32) else (0 : Int32)) else (0 : Int32))), .val (.int (if (if (p4 &&& (1 : Int32)) = (0 : Int32) then p2 else p0 : Int32) = p0 then (if (if (p4 &&& (2 : Int32)) = (0 : Int32) then p3 else p1 : Int32) = p1 then (1 : Int32) else (0 : Int32)) else (0 : Int32))), .unset, .unset, .unset]) rfl ?_
        show Steps p.tables e below (T64.setTop (mkF m 95 #[.val (.int p0), .val (.int p1), .val (.int p2), .val (.int p3), .val (.int p4), .val (.int (if (p4 &&& (1 : Int32)) = (0 : Int32) then p2 else p0 : Int32)), .val (.int (if (p4 &&& (2 : Int32)) = (0 : Int32) then p3 else p1 : Int32)), .val (.ref a), .val (.ref b), .val (.int (if p0 = (if (p4 &&& (1 : Int32)) = (0 : Int32) then p2 else p0 : Int32) then (if p1 = (if (p4 &&& (2 : Int32)) = (0 : Int32) then p3 else p1 : Int32) then (1 : Int32) else (0 : Int32)) else (0 : Int32) : Int32)), .val (.ref r), .val (.int (if p0 = (if (p4 &&& (1 : Int32)) = (0 : Int32) then p2 else p0 : Int32) then (if p1 = (if (p4 &&& (2 : Int32)) = (0 : Int32) then p3 else p1 : Int32) then (1 : Int32) else (0 : Int32)) else (0 : Int32))), .val (.int (if (if (p4 &&& (1 : Int32)) = (0 : Int32) then p2 else p0 : Int32) = p0 then (if (if (p4 &&& (2 : Int32)) = (0 : Int32) then p3 else p1 : Int32) = p1 then (1 : Int32) else (0 : Int32)) else (0 : Int32))), .unset, .unset, .unset] [])) _
        refine XS.aload X64.here hx rfl (hb hby at_95) rfl rfl ?_
        show Steps p.tables e below (T64.setTop (mkF m 97 #[.val (.int p0), .val (.int p1), .val (.int p2), .val (.int p3), .val (.int p4), .val (.int (if (p4 &&& (1 : Int32)) = (0 : Int32) then p2 else p0 : Int32)), .val (.int (if (p4 &&& (2 : Int32)) = (0 : Int32) then p3 else p1 : Int32)), .val (.ref a), .val (.ref b), .val (.int (if p0 = (if (p4 &&& (1 : Int32)) = (0 : Int32) then p2 else p0 : Int32) then (if p1 = (if (p4 &&& (2 : Int32)) = (0 : Int32) then p3 else p1 : Int32) then (1 : Int32) else (0 : Int32)) else (0 : Int32) : Int32)), .val (.ref r), .val (.int (if p0 = (if (p4 &&& (1 : Int32)) = (0 : Int32) then p2 else p0 : Int32) then (if p1 = (if (p4 &&& (2 : Int32)) = (0 : Int32) then p3 else p1 : Int32) then (1 : Int32) else (0 : Int32)) else (0 : Int32))), .val (.int (if (if (p4 &&& (1 : Int32)) = (0 : Int32) then p2 else p0 : Int32) = p0 then (if (if (p4 &&& (2 : Int32)) = (0 : Int32) then p3 else p1 : Int32) = p1 then (1 : Int32) else (0 : Int32)) else (0 : Int32))), .unset, .unset, .unset] [(.ref a)])) _
        refine XS.aload X64.here hx rfl (hb hby at_97) rfl rfl ?_
        exact k
      obtain ⟨cq66, kq66, q66a, q66b, q66c⟩ := isOf hZ e64 E_a
      obtain ⟨_, _, ⟨T66, L66, k66, n66⟩, -, X66, ⟨Lc66, hQ66, l66, y66, z66⟩, st66⟩ := X64.virtualBack hx (y := (⟨"com/example/tapline/emv/RecordNumber", "equals", "(Ljava/lang/Object;)Z"⟩ : MethodName)) (z := (⟨"com/example/tapline/emv/RecordNumber", "equals", "(Ljava/lang/Object;)Z"⟩ : MethodName)) hown (mvT hZ (hw _ (List.mem_of_getElem? (i := 25) rfl))) (mvT hZ (hw _ (List.mem_of_getElem? (i := 26) rfl))) (notFace_of_selects (args := #[]) (mvT hZ (hw _ (List.mem_of_getElem? (i := 28) rfl)))) (mvT hZ (hw _ (List.mem_of_getElem? (i := 28) rfl))) (mvT hZ (hw _ (List.mem_of_getElem? (i := 27) rfl))) (by decide) (backOf (W := 0) (rm5r l Z a0 hw [] a a p0 p1 p0 p1 T23.heap n0 Sz23 F_sfi_a F_number_a F_sfi_a F_number_a E_a) hZ (hw _ (List.mem_of_getElem? (i := 29) rfl)) (hw _ (List.mem_of_getElem? (i := 2) rfl)) (by decide) (by decide)) q66a q66c (g := (mkF m 99 #[.val (.int p0), .val (.int p1), .val (.int p2), .val (.int p3), .val (.int p4), .val (.int (if (p4 &&& (1 : Int32)) = (0 : Int32) then p2 else p0 : Int32)), .val (.int (if (p4 &&& (2 : Int32)) = (0 : Int32) then p3 else p1 : Int32)), .val (.ref a), .val (.ref b), .val (.int (if p0 = (if (p4 &&& (1 : Int32)) = (0 : Int32) then p2 else p0 : Int32) then (if p1 = (if (p4 &&& (2 : Int32)) = (0 : Int32) then p3 else p1 : Int32) then (1 : Int32) else (0 : Int32)) else (0 : Int32) : Int32)), .val (.ref r), .val (.int (if p0 = (if (p4 &&& (1 : Int32)) = (0 : Int32) then p2 else p0 : Int32) then (if p1 = (if (p4 &&& (2 : Int32)) = (0 : Int32) then p3 else p1 : Int32) then (1 : Int32) else (0 : Int32)) else (0 : Int32))), .val (.int (if (if (p4 &&& (1 : Int32)) = (0 : Int32) then p2 else p0 : Int32) = p0 then (if (if (p4 &&& (2 : Int32)) = (0 : Int32) then p3 else p1 : Int32) = p1 then (1 : Int32) else (0 : Int32)) else (0 : Int32))), .unset, .unset, .unset] [(.ref a), (.ref a)])) rfl (by rw [hml]; rfl) (Steps.refl _) (argsL := [(.ref a)]) (rest := []) (lenOf pd_4 rfl) rfl (by show 2 * 0 + _ ≤ _; exact Nat.le_of_eq rfl) (hb hby at_99) (fun _ _ => ⟨rfl, e64, (by decide : 2 + 0 ≤ _), (by decide : 4 + 0 ≤ _)⟩)
      dsimp only [Pt.U, Pt.locs, Pt.cells, Pt.slots] at X66 l66 y66 z66 st66 hQ66
      subst l66 y66 z66
      obtain ⟨rfl, Nq66, eq66⟩ := hQ66
      have N66 := Fr.app N64 Nq66
      have e66 : T66.heap = T23.heap := eq66
      have R67 : ∀ t, Steps p.tables e below (T66.setTop (mkF m 107 #[.val (.int p0), .val (.int p1), .val (.int p2), .val (.int p3), .val (.int p4), .val (.int (if (p4 &&& (1 : Int32)) = (0 : Int32) then p2 else p0 : Int32)), .val (.int (if (p4 &&& (2 : Int32)) = (0 : Int32) then p3 else p1 : Int32)), .val (.ref a), .val (.ref b), .val (.int (if p0 = (if (p4 &&& (1 : Int32)) = (0 : Int32) then p2 else p0 : Int32) then (if p1 = (if (p4 &&& (2 : Int32)) = (0 : Int32) then p3 else p1 : Int32) then (1 : Int32) else (0 : Int32)) else (0 : Int32) : Int32)), .val (.ref r), .val (.int (if p0 = (if (p4 &&& (1 : Int32)) = (0 : Int32) then p2 else p0 : Int32) then (if p1 = (if (p4 &&& (2 : Int32)) = (0 : Int32) then p3 else p1 : Int32) then (1 : Int32) else (0 : Int32)) else (0 : Int32))), .val (.int (if (if (p4 &&& (1 : Int32)) = (0 : Int32) then p2 else p0 : Int32) = p0 then (if (if (p4 &&& (2 : Int32)) = (0 : Int32) then p3 else p1 : Int32) = p1 then (1 : Int32) else (0 : Int32)) else (0 : Int32))), .val (.int (if p0 = p0 then (if p1 = p1 then (1 : Int32) else (0 : Int32)) else (0 : Int32))), .unset, .unset] [.null, (.ref a)])) t → Steps p.tables e below (s₁.setTop (entryFrame m #[(.int p0), (.int p1), (.int p2), (.int p3), (.int p4)] maxLocals)) t := by
        intro t k
        refine R65 t ?_
        show Steps p.tables e below (T64.setTop (mkF m 99 #[.val (.int p0), .val (.int p1), .val (.int p2), .val (.int p3), .val (.int p4), .val (.int (if (p4 &&& (1 : Int32)) = (0 : Int32) then p2 else p0 : Int32)), .val (.int (if (p4 &&& (2 : Int32)) = (0 : Int32) then p3 else p1 : Int32)), .val (.ref a), .val (.ref b), .val (.int (if p0 = (if (p4 &&& (1 : Int32)) = (0 : Int32) then p2 else p0 : Int32) then (if p1 = (if (p4 &&& (2 : Int32)) = (0 : Int32) then p3 else p1 : Int32) then (1 : Int32) else (0 : Int32)) else (0 : Int32) : Int32)), .val (.ref r), .val (.int (if p0 = (if (p4 &&& (1 : Int32)) = (0 : Int32) then p2 else p0 : Int32) then (if p1 = (if (p4 &&& (2 : Int32)) = (0 : Int32) then p3 else p1 : Int32) then (1 : Int32) else (0 : Int32)) else (0 : Int32))), .val (.int (if (if (p4 &&& (1 : Int32)) = (0 : Int32) then p2 else p0 : Int32) = p0 then (if (if (p4 &&& (2 : Int32)) = (0 : Int32) then p3 else p1 : Int32) = p1 then (1 : Int32) else (0 : Int32)) else (0 : Int32))), .unset, .unset, .unset] [(.ref a), (.ref a)])) _
        refine st66.trans ?_
        show Steps p.tables e below (T66.setTop (mkF m 102 #[.val (.int p0), .val (.int p1), .val (.int p2), .val (.int p3), .val (.int p4), .val (.int (if (p4 &&& (1 : Int32)) = (0 : Int32) then p2 else p0 : Int32)), .val (.int (if (p4 &&& (2 : Int32)) = (0 : Int32) then p3 else p1 : Int32)), .val (.ref a), .val (.ref b), .val (.int (if p0 = (if (p4 &&& (1 : Int32)) = (0 : Int32) then p2 else p0 : Int32) then (if p1 = (if (p4 &&& (2 : Int32)) = (0 : Int32) then p3 else p1 : Int32) then (1 : Int32) else (0 : Int32)) else (0 : Int32) : Int32)), .val (.ref r), .val (.int (if p0 = (if (p4 &&& (1 : Int32)) = (0 : Int32) then p2 else p0 : Int32) then (if p1 = (if (p4 &&& (2 : Int32)) = (0 : Int32) then p3 else p1 : Int32) then (1 : Int32) else (0 : Int32)) else (0 : Int32))), .val (.int (if (if (p4 &&& (1 : Int32)) = (0 : Int32) then p2 else p0 : Int32) = p0 then (if (if (p4 &&& (2 : Int32)) = (0 : Int32) then p3 else p1 : Int32) = p1 then (1 : Int32) else (0 : Int32)) else (0 : Int32))), .unset, .unset, .unset] [(.int (if p0 = p0 then (if p1 = p1 then (1 : Int32) else (0 : Int32)) else (0 : Int32)))])) _
        refine XS.istore X66.here hx rfl (hb hby at_102) rfl (l' := #[.val (.int p0), .val (.int p1), .val (.int p2), .val (.int p3), .val (.int p4), .val (.int (if (p4 &&& (1 : Int32)) = (0 : Int32) then p2 else p0 : Int32)), .val (.int (if (p4 &&& (2 : Int32)) = (0 : Int32) then p3 else p1 : Int32)), .val (.ref a), .val (.ref b), .val (.int (if p0 = (if (p4 &&& (1 : Int32)) = (0 : Int32) then p2 else p0 : Int32) then (if p1 = (if (p4 &&& (2 : Int32)) = (0 : Int32) then p3 else p1 : Int32) then (1 : Int32) else (0 : Int32)) else (0 : Int32) : Int32)), .val (.ref r), .val (.int (if p0 = (if (p4 &&& (1 : Int32)) = (0 : Int32) then p2 else p0 : Int32) then (if p1 = (if (p4 &&& (2 : Int32)) = (0 : Int32) then p3 else p1 : Int32) then (1 : Int32) else (0 : Int32)) else (0 : Int32))), .val (.int (if (if (p4 &&& (1 : Int32)) = (0 : Int32) then p2 else p0 : Int32) = p0 then (if (if (p4 &&& (2 : Int32)) = (0 : Int32) then p3 else p1 : Int32) = p1 then (1 : Int32) else (0 : Int32)) else (0 : Int32))), .val (.int (if p0 = p0 then (if p1 = p1 then (1 : Int32) else (0 : Int32)) else (0 : Int32))), .unset, .unset]) rfl ?_
        show Steps p.tables e below (T66.setTop (mkF m 104 #[.val (.int p0), .val (.int p1), .val (.int p2), .val (.int p3), .val (.int p4), .val (.int (if (p4 &&& (1 : Int32)) = (0 : Int32) then p2 else p0 : Int32)), .val (.int (if (p4 &&& (2 : Int32)) = (0 : Int32) then p3 else p1 : Int32)), .val (.ref a), .val (.ref b), .val (.int (if p0 = (if (p4 &&& (1 : Int32)) = (0 : Int32) then p2 else p0 : Int32) then (if p1 = (if (p4 &&& (2 : Int32)) = (0 : Int32) then p3 else p1 : Int32) then (1 : Int32) else (0 : Int32)) else (0 : Int32) : Int32)), .val (.ref r), .val (.int (if p0 = (if (p4 &&& (1 : Int32)) = (0 : Int32) then p2 else p0 : Int32) then (if p1 = (if (p4 &&& (2 : Int32)) = (0 : Int32) then p3 else p1 : Int32) then (1 : Int32) else (0 : Int32)) else (0 : Int32))), .val (.int (if (if (p4 &&& (1 : Int32)) = (0 : Int32) then p2 else p0 : Int32) = p0 then (if (if (p4 &&& (2 : Int32)) = (0 : Int32) then p3 else p1 : Int32) = p1 then (1 : Int32) else (0 : Int32)) else (0 : Int32))), .val (.int (if p0 = p0 then (if p1 = p1 then (1 : Int32) else (0 : Int32)) else (0 : Int32))), .unset, .unset] [])) _
        refine XS.aload X66.here hx rfl (hb hby at_104) rfl rfl ?_
        show Steps p.tables e below (T66.setTop (mkF m 106 #[.val (.int p0), .val (.int p1), .val (.int p2), .val (.int p3), .val (.int p4), .val (.int (if (p4 &&& (1 : Int32)) = (0 : Int32) then p2 else p0 : Int32)), .val (.int (if (p4 &&& (2 : Int32)) = (0 : Int32) then p3 else p1 : Int32)), .val (.ref a), .val (.ref b), .val (.int (if p0 = (if (p4 &&& (1 : Int32)) = (0 : Int32) then p2 else p0 : Int32) then (if p1 = (if (p4 &&& (2 : Int32)) = (0 : Int32) then p3 else p1 : Int32) then (1 : Int32) else (0 : Int32)) else (0 : Int32) : Int32)), .val (.ref r), .val (.int (if p0 = (if (p4 &&& (1 : Int32)) = (0 : Int32) then p2 else p0 : Int32) then (if p1 = (if (p4 &&& (2 : Int32)) = (0 : Int32) then p3 else p1 : Int32) then (1 : Int32) else (0 : Int32)) else (0 : Int32))), .val (.int (if (if (p4 &&& (1 : Int32)) = (0 : Int32) then p2 else p0 : Int32) = p0 then (if (if (p4 &&& (2 : Int32)) = (0 : Int32) then p3 else p1 : Int32) = p1 then (1 : Int32) else (0 : Int32)) else (0 : Int32))), .val (.int (if p0 = p0 then (if p1 = p1 then (1 : Int32) else (0 : Int32)) else (0 : Int32))), .unset, .unset] [(.ref a)])) _
        refine XS.aconstNull X66.here hx rfl (hb hby at_106) ?_
        exact k
      obtain ⟨cq68, kq68, q68a, q68b, q68c⟩ := isOf hZ e66 E_a
      obtain ⟨_, _, ⟨T68, L68, k68, n68⟩, -, X68, ⟨Lc68, hQ68, l68, y68, z68⟩, st68⟩ := X66.virtualBack hx (y := (⟨"com/example/tapline/emv/RecordNumber", "equals", "(Ljava/lang/Object;)Z"⟩ : MethodName)) (z := (⟨"com/example/tapline/emv/RecordNumber", "equals", "(Ljava/lang/Object;)Z"⟩ : MethodName)) hown (mvT hZ (hw _ (List.mem_of_getElem? (i := 25) rfl))) (mvT hZ (hw _ (List.mem_of_getElem? (i := 26) rfl))) (notFace_of_selects (args := #[]) (mvT hZ (hw _ (List.mem_of_getElem? (i := 28) rfl)))) (mvT hZ (hw _ (List.mem_of_getElem? (i := 28) rfl))) (mvT hZ (hw _ (List.mem_of_getElem? (i := 27) rfl))) (by decide) (backOf (W := 0) (rm5n l Z a0 hw [] a T23.heap n0 Sz23) hZ (hw _ (List.mem_of_getElem? (i := 29) rfl)) (hw _ (List.mem_of_getElem? (i := 2) rfl)) (by decide) (by decide)) q68a q68c (g := (mkF m 107 #[.val (.int p0), .val (.int p1), .val (.int p2), .val (.int p3), .val (.int p4), .val (.int (if (p4 &&& (1 : Int32)) = (0 : Int32) then p2 else p0 : Int32)), .val (.int (if (p4 &&& (2 : Int32)) = (0 : Int32) then p3 else p1 : Int32)), .val (.ref a), .val (.ref b), .val (.int (if p0 = (if (p4 &&& (1 : Int32)) = (0 : Int32) then p2 else p0 : Int32) then (if p1 = (if (p4 &&& (2 : Int32)) = (0 : Int32) then p3 else p1 : Int32) then (1 : Int32) else (0 : Int32)) else (0 : Int32) : Int32)), .val (.ref r), .val (.int (if p0 = (if (p4 &&& (1 : Int32)) = (0 : Int32) then p2 else p0 : Int32) then (if p1 = (if (p4 &&& (2 : Int32)) = (0 : Int32) then p3 else p1 : Int32) then (1 : Int32) else (0 : Int32)) else (0 : Int32))), .val (.int (if (if (p4 &&& (1 : Int32)) = (0 : Int32) then p2 else p0 : Int32) = p0 then (if (if (p4 &&& (2 : Int32)) = (0 : Int32) then p3 else p1 : Int32) = p1 then (1 : Int32) else (0 : Int32)) else (0 : Int32))), .val (.int (if p0 = p0 then (if p1 = p1 then (1 : Int32) else (0 : Int32)) else (0 : Int32))), .unset, .unset] [.null, (.ref a)])) rfl (by rw [hml]; rfl) (Steps.refl _) (argsL := [.null]) (rest := []) (lenOf pd_4 rfl) rfl (by show 2 * 0 + _ ≤ _; exact Nat.le_of_eq rfl) (hb hby at_107) (fun _ _ => ⟨rfl, e66, (by decide : 2 + 0 ≤ _), (by decide : 4 + 0 ≤ _)⟩)
      dsimp only [Pt.U, Pt.locs, Pt.cells, Pt.slots] at X68 l68 y68 z68 st68 hQ68
      subst l68 y68 z68
      obtain ⟨rfl, Nq68, eq68⟩ := hQ68
      have N68 := Fr.app N66 Nq68
      have e68 : T68.heap = T23.heap := eq68
      have R69 : ∀ t, Steps p.tables e below (T68.setTop (mkF m 116 #[.val (.int p0), .val (.int p1), .val (.int p2), .val (.int p3), .val (.int p4), .val (.int (if (p4 &&& (1 : Int32)) = (0 : Int32) then p2 else p0 : Int32)), .val (.int (if (p4 &&& (2 : Int32)) = (0 : Int32) then p3 else p1 : Int32)), .val (.ref a), .val (.ref b), .val (.int (if p0 = (if (p4 &&& (1 : Int32)) = (0 : Int32) then p2 else p0 : Int32) then (if p1 = (if (p4 &&& (2 : Int32)) = (0 : Int32) then p3 else p1 : Int32) then (1 : Int32) else (0 : Int32)) else (0 : Int32) : Int32)), .val (.ref r), .val (.int (if p0 = (if (p4 &&& (1 : Int32)) = (0 : Int32) then p2 else p0 : Int32) then (if p1 = (if (p4 &&& (2 : Int32)) = (0 : Int32) then p3 else p1 : Int32) then (1 : Int32) else (0 : Int32)) else (0 : Int32))), .val (.int (if (if (p4 &&& (1 : Int32)) = (0 : Int32) then p2 else p0 : Int32) = p0 then (if (if (p4 &&& (2 : Int32)) = (0 : Int32) then p3 else p1 : Int32) = p1 then (1 : Int32) else (0 : Int32)) else (0 : Int32))), .val (.int (if p0 = p0 then (if p1 = p1 then (1 : Int32) else (0 : Int32)) else (0 : Int32))), .val (.int (0 : Int32)), .unset] [(.ref r), (.ref a)])) t → Steps p.tables e below (s₁.setTop (entryFrame m #[(.int p0), (.int p1), (.int p2), (.int p3), (.int p4)] maxLocals)) t := by
        intro t k
        refine R67 t ?_
        show Steps p.tables e below (T66.setTop (mkF m 107 #[.val (.int p0), .val (.int p1), .val (.int p2), .val (.int p3), .val (.int p4), .val (.int (if (p4 &&& (1 : Int32)) = (0 : Int32) then p2 else p0 : Int32)), .val (.int (if (p4 &&& (2 : Int32)) = (0 : Int32) then p3 else p1 : Int32)), .val (.ref a), .val (.ref b), .val (.int (if p0 = (if (p4 &&& (1 : Int32)) = (0 : Int32) then p2 else p0 : Int32) then (if p1 = (if (p4 &&& (2 : Int32)) = (0 : Int32) then p3 else p1 : Int32) then (1 : Int32) else (0 : Int32)) else (0 : Int32) : Int32)), .val (.ref r), .val (.int (if p0 = (if (p4 &&& (1 : Int32)) = (0 : Int32) then p2 else p0 : Int32) then (if p1 = (if (p4 &&& (2 : Int32)) = (0 : Int32) then p3 else p1 : Int32) then (1 : Int32) else (0 : Int32)) else (0 : Int32))), .val (.int (if (if (p4 &&& (1 : Int32)) = (0 : Int32) then p2 else p0 : Int32) = p0 then (if (if (p4 &&& (2 : Int32)) = (0 : Int32) then p3 else p1 : Int32) = p1 then (1 : Int32) else (0 : Int32)) else (0 : Int32))), .val (.int (if p0 = p0 then (if p1 = p1 then (1 : Int32) else (0 : Int32)) else (0 : Int32))), .unset, .unset] [.null, (.ref a)])) _
        refine st68.trans ?_
        show Steps p.tables e below (T68.setTop (mkF m 110 #[.val (.int p0), .val (.int p1), .val (.int p2), .val (.int p3), .val (.int p4), .val (.int (if (p4 &&& (1 : Int32)) = (0 : Int32) then p2 else p0 : Int32)), .val (.int (if (p4 &&& (2 : Int32)) = (0 : Int32) then p3 else p1 : Int32)), .val (.ref a), .val (.ref b), .val (.int (if p0 = (if (p4 &&& (1 : Int32)) = (0 : Int32) then p2 else p0 : Int32) then (if p1 = (if (p4 &&& (2 : Int32)) = (0 : Int32) then p3 else p1 : Int32) then (1 : Int32) else (0 : Int32)) else (0 : Int32) : Int32)), .val (.ref r), .val (.int (if p0 = (if (p4 &&& (1 : Int32)) = (0 : Int32) then p2 else p0 : Int32) then (if p1 = (if (p4 &&& (2 : Int32)) = (0 : Int32) then p3 else p1 : Int32) then (1 : Int32) else (0 : Int32)) else (0 : Int32))), .val (.int (if (if (p4 &&& (1 : Int32)) = (0 : Int32) then p2 else p0 : Int32) = p0 then (if (if (p4 &&& (2 : Int32)) = (0 : Int32) then p3 else p1 : Int32) = p1 then (1 : Int32) else (0 : Int32)) else (0 : Int32))), .val (.int (if p0 = p0 then (if p1 = p1 then (1 : Int32) else (0 : Int32)) else (0 : Int32))), .unset, .unset] [(.int (0 : Int32))])) _
        refine XS.istore X68.here hx rfl (hb hby at_110) rfl (l' := #[.val (.int p0), .val (.int p1), .val (.int p2), .val (.int p3), .val (.int p4), .val (.int (if (p4 &&& (1 : Int32)) = (0 : Int32) then p2 else p0 : Int32)), .val (.int (if (p4 &&& (2 : Int32)) = (0 : Int32) then p3 else p1 : Int32)), .val (.ref a), .val (.ref b), .val (.int (if p0 = (if (p4 &&& (1 : Int32)) = (0 : Int32) then p2 else p0 : Int32) then (if p1 = (if (p4 &&& (2 : Int32)) = (0 : Int32) then p3 else p1 : Int32) then (1 : Int32) else (0 : Int32)) else (0 : Int32) : Int32)), .val (.ref r), .val (.int (if p0 = (if (p4 &&& (1 : Int32)) = (0 : Int32) then p2 else p0 : Int32) then (if p1 = (if (p4 &&& (2 : Int32)) = (0 : Int32) then p3 else p1 : Int32) then (1 : Int32) else (0 : Int32)) else (0 : Int32))), .val (.int (if (if (p4 &&& (1 : Int32)) = (0 : Int32) then p2 else p0 : Int32) = p0 then (if (if (p4 &&& (2 : Int32)) = (0 : Int32) then p3 else p1 : Int32) = p1 then (1 : Int32) else (0 : Int32)) else (0 : Int32))), .val (.int (if p0 = p0 then (if p1 = p1 then (1 : Int32) else (0 : Int32)) else (0 : Int32))), .val (.int (0 : Int32)), .unset]) rfl ?_
        show Steps p.tables e below (T68.setTop (mkF m 112 #[.val (.int p0), .val (.int p1), .val (.int p2), .val (.int p3), .val (.int p4), .val (.int (if (p4 &&& (1 : Int32)) = (0 : Int32) then p2 else p0 : Int32)), .val (.int (if (p4 &&& (2 : Int32)) = (0 : Int32) then p3 else p1 : Int32)), .val (.ref a), .val (.ref b), .val (.int (if p0 = (if (p4 &&& (1 : Int32)) = (0 : Int32) then p2 else p0 : Int32) then (if p1 = (if (p4 &&& (2 : Int32)) = (0 : Int32) then p3 else p1 : Int32) then (1 : Int32) else (0 : Int32)) else (0 : Int32) : Int32)), .val (.ref r), .val (.int (if p0 = (if (p4 &&& (1 : Int32)) = (0 : Int32) then p2 else p0 : Int32) then (if p1 = (if (p4 &&& (2 : Int32)) = (0 : Int32) then p3 else p1 : Int32) then (1 : Int32) else (0 : Int32)) else (0 : Int32))), .val (.int (if (if (p4 &&& (1 : Int32)) = (0 : Int32) then p2 else p0 : Int32) = p0 then (if (if (p4 &&& (2 : Int32)) = (0 : Int32) then p3 else p1 : Int32) = p1 then (1 : Int32) else (0 : Int32)) else (0 : Int32))), .val (.int (if p0 = p0 then (if p1 = p1 then (1 : Int32) else (0 : Int32)) else (0 : Int32))), .val (.int (0 : Int32)), .unset] [])) _
        refine XS.aload X68.here hx rfl (hb hby at_112) rfl rfl ?_
        show Steps p.tables e below (T68.setTop (mkF m 114 #[.val (.int p0), .val (.int p1), .val (.int p2), .val (.int p3), .val (.int p4), .val (.int (if (p4 &&& (1 : Int32)) = (0 : Int32) then p2 else p0 : Int32)), .val (.int (if (p4 &&& (2 : Int32)) = (0 : Int32) then p3 else p1 : Int32)), .val (.ref a), .val (.ref b), .val (.int (if p0 = (if (p4 &&& (1 : Int32)) = (0 : Int32) then p2 else p0 : Int32) then (if p1 = (if (p4 &&& (2 : Int32)) = (0 : Int32) then p3 else p1 : Int32) then (1 : Int32) else (0 : Int32)) else (0 : Int32) : Int32)), .val (.ref r), .val (.int (if p0 = (if (p4 &&& (1 : Int32)) = (0 : Int32) then p2 else p0 : Int32) then (if p1 = (if (p4 &&& (2 : Int32)) = (0 : Int32) then p3 else p1 : Int32) then (1 : Int32) else (0 : Int32)) else (0 : Int32))), .val (.int (if (if (p4 &&& (1 : Int32)) = (0 : Int32) then p2 else p0 : Int32) = p0 then (if (if (p4 &&& (2 : Int32)) = (0 : Int32) then p3 else p1 : Int32) = p1 then (1 : Int32) else (0 : Int32)) else (0 : Int32))), .val (.int (if p0 = p0 then (if p1 = p1 then (1 : Int32) else (0 : Int32)) else (0 : Int32))), .val (.int (0 : Int32)), .unset] [(.ref a)])) _
        refine XS.aload X68.here hx rfl (hb hby at_114) rfl rfl ?_
        exact k
      obtain ⟨cq70, kq70, q70a, q70b, q70c⟩ := isOf hZ e68 E_a
      obtain ⟨_, _, ⟨T70, L70, k70, n70⟩, -, X70, ⟨Lc70, hQ70, l70, y70, z70⟩, st70⟩ := X68.virtualBack hx (y := (⟨"com/example/tapline/emv/RecordNumber", "equals", "(Ljava/lang/Object;)Z"⟩ : MethodName)) (z := (⟨"com/example/tapline/emv/RecordNumber", "equals", "(Ljava/lang/Object;)Z"⟩ : MethodName)) hown (mvT hZ (hw _ (List.mem_of_getElem? (i := 25) rfl))) (mvT hZ (hw _ (List.mem_of_getElem? (i := 26) rfl))) (notFace_of_selects (args := #[]) (mvT hZ (hw _ (List.mem_of_getElem? (i := 28) rfl)))) (mvT hZ (hw _ (List.mem_of_getElem? (i := 28) rfl))) (mvT hZ (hw _ (List.mem_of_getElem? (i := 27) rfl))) (by decide) (backOf (W := 0) (rm5i l Z a0 hw [] a r T23.heap n0 Sz23 E_r) hZ (hw _ (List.mem_of_getElem? (i := 29) rfl)) (hw _ (List.mem_of_getElem? (i := 2) rfl)) (by decide) (by decide)) q70a q70c (g := (mkF m 116 #[.val (.int p0), .val (.int p1), .val (.int p2), .val (.int p3), .val (.int p4), .val (.int (if (p4 &&& (1 : Int32)) = (0 : Int32) then p2 else p0 : Int32)), .val (.int (if (p4 &&& (2 : Int32)) = (0 : Int32) then p3 else p1 : Int32)), .val (.ref a), .val (.ref b), .val (.int (if p0 = (if (p4 &&& (1 : Int32)) = (0 : Int32) then p2 else p0 : Int32) then (if p1 = (if (p4 &&& (2 : Int32)) = (0 : Int32) then p3 else p1 : Int32) then (1 : Int32) else (0 : Int32)) else (0 : Int32) : Int32)), .val (.ref r), .val (.int (if p0 = (if (p4 &&& (1 : Int32)) = (0 : Int32) then p2 else p0 : Int32) then (if p1 = (if (p4 &&& (2 : Int32)) = (0 : Int32) then p3 else p1 : Int32) then (1 : Int32) else (0 : Int32)) else (0 : Int32))), .val (.int (if (if (p4 &&& (1 : Int32)) = (0 : Int32) then p2 else p0 : Int32) = p0 then (if (if (p4 &&& (2 : Int32)) = (0 : Int32) then p3 else p1 : Int32) = p1 then (1 : Int32) else (0 : Int32)) else (0 : Int32))), .val (.int (if p0 = p0 then (if p1 = p1 then (1 : Int32) else (0 : Int32)) else (0 : Int32))), .val (.int (0 : Int32)), .unset] [(.ref r), (.ref a)])) rfl (by rw [hml]; rfl) (Steps.refl _) (argsL := [(.ref r)]) (rest := []) (lenOf pd_4 rfl) rfl (by show 2 * 0 + _ ≤ _; exact Nat.le_of_eq rfl) (hb hby at_116) (fun _ _ => ⟨rfl, e68, (by decide : 2 + 0 ≤ _), (by decide : 4 + 0 ≤ _)⟩)
      dsimp only [Pt.U, Pt.locs, Pt.cells, Pt.slots] at X70 l70 y70 z70 st70 hQ70
      subst l70 y70 z70
      obtain ⟨rfl, Nq70, eq70⟩ := hQ70
      have N70 := Fr.app N68 Nq70
      have e70 : T70.heap = T23.heap := eq70
      have R71 : ∀ t, Steps p.tables e below (T70.setTop (mkF m 155 #[.val (.int p0), .val (.int p1), .val (.int p2), .val (.int p3), .val (.int p4), .val (.int (if (p4 &&& (1 : Int32)) = (0 : Int32) then p2 else p0 : Int32)), .val (.int (if (p4 &&& (2 : Int32)) = (0 : Int32) then p3 else p1 : Int32)), .val (.ref a), .val (.ref b), .val (.int (if p0 = (if (p4 &&& (1 : Int32)) = (0 : Int32) then p2 else p0 : Int32) then (if p1 = (if (p4 &&& (2 : Int32)) = (0 : Int32) then p3 else p1 : Int32) then (1 : Int32) else (0 : Int32)) else (0 : Int32) : Int32)), .val (.ref r), .val (.int (if p0 = (if (p4 &&& (1 : Int32)) = (0 : Int32) then p2 else p0 : Int32) then (if p1 = (if (p4 &&& (2 : Int32)) = (0 : Int32) then p3 else p1 : Int32) then (1 : Int32) else (0 : Int32)) else (0 : Int32))), .val (.int (if (if (p4 &&& (1 : Int32)) = (0 : Int32) then p2 else p0 : Int32) = p0 then (if (if (p4 &&& (2 : Int32)) = (0 : Int32) then p3 else p1 : Int32) = p1 then (1 : Int32) else (0 : Int32)) else (0 : Int32))), .val (.int (if p0 = p0 then (if p1 = p1 then (1 : Int32) else (0 : Int32)) else (0 : Int32))), .val (.int (0 : Int32)), .val (.int (0 : Int32))] [(.int (1 : Int32))])) t → Steps p.tables e below (s₁.setTop (entryFrame m #[(.int p0), (.int p1), (.int p2), (.int p3), (.int p4)] maxLocals)) t := by
        intro t k
        refine R69 t ?_
        show Steps p.tables e below (T68.setTop (mkF m 116 #[.val (.int p0), .val (.int p1), .val (.int p2), .val (.int p3), .val (.int p4), .val (.int (if (p4 &&& (1 : Int32)) = (0 : Int32) then p2 else p0 : Int32)), .val (.int (if (p4 &&& (2 : Int32)) = (0 : Int32) then p3 else p1 : Int32)), .val (.ref a), .val (.ref b), .val (.int (if p0 = (if (p4 &&& (1 : Int32)) = (0 : Int32) then p2 else p0 : Int32) then (if p1 = (if (p4 &&& (2 : Int32)) = (0 : Int32) then p3 else p1 : Int32) then (1 : Int32) else (0 : Int32)) else (0 : Int32) : Int32)), .val (.ref r), .val (.int (if p0 = (if (p4 &&& (1 : Int32)) = (0 : Int32) then p2 else p0 : Int32) then (if p1 = (if (p4 &&& (2 : Int32)) = (0 : Int32) then p3 else p1 : Int32) then (1 : Int32) else (0 : Int32)) else (0 : Int32))), .val (.int (if (if (p4 &&& (1 : Int32)) = (0 : Int32) then p2 else p0 : Int32) = p0 then (if (if (p4 &&& (2 : Int32)) = (0 : Int32) then p3 else p1 : Int32) = p1 then (1 : Int32) else (0 : Int32)) else (0 : Int32))), .val (.int (if p0 = p0 then (if p1 = p1 then (1 : Int32) else (0 : Int32)) else (0 : Int32))), .val (.int (0 : Int32)), .unset] [(.ref r), (.ref a)])) _
        refine st70.trans ?_
        show Steps p.tables e below (T70.setTop (mkF m 119 #[.val (.int p0), .val (.int p1), .val (.int p2), .val (.int p3), .val (.int p4), .val (.int (if (p4 &&& (1 : Int32)) = (0 : Int32) then p2 else p0 : Int32)), .val (.int (if (p4 &&& (2 : Int32)) = (0 : Int32) then p3 else p1 : Int32)), .val (.ref a), .val (.ref b), .val (.int (if p0 = (if (p4 &&& (1 : Int32)) = (0 : Int32) then p2 else p0 : Int32) then (if p1 = (if (p4 &&& (2 : Int32)) = (0 : Int32) then p3 else p1 : Int32) then (1 : Int32) else (0 : Int32)) else (0 : Int32) : Int32)), .val (.ref r), .val (.int (if p0 = (if (p4 &&& (1 : Int32)) = (0 : Int32) then p2 else p0 : Int32) then (if p1 = (if (p4 &&& (2 : Int32)) = (0 : Int32) then p3 else p1 : Int32) then (1 : Int32) else (0 : Int32)) else (0 : Int32))), .val (.int (if (if (p4 &&& (1 : Int32)) = (0 : Int32) then p2 else p0 : Int32) = p0 then (if (if (p4 &&& (2 : Int32)) = (0 : Int32) then p3 else p1 : Int32) = p1 then (1 : Int32) else (0 : Int32)) else (0 : Int32))), .val (.int (if p0 = p0 then (if p1 = p1 then (1 : Int32) else (0 : Int32)) else (0 : Int32))), .val (.int (0 : Int32)), .unset] [(.int (0 : Int32))])) _
        refine XS.istore X70.here hx rfl (hb hby at_119) rfl (l' := #[.val (.int p0), .val (.int p1), .val (.int p2), .val (.int p3), .val (.int p4), .val (.int (if (p4 &&& (1 : Int32)) = (0 : Int32) then p2 else p0 : Int32)), .val (.int (if (p4 &&& (2 : Int32)) = (0 : Int32) then p3 else p1 : Int32)), .val (.ref a), .val (.ref b), .val (.int (if p0 = (if (p4 &&& (1 : Int32)) = (0 : Int32) then p2 else p0 : Int32) then (if p1 = (if (p4 &&& (2 : Int32)) = (0 : Int32) then p3 else p1 : Int32) then (1 : Int32) else (0 : Int32)) else (0 : Int32) : Int32)), .val (.ref r), .val (.int (if p0 = (if (p4 &&& (1 : Int32)) = (0 : Int32) then p2 else p0 : Int32) then (if p1 = (if (p4 &&& (2 : Int32)) = (0 : Int32) then p3 else p1 : Int32) then (1 : Int32) else (0 : Int32)) else (0 : Int32))), .val (.int (if (if (p4 &&& (1 : Int32)) = (0 : Int32) then p2 else p0 : Int32) = p0 then (if (if (p4 &&& (2 : Int32)) = (0 : Int32) then p3 else p1 : Int32) = p1 then (1 : Int32) else (0 : Int32)) else (0 : Int32))), .val (.int (if p0 = p0 then (if p1 = p1 then (1 : Int32) else (0 : Int32)) else (0 : Int32))), .val (.int (0 : Int32)), .val (.int (0 : Int32))]) rfl ?_
        show Steps p.tables e below (T70.setTop (mkF m 121 #[.val (.int p0), .val (.int p1), .val (.int p2), .val (.int p3), .val (.int p4), .val (.int (if (p4 &&& (1 : Int32)) = (0 : Int32) then p2 else p0 : Int32)), .val (.int (if (p4 &&& (2 : Int32)) = (0 : Int32) then p3 else p1 : Int32)), .val (.ref a), .val (.ref b), .val (.int (if p0 = (if (p4 &&& (1 : Int32)) = (0 : Int32) then p2 else p0 : Int32) then (if p1 = (if (p4 &&& (2 : Int32)) = (0 : Int32) then p3 else p1 : Int32) then (1 : Int32) else (0 : Int32)) else (0 : Int32) : Int32)), .val (.ref r), .val (.int (if p0 = (if (p4 &&& (1 : Int32)) = (0 : Int32) then p2 else p0 : Int32) then (if p1 = (if (p4 &&& (2 : Int32)) = (0 : Int32) then p3 else p1 : Int32) then (1 : Int32) else (0 : Int32)) else (0 : Int32))), .val (.int (if (if (p4 &&& (1 : Int32)) = (0 : Int32) then p2 else p0 : Int32) = p0 then (if (if (p4 &&& (2 : Int32)) = (0 : Int32) then p3 else p1 : Int32) = p1 then (1 : Int32) else (0 : Int32)) else (0 : Int32))), .val (.int (if p0 = p0 then (if p1 = p1 then (1 : Int32) else (0 : Int32)) else (0 : Int32))), .val (.int (0 : Int32)), .val (.int (0 : Int32))] [])) _
        refine XS.iload X70.here hx rfl (hb hby at_121) rfl ?_
        show Steps p.tables e below (T70.setTop (mkF m 123 #[.val (.int p0), .val (.int p1), .val (.int p2), .val (.int p3), .val (.int p4), .val (.int (if (p4 &&& (1 : Int32)) = (0 : Int32) then p2 else p0 : Int32)), .val (.int (if (p4 &&& (2 : Int32)) = (0 : Int32) then p3 else p1 : Int32)), .val (.ref a), .val (.ref b), .val (.int (if p0 = (if (p4 &&& (1 : Int32)) = (0 : Int32) then p2 else p0 : Int32) then (if p1 = (if (p4 &&& (2 : Int32)) = (0 : Int32) then p3 else p1 : Int32) then (1 : Int32) else (0 : Int32)) else (0 : Int32) : Int32)), .val (.ref r), .val (.int (if p0 = (if (p4 &&& (1 : Int32)) = (0 : Int32) then p2 else p0 : Int32) then (if p1 = (if (p4 &&& (2 : Int32)) = (0 : Int32) then p3 else p1 : Int32) then (1 : Int32) else (0 : Int32)) else (0 : Int32))), .val (.int (if (if (p4 &&& (1 : Int32)) = (0 : Int32) then p2 else p0 : Int32) = p0 then (if (if (p4 &&& (2 : Int32)) = (0 : Int32) then p3 else p1 : Int32) = p1 then (1 : Int32) else (0 : Int32)) else (0 : Int32))), .val (.int (if p0 = p0 then (if p1 = p1 then (1 : Int32) else (0 : Int32)) else (0 : Int32))), .val (.int (0 : Int32)), .val (.int (0 : Int32))] [(.int (if p0 = (if (p4 &&& (1 : Int32)) = (0 : Int32) then p2 else p0 : Int32) then (if p1 = (if (p4 &&& (2 : Int32)) = (0 : Int32) then p3 else p1 : Int32) then (1 : Int32) else (0 : Int32)) else (0 : Int32)))])) _
        refine XS.iload X70.here hx rfl (hb hby at_123) rfl ?_
        show Steps p.tables e below (T70.setTop (mkF m 125 #[.val (.int p0), .val (.int p1), .val (.int p2), .val (.int p3), .val (.int p4), .val (.int (if (p4 &&& (1 : Int32)) = (0 : Int32) then p2 else p0 : Int32)), .val (.int (if (p4 &&& (2 : Int32)) = (0 : Int32) then p3 else p1 : Int32)), .val (.ref a), .val (.ref b), .val (.int (if p0 = (if (p4 &&& (1 : Int32)) = (0 : Int32) then p2 else p0 : Int32) then (if p1 = (if (p4 &&& (2 : Int32)) = (0 : Int32) then p3 else p1 : Int32) then (1 : Int32) else (0 : Int32)) else (0 : Int32) : Int32)), .val (.ref r), .val (.int (if p0 = (if (p4 &&& (1 : Int32)) = (0 : Int32) then p2 else p0 : Int32) then (if p1 = (if (p4 &&& (2 : Int32)) = (0 : Int32) then p3 else p1 : Int32) then (1 : Int32) else (0 : Int32)) else (0 : Int32))), .val (.int (if (if (p4 &&& (1 : Int32)) = (0 : Int32) then p2 else p0 : Int32) = p0 then (if (if (p4 &&& (2 : Int32)) = (0 : Int32) then p3 else p1 : Int32) = p1 then (1 : Int32) else (0 : Int32)) else (0 : Int32))), .val (.int (if p0 = p0 then (if p1 = p1 then (1 : Int32) else (0 : Int32)) else (0 : Int32))), .val (.int (0 : Int32)), .val (.int (0 : Int32))] [(.int (if p0 = (if (p4 &&& (1 : Int32)) = (0 : Int32) then p2 else p0 : Int32) then (if p1 = (if (p4 &&& (2 : Int32)) = (0 : Int32) then p3 else p1 : Int32) then (1 : Int32) else (0 : Int32)) else (0 : Int32) : Int32)), (.int (if p0 = (if (p4 &&& (1 : Int32)) = (0 : Int32) then p2 else p0 : Int32) then (if p1 = (if (p4 &&& (2 : Int32)) = (0 : Int32) then p3 else p1 : Int32) then (1 : Int32) else (0 : Int32)) else (0 : Int32)))])) _
        refine XS.icmpNo X70.here hx rfl (hb hby at_125) rfl (teq (rfl : (if p0 = (if (p4 &&& (1 : Int32)) = (0 : Int32) then p2 else p0 : Int32) then (if p1 = (if (p4 &&& (2 : Int32)) = (0 : Int32) then p3 else p1 : Int32) then (1 : Int32) else (0 : Int32)) else (0 : Int32) : Int32) = (if p0 = (if (p4 &&& (1 : Int32)) = (0 : Int32) then p2 else p0 : Int32) then (if p1 = (if (p4 &&& (2 : Int32)) = (0 : Int32) then p3 else p1 : Int32) then (1 : Int32) else (0 : Int32)) else (0 : Int32) : Int32))).2 ?_
        show Steps p.tables e below (T70.setTop (mkF m 128 #[.val (.int p0), .val (.int p1), .val (.int p2), .val (.int p3), .val (.int p4), .val (.int (if (p4 &&& (1 : Int32)) = (0 : Int32) then p2 else p0 : Int32)), .val (.int (if (p4 &&& (2 : Int32)) = (0 : Int32) then p3 else p1 : Int32)), .val (.ref a), .val (.ref b), .val (.int (if p0 = (if (p4 &&& (1 : Int32)) = (0 : Int32) then p2 else p0 : Int32) then (if p1 = (if (p4 &&& (2 : Int32)) = (0 : Int32) then p3 else p1 : Int32) then (1 : Int32) else (0 : Int32)) else (0 : Int32) : Int32)), .val (.ref r), .val (.int (if p0 = (if (p4 &&& (1 : Int32)) = (0 : Int32) then p2 else p0 : Int32) then (if p1 = (if (p4 &&& (2 : Int32)) = (0 : Int32) then p3 else p1 : Int32) then (1 : Int32) else (0 : Int32)) else (0 : Int32))), .val (.int (if (if (p4 &&& (1 : Int32)) = (0 : Int32) then p2 else p0 : Int32) = p0 then (if (if (p4 &&& (2 : Int32)) = (0 : Int32) then p3 else p1 : Int32) = p1 then (1 : Int32) else (0 : Int32)) else (0 : Int32))), .val (.int (if p0 = p0 then (if p1 = p1 then (1 : Int32) else (0 : Int32)) else (0 : Int32))), .val (.int (0 : Int32)), .val (.int (0 : Int32))] [])) _
        refine XS.iload X70.here hx rfl (hb hby at_128) rfl ?_
        show Steps p.tables e below (T70.setTop (mkF m 130 #[.val (.int p0), .val (.int p1), .val (.int p2), .val (.int p3), .val (.int p4), .val (.int (if (p4 &&& (1 : Int32)) = (0 : Int32) then p2 else p0 : Int32)), .val (.int (if (p4 &&& (2 : Int32)) = (0 : Int32) then p3 else p1 : Int32)), .val (.ref a), .val (.ref b), .val (.int (if p0 = (if (p4 &&& (1 : Int32)) = (0 : Int32) then p2 else p0 : Int32) then (if p1 = (if (p4 &&& (2 : Int32)) = (0 : Int32) then p3 else p1 : Int32) then (1 : Int32) else (0 : Int32)) else (0 : Int32) : Int32)), .val (.ref r), .val (.int (if p0 = (if (p4 &&& (1 : Int32)) = (0 : Int32) then p2 else p0 : Int32) then (if p1 = (if (p4 &&& (2 : Int32)) = (0 : Int32) then p3 else p1 : Int32) then (1 : Int32) else (0 : Int32)) else (0 : Int32))), .val (.int (if (if (p4 &&& (1 : Int32)) = (0 : Int32) then p2 else p0 : Int32) = p0 then (if (if (p4 &&& (2 : Int32)) = (0 : Int32) then p3 else p1 : Int32) = p1 then (1 : Int32) else (0 : Int32)) else (0 : Int32))), .val (.int (if p0 = p0 then (if p1 = p1 then (1 : Int32) else (0 : Int32)) else (0 : Int32))), .val (.int (0 : Int32)), .val (.int (0 : Int32))] [(.int (if (if (p4 &&& (1 : Int32)) = (0 : Int32) then p2 else p0 : Int32) = p0 then (if (if (p4 &&& (2 : Int32)) = (0 : Int32) then p3 else p1 : Int32) = p1 then (1 : Int32) else (0 : Int32)) else (0 : Int32)))])) _
        refine XS.iload X70.here hx rfl (hb hby at_130) rfl ?_
        show Steps p.tables e below (T70.setTop (mkF m 132 #[.val (.int p0), .val (.int p1), .val (.int p2), .val (.int p3), .val (.int p4), .val (.int (if (p4 &&& (1 : Int32)) = (0 : Int32) then p2 else p0 : Int32)), .val (.int (if (p4 &&& (2 : Int32)) = (0 : Int32) then p3 else p1 : Int32)), .val (.ref a), .val (.ref b), .val (.int (if p0 = (if (p4 &&& (1 : Int32)) = (0 : Int32) then p2 else p0 : Int32) then (if p1 = (if (p4 &&& (2 : Int32)) = (0 : Int32) then p3 else p1 : Int32) then (1 : Int32) else (0 : Int32)) else (0 : Int32) : Int32)), .val (.ref r), .val (.int (if p0 = (if (p4 &&& (1 : Int32)) = (0 : Int32) then p2 else p0 : Int32) then (if p1 = (if (p4 &&& (2 : Int32)) = (0 : Int32) then p3 else p1 : Int32) then (1 : Int32) else (0 : Int32)) else (0 : Int32))), .val (.int (if (if (p4 &&& (1 : Int32)) = (0 : Int32) then p2 else p0 : Int32) = p0 then (if (if (p4 &&& (2 : Int32)) = (0 : Int32) then p3 else p1 : Int32) = p1 then (1 : Int32) else (0 : Int32)) else (0 : Int32))), .val (.int (if p0 = p0 then (if p1 = p1 then (1 : Int32) else (0 : Int32)) else (0 : Int32))), .val (.int (0 : Int32)), .val (.int (0 : Int32))] [(.int (if p0 = (if (p4 &&& (1 : Int32)) = (0 : Int32) then p2 else p0 : Int32) then (if p1 = (if (p4 &&& (2 : Int32)) = (0 : Int32) then p3 else p1 : Int32) then (1 : Int32) else (0 : Int32)) else (0 : Int32) : Int32)), (.int (if (if (p4 &&& (1 : Int32)) = (0 : Int32) then p2 else p0 : Int32) = p0 then (if (if (p4 &&& (2 : Int32)) = (0 : Int32) then p3 else p1 : Int32) = p1 then (1 : Int32) else (0 : Int32)) else (0 : Int32)))])) _
        refine XS.icmpNo X70.here hx rfl (hb hby at_132) rfl (teq (own_sw p0 (if (p4 &&& (1 : Int32)) = (0 : Int32) then p2 else p0 : Int32) p1 (if (p4 &&& (2 : Int32)) = (0 : Int32) then p3 else p1 : Int32))).2 ?_
        show Steps p.tables e below (T70.setTop (mkF m 135 #[.val (.int p0), .val (.int p1), .val (.int p2), .val (.int p3), .val (.int p4), .val (.int (if (p4 &&& (1 : Int32)) = (0 : Int32) then p2 else p0 : Int32)), .val (.int (if (p4 &&& (2 : Int32)) = (0 : Int32) then p3 else p1 : Int32)), .val (.ref a), .val (.ref b), .val (.int (if p0 = (if (p4 &&& (1 : Int32)) = (0 : Int32) then p2 else p0 : Int32) then (if p1 = (if (p4 &&& (2 : Int32)) = (0 : Int32) then p3 else p1 : Int32) then (1 : Int32) else (0 : Int32)) else (0 : Int32) : Int32)), .val (.ref r), .val (.int (if p0 = (if (p4 &&& (1 : Int32)) = (0 : Int32) then p2 else p0 : Int32) then (if p1 = (if (p4 &&& (2 : Int32)) = (0 : Int32) then p3 else p1 : Int32) then (1 : Int32) else (0 : Int32)) else (0 : Int32))), .val (.int (if (if (p4 &&& (1 : Int32)) = (0 : Int32) then p2 else p0 : Int32) = p0 then (if (if (p4 &&& (2 : Int32)) = (0 : Int32) then p3 else p1 : Int32) = p1 then (1 : Int32) else (0 : Int32)) else (0 : Int32))), .val (.int (if p0 = p0 then (if p1 = p1 then (1 : Int32) else (0 : Int32)) else (0 : Int32))), .val (.int (0 : Int32)), .val (.int (0 : Int32))] [])) _
        refine XS.iload X70.here hx rfl (hb hby at_135) rfl ?_
        show Steps p.tables e below (T70.setTop (mkF m 137 #[.val (.int p0), .val (.int p1), .val (.int p2), .val (.int p3), .val (.int p4), .val (.int (if (p4 &&& (1 : Int32)) = (0 : Int32) then p2 else p0 : Int32)), .val (.int (if (p4 &&& (2 : Int32)) = (0 : Int32) then p3 else p1 : Int32)), .val (.ref a), .val (.ref b), .val (.int (if p0 = (if (p4 &&& (1 : Int32)) = (0 : Int32) then p2 else p0 : Int32) then (if p1 = (if (p4 &&& (2 : Int32)) = (0 : Int32) then p3 else p1 : Int32) then (1 : Int32) else (0 : Int32)) else (0 : Int32) : Int32)), .val (.ref r), .val (.int (if p0 = (if (p4 &&& (1 : Int32)) = (0 : Int32) then p2 else p0 : Int32) then (if p1 = (if (p4 &&& (2 : Int32)) = (0 : Int32) then p3 else p1 : Int32) then (1 : Int32) else (0 : Int32)) else (0 : Int32))), .val (.int (if (if (p4 &&& (1 : Int32)) = (0 : Int32) then p2 else p0 : Int32) = p0 then (if (if (p4 &&& (2 : Int32)) = (0 : Int32) then p3 else p1 : Int32) = p1 then (1 : Int32) else (0 : Int32)) else (0 : Int32))), .val (.int (if p0 = p0 then (if p1 = p1 then (1 : Int32) else (0 : Int32)) else (0 : Int32))), .val (.int (0 : Int32)), .val (.int (0 : Int32))] [(.int (if p0 = p0 then (if p1 = p1 then (1 : Int32) else (0 : Int32)) else (0 : Int32)))])) _
        refine XS.ifNo X70.here hx rfl (hb hby at_137) rfl ((if0 _ _).trans (feq (by simp)).1) ?_
        show Steps p.tables e below (T70.setTop (mkF m 140 #[.val (.int p0), .val (.int p1), .val (.int p2), .val (.int p3), .val (.int p4), .val (.int (if (p4 &&& (1 : Int32)) = (0 : Int32) then p2 else p0 : Int32)), .val (.int (if (p4 &&& (2 : Int32)) = (0 : Int32) then p3 else p1 : Int32)), .val (.ref a), .val (.ref b), .val (.int (if p0 = (if (p4 &&& (1 : Int32)) = (0 : Int32) then p2 else p0 : Int32) then (if p1 = (if (p4 &&& (2 : Int32)) = (0 : Int32) then p3 else p1 : Int32) then (1 : Int32) else (0 : Int32)) else (0 : Int32) : Int32)), .val (.ref r), .val (.int (if p0 = (if (p4 &&& (1 : Int32)) = (0 : Int32) then p2 else p0 : Int32) then (if p1 = (if (p4 &&& (2 : Int32)) = (0 : Int32) then p3 else p1 : Int32) then (1 : Int32) else (0 : Int32)) else (0 : Int32))), .val (.int (if (if (p4 &&& (1 : Int32)) = (0 : Int32) then p2 else p0 : Int32) = p0 then (if (if (p4 &&& (2 : Int32)) = (0 : Int32) then p3 else p1 : Int32) = p1 then (1 : Int32) else (0 : Int32)) else (0 : Int32))), .val (.int (if p0 = p0 then (if p1 = p1 then (1 : Int32) else (0 : Int32)) else (0 : Int32))), .val (.int (0 : Int32)), .val (.int (0 : Int32))] [])) _
        refine XS.iload X70.here hx rfl (hb hby at_140) rfl ?_
        show Steps p.tables e below (T70.setTop (mkF m 142 #[.val (.int p0), .val (.int p1), .val (.int p2), .val (.int p3), .val (.int p4), .val (.int (if (p4 &&& (1 : Int32)) = (0 : Int32) then p2 else p0 : Int32)), .val (.int (if (p4 &&& (2 : Int32)) = (0 : Int32) then p3 else p1 : Int32)), .val (.ref a), .val (.ref b), .val (.int (if p0 = (if (p4 &&& (1 : Int32)) = (0 : Int32) then p2 else p0 : Int32) then (if p1 = (if (p4 &&& (2 : Int32)) = (0 : Int32) then p3 else p1 : Int32) then (1 : Int32) else (0 : Int32)) else (0 : Int32) : Int32)), .val (.ref r), .val (.int (if p0 = (if (p4 &&& (1 : Int32)) = (0 : Int32) then p2 else p0 : Int32) then (if p1 = (if (p4 &&& (2 : Int32)) = (0 : Int32) then p3 else p1 : Int32) then (1 : Int32) else (0 : Int32)) else (0 : Int32))), .val (.int (if (if (p4 &&& (1 : Int32)) = (0 : Int32) then p2 else p0 : Int32) = p0 then (if (if (p4 &&& (2 : Int32)) = (0 : Int32) then p3 else p1 : Int32) = p1 then (1 : Int32) else (0 : Int32)) else (0 : Int32))), .val (.int (if p0 = p0 then (if p1 = p1 then (1 : Int32) else (0 : Int32)) else (0 : Int32))), .val (.int (0 : Int32)), .val (.int (0 : Int32))] [(.int (0 : Int32))])) _
        refine XS.ifNo X70.here hx rfl (hb hby at_142) rfl ((if0 _ _).trans (teq (by decide)).2) ?_
        show Steps p.tables e below (T70.setTop (mkF m 145 #[.val (.int p0), .val (.int p1), .val (.int p2), .val (.int p3), .val (.int p4), .val (.int (if (p4 &&& (1 : Int32)) = (0 : Int32) then p2 else p0 : Int32)), .val (.int (if (p4 &&& (2 : Int32)) = (0 : Int32) then p3 else p1 : Int32)), .val (.ref a), .val (.ref b), .val (.int (if p0 = (if (p4 &&& (1 : Int32)) = (0 : Int32) then p2 else p0 : Int32) then (if p1 = (if (p4 &&& (2 : Int32)) = (0 : Int32) then p3 else p1 : Int32) then (1 : Int32) else (0 : Int32)) else (0 : Int32) : Int32)), .val (.ref r), .val (.int (if p0 = (if (p4 &&& (1 : Int32)) = (0 : Int32) then p2 else p0 : Int32) then (if p1 = (if (p4 &&& (2 : Int32)) = (0 : Int32) then p3 else p1 : Int32) then (1 : Int32) else (0 : Int32)) else (0 : Int32))), .val (.int (if (if (p4 &&& (1 : Int32)) = (0 : Int32) then p2 else p0 : Int32) = p0 then (if (if (p4 &&& (2 : Int32)) = (0 : Int32) then p3 else p1 : Int32) = p1 then (1 : Int32) else (0 : Int32)) else (0 : Int32))), .val (.int (if p0 = p0 then (if p1 = p1 then (1 : Int32) else (0 : Int32)) else (0 : Int32))), .val (.int (0 : Int32)), .val (.int (0 : Int32))] [])) _
        refine XS.iload X70.here hx rfl (hb hby at_145) rfl ?_
        show Steps p.tables e below (T70.setTop (mkF m 147 #[.val (.int p0), .val (.int p1), .val (.int p2), .val (.int p3), .val (.int p4), .val (.int (if (p4 &&& (1 : Int32)) = (0 : Int32) then p2 else p0 : Int32)), .val (.int (if (p4 &&& (2 : Int32)) = (0 : Int32) then p3 else p1 : Int32)), .val (.ref a), .val (.ref b), .val (.int (if p0 = (if (p4 &&& (1 : Int32)) = (0 : Int32) then p2 else p0 : Int32) then (if p1 = (if (p4 &&& (2 : Int32)) = (0 : Int32) then p3 else p1 : Int32) then (1 : Int32) else (0 : Int32)) else (0 : Int32) : Int32)), .val (.ref r), .val (.int (if p0 = (if (p4 &&& (1 : Int32)) = (0 : Int32) then p2 else p0 : Int32) then (if p1 = (if (p4 &&& (2 : Int32)) = (0 : Int32) then p3 else p1 : Int32) then (1 : Int32) else (0 : Int32)) else (0 : Int32))), .val (.int (if (if (p4 &&& (1 : Int32)) = (0 : Int32) then p2 else p0 : Int32) = p0 then (if (if (p4 &&& (2 : Int32)) = (0 : Int32) then p3 else p1 : Int32) = p1 then (1 : Int32) else (0 : Int32)) else (0 : Int32))), .val (.int (if p0 = p0 then (if p1 = p1 then (1 : Int32) else (0 : Int32)) else (0 : Int32))), .val (.int (0 : Int32)), .val (.int (0 : Int32))] [(.int (0 : Int32))])) _
        refine XS.ifNo X70.here hx rfl (hb hby at_147) rfl ((if0 _ _).trans (teq (by decide)).2) ?_
        show Steps p.tables e below (T70.setTop (mkF m 150 #[.val (.int p0), .val (.int p1), .val (.int p2), .val (.int p3), .val (.int p4), .val (.int (if (p4 &&& (1 : Int32)) = (0 : Int32) then p2 else p0 : Int32)), .val (.int (if (p4 &&& (2 : Int32)) = (0 : Int32) then p3 else p1 : Int32)), .val (.ref a), .val (.ref b), .val (.int (if p0 = (if (p4 &&& (1 : Int32)) = (0 : Int32) then p2 else p0 : Int32) then (if p1 = (if (p4 &&& (2 : Int32)) = (0 : Int32) then p3 else p1 : Int32) then (1 : Int32) else (0 : Int32)) else (0 : Int32) : Int32)), .val (.ref r), .val (.int (if p0 = (if (p4 &&& (1 : Int32)) = (0 : Int32) then p2 else p0 : Int32) then (if p1 = (if (p4 &&& (2 : Int32)) = (0 : Int32) then p3 else p1 : Int32) then (1 : Int32) else (0 : Int32)) else (0 : Int32))), .val (.int (if (if (p4 &&& (1 : Int32)) = (0 : Int32) then p2 else p0 : Int32) = p0 then (if (if (p4 &&& (2 : Int32)) = (0 : Int32) then p3 else p1 : Int32) = p1 then (1 : Int32) else (0 : Int32)) else (0 : Int32))), .val (.int (if p0 = p0 then (if p1 = p1 then (1 : Int32) else (0 : Int32)) else (0 : Int32))), .val (.int (0 : Int32)), .val (.int (0 : Int32))] [])) _
        refine XS.iconst X70.here hx rfl (hb hby at_150) ?_
        show Steps p.tables e below (T70.setTop (mkF m 151 #[.val (.int p0), .val (.int p1), .val (.int p2), .val (.int p3), .val (.int p4), .val (.int (if (p4 &&& (1 : Int32)) = (0 : Int32) then p2 else p0 : Int32)), .val (.int (if (p4 &&& (2 : Int32)) = (0 : Int32) then p3 else p1 : Int32)), .val (.ref a), .val (.ref b), .val (.int (if p0 = (if (p4 &&& (1 : Int32)) = (0 : Int32) then p2 else p0 : Int32) then (if p1 = (if (p4 &&& (2 : Int32)) = (0 : Int32) then p3 else p1 : Int32) then (1 : Int32) else (0 : Int32)) else (0 : Int32) : Int32)), .val (.ref r), .val (.int (if p0 = (if (p4 &&& (1 : Int32)) = (0 : Int32) then p2 else p0 : Int32) then (if p1 = (if (p4 &&& (2 : Int32)) = (0 : Int32) then p3 else p1 : Int32) then (1 : Int32) else (0 : Int32)) else (0 : Int32))), .val (.int (if (if (p4 &&& (1 : Int32)) = (0 : Int32) then p2 else p0 : Int32) = p0 then (if (if (p4 &&& (2 : Int32)) = (0 : Int32) then p3 else p1 : Int32) = p1 then (1 : Int32) else (0 : Int32)) else (0 : Int32))), .val (.int (if p0 = p0 then (if p1 = p1 then (1 : Int32) else (0 : Int32)) else (0 : Int32))), .val (.int (0 : Int32)), .val (.int (0 : Int32))] [(.int (1 : Int32))])) _
        refine XS.goto X70.here hx rfl (pc0 := 151) (pc' := 155) rfl (hb hby at_151) (by decide) (by decide) ?_
        exact k
      obtain ⟨fs, hr, hrun, hended, hW, hsame⟩ := X70.leave (v := some (.int (1 : Int32))) (fun h => by rw [Bd.returns] at h; cases h)
      refine ⟨_, _, R71 _ ?_, hrun, hended, _, _, rfl, ?_, ⟨_, rfl⟩, hW, hsame.mono (by decide) (by decide)⟩
      · exact retN X70 hx (t := .boolean) Bd.returns (by simp) (hb hby at_155) hr
      · show Q0 Z p0 p1 p2 p3 p4 ca cl h0 n0 _ T70.heap _
        rw [e70]
        exact ⟨rfl, N70⟩
set_option maxRecDepth 65536 in
set_option maxHeartbeats 40000000 in
theorem comes_1 {Post : Tables → Env → Array Value → State → Outcome → State → Prop} (hpost : ∀ tb e args s v u, (limb_1_1.after args s (.returned v) u = true ∧ limb_1_2.after args s (.returned v) u = true ∧ True) → FrameEnd s (.returned v) u (Jvm.fieldLocs frame_1_writes args s ++ Jvm.arrayLocs frame_1_arrays args s ++ Jvm.staticLocs frame_1_statics s) 16 128 → Post tb e args s (.returned v) u) :
    ArmFor flags0 classFile x code maxLocals ret World_1 tables_1 room_1 Calls_1 rest_1 Pre_1 Post := by
  intro l hfl _ _ p e ha hc hk s m args below hf hA hF happ hP
  obtain ⟨hcalls, hrest, hpre⟩ := hP
  obtain ⟨-, -, -, hnamed, -, -, -, hat⟩ := (Spec.applies_iff hf).mp happ
  obtain ⟨hg, hn⟩ := and_e (Cond.before_iff.mp (show (Jvm.Cond.and given_1 narrow_1).before args s = true from hpre))
  obtain ⟨hcount, hg0⟩ := and_e hg
  obtain ⟨hi0, hg1⟩ := and_e hg0
  obtain ⟨hi1, hg2⟩ := and_e hg1
  obtain ⟨hi2, hg3⟩ := and_e hg2
  obtain ⟨hi3, hg4⟩ := and_e hg3
  have hi4 := hg4
  obtain ⟨w0, w1, w2, w3, w4, rfl⟩ : ∃ w0 w1 w2 w3 w4 : Value, args = #[w0, w1, w2, w3, w4] := by
    have hs : args.size = 5 := by simpa [Cond.value, given_1] using hcount
    obtain ⟨L⟩ := args
    match L, hs with
    | [w0, w1, w2, w3, w4], _ => exact ⟨w0, w1, w2, w3, w4, rfl⟩
  have hw := fun d (hd : d ∈ tables_1) => atoms_spec (ws := Jvm.Cond.code x code maxLocals ret :: tables_1) hat d (List.mem_cons_of_mem _ hd)
  have hfit : Fit s := fun {y c} hc i hi => by
    obtain ⟨ha, rfl⟩ := Array.getElem?_eq_some_iff.mp hc
    have q := List.all_eq_true.mp ((Array.all_eq_true_iff_forall_mem.mp hF) _ (Array.getElem_mem ha)) i (List.mem_range.mpr hi)
    simpa [Array.getElem?_eq_getElem hi] using q
  obtain ⟨i0, ei0⟩ := is_v hi0
  obtain rfl : w0 = (.int i0) := Option.some.inj ei0
  obtain ⟨i1, ei1⟩ := is_v hi1
  obtain rfl : w1 = (.int i1) := Option.some.inj ei1
  obtain ⟨i2, ei2⟩ := is_v hi2
  obtain rfl : w2 = (.int i2) := Option.some.inj ei2
  obtain ⟨i3, ei3⟩ := is_v hi3
  obtain rfl : w3 = (.int i3) := Option.some.inj ei3
  obtain ⟨i4, ei4⟩ := is_v hi4
  obtain rfl : w4 = (.int i4) := Option.some.inj ei4
  obtain ⟨hsets, hown0⟩ := atoms_of _ (rest_1_c_eq ▸ (show rest_1_c.before _ s = true from hrest))
  have evh := own_eqI (Cond.before_iff.mp (hsets _ (List.mem_of_getElem? (i := 3) rfl)))
  have SH : Sta s s.heap "java/lang/Integer$IntegerCache" "high" "I" (.int (127 : Int32)) := Sta.start evh (Or.inl (hsets _ (List.mem_of_getElem? (i := 1) rfl)))
  have hA := Cond.before_iff.mp (hsets _ (List.mem_of_getElem? (i := 4) rfl))
  obtain ⟨ca, evc⟩ := arr_v hA
  have SC : Sta s s.heap "java/lang/Integer$IntegerCache" "cache" "[Ljava/lang/Integer;" (.ref ca) := Sta.start evc (Or.inr ⟨(hw _ (List.mem_of_getElem? (i := 23) rfl)), (hsets _ (List.mem_of_getElem? (i := 2) rfl))⟩)
  obtain ⟨cl, AC⟩ := Arr.start evc hA
  have hat0 := AC.fin (Vm.Alike.refl _)
  have hlen := own_eqI (Cond.before_iff.mp (hsets _ (List.mem_of_getElem? (i := 6) rfl)))
  have hall := Jvm.Cond.all_elim evc hat0 (Cond.before_iff.mp (hsets _ (List.mem_of_getElem? (i := 7) rfl)))
  have HC := own_cache evc AC hlen hall (fun _ => evc)
  obtain ⟨n, o, h1, h2, h3, _, L, rfl, ⟨rfl, N⟩, hq⟩ := rm0 l s _ hw tables_1 i0 i1 i2 i3 i4 ca cl s.heap s.heap.size (Nat.le_refl _) (Old.start s) SH SC AC HC p e ha hc hk s m _ below hf ((Spec.applies_iff_loose hf).mp happ).1 ⟨rfl, State.Warmed39.refl s, rfl⟩ trivial
  refine ⟨n, _, h1, h2, h3, hpost _ _ _ _ _ _ ⟨Cond.after_iff.mpr rfl, Cond.after_iff.mpr (eq_i res_at (Term.int_eval (1)) rfl), trivial⟩ ⟨hq.1, hq.2.1, (hq.2.2.sift fun y hy => Or.inr (N y hy)).mono (by decide) (by decide)⟩⟩
theorem main_1_1 : Claimed_1_1 := comes_1 fun _ _ _ _ _ _ h hF => ⟨h.1, hF⟩
theorem main_1_2 : Claimed_1_2 := comes_1 fun _ _ _ _ _ _ h hF => ⟨h.2.1, hF⟩
end Jvm.Pilot.@@N@@
namespace Jvm.Pilot.@@N@@
open Jvm Jvm.ClassFile Sem Op Lib Jvm.Free Jvm.Stand Jvm.Pilot.@@N@@.Jvm.D
/-! MADE BY PROGRAM (witnessworld.py) out of the Statement's table words and the real class files: 17 classes; the members and pool entries that the words name. The judged class is class 1, her method 1. -/
namespace start1
open Jvm.ClassFile
def u (s : String) : CpInfo := .utf8 (stringToUtf16 s)
/-- a pool by its gaps: so many unusable entries, then the entry; so many at the end -/
def gap : Nat → List CpInfo → List CpInfo
  | 0, r => r
  | n + 1, r => .unusable :: gap n r
def poolList (es : List (Nat × CpInfo)) (last : Nat) : List CpInfo := es.foldr (fun e r => gap e.1 (e.2 :: r)) (gap last [])
def pool (es : List (Nat × CpInfo)) (last : Nat) : Array CpInfo := ⟨poolList es last⟩
def fileOf (pool : Array CpInfo) (this : Nat) (attrs : Array Attribute := #[]) (ms : Array MethodInfo := #[]) (fl : Nat := 33) (sup : Nat := 0) (ifs : Array Nat := #[]) (fds : Array FieldInfo := #[]) : ClassFile where
  minorVersion := 0
  majorVersion := 65
  constantPool := pool
  accessFlags := fl
  thisClass := this
  superClass := sup
  interfaces := ifs
  fields := fds
  methods := ms
  attributes := attrs
def plain (name : String) (sup : Option ClassId) : Class where
  name := name
  kind := .ordinary
  loader := none
  accessFlags := 33
  super := sup
  interfaces := #[]
  cf := none
  fields := #[]
  methods := #[]
  instanceTypes := #[]
  staticTypes := #[]
  resolved := #[]
  callSites := []
  init := .initialized
  statics := none
  mirror := none

def pool0 : Array CpInfo := pool [(5, u "<init>"), (0, u "()V"), (1, .class_ 10), (1, u "java/lang/Object")] 113

def k0c0 : Code := { maxStack := 0, maxLocals := 1, code := object_method_1_code, exceptionTable := #[], attributes := #[] }
def k0m0 : Method := { name := "<init>", desc := "()V", sig := { parameters := [], returnType := none }, accessFlags := 1, code := some k0c0 }
/-- java/lang/Object -/
def k0 : Class := { plain "java/lang/Object" none with
  accessFlags := 33
  interfaces := #[]
  cf := some (fileOf pool0 8 #[] #[{ accessFlags := 1, nameIndex := 5, descriptorIndex := 6, attributes := #[] }] 33 0 #[] #[])
  fields := #[]
  methods := #[k0m0]
  instanceTypes := #[]
  staticTypes := #[]
  resolved := Array.replicate 124 none
  statics := none }

def pool1 : Array CpInfo := pool [(2, .class_ 4), (1, u "java/lang/Object"), (0, u "<init>"), (0, u "()V"), (0, .class_ 8), (0, u "com/example/tapline/emv/RecordNumber"), (0, .methodref 7 10), (0, .nameAndType 5 11), (0, u "(II)V"), (0, .methodref 13 14), (0, .class_ 15), (0, .nameAndType 16 17), (0, u "java/lang/Integer"), (0, u "valueOf"), (0, u "(I)Ljava/lang/Integer;"), (0, .methodref 7 19), (0, .nameAndType 20 21), (0, u "equals"), (0, u "(Ljava/lang/Object;)Z"), (0, .class_ 23), (0, u "com/example/tapline/emv/RecordNumberEqualsPinLaw"), (2, u "law"), (0, u "(IIIII)Z")] 3

def k1m0 : Method := { name := "<init>", desc := "()V", sig := { parameters := [], returnType := none }, accessFlags := 1, code := none }
def k1c1 : Code := { maxStack := 4, maxLocals := 16, code := code, exceptionTable := #[], attributes := #[] }
def k1m1 : Method := { name := "law", desc := "(IIIII)Z", sig := { parameters := [.int, .int, .int, .int, .int], returnType := some .boolean }, accessFlags := 9, code := some k1c1 }
/-- com/example/tapline/emv/RecordNumberEqualsPinLaw -/
def k1 : Class := { plain "com/example/tapline/emv/RecordNumberEqualsPinLaw" (some 0) with
  accessFlags := 49
  interfaces := #[]
  cf := some (fileOf pool1 22 #[] #[{ accessFlags := 1, nameIndex := 5, descriptorIndex := 6, attributes := #[] }, { accessFlags := 9, nameIndex := 26, descriptorIndex := 27, attributes := #[] }] 49 2 #[] #[])
  fields := #[]
  methods := #[k1m0, k1m1]
  instanceTypes := #[]
  staticTypes := #[]
  resolved := Array.replicate 31 none
  statics := none }

def pool2 : Array CpInfo := pool [(1, .methodref 2 3), (0, .class_ 4), (0, .nameAndType 5 6), (0, u "java/lang/Object"), (0, u "<init>"), (0, u "()V"), (0, .class_ 8), (0, u "java/lang/Record")] 13

def k2c0 : Code := { maxStack := 1, maxLocals := 1, code := jdk_30_method_1_code, exceptionTable := #[], attributes := #[] }
def k2m0 : Method := { name := "<init>", desc := "()V", sig := { parameters := [], returnType := none }, accessFlags := 4, code := some k2c0 }
/-- java/lang/Record -/
def k2 : Class := { plain "java/lang/Record" (some 0) with
  accessFlags := 1057
  interfaces := #[]
  cf := some (fileOf pool2 7 #[] #[{ accessFlags := 4, nameIndex := 5, descriptorIndex := 6, attributes := #[] }] 1057 2 #[] #[])
  fields := #[]
  methods := #[k2m0]
  instanceTypes := #[]
  staticTypes := #[]
  resolved := Array.replicate 22 none
  statics := none }

def pool3 : Array CpInfo := pool [(1, .methodref 2 3), (0, .class_ 4), (0, .nameAndType 5 6), (0, u "java/lang/Record"), (0, u "<init>"), (0, u "()V"), (0, .fieldref 8 9), (0, .class_ 10), (0, .nameAndType 11 12), (0, u "com/example/tapline/emv/RecordNumber"), (0, u "sfi"), (0, u "I"), (0, .fieldref 8 14), (0, .nameAndType 15 12), (0, u "number"), (4, u "MAX_SFI"), (2, u "(II)V"), (6, u "equals"), (0, u "(Ljava/lang/Object;)Z")] 24

def k3c0 : Code := { maxStack := 2, maxLocals := 3, code := prog_58_method_1_code, exceptionTable := #[], attributes := #[] }
def k3m0 : Method := { name := "<init>", desc := "(II)V", sig := { parameters := [.int, .int], returnType := none }, accessFlags := 1, code := some k3c0 }
def k3c1 : Code := { maxStack := 2, maxLocals := 2, code := prog_58_method_3_code, exceptionTable := #[], attributes := #[] }
def k3m1 : Method := { name := "equals", desc := "(Ljava/lang/Object;)Z", sig := { parameters := [(.object "java/lang/Object")], returnType := some .boolean }, accessFlags := 1, code := some k3c1 }
/-- com/example/tapline/emv/RecordNumber -/
def k3 : Class := { plain "com/example/tapline/emv/RecordNumber" (some 2) with
  accessFlags := 49
  interfaces := #[]
  cf := some (fileOf pool3 8 #[] #[{ accessFlags := 1, nameIndex := 5, descriptorIndex := 23, attributes := #[] }, { accessFlags := 1, nameIndex := 30, descriptorIndex := 31, attributes := #[] }] 49 2 #[] #[{ accessFlags := 18, nameIndex := 11, descriptorIndex := 12, attributes := #[] }, { accessFlags := 18, nameIndex := 15, descriptorIndex := 12, attributes := #[] }, { accessFlags := 25, nameIndex := 20, descriptorIndex := 12, attributes := #[] }])
  fields := #[{ name := "sfi", type := .int, accessFlags := 18, slot := 0, constantValue := 0 }, { name := "number", type := .int, accessFlags := 18, slot := 1, constantValue := 0 }, { name := "MAX_SFI", type := .int, accessFlags := 25, slot := 0, constantValue := 0 }]
  methods := #[k3m0, k3m1]
  instanceTypes := #[.int, .int]
  staticTypes := #[.int]
  resolved := Array.replicate 56 none
  statics := none }

def pool4 : Array CpInfo := pool [(1, .class_ 2), (0, u "java/io/Serializable"), (0, .class_ 4), (0, u "java/lang/Object")] 2

/-- java/io/Serializable -/
def k4 : Class := { plain "java/io/Serializable" (some 0) with
  accessFlags := 1537
  interfaces := #[]
  cf := some (fileOf pool4 1 #[] #[] 1537 3 #[] #[])
  fields := #[]
  methods := #[]
  instanceTypes := #[]
  staticTypes := #[]
  resolved := Array.replicate 7 none
  statics := none }

def pool5 : Array CpInfo := pool [(1, .methodref 2 3), (0, .class_ 4), (0, .nameAndType 5 6), (0, u "java/lang/Object"), (0, u "<init>"), (0, u "()V"), (1, .class_ 10), (1, u "java/lang/Number"), (2, .class_ 14), (0, u "java/io/Serializable"), (0, u "serialVersionUID"), (0, u "J")] 20

def k5c0 : Code := { maxStack := 1, maxLocals := 1, code := jdk_18_method_1_code, exceptionTable := #[], attributes := #[] }
def k5m0 : Method := { name := "<init>", desc := "()V", sig := { parameters := [], returnType := none }, accessFlags := 1, code := some k5c0 }
/-- java/lang/Number -/
def k5 : Class := { plain "java/lang/Number" (some 0) with
  accessFlags := 1057
  interfaces := #[4]
  cf := some (fileOf pool5 8 #[] #[{ accessFlags := 1, nameIndex := 5, descriptorIndex := 6, attributes := #[] }] 1057 2 #[13] #[{ accessFlags := 26, nameIndex := 15, descriptorIndex := 16, attributes := #[] }])
  fields := #[{ name := "serialVersionUID", type := .long, accessFlags := 26, slot := 0, constantValue := 0 }]
  methods := #[k5m0]
  instanceTypes := #[]
  staticTypes := #[.long]
  resolved := Array.replicate 37 none
  statics := none }

def pool6 : Array CpInfo := pool [(1, .class_ 2), (0, u "java/lang/Comparable"), (0, .class_ 4), (0, u "java/lang/Object")] 7

/-- java/lang/Comparable -/
def k6 : Class := { plain "java/lang/Comparable" (some 0) with
  accessFlags := 1537
  interfaces := #[]
  cf := some (fileOf pool6 1 #[] #[] 1537 3 #[] #[])
  fields := #[]
  methods := #[]
  instanceTypes := #[]
  staticTypes := #[]
  resolved := Array.replicate 12 none
  statics := none }

def pool7 : Array CpInfo := pool [(1, .class_ 2), (0, u "java/lang/constant/Constable"), (0, .class_ 4), (0, u "java/lang/Object")] 6

/-- java/lang/constant/Constable -/
def k7 : Class := { plain "java/lang/constant/Constable" (some 0) with
  accessFlags := 1537
  interfaces := #[]
  cf := some (fileOf pool7 1 #[] #[] 1537 3 #[] #[])
  fields := #[]
  methods := #[]
  instanceTypes := #[]
  staticTypes := #[]
  resolved := Array.replicate 11 none
  statics := none }

def pool8 : Array CpInfo := pool [(1, .class_ 2), (0, u "java/lang/constant/ConstantDesc"), (0, .class_ 4), (0, u "java/lang/Object")] 32

/-- java/lang/constant/ConstantDesc -/
def k8 : Class := { plain "java/lang/constant/ConstantDesc" (some 0) with
  accessFlags := 1537
  interfaces := #[]
  cf := some (fileOf pool8 1 #[] #[] 1537 3 #[] #[])
  fields := #[]
  methods := #[]
  instanceTypes := #[]
  staticTypes := #[]
  resolved := Array.replicate 37 none
  statics := none }

def pool9 : Array CpInfo := pool [(1, .class_ 2), (0, u "java/lang/Integer"), (16, u "digits"), (0, u "[C"), (46, u "<init>"), (17, u "DigitOnes"), (0, u "[B"), (2, u "DigitTens"), (10, .nameAndType 67 101), (0, u "()V"), (85, u "valueOf"), (0, u "(I)Ljava/lang/Integer;"), (0, .class_ 190), (0, u "java/lang/Integer$IntegerCache"), (0, .fieldref 189 192), (0, .nameAndType 193 194), (0, u "high"), (0, u "I"), (0, .fieldref 189 196), (0, .nameAndType 197 198), (0, u "cache"), (0, u "[Ljava/lang/Integer;"), (0, .methodref 1 200), (0, .nameAndType 67 201), (0, u "(I)V"), (0, .methodref 203 100), (0, .class_ 204), (0, u "java/lang/Number"), (0, .fieldref 1 206), (0, .nameAndType 207 194), (0, u "value"), (94, u "TYPE"), (0, u "Ljava/lang/Class;"), (0, .class_ 305), (0, u "java/lang/Comparable"), (0, .class_ 307), (0, u "java/lang/constant/Constable"), (0, .class_ 309), (0, u "java/lang/constant/ConstantDesc"), (0, u "MIN_VALUE"), (1, u "MAX_VALUE"), (3, u "SIZE"), (1, u "BYTES"), (1, u "serialVersionUID"), (0, u "J")] 131

def k9c0 : Code := { maxStack := 3, maxLocals := 1, code := jdk_33_method_22_code, exceptionTable := #[], attributes := #[] }
def k9m0 : Method := { name := "valueOf", desc := "(I)Ljava/lang/Integer;", sig := { parameters := [.int], returnType := some (.object "java/lang/Integer") }, accessFlags := 9, code := some k9c0 }
def k9c1 : Code := { maxStack := 2, maxLocals := 2, code := jdk_33_method_23_code, exceptionTable := #[], attributes := #[] }
def k9m1 : Method := { name := "<init>", desc := "(I)V", sig := { parameters := [.int], returnType := none }, accessFlags := 1, code := some k9c1 }
/-- java/lang/Integer -/
def k9 : Class := { plain "java/lang/Integer" (some 5) with
  accessFlags := 49
  interfaces := #[6, 7, 8]
  cf := some (fileOf pool9 1 #[.nestMembers #[189]] #[{ accessFlags := 9, nameIndex := 187, descriptorIndex := 188, attributes := #[] }, { accessFlags := 1, nameIndex := 67, descriptorIndex := 201, attributes := #[] }] 49 203 #[304, 306, 308] #[{ accessFlags := 25, nameIndex := 310, descriptorIndex := 194, attributes := #[] }, { accessFlags := 25, nameIndex := 312, descriptorIndex := 194, attributes := #[] }, { accessFlags := 25, nameIndex := 302, descriptorIndex := 303, attributes := #[] }, { accessFlags := 24, nameIndex := 19, descriptorIndex := 20, attributes := #[] }, { accessFlags := 24, nameIndex := 89, descriptorIndex := 86, attributes := #[] }, { accessFlags := 24, nameIndex := 85, descriptorIndex := 86, attributes := #[] }, { accessFlags := 18, nameIndex := 207, descriptorIndex := 194, attributes := #[] }, { accessFlags := 25, nameIndex := 316, descriptorIndex := 194, attributes := #[] }, { accessFlags := 25, nameIndex := 318, descriptorIndex := 194, attributes := #[] }, { accessFlags := 26, nameIndex := 320, descriptorIndex := 321, attributes := #[] }])
  fields := #[{ name := "MIN_VALUE", type := .int, accessFlags := 25, slot := 0, constantValue := 0 }, { name := "MAX_VALUE", type := .int, accessFlags := 25, slot := 1, constantValue := 0 }, { name := "TYPE", type := (.object "java/lang/Class"), accessFlags := 25, slot := 2, constantValue := 0 }, { name := "digits", type := (.array .char), accessFlags := 24, slot := 3, constantValue := 0 }, { name := "DigitTens", type := (.array .byte), accessFlags := 24, slot := 4, constantValue := 0 }, { name := "DigitOnes", type := (.array .byte), accessFlags := 24, slot := 5, constantValue := 0 }, { name := "value", type := .int, accessFlags := 18, slot := 0, constantValue := 0 }, { name := "SIZE", type := .int, accessFlags := 25, slot := 6, constantValue := 0 }, { name := "BYTES", type := .int, accessFlags := 25, slot := 7, constantValue := 0 }, { name := "serialVersionUID", type := .long, accessFlags := 26, slot := 8, constantValue := 0 }]
  methods := #[k9m0, k9m1]
  instanceTypes := #[.int]
  staticTypes := #[.int, .int, (.object "java/lang/Class"), (.array .char), (.array .byte), (.array .byte), .int, .int, .long]
  resolved := Array.replicate 453 none
  statics := none }

def pool10 : Array CpInfo := pool [(2, .class_ 4), (1, u "java/lang/Object"), (0, u "<init>"), (0, u "()V"), (0, .class_ 8), (0, u "java/lang/Integer"), (7, .class_ 18), (1, u "java/lang/Integer$IntegerCache"), (0, u "$assertionsDisabled"), (0, u "Z"), (26, u "high"), (0, u "I"), (8, u "archivedCache"), (0, u "[Ljava/lang/Integer;"), (12, u "cache"), (0, u "low")] 27

def k10m0 : Method := { name := "<init>", desc := "()V", sig := { parameters := [], returnType := none }, accessFlags := 2, code := none }
/-- java/lang/Integer$IntegerCache -/
def k10 : Class := { plain "java/lang/Integer$IntegerCache" (some 0) with
  accessFlags := 48
  interfaces := #[]
  cf := some (fileOf pool10 16 #[.nestHost 7] #[{ accessFlags := 2, nameIndex := 5, descriptorIndex := 6, attributes := #[] }] 48 2 #[] #[{ accessFlags := 24, nameIndex := 72, descriptorIndex := 48, attributes := #[] }, { accessFlags := 24, nameIndex := 47, descriptorIndex := 48, attributes := #[] }, { accessFlags := 24, nameIndex := 71, descriptorIndex := 58, attributes := #[] }, { accessFlags := 8, nameIndex := 57, descriptorIndex := 58, attributes := #[] }, { accessFlags := 4120, nameIndex := 19, descriptorIndex := 20, attributes := #[] }])
  fields := #[{ name := "low", type := .int, accessFlags := 24, slot := 0, constantValue := 0 }, { name := "high", type := .int, accessFlags := 24, slot := 1, constantValue := 0 }, { name := "cache", type := (.array (.object "java/lang/Integer")), accessFlags := 24, slot := 2, constantValue := 0 }, { name := "archivedCache", type := (.array (.object "java/lang/Integer")), accessFlags := 8, slot := 3, constantValue := 0 }, { name := "$assertionsDisabled", type := .boolean, accessFlags := 4120, slot := 4, constantValue := 0 }]
  methods := #[k10m0]
  instanceTypes := #[]
  staticTypes := #[.int, .int, (.array (.object "java/lang/Integer")), (.array (.object "java/lang/Integer")), .boolean]
  resolved := Array.replicate 100 none
  statics := some 0 }

def pool11 : Array CpInfo := pool [(1, u "java/lang/Cloneable"), (0, .class_ 1), (0, u "java/lang/Object"), (0, .class_ 3)] 3

/-- java/lang/Cloneable -/
def k11 : Class := { plain "java/lang/Cloneable" (some 0) with
  accessFlags := 1537
  interfaces := #[]
  cf := some (fileOf pool11 2 #[] #[] 1537 4 #[] #[])
  fields := #[]
  methods := #[]
  instanceTypes := #[]
  staticTypes := #[]
  resolved := Array.replicate 8 none
  statics := none }

/-- the primitive byte -/
def k12 : Class := { plain "byte" none with kind := .primitive 'B', accessFlags := 0x411 }
/-- [B -/
def k13 : Class := { plain "[B" (some 0) with kind := .array 12 .byte, interfaces := #[11, 4], accessFlags := 1041 }

/-- the primitive int -/
def k14 : Class := { plain "int" none with kind := .primitive 'I', accessFlags := 0x411 }
/-- [I -/
def k15 : Class := { plain "[I" (some 0) with kind := .array 14 .int, interfaces := #[11, 4], accessFlags := 1041 }

/-- [Ljava/lang/Integer; -/
def k16 : Class := { plain "[Ljava/lang/Integer;" (some 0) with kind := .array 9 (.object "java/lang/Integer"), interfaces := #[11, 4], accessFlags := 1041 }

def heap : Heap := #[{ cls := 10, slots := #[.int 0, .int 127, .ref 1, .null, .int 0], vm := .statics 10 },
  { cls := 16, slots := #[.ref 2, .ref 3, .ref 4, .ref 5, .ref 6, .ref 7, .ref 8, .ref 9, .ref 10, .ref 11, .ref 12, .ref 13, .ref 14, .ref 15, .ref 16, .ref 17, .ref 18, .ref 19, .ref 20, .ref 21, .ref 22, .ref 23, .ref 24, .ref 25, .ref 26, .ref 27, .ref 28, .ref 29, .ref 30, .ref 31, .ref 32, .ref 33, .ref 34, .ref 35, .ref 36, .ref 37, .ref 38, .ref 39, .ref 40, .ref 41, .ref 42, .ref 43, .ref 44, .ref 45, .ref 46, .ref 47, .ref 48, .ref 49, .ref 50, .ref 51, .ref 52, .ref 53, .ref 54, .ref 55, .ref 56, .ref 57, .ref 58, .ref 59, .ref 60, .ref 61, .ref 62, .ref 63, .ref 64, .ref 65, .ref 66, .ref 67, .ref 68, .ref 69, .ref 70, .ref 71, .ref 72, .ref 73, .ref 74, .ref 75, .ref 76, .ref 77, .ref 78, .ref 79, .ref 80, .ref 81, .ref 82, .ref 83, .ref 84, .ref 85, .ref 86, .ref 87, .ref 88, .ref 89, .ref 90, .ref 91, .ref 92, .ref 93, .ref 94, .ref 95, .ref 96, .ref 97, .ref 98, .ref 99, .ref 100, .ref 101, .ref 102, .ref 103, .ref 104, .ref 105, .ref 106, .ref 107, .ref 108, .ref 109, .ref 110, .ref 111, .ref 112, .ref 113, .ref 114, .ref 115, .ref 116, .ref 117, .ref 118, .ref 119, .ref 120, .ref 121, .ref 122, .ref 123, .ref 124, .ref 125, .ref 126, .ref 127, .ref 128, .ref 129, .ref 130, .ref 131, .ref 132, .ref 133, .ref 134, .ref 135, .ref 136, .ref 137, .ref 138, .ref 139, .ref 140, .ref 141, .ref 142, .ref 143, .ref 144, .ref 145, .ref 146, .ref 147, .ref 148, .ref 149, .ref 150, .ref 151, .ref 152, .ref 153, .ref 154, .ref 155, .ref 156, .ref 157, .ref 158, .ref 159, .ref 160, .ref 161, .ref 162, .ref 163, .ref 164, .ref 165, .ref 166, .ref 167, .ref 168, .ref 169, .ref 170, .ref 171, .ref 172, .ref 173, .ref 174, .ref 175, .ref 176, .ref 177, .ref 178, .ref 179, .ref 180, .ref 181, .ref 182, .ref 183, .ref 184, .ref 185, .ref 186, .ref 187, .ref 188, .ref 189, .ref 190, .ref 191, .ref 192, .ref 193, .ref 194, .ref 195, .ref 196, .ref 197, .ref 198, .ref 199, .ref 200, .ref 201, .ref 202, .ref 203, .ref 204, .ref 205, .ref 206, .ref 207, .ref 208, .ref 209, .ref 210, .ref 211, .ref 212, .ref 213, .ref 214, .ref 215, .ref 216, .ref 217, .ref 218, .ref 219, .ref 220, .ref 221, .ref 222, .ref 223, .ref 224, .ref 225, .ref 226, .ref 227, .ref 228, .ref 229, .ref 230, .ref 231, .ref 232, .ref 233, .ref 234, .ref 235, .ref 236, .ref 237, .ref 238, .ref 239, .ref 240, .ref 241, .ref 242, .ref 243, .ref 244, .ref 245, .ref 246, .ref 247, .ref 248, .ref 249, .ref 250, .ref 251, .ref 252, .ref 253, .ref 254, .ref 255, .ref 256, .ref 257], vm := .none },
  { cls := 9, slots := #[.int (-128)], vm := .none },
  { cls := 9, slots := #[.int (-127)], vm := .none },
  { cls := 9, slots := #[.int (-126)], vm := .none },
  { cls := 9, slots := #[.int (-125)], vm := .none },
  { cls := 9, slots := #[.int (-124)], vm := .none },
  { cls := 9, slots := #[.int (-123)], vm := .none },
  { cls := 9, slots := #[.int (-122)], vm := .none },
  { cls := 9, slots := #[.int (-121)], vm := .none },
  { cls := 9, slots := #[.int (-120)], vm := .none },
  { cls := 9, slots := #[.int (-119)], vm := .none },
  { cls := 9, slots := #[.int (-118)], vm := .none },
  { cls := 9, slots := #[.int (-117)], vm := .none },
  { cls := 9, slots := #[.int (-116)], vm := .none },
  { cls := 9, slots := #[.int (-115)], vm := .none },
  { cls := 9, slots := #[.int (-114)], vm := .none },
  { cls := 9, slots := #[.int (-113)], vm := .none },
  { cls := 9, slots := #[.int (-112)], vm := .none },
  { cls := 9, slots := #[.int (-111)], vm := .none },
  { cls := 9, slots := #[.int (-110)], vm := .none },
  { cls := 9, slots := #[.int (-109)], vm := .none },
  { cls := 9, slots := #[.int (-108)], vm := .none },
  { cls := 9, slots := #[.int (-107)], vm := .none },
  { cls := 9, slots := #[.int (-106)], vm := .none },
  { cls := 9, slots := #[.int (-105)], vm := .none },
  { cls := 9, slots := #[.int (-104)], vm := .none },
  { cls := 9, slots := #[.int (-103)], vm := .none },
  { cls := 9, slots := #[.int (-102)], vm := .none },
  { cls := 9, slots := #[.int (-101)], vm := .none },
  { cls := 9, slots := #[.int (-100)], vm := .none },
  { cls := 9, slots := #[.int (-99)], vm := .none },
  { cls := 9, slots := #[.int (-98)], vm := .none },
  { cls := 9, slots := #[.int (-97)], vm := .none },
  { cls := 9, slots := #[.int (-96)], vm := .none },
  { cls := 9, slots := #[.int (-95)], vm := .none },
  { cls := 9, slots := #[.int (-94)], vm := .none },
  { cls := 9, slots := #[.int (-93)], vm := .none },
  { cls := 9, slots := #[.int (-92)], vm := .none },
  { cls := 9, slots := #[.int (-91)], vm := .none },
  { cls := 9, slots := #[.int (-90)], vm := .none },
  { cls := 9, slots := #[.int (-89)], vm := .none },
  { cls := 9, slots := #[.int (-88)], vm := .none },
  { cls := 9, slots := #[.int (-87)], vm := .none },
  { cls := 9, slots := #[.int (-86)], vm := .none },
  { cls := 9, slots := #[.int (-85)], vm := .none },
  { cls := 9, slots := #[.int (-84)], vm := .none },
  { cls := 9, slots := #[.int (-83)], vm := .none },
  { cls := 9, slots := #[.int (-82)], vm := .none },
  { cls := 9, slots := #[.int (-81)], vm := .none },
  { cls := 9, slots := #[.int (-80)], vm := .none },
  { cls := 9, slots := #[.int (-79)], vm := .none },
  { cls := 9, slots := #[.int (-78)], vm := .none },
  { cls := 9, slots := #[.int (-77)], vm := .none },
  { cls := 9, slots := #[.int (-76)], vm := .none },
  { cls := 9, slots := #[.int (-75)], vm := .none },
  { cls := 9, slots := #[.int (-74)], vm := .none },
  { cls := 9, slots := #[.int (-73)], vm := .none },
  { cls := 9, slots := #[.int (-72)], vm := .none },
  { cls := 9, slots := #[.int (-71)], vm := .none },
  { cls := 9, slots := #[.int (-70)], vm := .none },
  { cls := 9, slots := #[.int (-69)], vm := .none },
  { cls := 9, slots := #[.int (-68)], vm := .none },
  { cls := 9, slots := #[.int (-67)], vm := .none },
  { cls := 9, slots := #[.int (-66)], vm := .none },
  { cls := 9, slots := #[.int (-65)], vm := .none },
  { cls := 9, slots := #[.int (-64)], vm := .none },
  { cls := 9, slots := #[.int (-63)], vm := .none },
  { cls := 9, slots := #[.int (-62)], vm := .none },
  { cls := 9, slots := #[.int (-61)], vm := .none },
  { cls := 9, slots := #[.int (-60)], vm := .none },
  { cls := 9, slots := #[.int (-59)], vm := .none },
  { cls := 9, slots := #[.int (-58)], vm := .none },
  { cls := 9, slots := #[.int (-57)], vm := .none },
  { cls := 9, slots := #[.int (-56)], vm := .none },
  { cls := 9, slots := #[.int (-55)], vm := .none },
  { cls := 9, slots := #[.int (-54)], vm := .none },
  { cls := 9, slots := #[.int (-53)], vm := .none },
  { cls := 9, slots := #[.int (-52)], vm := .none },
  { cls := 9, slots := #[.int (-51)], vm := .none },
  { cls := 9, slots := #[.int (-50)], vm := .none },
  { cls := 9, slots := #[.int (-49)], vm := .none },
  { cls := 9, slots := #[.int (-48)], vm := .none },
  { cls := 9, slots := #[.int (-47)], vm := .none },
  { cls := 9, slots := #[.int (-46)], vm := .none },
  { cls := 9, slots := #[.int (-45)], vm := .none },
  { cls := 9, slots := #[.int (-44)], vm := .none },
  { cls := 9, slots := #[.int (-43)], vm := .none },
  { cls := 9, slots := #[.int (-42)], vm := .none },
  { cls := 9, slots := #[.int (-41)], vm := .none },
  { cls := 9, slots := #[.int (-40)], vm := .none },
  { cls := 9, slots := #[.int (-39)], vm := .none },
  { cls := 9, slots := #[.int (-38)], vm := .none },
  { cls := 9, slots := #[.int (-37)], vm := .none },
  { cls := 9, slots := #[.int (-36)], vm := .none },
  { cls := 9, slots := #[.int (-35)], vm := .none },
  { cls := 9, slots := #[.int (-34)], vm := .none },
  { cls := 9, slots := #[.int (-33)], vm := .none },
  { cls := 9, slots := #[.int (-32)], vm := .none },
  { cls := 9, slots := #[.int (-31)], vm := .none },
  { cls := 9, slots := #[.int (-30)], vm := .none },
  { cls := 9, slots := #[.int (-29)], vm := .none },
  { cls := 9, slots := #[.int (-28)], vm := .none },
  { cls := 9, slots := #[.int (-27)], vm := .none },
  { cls := 9, slots := #[.int (-26)], vm := .none },
  { cls := 9, slots := #[.int (-25)], vm := .none },
  { cls := 9, slots := #[.int (-24)], vm := .none },
  { cls := 9, slots := #[.int (-23)], vm := .none },
  { cls := 9, slots := #[.int (-22)], vm := .none },
  { cls := 9, slots := #[.int (-21)], vm := .none },
  { cls := 9, slots := #[.int (-20)], vm := .none },
  { cls := 9, slots := #[.int (-19)], vm := .none },
  { cls := 9, slots := #[.int (-18)], vm := .none },
  { cls := 9, slots := #[.int (-17)], vm := .none },
  { cls := 9, slots := #[.int (-16)], vm := .none },
  { cls := 9, slots := #[.int (-15)], vm := .none },
  { cls := 9, slots := #[.int (-14)], vm := .none },
  { cls := 9, slots := #[.int (-13)], vm := .none },
  { cls := 9, slots := #[.int (-12)], vm := .none },
  { cls := 9, slots := #[.int (-11)], vm := .none },
  { cls := 9, slots := #[.int (-10)], vm := .none },
  { cls := 9, slots := #[.int (-9)], vm := .none },
  { cls := 9, slots := #[.int (-8)], vm := .none },
  { cls := 9, slots := #[.int (-7)], vm := .none },
  { cls := 9, slots := #[.int (-6)], vm := .none },
  { cls := 9, slots := #[.int (-5)], vm := .none },
  { cls := 9, slots := #[.int (-4)], vm := .none },
  { cls := 9, slots := #[.int (-3)], vm := .none },
  { cls := 9, slots := #[.int (-2)], vm := .none },
  { cls := 9, slots := #[.int (-1)], vm := .none },
  { cls := 9, slots := #[.int (0)], vm := .none },
  { cls := 9, slots := #[.int (1)], vm := .none },
  { cls := 9, slots := #[.int (2)], vm := .none },
  { cls := 9, slots := #[.int (3)], vm := .none },
  { cls := 9, slots := #[.int (4)], vm := .none },
  { cls := 9, slots := #[.int (5)], vm := .none },
  { cls := 9, slots := #[.int (6)], vm := .none },
  { cls := 9, slots := #[.int (7)], vm := .none },
  { cls := 9, slots := #[.int (8)], vm := .none },
  { cls := 9, slots := #[.int (9)], vm := .none },
  { cls := 9, slots := #[.int (10)], vm := .none },
  { cls := 9, slots := #[.int (11)], vm := .none },
  { cls := 9, slots := #[.int (12)], vm := .none },
  { cls := 9, slots := #[.int (13)], vm := .none },
  { cls := 9, slots := #[.int (14)], vm := .none },
  { cls := 9, slots := #[.int (15)], vm := .none },
  { cls := 9, slots := #[.int (16)], vm := .none },
  { cls := 9, slots := #[.int (17)], vm := .none },
  { cls := 9, slots := #[.int (18)], vm := .none },
  { cls := 9, slots := #[.int (19)], vm := .none },
  { cls := 9, slots := #[.int (20)], vm := .none },
  { cls := 9, slots := #[.int (21)], vm := .none },
  { cls := 9, slots := #[.int (22)], vm := .none },
  { cls := 9, slots := #[.int (23)], vm := .none },
  { cls := 9, slots := #[.int (24)], vm := .none },
  { cls := 9, slots := #[.int (25)], vm := .none },
  { cls := 9, slots := #[.int (26)], vm := .none },
  { cls := 9, slots := #[.int (27)], vm := .none },
  { cls := 9, slots := #[.int (28)], vm := .none },
  { cls := 9, slots := #[.int (29)], vm := .none },
  { cls := 9, slots := #[.int (30)], vm := .none },
  { cls := 9, slots := #[.int (31)], vm := .none },
  { cls := 9, slots := #[.int (32)], vm := .none },
  { cls := 9, slots := #[.int (33)], vm := .none },
  { cls := 9, slots := #[.int (34)], vm := .none },
  { cls := 9, slots := #[.int (35)], vm := .none },
  { cls := 9, slots := #[.int (36)], vm := .none },
  { cls := 9, slots := #[.int (37)], vm := .none },
  { cls := 9, slots := #[.int (38)], vm := .none },
  { cls := 9, slots := #[.int (39)], vm := .none },
  { cls := 9, slots := #[.int (40)], vm := .none },
  { cls := 9, slots := #[.int (41)], vm := .none },
  { cls := 9, slots := #[.int (42)], vm := .none },
  { cls := 9, slots := #[.int (43)], vm := .none },
  { cls := 9, slots := #[.int (44)], vm := .none },
  { cls := 9, slots := #[.int (45)], vm := .none },
  { cls := 9, slots := #[.int (46)], vm := .none },
  { cls := 9, slots := #[.int (47)], vm := .none },
  { cls := 9, slots := #[.int (48)], vm := .none },
  { cls := 9, slots := #[.int (49)], vm := .none },
  { cls := 9, slots := #[.int (50)], vm := .none },
  { cls := 9, slots := #[.int (51)], vm := .none },
  { cls := 9, slots := #[.int (52)], vm := .none },
  { cls := 9, slots := #[.int (53)], vm := .none },
  { cls := 9, slots := #[.int (54)], vm := .none },
  { cls := 9, slots := #[.int (55)], vm := .none },
  { cls := 9, slots := #[.int (56)], vm := .none },
  { cls := 9, slots := #[.int (57)], vm := .none },
  { cls := 9, slots := #[.int (58)], vm := .none },
  { cls := 9, slots := #[.int (59)], vm := .none },
  { cls := 9, slots := #[.int (60)], vm := .none },
  { cls := 9, slots := #[.int (61)], vm := .none },
  { cls := 9, slots := #[.int (62)], vm := .none },
  { cls := 9, slots := #[.int (63)], vm := .none },
  { cls := 9, slots := #[.int (64)], vm := .none },
  { cls := 9, slots := #[.int (65)], vm := .none },
  { cls := 9, slots := #[.int (66)], vm := .none },
  { cls := 9, slots := #[.int (67)], vm := .none },
  { cls := 9, slots := #[.int (68)], vm := .none },
  { cls := 9, slots := #[.int (69)], vm := .none },
  { cls := 9, slots := #[.int (70)], vm := .none },
  { cls := 9, slots := #[.int (71)], vm := .none },
  { cls := 9, slots := #[.int (72)], vm := .none },
  { cls := 9, slots := #[.int (73)], vm := .none },
  { cls := 9, slots := #[.int (74)], vm := .none },
  { cls := 9, slots := #[.int (75)], vm := .none },
  { cls := 9, slots := #[.int (76)], vm := .none },
  { cls := 9, slots := #[.int (77)], vm := .none },
  { cls := 9, slots := #[.int (78)], vm := .none },
  { cls := 9, slots := #[.int (79)], vm := .none },
  { cls := 9, slots := #[.int (80)], vm := .none },
  { cls := 9, slots := #[.int (81)], vm := .none },
  { cls := 9, slots := #[.int (82)], vm := .none },
  { cls := 9, slots := #[.int (83)], vm := .none },
  { cls := 9, slots := #[.int (84)], vm := .none },
  { cls := 9, slots := #[.int (85)], vm := .none },
  { cls := 9, slots := #[.int (86)], vm := .none },
  { cls := 9, slots := #[.int (87)], vm := .none },
  { cls := 9, slots := #[.int (88)], vm := .none },
  { cls := 9, slots := #[.int (89)], vm := .none },
  { cls := 9, slots := #[.int (90)], vm := .none },
  { cls := 9, slots := #[.int (91)], vm := .none },
  { cls := 9, slots := #[.int (92)], vm := .none },
  { cls := 9, slots := #[.int (93)], vm := .none },
  { cls := 9, slots := #[.int (94)], vm := .none },
  { cls := 9, slots := #[.int (95)], vm := .none },
  { cls := 9, slots := #[.int (96)], vm := .none },
  { cls := 9, slots := #[.int (97)], vm := .none },
  { cls := 9, slots := #[.int (98)], vm := .none },
  { cls := 9, slots := #[.int (99)], vm := .none },
  { cls := 9, slots := #[.int (100)], vm := .none },
  { cls := 9, slots := #[.int (101)], vm := .none },
  { cls := 9, slots := #[.int (102)], vm := .none },
  { cls := 9, slots := #[.int (103)], vm := .none },
  { cls := 9, slots := #[.int (104)], vm := .none },
  { cls := 9, slots := #[.int (105)], vm := .none },
  { cls := 9, slots := #[.int (106)], vm := .none },
  { cls := 9, slots := #[.int (107)], vm := .none },
  { cls := 9, slots := #[.int (108)], vm := .none },
  { cls := 9, slots := #[.int (109)], vm := .none },
  { cls := 9, slots := #[.int (110)], vm := .none },
  { cls := 9, slots := #[.int (111)], vm := .none },
  { cls := 9, slots := #[.int (112)], vm := .none },
  { cls := 9, slots := #[.int (113)], vm := .none },
  { cls := 9, slots := #[.int (114)], vm := .none },
  { cls := 9, slots := #[.int (115)], vm := .none },
  { cls := 9, slots := #[.int (116)], vm := .none },
  { cls := 9, slots := #[.int (117)], vm := .none },
  { cls := 9, slots := #[.int (118)], vm := .none },
  { cls := 9, slots := #[.int (119)], vm := .none },
  { cls := 9, slots := #[.int (120)], vm := .none },
  { cls := 9, slots := #[.int (121)], vm := .none },
  { cls := 9, slots := #[.int (122)], vm := .none },
  { cls := 9, slots := #[.int (123)], vm := .none },
  { cls := 9, slots := #[.int (124)], vm := .none },
  { cls := 9, slots := #[.int (125)], vm := .none },
  { cls := 9, slots := #[.int (126)], vm := .none },
  { cls := 9, slots := #[.int (127)], vm := .none }]
def classes : Array Class := #[k0, k1, k2, k3, k4, k5, k6, k7, k8, k9, k10, k11, k12, k13, k14, k15, k16]
def interned : List (Array UInt16 × Addr) := []
def slotsUsed : Nat := 517
def theMethod : MethodId := ⟨1, 1⟩
def args0 : Array Value := #[.int 5, .int 2, .int 3, .int 4, .int 1]
def aboutOver (below : List Frame) : State where
  vm := { classes := classes, interned := interned.toArray }
  heap := heap
  slotsUsed := slotsUsed
  threads := #[{ frames := .invoking theMethod args0 :: below }]
def below0 : List Frame := [.native { method := ⟨0, 0⟩, args := #[] }]
def about1 : State := aboutOver below0
def p0 : Program := .bare "" "" ""
def e0 : Env := launch0.env 0 0 0
theorem w_frames : about1.frames = Frame.invoking theMethod args0 :: below0 := rfl
set_option maxRecDepth 65536 in
theorem w_args : argsFit about1.vm theMethod args0 = true := by decide +kernel
set_option maxRecDepth 65536 in
theorem w_heap : heapFits about1 = true := by decide +kernel
set_option maxRecDepth 65536 in
theorem w_runnable : about1.curStatus? = some .runnable := by decide +kernel
set_option maxRecDepth 65536 in
theorem w_alone : about1.alone = true := by decide +kernel
set_option maxRecDepth 65536 in
theorem w_named : about1.methodNamed? x = some theMethod := by decide +kernel
set_option maxRecDepth 65536 in
theorem w_hears : about1.hears theMethod below0 = true := by decide +kernel
set_option maxRecDepth 65536 in
theorem w_ripe : about1.ripe theMethod args0 below0 = true := by decide +kernel
theorem w_running : about1.status = .running := rfl
set_option maxRecDepth 65536 in
theorem w_room : about1.hasRoom e0.platform room_1 = true :=
  launch0.hasRoom_least _ room_1 (by decide +kernel) (by decide +kernel) (by decide +kernel) (by decide +kernel) (by decide +kernel) (by decide +kernel)
theorem allAtoms_all (ts : List Jvm.Cond) (a : Array Jvm.Value) (st : Jvm.State) : (allAtoms ts).before a st = ts.all (fun c => c.before a st) := by
  induction ts with
  | nil => rfl
  | cons c t ih =>
    show (Jvm.Cond.and c (allAtoms t)).before a st = _
    rw [Jvm.Cond.before_and, ih, List.all_cons]
def words1 : List Jvm.Cond := Jvm.Cond.code x code maxLocals ret :: tables_1
/-- a 'code' word, met by the world's own term for the bytes: nothing is compared byte by byte -/
theorem code_word {y : MethodName} {bytes : ByteArray} {mx : Nat} {rt : Option FieldType} {a : Array Value} {s : State} {m : MethodId} {meth : Method} {c : Code} (h1 : s.methodNamed? y = some m) (h2 : s.vm.method? m = some meth) (h3 : meth.code = some c) (h4 : c.code = bytes)
    (h5 : (c.maxLocals == mx && c.exceptionTable.isEmpty && decide (c.maxStack ≤ mostOperands) && decide (meth.sig.returnType = rt) && !meth.locks && decide (parseMethodDescriptor y.desc = some meth.sig)) = true) : (Jvm.Cond.code y bytes mx rt).before a s = true := by
  simp only [Bool.and_eq_true, beq_iff_eq, Bool.not_eq_true', decide_eq_true_eq] at h5
  obtain ⟨⟨⟨⟨⟨g1, g2⟩, g3⟩, g4⟩, g5⟩, g6⟩ := h5
  simp [Cond.before, Cond.holds, Cond.value, h1, h2, h3, h4, g1, g2, g3, g4, g5, g6]
def isCode : Jvm.Cond → Bool
  | .code _ _ _ _ => true
  | _ => false
theorem all_split {L : List Jvm.Cond} {P : Jvm.Cond → Bool} (h1 : L.all (fun c => isCode c || P c) = true) (h2 : ∀ c ∈ L.filter isCode, P c = true) : L.all P = true := by
  refine List.all_eq_true.mpr fun c hc => ?_
  have h := List.all_eq_true.mp h1 c hc
  rcases Bool.eq_false_or_eq_true (isCode c) with hi | hi
  · exact h2 c (List.mem_filter.mpr ⟨hc, hi⟩)
  · simpa [hi] using h
set_option maxRecDepth 65536 in
theorem w_c0 : (Jvm.Cond.code x code maxLocals ret).before args0 about1 = true := code_word (m := ⟨1, 1⟩) (meth := k1m1) (c := k1c1) (by decide +kernel) rfl rfl rfl (by decide +kernel)
set_option maxRecDepth 65536 in
theorem w_c1 : (Jvm.Cond.code ({ cls := "com/example/tapline/emv/RecordNumber", name := "<init>", desc := "(II)V" } : Jvm.MethodName) prog_58_method_1_code (3 : Nat) (Option.none : Option Jvm.ClassFile.FieldType)).before args0 about1 = true := code_word (m := ⟨3, 0⟩) (meth := k3m0) (c := k3c0) (by decide +kernel) rfl rfl rfl (by decide +kernel)
set_option maxRecDepth 65536 in
theorem w_c2 : (Jvm.Cond.code ({ cls := "java/lang/Record", name := "<init>", desc := "()V" } : Jvm.MethodName) jdk_30_method_1_code (1 : Nat) (Option.none : Option Jvm.ClassFile.FieldType)).before args0 about1 = true := code_word (m := ⟨2, 0⟩) (meth := k2m0) (c := k2c0) (by decide +kernel) rfl rfl rfl (by decide +kernel)
set_option maxRecDepth 65536 in
theorem w_c3 : (Jvm.Cond.code ({ cls := "java/lang/Object", name := "<init>", desc := "()V" } : Jvm.MethodName) object_method_1_code (1 : Nat) (Option.none : Option Jvm.ClassFile.FieldType)).before args0 about1 = true := code_word (m := ⟨0, 0⟩) (meth := k0m0) (c := k0c0) (by decide +kernel) rfl rfl rfl (by decide +kernel)
set_option maxRecDepth 65536 in
theorem w_c4 : (Jvm.Cond.code ({ cls := "java/lang/Integer", name := "valueOf", desc := "(I)Ljava/lang/Integer;" } : Jvm.MethodName) jdk_33_method_22_code (1 : Nat) (Option.some (Jvm.ClassFile.FieldType.object "java/lang/Integer"))).before args0 about1 = true := code_word (m := ⟨9, 0⟩) (meth := k9m0) (c := k9c0) (by decide +kernel) rfl rfl rfl (by decide +kernel)
set_option maxRecDepth 65536 in
theorem w_c5 : (Jvm.Cond.code ({ cls := "com/example/tapline/emv/RecordNumber", name := "equals", desc := "(Ljava/lang/Object;)Z" } : Jvm.MethodName) prog_58_method_3_code (2 : Nat) (Option.some Jvm.ClassFile.FieldType.boolean)).before args0 about1 = true := code_word (m := ⟨3, 1⟩) (meth := k3m1) (c := k3c1) (by decide +kernel) rfl rfl rfl (by decide +kernel)
set_option maxRecDepth 65536 in
theorem w_c6 : (Jvm.Cond.code ({ cls := "java/lang/Integer", name := "<init>", desc := "(I)V" } : Jvm.MethodName) jdk_33_method_23_code (2 : Nat) (Option.none : Option Jvm.ClassFile.FieldType)).before args0 about1 = true := code_word (m := ⟨9, 1⟩) (meth := k9m1) (c := k9c1) (by decide +kernel) rfl rfl rfl (by decide +kernel)
set_option maxRecDepth 65536 in
theorem w_c7 : (Jvm.Cond.code ({ cls := "java/lang/Number", name := "<init>", desc := "()V" } : Jvm.MethodName) jdk_18_method_1_code (1 : Nat) (Option.none : Option Jvm.ClassFile.FieldType)).before args0 about1 = true := code_word (m := ⟨5, 0⟩) (meth := k5m0) (c := k5c0) (by decide +kernel) rfl rfl rfl (by decide +kernel)
def codes1 : List Jvm.Cond := [Jvm.Cond.code x code maxLocals ret, Jvm.Cond.code ({ cls := "com/example/tapline/emv/RecordNumber", name := "<init>", desc := "(II)V" } : Jvm.MethodName) prog_58_method_1_code (3 : Nat) (Option.none : Option Jvm.ClassFile.FieldType), Jvm.Cond.code ({ cls := "java/lang/Record", name := "<init>", desc := "()V" } : Jvm.MethodName) jdk_30_method_1_code (1 : Nat) (Option.none : Option Jvm.ClassFile.FieldType), Jvm.Cond.code ({ cls := "java/lang/Object", name := "<init>", desc := "()V" } : Jvm.MethodName) object_method_1_code (1 : Nat) (Option.none : Option Jvm.ClassFile.FieldType), Jvm.Cond.code ({ cls := "java/lang/Integer", name := "valueOf", desc := "(I)Ljava/lang/Integer;" } : Jvm.MethodName) jdk_33_method_22_code (1 : Nat) (Option.some (Jvm.ClassFile.FieldType.object "java/lang/Integer")), Jvm.Cond.code ({ cls := "com/example/tapline/emv/RecordNumber", name := "equals", desc := "(Ljava/lang/Object;)Z" } : Jvm.MethodName) prog_58_method_3_code (2 : Nat) (Option.some Jvm.ClassFile.FieldType.boolean), Jvm.Cond.code ({ cls := "java/lang/Integer", name := "<init>", desc := "(I)V" } : Jvm.MethodName) jdk_33_method_23_code (2 : Nat) (Option.none : Option Jvm.ClassFile.FieldType), Jvm.Cond.code ({ cls := "java/lang/Number", name := "<init>", desc := "()V" } : Jvm.MethodName) jdk_18_method_1_code (1 : Nat) (Option.none : Option Jvm.ClassFile.FieldType)]
set_option maxRecDepth 65536 in
theorem codes_eq : words1.filter isCode = codes1 := rfl
theorem w_codes : ∀ c ∈ words1.filter isCode, c.before args0 about1 = true := by
  rw [codes_eq]
  intro c hc
  simp only [codes1, List.mem_cons, List.not_mem_nil, or_false] at hc
  rcases hc with rfl | rfl | rfl | rfl | rfl | rfl | rfl | rfl
  · exact w_c0
  · exact w_c1
  · exact w_c2
  · exact w_c3
  · exact w_c4
  · exact w_c5
  · exact w_c6
  · exact w_c7
set_option maxRecDepth 65536 in
theorem w_t1 : (words1.take 24).all (fun c => isCode c || c.before args0 about1) = true := by decide +kernel
set_option maxRecDepth 65536 in
theorem w_t2 : ((words1.drop 24).take 24).all (fun c => isCode c || c.before args0 about1) = true := by decide +kernel
set_option maxRecDepth 65536 in
theorem w_t3 : ((words1.drop 24).drop 24).all (fun c => isCode c || c.before args0 about1) = true := by decide +kernel
theorem w_tables : (allAtoms (Jvm.Cond.code x code maxLocals ret :: tables_1)).before args0 about1 = true := by
  rw [allAtoms_all]
  show words1.all (fun c => c.before args0 about1) = true
  refine all_split ?_ w_codes
  rw [← List.take_append_drop 24 words1, List.all_append, w_t1, ← List.take_append_drop 24 (words1.drop 24), List.all_append, w_t2, w_t3]
  rfl
set_option maxRecDepth 65536 in
theorem w_rest : rest_1_c.before args0 about1 = true := by decide +kernel
set_option maxRecDepth 65536 in
theorem w_case : (Jvm.Cond.and given_1 narrow_1).before args0 about1 = true := by decide +kernel
theorem w_applies : (headSpec (Jvm.Cond.code x code maxLocals ret :: tables_1) room_1).applies x e0.platform about1 = true :=
  (Spec.applies_iff w_frames).mpr ⟨w_running, w_runnable, w_alone, w_named, w_hears, w_ripe, w_room, w_tables⟩
theorem atStart : AtStart classFile x code maxLocals ret World_1 tables_1 room_1 Calls_1 rest_1 Pre_1 launch0 p0 e0 about1 theMethod args0 below0 :=
  ⟨lists_1, trivial, launch0.admits_env _ _ _, launch0.least_env, fairChoices_fair.cas, fairChoices_fair.clock, w_frames, w_args, w_heap, w_applies, trivial, w_rest, w_case⟩
end start1
theorem witness_1 : WitnessClaimed_1 := ⟨start1.p0, start1.e0, start1.about1, start1.theMethod, start1.args0, start1.below0, start1.atStart⟩
end Jvm.Pilot.@@N@@
