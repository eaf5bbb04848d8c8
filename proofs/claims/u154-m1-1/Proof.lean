import JvmDerived
import JvmDerived.Pilot.@@N@@Statement
import JvmDerived.Pilot.@@N@@Code
set_option linter.unusedVariables false
set_option linter.unusedSimpArgs false
namespace Jvm.RoadKit
open Sem ClassFile Op Lib Jvm.Stand Jvm.Free Jvm.LawKit
section New
variable {p : Program} {l : Launch} {e : Env} {R : Room} {s : State} {m : MethodId} {args : Array Value} {below : List Frame} {meth : Method} {c : Code} {T : State} {locs : List Loc} {cells slots : Nat}
theorem retI (X : Stand p l e R s m args below meth c T locs cells slots) (hx : p.tables.exec = Jvm.exec) {pc : Nat} {Ls : Array Slot} {z : Int32} {rest : List Value} (hret : meth.sig.returnType = some .int) (hd : decode c.code pc = .ok (.ireturn, 1)) {fs : List Frame}
    (hl : ∀ (f : JFrame) (acts : List Action), f.method = m → f.locked = none → f.entered = [] → (doReturn e (T.setTop f) acts (some (.int z))).1 = T.setFrames fs) : Steps p.tables e below (T.setTop (mkF m pc Ls (.int z :: rest))) (T.setFrames fs) := by
  have hm' : T.vm.method? m = some meth := X.method'
  have hn : narrow .int (.int z) = .int z := rfl
  show Steps p.tables e below (T.setTop { method := m, pc := pc, locals := Ls, stack := _ :: rest, locked := none }) _
  jvm_step X.here [X.here.top, hx, hd, hm', hret, hn]
  first | (intro acts; rw [hl _ acts rfl rfl rfl]) | rw [hl _ _ rfl rfl rfl]
  exact Steps.refl _
end New
end Jvm.RoadKit
namespace Jvm.Pilot.@@N@@
open Jvm Jvm.ClassFile Sem Op Lib Jvm.Free Jvm.Stand Jvm.LawKit Jvm.RoadKit Bundle Jvm.Pilot.@@N@@.Jvm.D
theorem own_c4 (v : Int32) : ((v &&& (3 : Int32)) + (1 : Int32)) = (1 : Int32) ∨ ((v &&& (3 : Int32)) + (1 : Int32)) = (2 : Int32) ∨ ((v &&& (3 : Int32)) + (1 : Int32)) = (3 : Int32) ∨ ((v &&& (3 : Int32)) + (1 : Int32)) = (4 : Int32) := by
  have e := c_mask v 3 2 (by decide) (by decide)
  have a := c_iadd (v &&& 3) 1
  have r := rng32 ((v &&& 3) + 1)
  have h1 : (1 : Int32).toInt = 1 := rfl
  have h2 : (2 : Int32).toInt = 2 := rfl
  have h3 : (3 : Int32).toInt = 3 := rfl
  have h4 : (4 : Int32).toInt = 4 := rfl
  simp only [← Int32.toInt_inj, h1, h2, h3, h4]
  omega
theorem ef5 (m : MethodId) (x0 : Int32) (x1 : Int32) : entryFrame m #[(.int x0), (.int x1)] 2 = mkF m 0 #[.val (.int x0), .val (.int x1)] [] := by first | (simp [entryFrame, mkF, argsToLocals, Value.category]; done) | rfl
theorem d5_0 : decode jdk_29_method_69_code 0 = .ok (.iload_n 0, 1) := by decide +kernel
theorem d5_1 : decode jdk_29_method_69_code 1 = .ok (.iload_n 1, 1) := by decide +kernel
theorem d5_2 : decode jdk_29_method_69_code 2 = .ok (.if_icmp .gt 7, 3) := by decide +kernel
theorem d5_5 : decode jdk_29_method_69_code 5 = .ok (.iload_n 0, 1) := by decide +kernel
theorem d5_6 : decode jdk_29_method_69_code 6 = .ok (.goto 4, 3) := by decide +kernel
theorem d5_10 : decode jdk_29_method_69_code 10 = .ok (.ireturn, 1) := by decide +kernel
def Q5 (Z : State) (x1 : Int32) (x2 : Int32) (h0 : Heap) (n0 : Nat) (v : Option Value) (h : Heap) (L : List Loc) : Prop := v = some (.int x1) ∧ Fr n0 L ∧ h = h0
set_option maxRecDepth 65536 in
set_option maxHeartbeats 40000000 in
theorem rm5 (l : Launch) (Z : State) (a0 : Array Value) (hw : ∀ d ∈ tables_1, d.before a0 Z = true) (ws : List Jvm.Cond) (x1 : Int32) (x2 : Int32) (h0 : Heap) (n0 : Nat) (Z0 : n0 ≤ h0.size) (hm : ¬ x2 < x1) :
    MetFree l (⟨"java/lang/Math", "min", "(II)I"⟩ : MethodName) (head1 (Jvm.Cond.code (⟨"java/lang/Math", "min", "(II)I"⟩ : MethodName) jdk_29_method_69_code 2 (some .int) :: ws) ({ frames := 0, cells := 0, slots := 0, locals := 0 } : Room)) (fun zza zzU => zza = #[(.int x1), (.int x2)] ∧ Z.Warmed39 zzU.vm ∧ zzU.heap = h0) (fun _ _ _ _ _ => True) (fun _ zzU zzo zzV => ∃ zzv zzL, zzo = .returned zzv ∧ Q5 Z x1 x2 h0 n0 zzv zzV.heap zzL ∧ FrameEnd zzU zzo zzV zzL ({ frames := 0, cells := 0, slots := 0, locals := 0 } : Room).cells ({ frames := 0, cells := 0, slots := 0, locals := 0 } : Room).slots) := by
  refine MetFree.of_bodySF (Jvm.Free.JP.mathPlain rfl (by decide +kernel)) hisR ?_
  intro p e s m args below meth c s₁ Bd hml0 hP hK
  obtain ⟨rfl, hZ, hh⟩ := hP
  have hx := Bd.exec
  have hby := Bd.bytes
  have hml : c.maxLocals = 2 := hml0
  have hown : s.vm.findClass "java/lang/Math" = some m.cls := findClass_of_methodNamed Bd.named
  have hnm := (name_of_methodNamed Bd.named Bd.method).1
  have X0 : Stand p l e ({ frames := 0, cells := 0, slots := 0, locals := 0 } : Room) s m #[(.int x1), (.int x2)] below meth c s₁ [] 0 0 := Stand.of_body Bd
  have e0 : s₁.heap = h0 := by rw [← hh, Bd.state]; rfl
  have N0 := Fr.nil n0
  have R0 : ∀ t, Steps p.tables e below (s₁.setTop (mkF m 0 #[.val (.int x1), .val (.int x2)] [])) t → Steps p.tables e below (s₁.setTop (entryFrame m #[(.int x1), (.int x2)] 2)) t := fun t k => castTop (ef5 m x1 x2) k
  have R1 : ∀ t, Steps p.tables e below (s₁.setTop (mkF m 10 #[.val (.int x1), .val (.int x2)] [(.int x1)])) t → Steps p.tables e below (s₁.setTop (entryFrame m #[(.int x1), (.int x2)] 2)) t := by
    intro t k
    refine R0 t ?_
    show Steps p.tables e below (s₁.setTop (mkF m 0 #[.val (.int x1), .val (.int x2)] [])) _
    refine XS.iloadN X0.here hx rfl (hb hby d5_0) rfl ?_
    show Steps p.tables e below (s₁.setTop (mkF m 1 #[.val (.int x1), .val (.int x2)] [(.int x1)])) _
    refine XS.iloadN X0.here hx rfl (hb hby d5_1) rfl ?_
    show Steps p.tables e below (s₁.setTop (mkF m 2 #[.val (.int x1), .val (.int x2)] [(.int x2), (.int x1)])) _
    refine XS.icmpNo X0.here hx rfl (hb hby d5_2) rfl (flt hm).2.2.1 ?_
    show Steps p.tables e below (s₁.setTop (mkF m 5 #[.val (.int x1), .val (.int x2)] [])) _
    refine XS.iloadN X0.here hx rfl (hb hby d5_5) rfl ?_
    show Steps p.tables e below (s₁.setTop (mkF m 6 #[.val (.int x1), .val (.int x2)] [(.int x1)])) _
    refine XS.goto X0.here hx rfl (pc0 := 6) (pc' := 10) rfl (hb hby d5_6) (by decide) (by decide) ?_
    exact k
  obtain ⟨fs, hr, hrun, hended, hW, hsame⟩ := X0.leave (v := some (.int x1)) (fun h => by rw [Bd.returns] at h; cases h)
  refine ⟨_, _, R1 _ ?_, hrun, hended, _, _, rfl, ?_, ⟨_, rfl⟩, hW, hsame.mono (by decide) (by decide)⟩
  · exact retI X0 hx Bd.returns (hb hby d5_10) hr
  · show Q5 Z x1 x2 h0 n0 _ s₁.heap _
    rw [e0]
    exact ⟨rfl, N0, rfl⟩
theorem ef4n1 (m : MethodId) (x0 : Addr) (x1 : Int32) : entryFrame m #[(.ref x0), (.int x1)] 3 = mkF m 0 #[.val (.ref x0), .val (.int x1), .unset] [] := by first | (simp [entryFrame, mkF, argsToLocals, Value.category]; done) | rfl
theorem pn_0 : plainName "java/util/Arrays" = true := by first | (simp [plainName, overriddenIn]; done) | decide +kernel
theorem d4_0 : decode jdk_65_method_124_code 0 = .ok (.iload_n 1, 1) := by decide +kernel
theorem d4_1 : decode jdk_65_method_124_code 1 = .ok (.aload_n 0, 1) := by decide +kernel
theorem d4_2 : decode jdk_65_method_124_code 2 = .ok (.arraylength, 1) := by decide +kernel
theorem d4_3 : decode jdk_65_method_124_code 3 = .ok (.if_icmp .ne 11, 3) := by decide +kernel
theorem d4_14 : decode jdk_65_method_124_code 14 = .ok (.iload_n 1, 1) := by decide +kernel
theorem d4_15 : decode jdk_65_method_124_code 15 = .ok (.newarray .long, 2) := by decide +kernel
theorem d4_17 : decode jdk_65_method_124_code 17 = .ok (.astore_n 2, 1) := by decide +kernel
theorem d4_18 : decode jdk_65_method_124_code 18 = .ok (.aload_n 0, 1) := by decide +kernel
theorem d4_19 : decode jdk_65_method_124_code 19 = .ok (.iconst 0, 1) := by decide +kernel
theorem d4_20 : decode jdk_65_method_124_code 20 = .ok (.aload_n 2, 1) := by decide +kernel
theorem d4_21 : decode jdk_65_method_124_code 21 = .ok (.iconst 0, 1) := by decide +kernel
theorem d4_22 : decode jdk_65_method_124_code 22 = .ok (.aload_n 0, 1) := by decide +kernel
theorem d4_23 : decode jdk_65_method_124_code 23 = .ok (.arraylength, 1) := by decide +kernel
theorem d4_24 : decode jdk_65_method_124_code 24 = .ok (.iload_n 1, 1) := by decide +kernel
theorem pd_0 : parseMethodDescriptor "(II)I" = some ⟨[.int, .int], some .int⟩ := by decide +kernel
theorem d4_25 : decode jdk_65_method_124_code 25 = .ok (.invokestatic 304, 3) := by decide +kernel
theorem d4_28 : decode jdk_65_method_124_code 28 = .ok (.invokestatic 150, 3) := by decide +kernel
theorem d4_31 : decode jdk_65_method_124_code 31 = .ok (.aload_n 2, 1) := by decide +kernel
theorem d4_32 : decode jdk_65_method_124_code 32 = .ok (.areturn, 1) := by decide +kernel
def Q4n1 (Z : State) (r : Addr) (nn : Int32) (kc : ClassId) (u0 : Int64) (h0 : Heap) (n0 : Nat) (v : Option Value) (h : Heap) (L : List Loc) : Prop := v = some (.ref h0.size) ∧ Fr n0 L ∧ ∃ kc2 : ClassId, Keep h0 h [] ∧ Arv Z h h0.size kc2 .long (2 : Int32) [(.long u0), (.long (0 : Int64))] (.long (0 : Int64))
set_option maxRecDepth 65536 in
set_option maxHeartbeats 40000000 in
theorem rm4n1 (l : Launch) (Z : State) (a0 : Array Value) (hw : ∀ d ∈ tables_1, d.before a0 Z = true) (ws : List Jvm.Cond) (r : Addr) (nn : Int32) (kc : ClassId) (u0 : Int64) (h0 : Heap) (n0 : Nat) (Z0 : n0 ≤ h0.size) (V_r : Arv Z h0 r kc .long (1 : Int32) [(.long u0)] (.long (0 : Int64))) (hnn : nn = (2 : Int32)) :
    MetFree l (⟨"java/util/Arrays", "copyOf", "([JI)[J"⟩ : MethodName) (head1 (Jvm.Cond.code (⟨"java/util/Arrays", "copyOf", "([JI)[J"⟩ : MethodName) jdk_65_method_124_code 3 (some (.array .long)) :: ws) ({ frames := 1, cells := 1, slots := 2, locals := 60 } : Room)) (fun zza zzU => zza = #[(.ref r), (.int nn)] ∧ Z.Warmed39 zzU.vm ∧ zzU.heap = h0) (fun _ _ _ _ _ => True) (fun _ zzU zzo zzV => ∃ zzv zzL, zzo = .returned zzv ∧ Q4n1 Z r nn kc u0 h0 n0 zzv zzV.heap zzL ∧ FrameEnd zzU zzo zzV zzL ({ frames := 1, cells := 1, slots := 2, locals := 60 } : Room).cells ({ frames := 1, cells := 1, slots := 2, locals := 60 } : Room).slots) := by
  refine MetFree.of_bodySF (plainFor_of_name pn_0) hisR ?_
  intro p e s m args below meth c s₁ Bd hml0 hP hK
  obtain ⟨rfl, hZ, hh⟩ := hP
  have hx := Bd.exec
  have hby := Bd.bytes
  have hml : c.maxLocals = 3 := hml0
  have hown : s.vm.findClass "java/util/Arrays" = some m.cls := findClass_of_methodNamed Bd.named
  have hnm := (name_of_methodNamed Bd.named Bd.method).1
  have X0 : Stand p l e ({ frames := 1, cells := 1, slots := 2, locals := 60 } : Room) s m #[(.ref r), (.int nn)] below meth c s₁ [] 0 0 := Stand.of_body Bd
  have e0 : s₁.heap = h0 := by rw [← hh, Bd.state]; rfl
  have N0 := Fr.nil n0
  have R0 : ∀ t, Steps p.tables e below (s₁.setTop (mkF m 0 #[.val (.ref r), .val (.int nn), .unset] [])) t → Steps p.tables e below (s₁.setTop (entryFrame m #[(.ref r), (.int nn)] 3)) t := fun t k => castTop (ef4n1 m r nn) k
  subst hnn
  have KP := Keep.refl h0 []
  have R1 : ∀ t, Steps p.tables e below (s₁.setTop (mkF m 2 #[.val (.ref r), .val (.int (2 : Int32)), .unset] [(.ref r), (.int (2 : Int32))])) t → Steps p.tables e below (s₁.setTop (entryFrame m #[(.ref r), (.int (2 : Int32))] 3)) t := by
    intro t k
    refine R0 t ?_
    show Steps p.tables e below (s₁.setTop (mkF m 0 #[.val (.ref r), .val (.int (2 : Int32)), .unset] [])) _
    refine XS.iloadN X0.here hx rfl (hb hby d4_0) rfl ?_
    show Steps p.tables e below (s₁.setTop (mkF m 1 #[.val (.ref r), .val (.int (2 : Int32)), .unset] [(.int (2 : Int32))])) _
    refine XS.aloadN X0.here hx rfl (hb hby d4_1) rfl rfl ?_
    exact k
  obtain ⟨cl2, Ar2, Aq2, As2, An2, Ah2, Ag2⟩ := id V_r
  have R3 : ∀ t, Steps p.tables e below (s₁.setTop (mkF m 15 #[.val (.ref r), .val (.int (2 : Int32)), .unset] [(.int (2 : Int32))])) t → Steps p.tables e below (s₁.setTop (entryFrame m #[(.ref r), (.int (2 : Int32))] 3)) t := by
    intro t k
    refine R1 t ?_
    show Steps p.tables e below (s₁.setTop (mkF m 2 #[.val (.ref r), .val (.int (2 : Int32)), .unset] [(.ref r), (.int (2 : Int32))])) _
    refine X0.arraylength hx (by rw [e0]; exact Ar2.1) (State.isArrayOf_alike hZ.alike Ar2.2.1) (g := (mkF m 2 #[.val (.ref r), .val (.int (2 : Int32)), .unset] [(.ref r), (.int (2 : Int32))])) rfl rfl (hb hby d4_2) _ ?_
    rw [len_of As2 An2]
    show Steps p.tables e below (s₁.setTop (mkF m 3 #[.val (.ref r), .val (.int (2 : Int32)), .unset] [(.int (1 : Int32)), (.int (2 : Int32))])) _
    refine XS.icmpYes X0.here hx rfl (pc0 := 3) (pc' := 14) rfl (hb hby d4_3) rfl (feq (by decide)).2 (by decide) (by decide) ?_
    show Steps p.tables e below (s₁.setTop (mkF m 14 #[.val (.ref r), .val (.int (2 : Int32)), .unset] [])) _
    refine XS.iloadN X0.here hx rfl (hb hby d4_14) rfl ?_
    exact k
  obtain ⟨T4, h4, k4, X4, e4, E4, A4, st4⟩ := newP X0 hx hZ (hw _ (List.mem_of_getElem? (i := 9) rfl)) e0 (g := (mkF m 15 #[.val (.ref r), .val (.int (2 : Int32)), .unset] [(.int (2 : Int32))])) rfl (hb hby d4_15) rfl (by decide) (cap := 2) (by decide) (by decide) (by decide) (by decide)
  obtain ⟨b, g4⟩ : ∃ z, z = h0.size := ⟨_, rfl⟩
  rw [← g4] at A4 st4
  have ge_b : n0 ≤ b := by rw [g4]; exact Z0
  have Sz4 := Nat.le_trans Z0 E4.1
  have sz0_b : h0.size ≤ b := by rw [g4]; exact KP.1
  have KP := KP.ext E4
  have ne_r_b : r ≠ b := Nat.ne_of_lt (Nat.lt_of_lt_of_le V_r.lt (Nat.le_of_eq g4.symm))
  have V_r := V_r.ext E4
  have V_b : Arv Z h4 b k4 .long (2 : Int32) [(.long (0 : Int64)), (.long (0 : Int64))] (.long (0 : Int64)) := (Arv.new A4 (by decide)).pad (pad_rep [] (.long (0 : Int64)) 2)
  have R5 : ∀ t, Steps p.tables e below (T4.setTop (mkF m 23 #[.val (.ref r), .val (.int (2 : Int32)), .val (.ref b)] [(.ref r), (.int (0 : Int32)), (.ref b), (.int (0 : Int32)), (.ref r)])) t → Steps p.tables e below (s₁.setTop (entryFrame m #[(.ref r), (.int (2 : Int32))] 3)) t := by
    intro t k
    refine R3 t ?_
    show Steps p.tables e below (s₁.setTop (mkF m 15 #[.val (.ref r), .val (.int (2 : Int32)), .unset] [(.int (2 : Int32))])) _
    refine st4 _ ?_
    show Steps p.tables e below (T4.setTop (mkF m 17 #[.val (.ref r), .val (.int (2 : Int32)), .unset] [(.ref b)])) _
    refine XS.astoreN X4.here hx rfl (hb hby d4_17) rfl rfl (l' := #[.val (.ref r), .val (.int (2 : Int32)), .val (.ref b)]) rfl ?_
    show Steps p.tables e below (T4.setTop (mkF m 18 #[.val (.ref r), .val (.int (2 : Int32)), .val (.ref b)] [])) _
    refine XS.aloadN X4.here hx rfl (hb hby d4_18) rfl rfl ?_
    show Steps p.tables e below (T4.setTop (mkF m 19 #[.val (.ref r), .val (.int (2 : Int32)), .val (.ref b)] [(.ref r)])) _
    refine XS.iconst X4.here hx rfl (hb hby d4_19) ?_
    show Steps p.tables e below (T4.setTop (mkF m 20 #[.val (.ref r), .val (.int (2 : Int32)), .val (.ref b)] [(.int (0 : Int32)), (.ref r)])) _
    refine XS.aloadN X4.here hx rfl (hb hby d4_20) rfl rfl ?_
    show Steps p.tables e below (T4.setTop (mkF m 21 #[.val (.ref r), .val (.int (2 : Int32)), .val (.ref b)] [(.ref b), (.int (0 : Int32)), (.ref r)])) _
    refine XS.iconst X4.here hx rfl (hb hby d4_21) ?_
    show Steps p.tables e below (T4.setTop (mkF m 22 #[.val (.ref r), .val (.int (2 : Int32)), .val (.ref b)] [(.int (0 : Int32)), (.ref b), (.int (0 : Int32)), (.ref r)])) _
    refine XS.aloadN X4.here hx rfl (hb hby d4_22) rfl rfl ?_
    exact k
  obtain ⟨cl6, Ar6, Aq6, As6, An6, Ah6, Ag6⟩ := id V_r
  have R7 : ∀ t, Steps p.tables e below (T4.setTop (mkF m 25 #[.val (.ref r), .val (.int (2 : Int32)), .val (.ref b)] [(.int (2 : Int32)), (.int (1 : Int32)), (.int (0 : Int32)), (.ref b), (.int (0 : Int32)), (.ref r)])) t → Steps p.tables e below (s₁.setTop (entryFrame m #[(.ref r), (.int (2 : Int32))] 3)) t := by
    intro t k
    refine R5 t ?_
    show Steps p.tables e below (T4.setTop (mkF m 23 #[.val (.ref r), .val (.int (2 : Int32)), .val (.ref b)] [(.ref r), (.int (0 : Int32)), (.ref b), (.int (0 : Int32)), (.ref r)])) _
    refine X4.arraylength hx (by rw [e4]; exact Ar6.1) (State.isArrayOf_alike hZ.alike Ar6.2.1) (g := (mkF m 23 #[.val (.ref r), .val (.int (2 : Int32)), .val (.ref b)] [(.ref r), (.int (0 : Int32)), (.ref b), (.int (0 : Int32)), (.ref r)])) rfl rfl (hb hby d4_23) _ ?_
    rw [len_of As6 An6]
    show Steps p.tables e below (T4.setTop (mkF m 24 #[.val (.ref r), .val (.int (2 : Int32)), .val (.ref b)] [(.int (1 : Int32)), (.int (0 : Int32)), (.ref b), (.int (0 : Int32)), (.ref r)])) _
    refine XS.iloadN X4.here hx rfl (hb hby d4_24) rfl ?_
    exact k
  obtain ⟨_, _, ⟨T8, L8, k8, n8⟩, -, X8, ⟨Lc8, hQ8, l8, y8, z8⟩, st8⟩ := Jvm.LawKit.callS X4 hx (y := (⟨"java/lang/Math", "min", "(II)I"⟩ : MethodName)) hown (mvT hZ (hw _ (List.mem_of_getElem? (i := 23) rfl))) (mvT hZ (hw _ (List.mem_of_getElem? (i := 24) rfl))) (mvT hZ (hw _ (List.mem_of_getElem? (i := 25) rfl))) (mvT hZ (hw _ (List.mem_of_getElem? (i := 26) rfl))) (by decide) (backOf (W := 4) (rm5 l Z a0 hw [] (1 : Int32) (2 : Int32) h4 n0 Sz4 (by decide)) hZ (hw _ (List.mem_of_getElem? (i := 26) rfl)) (hw _ (List.mem_of_getElem? (i := 25) rfl)) (by decide) (by decide)) (g := (mkF m 25 #[.val (.ref r), .val (.int (2 : Int32)), .val (.ref b)] [(.int (2 : Int32)), (.int (1 : Int32)), (.int (0 : Int32)), (.ref b), (.int (0 : Int32)), (.ref r)])) rfl (by rw [hml]; rfl) (argsL := [(.int (1 : Int32)), (.int (2 : Int32))]) (rest := [(.int (0 : Int32)), (.ref b), (.int (0 : Int32)), (.ref r)]) (lenOf pd_0 rfl) rfl (by show 2 * 0 + _ ≤ _; exact Nat.le_of_eq rfl) (hb hby d4_25) (fun _ _ => ⟨rfl, e4, (by decide : 1 + 0 ≤ _), (by decide : 2 + 0 ≤ _)⟩)
  dsimp only [Pt.U, Pt.locs, Pt.cells, Pt.slots] at X8 l8 y8 z8 st8 hQ8
  subst l8 y8 z8
  obtain ⟨rfl, Nq8, eq8⟩ := hQ8
  have N8 := Fr.app N0 Nq8
  have e8 : T8.heap = h4 := eq8
  have R9 : ∀ t, Steps p.tables e below (T8.setTop (mkF m 28 #[.val (.ref r), .val (.int (2 : Int32)), .val (.ref b)] [(.int (1 : Int32)), (.int (0 : Int32)), (.ref b), (.int (0 : Int32)), (.ref r)])) t → Steps p.tables e below (s₁.setTop (entryFrame m #[(.ref r), (.int (2 : Int32))] 3)) t := by
    intro t k
    refine R7 t ?_
    show Steps p.tables e below (T4.setTop (mkF m 25 #[.val (.ref r), .val (.int (2 : Int32)), .val (.ref b)] [(.int (2 : Int32)), (.int (1 : Int32)), (.int (0 : Int32)), (.ref b), (.int (0 : Int32)), (.ref r)])) _
    refine st8 _ ?_
    exact k
  obtain ⟨T10, h10, Lc10, X10, e10, N10, K10, V10, st10⟩ := cpA X8 hx hZ hown (hw _ (List.mem_of_getElem? (i := 27) rfl)) (hw _ (List.mem_of_getElem? (i := 30) rfl)) (hw _ (List.mem_of_getElem? (i := 28) rfl)) (hw _ (List.mem_of_getElem? (i := 29) rfl)) e8 V_r V_b (Or.inl ⟨rfl, rfl⟩) (by decide) (by decide) (by decide) (by decide) (by decide) (us := [(.long u0)]) rfl (by decide) N8 ge_b (g := (mkF m 28 #[.val (.ref r), .val (.int (2 : Int32)), .val (.ref b)] [(.int (1 : Int32)), (.int (0 : Int32)), (.ref b), (.int (0 : Int32)), (.ref r)])) rfl (by rw [hml]; rfl) rfl (hb hby d4_28) (by decide) (W := 0) (by show 2 * 0 + _ ≤ _; exact Nat.le_of_eq rfl) (by decide)
  have Sz10 := Nat.le_trans Sz4 K10.1
  have V_r := V_r.keep K10 (ninS ne_r_b nin0)
  have V_b : Arv Z h10 b k4 .long (2 : Int32) [(.long u0), (.long (0 : Int64))] (.long (0 : Int64)) := V10
  have KP := KP.trans K10 (allS (Or.inr sz0_b) all0)
  have R11 : ∀ t, Steps p.tables e below (T10.setTop (mkF m 32 #[.val (.ref r), .val (.int (2 : Int32)), .val (.ref b)] [(.ref b)])) t → Steps p.tables e below (s₁.setTop (entryFrame m #[(.ref r), (.int (2 : Int32))] 3)) t := by
    intro t k
    refine R9 t ?_
    show Steps p.tables e below (T8.setTop (mkF m 28 #[.val (.ref r), .val (.int (2 : Int32)), .val (.ref b)] [(.int (1 : Int32)), (.int (0 : Int32)), (.ref b), (.int (0 : Int32)), (.ref r)])) _
    refine st10 _ ?_
    show Steps p.tables e below (T10.setTop (mkF m 31 #[.val (.ref r), .val (.int (2 : Int32)), .val (.ref b)] [])) _
    refine XS.aloadN X10.here hx rfl (hb hby d4_31) rfl rfl ?_
    exact k
  have gb : b = h0.size := g4
  obtain ⟨fs, hr, hrun, hended, hW, hsame⟩ := X10.leave (v := some (.ref b)) (fun h => by rw [Bd.returns] at h; cases h)
  refine ⟨_, _, R11 _ ?_, hrun, hended, _, _, rfl, ?_, ⟨_, rfl⟩, hW, hsame.mono (by decide) (by decide)⟩
  · exact retOut X10 hx Bd.returns rfl (Or.inr (Or.inr (Or.inr (Or.inr ⟨rfl, rfl, rfl⟩)))) (hb hby d4_32) hr
  · show Q4n1 Z r (2 : Int32) kc u0 h0 n0 _ T10.heap _
    rw [e10]
    exact ⟨(by rw [gb]), N10, ⟨k4, KP, gb ▸ V_b⟩⟩
theorem ef4n2 (m : MethodId) (x0 : Addr) (x1 : Int32) : entryFrame m #[(.ref x0), (.int x1)] 3 = mkF m 0 #[.val (.ref x0), .val (.int x1), .unset] [] := by first | (simp [entryFrame, mkF, argsToLocals, Value.category]; done) | rfl
def Q4n2 (Z : State) (r : Addr) (nn : Int32) (kc : ClassId) (u0 : Int64) (u1 : Int64) (h0 : Heap) (n0 : Nat) (v : Option Value) (h : Heap) (L : List Loc) : Prop := v = some (.ref h0.size) ∧ Fr n0 L ∧ ∃ kc2 : ClassId, Keep h0 h [] ∧ Arv Z h h0.size kc2 .long (4 : Int32) [(.long u0), (.long u1), (.long (0 : Int64)), (.long (0 : Int64))] (.long (0 : Int64))
set_option maxRecDepth 65536 in
set_option maxHeartbeats 40000000 in
theorem rm4n2 (l : Launch) (Z : State) (a0 : Array Value) (hw : ∀ d ∈ tables_1, d.before a0 Z = true) (ws : List Jvm.Cond) (r : Addr) (nn : Int32) (kc : ClassId) (u0 : Int64) (u1 : Int64) (h0 : Heap) (n0 : Nat) (Z0 : n0 ≤ h0.size) (V_r : Arv Z h0 r kc .long (2 : Int32) [(.long u0), (.long u1)] (.long (0 : Int64))) (hnn : nn = (4 : Int32)) :
    MetFree l (⟨"java/util/Arrays", "copyOf", "([JI)[J"⟩ : MethodName) (head1 (Jvm.Cond.code (⟨"java/util/Arrays", "copyOf", "([JI)[J"⟩ : MethodName) jdk_65_method_124_code 3 (some (.array .long)) :: ws) ({ frames := 1, cells := 1, slots := 4, locals := 60 } : Room)) (fun zza zzU => zza = #[(.ref r), (.int nn)] ∧ Z.Warmed39 zzU.vm ∧ zzU.heap = h0) (fun _ _ _ _ _ => True) (fun _ zzU zzo zzV => ∃ zzv zzL, zzo = .returned zzv ∧ Q4n2 Z r nn kc u0 u1 h0 n0 zzv zzV.heap zzL ∧ FrameEnd zzU zzo zzV zzL ({ frames := 1, cells := 1, slots := 4, locals := 60 } : Room).cells ({ frames := 1, cells := 1, slots := 4, locals := 60 } : Room).slots) := by
  refine MetFree.of_bodySF (plainFor_of_name pn_0) hisR ?_
  intro p e s m args below meth c s₁ Bd hml0 hP hK
  obtain ⟨rfl, hZ, hh⟩ := hP
  have hx := Bd.exec
  have hby := Bd.bytes
  have hml : c.maxLocals = 3 := hml0
  have hown : s.vm.findClass "java/util/Arrays" = some m.cls := findClass_of_methodNamed Bd.named
  have hnm := (name_of_methodNamed Bd.named Bd.method).1
  have X0 : Stand p l e ({ frames := 1, cells := 1, slots := 4, locals := 60 } : Room) s m #[(.ref r), (.int nn)] below meth c s₁ [] 0 0 := Stand.of_body Bd
  have e0 : s₁.heap = h0 := by rw [← hh, Bd.state]; rfl
  have N0 := Fr.nil n0
  have R0 : ∀ t, Steps p.tables e below (s₁.setTop (mkF m 0 #[.val (.ref r), .val (.int nn), .unset] [])) t → Steps p.tables e below (s₁.setTop (entryFrame m #[(.ref r), (.int nn)] 3)) t := fun t k => castTop (ef4n2 m r nn) k
  subst hnn
  have KP := Keep.refl h0 []
  have R1 : ∀ t, Steps p.tables e below (s₁.setTop (mkF m 2 #[.val (.ref r), .val (.int (4 : Int32)), .unset] [(.ref r), (.int (4 : Int32))])) t → Steps p.tables e below (s₁.setTop (entryFrame m #[(.ref r), (.int (4 : Int32))] 3)) t := by
    intro t k
    refine R0 t ?_
    show Steps p.tables e below (s₁.setTop (mkF m 0 #[.val (.ref r), .val (.int (4 : Int32)), .unset] [])) _
    refine XS.iloadN X0.here hx rfl (hb hby d4_0) rfl ?_
    show Steps p.tables e below (s₁.setTop (mkF m 1 #[.val (.ref r), .val (.int (4 : Int32)), .unset] [(.int (4 : Int32))])) _
    refine XS.aloadN X0.here hx rfl (hb hby d4_1) rfl rfl ?_
    exact k
  obtain ⟨cl2, Ar2, Aq2, As2, An2, Ah2, Ag2⟩ := id V_r
  have R3 : ∀ t, Steps p.tables e below (s₁.setTop (mkF m 15 #[.val (.ref r), .val (.int (4 : Int32)), .unset] [(.int (4 : Int32))])) t → Steps p.tables e below (s₁.setTop (entryFrame m #[(.ref r), (.int (4 : Int32))] 3)) t := by
    intro t k
    refine R1 t ?_
    show Steps p.tables e below (s₁.setTop (mkF m 2 #[.val (.ref r), .val (.int (4 : Int32)), .unset] [(.ref r), (.int (4 : Int32))])) _
    refine X0.arraylength hx (by rw [e0]; exact Ar2.1) (State.isArrayOf_alike hZ.alike Ar2.2.1) (g := (mkF m 2 #[.val (.ref r), .val (.int (4 : Int32)), .unset] [(.ref r), (.int (4 : Int32))])) rfl rfl (hb hby d4_2) _ ?_
    rw [len_of As2 An2]
    show Steps p.tables e below (s₁.setTop (mkF m 3 #[.val (.ref r), .val (.int (4 : Int32)), .unset] [(.int (2 : Int32)), (.int (4 : Int32))])) _
    refine XS.icmpYes X0.here hx rfl (pc0 := 3) (pc' := 14) rfl (hb hby d4_3) rfl (feq (by decide)).2 (by decide) (by decide) ?_
    show Steps p.tables e below (s₁.setTop (mkF m 14 #[.val (.ref r), .val (.int (4 : Int32)), .unset] [])) _
    refine XS.iloadN X0.here hx rfl (hb hby d4_14) rfl ?_
    exact k
  obtain ⟨T4, h4, k4, X4, e4, E4, A4, st4⟩ := newP X0 hx hZ (hw _ (List.mem_of_getElem? (i := 9) rfl)) e0 (g := (mkF m 15 #[.val (.ref r), .val (.int (4 : Int32)), .unset] [(.int (4 : Int32))])) rfl (hb hby d4_15) rfl (by decide) (cap := 4) (by decide) (by decide) (by decide) (by decide)
  obtain ⟨b, g4⟩ : ∃ z, z = h0.size := ⟨_, rfl⟩
  rw [← g4] at A4 st4
  have ge_b : n0 ≤ b := by rw [g4]; exact Z0
  have Sz4 := Nat.le_trans Z0 E4.1
  have sz0_b : h0.size ≤ b := by rw [g4]; exact KP.1
  have KP := KP.ext E4
  have ne_r_b : r ≠ b := Nat.ne_of_lt (Nat.lt_of_lt_of_le V_r.lt (Nat.le_of_eq g4.symm))
  have V_r := V_r.ext E4
  have V_b : Arv Z h4 b k4 .long (4 : Int32) [(.long (0 : Int64)), (.long (0 : Int64)), (.long (0 : Int64)), (.long (0 : Int64))] (.long (0 : Int64)) := (Arv.new A4 (by decide)).pad (pad_rep [] (.long (0 : Int64)) 4)
  have R5 : ∀ t, Steps p.tables e below (T4.setTop (mkF m 23 #[.val (.ref r), .val (.int (4 : Int32)), .val (.ref b)] [(.ref r), (.int (0 : Int32)), (.ref b), (.int (0 : Int32)), (.ref r)])) t → Steps p.tables e below (s₁.setTop (entryFrame m #[(.ref r), (.int (4 : Int32))] 3)) t := by
    intro t k
    refine R3 t ?_
    show Steps p.tables e below (s₁.setTop (mkF m 15 #[.val (.ref r), .val (.int (4 : Int32)), .unset] [(.int (4 : Int32))])) _
    refine st4 _ ?_
    show Steps p.tables e below (T4.setTop (mkF m 17 #[.val (.ref r), .val (.int (4 : Int32)), .unset] [(.ref b)])) _
    refine XS.astoreN X4.here hx rfl (hb hby d4_17) rfl rfl (l' := #[.val (.ref r), .val (.int (4 : Int32)), .val (.ref b)]) rfl ?_
    show Steps p.tables e below (T4.setTop (mkF m 18 #[.val (.ref r), .val (.int (4 : Int32)), .val (.ref b)] [])) _
    refine XS.aloadN X4.here hx rfl (hb hby d4_18) rfl rfl ?_
    show Steps p.tables e below (T4.setTop (mkF m 19 #[.val (.ref r), .val (.int (4 : Int32)), .val (.ref b)] [(.ref r)])) _
    refine XS.iconst X4.here hx rfl (hb hby d4_19) ?_
    show Steps p.tables e below (T4.setTop (mkF m 20 #[.val (.ref r), .val (.int (4 : Int32)), .val (.ref b)] [(.int (0 : Int32)), (.ref r)])) _
    refine XS.aloadN X4.here hx rfl (hb hby d4_20) rfl rfl ?_
    show Steps p.tables e below (T4.setTop (mkF m 21 #[.val (.ref r), .val (.int (4 : Int32)), .val (.ref b)] [(.ref b), (.int (0 : Int32)), (.ref r)])) _
    refine XS.iconst X4.here hx rfl (hb hby d4_21) ?_
    show Steps p.tables e below (T4.setTop (mkF m 22 #[.val (.ref r), .val (.int (4 : Int32)), .val (.ref b)] [(.int (0 : Int32)), (.ref b), (.int (0 : Int32)), (.ref r)])) _
    refine XS.aloadN X4.here hx rfl (hb hby d4_22) rfl rfl ?_
    exact k
  obtain ⟨cl6, Ar6, Aq6, As6, An6, Ah6, Ag6⟩ := id V_r
  have R7 : ∀ t, Steps p.tables e below (T4.setTop (mkF m 25 #[.val (.ref r), .val (.int (4 : Int32)), .val (.ref b)] [(.int (4 : Int32)), (.int (2 : Int32)), (.int (0 : Int32)), (.ref b), (.int (0 : Int32)), (.ref r)])) t → Steps p.tables e below (s₁.setTop (entryFrame m #[(.ref r), (.int (4 : Int32))] 3)) t := by
    intro t k
    refine R5 t ?_
    show Steps p.tables e below (T4.setTop (mkF m 23 #[.val (.ref r), .val (.int (4 : Int32)), .val (.ref b)] [(.ref r), (.int (0 : Int32)), (.ref b), (.int (0 : Int32)), (.ref r)])) _
    refine X4.arraylength hx (by rw [e4]; exact Ar6.1) (State.isArrayOf_alike hZ.alike Ar6.2.1) (g := (mkF m 23 #[.val (.ref r), .val (.int (4 : Int32)), .val (.ref b)] [(.ref r), (.int (0 : Int32)), (.ref b), (.int (0 : Int32)), (.ref r)])) rfl rfl (hb hby d4_23) _ ?_
    rw [len_of As6 An6]
    show Steps p.tables e below (T4.setTop (mkF m 24 #[.val (.ref r), .val (.int (4 : Int32)), .val (.ref b)] [(.int (2 : Int32)), (.int (0 : Int32)), (.ref b), (.int (0 : Int32)), (.ref r)])) _
    refine XS.iloadN X4.here hx rfl (hb hby d4_24) rfl ?_
    exact k
  obtain ⟨_, _, ⟨T8, L8, k8, n8⟩, -, X8, ⟨Lc8, hQ8, l8, y8, z8⟩, st8⟩ := Jvm.LawKit.callS X4 hx (y := (⟨"java/lang/Math", "min", "(II)I"⟩ : MethodName)) hown (mvT hZ (hw _ (List.mem_of_getElem? (i := 23) rfl))) (mvT hZ (hw _ (List.mem_of_getElem? (i := 24) rfl))) (mvT hZ (hw _ (List.mem_of_getElem? (i := 25) rfl))) (mvT hZ (hw _ (List.mem_of_getElem? (i := 26) rfl))) (by decide) (backOf (W := 4) (rm5 l Z a0 hw [] (2 : Int32) (4 : Int32) h4 n0 Sz4 (by decide)) hZ (hw _ (List.mem_of_getElem? (i := 26) rfl)) (hw _ (List.mem_of_getElem? (i := 25) rfl)) (by decide) (by decide)) (g := (mkF m 25 #[.val (.ref r), .val (.int (4 : Int32)), .val (.ref b)] [(.int (4 : Int32)), (.int (2 : Int32)), (.int (0 : Int32)), (.ref b), (.int (0 : Int32)), (.ref r)])) rfl (by rw [hml]; rfl) (argsL := [(.int (2 : Int32)), (.int (4 : Int32))]) (rest := [(.int (0 : Int32)), (.ref b), (.int (0 : Int32)), (.ref r)]) (lenOf pd_0 rfl) rfl (by show 2 * 0 + _ ≤ _; exact Nat.le_of_eq rfl) (hb hby d4_25) (fun _ _ => ⟨rfl, e4, (by decide : 1 + 0 ≤ _), (by decide : 4 + 0 ≤ _)⟩)
  dsimp only [Pt.U, Pt.locs, Pt.cells, Pt.slots] at X8 l8 y8 z8 st8 hQ8
  subst l8 y8 z8
  obtain ⟨rfl, Nq8, eq8⟩ := hQ8
  have N8 := Fr.app N0 Nq8
  have e8 : T8.heap = h4 := eq8
  have R9 : ∀ t, Steps p.tables e below (T8.setTop (mkF m 28 #[.val (.ref r), .val (.int (4 : Int32)), .val (.ref b)] [(.int (2 : Int32)), (.int (0 : Int32)), (.ref b), (.int (0 : Int32)), (.ref r)])) t → Steps p.tables e below (s₁.setTop (entryFrame m #[(.ref r), (.int (4 : Int32))] 3)) t := by
    intro t k
    refine R7 t ?_
    show Steps p.tables e below (T4.setTop (mkF m 25 #[.val (.ref r), .val (.int (4 : Int32)), .val (.ref b)] [(.int (4 : Int32)), (.int (2 : Int32)), (.int (0 : Int32)), (.ref b), (.int (0 : Int32)), (.ref r)])) _
    refine st8 _ ?_
    exact k
  obtain ⟨T10, h10, Lc10, X10, e10, N10, K10, V10, st10⟩ := cpA X8 hx hZ hown (hw _ (List.mem_of_getElem? (i := 27) rfl)) (hw _ (List.mem_of_getElem? (i := 30) rfl)) (hw _ (List.mem_of_getElem? (i := 28) rfl)) (hw _ (List.mem_of_getElem? (i := 29) rfl)) e8 V_r V_b (Or.inl ⟨rfl, rfl⟩) (by decide) (by decide) (by decide) (by decide) (by decide) (us := [(.long u0), (.long u1)]) rfl (by decide) N8 ge_b (g := (mkF m 28 #[.val (.ref r), .val (.int (4 : Int32)), .val (.ref b)] [(.int (2 : Int32)), (.int (0 : Int32)), (.ref b), (.int (0 : Int32)), (.ref r)])) rfl (by rw [hml]; rfl) rfl (hb hby d4_28) (by decide) (W := 0) (by show 2 * 0 + _ ≤ _; exact Nat.le_of_eq rfl) (by decide)
  have Sz10 := Nat.le_trans Sz4 K10.1
  have V_r := V_r.keep K10 (ninS ne_r_b nin0)
  have V_b : Arv Z h10 b k4 .long (4 : Int32) [(.long u0), (.long u1), (.long (0 : Int64)), (.long (0 : Int64))] (.long (0 : Int64)) := V10
  have KP := KP.trans K10 (allS (Or.inr sz0_b) all0)
  have R11 : ∀ t, Steps p.tables e below (T10.setTop (mkF m 32 #[.val (.ref r), .val (.int (4 : Int32)), .val (.ref b)] [(.ref b)])) t → Steps p.tables e below (s₁.setTop (entryFrame m #[(.ref r), (.int (4 : Int32))] 3)) t := by
    intro t k
    refine R9 t ?_
    show Steps p.tables e below (T8.setTop (mkF m 28 #[.val (.ref r), .val (.int (4 : Int32)), .val (.ref b)] [(.int (2 : Int32)), (.int (0 : Int32)), (.ref b), (.int (0 : Int32)), (.ref r)])) _
    refine st10 _ ?_
    show Steps p.tables e below (T10.setTop (mkF m 31 #[.val (.ref r), .val (.int (4 : Int32)), .val (.ref b)] [])) _
    refine XS.aloadN X10.here hx rfl (hb hby d4_31) rfl rfl ?_
    exact k
  have gb : b = h0.size := g4
  obtain ⟨fs, hr, hrun, hended, hW, hsame⟩ := X10.leave (v := some (.ref b)) (fun h => by rw [Bd.returns] at h; cases h)
  refine ⟨_, _, R11 _ ?_, hrun, hended, _, _, rfl, ?_, ⟨_, rfl⟩, hW, hsame.mono (by decide) (by decide)⟩
  · exact retOut X10 hx Bd.returns rfl (Or.inr (Or.inr (Or.inr (Or.inr ⟨rfl, rfl, rfl⟩)))) (hb hby d4_32) hr
  · show Q4n2 Z r (4 : Int32) kc u0 u1 h0 n0 _ T10.heap _
    rw [e10]
    exact ⟨(by rw [gb]), N10, ⟨k4, KP, gb ▸ V_b⟩⟩
theorem ef4n3 (m : MethodId) (x0 : Addr) (x1 : Int32) : entryFrame m #[(.ref x0), (.int x1)] 3 = mkF m 0 #[.val (.ref x0), .val (.int x1), .unset] [] := by first | (simp [entryFrame, mkF, argsToLocals, Value.category]; done) | rfl
def Q4n3 (Z : State) (r : Addr) (nn : Int32) (kc : ClassId) (u0 : Int64) (u1 : Int64) (u2 : Int64) (h0 : Heap) (n0 : Nat) (v : Option Value) (h : Heap) (L : List Loc) : Prop := v = some (.ref h0.size) ∧ Fr n0 L ∧ ∃ kc2 : ClassId, Keep h0 h [] ∧ Arv Z h h0.size kc2 .long (6 : Int32) [(.long u0), (.long u1), (.long u2), (.long (0 : Int64)), (.long (0 : Int64)), (.long (0 : Int64))] (.long (0 : Int64))
set_option maxRecDepth 65536 in
set_option maxHeartbeats 40000000 in
theorem rm4n3 (l : Launch) (Z : State) (a0 : Array Value) (hw : ∀ d ∈ tables_1, d.before a0 Z = true) (ws : List Jvm.Cond) (r : Addr) (nn : Int32) (kc : ClassId) (u0 : Int64) (u1 : Int64) (u2 : Int64) (h0 : Heap) (n0 : Nat) (Z0 : n0 ≤ h0.size) (V_r : Arv Z h0 r kc .long (3 : Int32) [(.long u0), (.long u1), (.long u2)] (.long (0 : Int64))) (hnn : nn = (6 : Int32)) :
    MetFree l (⟨"java/util/Arrays", "copyOf", "([JI)[J"⟩ : MethodName) (head1 (Jvm.Cond.code (⟨"java/util/Arrays", "copyOf", "([JI)[J"⟩ : MethodName) jdk_65_method_124_code 3 (some (.array .long)) :: ws) ({ frames := 1, cells := 1, slots := 6, locals := 60 } : Room)) (fun zza zzU => zza = #[(.ref r), (.int nn)] ∧ Z.Warmed39 zzU.vm ∧ zzU.heap = h0) (fun _ _ _ _ _ => True) (fun _ zzU zzo zzV => ∃ zzv zzL, zzo = .returned zzv ∧ Q4n3 Z r nn kc u0 u1 u2 h0 n0 zzv zzV.heap zzL ∧ FrameEnd zzU zzo zzV zzL ({ frames := 1, cells := 1, slots := 6, locals := 60 } : Room).cells ({ frames := 1, cells := 1, slots := 6, locals := 60 } : Room).slots) := by
  refine MetFree.of_bodySF (plainFor_of_name pn_0) hisR ?_
  intro p e s m args below meth c s₁ Bd hml0 hP hK
  obtain ⟨rfl, hZ, hh⟩ := hP
  have hx := Bd.exec
  have hby := Bd.bytes
  have hml : c.maxLocals = 3 := hml0
  have hown : s.vm.findClass "java/util/Arrays" = some m.cls := findClass_of_methodNamed Bd.named
  have hnm := (name_of_methodNamed Bd.named Bd.method).1
  have X0 : Stand p l e ({ frames := 1, cells := 1, slots := 6, locals := 60 } : Room) s m #[(.ref r), (.int nn)] below meth c s₁ [] 0 0 := Stand.of_body Bd
  have e0 : s₁.heap = h0 := by rw [← hh, Bd.state]; rfl
  have N0 := Fr.nil n0
  have R0 : ∀ t, Steps p.tables e below (s₁.setTop (mkF m 0 #[.val (.ref r), .val (.int nn), .unset] [])) t → Steps p.tables e below (s₁.setTop (entryFrame m #[(.ref r), (.int nn)] 3)) t := fun t k => castTop (ef4n3 m r nn) k
  subst hnn
  have KP := Keep.refl h0 []
  have R1 : ∀ t, Steps p.tables e below (s₁.setTop (mkF m 2 #[.val (.ref r), .val (.int (6 : Int32)), .unset] [(.ref r), (.int (6 : Int32))])) t → Steps p.tables e below (s₁.setTop (entryFrame m #[(.ref r), (.int (6 : Int32))] 3)) t := by
    intro t k
    refine R0 t ?_
    show Steps p.tables e below (s₁.setTop (mkF m 0 #[.val (.ref r), .val (.int (6 : Int32)), .unset] [])) _
    refine XS.iloadN X0.here hx rfl (hb hby d4_0) rfl ?_
    show Steps p.tables e below (s₁.setTop (mkF m 1 #[.val (.ref r), .val (.int (6 : Int32)), .unset] [(.int (6 : Int32))])) _
    refine XS.aloadN X0.here hx rfl (hb hby d4_1) rfl rfl ?_
    exact k
  obtain ⟨cl2, Ar2, Aq2, As2, An2, Ah2, Ag2⟩ := id V_r
  have R3 : ∀ t, Steps p.tables e below (s₁.setTop (mkF m 15 #[.val (.ref r), .val (.int (6 : Int32)), .unset] [(.int (6 : Int32))])) t → Steps p.tables e below (s₁.setTop (entryFrame m #[(.ref r), (.int (6 : Int32))] 3)) t := by
    intro t k
    refine R1 t ?_
    show Steps p.tables e below (s₁.setTop (mkF m 2 #[.val (.ref r), .val (.int (6 : Int32)), .unset] [(.ref r), (.int (6 : Int32))])) _
    refine X0.arraylength hx (by rw [e0]; exact Ar2.1) (State.isArrayOf_alike hZ.alike Ar2.2.1) (g := (mkF m 2 #[.val (.ref r), .val (.int (6 : Int32)), .unset] [(.ref r), (.int (6 : Int32))])) rfl rfl (hb hby d4_2) _ ?_
    rw [len_of As2 An2]
    show Steps p.tables e below (s₁.setTop (mkF m 3 #[.val (.ref r), .val (.int (6 : Int32)), .unset] [(.int (3 : Int32)), (.int (6 : Int32))])) _
    refine XS.icmpYes X0.here hx rfl (pc0 := 3) (pc' := 14) rfl (hb hby d4_3) rfl (feq (by decide)).2 (by decide) (by decide) ?_
    show Steps p.tables e below (s₁.setTop (mkF m 14 #[.val (.ref r), .val (.int (6 : Int32)), .unset] [])) _
    refine XS.iloadN X0.here hx rfl (hb hby d4_14) rfl ?_
    exact k
  obtain ⟨T4, h4, k4, X4, e4, E4, A4, st4⟩ := newP X0 hx hZ (hw _ (List.mem_of_getElem? (i := 9) rfl)) e0 (g := (mkF m 15 #[.val (.ref r), .val (.int (6 : Int32)), .unset] [(.int (6 : Int32))])) rfl (hb hby d4_15) rfl (by decide) (cap := 6) (by decide) (by decide) (by decide) (by decide)
  obtain ⟨b, g4⟩ : ∃ z, z = h0.size := ⟨_, rfl⟩
  rw [← g4] at A4 st4
  have ge_b : n0 ≤ b := by rw [g4]; exact Z0
  have Sz4 := Nat.le_trans Z0 E4.1
  have sz0_b : h0.size ≤ b := by rw [g4]; exact KP.1
  have KP := KP.ext E4
  have ne_r_b : r ≠ b := Nat.ne_of_lt (Nat.lt_of_lt_of_le V_r.lt (Nat.le_of_eq g4.symm))
  have V_r := V_r.ext E4
  have V_b : Arv Z h4 b k4 .long (6 : Int32) [(.long (0 : Int64)), (.long (0 : Int64)), (.long (0 : Int64)), (.long (0 : Int64)), (.long (0 : Int64)), (.long (0 : Int64))] (.long (0 : Int64)) := (Arv.new A4 (by decide)).pad (pad_rep [] (.long (0 : Int64)) 6)
  have R5 : ∀ t, Steps p.tables e below (T4.setTop (mkF m 23 #[.val (.ref r), .val (.int (6 : Int32)), .val (.ref b)] [(.ref r), (.int (0 : Int32)), (.ref b), (.int (0 : Int32)), (.ref r)])) t → Steps p.tables e below (s₁.setTop (entryFrame m #[(.ref r), (.int (6 : Int32))] 3)) t := by
    intro t k
    refine R3 t ?_
    show Steps p.tables e below (s₁.setTop (mkF m 15 #[.val (.ref r), .val (.int (6 : Int32)), .unset] [(.int (6 : Int32))])) _
    refine st4 _ ?_
    show Steps p.tables e below (T4.setTop (mkF m 17 #[.val (.ref r), .val (.int (6 : Int32)), .unset] [(.ref b)])) _
    refine XS.astoreN X4.here hx rfl (hb hby d4_17) rfl rfl (l' := #[.val (.ref r), .val (.int (6 : Int32)), .val (.ref b)]) rfl ?_
    show Steps p.tables e below (T4.setTop (mkF m 18 #[.val (.ref r), .val (.int (6 : Int32)), .val (.ref b)] [])) _
    refine XS.aloadN X4.here hx rfl (hb hby d4_18) rfl rfl ?_
    show Steps p.tables e below (T4.setTop (mkF m 19 #[.val (.ref r), .val (.int (6 : Int32)), .val (.ref b)] [(.ref r)])) _
    refine XS.iconst X4.here hx rfl (hb hby d4_19) ?_
    show Steps p.tables e below (T4.setTop (mkF m 20 #[.val (.ref r), .val (.int (6 : Int32)), .val (.ref b)] [(.int (0 : Int32)), (.ref r)])) _
    refine XS.aloadN X4.here hx rfl (hb hby d4_20) rfl rfl ?_
    show Steps p.tables e below (T4.setTop (mkF m 21 #[.val (.ref r), .val (.int (6 : Int32)), .val (.ref b)] [(.ref b), (.int (0 : Int32)), (.ref r)])) _
    refine XS.iconst X4.here hx rfl (hb hby d4_21) ?_
    show Steps p.tables e below (T4.setTop (mkF m 22 #[.val (.ref r), .val (.int (6 : Int32)), .val (.ref b)] [(.int (0 : Int32)), (.ref b), (.int (0 : Int32)), (.ref r)])) _
    refine XS.aloadN X4.here hx rfl (hb hby d4_22) rfl rfl ?_
    exact k
  obtain ⟨cl6, Ar6, Aq6, As6, An6, Ah6, Ag6⟩ := id V_r
  have R7 : ∀ t, Steps p.tables e below (T4.setTop (mkF m 25 #[.val (.ref r), .val (.int (6 : Int32)), .val (.ref b)] [(.int (6 : Int32)), (.int (3 : Int32)), (.int (0 : Int32)), (.ref b), (.int (0 : Int32)), (.ref r)])) t → Steps p.tables e below (s₁.setTop (entryFrame m #[(.ref r), (.int (6 : Int32))] 3)) t := by
    intro t k
    refine R5 t ?_
    show Steps p.tables e below (T4.setTop (mkF m 23 #[.val (.ref r), .val (.int (6 : Int32)), .val (.ref b)] [(.ref r), (.int (0 : Int32)), (.ref b), (.int (0 : Int32)), (.ref r)])) _
    refine X4.arraylength hx (by rw [e4]; exact Ar6.1) (State.isArrayOf_alike hZ.alike Ar6.2.1) (g := (mkF m 23 #[.val (.ref r), .val (.int (6 : Int32)), .val (.ref b)] [(.ref r), (.int (0 : Int32)), (.ref b), (.int (0 : Int32)), (.ref r)])) rfl rfl (hb hby d4_23) _ ?_
    rw [len_of As6 An6]
    show Steps p.tables e below (T4.setTop (mkF m 24 #[.val (.ref r), .val (.int (6 : Int32)), .val (.ref b)] [(.int (3 : Int32)), (.int (0 : Int32)), (.ref b), (.int (0 : Int32)), (.ref r)])) _
    refine XS.iloadN X4.here hx rfl (hb hby d4_24) rfl ?_
    exact k
  obtain ⟨_, _, ⟨T8, L8, k8, n8⟩, -, X8, ⟨Lc8, hQ8, l8, y8, z8⟩, st8⟩ := Jvm.LawKit.callS X4 hx (y := (⟨"java/lang/Math", "min", "(II)I"⟩ : MethodName)) hown (mvT hZ (hw _ (List.mem_of_getElem? (i := 23) rfl))) (mvT hZ (hw _ (List.mem_of_getElem? (i := 24) rfl))) (mvT hZ (hw _ (List.mem_of_getElem? (i := 25) rfl))) (mvT hZ (hw _ (List.mem_of_getElem? (i := 26) rfl))) (by decide) (backOf (W := 4) (rm5 l Z a0 hw [] (3 : Int32) (6 : Int32) h4 n0 Sz4 (by decide)) hZ (hw _ (List.mem_of_getElem? (i := 26) rfl)) (hw _ (List.mem_of_getElem? (i := 25) rfl)) (by decide) (by decide)) (g := (mkF m 25 #[.val (.ref r), .val (.int (6 : Int32)), .val (.ref b)] [(.int (6 : Int32)), (.int (3 : Int32)), (.int (0 : Int32)), (.ref b), (.int (0 : Int32)), (.ref r)])) rfl (by rw [hml]; rfl) (argsL := [(.int (3 : Int32)), (.int (6 : Int32))]) (rest := [(.int (0 : Int32)), (.ref b), (.int (0 : Int32)), (.ref r)]) (lenOf pd_0 rfl) rfl (by show 2 * 0 + _ ≤ _; exact Nat.le_of_eq rfl) (hb hby d4_25) (fun _ _ => ⟨rfl, e4, (by decide : 1 + 0 ≤ _), (by decide : 6 + 0 ≤ _)⟩)
  dsimp only [Pt.U, Pt.locs, Pt.cells, Pt.slots] at X8 l8 y8 z8 st8 hQ8
  subst l8 y8 z8
  obtain ⟨rfl, Nq8, eq8⟩ := hQ8
  have N8 := Fr.app N0 Nq8
  have e8 : T8.heap = h4 := eq8
  have R9 : ∀ t, Steps p.tables e below (T8.setTop (mkF m 28 #[.val (.ref r), .val (.int (6 : Int32)), .val (.ref b)] [(.int (3 : Int32)), (.int (0 : Int32)), (.ref b), (.int (0 : Int32)), (.ref r)])) t → Steps p.tables e below (s₁.setTop (entryFrame m #[(.ref r), (.int (6 : Int32))] 3)) t := by
    intro t k
    refine R7 t ?_
    show Steps p.tables e below (T4.setTop (mkF m 25 #[.val (.ref r), .val (.int (6 : Int32)), .val (.ref b)] [(.int (6 : Int32)), (.int (3 : Int32)), (.int (0 : Int32)), (.ref b), (.int (0 : Int32)), (.ref r)])) _
    refine st8 _ ?_
    exact k
  obtain ⟨T10, h10, Lc10, X10, e10, N10, K10, V10, st10⟩ := cpA X8 hx hZ hown (hw _ (List.mem_of_getElem? (i := 27) rfl)) (hw _ (List.mem_of_getElem? (i := 30) rfl)) (hw _ (List.mem_of_getElem? (i := 28) rfl)) (hw _ (List.mem_of_getElem? (i := 29) rfl)) e8 V_r V_b (Or.inl ⟨rfl, rfl⟩) (by decide) (by decide) (by decide) (by decide) (by decide) (us := [(.long u0), (.long u1), (.long u2)]) rfl (by decide) N8 ge_b (g := (mkF m 28 #[.val (.ref r), .val (.int (6 : Int32)), .val (.ref b)] [(.int (3 : Int32)), (.int (0 : Int32)), (.ref b), (.int (0 : Int32)), (.ref r)])) rfl (by rw [hml]; rfl) rfl (hb hby d4_28) (by decide) (W := 0) (by show 2 * 0 + _ ≤ _; exact Nat.le_of_eq rfl) (by decide)
  have Sz10 := Nat.le_trans Sz4 K10.1
  have V_r := V_r.keep K10 (ninS ne_r_b nin0)
  have V_b : Arv Z h10 b k4 .long (6 : Int32) [(.long u0), (.long u1), (.long u2), (.long (0 : Int64)), (.long (0 : Int64)), (.long (0 : Int64))] (.long (0 : Int64)) := V10
  have KP := KP.trans K10 (allS (Or.inr sz0_b) all0)
  have R11 : ∀ t, Steps p.tables e below (T10.setTop (mkF m 32 #[.val (.ref r), .val (.int (6 : Int32)), .val (.ref b)] [(.ref b)])) t → Steps p.tables e below (s₁.setTop (entryFrame m #[(.ref r), (.int (6 : Int32))] 3)) t := by
    intro t k
    refine R9 t ?_
    show Steps p.tables e below (T8.setTop (mkF m 28 #[.val (.ref r), .val (.int (6 : Int32)), .val (.ref b)] [(.int (3 : Int32)), (.int (0 : Int32)), (.ref b), (.int (0 : Int32)), (.ref r)])) _
    refine st10 _ ?_
    show Steps p.tables e below (T10.setTop (mkF m 31 #[.val (.ref r), .val (.int (6 : Int32)), .val (.ref b)] [])) _
    refine XS.aloadN X10.here hx rfl (hb hby d4_31) rfl rfl ?_
    exact k
  have gb : b = h0.size := g4
  obtain ⟨fs, hr, hrun, hended, hW, hsame⟩ := X10.leave (v := some (.ref b)) (fun h => by rw [Bd.returns] at h; cases h)
  refine ⟨_, _, R11 _ ?_, hrun, hended, _, _, rfl, ?_, ⟨_, rfl⟩, hW, hsame.mono (by decide) (by decide)⟩
  · exact retOut X10 hx Bd.returns rfl (Or.inr (Or.inr (Or.inr (Or.inr ⟨rfl, rfl, rfl⟩)))) (hb hby d4_32) hr
  · show Q4n3 Z r (6 : Int32) kc u0 u1 u2 h0 n0 _ T10.heap _
    rw [e10]
    exact ⟨(by rw [gb]), N10, ⟨k4, KP, gb ▸ V_b⟩⟩
theorem ef1n1 (m : MethodId) (x0 : Addr) (x1 : Int32) : entryFrame m #[(.ref x0), (.int x1)] 2 = mkF m 0 #[.val (.ref x0), .val (.int x1)] [] := by first | (simp [entryFrame, mkF, argsToLocals, Value.category]; done) | rfl
theorem pn_1 : plainName "com/example/accesstrail/accesstrail/store/AppendOnlyLongs" = true := by first | (simp [plainName, overriddenIn]; done) | decide +kernel
theorem d1_0 : decode prog_33_method_1_code 0 = .ok (.aload_n 0, 1) := by decide +kernel
theorem d1_1 : decode prog_33_method_1_code 1 = .ok (.invokespecial 1, 3) := by decide +kernel
theorem d1_4 : decode prog_33_method_1_code 4 = .ok (.aload_n 0, 1) := by decide +kernel
theorem d1_5 : decode prog_33_method_1_code 5 = .ok (.iload_n 1, 1) := by decide +kernel
theorem d1_6 : decode prog_33_method_1_code 6 = .ok (.newarray .long, 2) := by decide +kernel
theorem d1_8 : decode prog_33_method_1_code 8 = .ok (.putfield 7, 3) := by decide +kernel
theorem d1_11 : decode prog_33_method_1_code 11 = .ok (.return_, 1) := by decide +kernel
def Q1n1 (Z : State) (a : Addr) (nn : Int32) (h0 : Heap) (n0 : Nat) (v : Option Value) (h : Heap) (L : List Loc) : Prop := v = none ∧ Fr n0 L ∧ ∃ kc : ClassId, Keep h0 h [a] ∧ Fld Z h a "com/example/accesstrail/accesstrail/store/AppendOnlyLongs" "elements" "[J" (.ref h0.size) ∧ Fld Z h a "com/example/accesstrail/accesstrail/store/AppendOnlyLongs" "size" "I" (.int (0 : Int32)) ∧ Arv Z h h0.size kc .long (1 : Int32) [(.long (0 : Int64))] (.long (0 : Int64))
set_option maxRecDepth 65536 in
set_option maxHeartbeats 40000000 in
theorem rm1n1 (l : Launch) (Z : State) (a0 : Array Value) (hw : ∀ d ∈ tables_1, d.before a0 Z = true) (ws : List Jvm.Cond) (a : Addr) (nn : Int32) (h0 : Heap) (n0 : Nat) (Z0 : n0 ≤ h0.size) (E_a : Exa Z h0 a "com/example/accesstrail/accesstrail/store/AppendOnlyLongs") (F_elements_a : Fld Z h0 a "com/example/accesstrail/accesstrail/store/AppendOnlyLongs" "elements" "[J" .null) (F_size_a : Fld Z h0 a "com/example/accesstrail/accesstrail/store/AppendOnlyLongs" "size" "I" (.int (0 : Int32))) (ge_a : n0 ≤ a) (hnn : nn = (1 : Int32)) :
    MetFree l (⟨"com/example/accesstrail/accesstrail/store/AppendOnlyLongs", "<init>", "(I)V"⟩ : MethodName) (head1 (Jvm.Cond.code (⟨"com/example/accesstrail/accesstrail/store/AppendOnlyLongs", "<init>", "(I)V"⟩ : MethodName) prog_33_method_1_code 2 none :: ws) ({ frames := 1, cells := 1, slots := 1, locals := 12 } : Room)) (fun zza zzU => zza = #[(.ref a), (.int nn)] ∧ Z.Warmed39 zzU.vm ∧ zzU.heap = h0) (fun _ _ _ _ _ => True) (fun _ zzU zzo zzV => ∃ zzv zzL, zzo = .returned zzv ∧ Q1n1 Z a nn h0 n0 zzv zzV.heap zzL ∧ FrameEnd zzU zzo zzV zzL ({ frames := 1, cells := 1, slots := 1, locals := 12 } : Room).cells ({ frames := 1, cells := 1, slots := 1, locals := 12 } : Room).slots) := by
  refine MetFree.of_bodySF (plainFor_of_name pn_1) hisR ?_
  intro p e s m args below meth c s₁ Bd hml0 hP hK
  obtain ⟨rfl, hZ, hh⟩ := hP
  have hx := Bd.exec
  have hby := Bd.bytes
  have hml : c.maxLocals = 2 := hml0
  have hown : s.vm.findClass "com/example/accesstrail/accesstrail/store/AppendOnlyLongs" = some m.cls := findClass_of_methodNamed Bd.named
  have hnm := (name_of_methodNamed Bd.named Bd.method).1
  have X0 : Stand p l e ({ frames := 1, cells := 1, slots := 1, locals := 12 } : Room) s m #[(.ref a), (.int nn)] below meth c s₁ [] 0 0 := Stand.of_body Bd
  have e0 : s₁.heap = h0 := by rw [← hh, Bd.state]; rfl
  have N0 := Fr.nil n0
  have R0 : ∀ t, Steps p.tables e below (s₁.setTop (mkF m 0 #[.val (.ref a), .val (.int nn)] [])) t → Steps p.tables e below (s₁.setTop (entryFrame m #[(.ref a), (.int nn)] 2)) t := fun t k => castTop (ef1n1 m a nn) k
  subst hnn
  have KP := Keep.refl h0 [a]
  have R1 : ∀ t, Steps p.tables e below (s₁.setTop (mkF m 1 #[.val (.ref a), .val (.int (1 : Int32))] [(.ref a)])) t → Steps p.tables e below (s₁.setTop (entryFrame m #[(.ref a), (.int (1 : Int32))] 2)) t := by
    intro t k
    refine R0 t ?_
    show Steps p.tables e below (s₁.setTop (mkF m 0 #[.val (.ref a), .val (.int (1 : Int32))] [])) _
    refine XS.aloadN X0.here hx rfl (hb hby d1_0) rfl rfl ?_
    exact k
  obtain ⟨T2, X2, e2, st2⟩ := initO X0 hx hZ hown (hw _ (List.mem_of_getElem? (i := 6) rfl)) (hw _ (List.mem_of_getElem? (i := 7) rfl)) (hw _ (List.mem_of_getElem? (i := 8) rfl)) e0 (g := (mkF m 1 #[.val (.ref a), .val (.int (1 : Int32))] [(.ref a)])) rfl (by rw [hml]; rfl) rfl (hb hby d1_1) (by decide) (W := 0) (by show 2 * 0 + _ ≤ _; exact Nat.le_of_eq rfl) (by decide)
  have R3 : ∀ t, Steps p.tables e below (T2.setTop (mkF m 6 #[.val (.ref a), .val (.int (1 : Int32))] [(.int (1 : Int32)), (.ref a)])) t → Steps p.tables e below (s₁.setTop (entryFrame m #[(.ref a), (.int (1 : Int32))] 2)) t := by
    intro t k
    refine R1 t ?_
    show Steps p.tables e below (s₁.setTop (mkF m 1 #[.val (.ref a), .val (.int (1 : Int32))] [(.ref a)])) _
    refine st2 _ ?_
    show Steps p.tables e below (T2.setTop (mkF m 4 #[.val (.ref a), .val (.int (1 : Int32))] [])) _
    refine XS.aloadN X2.here hx rfl (hb hby d1_4) rfl rfl ?_
    show Steps p.tables e below (T2.setTop (mkF m 5 #[.val (.ref a), .val (.int (1 : Int32))] [(.ref a)])) _
    refine XS.iloadN X2.here hx rfl (hb hby d1_5) rfl ?_
    exact k
  obtain ⟨T4, h4, k4, X4, e4, E4, A4, st4⟩ := newP X2 hx hZ (hw _ (List.mem_of_getElem? (i := 9) rfl)) e2 (g := (mkF m 6 #[.val (.ref a), .val (.int (1 : Int32))] [(.int (1 : Int32)), (.ref a)])) rfl (hb hby d1_6) rfl (by decide) (cap := 1) (by decide) (by decide) (by decide) (by decide)
  obtain ⟨b, g4⟩ : ∃ z, z = h0.size := ⟨_, rfl⟩
  rw [← g4] at A4 st4
  have ge_b : n0 ≤ b := by rw [g4]; exact Z0
  have Sz4 := Nat.le_trans Z0 E4.1
  have sz0_b : h0.size ≤ b := by rw [g4]; exact KP.1
  have KP := KP.ext E4
  have ne_a_b : a ≠ b := Nat.ne_of_lt (Nat.lt_of_lt_of_le E_a.lt (Nat.le_of_eq g4.symm))
  have E_a := E_a.ext E4
  have F_elements_a := F_elements_a.ext E4
  have F_size_a := F_size_a.ext E4
  have V_b : Arv Z h4 b k4 .long (1 : Int32) [(.long (0 : Int64))] (.long (0 : Int64)) := (Arv.new A4 (by decide)).pad (pad_rep [] (.long (0 : Int64)) 1)
  have R5 : ∀ t, Steps p.tables e below (T4.setTop (mkF m 8 #[.val (.ref a), .val (.int (1 : Int32))] [(.ref b), (.ref a)])) t → Steps p.tables e below (s₁.setTop (entryFrame m #[(.ref a), (.int (1 : Int32))] 2)) t := by
    intro t k
    refine R3 t ?_
    show Steps p.tables e below (T2.setTop (mkF m 6 #[.val (.ref a), .val (.int (1 : Int32))] [(.int (1 : Int32)), (.ref a)])) _
    refine st4 _ ?_
    exact k
  obtain ⟨T6, h6, X6, e6, W6, st6⟩ := putF X4 hx hZ hown (host := "") (Or.inl (hw _ (List.mem_of_getElem? (i := 10) rfl))) Via.refl e4 F_elements_a E_a (Or.inl (hw _ (List.mem_of_getElem? (i := 11) rfl))) (hw _ (List.mem_of_getElem? (i := 1) rfl)) (ty := (.array .long)) (by decide) rfl rfl (g := (mkF m 8 #[.val (.ref a), .val (.int (1 : Int32))] [(.ref b), (.ref a)])) rfl rfl (hb hby d1_8)
  have N6 := Fr.snoc X6 N0 ge_a
  have Sz6 := Nat.le_trans Sz4 (Keep.of_wr W6).1
  have E_a := E_a.wr W6
  have F_size_a := F_size_a.other W6 (Or.inr (slot_ne (Or.inl (hw _ (List.mem_of_getElem? (i := 18) rfl))) (Or.inl (hw _ (List.mem_of_getElem? (i := 11) rfl))) (by decide) (t := .int) (t' := (.array .long)) (by decide) (by decide)))
  have V_b := V_b.other W6 ne_a_b.symm
  have F_elements_a := F_elements_a.same W6
  have KP := KP.wr W6 (Or.inl (List.mem_of_getElem? (i := 0) rfl))
  have R7 : ∀ t, Steps p.tables e below (T6.setTop (mkF m 11 #[.val (.ref a), .val (.int (1 : Int32))] [])) t → Steps p.tables e below (s₁.setTop (entryFrame m #[(.ref a), (.int (1 : Int32))] 2)) t := by
    intro t k
    refine R5 t ?_
    show Steps p.tables e below (T4.setTop (mkF m 8 #[.val (.ref a), .val (.int (1 : Int32))] [(.ref b), (.ref a)])) _
    refine st6 _ ?_
    exact k
  have gb : b = h0.size := g4
  obtain ⟨fs, hr, hrun, hended, hW, hsame⟩ := X6.leave (v := none) (fun _ => rfl)
  refine ⟨_, _, R7 _ ?_, hrun, hended, _, _, rfl, ?_, ⟨_, rfl⟩, hW, hsame.mono (by decide) (by decide)⟩
  · exact X6.returnOut hx Bd.returns (hb hby d1_11) hr
  · show Q1n1 Z a (1 : Int32) h0 n0 _ T6.heap _
    rw [e6]
    exact ⟨rfl, N6, ⟨k4, KP, gb ▸ F_elements_a, F_size_a, gb ▸ V_b⟩⟩
theorem ef1n2 (m : MethodId) (x0 : Addr) (x1 : Int32) : entryFrame m #[(.ref x0), (.int x1)] 2 = mkF m 0 #[.val (.ref x0), .val (.int x1)] [] := by first | (simp [entryFrame, mkF, argsToLocals, Value.category]; done) | rfl
def Q1n2 (Z : State) (a : Addr) (nn : Int32) (h0 : Heap) (n0 : Nat) (v : Option Value) (h : Heap) (L : List Loc) : Prop := v = none ∧ Fr n0 L ∧ ∃ kc : ClassId, Keep h0 h [a] ∧ Fld Z h a "com/example/accesstrail/accesstrail/store/AppendOnlyLongs" "elements" "[J" (.ref h0.size) ∧ Fld Z h a "com/example/accesstrail/accesstrail/store/AppendOnlyLongs" "size" "I" (.int (0 : Int32)) ∧ Arv Z h h0.size kc .long (2 : Int32) [(.long (0 : Int64)), (.long (0 : Int64))] (.long (0 : Int64))
set_option maxRecDepth 65536 in
set_option maxHeartbeats 40000000 in
theorem rm1n2 (l : Launch) (Z : State) (a0 : Array Value) (hw : ∀ d ∈ tables_1, d.before a0 Z = true) (ws : List Jvm.Cond) (a : Addr) (nn : Int32) (h0 : Heap) (n0 : Nat) (Z0 : n0 ≤ h0.size) (E_a : Exa Z h0 a "com/example/accesstrail/accesstrail/store/AppendOnlyLongs") (F_elements_a : Fld Z h0 a "com/example/accesstrail/accesstrail/store/AppendOnlyLongs" "elements" "[J" .null) (F_size_a : Fld Z h0 a "com/example/accesstrail/accesstrail/store/AppendOnlyLongs" "size" "I" (.int (0 : Int32))) (ge_a : n0 ≤ a) (hnn : nn = (2 : Int32)) :
    MetFree l (⟨"com/example/accesstrail/accesstrail/store/AppendOnlyLongs", "<init>", "(I)V"⟩ : MethodName) (head1 (Jvm.Cond.code (⟨"com/example/accesstrail/accesstrail/store/AppendOnlyLongs", "<init>", "(I)V"⟩ : MethodName) prog_33_method_1_code 2 none :: ws) ({ frames := 1, cells := 1, slots := 2, locals := 12 } : Room)) (fun zza zzU => zza = #[(.ref a), (.int nn)] ∧ Z.Warmed39 zzU.vm ∧ zzU.heap = h0) (fun _ _ _ _ _ => True) (fun _ zzU zzo zzV => ∃ zzv zzL, zzo = .returned zzv ∧ Q1n2 Z a nn h0 n0 zzv zzV.heap zzL ∧ FrameEnd zzU zzo zzV zzL ({ frames := 1, cells := 1, slots := 2, locals := 12 } : Room).cells ({ frames := 1, cells := 1, slots := 2, locals := 12 } : Room).slots) := by
  refine MetFree.of_bodySF (plainFor_of_name pn_1) hisR ?_
  intro p e s m args below meth c s₁ Bd hml0 hP hK
  obtain ⟨rfl, hZ, hh⟩ := hP
  have hx := Bd.exec
  have hby := Bd.bytes
  have hml : c.maxLocals = 2 := hml0
  have hown : s.vm.findClass "com/example/accesstrail/accesstrail/store/AppendOnlyLongs" = some m.cls := findClass_of_methodNamed Bd.named
  have hnm := (name_of_methodNamed Bd.named Bd.method).1
  have X0 : Stand p l e ({ frames := 1, cells := 1, slots := 2, locals := 12 } : Room) s m #[(.ref a), (.int nn)] below meth c s₁ [] 0 0 := Stand.of_body Bd
  have e0 : s₁.heap = h0 := by rw [← hh, Bd.state]; rfl
  have N0 := Fr.nil n0
  have R0 : ∀ t, Steps p.tables e below (s₁.setTop (mkF m 0 #[.val (.ref a), .val (.int nn)] [])) t → Steps p.tables e below (s₁.setTop (entryFrame m #[(.ref a), (.int nn)] 2)) t := fun t k => castTop (ef1n2 m a nn) k
  subst hnn
  have KP := Keep.refl h0 [a]
  have R1 : ∀ t, Steps p.tables e below (s₁.setTop (mkF m 1 #[.val (.ref a), .val (.int (2 : Int32))] [(.ref a)])) t → Steps p.tables e below (s₁.setTop (entryFrame m #[(.ref a), (.int (2 : Int32))] 2)) t := by
    intro t k
    refine R0 t ?_
    show Steps p.tables e below (s₁.setTop (mkF m 0 #[.val (.ref a), .val (.int (2 : Int32))] [])) _
    refine XS.aloadN X0.here hx rfl (hb hby d1_0) rfl rfl ?_
    exact k
  obtain ⟨T2, X2, e2, st2⟩ := initO X0 hx hZ hown (hw _ (List.mem_of_getElem? (i := 6) rfl)) (hw _ (List.mem_of_getElem? (i := 7) rfl)) (hw _ (List.mem_of_getElem? (i := 8) rfl)) e0 (g := (mkF m 1 #[.val (.ref a), .val (.int (2 : Int32))] [(.ref a)])) rfl (by rw [hml]; rfl) rfl (hb hby d1_1) (by decide) (W := 0) (by show 2 * 0 + _ ≤ _; exact Nat.le_of_eq rfl) (by decide)
  have R3 : ∀ t, Steps p.tables e below (T2.setTop (mkF m 6 #[.val (.ref a), .val (.int (2 : Int32))] [(.int (2 : Int32)), (.ref a)])) t → Steps p.tables e below (s₁.setTop (entryFrame m #[(.ref a), (.int (2 : Int32))] 2)) t := by
    intro t k
    refine R1 t ?_
    show Steps p.tables e below (s₁.setTop (mkF m 1 #[.val (.ref a), .val (.int (2 : Int32))] [(.ref a)])) _
    refine st2 _ ?_
    show Steps p.tables e below (T2.setTop (mkF m 4 #[.val (.ref a), .val (.int (2 : Int32))] [])) _
    refine XS.aloadN X2.here hx rfl (hb hby d1_4) rfl rfl ?_
    show Steps p.tables e below (T2.setTop (mkF m 5 #[.val (.ref a), .val (.int (2 : Int32))] [(.ref a)])) _
    refine XS.iloadN X2.here hx rfl (hb hby d1_5) rfl ?_
    exact k
  obtain ⟨T4, h4, k4, X4, e4, E4, A4, st4⟩ := newP X2 hx hZ (hw _ (List.mem_of_getElem? (i := 9) rfl)) e2 (g := (mkF m 6 #[.val (.ref a), .val (.int (2 : Int32))] [(.int (2 : Int32)), (.ref a)])) rfl (hb hby d1_6) rfl (by decide) (cap := 2) (by decide) (by decide) (by decide) (by decide)
  obtain ⟨b, g4⟩ : ∃ z, z = h0.size := ⟨_, rfl⟩
  rw [← g4] at A4 st4
  have ge_b : n0 ≤ b := by rw [g4]; exact Z0
  have Sz4 := Nat.le_trans Z0 E4.1
  have sz0_b : h0.size ≤ b := by rw [g4]; exact KP.1
  have KP := KP.ext E4
  have ne_a_b : a ≠ b := Nat.ne_of_lt (Nat.lt_of_lt_of_le E_a.lt (Nat.le_of_eq g4.symm))
  have E_a := E_a.ext E4
  have F_elements_a := F_elements_a.ext E4
  have F_size_a := F_size_a.ext E4
  have V_b : Arv Z h4 b k4 .long (2 : Int32) [(.long (0 : Int64)), (.long (0 : Int64))] (.long (0 : Int64)) := (Arv.new A4 (by decide)).pad (pad_rep [] (.long (0 : Int64)) 2)
  have R5 : ∀ t, Steps p.tables e below (T4.setTop (mkF m 8 #[.val (.ref a), .val (.int (2 : Int32))] [(.ref b), (.ref a)])) t → Steps p.tables e below (s₁.setTop (entryFrame m #[(.ref a), (.int (2 : Int32))] 2)) t := by
    intro t k
    refine R3 t ?_
    show Steps p.tables e below (T2.setTop (mkF m 6 #[.val (.ref a), .val (.int (2 : Int32))] [(.int (2 : Int32)), (.ref a)])) _
    refine st4 _ ?_
    exact k
  obtain ⟨T6, h6, X6, e6, W6, st6⟩ := putF X4 hx hZ hown (host := "") (Or.inl (hw _ (List.mem_of_getElem? (i := 10) rfl))) Via.refl e4 F_elements_a E_a (Or.inl (hw _ (List.mem_of_getElem? (i := 11) rfl))) (hw _ (List.mem_of_getElem? (i := 1) rfl)) (ty := (.array .long)) (by decide) rfl rfl (g := (mkF m 8 #[.val (.ref a), .val (.int (2 : Int32))] [(.ref b), (.ref a)])) rfl rfl (hb hby d1_8)
  have N6 := Fr.snoc X6 N0 ge_a
  have Sz6 := Nat.le_trans Sz4 (Keep.of_wr W6).1
  have E_a := E_a.wr W6
  have F_size_a := F_size_a.other W6 (Or.inr (slot_ne (Or.inl (hw _ (List.mem_of_getElem? (i := 18) rfl))) (Or.inl (hw _ (List.mem_of_getElem? (i := 11) rfl))) (by decide) (t := .int) (t' := (.array .long)) (by decide) (by decide)))
  have V_b := V_b.other W6 ne_a_b.symm
  have F_elements_a := F_elements_a.same W6
  have KP := KP.wr W6 (Or.inl (List.mem_of_getElem? (i := 0) rfl))
  have R7 : ∀ t, Steps p.tables e below (T6.setTop (mkF m 11 #[.val (.ref a), .val (.int (2 : Int32))] [])) t → Steps p.tables e below (s₁.setTop (entryFrame m #[(.ref a), (.int (2 : Int32))] 2)) t := by
    intro t k
    refine R5 t ?_
    show Steps p.tables e below (T4.setTop (mkF m 8 #[.val (.ref a), .val (.int (2 : Int32))] [(.ref b), (.ref a)])) _
    refine st6 _ ?_
    exact k
  have gb : b = h0.size := g4
  obtain ⟨fs, hr, hrun, hended, hW, hsame⟩ := X6.leave (v := none) (fun _ => rfl)
  refine ⟨_, _, R7 _ ?_, hrun, hended, _, _, rfl, ?_, ⟨_, rfl⟩, hW, hsame.mono (by decide) (by decide)⟩
  · exact X6.returnOut hx Bd.returns (hb hby d1_11) hr
  · show Q1n2 Z a (2 : Int32) h0 n0 _ T6.heap _
    rw [e6]
    exact ⟨rfl, N6, ⟨k4, KP, gb ▸ F_elements_a, F_size_a, gb ▸ V_b⟩⟩
theorem ef1n3 (m : MethodId) (x0 : Addr) (x1 : Int32) : entryFrame m #[(.ref x0), (.int x1)] 2 = mkF m 0 #[.val (.ref x0), .val (.int x1)] [] := by first | (simp [entryFrame, mkF, argsToLocals, Value.category]; done) | rfl
def Q1n3 (Z : State) (a : Addr) (nn : Int32) (h0 : Heap) (n0 : Nat) (v : Option Value) (h : Heap) (L : List Loc) : Prop := v = none ∧ Fr n0 L ∧ ∃ kc : ClassId, Keep h0 h [a] ∧ Fld Z h a "com/example/accesstrail/accesstrail/store/AppendOnlyLongs" "elements" "[J" (.ref h0.size) ∧ Fld Z h a "com/example/accesstrail/accesstrail/store/AppendOnlyLongs" "size" "I" (.int (0 : Int32)) ∧ Arv Z h h0.size kc .long (3 : Int32) [(.long (0 : Int64)), (.long (0 : Int64)), (.long (0 : Int64))] (.long (0 : Int64))
set_option maxRecDepth 65536 in
set_option maxHeartbeats 40000000 in
theorem rm1n3 (l : Launch) (Z : State) (a0 : Array Value) (hw : ∀ d ∈ tables_1, d.before a0 Z = true) (ws : List Jvm.Cond) (a : Addr) (nn : Int32) (h0 : Heap) (n0 : Nat) (Z0 : n0 ≤ h0.size) (E_a : Exa Z h0 a "com/example/accesstrail/accesstrail/store/AppendOnlyLongs") (F_elements_a : Fld Z h0 a "com/example/accesstrail/accesstrail/store/AppendOnlyLongs" "elements" "[J" .null) (F_size_a : Fld Z h0 a "com/example/accesstrail/accesstrail/store/AppendOnlyLongs" "size" "I" (.int (0 : Int32))) (ge_a : n0 ≤ a) (hnn : nn = (3 : Int32)) :
    MetFree l (⟨"com/example/accesstrail/accesstrail/store/AppendOnlyLongs", "<init>", "(I)V"⟩ : MethodName) (head1 (Jvm.Cond.code (⟨"com/example/accesstrail/accesstrail/store/AppendOnlyLongs", "<init>", "(I)V"⟩ : MethodName) prog_33_method_1_code 2 none :: ws) ({ frames := 1, cells := 1, slots := 3, locals := 12 } : Room)) (fun zza zzU => zza = #[(.ref a), (.int nn)] ∧ Z.Warmed39 zzU.vm ∧ zzU.heap = h0) (fun _ _ _ _ _ => True) (fun _ zzU zzo zzV => ∃ zzv zzL, zzo = .returned zzv ∧ Q1n3 Z a nn h0 n0 zzv zzV.heap zzL ∧ FrameEnd zzU zzo zzV zzL ({ frames := 1, cells := 1, slots := 3, locals := 12 } : Room).cells ({ frames := 1, cells := 1, slots := 3, locals := 12 } : Room).slots) := by
  refine MetFree.of_bodySF (plainFor_of_name pn_1) hisR ?_
  intro p e s m args below meth c s₁ Bd hml0 hP hK
  obtain ⟨rfl, hZ, hh⟩ := hP
  have hx := Bd.exec
  have hby := Bd.bytes
  have hml : c.maxLocals = 2 := hml0
  have hown : s.vm.findClass "com/example/accesstrail/accesstrail/store/AppendOnlyLongs" = some m.cls := findClass_of_methodNamed Bd.named
  have hnm := (name_of_methodNamed Bd.named Bd.method).1
  have X0 : Stand p l e ({ frames := 1, cells := 1, slots := 3, locals := 12 } : Room) s m #[(.ref a), (.int nn)] below meth c s₁ [] 0 0 := Stand.of_body Bd
  have e0 : s₁.heap = h0 := by rw [← hh, Bd.state]; rfl
  have N0 := Fr.nil n0
  have R0 : ∀ t, Steps p.tables e below (s₁.setTop (mkF m 0 #[.val (.ref a), .val (.int nn)] [])) t → Steps p.tables e below (s₁.setTop (entryFrame m #[(.ref a), (.int nn)] 2)) t := fun t k => castTop (ef1n3 m a nn) k
  subst hnn
  have KP := Keep.refl h0 [a]
  have R1 : ∀ t, Steps p.tables e below (s₁.setTop (mkF m 1 #[.val (.ref a), .val (.int (3 : Int32))] [(.ref a)])) t → Steps p.tables e below (s₁.setTop (entryFrame m #[(.ref a), (.int (3 : Int32))] 2)) t := by
    intro t k
    refine R0 t ?_
    show Steps p.tables e below (s₁.setTop (mkF m 0 #[.val (.ref a), .val (.int (3 : Int32))] [])) _
    refine XS.aloadN X0.here hx rfl (hb hby d1_0) rfl rfl ?_
    exact k
  obtain ⟨T2, X2, e2, st2⟩ := initO X0 hx hZ hown (hw _ (List.mem_of_getElem? (i := 6) rfl)) (hw _ (List.mem_of_getElem? (i := 7) rfl)) (hw _ (List.mem_of_getElem? (i := 8) rfl)) e0 (g := (mkF m 1 #[.val (.ref a), .val (.int (3 : Int32))] [(.ref a)])) rfl (by rw [hml]; rfl) rfl (hb hby d1_1) (by decide) (W := 0) (by show 2 * 0 + _ ≤ _; exact Nat.le_of_eq rfl) (by decide)
  have R3 : ∀ t, Steps p.tables e below (T2.setTop (mkF m 6 #[.val (.ref a), .val (.int (3 : Int32))] [(.int (3 : Int32)), (.ref a)])) t → Steps p.tables e below (s₁.setTop (entryFrame m #[(.ref a), (.int (3 : Int32))] 2)) t := by
    intro t k
    refine R1 t ?_
    show Steps p.tables e below (s₁.setTop (mkF m 1 #[.val (.ref a), .val (.int (3 : Int32))] [(.ref a)])) _
    refine st2 _ ?_
    show Steps p.tables e below (T2.setTop (mkF m 4 #[.val (.ref a), .val (.int (3 : Int32))] [])) _
    refine XS.aloadN X2.here hx rfl (hb hby d1_4) rfl rfl ?_
    show Steps p.tables e below (T2.setTop (mkF m 5 #[.val (.ref a), .val (.int (3 : Int32))] [(.ref a)])) _
    refine XS.iloadN X2.here hx rfl (hb hby d1_5) rfl ?_
    exact k
  obtain ⟨T4, h4, k4, X4, e4, E4, A4, st4⟩ := newP X2 hx hZ (hw _ (List.mem_of_getElem? (i := 9) rfl)) e2 (g := (mkF m 6 #[.val (.ref a), .val (.int (3 : Int32))] [(.int (3 : Int32)), (.ref a)])) rfl (hb hby d1_6) rfl (by decide) (cap := 3) (by decide) (by decide) (by decide) (by decide)
  obtain ⟨b, g4⟩ : ∃ z, z = h0.size := ⟨_, rfl⟩
  rw [← g4] at A4 st4
  have ge_b : n0 ≤ b := by rw [g4]; exact Z0
  have Sz4 := Nat.le_trans Z0 E4.1
  have sz0_b : h0.size ≤ b := by rw [g4]; exact KP.1
  have KP := KP.ext E4
  have ne_a_b : a ≠ b := Nat.ne_of_lt (Nat.lt_of_lt_of_le E_a.lt (Nat.le_of_eq g4.symm))
  have E_a := E_a.ext E4
  have F_elements_a := F_elements_a.ext E4
  have F_size_a := F_size_a.ext E4
  have V_b : Arv Z h4 b k4 .long (3 : Int32) [(.long (0 : Int64)), (.long (0 : Int64)), (.long (0 : Int64))] (.long (0 : Int64)) := (Arv.new A4 (by decide)).pad (pad_rep [] (.long (0 : Int64)) 3)
  have R5 : ∀ t, Steps p.tables e below (T4.setTop (mkF m 8 #[.val (.ref a), .val (.int (3 : Int32))] [(.ref b), (.ref a)])) t → Steps p.tables e below (s₁.setTop (entryFrame m #[(.ref a), (.int (3 : Int32))] 2)) t := by
    intro t k
    refine R3 t ?_
    show Steps p.tables e below (T2.setTop (mkF m 6 #[.val (.ref a), .val (.int (3 : Int32))] [(.int (3 : Int32)), (.ref a)])) _
    refine st4 _ ?_
    exact k
  obtain ⟨T6, h6, X6, e6, W6, st6⟩ := putF X4 hx hZ hown (host := "") (Or.inl (hw _ (List.mem_of_getElem? (i := 10) rfl))) Via.refl e4 F_elements_a E_a (Or.inl (hw _ (List.mem_of_getElem? (i := 11) rfl))) (hw _ (List.mem_of_getElem? (i := 1) rfl)) (ty := (.array .long)) (by decide) rfl rfl (g := (mkF m 8 #[.val (.ref a), .val (.int (3 : Int32))] [(.ref b), (.ref a)])) rfl rfl (hb hby d1_8)
  have N6 := Fr.snoc X6 N0 ge_a
  have Sz6 := Nat.le_trans Sz4 (Keep.of_wr W6).1
  have E_a := E_a.wr W6
  have F_size_a := F_size_a.other W6 (Or.inr (slot_ne (Or.inl (hw _ (List.mem_of_getElem? (i := 18) rfl))) (Or.inl (hw _ (List.mem_of_getElem? (i := 11) rfl))) (by decide) (t := .int) (t' := (.array .long)) (by decide) (by decide)))
  have V_b := V_b.other W6 ne_a_b.symm
  have F_elements_a := F_elements_a.same W6
  have KP := KP.wr W6 (Or.inl (List.mem_of_getElem? (i := 0) rfl))
  have R7 : ∀ t, Steps p.tables e below (T6.setTop (mkF m 11 #[.val (.ref a), .val (.int (3 : Int32))] [])) t → Steps p.tables e below (s₁.setTop (entryFrame m #[(.ref a), (.int (3 : Int32))] 2)) t := by
    intro t k
    refine R5 t ?_
    show Steps p.tables e below (T4.setTop (mkF m 8 #[.val (.ref a), .val (.int (3 : Int32))] [(.ref b), (.ref a)])) _
    refine st6 _ ?_
    exact k
  have gb : b = h0.size := g4
  obtain ⟨fs, hr, hrun, hended, hW, hsame⟩ := X6.leave (v := none) (fun _ => rfl)
  refine ⟨_, _, R7 _ ?_, hrun, hended, _, _, rfl, ?_, ⟨_, rfl⟩, hW, hsame.mono (by decide) (by decide)⟩
  · exact X6.returnOut hx Bd.returns (hb hby d1_11) hr
  · show Q1n3 Z a (3 : Int32) h0 n0 _ T6.heap _
    rw [e6]
    exact ⟨rfl, N6, ⟨k4, KP, gb ▸ F_elements_a, F_size_a, gb ▸ V_b⟩⟩
theorem ef1n4 (m : MethodId) (x0 : Addr) (x1 : Int32) : entryFrame m #[(.ref x0), (.int x1)] 2 = mkF m 0 #[.val (.ref x0), .val (.int x1)] [] := by first | (simp [entryFrame, mkF, argsToLocals, Value.category]; done) | rfl
def Q1n4 (Z : State) (a : Addr) (nn : Int32) (h0 : Heap) (n0 : Nat) (v : Option Value) (h : Heap) (L : List Loc) : Prop := v = none ∧ Fr n0 L ∧ ∃ kc : ClassId, Keep h0 h [a] ∧ Fld Z h a "com/example/accesstrail/accesstrail/store/AppendOnlyLongs" "elements" "[J" (.ref h0.size) ∧ Fld Z h a "com/example/accesstrail/accesstrail/store/AppendOnlyLongs" "size" "I" (.int (0 : Int32)) ∧ Arv Z h h0.size kc .long (4 : Int32) [(.long (0 : Int64)), (.long (0 : Int64)), (.long (0 : Int64)), (.long (0 : Int64))] (.long (0 : Int64))
set_option maxRecDepth 65536 in
set_option maxHeartbeats 40000000 in
theorem rm1n4 (l : Launch) (Z : State) (a0 : Array Value) (hw : ∀ d ∈ tables_1, d.before a0 Z = true) (ws : List Jvm.Cond) (a : Addr) (nn : Int32) (h0 : Heap) (n0 : Nat) (Z0 : n0 ≤ h0.size) (E_a : Exa Z h0 a "com/example/accesstrail/accesstrail/store/AppendOnlyLongs") (F_elements_a : Fld Z h0 a "com/example/accesstrail/accesstrail/store/AppendOnlyLongs" "elements" "[J" .null) (F_size_a : Fld Z h0 a "com/example/accesstrail/accesstrail/store/AppendOnlyLongs" "size" "I" (.int (0 : Int32))) (ge_a : n0 ≤ a) (hnn : nn = (4 : Int32)) :
    MetFree l (⟨"com/example/accesstrail/accesstrail/store/AppendOnlyLongs", "<init>", "(I)V"⟩ : MethodName) (head1 (Jvm.Cond.code (⟨"com/example/accesstrail/accesstrail/store/AppendOnlyLongs", "<init>", "(I)V"⟩ : MethodName) prog_33_method_1_code 2 none :: ws) ({ frames := 1, cells := 1, slots := 4, locals := 12 } : Room)) (fun zza zzU => zza = #[(.ref a), (.int nn)] ∧ Z.Warmed39 zzU.vm ∧ zzU.heap = h0) (fun _ _ _ _ _ => True) (fun _ zzU zzo zzV => ∃ zzv zzL, zzo = .returned zzv ∧ Q1n4 Z a nn h0 n0 zzv zzV.heap zzL ∧ FrameEnd zzU zzo zzV zzL ({ frames := 1, cells := 1, slots := 4, locals := 12 } : Room).cells ({ frames := 1, cells := 1, slots := 4, locals := 12 } : Room).slots) := by
  refine MetFree.of_bodySF (plainFor_of_name pn_1) hisR ?_
  intro p e s m args below meth c s₁ Bd hml0 hP hK
  obtain ⟨rfl, hZ, hh⟩ := hP
  have hx := Bd.exec
  have hby := Bd.bytes
  have hml : c.maxLocals = 2 := hml0
  have hown : s.vm.findClass "com/example/accesstrail/accesstrail/store/AppendOnlyLongs" = some m.cls := findClass_of_methodNamed Bd.named
  have hnm := (name_of_methodNamed Bd.named Bd.method).1
  have X0 : Stand p l e ({ frames := 1, cells := 1, slots := 4, locals := 12 } : Room) s m #[(.ref a), (.int nn)] below meth c s₁ [] 0 0 := Stand.of_body Bd
  have e0 : s₁.heap = h0 := by rw [← hh, Bd.state]; rfl
  have N0 := Fr.nil n0
  have R0 : ∀ t, Steps p.tables e below (s₁.setTop (mkF m 0 #[.val (.ref a), .val (.int nn)] [])) t → Steps p.tables e below (s₁.setTop (entryFrame m #[(.ref a), (.int nn)] 2)) t := fun t k => castTop (ef1n4 m a nn) k
  subst hnn
  have KP := Keep.refl h0 [a]
  have R1 : ∀ t, Steps p.tables e below (s₁.setTop (mkF m 1 #[.val (.ref a), .val (.int (4 : Int32))] [(.ref a)])) t → Steps p.tables e below (s₁.setTop (entryFrame m #[(.ref a), (.int (4 : Int32))] 2)) t := by
    intro t k
    refine R0 t ?_
    show Steps p.tables e below (s₁.setTop (mkF m 0 #[.val (.ref a), .val (.int (4 : Int32))] [])) _
    refine XS.aloadN X0.here hx rfl (hb hby d1_0) rfl rfl ?_
    exact k
  obtain ⟨T2, X2, e2, st2⟩ := initO X0 hx hZ hown (hw _ (List.mem_of_getElem? (i := 6) rfl)) (hw _ (List.mem_of_getElem? (i := 7) rfl)) (hw _ (List.mem_of_getElem? (i := 8) rfl)) e0 (g := (mkF m 1 #[.val (.ref a), .val (.int (4 : Int32))] [(.ref a)])) rfl (by rw [hml]; rfl) rfl (hb hby d1_1) (by decide) (W := 0) (by show 2 * 0 + _ ≤ _; exact Nat.le_of_eq rfl) (by decide)
  have R3 : ∀ t, Steps p.tables e below (T2.setTop (mkF m 6 #[.val (.ref a), .val (.int (4 : Int32))] [(.int (4 : Int32)), (.ref a)])) t → Steps p.tables e below (s₁.setTop (entryFrame m #[(.ref a), (.int (4 : Int32))] 2)) t := by
    intro t k
    refine R1 t ?_
    show Steps p.tables e below (s₁.setTop (mkF m 1 #[.val (.ref a), .val (.int (4 : Int32))] [(.ref a)])) _
    refine st2 _ ?_
    show Steps p.tables e below (T2.setTop (mkF m 4 #[.val (.ref a), .val (.int (4 : Int32))] [])) _
    refine XS.aloadN X2.here hx rfl (hb hby d1_4) rfl rfl ?_
    show Steps p.tables e below (T2.setTop (mkF m 5 #[.val (.ref a), .val (.int (4 : Int32))] [(.ref a)])) _
    refine XS.iloadN X2.here hx rfl (hb hby d1_5) rfl ?_
    exact k
  obtain ⟨T4, h4, k4, X4, e4, E4, A4, st4⟩ := newP X2 hx hZ (hw _ (List.mem_of_getElem? (i := 9) rfl)) e2 (g := (mkF m 6 #[.val (.ref a), .val (.int (4 : Int32))] [(.int (4 : Int32)), (.ref a)])) rfl (hb hby d1_6) rfl (by decide) (cap := 4) (by decide) (by decide) (by decide) (by decide)
  obtain ⟨b, g4⟩ : ∃ z, z = h0.size := ⟨_, rfl⟩
  rw [← g4] at A4 st4
  have ge_b : n0 ≤ b := by rw [g4]; exact Z0
  have Sz4 := Nat.le_trans Z0 E4.1
  have sz0_b : h0.size ≤ b := by rw [g4]; exact KP.1
  have KP := KP.ext E4
  have ne_a_b : a ≠ b := Nat.ne_of_lt (Nat.lt_of_lt_of_le E_a.lt (Nat.le_of_eq g4.symm))
  have E_a := E_a.ext E4
  have F_elements_a := F_elements_a.ext E4
  have F_size_a := F_size_a.ext E4
  have V_b : Arv Z h4 b k4 .long (4 : Int32) [(.long (0 : Int64)), (.long (0 : Int64)), (.long (0 : Int64)), (.long (0 : Int64))] (.long (0 : Int64)) := (Arv.new A4 (by decide)).pad (pad_rep [] (.long (0 : Int64)) 4)
  have R5 : ∀ t, Steps p.tables e below (T4.setTop (mkF m 8 #[.val (.ref a), .val (.int (4 : Int32))] [(.ref b), (.ref a)])) t → Steps p.tables e below (s₁.setTop (entryFrame m #[(.ref a), (.int (4 : Int32))] 2)) t := by
    intro t k
    refine R3 t ?_
    show Steps p.tables e below (T2.setTop (mkF m 6 #[.val (.ref a), .val (.int (4 : Int32))] [(.int (4 : Int32)), (.ref a)])) _
    refine st4 _ ?_
    exact k
  obtain ⟨T6, h6, X6, e6, W6, st6⟩ := putF X4 hx hZ hown (host := "") (Or.inl (hw _ (List.mem_of_getElem? (i := 10) rfl))) Via.refl e4 F_elements_a E_a (Or.inl (hw _ (List.mem_of_getElem? (i := 11) rfl))) (hw _ (List.mem_of_getElem? (i := 1) rfl)) (ty := (.array .long)) (by decide) rfl rfl (g := (mkF m 8 #[.val (.ref a), .val (.int (4 : Int32))] [(.ref b), (.ref a)])) rfl rfl (hb hby d1_8)
  have N6 := Fr.snoc X6 N0 ge_a
  have Sz6 := Nat.le_trans Sz4 (Keep.of_wr W6).1
  have E_a := E_a.wr W6
  have F_size_a := F_size_a.other W6 (Or.inr (slot_ne (Or.inl (hw _ (List.mem_of_getElem? (i := 18) rfl))) (Or.inl (hw _ (List.mem_of_getElem? (i := 11) rfl))) (by decide) (t := .int) (t' := (.array .long)) (by decide) (by decide)))
  have V_b := V_b.other W6 ne_a_b.symm
  have F_elements_a := F_elements_a.same W6
  have KP := KP.wr W6 (Or.inl (List.mem_of_getElem? (i := 0) rfl))
  have R7 : ∀ t, Steps p.tables e below (T6.setTop (mkF m 11 #[.val (.ref a), .val (.int (4 : Int32))] [])) t → Steps p.tables e below (s₁.setTop (entryFrame m #[(.ref a), (.int (4 : Int32))] 2)) t := by
    intro t k
    refine R5 t ?_
    show Steps p.tables e below (T4.setTop (mkF m 8 #[.val (.ref a), .val (.int (4 : Int32))] [(.ref b), (.ref a)])) _
    refine st6 _ ?_
    exact k
  have gb : b = h0.size := g4
  obtain ⟨fs, hr, hrun, hended, hW, hsame⟩ := X6.leave (v := none) (fun _ => rfl)
  refine ⟨_, _, R7 _ ?_, hrun, hended, _, _, rfl, ?_, ⟨_, rfl⟩, hW, hsame.mono (by decide) (by decide)⟩
  · exact X6.returnOut hx Bd.returns (hb hby d1_11) hr
  · show Q1n4 Z a (4 : Int32) h0 n0 _ T6.heap _
    rw [e6]
    exact ⟨rfl, N6, ⟨k4, KP, gb ▸ F_elements_a, F_size_a, gb ▸ V_b⟩⟩
theorem ef3n1_0 (m : MethodId) (x0 : Addr) (x1 : Int64) : entryFrame m #[(.ref x0), (.long x1)] 5 = mkF m 0 #[.val (.ref x0), .val (.long x1), .second, .unset, .unset] [] := by first | (simp [entryFrame, mkF, argsToLocals, Value.category]; done) | rfl
theorem d3_0 : decode prog_33_method_2_code 0 = .ok (.aload_n 0, 1) := by decide +kernel
theorem d3_1 : decode prog_33_method_2_code 1 = .ok (.getfield 7, 3) := by decide +kernel
theorem d3_4 : decode prog_33_method_2_code 4 = .ok (.astore_n 3, 1) := by decide +kernel
theorem d3_5 : decode prog_33_method_2_code 5 = .ok (.aload_n 0, 1) := by decide +kernel
theorem d3_6 : decode prog_33_method_2_code 6 = .ok (.getfield 13, 3) := by decide +kernel
theorem d3_9 : decode prog_33_method_2_code 9 = .ok (.istore 4, 2) := by decide +kernel
theorem d3_11 : decode prog_33_method_2_code 11 = .ok (.iload 4, 2) := by decide +kernel
theorem d3_13 : decode prog_33_method_2_code 13 = .ok (.aload_n 3, 1) := by decide +kernel
theorem d3_14 : decode prog_33_method_2_code 14 = .ok (.arraylength, 1) := by decide +kernel
theorem d3_15 : decode prog_33_method_2_code 15 = .ok (.if_icmp .ne 12, 3) := by decide +kernel
theorem d3_27 : decode prog_33_method_2_code 27 = .ok (.aload_n 3, 1) := by decide +kernel
theorem d3_28 : decode prog_33_method_2_code 28 = .ok (.iload 4, 2) := by decide +kernel
theorem d3_30 : decode prog_33_method_2_code 30 = .ok (.lload_n 1, 1) := by decide +kernel
theorem d3_31 : decode prog_33_method_2_code 31 = .ok (.lastore, 1) := by decide +kernel
theorem d3_32 : decode prog_33_method_2_code 32 = .ok (.aload_n 0, 1) := by decide +kernel
theorem d3_33 : decode prog_33_method_2_code 33 = .ok (.aload_n 3, 1) := by decide +kernel
theorem d3_34 : decode prog_33_method_2_code 34 = .ok (.putfield 7, 3) := by decide +kernel
theorem d3_37 : decode prog_33_method_2_code 37 = .ok (.aload_n 0, 1) := by decide +kernel
theorem d3_38 : decode prog_33_method_2_code 38 = .ok (.iload 4, 2) := by decide +kernel
theorem d3_40 : decode prog_33_method_2_code 40 = .ok (.iconst 1, 1) := by decide +kernel
theorem d3_41 : decode prog_33_method_2_code 41 = .ok (.iadd, 1) := by decide +kernel
theorem d3_42 : decode prog_33_method_2_code 42 = .ok (.putfield 13, 3) := by decide +kernel
theorem d3_45 : decode prog_33_method_2_code 45 = .ok (.return_, 1) := by decide +kernel
def Q3n1_0 (Z : State) (a : Addr) (q : Int64) (r : Addr) (kc : ClassId) (u0 : Int64) (h0 : Heap) (n0 : Nat) (v : Option Value) (h : Heap) (L : List Loc) : Prop := v = none ∧ Fr n0 L ∧ Keep h0 h [a, r] ∧ Fld Z h a "com/example/accesstrail/accesstrail/store/AppendOnlyLongs" "elements" "[J" (.ref r) ∧ Fld Z h a "com/example/accesstrail/accesstrail/store/AppendOnlyLongs" "size" "I" (.int (1 : Int32)) ∧ Arv Z h r kc .long (1 : Int32) [(.long q)] (.long (0 : Int64))
set_option maxRecDepth 65536 in
set_option maxHeartbeats 40000000 in
theorem rm3n1_0 (l : Launch) (Z : State) (a0 : Array Value) (hw : ∀ d ∈ tables_1, d.before a0 Z = true) (ws : List Jvm.Cond) (a : Addr) (q : Int64) (r : Addr) (kc : ClassId) (u0 : Int64) (h0 : Heap) (n0 : Nat) (Z0 : n0 ≤ h0.size) (E_a : Exa Z h0 a "com/example/accesstrail/accesstrail/store/AppendOnlyLongs") (F_elements_a : Fld Z h0 a "com/example/accesstrail/accesstrail/store/AppendOnlyLongs" "elements" "[J" (.ref r)) (F_size_a : Fld Z h0 a "com/example/accesstrail/accesstrail/store/AppendOnlyLongs" "size" "I" (.int (0 : Int32))) (V_r : Arv Z h0 r kc .long (1 : Int32) [(.long u0)] (.long (0 : Int64))) (ge_a : n0 ≤ a) (ge_r : n0 ≤ r) (nra : r ≠ a) :
    MetFree l (⟨"com/example/accesstrail/accesstrail/store/AppendOnlyLongs", "add", "(J)V"⟩ : MethodName) (head1 (Jvm.Cond.code (⟨"com/example/accesstrail/accesstrail/store/AppendOnlyLongs", "add", "(J)V"⟩ : MethodName) prog_33_method_2_code 5 none :: ws) ({ frames := 0, cells := 0, slots := 0, locals := 0 } : Room)) (fun zza zzU => zza = #[(.ref a), (.long q)] ∧ Z.Warmed39 zzU.vm ∧ zzU.heap = h0) (fun _ _ _ _ _ => True) (fun _ zzU zzo zzV => ∃ zzv zzL, zzo = .returned zzv ∧ Q3n1_0 Z a q r kc u0 h0 n0 zzv zzV.heap zzL ∧ FrameEnd zzU zzo zzV zzL ({ frames := 0, cells := 0, slots := 0, locals := 0 } : Room).cells ({ frames := 0, cells := 0, slots := 0, locals := 0 } : Room).slots) := by
  refine MetFree.of_bodySF (plainFor_of_name pn_1) hisR ?_
  intro p e s m args below meth c s₁ Bd hml0 hP hK
  obtain ⟨rfl, hZ, hh⟩ := hP
  have hx := Bd.exec
  have hby := Bd.bytes
  have hml : c.maxLocals = 5 := hml0
  have hown : s.vm.findClass "com/example/accesstrail/accesstrail/store/AppendOnlyLongs" = some m.cls := findClass_of_methodNamed Bd.named
  have hnm := (name_of_methodNamed Bd.named Bd.method).1
  have X0 : Stand p l e ({ frames := 0, cells := 0, slots := 0, locals := 0 } : Room) s m #[(.ref a), (.long q)] below meth c s₁ [] 0 0 := Stand.of_body Bd
  have e0 : s₁.heap = h0 := by rw [← hh, Bd.state]; rfl
  have N0 := Fr.nil n0
  have R0 : ∀ t, Steps p.tables e below (s₁.setTop (mkF m 0 #[.val (.ref a), .val (.long q), .second, .unset, .unset] [])) t → Steps p.tables e below (s₁.setTop (entryFrame m #[(.ref a), (.long q)] 5)) t := fun t k => castTop (ef3n1_0 m a q) k
  have KP := Keep.refl h0 [a, r]
  have R1 : ∀ t, Steps p.tables e below (s₁.setTop (mkF m 1 #[.val (.ref a), .val (.long q), .second, .unset, .unset] [(.ref a)])) t → Steps p.tables e below (s₁.setTop (entryFrame m #[(.ref a), (.long q)] 5)) t := by
    intro t k
    refine R0 t ?_
    show Steps p.tables e below (s₁.setTop (mkF m 0 #[.val (.ref a), .val (.long q), .second, .unset, .unset] [])) _
    refine XS.aloadN X0.here hx rfl (hb hby d3_0) rfl rfl ?_
    exact k
  obtain ⟨T2, X2, e2, st2⟩ := getF X0 hx hZ hown (host := "") (Or.inl (hw _ (List.mem_of_getElem? (i := 10) rfl))) Via.refl e0 F_elements_a (g := (mkF m 1 #[.val (.ref a), .val (.long q), .second, .unset, .unset] [(.ref a)])) rfl rfl (hb hby d3_1)
  have R3 : ∀ t, Steps p.tables e below (T2.setTop (mkF m 6 #[.val (.ref a), .val (.long q), .second, .val (.ref r), .unset] [(.ref a)])) t → Steps p.tables e below (s₁.setTop (entryFrame m #[(.ref a), (.long q)] 5)) t := by
    intro t k
    refine R1 t ?_
    show Steps p.tables e below (s₁.setTop (mkF m 1 #[.val (.ref a), .val (.long q), .second, .unset, .unset] [(.ref a)])) _
    refine st2 _ ?_
    show Steps p.tables e below (T2.setTop (mkF m 4 #[.val (.ref a), .val (.long q), .second, .unset, .unset] [(.ref r)])) _
    refine XS.astoreN X2.here hx rfl (hb hby d3_4) rfl rfl (l' := #[.val (.ref a), .val (.long q), .second, .val (.ref r), .unset]) rfl ?_
    show Steps p.tables e below (T2.setTop (mkF m 5 #[.val (.ref a), .val (.long q), .second, .val (.ref r), .unset] [])) _
    refine XS.aloadN X2.here hx rfl (hb hby d3_5) rfl rfl ?_
    exact k
  obtain ⟨T4, X4, e4, st4⟩ := getF X2 hx hZ hown (host := "") (Or.inl (hw _ (List.mem_of_getElem? (i := 17) rfl))) Via.refl e2 F_size_a (g := (mkF m 6 #[.val (.ref a), .val (.long q), .second, .val (.ref r), .unset] [(.ref a)])) rfl rfl (hb hby d3_6)
  have R5 : ∀ t, Steps p.tables e below (T4.setTop (mkF m 14 #[.val (.ref a), .val (.long q), .second, .val (.ref r), .val (.int (0 : Int32))] [(.ref r), (.int (0 : Int32))])) t → Steps p.tables e below (s₁.setTop (entryFrame m #[(.ref a), (.long q)] 5)) t := by
    intro t k
    refine R3 t ?_
    show Steps p.tables e below (T2.setTop (mkF m 6 #[.val (.ref a), .val (.long q), .second, .val (.ref r), .unset] [(.ref a)])) _
    refine st4 _ ?_
    show Steps p.tables e below (T4.setTop (mkF m 9 #[.val (.ref a), .val (.long q), .second, .val (.ref r), .unset] [(.int (0 : Int32))])) _
    refine XS.istore X4.here hx rfl (hb hby d3_9) rfl (l' := #[.val (.ref a), .val (.long q), .second, .val (.ref r), .val (.int (0 : Int32))]) rfl ?_
    show Steps p.tables e below (T4.setTop (mkF m 11 #[.val (.ref a), .val (.long q), .second, .val (.ref r), .val (.int (0 : Int32))] [])) _
    refine XS.iload X4.here hx rfl (hb hby d3_11) rfl ?_
    show Steps p.tables e below (T4.setTop (mkF m 13 #[.val (.ref a), .val (.long q), .second, .val (.ref r), .val (.int (0 : Int32))] [(.int (0 : Int32))])) _
    refine XS.aloadN X4.here hx rfl (hb hby d3_13) rfl rfl ?_
    exact k
  obtain ⟨cl6, Ar6, Aq6, As6, An6, Ah6, Ag6⟩ := id V_r
  have R7 : ∀ t, Steps p.tables e below (T4.setTop (mkF m 31 #[.val (.ref a), .val (.long q), .second, .val (.ref r), .val (.int (0 : Int32))] [(.long q), (.int (0 : Int32)), (.ref r)])) t → Steps p.tables e below (s₁.setTop (entryFrame m #[(.ref a), (.long q)] 5)) t := by
    intro t k
    refine R5 t ?_
    show Steps p.tables e below (T4.setTop (mkF m 14 #[.val (.ref a), .val (.long q), .second, .val (.ref r), .val (.int (0 : Int32))] [(.ref r), (.int (0 : Int32))])) _
    refine X4.arraylength hx (by rw [e4]; exact Ar6.1) (State.isArrayOf_alike hZ.alike Ar6.2.1) (g := (mkF m 14 #[.val (.ref a), .val (.long q), .second, .val (.ref r), .val (.int (0 : Int32))] [(.ref r), (.int (0 : Int32))])) rfl rfl (hb hby d3_14) _ ?_
    rw [len_of As6 An6]
    show Steps p.tables e below (T4.setTop (mkF m 15 #[.val (.ref a), .val (.long q), .second, .val (.ref r), .val (.int (0 : Int32))] [(.int (1 : Int32)), (.int (0 : Int32))])) _
    refine XS.icmpYes X4.here hx rfl (pc0 := 15) (pc' := 27) rfl (hb hby d3_15) rfl (feq (by decide)).2 (by decide) (by decide) ?_
    show Steps p.tables e below (T4.setTop (mkF m 27 #[.val (.ref a), .val (.long q), .second, .val (.ref r), .val (.int (0 : Int32))] [])) _
    refine XS.aloadN X4.here hx rfl (hb hby d3_27) rfl rfl ?_
    show Steps p.tables e below (T4.setTop (mkF m 28 #[.val (.ref a), .val (.long q), .second, .val (.ref r), .val (.int (0 : Int32))] [(.ref r)])) _
    refine XS.iload X4.here hx rfl (hb hby d3_28) rfl ?_
    show Steps p.tables e below (T4.setTop (mkF m 30 #[.val (.ref a), .val (.long q), .second, .val (.ref r), .val (.int (0 : Int32))] [(.int (0 : Int32)), (.ref r)])) _
    refine XS.lloadN X4.here hx rfl (hb hby d3_30) rfl ?_
    exact k
  obtain ⟨cl8, Ar8, Aq8, As8, An8, Ah8, Ag8⟩ := id V_r
  have hin8 : ¬ ((0 : Int32) < 0 ∨ cl8.slots.size ≤ ((0 : Int32)).toNatClampNeg) := inb_of As8 ⟨by decide, by decide⟩
  obtain ⟨T9, h9, X9, e9, W9, st9⟩ := stJ X4 hx hZ e4 Ar8 (j := (0 : Int32)) hin8 (g := (mkF m 31 #[.val (.ref a), .val (.long q), .second, .val (.ref r), .val (.int (0 : Int32))] [(.long q), (.int (0 : Int32)), (.ref r)])) rfl rfl (hb hby d3_31)
  have N9 := Fr.snoc X9 N0 ge_r
  have Sz9 := Nat.le_trans Z0 (Keep.of_wr W9).1
  have E_a := E_a.wr W9
  have F_elements_a := F_elements_a.other W9 (Or.inl nra.symm)
  have F_size_a := F_size_a.other W9 (Or.inl nra.symm)
  have V_r : Arv Z h9 r kc .long (1 : Int32) [(.long q)] (.long (0 : Int64)) := Arv.set Ar8 Aq8 As8 An8 Ah8 Ag8 rfl W9 0 rfl (Nat.le_of_ble_eq_true rfl)
  have KP := KP.wr W9 (Or.inl (List.mem_of_getElem? (i := 1) rfl))
  have R10 : ∀ t, Steps p.tables e below (T9.setTop (mkF m 34 #[.val (.ref a), .val (.long q), .second, .val (.ref r), .val (.int (0 : Int32))] [(.ref r), (.ref a)])) t → Steps p.tables e below (s₁.setTop (entryFrame m #[(.ref a), (.long q)] 5)) t := by
    intro t k
    refine R7 t ?_
    show Steps p.tables e below (T4.setTop (mkF m 31 #[.val (.ref a), .val (.long q), .second, .val (.ref r), .val (.int (0 : Int32))] [(.long q), (.int (0 : Int32)), (.ref r)])) _
    refine st9 _ ?_
    show Steps p.tables e below (T9.setTop (mkF m 32 #[.val (.ref a), .val (.long q), .second, .val (.ref r), .val (.int (0 : Int32))] [])) _
    refine XS.aloadN X9.here hx rfl (hb hby d3_32) rfl rfl ?_
    show Steps p.tables e below (T9.setTop (mkF m 33 #[.val (.ref a), .val (.long q), .second, .val (.ref r), .val (.int (0 : Int32))] [(.ref a)])) _
    refine XS.aloadN X9.here hx rfl (hb hby d3_33) rfl rfl ?_
    exact k
  obtain ⟨T11, h11, X11, e11, W11, st11⟩ := putF X9 hx hZ hown (host := "") (Or.inl (hw _ (List.mem_of_getElem? (i := 10) rfl))) Via.refl e9 F_elements_a E_a (Or.inl (hw _ (List.mem_of_getElem? (i := 11) rfl))) (hw _ (List.mem_of_getElem? (i := 1) rfl)) (ty := (.array .long)) (by decide) rfl rfl (g := (mkF m 34 #[.val (.ref a), .val (.long q), .second, .val (.ref r), .val (.int (0 : Int32))] [(.ref r), (.ref a)])) rfl rfl (hb hby d3_34)
  have N11 := Fr.snoc X11 N9 ge_a
  have Sz11 := Nat.le_trans Sz9 (Keep.of_wr W11).1
  have E_a := E_a.wr W11
  have F_size_a := F_size_a.other W11 (Or.inr (slot_ne (Or.inl (hw _ (List.mem_of_getElem? (i := 18) rfl))) (Or.inl (hw _ (List.mem_of_getElem? (i := 11) rfl))) (by decide) (t := .int) (t' := (.array .long)) (by decide) (by decide)))
  have V_r := V_r.other W11 nra
  have F_elements_a := F_elements_a.same W11
  have KP := KP.wr W11 (Or.inl (List.mem_of_getElem? (i := 0) rfl))
  have R12 : ∀ t, Steps p.tables e below (T11.setTop (mkF m 42 #[.val (.ref a), .val (.long q), .second, .val (.ref r), .val (.int (0 : Int32))] [(.int (1 : Int32)), (.ref a)])) t → Steps p.tables e below (s₁.setTop (entryFrame m #[(.ref a), (.long q)] 5)) t := by
    intro t k
    refine R10 t ?_
    show Steps p.tables e below (T9.setTop (mkF m 34 #[.val (.ref a), .val (.long q), .second, .val (.ref r), .val (.int (0 : Int32))] [(.ref r), (.ref a)])) _
    refine st11 _ ?_
    show Steps p.tables e below (T11.setTop (mkF m 37 #[.val (.ref a), .val (.long q), .second, .val (.ref r), .val (.int (0 : Int32))] [])) _
    refine XS.aloadN X11.here hx rfl (hb hby d3_37) rfl rfl ?_
    show Steps p.tables e below (T11.setTop (mkF m 38 #[.val (.ref a), .val (.long q), .second, .val (.ref r), .val (.int (0 : Int32))] [(.ref a)])) _
    refine XS.iload X11.here hx rfl (hb hby d3_38) rfl ?_
    show Steps p.tables e below (T11.setTop (mkF m 40 #[.val (.ref a), .val (.long q), .second, .val (.ref r), .val (.int (0 : Int32))] [(.int (0 : Int32)), (.ref a)])) _
    refine XS.iconst X11.here hx rfl (hb hby d3_40) ?_
    show Steps p.tables e below (T11.setTop (mkF m 41 #[.val (.ref a), .val (.long q), .second, .val (.ref r), .val (.int (0 : Int32))] [(.int (1 : Int32)), (.int (0 : Int32)), (.ref a)])) _
    refine XS.iadd X11.here hx rfl (hb hby d3_41) rfl ?_
    exact k
  obtain ⟨T13, h13, X13, e13, W13, st13⟩ := putF X11 hx hZ hown (host := "") (Or.inl (hw _ (List.mem_of_getElem? (i := 17) rfl))) Via.refl e11 F_size_a E_a (Or.inl (hw _ (List.mem_of_getElem? (i := 18) rfl))) (hw _ (List.mem_of_getElem? (i := 1) rfl)) (ty := .int) (by decide) rfl rfl (g := (mkF m 42 #[.val (.ref a), .val (.long q), .second, .val (.ref r), .val (.int (0 : Int32))] [(.int (1 : Int32)), (.ref a)])) rfl rfl (hb hby d3_42)
  have N13 := Fr.snoc X13 N11 ge_a
  have Sz13 := Nat.le_trans Sz11 (Keep.of_wr W13).1
  have E_a := E_a.wr W13
  have F_elements_a := F_elements_a.other W13 (Or.inr (slot_ne (Or.inl (hw _ (List.mem_of_getElem? (i := 11) rfl))) (Or.inl (hw _ (List.mem_of_getElem? (i := 18) rfl))) (by decide) (t := (.array .long)) (t' := .int) (by decide) (by decide)))
  have V_r := V_r.other W13 nra
  have F_size_a := F_size_a.same W13
  have KP := KP.wr W13 (Or.inl (List.mem_of_getElem? (i := 0) rfl))
  have R14 : ∀ t, Steps p.tables e below (T13.setTop (mkF m 45 #[.val (.ref a), .val (.long q), .second, .val (.ref r), .val (.int (0 : Int32))] [])) t → Steps p.tables e below (s₁.setTop (entryFrame m #[(.ref a), (.long q)] 5)) t := by
    intro t k
    refine R12 t ?_
    show Steps p.tables e below (T11.setTop (mkF m 42 #[.val (.ref a), .val (.long q), .second, .val (.ref r), .val (.int (0 : Int32))] [(.int (1 : Int32)), (.ref a)])) _
    refine st13 _ ?_
    exact k
  obtain ⟨fs, hr, hrun, hended, hW, hsame⟩ := X13.leave (v := none) (fun _ => rfl)
  refine ⟨_, _, R14 _ ?_, hrun, hended, _, _, rfl, ?_, ⟨_, rfl⟩, hW, hsame.mono (by decide) (by decide)⟩
  · exact X13.returnOut hx Bd.returns (hb hby d3_45) hr
  · show Q3n1_0 Z a q r kc u0 h0 n0 _ T13.heap _
    rw [e13]
    exact ⟨rfl, N13, KP, F_elements_a, F_size_a, V_r⟩
theorem ef3n1_1 (m : MethodId) (x0 : Addr) (x1 : Int64) : entryFrame m #[(.ref x0), (.long x1)] 5 = mkF m 0 #[.val (.ref x0), .val (.long x1), .second, .unset, .unset] [] := by first | (simp [entryFrame, mkF, argsToLocals, Value.category]; done) | rfl
theorem d3_18 : decode prog_33_method_2_code 18 = .ok (.aload_n 3, 1) := by decide +kernel
theorem d3_19 : decode prog_33_method_2_code 19 = .ok (.iload 4, 2) := by decide +kernel
theorem d3_21 : decode prog_33_method_2_code 21 = .ok (.iconst 2, 1) := by decide +kernel
theorem d3_22 : decode prog_33_method_2_code 22 = .ok (.imul, 1) := by decide +kernel
theorem pd_1 : parseMethodDescriptor "([JI)[J" = some ⟨[(.array .long), .int], some (.array .long)⟩ := by decide +kernel
theorem d3_23 : decode prog_33_method_2_code 23 = .ok (.invokestatic 17, 3) := by decide +kernel
theorem d3_26 : decode prog_33_method_2_code 26 = .ok (.astore_n 3, 1) := by decide +kernel
def Q3n1_1 (Z : State) (a : Addr) (q : Int64) (r : Addr) (kc : ClassId) (u0 : Int64) (h0 : Heap) (n0 : Nat) (v : Option Value) (h : Heap) (L : List Loc) : Prop := v = none ∧ Fr n0 L ∧ ∃ kc2 : ClassId, Keep h0 h [a] ∧ Fld Z h a "com/example/accesstrail/accesstrail/store/AppendOnlyLongs" "elements" "[J" (.ref h0.size) ∧ Fld Z h a "com/example/accesstrail/accesstrail/store/AppendOnlyLongs" "size" "I" (.int (2 : Int32)) ∧ Arv Z h h0.size kc2 .long (2 : Int32) [(.long u0), (.long q)] (.long (0 : Int64))
set_option maxRecDepth 65536 in
set_option maxHeartbeats 40000000 in
theorem rm3n1_1 (l : Launch) (Z : State) (a0 : Array Value) (hw : ∀ d ∈ tables_1, d.before a0 Z = true) (ws : List Jvm.Cond) (a : Addr) (q : Int64) (r : Addr) (kc : ClassId) (u0 : Int64) (h0 : Heap) (n0 : Nat) (Z0 : n0 ≤ h0.size) (E_a : Exa Z h0 a "com/example/accesstrail/accesstrail/store/AppendOnlyLongs") (F_elements_a : Fld Z h0 a "com/example/accesstrail/accesstrail/store/AppendOnlyLongs" "elements" "[J" (.ref r)) (F_size_a : Fld Z h0 a "com/example/accesstrail/accesstrail/store/AppendOnlyLongs" "size" "I" (.int (1 : Int32))) (V_r : Arv Z h0 r kc .long (1 : Int32) [(.long u0)] (.long (0 : Int64))) (ge_a : n0 ≤ a) (ge_r : n0 ≤ r) (nra : r ≠ a) :
    MetFree l (⟨"com/example/accesstrail/accesstrail/store/AppendOnlyLongs", "add", "(J)V"⟩ : MethodName) (head1 (Jvm.Cond.code (⟨"com/example/accesstrail/accesstrail/store/AppendOnlyLongs", "add", "(J)V"⟩ : MethodName) prog_33_method_2_code 5 none :: ws) ({ frames := 2, cells := 1, slots := 2, locals := 74 } : Room)) (fun zza zzU => zza = #[(.ref a), (.long q)] ∧ Z.Warmed39 zzU.vm ∧ zzU.heap = h0) (fun _ _ _ _ _ => True) (fun _ zzU zzo zzV => ∃ zzv zzL, zzo = .returned zzv ∧ Q3n1_1 Z a q r kc u0 h0 n0 zzv zzV.heap zzL ∧ FrameEnd zzU zzo zzV zzL ({ frames := 2, cells := 1, slots := 2, locals := 74 } : Room).cells ({ frames := 2, cells := 1, slots := 2, locals := 74 } : Room).slots) := by
  refine MetFree.of_bodySF (plainFor_of_name pn_1) hisR ?_
  intro p e s m args below meth c s₁ Bd hml0 hP hK
  obtain ⟨rfl, hZ, hh⟩ := hP
  have hx := Bd.exec
  have hby := Bd.bytes
  have hml : c.maxLocals = 5 := hml0
  have hown : s.vm.findClass "com/example/accesstrail/accesstrail/store/AppendOnlyLongs" = some m.cls := findClass_of_methodNamed Bd.named
  have hnm := (name_of_methodNamed Bd.named Bd.method).1
  have X0 : Stand p l e ({ frames := 2, cells := 1, slots := 2, locals := 74 } : Room) s m #[(.ref a), (.long q)] below meth c s₁ [] 0 0 := Stand.of_body Bd
  have e0 : s₁.heap = h0 := by rw [← hh, Bd.state]; rfl
  have N0 := Fr.nil n0
  have R0 : ∀ t, Steps p.tables e below (s₁.setTop (mkF m 0 #[.val (.ref a), .val (.long q), .second, .unset, .unset] [])) t → Steps p.tables e below (s₁.setTop (entryFrame m #[(.ref a), (.long q)] 5)) t := fun t k => castTop (ef3n1_1 m a q) k
  have KP := Keep.refl h0 [a]
  have R1 : ∀ t, Steps p.tables e below (s₁.setTop (mkF m 1 #[.val (.ref a), .val (.long q), .second, .unset, .unset] [(.ref a)])) t → Steps p.tables e below (s₁.setTop (entryFrame m #[(.ref a), (.long q)] 5)) t := by
    intro t k
    refine R0 t ?_
    show Steps p.tables e below (s₁.setTop (mkF m 0 #[.val (.ref a), .val (.long q), .second, .unset, .unset] [])) _
    refine XS.aloadN X0.here hx rfl (hb hby d3_0) rfl rfl ?_
    exact k
  obtain ⟨T2, X2, e2, st2⟩ := getF X0 hx hZ hown (host := "") (Or.inl (hw _ (List.mem_of_getElem? (i := 10) rfl))) Via.refl e0 F_elements_a (g := (mkF m 1 #[.val (.ref a), .val (.long q), .second, .unset, .unset] [(.ref a)])) rfl rfl (hb hby d3_1)
  have R3 : ∀ t, Steps p.tables e below (T2.setTop (mkF m 6 #[.val (.ref a), .val (.long q), .second, .val (.ref r), .unset] [(.ref a)])) t → Steps p.tables e below (s₁.setTop (entryFrame m #[(.ref a), (.long q)] 5)) t := by
    intro t k
    refine R1 t ?_
    show Steps p.tables e below (s₁.setTop (mkF m 1 #[.val (.ref a), .val (.long q), .second, .unset, .unset] [(.ref a)])) _
    refine st2 _ ?_
    show Steps p.tables e below (T2.setTop (mkF m 4 #[.val (.ref a), .val (.long q), .second, .unset, .unset] [(.ref r)])) _
    refine XS.astoreN X2.here hx rfl (hb hby d3_4) rfl rfl (l' := #[.val (.ref a), .val (.long q), .second, .val (.ref r), .unset]) rfl ?_
    show Steps p.tables e below (T2.setTop (mkF m 5 #[.val (.ref a), .val (.long q), .second, .val (.ref r), .unset] [])) _
    refine XS.aloadN X2.here hx rfl (hb hby d3_5) rfl rfl ?_
    exact k
  obtain ⟨T4, X4, e4, st4⟩ := getF X2 hx hZ hown (host := "") (Or.inl (hw _ (List.mem_of_getElem? (i := 17) rfl))) Via.refl e2 F_size_a (g := (mkF m 6 #[.val (.ref a), .val (.long q), .second, .val (.ref r), .unset] [(.ref a)])) rfl rfl (hb hby d3_6)
  have R5 : ∀ t, Steps p.tables e below (T4.setTop (mkF m 14 #[.val (.ref a), .val (.long q), .second, .val (.ref r), .val (.int (1 : Int32))] [(.ref r), (.int (1 : Int32))])) t → Steps p.tables e below (s₁.setTop (entryFrame m #[(.ref a), (.long q)] 5)) t := by
    intro t k
    refine R3 t ?_
    show Steps p.tables e below (T2.setTop (mkF m 6 #[.val (.ref a), .val (.long q), .second, .val (.ref r), .unset] [(.ref a)])) _
    refine st4 _ ?_
    show Steps p.tables e below (T4.setTop (mkF m 9 #[.val (.ref a), .val (.long q), .second, .val (.ref r), .unset] [(.int (1 : Int32))])) _
    refine XS.istore X4.here hx rfl (hb hby d3_9) rfl (l' := #[.val (.ref a), .val (.long q), .second, .val (.ref r), .val (.int (1 : Int32))]) rfl ?_
    show Steps p.tables e below (T4.setTop (mkF m 11 #[.val (.ref a), .val (.long q), .second, .val (.ref r), .val (.int (1 : Int32))] [])) _
    refine XS.iload X4.here hx rfl (hb hby d3_11) rfl ?_
    show Steps p.tables e below (T4.setTop (mkF m 13 #[.val (.ref a), .val (.long q), .second, .val (.ref r), .val (.int (1 : Int32))] [(.int (1 : Int32))])) _
    refine XS.aloadN X4.here hx rfl (hb hby d3_13) rfl rfl ?_
    exact k
  obtain ⟨cl6, Ar6, Aq6, As6, An6, Ah6, Ag6⟩ := id V_r
  have R7 : ∀ t, Steps p.tables e below (T4.setTop (mkF m 23 #[.val (.ref a), .val (.long q), .second, .val (.ref r), .val (.int (1 : Int32))] [(.int (2 : Int32)), (.ref r)])) t → Steps p.tables e below (s₁.setTop (entryFrame m #[(.ref a), (.long q)] 5)) t := by
    intro t k
    refine R5 t ?_
    show Steps p.tables e below (T4.setTop (mkF m 14 #[.val (.ref a), .val (.long q), .second, .val (.ref r), .val (.int (1 : Int32))] [(.ref r), (.int (1 : Int32))])) _
    refine X4.arraylength hx (by rw [e4]; exact Ar6.1) (State.isArrayOf_alike hZ.alike Ar6.2.1) (g := (mkF m 14 #[.val (.ref a), .val (.long q), .second, .val (.ref r), .val (.int (1 : Int32))] [(.ref r), (.int (1 : Int32))])) rfl rfl (hb hby d3_14) _ ?_
    rw [len_of As6 An6]
    show Steps p.tables e below (T4.setTop (mkF m 15 #[.val (.ref a), .val (.long q), .second, .val (.ref r), .val (.int (1 : Int32))] [(.int (1 : Int32)), (.int (1 : Int32))])) _
    refine XS.icmpNo X4.here hx rfl (hb hby d3_15) rfl (teq (by decide)).2 ?_
    show Steps p.tables e below (T4.setTop (mkF m 18 #[.val (.ref a), .val (.long q), .second, .val (.ref r), .val (.int (1 : Int32))] [])) _
    refine XS.aloadN X4.here hx rfl (hb hby d3_18) rfl rfl ?_
    show Steps p.tables e below (T4.setTop (mkF m 19 #[.val (.ref a), .val (.long q), .second, .val (.ref r), .val (.int (1 : Int32))] [(.ref r)])) _
    refine XS.iload X4.here hx rfl (hb hby d3_19) rfl ?_
    show Steps p.tables e below (T4.setTop (mkF m 21 #[.val (.ref a), .val (.long q), .second, .val (.ref r), .val (.int (1 : Int32))] [(.int (1 : Int32)), (.ref r)])) _
    refine XS.iconst X4.here hx rfl (hb hby d3_21) ?_
    show Steps p.tables e below (T4.setTop (mkF m 22 #[.val (.ref a), .val (.long q), .second, .val (.ref r), .val (.int (1 : Int32))] [(.int (2 : Int32)), (.int (1 : Int32)), (.ref r)])) _
    refine XS.imul X4.here hx rfl (hb hby d3_22) rfl ?_
    exact k
  have lt_a := E_a.lt
  have lt_r := V_r.lt
  obtain ⟨_, _, ⟨T8, L8, k8, n8⟩, -, X8, ⟨Lc8, hQ8, l8, y8, z8⟩, st8⟩ := Jvm.LawKit.callS X4 hx (y := (⟨"java/util/Arrays", "copyOf", "([JI)[J"⟩ : MethodName)) hown (mvT hZ (hw _ (List.mem_of_getElem? (i := 19) rfl))) (mvT hZ (hw _ (List.mem_of_getElem? (i := 20) rfl))) (mvT hZ (hw _ (List.mem_of_getElem? (i := 21) rfl))) (mvT hZ (hw _ (List.mem_of_getElem? (i := 22) rfl))) (by decide) (backOf (W := 0) (rm4n1 l Z a0 hw [] r (2 : Int32) kc u0 h0 n0 Z0 V_r rfl) hZ (hw _ (List.mem_of_getElem? (i := 22) rfl)) (hw _ (List.mem_of_getElem? (i := 21) rfl)) (by decide) (by decide)) (g := (mkF m 23 #[.val (.ref a), .val (.long q), .second, .val (.ref r), .val (.int (1 : Int32))] [(.int (2 : Int32)), (.ref r)])) rfl (by rw [hml]; rfl) (argsL := [(.ref r), (.int (2 : Int32))]) (rest := []) (lenOf pd_1 rfl) rfl (by show 2 * 0 + _ ≤ _; exact Nat.le_of_eq rfl) (hb hby d3_23) (fun _ _ => ⟨rfl, e4, (by decide : 0 + 1 ≤ _), (by decide : 0 + 2 ≤ _)⟩)
  dsimp only [Pt.U, Pt.locs, Pt.cells, Pt.slots] at X8 l8 y8 z8 st8 hQ8
  subst l8 y8 z8
  obtain ⟨rfl, Nq8, ⟨kc2, K8, V_b⟩⟩ := hQ8
  have N8 := Fr.app N0 Nq8
  have Sz8 := Nat.le_trans Z0 K8.1
  have E_a := E_a.keep K8
  have F_elements_a := F_elements_a.keep K8 nin0
  have F_size_a := F_size_a.keep K8 nin0
  have V_r := V_r.keep K8 nin0
  have KP := KP.trans K8 all0
  obtain ⟨b, gb⟩ : ∃ z, z = h0.size := ⟨_, rfl⟩
  rw [← gb] at V_b st8
  have ge_b : n0 ≤ b := gb ▸ Z0
  have ne_a_b : a ≠ b := Nat.ne_of_lt (Nat.lt_of_lt_of_le lt_a (Nat.le_of_eq gb.symm))
  have ne_r_b : r ≠ b := Nat.ne_of_lt (Nat.lt_of_lt_of_le lt_r (Nat.le_of_eq gb.symm))
  have sz0_b : h0.size ≤ b := Nat.le_of_eq gb.symm
  have R9 : ∀ t, Steps p.tables e below (T8.setTop (mkF m 31 #[.val (.ref a), .val (.long q), .second, .val (.ref b), .val (.int (1 : Int32))] [(.long q), (.int (1 : Int32)), (.ref b)])) t → Steps p.tables e below (s₁.setTop (entryFrame m #[(.ref a), (.long q)] 5)) t := by
    intro t k
    refine R7 t ?_
    show Steps p.tables e below (T4.setTop (mkF m 23 #[.val (.ref a), .val (.long q), .second, .val (.ref r), .val (.int (1 : Int32))] [(.int (2 : Int32)), (.ref r)])) _
    refine st8 _ ?_
    show Steps p.tables e below (T8.setTop (mkF m 26 #[.val (.ref a), .val (.long q), .second, .val (.ref r), .val (.int (1 : Int32))] [(.ref b)])) _
    refine XS.astoreN X8.here hx rfl (hb hby d3_26) rfl rfl (l' := #[.val (.ref a), .val (.long q), .second, .val (.ref b), .val (.int (1 : Int32))]) rfl ?_
    show Steps p.tables e below (T8.setTop (mkF m 27 #[.val (.ref a), .val (.long q), .second, .val (.ref b), .val (.int (1 : Int32))] [])) _
    refine XS.aloadN X8.here hx rfl (hb hby d3_27) rfl rfl ?_
    show Steps p.tables e below (T8.setTop (mkF m 28 #[.val (.ref a), .val (.long q), .second, .val (.ref b), .val (.int (1 : Int32))] [(.ref b)])) _
    refine XS.iload X8.here hx rfl (hb hby d3_28) rfl ?_
    show Steps p.tables e below (T8.setTop (mkF m 30 #[.val (.ref a), .val (.long q), .second, .val (.ref b), .val (.int (1 : Int32))] [(.int (1 : Int32)), (.ref b)])) _
    refine XS.lloadN X8.here hx rfl (hb hby d3_30) rfl ?_
    exact k
  obtain ⟨cl10, Ar10, Aq10, As10, An10, Ah10, Ag10⟩ := id V_b
  have hin10 : ¬ ((1 : Int32) < 0 ∨ cl10.slots.size ≤ ((1 : Int32)).toNatClampNeg) := inb_of As10 ⟨by decide, by decide⟩
  obtain ⟨T11, h11, X11, e11, W11, st11⟩ := stJ X8 hx hZ rfl Ar10 (j := (1 : Int32)) hin10 (g := (mkF m 31 #[.val (.ref a), .val (.long q), .second, .val (.ref b), .val (.int (1 : Int32))] [(.long q), (.int (1 : Int32)), (.ref b)])) rfl rfl (hb hby d3_31)
  have N11 := Fr.snoc X11 N8 ge_b
  have Sz11 := Nat.le_trans Sz8 (Keep.of_wr W11).1
  have E_a := E_a.wr W11
  have F_elements_a := F_elements_a.other W11 (Or.inl ne_a_b)
  have F_size_a := F_size_a.other W11 (Or.inl ne_a_b)
  have V_r := V_r.other W11 ne_r_b
  have V_b : Arv Z h11 b kc2 .long (2 : Int32) [(.long u0), (.long q)] (.long (0 : Int64)) := Arv.set Ar10 Aq10 As10 An10 Ah10 Ag10 rfl W11 1 rfl (Nat.le_of_ble_eq_true rfl)
  have KP := KP.wr W11 (Or.inr sz0_b)
  have R12 : ∀ t, Steps p.tables e below (T11.setTop (mkF m 34 #[.val (.ref a), .val (.long q), .second, .val (.ref b), .val (.int (1 : Int32))] [(.ref b), (.ref a)])) t → Steps p.tables e below (s₁.setTop (entryFrame m #[(.ref a), (.long q)] 5)) t := by
    intro t k
    refine R9 t ?_
    show Steps p.tables e below (T8.setTop (mkF m 31 #[.val (.ref a), .val (.long q), .second, .val (.ref b), .val (.int (1 : Int32))] [(.long q), (.int (1 : Int32)), (.ref b)])) _
    refine st11 _ ?_
    show Steps p.tables e below (T11.setTop (mkF m 32 #[.val (.ref a), .val (.long q), .second, .val (.ref b), .val (.int (1 : Int32))] [])) _
    refine XS.aloadN X11.here hx rfl (hb hby d3_32) rfl rfl ?_
    show Steps p.tables e below (T11.setTop (mkF m 33 #[.val (.ref a), .val (.long q), .second, .val (.ref b), .val (.int (1 : Int32))] [(.ref a)])) _
    refine XS.aloadN X11.here hx rfl (hb hby d3_33) rfl rfl ?_
    exact k
  obtain ⟨T13, h13, X13, e13, W13, st13⟩ := putF X11 hx hZ hown (host := "") (Or.inl (hw _ (List.mem_of_getElem? (i := 10) rfl))) Via.refl e11 F_elements_a E_a (Or.inl (hw _ (List.mem_of_getElem? (i := 11) rfl))) (hw _ (List.mem_of_getElem? (i := 1) rfl)) (ty := (.array .long)) (by decide) rfl rfl (g := (mkF m 34 #[.val (.ref a), .val (.long q), .second, .val (.ref b), .val (.int (1 : Int32))] [(.ref b), (.ref a)])) rfl rfl (hb hby d3_34)
  have N13 := Fr.snoc X13 N11 ge_a
  have Sz13 := Nat.le_trans Sz11 (Keep.of_wr W13).1
  have E_a := E_a.wr W13
  have F_size_a := F_size_a.other W13 (Or.inr (slot_ne (Or.inl (hw _ (List.mem_of_getElem? (i := 18) rfl))) (Or.inl (hw _ (List.mem_of_getElem? (i := 11) rfl))) (by decide) (t := .int) (t' := (.array .long)) (by decide) (by decide)))
  have V_r := V_r.other W13 nra
  have V_b := V_b.other W13 ne_a_b.symm
  have F_elements_a := F_elements_a.same W13
  have KP := KP.wr W13 (Or.inl (List.mem_of_getElem? (i := 0) rfl))
  have R14 : ∀ t, Steps p.tables e below (T13.setTop (mkF m 42 #[.val (.ref a), .val (.long q), .second, .val (.ref b), .val (.int (1 : Int32))] [(.int (2 : Int32)), (.ref a)])) t → Steps p.tables e below (s₁.setTop (entryFrame m #[(.ref a), (.long q)] 5)) t := by
    intro t k
    refine R12 t ?_
    show Steps p.tables e below (T11.setTop (mkF m 34 #[.val (.ref a), .val (.long q), .second, .val (.ref b), .val (.int (1 : Int32))] [(.ref b), (.ref a)])) _
    refine st13 _ ?_
    show Steps p.tables e below (T13.setTop (mkF m 37 #[.val (.ref a), .val (.long q), .second, .val (.ref b), .val (.int (1 : Int32))] [])) _
    refine XS.aloadN X13.here hx rfl (hb hby d3_37) rfl rfl ?_
    show Steps p.tables e below (T13.setTop (mkF m 38 #[.val (.ref a), .val (.long q), .second, .val (.ref b), .val (.int (1 : Int32))] [(.ref a)])) _
    refine XS.iload X13.here hx rfl (hb hby d3_38) rfl ?_
    show Steps p.tables e below (T13.setTop (mkF m 40 #[.val (.ref a), .val (.long q), .second, .val (.ref b), .val (.int (1 : Int32))] [(.int (1 : Int32)), (.ref a)])) _
    refine XS.iconst X13.here hx rfl (hb hby d3_40) ?_
    show Steps p.tables e below (T13.setTop (mkF m 41 #[.val (.ref a), .val (.long q), .second, .val (.ref b), .val (.int (1 : Int32))] [(.int (1 : Int32)), (.int (1 : Int32)), (.ref a)])) _
    refine XS.iadd X13.here hx rfl (hb hby d3_41) rfl ?_
    exact k
  obtain ⟨T15, h15, X15, e15, W15, st15⟩ := putF X13 hx hZ hown (host := "") (Or.inl (hw _ (List.mem_of_getElem? (i := 17) rfl))) Via.refl e13 F_size_a E_a (Or.inl (hw _ (List.mem_of_getElem? (i := 18) rfl))) (hw _ (List.mem_of_getElem? (i := 1) rfl)) (ty := .int) (by decide) rfl rfl (g := (mkF m 42 #[.val (.ref a), .val (.long q), .second, .val (.ref b), .val (.int (1 : Int32))] [(.int (2 : Int32)), (.ref a)])) rfl rfl (hb hby d3_42)
  have N15 := Fr.snoc X15 N13 ge_a
  have Sz15 := Nat.le_trans Sz13 (Keep.of_wr W15).1
  have E_a := E_a.wr W15
  have F_elements_a := F_elements_a.other W15 (Or.inr (slot_ne (Or.inl (hw _ (List.mem_of_getElem? (i := 11) rfl))) (Or.inl (hw _ (List.mem_of_getElem? (i := 18) rfl))) (by decide) (t := (.array .long)) (t' := .int) (by decide) (by decide)))
  have V_r := V_r.other W15 nra
  have V_b := V_b.other W15 ne_a_b.symm
  have F_size_a := F_size_a.same W15
  have KP := KP.wr W15 (Or.inl (List.mem_of_getElem? (i := 0) rfl))
  have R16 : ∀ t, Steps p.tables e below (T15.setTop (mkF m 45 #[.val (.ref a), .val (.long q), .second, .val (.ref b), .val (.int (1 : Int32))] [])) t → Steps p.tables e below (s₁.setTop (entryFrame m #[(.ref a), (.long q)] 5)) t := by
    intro t k
    refine R14 t ?_
    show Steps p.tables e below (T13.setTop (mkF m 42 #[.val (.ref a), .val (.long q), .second, .val (.ref b), .val (.int (1 : Int32))] [(.int (2 : Int32)), (.ref a)])) _
    refine st15 _ ?_
    exact k
  obtain ⟨fs, hr, hrun, hended, hW, hsame⟩ := X15.leave (v := none) (fun _ => rfl)
  refine ⟨_, _, R16 _ ?_, hrun, hended, _, _, rfl, ?_, ⟨_, rfl⟩, hW, hsame.mono (by decide) (by decide)⟩
  · exact X15.returnOut hx Bd.returns (hb hby d3_45) hr
  · show Q3n1_1 Z a q r kc u0 h0 n0 _ T15.heap _
    rw [e15]
    exact ⟨rfl, N15, ⟨kc2, KP, gb ▸ F_elements_a, F_size_a, gb ▸ V_b⟩⟩
theorem ef3n2_0 (m : MethodId) (x0 : Addr) (x1 : Int64) : entryFrame m #[(.ref x0), (.long x1)] 5 = mkF m 0 #[.val (.ref x0), .val (.long x1), .second, .unset, .unset] [] := by first | (simp [entryFrame, mkF, argsToLocals, Value.category]; done) | rfl
def Q3n2_0 (Z : State) (a : Addr) (q : Int64) (r : Addr) (kc : ClassId) (u0 : Int64) (u1 : Int64) (h0 : Heap) (n0 : Nat) (v : Option Value) (h : Heap) (L : List Loc) : Prop := v = none ∧ Fr n0 L ∧ Keep h0 h [a, r] ∧ Fld Z h a "com/example/accesstrail/accesstrail/store/AppendOnlyLongs" "elements" "[J" (.ref r) ∧ Fld Z h a "com/example/accesstrail/accesstrail/store/AppendOnlyLongs" "size" "I" (.int (1 : Int32)) ∧ Arv Z h r kc .long (2 : Int32) [(.long q), (.long u1)] (.long (0 : Int64))
set_option maxRecDepth 65536 in
set_option maxHeartbeats 40000000 in
theorem rm3n2_0 (l : Launch) (Z : State) (a0 : Array Value) (hw : ∀ d ∈ tables_1, d.before a0 Z = true) (ws : List Jvm.Cond) (a : Addr) (q : Int64) (r : Addr) (kc : ClassId) (u0 : Int64) (u1 : Int64) (h0 : Heap) (n0 : Nat) (Z0 : n0 ≤ h0.size) (E_a : Exa Z h0 a "com/example/accesstrail/accesstrail/store/AppendOnlyLongs") (F_elements_a : Fld Z h0 a "com/example/accesstrail/accesstrail/store/AppendOnlyLongs" "elements" "[J" (.ref r)) (F_size_a : Fld Z h0 a "com/example/accesstrail/accesstrail/store/AppendOnlyLongs" "size" "I" (.int (0 : Int32))) (V_r : Arv Z h0 r kc .long (2 : Int32) [(.long u0), (.long u1)] (.long (0 : Int64))) (ge_a : n0 ≤ a) (ge_r : n0 ≤ r) (nra : r ≠ a) :
    MetFree l (⟨"com/example/accesstrail/accesstrail/store/AppendOnlyLongs", "add", "(J)V"⟩ : MethodName) (head1 (Jvm.Cond.code (⟨"com/example/accesstrail/accesstrail/store/AppendOnlyLongs", "add", "(J)V"⟩ : MethodName) prog_33_method_2_code 5 none :: ws) ({ frames := 0, cells := 0, slots := 0, locals := 0 } : Room)) (fun zza zzU => zza = #[(.ref a), (.long q)] ∧ Z.Warmed39 zzU.vm ∧ zzU.heap = h0) (fun _ _ _ _ _ => True) (fun _ zzU zzo zzV => ∃ zzv zzL, zzo = .returned zzv ∧ Q3n2_0 Z a q r kc u0 u1 h0 n0 zzv zzV.heap zzL ∧ FrameEnd zzU zzo zzV zzL ({ frames := 0, cells := 0, slots := 0, locals := 0 } : Room).cells ({ frames := 0, cells := 0, slots := 0, locals := 0 } : Room).slots) := by
  refine MetFree.of_bodySF (plainFor_of_name pn_1) hisR ?_
  intro p e s m args below meth c s₁ Bd hml0 hP hK
  obtain ⟨rfl, hZ, hh⟩ := hP
  have hx := Bd.exec
  have hby := Bd.bytes
  have hml : c.maxLocals = 5 := hml0
  have hown : s.vm.findClass "com/example/accesstrail/accesstrail/store/AppendOnlyLongs" = some m.cls := findClass_of_methodNamed Bd.named
  have hnm := (name_of_methodNamed Bd.named Bd.method).1
  have X0 : Stand p l e ({ frames := 0, cells := 0, slots := 0, locals := 0 } : Room) s m #[(.ref a), (.long q)] below meth c s₁ [] 0 0 := Stand.of_body Bd
  have e0 : s₁.heap = h0 := by rw [← hh, Bd.state]; rfl
  have N0 := Fr.nil n0
  have R0 : ∀ t, Steps p.tables e below (s₁.setTop (mkF m 0 #[.val (.ref a), .val (.long q), .second, .unset, .unset] [])) t → Steps p.tables e below (s₁.setTop (entryFrame m #[(.ref a), (.long q)] 5)) t := fun t k => castTop (ef3n2_0 m a q) k
  have KP := Keep.refl h0 [a, r]
  have R1 : ∀ t, Steps p.tables e below (s₁.setTop (mkF m 1 #[.val (.ref a), .val (.long q), .second, .unset, .unset] [(.ref a)])) t → Steps p.tables e below (s₁.setTop (entryFrame m #[(.ref a), (.long q)] 5)) t := by
    intro t k
    refine R0 t ?_
    show Steps p.tables e below (s₁.setTop (mkF m 0 #[.val (.ref a), .val (.long q), .second, .unset, .unset] [])) _
    refine XS.aloadN X0.here hx rfl (hb hby d3_0) rfl rfl ?_
    exact k
  obtain ⟨T2, X2, e2, st2⟩ := getF X0 hx hZ hown (host := "") (Or.inl (hw _ (List.mem_of_getElem? (i := 10) rfl))) Via.refl e0 F_elements_a (g := (mkF m 1 #[.val (.ref a), .val (.long q), .second, .unset, .unset] [(.ref a)])) rfl rfl (hb hby d3_1)
  have R3 : ∀ t, Steps p.tables e below (T2.setTop (mkF m 6 #[.val (.ref a), .val (.long q), .second, .val (.ref r), .unset] [(.ref a)])) t → Steps p.tables e below (s₁.setTop (entryFrame m #[(.ref a), (.long q)] 5)) t := by
    intro t k
    refine R1 t ?_
    show Steps p.tables e below (s₁.setTop (mkF m 1 #[.val (.ref a), .val (.long q), .second, .unset, .unset] [(.ref a)])) _
    refine st2 _ ?_
    show Steps p.tables e below (T2.setTop (mkF m 4 #[.val (.ref a), .val (.long q), .second, .unset, .unset] [(.ref r)])) _
    refine XS.astoreN X2.here hx rfl (hb hby d3_4) rfl rfl (l' := #[.val (.ref a), .val (.long q), .second, .val (.ref r), .unset]) rfl ?_
    show Steps p.tables e below (T2.setTop (mkF m 5 #[.val (.ref a), .val (.long q), .second, .val (.ref r), .unset] [])) _
    refine XS.aloadN X2.here hx rfl (hb hby d3_5) rfl rfl ?_
    exact k
  obtain ⟨T4, X4, e4, st4⟩ := getF X2 hx hZ hown (host := "") (Or.inl (hw _ (List.mem_of_getElem? (i := 17) rfl))) Via.refl e2 F_size_a (g := (mkF m 6 #[.val (.ref a), .val (.long q), .second, .val (.ref r), .unset] [(.ref a)])) rfl rfl (hb hby d3_6)
  have R5 : ∀ t, Steps p.tables e below (T4.setTop (mkF m 14 #[.val (.ref a), .val (.long q), .second, .val (.ref r), .val (.int (0 : Int32))] [(.ref r), (.int (0 : Int32))])) t → Steps p.tables e below (s₁.setTop (entryFrame m #[(.ref a), (.long q)] 5)) t := by
    intro t k
    refine R3 t ?_
    show Steps p.tables e below (T2.setTop (mkF m 6 #[.val (.ref a), .val (.long q), .second, .val (.ref r), .unset] [(.ref a)])) _
    refine st4 _ ?_
    show Steps p.tables e below (T4.setTop (mkF m 9 #[.val (.ref a), .val (.long q), .second, .val (.ref r), .unset] [(.int (0 : Int32))])) _
    refine XS.istore X4.here hx rfl (hb hby d3_9) rfl (l' := #[.val (.ref a), .val (.long q), .second, .val (.ref r), .val (.int (0 : Int32))]) rfl ?_
    show Steps p.tables e below (T4.setTop (mkF m 11 #[.val (.ref a), .val (.long q), .second, .val (.ref r), .val (.int (0 : Int32))] [])) _
    refine XS.iload X4.here hx rfl (hb hby d3_11) rfl ?_
    show Steps p.tables e below (T4.setTop (mkF m 13 #[.val (.ref a), .val (.long q), .second, .val (.ref r), .val (.int (0 : Int32))] [(.int (0 : Int32))])) _
    refine XS.aloadN X4.here hx rfl (hb hby d3_13) rfl rfl ?_
    exact k
  obtain ⟨cl6, Ar6, Aq6, As6, An6, Ah6, Ag6⟩ := id V_r
  have R7 : ∀ t, Steps p.tables e below (T4.setTop (mkF m 31 #[.val (.ref a), .val (.long q), .second, .val (.ref r), .val (.int (0 : Int32))] [(.long q), (.int (0 : Int32)), (.ref r)])) t → Steps p.tables e below (s₁.setTop (entryFrame m #[(.ref a), (.long q)] 5)) t := by
    intro t k
    refine R5 t ?_
    show Steps p.tables e below (T4.setTop (mkF m 14 #[.val (.ref a), .val (.long q), .second, .val (.ref r), .val (.int (0 : Int32))] [(.ref r), (.int (0 : Int32))])) _
    refine X4.arraylength hx (by rw [e4]; exact Ar6.1) (State.isArrayOf_alike hZ.alike Ar6.2.1) (g := (mkF m 14 #[.val (.ref a), .val (.long q), .second, .val (.ref r), .val (.int (0 : Int32))] [(.ref r), (.int (0 : Int32))])) rfl rfl (hb hby d3_14) _ ?_
    rw [len_of As6 An6]
    show Steps p.tables e below (T4.setTop (mkF m 15 #[.val (.ref a), .val (.long q), .second, .val (.ref r), .val (.int (0 : Int32))] [(.int (2 : Int32)), (.int (0 : Int32))])) _
    refine XS.icmpYes X4.here hx rfl (pc0 := 15) (pc' := 27) rfl (hb hby d3_15) rfl (feq (by decide)).2 (by decide) (by decide) ?_
    show Steps p.tables e below (T4.setTop (mkF m 27 #[.val (.ref a), .val (.long q), .second, .val (.ref r), .val (.int (0 : Int32))] [])) _
    refine XS.aloadN X4.here hx rfl (hb hby d3_27) rfl rfl ?_
    show Steps p.tables e below (T4.setTop (mkF m 28 #[.val (.ref a), .val (.long q), .second, .val (.ref r), .val (.int (0 : Int32))] [(.ref r)])) _
    refine XS.iload X4.here hx rfl (hb hby d3_28) rfl ?_
    show Steps p.tables e below (T4.setTop (mkF m 30 #[.val (.ref a), .val (.long q), .second, .val (.ref r), .val (.int (0 : Int32))] [(.int (0 : Int32)), (.ref r)])) _
    refine XS.lloadN X4.here hx rfl (hb hby d3_30) rfl ?_
    exact k
  obtain ⟨cl8, Ar8, Aq8, As8, An8, Ah8, Ag8⟩ := id V_r
  have hin8 : ¬ ((0 : Int32) < 0 ∨ cl8.slots.size ≤ ((0 : Int32)).toNatClampNeg) := inb_of As8 ⟨by decide, by decide⟩
  obtain ⟨T9, h9, X9, e9, W9, st9⟩ := stJ X4 hx hZ e4 Ar8 (j := (0 : Int32)) hin8 (g := (mkF m 31 #[.val (.ref a), .val (.long q), .second, .val (.ref r), .val (.int (0 : Int32))] [(.long q), (.int (0 : Int32)), (.ref r)])) rfl rfl (hb hby d3_31)
  have N9 := Fr.snoc X9 N0 ge_r
  have Sz9 := Nat.le_trans Z0 (Keep.of_wr W9).1
  have E_a := E_a.wr W9
  have F_elements_a := F_elements_a.other W9 (Or.inl nra.symm)
  have F_size_a := F_size_a.other W9 (Or.inl nra.symm)
  have V_r : Arv Z h9 r kc .long (2 : Int32) [(.long q), (.long u1)] (.long (0 : Int64)) := Arv.set Ar8 Aq8 As8 An8 Ah8 Ag8 rfl W9 0 rfl (Nat.le_of_ble_eq_true rfl)
  have KP := KP.wr W9 (Or.inl (List.mem_of_getElem? (i := 1) rfl))
  have R10 : ∀ t, Steps p.tables e below (T9.setTop (mkF m 34 #[.val (.ref a), .val (.long q), .second, .val (.ref r), .val (.int (0 : Int32))] [(.ref r), (.ref a)])) t → Steps p.tables e below (s₁.setTop (entryFrame m #[(.ref a), (.long q)] 5)) t := by
    intro t k
    refine R7 t ?_
    show Steps p.tables e below (T4.setTop (mkF m 31 #[.val (.ref a), .val (.long q), .second, .val (.ref r), .val (.int (0 : Int32))] [(.long q), (.int (0 : Int32)), (.ref r)])) _
    refine st9 _ ?_
    show Steps p.tables e below (T9.setTop (mkF m 32 #[.val (.ref a), .val (.long q), .second, .val (.ref r), .val (.int (0 : Int32))] [])) _
    refine XS.aloadN X9.here hx rfl (hb hby d3_32) rfl rfl ?_
    show Steps p.tables e below (T9.setTop (mkF m 33 #[.val (.ref a), .val (.long q), .second, .val (.ref r), .val (.int (0 : Int32))] [(.ref a)])) _
    refine XS.aloadN X9.here hx rfl (hb hby d3_33) rfl rfl ?_
    exact k
  obtain ⟨T11, h11, X11, e11, W11, st11⟩ := putF X9 hx hZ hown (host := "") (Or.inl (hw _ (List.mem_of_getElem? (i := 10) rfl))) Via.refl e9 F_elements_a E_a (Or.inl (hw _ (List.mem_of_getElem? (i := 11) rfl))) (hw _ (List.mem_of_getElem? (i := 1) rfl)) (ty := (.array .long)) (by decide) rfl rfl (g := (mkF m 34 #[.val (.ref a), .val (.long q), .second, .val (.ref r), .val (.int (0 : Int32))] [(.ref r), (.ref a)])) rfl rfl (hb hby d3_34)
  have N11 := Fr.snoc X11 N9 ge_a
  have Sz11 := Nat.le_trans Sz9 (Keep.of_wr W11).1
  have E_a := E_a.wr W11
  have F_size_a := F_size_a.other W11 (Or.inr (slot_ne (Or.inl (hw _ (List.mem_of_getElem? (i := 18) rfl))) (Or.inl (hw _ (List.mem_of_getElem? (i := 11) rfl))) (by decide) (t := .int) (t' := (.array .long)) (by decide) (by decide)))
  have V_r := V_r.other W11 nra
  have F_elements_a := F_elements_a.same W11
  have KP := KP.wr W11 (Or.inl (List.mem_of_getElem? (i := 0) rfl))
  have R12 : ∀ t, Steps p.tables e below (T11.setTop (mkF m 42 #[.val (.ref a), .val (.long q), .second, .val (.ref r), .val (.int (0 : Int32))] [(.int (1 : Int32)), (.ref a)])) t → Steps p.tables e below (s₁.setTop (entryFrame m #[(.ref a), (.long q)] 5)) t := by
    intro t k
    refine R10 t ?_
    show Steps p.tables e below (T9.setTop (mkF m 34 #[.val (.ref a), .val (.long q), .second, .val (.ref r), .val (.int (0 : Int32))] [(.ref r), (.ref a)])) _
    refine st11 _ ?_
    show Steps p.tables e below (T11.setTop (mkF m 37 #[.val (.ref a), .val (.long q), .second, .val (.ref r), .val (.int (0 : Int32))] [])) _
    refine XS.aloadN X11.here hx rfl (hb hby d3_37) rfl rfl ?_
    show Steps p.tables e below (T11.setTop (mkF m 38 #[.val (.ref a), .val (.long q), .second, .val (.ref r), .val (.int (0 : Int32))] [(.ref a)])) _
    refine XS.iload X11.here hx rfl (hb hby d3_38) rfl ?_
    show Steps p.tables e below (T11.setTop (mkF m 40 #[.val (.ref a), .val (.long q), .second, .val (.ref r), .val (.int (0 : Int32))] [(.int (0 : Int32)), (.ref a)])) _
    refine XS.iconst X11.here hx rfl (hb hby d3_40) ?_
    show Steps p.tables e below (T11.setTop (mkF m 41 #[.val (.ref a), .val (.long q), .second, .val (.ref r), .val (.int (0 : Int32))] [(.int (1 : Int32)), (.int (0 : Int32)), (.ref a)])) _
    refine XS.iadd X11.here hx rfl (hb hby d3_41) rfl ?_
    exact k
  obtain ⟨T13, h13, X13, e13, W13, st13⟩ := putF X11 hx hZ hown (host := "") (Or.inl (hw _ (List.mem_of_getElem? (i := 17) rfl))) Via.refl e11 F_size_a E_a (Or.inl (hw _ (List.mem_of_getElem? (i := 18) rfl))) (hw _ (List.mem_of_getElem? (i := 1) rfl)) (ty := .int) (by decide) rfl rfl (g := (mkF m 42 #[.val (.ref a), .val (.long q), .second, .val (.ref r), .val (.int (0 : Int32))] [(.int (1 : Int32)), (.ref a)])) rfl rfl (hb hby d3_42)
  have N13 := Fr.snoc X13 N11 ge_a
  have Sz13 := Nat.le_trans Sz11 (Keep.of_wr W13).1
  have E_a := E_a.wr W13
  have F_elements_a := F_elements_a.other W13 (Or.inr (slot_ne (Or.inl (hw _ (List.mem_of_getElem? (i := 11) rfl))) (Or.inl (hw _ (List.mem_of_getElem? (i := 18) rfl))) (by decide) (t := (.array .long)) (t' := .int) (by decide) (by decide)))
  have V_r := V_r.other W13 nra
  have F_size_a := F_size_a.same W13
  have KP := KP.wr W13 (Or.inl (List.mem_of_getElem? (i := 0) rfl))
  have R14 : ∀ t, Steps p.tables e below (T13.setTop (mkF m 45 #[.val (.ref a), .val (.long q), .second, .val (.ref r), .val (.int (0 : Int32))] [])) t → Steps p.tables e below (s₁.setTop (entryFrame m #[(.ref a), (.long q)] 5)) t := by
    intro t k
    refine R12 t ?_
    show Steps p.tables e below (T11.setTop (mkF m 42 #[.val (.ref a), .val (.long q), .second, .val (.ref r), .val (.int (0 : Int32))] [(.int (1 : Int32)), (.ref a)])) _
    refine st13 _ ?_
    exact k
  obtain ⟨fs, hr, hrun, hended, hW, hsame⟩ := X13.leave (v := none) (fun _ => rfl)
  refine ⟨_, _, R14 _ ?_, hrun, hended, _, _, rfl, ?_, ⟨_, rfl⟩, hW, hsame.mono (by decide) (by decide)⟩
  · exact X13.returnOut hx Bd.returns (hb hby d3_45) hr
  · show Q3n2_0 Z a q r kc u0 u1 h0 n0 _ T13.heap _
    rw [e13]
    exact ⟨rfl, N13, KP, F_elements_a, F_size_a, V_r⟩
theorem ef3n2_1 (m : MethodId) (x0 : Addr) (x1 : Int64) : entryFrame m #[(.ref x0), (.long x1)] 5 = mkF m 0 #[.val (.ref x0), .val (.long x1), .second, .unset, .unset] [] := by first | (simp [entryFrame, mkF, argsToLocals, Value.category]; done) | rfl
def Q3n2_1 (Z : State) (a : Addr) (q : Int64) (r : Addr) (kc : ClassId) (u0 : Int64) (u1 : Int64) (h0 : Heap) (n0 : Nat) (v : Option Value) (h : Heap) (L : List Loc) : Prop := v = none ∧ Fr n0 L ∧ Keep h0 h [a, r] ∧ Fld Z h a "com/example/accesstrail/accesstrail/store/AppendOnlyLongs" "elements" "[J" (.ref r) ∧ Fld Z h a "com/example/accesstrail/accesstrail/store/AppendOnlyLongs" "size" "I" (.int (2 : Int32)) ∧ Arv Z h r kc .long (2 : Int32) [(.long u0), (.long q)] (.long (0 : Int64))
set_option maxRecDepth 65536 in
set_option maxHeartbeats 40000000 in
theorem rm3n2_1 (l : Launch) (Z : State) (a0 : Array Value) (hw : ∀ d ∈ tables_1, d.before a0 Z = true) (ws : List Jvm.Cond) (a : Addr) (q : Int64) (r : Addr) (kc : ClassId) (u0 : Int64) (u1 : Int64) (h0 : Heap) (n0 : Nat) (Z0 : n0 ≤ h0.size) (E_a : Exa Z h0 a "com/example/accesstrail/accesstrail/store/AppendOnlyLongs") (F_elements_a : Fld Z h0 a "com/example/accesstrail/accesstrail/store/AppendOnlyLongs" "elements" "[J" (.ref r)) (F_size_a : Fld Z h0 a "com/example/accesstrail/accesstrail/store/AppendOnlyLongs" "size" "I" (.int (1 : Int32))) (V_r : Arv Z h0 r kc .long (2 : Int32) [(.long u0), (.long u1)] (.long (0 : Int64))) (ge_a : n0 ≤ a) (ge_r : n0 ≤ r) (nra : r ≠ a) :
    MetFree l (⟨"com/example/accesstrail/accesstrail/store/AppendOnlyLongs", "add", "(J)V"⟩ : MethodName) (head1 (Jvm.Cond.code (⟨"com/example/accesstrail/accesstrail/store/AppendOnlyLongs", "add", "(J)V"⟩ : MethodName) prog_33_method_2_code 5 none :: ws) ({ frames := 0, cells := 0, slots := 0, locals := 0 } : Room)) (fun zza zzU => zza = #[(.ref a), (.long q)] ∧ Z.Warmed39 zzU.vm ∧ zzU.heap = h0) (fun _ _ _ _ _ => True) (fun _ zzU zzo zzV => ∃ zzv zzL, zzo = .returned zzv ∧ Q3n2_1 Z a q r kc u0 u1 h0 n0 zzv zzV.heap zzL ∧ FrameEnd zzU zzo zzV zzL ({ frames := 0, cells := 0, slots := 0, locals := 0 } : Room).cells ({ frames := 0, cells := 0, slots := 0, locals := 0 } : Room).slots) := by
  refine MetFree.of_bodySF (plainFor_of_name pn_1) hisR ?_
  intro p e s m args below meth c s₁ Bd hml0 hP hK
  obtain ⟨rfl, hZ, hh⟩ := hP
  have hx := Bd.exec
  have hby := Bd.bytes
  have hml : c.maxLocals = 5 := hml0
  have hown : s.vm.findClass "com/example/accesstrail/accesstrail/store/AppendOnlyLongs" = some m.cls := findClass_of_methodNamed Bd.named
  have hnm := (name_of_methodNamed Bd.named Bd.method).1
  have X0 : Stand p l e ({ frames := 0, cells := 0, slots := 0, locals := 0 } : Room) s m #[(.ref a), (.long q)] below meth c s₁ [] 0 0 := Stand.of_body Bd
  have e0 : s₁.heap = h0 := by rw [← hh, Bd.state]; rfl
  have N0 := Fr.nil n0
  have R0 : ∀ t, Steps p.tables e below (s₁.setTop (mkF m 0 #[.val (.ref a), .val (.long q), .second, .unset, .unset] [])) t → Steps p.tables e below (s₁.setTop (entryFrame m #[(.ref a), (.long q)] 5)) t := fun t k => castTop (ef3n2_1 m a q) k
  have KP := Keep.refl h0 [a, r]
  have R1 : ∀ t, Steps p.tables e below (s₁.setTop (mkF m 1 #[.val (.ref a), .val (.long q), .second, .unset, .unset] [(.ref a)])) t → Steps p.tables e below (s₁.setTop (entryFrame m #[(.ref a), (.long q)] 5)) t := by
    intro t k
    refine R0 t ?_
    show Steps p.tables e below (s₁.setTop (mkF m 0 #[.val (.ref a), .val (.long q), .second, .unset, .unset] [])) _
    refine XS.aloadN X0.here hx rfl (hb hby d3_0) rfl rfl ?_
    exact k
  obtain ⟨T2, X2, e2, st2⟩ := getF X0 hx hZ hown (host := "") (Or.inl (hw _ (List.mem_of_getElem? (i := 10) rfl))) Via.refl e0 F_elements_a (g := (mkF m 1 #[.val (.ref a), .val (.long q), .second, .unset, .unset] [(.ref a)])) rfl rfl (hb hby d3_1)
  have R3 : ∀ t, Steps p.tables e below (T2.setTop (mkF m 6 #[.val (.ref a), .val (.long q), .second, .val (.ref r), .unset] [(.ref a)])) t → Steps p.tables e below (s₁.setTop (entryFrame m #[(.ref a), (.long q)] 5)) t := by
    intro t k
    refine R1 t ?_
    show Steps p.tables e below (s₁.setTop (mkF m 1 #[.val (.ref a), .val (.long q), .second, .unset, .unset] [(.ref a)])) _
    refine st2 _ ?_
    show Steps p.tables e below (T2.setTop (mkF m 4 #[.val (.ref a), .val (.long q), .second, .unset, .unset] [(.ref r)])) _
    refine XS.astoreN X2.here hx rfl (hb hby d3_4) rfl rfl (l' := #[.val (.ref a), .val (.long q), .second, .val (.ref r), .unset]) rfl ?_
    show Steps p.tables e below (T2.setTop (mkF m 5 #[.val (.ref a), .val (.long q), .second, .val (.ref r), .unset] [])) _
    refine XS.aloadN X2.here hx rfl (hb hby d3_5) rfl rfl ?_
    exact k
  obtain ⟨T4, X4, e4, st4⟩ := getF X2 hx hZ hown (host := "") (Or.inl (hw _ (List.mem_of_getElem? (i := 17) rfl))) Via.refl e2 F_size_a (g := (mkF m 6 #[.val (.ref a), .val (.long q), .second, .val (.ref r), .unset] [(.ref a)])) rfl rfl (hb hby d3_6)
  have R5 : ∀ t, Steps p.tables e below (T4.setTop (mkF m 14 #[.val (.ref a), .val (.long q), .second, .val (.ref r), .val (.int (1 : Int32))] [(.ref r), (.int (1 : Int32))])) t → Steps p.tables e below (s₁.setTop (entryFrame m #[(.ref a), (.long q)] 5)) t := by
    intro t k
    refine R3 t ?_
    show Steps p.tables e below (T2.setTop (mkF m 6 #[.val (.ref a), .val (.long q), .second, .val (.ref r), .unset] [(.ref a)])) _
    refine st4 _ ?_
    show Steps p.tables e below (T4.setTop (mkF m 9 #[.val (.ref a), .val (.long q), .second, .val (.ref r), .unset] [(.int (1 : Int32))])) _
    refine XS.istore X4.here hx rfl (hb hby d3_9) rfl (l' := #[.val (.ref a), .val (.long q), .second, .val (.ref r), .val (.int (1 : Int32))]) rfl ?_
    show Steps p.tables e below (T4.setTop (mkF m 11 #[.val (.ref a), .val (.long q), .second, .val (.ref r), .val (.int (1 : Int32))] [])) _
    refine XS.iload X4.here hx rfl (hb hby d3_11) rfl ?_
    show Steps p.tables e below (T4.setTop (mkF m 13 #[.val (.ref a), .val (.long q), .second, .val (.ref r), .val (.int (1 : Int32))] [(.int (1 : Int32))])) _
    refine XS.aloadN X4.here hx rfl (hb hby d3_13) rfl rfl ?_
    exact k
  obtain ⟨cl6, Ar6, Aq6, As6, An6, Ah6, Ag6⟩ := id V_r
  have R7 : ∀ t, Steps p.tables e below (T4.setTop (mkF m 31 #[.val (.ref a), .val (.long q), .second, .val (.ref r), .val (.int (1 : Int32))] [(.long q), (.int (1 : Int32)), (.ref r)])) t → Steps p.tables e below (s₁.setTop (entryFrame m #[(.ref a), (.long q)] 5)) t := by
    intro t k
    refine R5 t ?_
    show Steps p.tables e below (T4.setTop (mkF m 14 #[.val (.ref a), .val (.long q), .second, .val (.ref r), .val (.int (1 : Int32))] [(.ref r), (.int (1 : Int32))])) _
    refine X4.arraylength hx (by rw [e4]; exact Ar6.1) (State.isArrayOf_alike hZ.alike Ar6.2.1) (g := (mkF m 14 #[.val (.ref a), .val (.long q), .second, .val (.ref r), .val (.int (1 : Int32))] [(.ref r), (.int (1 : Int32))])) rfl rfl (hb hby d3_14) _ ?_
    rw [len_of As6 An6]
    show Steps p.tables e below (T4.setTop (mkF m 15 #[.val (.ref a), .val (.long q), .second, .val (.ref r), .val (.int (1 : Int32))] [(.int (2 : Int32)), (.int (1 : Int32))])) _
    refine XS.icmpYes X4.here hx rfl (pc0 := 15) (pc' := 27) rfl (hb hby d3_15) rfl (feq (by decide)).2 (by decide) (by decide) ?_
    show Steps p.tables e below (T4.setTop (mkF m 27 #[.val (.ref a), .val (.long q), .second, .val (.ref r), .val (.int (1 : Int32))] [])) _
    refine XS.aloadN X4.here hx rfl (hb hby d3_27) rfl rfl ?_
    show Steps p.tables e below (T4.setTop (mkF m 28 #[.val (.ref a), .val (.long q), .second, .val (.ref r), .val (.int (1 : Int32))] [(.ref r)])) _
    refine XS.iload X4.here hx rfl (hb hby d3_28) rfl ?_
    show Steps p.tables e below (T4.setTop (mkF m 30 #[.val (.ref a), .val (.long q), .second, .val (.ref r), .val (.int (1 : Int32))] [(.int (1 : Int32)), (.ref r)])) _
    refine XS.lloadN X4.here hx rfl (hb hby d3_30) rfl ?_
    exact k
  obtain ⟨cl8, Ar8, Aq8, As8, An8, Ah8, Ag8⟩ := id V_r
  have hin8 : ¬ ((1 : Int32) < 0 ∨ cl8.slots.size ≤ ((1 : Int32)).toNatClampNeg) := inb_of As8 ⟨by decide, by decide⟩
  obtain ⟨T9, h9, X9, e9, W9, st9⟩ := stJ X4 hx hZ e4 Ar8 (j := (1 : Int32)) hin8 (g := (mkF m 31 #[.val (.ref a), .val (.long q), .second, .val (.ref r), .val (.int (1 : Int32))] [(.long q), (.int (1 : Int32)), (.ref r)])) rfl rfl (hb hby d3_31)
  have N9 := Fr.snoc X9 N0 ge_r
  have Sz9 := Nat.le_trans Z0 (Keep.of_wr W9).1
  have E_a := E_a.wr W9
  have F_elements_a := F_elements_a.other W9 (Or.inl nra.symm)
  have F_size_a := F_size_a.other W9 (Or.inl nra.symm)
  have V_r : Arv Z h9 r kc .long (2 : Int32) [(.long u0), (.long q)] (.long (0 : Int64)) := Arv.set Ar8 Aq8 As8 An8 Ah8 Ag8 rfl W9 1 rfl (Nat.le_of_ble_eq_true rfl)
  have KP := KP.wr W9 (Or.inl (List.mem_of_getElem? (i := 1) rfl))
  have R10 : ∀ t, Steps p.tables e below (T9.setTop (mkF m 34 #[.val (.ref a), .val (.long q), .second, .val (.ref r), .val (.int (1 : Int32))] [(.ref r), (.ref a)])) t → Steps p.tables e below (s₁.setTop (entryFrame m #[(.ref a), (.long q)] 5)) t := by
    intro t k
    refine R7 t ?_
    show Steps p.tables e below (T4.setTop (mkF m 31 #[.val (.ref a), .val (.long q), .second, .val (.ref r), .val (.int (1 : Int32))] [(.long q), (.int (1 : Int32)), (.ref r)])) _
    refine st9 _ ?_
    show Steps p.tables e below (T9.setTop (mkF m 32 #[.val (.ref a), .val (.long q), .second, .val (.ref r), .val (.int (1 : Int32))] [])) _
    refine XS.aloadN X9.here hx rfl (hb hby d3_32) rfl rfl ?_
    show Steps p.tables e below (T9.setTop (mkF m 33 #[.val (.ref a), .val (.long q), .second, .val (.ref r), .val (.int (1 : Int32))] [(.ref a)])) _
    refine XS.aloadN X9.here hx rfl (hb hby d3_33) rfl rfl ?_
    exact k
  obtain ⟨T11, h11, X11, e11, W11, st11⟩ := putF X9 hx hZ hown (host := "") (Or.inl (hw _ (List.mem_of_getElem? (i := 10) rfl))) Via.refl e9 F_elements_a E_a (Or.inl (hw _ (List.mem_of_getElem? (i := 11) rfl))) (hw _ (List.mem_of_getElem? (i := 1) rfl)) (ty := (.array .long)) (by decide) rfl rfl (g := (mkF m 34 #[.val (.ref a), .val (.long q), .second, .val (.ref r), .val (.int (1 : Int32))] [(.ref r), (.ref a)])) rfl rfl (hb hby d3_34)
  have N11 := Fr.snoc X11 N9 ge_a
  have Sz11 := Nat.le_trans Sz9 (Keep.of_wr W11).1
  have E_a := E_a.wr W11
  have F_size_a := F_size_a.other W11 (Or.inr (slot_ne (Or.inl (hw _ (List.mem_of_getElem? (i := 18) rfl))) (Or.inl (hw _ (List.mem_of_getElem? (i := 11) rfl))) (by decide) (t := .int) (t' := (.array .long)) (by decide) (by decide)))
  have V_r := V_r.other W11 nra
  have F_elements_a := F_elements_a.same W11
  have KP := KP.wr W11 (Or.inl (List.mem_of_getElem? (i := 0) rfl))
  have R12 : ∀ t, Steps p.tables e below (T11.setTop (mkF m 42 #[.val (.ref a), .val (.long q), .second, .val (.ref r), .val (.int (1 : Int32))] [(.int (2 : Int32)), (.ref a)])) t → Steps p.tables e below (s₁.setTop (entryFrame m #[(.ref a), (.long q)] 5)) t := by
    intro t k
    refine R10 t ?_
    show Steps p.tables e below (T9.setTop (mkF m 34 #[.val (.ref a), .val (.long q), .second, .val (.ref r), .val (.int (1 : Int32))] [(.ref r), (.ref a)])) _
    refine st11 _ ?_
    show Steps p.tables e below (T11.setTop (mkF m 37 #[.val (.ref a), .val (.long q), .second, .val (.ref r), .val (.int (1 : Int32))] [])) _
    refine XS.aloadN X11.here hx rfl (hb hby d3_37) rfl rfl ?_
    show Steps p.tables e below (T11.setTop (mkF m 38 #[.val (.ref a), .val (.long q), .second, .val (.ref r), .val (.int (1 : Int32))] [(.ref a)])) _
    refine XS.iload X11.here hx rfl (hb hby d3_38) rfl ?_
    show Steps p.tables e below (T11.setTop (mkF m 40 #[.val (.ref a), .val (.long q), .second, .val (.ref r), .val (.int (1 : Int32))] [(.int (1 : Int32)), (.ref a)])) _
    refine XS.iconst X11.here hx rfl (hb hby d3_40) ?_
    show Steps p.tables e below (T11.setTop (mkF m 41 #[.val (.ref a), .val (.long q), .second, .val (.ref r), .val (.int (1 : Int32))] [(.int (1 : Int32)), (.int (1 : Int32)), (.ref a)])) _
    refine XS.iadd X11.here hx rfl (hb hby d3_41) rfl ?_
    exact k
  obtain ⟨T13, h13, X13, e13, W13, st13⟩ := putF X11 hx hZ hown (host := "") (Or.inl (hw _ (List.mem_of_getElem? (i := 17) rfl))) Via.refl e11 F_size_a E_a (Or.inl (hw _ (List.mem_of_getElem? (i := 18) rfl))) (hw _ (List.mem_of_getElem? (i := 1) rfl)) (ty := .int) (by decide) rfl rfl (g := (mkF m 42 #[.val (.ref a), .val (.long q), .second, .val (.ref r), .val (.int (1 : Int32))] [(.int (2 : Int32)), (.ref a)])) rfl rfl (hb hby d3_42)
  have N13 := Fr.snoc X13 N11 ge_a
  have Sz13 := Nat.le_trans Sz11 (Keep.of_wr W13).1
  have E_a := E_a.wr W13
  have F_elements_a := F_elements_a.other W13 (Or.inr (slot_ne (Or.inl (hw _ (List.mem_of_getElem? (i := 11) rfl))) (Or.inl (hw _ (List.mem_of_getElem? (i := 18) rfl))) (by decide) (t := (.array .long)) (t' := .int) (by decide) (by decide)))
  have V_r := V_r.other W13 nra
  have F_size_a := F_size_a.same W13
  have KP := KP.wr W13 (Or.inl (List.mem_of_getElem? (i := 0) rfl))
  have R14 : ∀ t, Steps p.tables e below (T13.setTop (mkF m 45 #[.val (.ref a), .val (.long q), .second, .val (.ref r), .val (.int (1 : Int32))] [])) t → Steps p.tables e below (s₁.setTop (entryFrame m #[(.ref a), (.long q)] 5)) t := by
    intro t k
    refine R12 t ?_
    show Steps p.tables e below (T11.setTop (mkF m 42 #[.val (.ref a), .val (.long q), .second, .val (.ref r), .val (.int (1 : Int32))] [(.int (2 : Int32)), (.ref a)])) _
    refine st13 _ ?_
    exact k
  obtain ⟨fs, hr, hrun, hended, hW, hsame⟩ := X13.leave (v := none) (fun _ => rfl)
  refine ⟨_, _, R14 _ ?_, hrun, hended, _, _, rfl, ?_, ⟨_, rfl⟩, hW, hsame.mono (by decide) (by decide)⟩
  · exact X13.returnOut hx Bd.returns (hb hby d3_45) hr
  · show Q3n2_1 Z a q r kc u0 u1 h0 n0 _ T13.heap _
    rw [e13]
    exact ⟨rfl, N13, KP, F_elements_a, F_size_a, V_r⟩
theorem ef3n2_2 (m : MethodId) (x0 : Addr) (x1 : Int64) : entryFrame m #[(.ref x0), (.long x1)] 5 = mkF m 0 #[.val (.ref x0), .val (.long x1), .second, .unset, .unset] [] := by first | (simp [entryFrame, mkF, argsToLocals, Value.category]; done) | rfl
def Q3n2_2 (Z : State) (a : Addr) (q : Int64) (r : Addr) (kc : ClassId) (u0 : Int64) (u1 : Int64) (h0 : Heap) (n0 : Nat) (v : Option Value) (h : Heap) (L : List Loc) : Prop := v = none ∧ Fr n0 L ∧ ∃ kc2 : ClassId, Keep h0 h [a] ∧ Fld Z h a "com/example/accesstrail/accesstrail/store/AppendOnlyLongs" "elements" "[J" (.ref h0.size) ∧ Fld Z h a "com/example/accesstrail/accesstrail/store/AppendOnlyLongs" "size" "I" (.int (3 : Int32)) ∧ Arv Z h h0.size kc2 .long (4 : Int32) [(.long u0), (.long u1), (.long q), (.long (0 : Int64))] (.long (0 : Int64))
set_option maxRecDepth 65536 in
set_option maxHeartbeats 40000000 in
theorem rm3n2_2 (l : Launch) (Z : State) (a0 : Array Value) (hw : ∀ d ∈ tables_1, d.before a0 Z = true) (ws : List Jvm.Cond) (a : Addr) (q : Int64) (r : Addr) (kc : ClassId) (u0 : Int64) (u1 : Int64) (h0 : Heap) (n0 : Nat) (Z0 : n0 ≤ h0.size) (E_a : Exa Z h0 a "com/example/accesstrail/accesstrail/store/AppendOnlyLongs") (F_elements_a : Fld Z h0 a "com/example/accesstrail/accesstrail/store/AppendOnlyLongs" "elements" "[J" (.ref r)) (F_size_a : Fld Z h0 a "com/example/accesstrail/accesstrail/store/AppendOnlyLongs" "size" "I" (.int (2 : Int32))) (V_r : Arv Z h0 r kc .long (2 : Int32) [(.long u0), (.long u1)] (.long (0 : Int64))) (ge_a : n0 ≤ a) (ge_r : n0 ≤ r) (nra : r ≠ a) :
    MetFree l (⟨"com/example/accesstrail/accesstrail/store/AppendOnlyLongs", "add", "(J)V"⟩ : MethodName) (head1 (Jvm.Cond.code (⟨"com/example/accesstrail/accesstrail/store/AppendOnlyLongs", "add", "(J)V"⟩ : MethodName) prog_33_method_2_code 5 none :: ws) ({ frames := 2, cells := 1, slots := 4, locals := 74 } : Room)) (fun zza zzU => zza = #[(.ref a), (.long q)] ∧ Z.Warmed39 zzU.vm ∧ zzU.heap = h0) (fun _ _ _ _ _ => True) (fun _ zzU zzo zzV => ∃ zzv zzL, zzo = .returned zzv ∧ Q3n2_2 Z a q r kc u0 u1 h0 n0 zzv zzV.heap zzL ∧ FrameEnd zzU zzo zzV zzL ({ frames := 2, cells := 1, slots := 4, locals := 74 } : Room).cells ({ frames := 2, cells := 1, slots := 4, locals := 74 } : Room).slots) := by
  refine MetFree.of_bodySF (plainFor_of_name pn_1) hisR ?_
  intro p e s m args below meth c s₁ Bd hml0 hP hK
  obtain ⟨rfl, hZ, hh⟩ := hP
  have hx := Bd.exec
  have hby := Bd.bytes
  have hml : c.maxLocals = 5 := hml0
  have hown : s.vm.findClass "com/example/accesstrail/accesstrail/store/AppendOnlyLongs" = some m.cls := findClass_of_methodNamed Bd.named
  have hnm := (name_of_methodNamed Bd.named Bd.method).1
  have X0 : Stand p l e ({ frames := 2, cells := 1, slots := 4, locals := 74 } : Room) s m #[(.ref a), (.long q)] below meth c s₁ [] 0 0 := Stand.of_body Bd
  have e0 : s₁.heap = h0 := by rw [← hh, Bd.state]; rfl
  have N0 := Fr.nil n0
  have R0 : ∀ t, Steps p.tables e below (s₁.setTop (mkF m 0 #[.val (.ref a), .val (.long q), .second, .unset, .unset] [])) t → Steps p.tables e below (s₁.setTop (entryFrame m #[(.ref a), (.long q)] 5)) t := fun t k => castTop (ef3n2_2 m a q) k
  have KP := Keep.refl h0 [a]
  have R1 : ∀ t, Steps p.tables e below (s₁.setTop (mkF m 1 #[.val (.ref a), .val (.long q), .second, .unset, .unset] [(.ref a)])) t → Steps p.tables e below (s₁.setTop (entryFrame m #[(.ref a), (.long q)] 5)) t := by
    intro t k
    refine R0 t ?_
    show Steps p.tables e below (s₁.setTop (mkF m 0 #[.val (.ref a), .val (.long q), .second, .unset, .unset] [])) _
    refine XS.aloadN X0.here hx rfl (hb hby d3_0) rfl rfl ?_
    exact k
  obtain ⟨T2, X2, e2, st2⟩ := getF X0 hx hZ hown (host := "") (Or.inl (hw _ (List.mem_of_getElem? (i := 10) rfl))) Via.refl e0 F_elements_a (g := (mkF m 1 #[.val (.ref a), .val (.long q), .second, .unset, .unset] [(.ref a)])) rfl rfl (hb hby d3_1)
  have R3 : ∀ t, Steps p.tables e below (T2.setTop (mkF m 6 #[.val (.ref a), .val (.long q), .second, .val (.ref r), .unset] [(.ref a)])) t → Steps p.tables e below (s₁.setTop (entryFrame m #[(.ref a), (.long q)] 5)) t := by
    intro t k
    refine R1 t ?_
    show Steps p.tables e below (s₁.setTop (mkF m 1 #[.val (.ref a), .val (.long q), .second, .unset, .unset] [(.ref a)])) _
    refine st2 _ ?_
    show Steps p.tables e below (T2.setTop (mkF m 4 #[.val (.ref a), .val (.long q), .second, .unset, .unset] [(.ref r)])) _
    refine XS.astoreN X2.here hx rfl (hb hby d3_4) rfl rfl (l' := #[.val (.ref a), .val (.long q), .second, .val (.ref r), .unset]) rfl ?_
    show Steps p.tables e below (T2.setTop (mkF m 5 #[.val (.ref a), .val (.long q), .second, .val (.ref r), .unset] [])) _
    refine XS.aloadN X2.here hx rfl (hb hby d3_5) rfl rfl ?_
    exact k
  obtain ⟨T4, X4, e4, st4⟩ := getF X2 hx hZ hown (host := "") (Or.inl (hw _ (List.mem_of_getElem? (i := 17) rfl))) Via.refl e2 F_size_a (g := (mkF m 6 #[.val (.ref a), .val (.long q), .second, .val (.ref r), .unset] [(.ref a)])) rfl rfl (hb hby d3_6)
  have R5 : ∀ t, Steps p.tables e below (T4.setTop (mkF m 14 #[.val (.ref a), .val (.long q), .second, .val (.ref r), .val (.int (2 : Int32))] [(.ref r), (.int (2 : Int32))])) t → Steps p.tables e below (s₁.setTop (entryFrame m #[(.ref a), (.long q)] 5)) t := by
    intro t k
    refine R3 t ?_
    show Steps p.tables e below (T2.setTop (mkF m 6 #[.val (.ref a), .val (.long q), .second, .val (.ref r), .unset] [(.ref a)])) _
    refine st4 _ ?_
    show Steps p.tables e below (T4.setTop (mkF m 9 #[.val (.ref a), .val (.long q), .second, .val (.ref r), .unset] [(.int (2 : Int32))])) _
    refine XS.istore X4.here hx rfl (hb hby d3_9) rfl (l' := #[.val (.ref a), .val (.long q), .second, .val (.ref r), .val (.int (2 : Int32))]) rfl ?_
    show Steps p.tables e below (T4.setTop (mkF m 11 #[.val (.ref a), .val (.long q), .second, .val (.ref r), .val (.int (2 : Int32))] [])) _
    refine XS.iload X4.here hx rfl (hb hby d3_11) rfl ?_
    show Steps p.tables e below (T4.setTop (mkF m 13 #[.val (.ref a), .val (.long q), .second, .val (.ref r), .val (.int (2 : Int32))] [(.int (2 : Int32))])) _
    refine XS.aloadN X4.here hx rfl (hb hby d3_13) rfl rfl ?_
    exact k
  obtain ⟨cl6, Ar6, Aq6, As6, An6, Ah6, Ag6⟩ := id V_r
  have R7 : ∀ t, Steps p.tables e below (T4.setTop (mkF m 23 #[.val (.ref a), .val (.long q), .second, .val (.ref r), .val (.int (2 : Int32))] [(.int (4 : Int32)), (.ref r)])) t → Steps p.tables e below (s₁.setTop (entryFrame m #[(.ref a), (.long q)] 5)) t := by
    intro t k
    refine R5 t ?_
    show Steps p.tables e below (T4.setTop (mkF m 14 #[.val (.ref a), .val (.long q), .second, .val (.ref r), .val (.int (2 : Int32))] [(.ref r), (.int (2 : Int32))])) _
    refine X4.arraylength hx (by rw [e4]; exact Ar6.1) (State.isArrayOf_alike hZ.alike Ar6.2.1) (g := (mkF m 14 #[.val (.ref a), .val (.long q), .second, .val (.ref r), .val (.int (2 : Int32))] [(.ref r), (.int (2 : Int32))])) rfl rfl (hb hby d3_14) _ ?_
    rw [len_of As6 An6]
    show Steps p.tables e below (T4.setTop (mkF m 15 #[.val (.ref a), .val (.long q), .second, .val (.ref r), .val (.int (2 : Int32))] [(.int (2 : Int32)), (.int (2 : Int32))])) _
    refine XS.icmpNo X4.here hx rfl (hb hby d3_15) rfl (teq (by decide)).2 ?_
    show Steps p.tables e below (T4.setTop (mkF m 18 #[.val (.ref a), .val (.long q), .second, .val (.ref r), .val (.int (2 : Int32))] [])) _
    refine XS.aloadN X4.here hx rfl (hb hby d3_18) rfl rfl ?_
    show Steps p.tables e below (T4.setTop (mkF m 19 #[.val (.ref a), .val (.long q), .second, .val (.ref r), .val (.int (2 : Int32))] [(.ref r)])) _
    refine XS.iload X4.here hx rfl (hb hby d3_19) rfl ?_
    show Steps p.tables e below (T4.setTop (mkF m 21 #[.val (.ref a), .val (.long q), .second, .val (.ref r), .val (.int (2 : Int32))] [(.int (2 : Int32)), (.ref r)])) _
    refine XS.iconst X4.here hx rfl (hb hby d3_21) ?_
    show Steps p.tables e below (T4.setTop (mkF m 22 #[.val (.ref a), .val (.long q), .second, .val (.ref r), .val (.int (2 : Int32))] [(.int (2 : Int32)), (.int (2 : Int32)), (.ref r)])) _
    refine XS.imul X4.here hx rfl (hb hby d3_22) rfl ?_
    exact k
  have lt_a := E_a.lt
  have lt_r := V_r.lt
  obtain ⟨_, _, ⟨T8, L8, k8, n8⟩, -, X8, ⟨Lc8, hQ8, l8, y8, z8⟩, st8⟩ := Jvm.LawKit.callS X4 hx (y := (⟨"java/util/Arrays", "copyOf", "([JI)[J"⟩ : MethodName)) hown (mvT hZ (hw _ (List.mem_of_getElem? (i := 19) rfl))) (mvT hZ (hw _ (List.mem_of_getElem? (i := 20) rfl))) (mvT hZ (hw _ (List.mem_of_getElem? (i := 21) rfl))) (mvT hZ (hw _ (List.mem_of_getElem? (i := 22) rfl))) (by decide) (backOf (W := 0) (rm4n2 l Z a0 hw [] r (4 : Int32) kc u0 u1 h0 n0 Z0 V_r rfl) hZ (hw _ (List.mem_of_getElem? (i := 22) rfl)) (hw _ (List.mem_of_getElem? (i := 21) rfl)) (by decide) (by decide)) (g := (mkF m 23 #[.val (.ref a), .val (.long q), .second, .val (.ref r), .val (.int (2 : Int32))] [(.int (4 : Int32)), (.ref r)])) rfl (by rw [hml]; rfl) (argsL := [(.ref r), (.int (4 : Int32))]) (rest := []) (lenOf pd_1 rfl) rfl (by show 2 * 0 + _ ≤ _; exact Nat.le_of_eq rfl) (hb hby d3_23) (fun _ _ => ⟨rfl, e4, (by decide : 0 + 1 ≤ _), (by decide : 0 + 4 ≤ _)⟩)
  dsimp only [Pt.U, Pt.locs, Pt.cells, Pt.slots] at X8 l8 y8 z8 st8 hQ8
  subst l8 y8 z8
  obtain ⟨rfl, Nq8, ⟨kc2, K8, V_b⟩⟩ := hQ8
  have N8 := Fr.app N0 Nq8
  have Sz8 := Nat.le_trans Z0 K8.1
  have E_a := E_a.keep K8
  have F_elements_a := F_elements_a.keep K8 nin0
  have F_size_a := F_size_a.keep K8 nin0
  have V_r := V_r.keep K8 nin0
  have KP := KP.trans K8 all0
  obtain ⟨b, gb⟩ : ∃ z, z = h0.size := ⟨_, rfl⟩
  rw [← gb] at V_b st8
  have ge_b : n0 ≤ b := gb ▸ Z0
  have ne_a_b : a ≠ b := Nat.ne_of_lt (Nat.lt_of_lt_of_le lt_a (Nat.le_of_eq gb.symm))
  have ne_r_b : r ≠ b := Nat.ne_of_lt (Nat.lt_of_lt_of_le lt_r (Nat.le_of_eq gb.symm))
  have sz0_b : h0.size ≤ b := Nat.le_of_eq gb.symm
  have R9 : ∀ t, Steps p.tables e below (T8.setTop (mkF m 31 #[.val (.ref a), .val (.long q), .second, .val (.ref b), .val (.int (2 : Int32))] [(.long q), (.int (2 : Int32)), (.ref b)])) t → Steps p.tables e below (s₁.setTop (entryFrame m #[(.ref a), (.long q)] 5)) t := by
    intro t k
    refine R7 t ?_
    show Steps p.tables e below (T4.setTop (mkF m 23 #[.val (.ref a), .val (.long q), .second, .val (.ref r), .val (.int (2 : Int32))] [(.int (4 : Int32)), (.ref r)])) _
    refine st8 _ ?_
    show Steps p.tables e below (T8.setTop (mkF m 26 #[.val (.ref a), .val (.long q), .second, .val (.ref r), .val (.int (2 : Int32))] [(.ref b)])) _
    refine XS.astoreN X8.here hx rfl (hb hby d3_26) rfl rfl (l' := #[.val (.ref a), .val (.long q), .second, .val (.ref b), .val (.int (2 : Int32))]) rfl ?_
    show Steps p.tables e below (T8.setTop (mkF m 27 #[.val (.ref a), .val (.long q), .second, .val (.ref b), .val (.int (2 : Int32))] [])) _
    refine XS.aloadN X8.here hx rfl (hb hby d3_27) rfl rfl ?_
    show Steps p.tables e below (T8.setTop (mkF m 28 #[.val (.ref a), .val (.long q), .second, .val (.ref b), .val (.int (2 : Int32))] [(.ref b)])) _
    refine XS.iload X8.here hx rfl (hb hby d3_28) rfl ?_
    show Steps p.tables e below (T8.setTop (mkF m 30 #[.val (.ref a), .val (.long q), .second, .val (.ref b), .val (.int (2 : Int32))] [(.int (2 : Int32)), (.ref b)])) _
    refine XS.lloadN X8.here hx rfl (hb hby d3_30) rfl ?_
    exact k
  obtain ⟨cl10, Ar10, Aq10, As10, An10, Ah10, Ag10⟩ := id V_b
  have hin10 : ¬ ((2 : Int32) < 0 ∨ cl10.slots.size ≤ ((2 : Int32)).toNatClampNeg) := inb_of As10 ⟨by decide, by decide⟩
  obtain ⟨T11, h11, X11, e11, W11, st11⟩ := stJ X8 hx hZ rfl Ar10 (j := (2 : Int32)) hin10 (g := (mkF m 31 #[.val (.ref a), .val (.long q), .second, .val (.ref b), .val (.int (2 : Int32))] [(.long q), (.int (2 : Int32)), (.ref b)])) rfl rfl (hb hby d3_31)
  have N11 := Fr.snoc X11 N8 ge_b
  have Sz11 := Nat.le_trans Sz8 (Keep.of_wr W11).1
  have E_a := E_a.wr W11
  have F_elements_a := F_elements_a.other W11 (Or.inl ne_a_b)
  have F_size_a := F_size_a.other W11 (Or.inl ne_a_b)
  have V_r := V_r.other W11 ne_r_b
  have V_b : Arv Z h11 b kc2 .long (4 : Int32) [(.long u0), (.long u1), (.long q), (.long (0 : Int64))] (.long (0 : Int64)) := Arv.set Ar10 Aq10 As10 An10 Ah10 Ag10 rfl W11 2 rfl (Nat.le_of_ble_eq_true rfl)
  have KP := KP.wr W11 (Or.inr sz0_b)
  have R12 : ∀ t, Steps p.tables e below (T11.setTop (mkF m 34 #[.val (.ref a), .val (.long q), .second, .val (.ref b), .val (.int (2 : Int32))] [(.ref b), (.ref a)])) t → Steps p.tables e below (s₁.setTop (entryFrame m #[(.ref a), (.long q)] 5)) t := by
    intro t k
    refine R9 t ?_
    show Steps p.tables e below (T8.setTop (mkF m 31 #[.val (.ref a), .val (.long q), .second, .val (.ref b), .val (.int (2 : Int32))] [(.long q), (.int (2 : Int32)), (.ref b)])) _
    refine st11 _ ?_
    show Steps p.tables e below (T11.setTop (mkF m 32 #[.val (.ref a), .val (.long q), .second, .val (.ref b), .val (.int (2 : Int32))] [])) _
    refine XS.aloadN X11.here hx rfl (hb hby d3_32) rfl rfl ?_
    show Steps p.tables e below (T11.setTop (mkF m 33 #[.val (.ref a), .val (.long q), .second, .val (.ref b), .val (.int (2 : Int32))] [(.ref a)])) _
    refine XS.aloadN X11.here hx rfl (hb hby d3_33) rfl rfl ?_
    exact k
  obtain ⟨T13, h13, X13, e13, W13, st13⟩ := putF X11 hx hZ hown (host := "") (Or.inl (hw _ (List.mem_of_getElem? (i := 10) rfl))) Via.refl e11 F_elements_a E_a (Or.inl (hw _ (List.mem_of_getElem? (i := 11) rfl))) (hw _ (List.mem_of_getElem? (i := 1) rfl)) (ty := (.array .long)) (by decide) rfl rfl (g := (mkF m 34 #[.val (.ref a), .val (.long q), .second, .val (.ref b), .val (.int (2 : Int32))] [(.ref b), (.ref a)])) rfl rfl (hb hby d3_34)
  have N13 := Fr.snoc X13 N11 ge_a
  have Sz13 := Nat.le_trans Sz11 (Keep.of_wr W13).1
  have E_a := E_a.wr W13
  have F_size_a := F_size_a.other W13 (Or.inr (slot_ne (Or.inl (hw _ (List.mem_of_getElem? (i := 18) rfl))) (Or.inl (hw _ (List.mem_of_getElem? (i := 11) rfl))) (by decide) (t := .int) (t' := (.array .long)) (by decide) (by decide)))
  have V_r := V_r.other W13 nra
  have V_b := V_b.other W13 ne_a_b.symm
  have F_elements_a := F_elements_a.same W13
  have KP := KP.wr W13 (Or.inl (List.mem_of_getElem? (i := 0) rfl))
  have R14 : ∀ t, Steps p.tables e below (T13.setTop (mkF m 42 #[.val (.ref a), .val (.long q), .second, .val (.ref b), .val (.int (2 : Int32))] [(.int (3 : Int32)), (.ref a)])) t → Steps p.tables e below (s₁.setTop (entryFrame m #[(.ref a), (.long q)] 5)) t := by
    intro t k
    refine R12 t ?_
    show Steps p.tables e below (T11.setTop (mkF m 34 #[.val (.ref a), .val (.long q), .second, .val (.ref b), .val (.int (2 : Int32))] [(.ref b), (.ref a)])) _
    refine st13 _ ?_
    show Steps p.tables e below (T13.setTop (mkF m 37 #[.val (.ref a), .val (.long q), .second, .val (.ref b), .val (.int (2 : Int32))] [])) _
    refine XS.aloadN X13.here hx rfl (hb hby d3_37) rfl rfl ?_
    show Steps p.tables e below (T13.setTop (mkF m 38 #[.val (.ref a), .val (.long q), .second, .val (.ref b), .val (.int (2 : Int32))] [(.ref a)])) _
    refine XS.iload X13.here hx rfl (hb hby d3_38) rfl ?_
    show Steps p.tables e below (T13.setTop (mkF m 40 #[.val (.ref a), .val (.long q), .second, .val (.ref b), .val (.int (2 : Int32))] [(.int (2 : Int32)), (.ref a)])) _
    refine XS.iconst X13.here hx rfl (hb hby d3_40) ?_
    show Steps p.tables e below (T13.setTop (mkF m 41 #[.val (.ref a), .val (.long q), .second, .val (.ref b), .val (.int (2 : Int32))] [(.int (1 : Int32)), (.int (2 : Int32)), (.ref a)])) _
    refine XS.iadd X13.here hx rfl (hb hby d3_41) rfl ?_
    exact k
  obtain ⟨T15, h15, X15, e15, W15, st15⟩ := putF X13 hx hZ hown (host := "") (Or.inl (hw _ (List.mem_of_getElem? (i := 17) rfl))) Via.refl e13 F_size_a E_a (Or.inl (hw _ (List.mem_of_getElem? (i := 18) rfl))) (hw _ (List.mem_of_getElem? (i := 1) rfl)) (ty := .int) (by decide) rfl rfl (g := (mkF m 42 #[.val (.ref a), .val (.long q), .second, .val (.ref b), .val (.int (2 : Int32))] [(.int (3 : Int32)), (.ref a)])) rfl rfl (hb hby d3_42)
  have N15 := Fr.snoc X15 N13 ge_a
  have Sz15 := Nat.le_trans Sz13 (Keep.of_wr W15).1
  have E_a := E_a.wr W15
  have F_elements_a := F_elements_a.other W15 (Or.inr (slot_ne (Or.inl (hw _ (List.mem_of_getElem? (i := 11) rfl))) (Or.inl (hw _ (List.mem_of_getElem? (i := 18) rfl))) (by decide) (t := (.array .long)) (t' := .int) (by decide) (by decide)))
  have V_r := V_r.other W15 nra
  have V_b := V_b.other W15 ne_a_b.symm
  have F_size_a := F_size_a.same W15
  have KP := KP.wr W15 (Or.inl (List.mem_of_getElem? (i := 0) rfl))
  have R16 : ∀ t, Steps p.tables e below (T15.setTop (mkF m 45 #[.val (.ref a), .val (.long q), .second, .val (.ref b), .val (.int (2 : Int32))] [])) t → Steps p.tables e below (s₁.setTop (entryFrame m #[(.ref a), (.long q)] 5)) t := by
    intro t k
    refine R14 t ?_
    show Steps p.tables e below (T13.setTop (mkF m 42 #[.val (.ref a), .val (.long q), .second, .val (.ref b), .val (.int (2 : Int32))] [(.int (3 : Int32)), (.ref a)])) _
    refine st15 _ ?_
    exact k
  obtain ⟨fs, hr, hrun, hended, hW, hsame⟩ := X15.leave (v := none) (fun _ => rfl)
  refine ⟨_, _, R16 _ ?_, hrun, hended, _, _, rfl, ?_, ⟨_, rfl⟩, hW, hsame.mono (by decide) (by decide)⟩
  · exact X15.returnOut hx Bd.returns (hb hby d3_45) hr
  · show Q3n2_2 Z a q r kc u0 u1 h0 n0 _ T15.heap _
    rw [e15]
    exact ⟨rfl, N15, ⟨kc2, KP, gb ▸ F_elements_a, F_size_a, gb ▸ V_b⟩⟩
theorem ef3n3_0 (m : MethodId) (x0 : Addr) (x1 : Int64) : entryFrame m #[(.ref x0), (.long x1)] 5 = mkF m 0 #[.val (.ref x0), .val (.long x1), .second, .unset, .unset] [] := by first | (simp [entryFrame, mkF, argsToLocals, Value.category]; done) | rfl
def Q3n3_0 (Z : State) (a : Addr) (q : Int64) (r : Addr) (kc : ClassId) (u0 : Int64) (u1 : Int64) (u2 : Int64) (h0 : Heap) (n0 : Nat) (v : Option Value) (h : Heap) (L : List Loc) : Prop := v = none ∧ Fr n0 L ∧ Keep h0 h [a, r] ∧ Fld Z h a "com/example/accesstrail/accesstrail/store/AppendOnlyLongs" "elements" "[J" (.ref r) ∧ Fld Z h a "com/example/accesstrail/accesstrail/store/AppendOnlyLongs" "size" "I" (.int (1 : Int32)) ∧ Arv Z h r kc .long (3 : Int32) [(.long q), (.long u1), (.long u2)] (.long (0 : Int64))
set_option maxRecDepth 65536 in
set_option maxHeartbeats 40000000 in
theorem rm3n3_0 (l : Launch) (Z : State) (a0 : Array Value) (hw : ∀ d ∈ tables_1, d.before a0 Z = true) (ws : List Jvm.Cond) (a : Addr) (q : Int64) (r : Addr) (kc : ClassId) (u0 : Int64) (u1 : Int64) (u2 : Int64) (h0 : Heap) (n0 : Nat) (Z0 : n0 ≤ h0.size) (E_a : Exa Z h0 a "com/example/accesstrail/accesstrail/store/AppendOnlyLongs") (F_elements_a : Fld Z h0 a "com/example/accesstrail/accesstrail/store/AppendOnlyLongs" "elements" "[J" (.ref r)) (F_size_a : Fld Z h0 a "com/example/accesstrail/accesstrail/store/AppendOnlyLongs" "size" "I" (.int (0 : Int32))) (V_r : Arv Z h0 r kc .long (3 : Int32) [(.long u0), (.long u1), (.long u2)] (.long (0 : Int64))) (ge_a : n0 ≤ a) (ge_r : n0 ≤ r) (nra : r ≠ a) :
    MetFree l (⟨"com/example/accesstrail/accesstrail/store/AppendOnlyLongs", "add", "(J)V"⟩ : MethodName) (head1 (Jvm.Cond.code (⟨"com/example/accesstrail/accesstrail/store/AppendOnlyLongs", "add", "(J)V"⟩ : MethodName) prog_33_method_2_code 5 none :: ws) ({ frames := 0, cells := 0, slots := 0, locals := 0 } : Room)) (fun zza zzU => zza = #[(.ref a), (.long q)] ∧ Z.Warmed39 zzU.vm ∧ zzU.heap = h0) (fun _ _ _ _ _ => True) (fun _ zzU zzo zzV => ∃ zzv zzL, zzo = .returned zzv ∧ Q3n3_0 Z a q r kc u0 u1 u2 h0 n0 zzv zzV.heap zzL ∧ FrameEnd zzU zzo zzV zzL ({ frames := 0, cells := 0, slots := 0, locals := 0 } : Room).cells ({ frames := 0, cells := 0, slots := 0, locals := 0 } : Room).slots) := by
  refine MetFree.of_bodySF (plainFor_of_name pn_1) hisR ?_
  intro p e s m args below meth c s₁ Bd hml0 hP hK
  obtain ⟨rfl, hZ, hh⟩ := hP
  have hx := Bd.exec
  have hby := Bd.bytes
  have hml : c.maxLocals = 5 := hml0
  have hown : s.vm.findClass "com/example/accesstrail/accesstrail/store/AppendOnlyLongs" = some m.cls := findClass_of_methodNamed Bd.named
  have hnm := (name_of_methodNamed Bd.named Bd.method).1
  have X0 : Stand p l e ({ frames := 0, cells := 0, slots := 0, locals := 0 } : Room) s m #[(.ref a), (.long q)] below meth c s₁ [] 0 0 := Stand.of_body Bd
  have e0 : s₁.heap = h0 := by rw [← hh, Bd.state]; rfl
  have N0 := Fr.nil n0
  have R0 : ∀ t, Steps p.tables e below (s₁.setTop (mkF m 0 #[.val (.ref a), .val (.long q), .second, .unset, .unset] [])) t → Steps p.tables e below (s₁.setTop (entryFrame m #[(.ref a), (.long q)] 5)) t := fun t k => castTop (ef3n3_0 m a q) k
  have KP := Keep.refl h0 [a, r]
  have R1 : ∀ t, Steps p.tables e below (s₁.setTop (mkF m 1 #[.val (.ref a), .val (.long q), .second, .unset, .unset] [(.ref a)])) t → Steps p.tables e below (s₁.setTop (entryFrame m #[(.ref a), (.long q)] 5)) t := by
    intro t k
    refine R0 t ?_
    show Steps p.tables e below (s₁.setTop (mkF m 0 #[.val (.ref a), .val (.long q), .second, .unset, .unset] [])) _
    refine XS.aloadN X0.here hx rfl (hb hby d3_0) rfl rfl ?_
    exact k
  obtain ⟨T2, X2, e2, st2⟩ := getF X0 hx hZ hown (host := "") (Or.inl (hw _ (List.mem_of_getElem? (i := 10) rfl))) Via.refl e0 F_elements_a (g := (mkF m 1 #[.val (.ref a), .val (.long q), .second, .unset, .unset] [(.ref a)])) rfl rfl (hb hby d3_1)
  have R3 : ∀ t, Steps p.tables e below (T2.setTop (mkF m 6 #[.val (.ref a), .val (.long q), .second, .val (.ref r), .unset] [(.ref a)])) t → Steps p.tables e below (s₁.setTop (entryFrame m #[(.ref a), (.long q)] 5)) t := by
    intro t k
    refine R1 t ?_
    show Steps p.tables e below (s₁.setTop (mkF m 1 #[.val (.ref a), .val (.long q), .second, .unset, .unset] [(.ref a)])) _
    refine st2 _ ?_
    show Steps p.tables e below (T2.setTop (mkF m 4 #[.val (.ref a), .val (.long q), .second, .unset, .unset] [(.ref r)])) _
    refine XS.astoreN X2.here hx rfl (hb hby d3_4) rfl rfl (l' := #[.val (.ref a), .val (.long q), .second, .val (.ref r), .unset]) rfl ?_
    show Steps p.tables e below (T2.setTop (mkF m 5 #[.val (.ref a), .val (.long q), .second, .val (.ref r), .unset] [])) _
    refine XS.aloadN X2.here hx rfl (hb hby d3_5) rfl rfl ?_
    exact k
  obtain ⟨T4, X4, e4, st4⟩ := getF X2 hx hZ hown (host := "") (Or.inl (hw _ (List.mem_of_getElem? (i := 17) rfl))) Via.refl e2 F_size_a (g := (mkF m 6 #[.val (.ref a), .val (.long q), .second, .val (.ref r), .unset] [(.ref a)])) rfl rfl (hb hby d3_6)
  have R5 : ∀ t, Steps p.tables e below (T4.setTop (mkF m 14 #[.val (.ref a), .val (.long q), .second, .val (.ref r), .val (.int (0 : Int32))] [(.ref r), (.int (0 : Int32))])) t → Steps p.tables e below (s₁.setTop (entryFrame m #[(.ref a), (.long q)] 5)) t := by
    intro t k
    refine R3 t ?_
    show Steps p.tables e below (T2.setTop (mkF m 6 #[.val (.ref a), .val (.long q), .second, .val (.ref r), .unset] [(.ref a)])) _
    refine st4 _ ?_
    show Steps p.tables e below (T4.setTop (mkF m 9 #[.val (.ref a), .val (.long q), .second, .val (.ref r), .unset] [(.int (0 : Int32))])) _
    refine XS.istore X4.here hx rfl (hb hby d3_9) rfl (l' := #[.val (.ref a), .val (.long q), .second, .val (.ref r), .val (.int (0 : Int32))]) rfl ?_
    show Steps p.tables e below (T4.setTop (mkF m 11 #[.val (.ref a), .val (.long q), .second, .val (.ref r), .val (.int (0 : Int32))] [])) _
    refine XS.iload X4.here hx rfl (hb hby d3_11) rfl ?_
    show Steps p.tables e below (T4.setTop (mkF m 13 #[.val (.ref a), .val (.long q), .second, .val (.ref r), .val (.int (0 : Int32))] [(.int (0 : Int32))])) _
    refine XS.aloadN X4.here hx rfl (hb hby d3_13) rfl rfl ?_
    exact k
  obtain ⟨cl6, Ar6, Aq6, As6, An6, Ah6, Ag6⟩ := id V_r
  have R7 : ∀ t, Steps p.tables e below (T4.setTop (mkF m 31 #[.val (.ref a), .val (.long q), .second, .val (.ref r), .val (.int (0 : Int32))] [(.long q), (.int (0 : Int32)), (.ref r)])) t → Steps p.tables e below (s₁.setTop (entryFrame m #[(.ref a), (.long q)] 5)) t := by
    intro t k
    refine R5 t ?_
    show Steps p.tables e below (T4.setTop (mkF m 14 #[.val (.ref a), .val (.long q), .second, .val (.ref r), .val (.int (0 : Int32))] [(.ref r), (.int (0 : Int32))])) _
    refine X4.arraylength hx (by rw [e4]; exact Ar6.1) (State.isArrayOf_alike hZ.alike Ar6.2.1) (g := (mkF m 14 #[.val (.ref a), .val (.long q), .second, .val (.ref r), .val (.int (0 : Int32))] [(.ref r), (.int (0 : Int32))])) rfl rfl (hb hby d3_14) _ ?_
    rw [len_of As6 An6]
    show Steps p.tables e below (T4.setTop (mkF m 15 #[.val (.ref a), .val (.long q), .second, .val (.ref r), .val (.int (0 : Int32))] [(.int (3 : Int32)), (.int (0 : Int32))])) _
    refine XS.icmpYes X4.here hx rfl (pc0 := 15) (pc' := 27) rfl (hb hby d3_15) rfl (feq (by decide)).2 (by decide) (by decide) ?_
    show Steps p.tables e below (T4.setTop (mkF m 27 #[.val (.ref a), .val (.long q), .second, .val (.ref r), .val (.int (0 : Int32))] [])) _
    refine XS.aloadN X4.here hx rfl (hb hby d3_27) rfl rfl ?_
    show Steps p.tables e below (T4.setTop (mkF m 28 #[.val (.ref a), .val (.long q), .second, .val (.ref r), .val (.int (0 : Int32))] [(.ref r)])) _
    refine XS.iload X4.here hx rfl (hb hby d3_28) rfl ?_
    show Steps p.tables e below (T4.setTop (mkF m 30 #[.val (.ref a), .val (.long q), .second, .val (.ref r), .val (.int (0 : Int32))] [(.int (0 : Int32)), (.ref r)])) _
    refine XS.lloadN X4.here hx rfl (hb hby d3_30) rfl ?_
    exact k
  obtain ⟨cl8, Ar8, Aq8, As8, An8, Ah8, Ag8⟩ := id V_r
  have hin8 : ¬ ((0 : Int32) < 0 ∨ cl8.slots.size ≤ ((0 : Int32)).toNatClampNeg) := inb_of As8 ⟨by decide, by decide⟩
  obtain ⟨T9, h9, X9, e9, W9, st9⟩ := stJ X4 hx hZ e4 Ar8 (j := (0 : Int32)) hin8 (g := (mkF m 31 #[.val (.ref a), .val (.long q), .second, .val (.ref r), .val (.int (0 : Int32))] [(.long q), (.int (0 : Int32)), (.ref r)])) rfl rfl (hb hby d3_31)
  have N9 := Fr.snoc X9 N0 ge_r
  have Sz9 := Nat.le_trans Z0 (Keep.of_wr W9).1
  have E_a := E_a.wr W9
  have F_elements_a := F_elements_a.other W9 (Or.inl nra.symm)
  have F_size_a := F_size_a.other W9 (Or.inl nra.symm)
  have V_r : Arv Z h9 r kc .long (3 : Int32) [(.long q), (.long u1), (.long u2)] (.long (0 : Int64)) := Arv.set Ar8 Aq8 As8 An8 Ah8 Ag8 rfl W9 0 rfl (Nat.le_of_ble_eq_true rfl)
  have KP := KP.wr W9 (Or.inl (List.mem_of_getElem? (i := 1) rfl))
  have R10 : ∀ t, Steps p.tables e below (T9.setTop (mkF m 34 #[.val (.ref a), .val (.long q), .second, .val (.ref r), .val (.int (0 : Int32))] [(.ref r), (.ref a)])) t → Steps p.tables e below (s₁.setTop (entryFrame m #[(.ref a), (.long q)] 5)) t := by
    intro t k
    refine R7 t ?_
    show Steps p.tables e below (T4.setTop (mkF m 31 #[.val (.ref a), .val (.long q), .second, .val (.ref r), .val (.int (0 : Int32))] [(.long q), (.int (0 : Int32)), (.ref r)])) _
    refine st9 _ ?_
    show Steps p.tables e below (T9.setTop (mkF m 32 #[.val (.ref a), .val (.long q), .second, .val (.ref r), .val (.int (0 : Int32))] [])) _
    refine XS.aloadN X9.here hx rfl (hb hby d3_32) rfl rfl ?_
    show Steps p.tables e below (T9.setTop (mkF m 33 #[.val (.ref a), .val (.long q), .second, .val (.ref r), .val (.int (0 : Int32))] [(.ref a)])) _
    refine XS.aloadN X9.here hx rfl (hb hby d3_33) rfl rfl ?_
    exact k
  obtain ⟨T11, h11, X11, e11, W11, st11⟩ := putF X9 hx hZ hown (host := "") (Or.inl (hw _ (List.mem_of_getElem? (i := 10) rfl))) Via.refl e9 F_elements_a E_a (Or.inl (hw _ (List.mem_of_getElem? (i := 11) rfl))) (hw _ (List.mem_of_getElem? (i := 1) rfl)) (ty := (.array .long)) (by decide) rfl rfl (g := (mkF m 34 #[.val (.ref a), .val (.long q), .second, .val (.ref r), .val (.int (0 : Int32))] [(.ref r), (.ref a)])) rfl rfl (hb hby d3_34)
  have N11 := Fr.snoc X11 N9 ge_a
  have Sz11 := Nat.le_trans Sz9 (Keep.of_wr W11).1
  have E_a := E_a.wr W11
  have F_size_a := F_size_a.other W11 (Or.inr (slot_ne (Or.inl (hw _ (List.mem_of_getElem? (i := 18) rfl))) (Or.inl (hw _ (List.mem_of_getElem? (i := 11) rfl))) (by decide) (t := .int) (t' := (.array .long)) (by decide) (by decide)))
  have V_r := V_r.other W11 nra
  have F_elements_a := F_elements_a.same W11
  have KP := KP.wr W11 (Or.inl (List.mem_of_getElem? (i := 0) rfl))
  have R12 : ∀ t, Steps p.tables e below (T11.setTop (mkF m 42 #[.val (.ref a), .val (.long q), .second, .val (.ref r), .val (.int (0 : Int32))] [(.int (1 : Int32)), (.ref a)])) t → Steps p.tables e below (s₁.setTop (entryFrame m #[(.ref a), (.long q)] 5)) t := by
    intro t k
    refine R10 t ?_
    show Steps p.tables e below (T9.setTop (mkF m 34 #[.val (.ref a), .val (.long q), .second, .val (.ref r), .val (.int (0 : Int32))] [(.ref r), (.ref a)])) _
    refine st11 _ ?_
    show Steps p.tables e below (T11.setTop (mkF m 37 #[.val (.ref a), .val (.long q), .second, .val (.ref r), .val (.int (0 : Int32))] [])) _
    refine XS.aloadN X11.here hx rfl (hb hby d3_37) rfl rfl ?_
    show Steps p.tables e below (T11.setTop (mkF m 38 #[.val (.ref a), .val (.long q), .second, .val (.ref r), .val (.int (0 : Int32))] [(.ref a)])) _
    refine XS.iload X11.here hx rfl (hb hby d3_38) rfl ?_
    show Steps p.tables e below (T11.setTop (mkF m 40 #[.val (.ref a), .val (.long q), .second, .val (.ref r), .val (.int (0 : Int32))] [(.int (0 : Int32)), (.ref a)])) _
    refine XS.iconst X11.here hx rfl (hb hby d3_40) ?_
    show Steps p.tables e below (T11.setTop (mkF m 41 #[.val (.ref a), .val (.long q), .second, .val (.ref r), .val (.int (0 : Int32))] [(.int (1 : Int32)), (.int (0 : Int32)), (.ref a)])) _
    refine XS.iadd X11.here hx rfl (hb hby d3_41) rfl ?_
    exact k
  obtain ⟨T13, h13, X13, e13, W13, st13⟩ := putF X11 hx hZ hown (host := "") (Or.inl (hw _ (List.mem_of_getElem? (i := 17) rfl))) Via.refl e11 F_size_a E_a (Or.inl (hw _ (List.mem_of_getElem? (i := 18) rfl))) (hw _ (List.mem_of_getElem? (i := 1) rfl)) (ty := .int) (by decide) rfl rfl (g := (mkF m 42 #[.val (.ref a), .val (.long q), .second, .val (.ref r), .val (.int (0 : Int32))] [(.int (1 : Int32)), (.ref a)])) rfl rfl (hb hby d3_42)
  have N13 := Fr.snoc X13 N11 ge_a
  have Sz13 := Nat.le_trans Sz11 (Keep.of_wr W13).1
  have E_a := E_a.wr W13
  have F_elements_a := F_elements_a.other W13 (Or.inr (slot_ne (Or.inl (hw _ (List.mem_of_getElem? (i := 11) rfl))) (Or.inl (hw _ (List.mem_of_getElem? (i := 18) rfl))) (by decide) (t := (.array .long)) (t' := .int) (by decide) (by decide)))
  have V_r := V_r.other W13 nra
  have F_size_a := F_size_a.same W13
  have KP := KP.wr W13 (Or.inl (List.mem_of_getElem? (i := 0) rfl))
  have R14 : ∀ t, Steps p.tables e below (T13.setTop (mkF m 45 #[.val (.ref a), .val (.long q), .second, .val (.ref r), .val (.int (0 : Int32))] [])) t → Steps p.tables e below (s₁.setTop (entryFrame m #[(.ref a), (.long q)] 5)) t := by
    intro t k
    refine R12 t ?_
    show Steps p.tables e below (T11.setTop (mkF m 42 #[.val (.ref a), .val (.long q), .second, .val (.ref r), .val (.int (0 : Int32))] [(.int (1 : Int32)), (.ref a)])) _
    refine st13 _ ?_
    exact k
  obtain ⟨fs, hr, hrun, hended, hW, hsame⟩ := X13.leave (v := none) (fun _ => rfl)
  refine ⟨_, _, R14 _ ?_, hrun, hended, _, _, rfl, ?_, ⟨_, rfl⟩, hW, hsame.mono (by decide) (by decide)⟩
  · exact X13.returnOut hx Bd.returns (hb hby d3_45) hr
  · show Q3n3_0 Z a q r kc u0 u1 u2 h0 n0 _ T13.heap _
    rw [e13]
    exact ⟨rfl, N13, KP, F_elements_a, F_size_a, V_r⟩
theorem ef3n3_1 (m : MethodId) (x0 : Addr) (x1 : Int64) : entryFrame m #[(.ref x0), (.long x1)] 5 = mkF m 0 #[.val (.ref x0), .val (.long x1), .second, .unset, .unset] [] := by first | (simp [entryFrame, mkF, argsToLocals, Value.category]; done) | rfl
def Q3n3_1 (Z : State) (a : Addr) (q : Int64) (r : Addr) (kc : ClassId) (u0 : Int64) (u1 : Int64) (u2 : Int64) (h0 : Heap) (n0 : Nat) (v : Option Value) (h : Heap) (L : List Loc) : Prop := v = none ∧ Fr n0 L ∧ Keep h0 h [a, r] ∧ Fld Z h a "com/example/accesstrail/accesstrail/store/AppendOnlyLongs" "elements" "[J" (.ref r) ∧ Fld Z h a "com/example/accesstrail/accesstrail/store/AppendOnlyLongs" "size" "I" (.int (2 : Int32)) ∧ Arv Z h r kc .long (3 : Int32) [(.long u0), (.long q), (.long u2)] (.long (0 : Int64))
set_option maxRecDepth 65536 in
set_option maxHeartbeats 40000000 in
theorem rm3n3_1 (l : Launch) (Z : State) (a0 : Array Value) (hw : ∀ d ∈ tables_1, d.before a0 Z = true) (ws : List Jvm.Cond) (a : Addr) (q : Int64) (r : Addr) (kc : ClassId) (u0 : Int64) (u1 : Int64) (u2 : Int64) (h0 : Heap) (n0 : Nat) (Z0 : n0 ≤ h0.size) (E_a : Exa Z h0 a "com/example/accesstrail/accesstrail/store/AppendOnlyLongs") (F_elements_a : Fld Z h0 a "com/example/accesstrail/accesstrail/store/AppendOnlyLongs" "elements" "[J" (.ref r)) (F_size_a : Fld Z h0 a "com/example/accesstrail/accesstrail/store/AppendOnlyLongs" "size" "I" (.int (1 : Int32))) (V_r : Arv Z h0 r kc .long (3 : Int32) [(.long u0), (.long u1), (.long u2)] (.long (0 : Int64))) (ge_a : n0 ≤ a) (ge_r : n0 ≤ r) (nra : r ≠ a) :
    MetFree l (⟨"com/example/accesstrail/accesstrail/store/AppendOnlyLongs", "add", "(J)V"⟩ : MethodName) (head1 (Jvm.Cond.code (⟨"com/example/accesstrail/accesstrail/store/AppendOnlyLongs", "add", "(J)V"⟩ : MethodName) prog_33_method_2_code 5 none :: ws) ({ frames := 0, cells := 0, slots := 0, locals := 0 } : Room)) (fun zza zzU => zza = #[(.ref a), (.long q)] ∧ Z.Warmed39 zzU.vm ∧ zzU.heap = h0) (fun _ _ _ _ _ => True) (fun _ zzU zzo zzV => ∃ zzv zzL, zzo = .returned zzv ∧ Q3n3_1 Z a q r kc u0 u1 u2 h0 n0 zzv zzV.heap zzL ∧ FrameEnd zzU zzo zzV zzL ({ frames := 0, cells := 0, slots := 0, locals := 0 } : Room).cells ({ frames := 0, cells := 0, slots := 0, locals := 0 } : Room).slots) := by
  refine MetFree.of_bodySF (plainFor_of_name pn_1) hisR ?_
  intro p e s m args below meth c s₁ Bd hml0 hP hK
  obtain ⟨rfl, hZ, hh⟩ := hP
  have hx := Bd.exec
  have hby := Bd.bytes
  have hml : c.maxLocals = 5 := hml0
  have hown : s.vm.findClass "com/example/accesstrail/accesstrail/store/AppendOnlyLongs" = some m.cls := findClass_of_methodNamed Bd.named
  have hnm := (name_of_methodNamed Bd.named Bd.method).1
  have X0 : Stand p l e ({ frames := 0, cells := 0, slots := 0, locals := 0 } : Room) s m #[(.ref a), (.long q)] below meth c s₁ [] 0 0 := Stand.of_body Bd
  have e0 : s₁.heap = h0 := by rw [← hh, Bd.state]; rfl
  have N0 := Fr.nil n0
  have R0 : ∀ t, Steps p.tables e below (s₁.setTop (mkF m 0 #[.val (.ref a), .val (.long q), .second, .unset, .unset] [])) t → Steps p.tables e below (s₁.setTop (entryFrame m #[(.ref a), (.long q)] 5)) t := fun t k => castTop (ef3n3_1 m a q) k
  have KP := Keep.refl h0 [a, r]
  have R1 : ∀ t, Steps p.tables e below (s₁.setTop (mkF m 1 #[.val (.ref a), .val (.long q), .second, .unset, .unset] [(.ref a)])) t → Steps p.tables e below (s₁.setTop (entryFrame m #[(.ref a), (.long q)] 5)) t := by
    intro t k
    refine R0 t ?_
    show Steps p.tables e below (s₁.setTop (mkF m 0 #[.val (.ref a), .val (.long q), .second, .unset, .unset] [])) _
    refine XS.aloadN X0.here hx rfl (hb hby d3_0) rfl rfl ?_
    exact k
  obtain ⟨T2, X2, e2, st2⟩ := getF X0 hx hZ hown (host := "") (Or.inl (hw _ (List.mem_of_getElem? (i := 10) rfl))) Via.refl e0 F_elements_a (g := (mkF m 1 #[.val (.ref a), .val (.long q), .second, .unset, .unset] [(.ref a)])) rfl rfl (hb hby d3_1)
  have R3 : ∀ t, Steps p.tables e below (T2.setTop (mkF m 6 #[.val (.ref a), .val (.long q), .second, .val (.ref r), .unset] [(.ref a)])) t → Steps p.tables e below (s₁.setTop (entryFrame m #[(.ref a), (.long q)] 5)) t := by
    intro t k
    refine R1 t ?_
    show Steps p.tables e below (s₁.setTop (mkF m 1 #[.val (.ref a), .val (.long q), .second, .unset, .unset] [(.ref a)])) _
    refine st2 _ ?_
    show Steps p.tables e below (T2.setTop (mkF m 4 #[.val (.ref a), .val (.long q), .second, .unset, .unset] [(.ref r)])) _
    refine XS.astoreN X2.here hx rfl (hb hby d3_4) rfl rfl (l' := #[.val (.ref a), .val (.long q), .second, .val (.ref r), .unset]) rfl ?_
    show Steps p.tables e below (T2.setTop (mkF m 5 #[.val (.ref a), .val (.long q), .second, .val (.ref r), .unset] [])) _
    refine XS.aloadN X2.here hx rfl (hb hby d3_5) rfl rfl ?_
    exact k
  obtain ⟨T4, X4, e4, st4⟩ := getF X2 hx hZ hown (host := "") (Or.inl (hw _ (List.mem_of_getElem? (i := 17) rfl))) Via.refl e2 F_size_a (g := (mkF m 6 #[.val (.ref a), .val (.long q), .second, .val (.ref r), .unset] [(.ref a)])) rfl rfl (hb hby d3_6)
  have R5 : ∀ t, Steps p.tables e below (T4.setTop (mkF m 14 #[.val (.ref a), .val (.long q), .second, .val (.ref r), .val (.int (1 : Int32))] [(.ref r), (.int (1 : Int32))])) t → Steps p.tables e below (s₁.setTop (entryFrame m #[(.ref a), (.long q)] 5)) t := by
    intro t k
    refine R3 t ?_
    show Steps p.tables e below (T2.setTop (mkF m 6 #[.val (.ref a), .val (.long q), .second, .val (.ref r), .unset] [(.ref a)])) _
    refine st4 _ ?_
    show Steps p.tables e below (T4.setTop (mkF m 9 #[.val (.ref a), .val (.long q), .second, .val (.ref r), .unset] [(.int (1 : Int32))])) _
    refine XS.istore X4.here hx rfl (hb hby d3_9) rfl (l' := #[.val (.ref a), .val (.long q), .second, .val (.ref r), .val (.int (1 : Int32))]) rfl ?_
    show Steps p.tables e below (T4.setTop (mkF m 11 #[.val (.ref a), .val (.long q), .second, .val (.ref r), .val (.int (1 : Int32))] [])) _
    refine XS.iload X4.here hx rfl (hb hby d3_11) rfl ?_
    show Steps p.tables e below (T4.setTop (mkF m 13 #[.val (.ref a), .val (.long q), .second, .val (.ref r), .val (.int (1 : Int32))] [(.int (1 : Int32))])) _
    refine XS.aloadN X4.here hx rfl (hb hby d3_13) rfl rfl ?_
    exact k
  obtain ⟨cl6, Ar6, Aq6, As6, An6, Ah6, Ag6⟩ := id V_r
  have R7 : ∀ t, Steps p.tables e below (T4.setTop (mkF m 31 #[.val (.ref a), .val (.long q), .second, .val (.ref r), .val (.int (1 : Int32))] [(.long q), (.int (1 : Int32)), (.ref r)])) t → Steps p.tables e below (s₁.setTop (entryFrame m #[(.ref a), (.long q)] 5)) t := by
    intro t k
    refine R5 t ?_
    show Steps p.tables e below (T4.setTop (mkF m 14 #[.val (.ref a), .val (.long q), .second, .val (.ref r), .val (.int (1 : Int32))] [(.ref r), (.int (1 : Int32))])) _
    refine X4.arraylength hx (by rw [e4]; exact Ar6.1) (State.isArrayOf_alike hZ.alike Ar6.2.1) (g := (mkF m 14 #[.val (.ref a), .val (.long q), .second, .val (.ref r), .val (.int (1 : Int32))] [(.ref r), (.int (1 : Int32))])) rfl rfl (hb hby d3_14) _ ?_
    rw [len_of As6 An6]
    show Steps p.tables e below (T4.setTop (mkF m 15 #[.val (.ref a), .val (.long q), .second, .val (.ref r), .val (.int (1 : Int32))] [(.int (3 : Int32)), (.int (1 : Int32))])) _
    refine XS.icmpYes X4.here hx rfl (pc0 := 15) (pc' := 27) rfl (hb hby d3_15) rfl (feq (by decide)).2 (by decide) (by decide) ?_
    show Steps p.tables e below (T4.setTop (mkF m 27 #[.val (.ref a), .val (.long q), .second, .val (.ref r), .val (.int (1 : Int32))] [])) _
    refine XS.aloadN X4.here hx rfl (hb hby d3_27) rfl rfl ?_
    show Steps p.tables e below (T4.setTop (mkF m 28 #[.val (.ref a), .val (.long q), .second, .val (.ref r), .val (.int (1 : Int32))] [(.ref r)])) _
    refine XS.iload X4.here hx rfl (hb hby d3_28) rfl ?_
    show Steps p.tables e below (T4.setTop (mkF m 30 #[.val (.ref a), .val (.long q), .second, .val (.ref r), .val (.int (1 : Int32))] [(.int (1 : Int32)), (.ref r)])) _
    refine XS.lloadN X4.here hx rfl (hb hby d3_30) rfl ?_
    exact k
  obtain ⟨cl8, Ar8, Aq8, As8, An8, Ah8, Ag8⟩ := id V_r
  have hin8 : ¬ ((1 : Int32) < 0 ∨ cl8.slots.size ≤ ((1 : Int32)).toNatClampNeg) := inb_of As8 ⟨by decide, by decide⟩
  obtain ⟨T9, h9, X9, e9, W9, st9⟩ := stJ X4 hx hZ e4 Ar8 (j := (1 : Int32)) hin8 (g := (mkF m 31 #[.val (.ref a), .val (.long q), .second, .val (.ref r), .val (.int (1 : Int32))] [(.long q), (.int (1 : Int32)), (.ref r)])) rfl rfl (hb hby d3_31)
  have N9 := Fr.snoc X9 N0 ge_r
  have Sz9 := Nat.le_trans Z0 (Keep.of_wr W9).1
  have E_a := E_a.wr W9
  have F_elements_a := F_elements_a.other W9 (Or.inl nra.symm)
  have F_size_a := F_size_a.other W9 (Or.inl nra.symm)
  have V_r : Arv Z h9 r kc .long (3 : Int32) [(.long u0), (.long q), (.long u2)] (.long (0 : Int64)) := Arv.set Ar8 Aq8 As8 An8 Ah8 Ag8 rfl W9 1 rfl (Nat.le_of_ble_eq_true rfl)
  have KP := KP.wr W9 (Or.inl (List.mem_of_getElem? (i := 1) rfl))
  have R10 : ∀ t, Steps p.tables e below (T9.setTop (mkF m 34 #[.val (.ref a), .val (.long q), .second, .val (.ref r), .val (.int (1 : Int32))] [(.ref r), (.ref a)])) t → Steps p.tables e below (s₁.setTop (entryFrame m #[(.ref a), (.long q)] 5)) t := by
    intro t k
    refine R7 t ?_
    show Steps p.tables e below (T4.setTop (mkF m 31 #[.val (.ref a), .val (.long q), .second, .val (.ref r), .val (.int (1 : Int32))] [(.long q), (.int (1 : Int32)), (.ref r)])) _
    refine st9 _ ?_
    show Steps p.tables e below (T9.setTop (mkF m 32 #[.val (.ref a), .val (.long q), .second, .val (.ref r), .val (.int (1 : Int32))] [])) _
    refine XS.aloadN X9.here hx rfl (hb hby d3_32) rfl rfl ?_
    show Steps p.tables e below (T9.setTop (mkF m 33 #[.val (.ref a), .val (.long q), .second, .val (.ref r), .val (.int (1 : Int32))] [(.ref a)])) _
    refine XS.aloadN X9.here hx rfl (hb hby d3_33) rfl rfl ?_
    exact k
  obtain ⟨T11, h11, X11, e11, W11, st11⟩ := putF X9 hx hZ hown (host := "") (Or.inl (hw _ (List.mem_of_getElem? (i := 10) rfl))) Via.refl e9 F_elements_a E_a (Or.inl (hw _ (List.mem_of_getElem? (i := 11) rfl))) (hw _ (List.mem_of_getElem? (i := 1) rfl)) (ty := (.array .long)) (by decide) rfl rfl (g := (mkF m 34 #[.val (.ref a), .val (.long q), .second, .val (.ref r), .val (.int (1 : Int32))] [(.ref r), (.ref a)])) rfl rfl (hb hby d3_34)
  have N11 := Fr.snoc X11 N9 ge_a
  have Sz11 := Nat.le_trans Sz9 (Keep.of_wr W11).1
  have E_a := E_a.wr W11
  have F_size_a := F_size_a.other W11 (Or.inr (slot_ne (Or.inl (hw _ (List.mem_of_getElem? (i := 18) rfl))) (Or.inl (hw _ (List.mem_of_getElem? (i := 11) rfl))) (by decide) (t := .int) (t' := (.array .long)) (by decide) (by decide)))
  have V_r := V_r.other W11 nra
  have F_elements_a := F_elements_a.same W11
  have KP := KP.wr W11 (Or.inl (List.mem_of_getElem? (i := 0) rfl))
  have R12 : ∀ t, Steps p.tables e below (T11.setTop (mkF m 42 #[.val (.ref a), .val (.long q), .second, .val (.ref r), .val (.int (1 : Int32))] [(.int (2 : Int32)), (.ref a)])) t → Steps p.tables e below (s₁.setTop (entryFrame m #[(.ref a), (.long q)] 5)) t := by
    intro t k
    refine R10 t ?_
    show Steps p.tables e below (T9.setTop (mkF m 34 #[.val (.ref a), .val (.long q), .second, .val (.ref r), .val (.int (1 : Int32))] [(.ref r), (.ref a)])) _
    refine st11 _ ?_
    show Steps p.tables e below (T11.setTop (mkF m 37 #[.val (.ref a), .val (.long q), .second, .val (.ref r), .val (.int (1 : Int32))] [])) _
    refine XS.aloadN X11.here hx rfl (hb hby d3_37) rfl rfl ?_
    show Steps p.tables e below (T11.setTop (mkF m 38 #[.val (.ref a), .val (.long q), .second, .val (.ref r), .val (.int (1 : Int32))] [(.ref a)])) _
    refine XS.iload X11.here hx rfl (hb hby d3_38) rfl ?_
    show Steps p.tables e below (T11.setTop (mkF m 40 #[.val (.ref a), .val (.long q), .second, .val (.ref r), .val (.int (1 : Int32))] [(.int (1 : Int32)), (.ref a)])) _
    refine XS.iconst X11.here hx rfl (hb hby d3_40) ?_
    show Steps p.tables e below (T11.setTop (mkF m 41 #[.val (.ref a), .val (.long q), .second, .val (.ref r), .val (.int (1 : Int32))] [(.int (1 : Int32)), (.int (1 : Int32)), (.ref a)])) _
    refine XS.iadd X11.here hx rfl (hb hby d3_41) rfl ?_
    exact k
  obtain ⟨T13, h13, X13, e13, W13, st13⟩ := putF X11 hx hZ hown (host := "") (Or.inl (hw _ (List.mem_of_getElem? (i := 17) rfl))) Via.refl e11 F_size_a E_a (Or.inl (hw _ (List.mem_of_getElem? (i := 18) rfl))) (hw _ (List.mem_of_getElem? (i := 1) rfl)) (ty := .int) (by decide) rfl rfl (g := (mkF m 42 #[.val (.ref a), .val (.long q), .second, .val (.ref r), .val (.int (1 : Int32))] [(.int (2 : Int32)), (.ref a)])) rfl rfl (hb hby d3_42)
  have N13 := Fr.snoc X13 N11 ge_a
  have Sz13 := Nat.le_trans Sz11 (Keep.of_wr W13).1
  have E_a := E_a.wr W13
  have F_elements_a := F_elements_a.other W13 (Or.inr (slot_ne (Or.inl (hw _ (List.mem_of_getElem? (i := 11) rfl))) (Or.inl (hw _ (List.mem_of_getElem? (i := 18) rfl))) (by decide) (t := (.array .long)) (t' := .int) (by decide) (by decide)))
  have V_r := V_r.other W13 nra
  have F_size_a := F_size_a.same W13
  have KP := KP.wr W13 (Or.inl (List.mem_of_getElem? (i := 0) rfl))
  have R14 : ∀ t, Steps p.tables e below (T13.setTop (mkF m 45 #[.val (.ref a), .val (.long q), .second, .val (.ref r), .val (.int (1 : Int32))] [])) t → Steps p.tables e below (s₁.setTop (entryFrame m #[(.ref a), (.long q)] 5)) t := by
    intro t k
    refine R12 t ?_
    show Steps p.tables e below (T11.setTop (mkF m 42 #[.val (.ref a), .val (.long q), .second, .val (.ref r), .val (.int (1 : Int32))] [(.int (2 : Int32)), (.ref a)])) _
    refine st13 _ ?_
    exact k
  obtain ⟨fs, hr, hrun, hended, hW, hsame⟩ := X13.leave (v := none) (fun _ => rfl)
  refine ⟨_, _, R14 _ ?_, hrun, hended, _, _, rfl, ?_, ⟨_, rfl⟩, hW, hsame.mono (by decide) (by decide)⟩
  · exact X13.returnOut hx Bd.returns (hb hby d3_45) hr
  · show Q3n3_1 Z a q r kc u0 u1 u2 h0 n0 _ T13.heap _
    rw [e13]
    exact ⟨rfl, N13, KP, F_elements_a, F_size_a, V_r⟩
theorem ef3n3_2 (m : MethodId) (x0 : Addr) (x1 : Int64) : entryFrame m #[(.ref x0), (.long x1)] 5 = mkF m 0 #[.val (.ref x0), .val (.long x1), .second, .unset, .unset] [] := by first | (simp [entryFrame, mkF, argsToLocals, Value.category]; done) | rfl
def Q3n3_2 (Z : State) (a : Addr) (q : Int64) (r : Addr) (kc : ClassId) (u0 : Int64) (u1 : Int64) (u2 : Int64) (h0 : Heap) (n0 : Nat) (v : Option Value) (h : Heap) (L : List Loc) : Prop := v = none ∧ Fr n0 L ∧ Keep h0 h [a, r] ∧ Fld Z h a "com/example/accesstrail/accesstrail/store/AppendOnlyLongs" "elements" "[J" (.ref r) ∧ Fld Z h a "com/example/accesstrail/accesstrail/store/AppendOnlyLongs" "size" "I" (.int (3 : Int32)) ∧ Arv Z h r kc .long (3 : Int32) [(.long u0), (.long u1), (.long q)] (.long (0 : Int64))
set_option maxRecDepth 65536 in
set_option maxHeartbeats 40000000 in
theorem rm3n3_2 (l : Launch) (Z : State) (a0 : Array Value) (hw : ∀ d ∈ tables_1, d.before a0 Z = true) (ws : List Jvm.Cond) (a : Addr) (q : Int64) (r : Addr) (kc : ClassId) (u0 : Int64) (u1 : Int64) (u2 : Int64) (h0 : Heap) (n0 : Nat) (Z0 : n0 ≤ h0.size) (E_a : Exa Z h0 a "com/example/accesstrail/accesstrail/store/AppendOnlyLongs") (F_elements_a : Fld Z h0 a "com/example/accesstrail/accesstrail/store/AppendOnlyLongs" "elements" "[J" (.ref r)) (F_size_a : Fld Z h0 a "com/example/accesstrail/accesstrail/store/AppendOnlyLongs" "size" "I" (.int (2 : Int32))) (V_r : Arv Z h0 r kc .long (3 : Int32) [(.long u0), (.long u1), (.long u2)] (.long (0 : Int64))) (ge_a : n0 ≤ a) (ge_r : n0 ≤ r) (nra : r ≠ a) :
    MetFree l (⟨"com/example/accesstrail/accesstrail/store/AppendOnlyLongs", "add", "(J)V"⟩ : MethodName) (head1 (Jvm.Cond.code (⟨"com/example/accesstrail/accesstrail/store/AppendOnlyLongs", "add", "(J)V"⟩ : MethodName) prog_33_method_2_code 5 none :: ws) ({ frames := 0, cells := 0, slots := 0, locals := 0 } : Room)) (fun zza zzU => zza = #[(.ref a), (.long q)] ∧ Z.Warmed39 zzU.vm ∧ zzU.heap = h0) (fun _ _ _ _ _ => True) (fun _ zzU zzo zzV => ∃ zzv zzL, zzo = .returned zzv ∧ Q3n3_2 Z a q r kc u0 u1 u2 h0 n0 zzv zzV.heap zzL ∧ FrameEnd zzU zzo zzV zzL ({ frames := 0, cells := 0, slots := 0, locals := 0 } : Room).cells ({ frames := 0, cells := 0, slots := 0, locals := 0 } : Room).slots) := by
  refine MetFree.of_bodySF (plainFor_of_name pn_1) hisR ?_
  intro p e s m args below meth c s₁ Bd hml0 hP hK
  obtain ⟨rfl, hZ, hh⟩ := hP
  have hx := Bd.exec
  have hby := Bd.bytes
  have hml : c.maxLocals = 5 := hml0
  have hown : s.vm.findClass "com/example/accesstrail/accesstrail/store/AppendOnlyLongs" = some m.cls := findClass_of_methodNamed Bd.named
  have hnm := (name_of_methodNamed Bd.named Bd.method).1
  have X0 : Stand p l e ({ frames := 0, cells := 0, slots := 0, locals := 0 } : Room) s m #[(.ref a), (.long q)] below meth c s₁ [] 0 0 := Stand.of_body Bd
  have e0 : s₁.heap = h0 := by rw [← hh, Bd.state]; rfl
  have N0 := Fr.nil n0
  have R0 : ∀ t, Steps p.tables e below (s₁.setTop (mkF m 0 #[.val (.ref a), .val (.long q), .second, .unset, .unset] [])) t → Steps p.tables e below (s₁.setTop (entryFrame m #[(.ref a), (.long q)] 5)) t := fun t k => castTop (ef3n3_2 m a q) k
  have KP := Keep.refl h0 [a, r]
  have R1 : ∀ t, Steps p.tables e below (s₁.setTop (mkF m 1 #[.val (.ref a), .val (.long q), .second, .unset, .unset] [(.ref a)])) t → Steps p.tables e below (s₁.setTop (entryFrame m #[(.ref a), (.long q)] 5)) t := by
    intro t k
    refine R0 t ?_
    show Steps p.tables e below (s₁.setTop (mkF m 0 #[.val (.ref a), .val (.long q), .second, .unset, .unset] [])) _
    refine XS.aloadN X0.here hx rfl (hb hby d3_0) rfl rfl ?_
    exact k
  obtain ⟨T2, X2, e2, st2⟩ := getF X0 hx hZ hown (host := "") (Or.inl (hw _ (List.mem_of_getElem? (i := 10) rfl))) Via.refl e0 F_elements_a (g := (mkF m 1 #[.val (.ref a), .val (.long q), .second, .unset, .unset] [(.ref a)])) rfl rfl (hb hby d3_1)
  have R3 : ∀ t, Steps p.tables e below (T2.setTop (mkF m 6 #[.val (.ref a), .val (.long q), .second, .val (.ref r), .unset] [(.ref a)])) t → Steps p.tables e below (s₁.setTop (entryFrame m #[(.ref a), (.long q)] 5)) t := by
    intro t k
    refine R1 t ?_
    show Steps p.tables e below (s₁.setTop (mkF m 1 #[.val (.ref a), .val (.long q), .second, .unset, .unset] [(.ref a)])) _
    refine st2 _ ?_
    show Steps p.tables e below (T2.setTop (mkF m 4 #[.val (.ref a), .val (.long q), .second, .unset, .unset] [(.ref r)])) _
    refine XS.astoreN X2.here hx rfl (hb hby d3_4) rfl rfl (l' := #[.val (.ref a), .val (.long q), .second, .val (.ref r), .unset]) rfl ?_
    show Steps p.tables e below (T2.setTop (mkF m 5 #[.val (.ref a), .val (.long q), .second, .val (.ref r), .unset] [])) _
    refine XS.aloadN X2.here hx rfl (hb hby d3_5) rfl rfl ?_
    exact k
  obtain ⟨T4, X4, e4, st4⟩ := getF X2 hx hZ hown (host := "") (Or.inl (hw _ (List.mem_of_getElem? (i := 17) rfl))) Via.refl e2 F_size_a (g := (mkF m 6 #[.val (.ref a), .val (.long q), .second, .val (.ref r), .unset] [(.ref a)])) rfl rfl (hb hby d3_6)
  have R5 : ∀ t, Steps p.tables e below (T4.setTop (mkF m 14 #[.val (.ref a), .val (.long q), .second, .val (.ref r), .val (.int (2 : Int32))] [(.ref r), (.int (2 : Int32))])) t → Steps p.tables e below (s₁.setTop (entryFrame m #[(.ref a), (.long q)] 5)) t := by
    intro t k
    refine R3 t ?_
    show Steps p.tables e below (T2.setTop (mkF m 6 #[.val (.ref a), .val (.long q), .second, .val (.ref r), .unset] [(.ref a)])) _
    refine st4 _ ?_
    show Steps p.tables e below (T4.setTop (mkF m 9 #[.val (.ref a), .val (.long q), .second, .val (.ref r), .unset] [(.int (2 : Int32))])) _
    refine XS.istore X4.here hx rfl (hb hby d3_9) rfl (l' := #[.val (.ref a), .val (.long q), .second, .val (.ref r), .val (.int (2 : Int32))]) rfl ?_
    show Steps p.tables e below (T4.setTop (mkF m 11 #[.val (.ref a), .val (.long q), .second, .val (.ref r), .val (.int (2 : Int32))] [])) _
    refine XS.iload X4.here hx rfl (hb hby d3_11) rfl ?_
    show Steps p.tables e below (T4.setTop (mkF m 13 #[.val (.ref a), .val (.long q), .second, .val (.ref r), .val (.int (2 : Int32))] [(.int (2 : Int32))])) _
    refine XS.aloadN X4.here hx rfl (hb hby d3_13) rfl rfl ?_
    exact k
  obtain ⟨cl6, Ar6, Aq6, As6, An6, Ah6, Ag6⟩ := id V_r
  have R7 : ∀ t, Steps p.tables e below (T4.setTop (mkF m 31 #[.val (.ref a), .val (.long q), .second, .val (.ref r), .val (.int (2 : Int32))] [(.long q), (.int (2 : Int32)), (.ref r)])) t → Steps p.tables e below (s₁.setTop (entryFrame m #[(.ref a), (.long q)] 5)) t := by
    intro t k
    refine R5 t ?_
    show Steps p.tables e below (T4.setTop (mkF m 14 #[.val (.ref a), .val (.long q), .second, .val (.ref r), .val (.int (2 : Int32))] [(.ref r), (.int (2 : Int32))])) _
    refine X4.arraylength hx (by rw [e4]; exact Ar6.1) (State.isArrayOf_alike hZ.alike Ar6.2.1) (g := (mkF m 14 #[.val (.ref a), .val (.long q), .second, .val (.ref r), .val (.int (2 : Int32))] [(.ref r), (.int (2 : Int32))])) rfl rfl (hb hby d3_14) _ ?_
    rw [len_of As6 An6]
    show Steps p.tables e below (T4.setTop (mkF m 15 #[.val (.ref a), .val (.long q), .second, .val (.ref r), .val (.int (2 : Int32))] [(.int (3 : Int32)), (.int (2 : Int32))])) _
    refine XS.icmpYes X4.here hx rfl (pc0 := 15) (pc' := 27) rfl (hb hby d3_15) rfl (feq (by decide)).2 (by decide) (by decide) ?_
    show Steps p.tables e below (T4.setTop (mkF m 27 #[.val (.ref a), .val (.long q), .second, .val (.ref r), .val (.int (2 : Int32))] [])) _
    refine XS.aloadN X4.here hx rfl (hb hby d3_27) rfl rfl ?_
    show Steps p.tables e below (T4.setTop (mkF m 28 #[.val (.ref a), .val (.long q), .second, .val (.ref r), .val (.int (2 : Int32))] [(.ref r)])) _
    refine XS.iload X4.here hx rfl (hb hby d3_28) rfl ?_
    show Steps p.tables e below (T4.setTop (mkF m 30 #[.val (.ref a), .val (.long q), .second, .val (.ref r), .val (.int (2 : Int32))] [(.int (2 : Int32)), (.ref r)])) _
    refine XS.lloadN X4.here hx rfl (hb hby d3_30) rfl ?_
    exact k
  obtain ⟨cl8, Ar8, Aq8, As8, An8, Ah8, Ag8⟩ := id V_r
  have hin8 : ¬ ((2 : Int32) < 0 ∨ cl8.slots.size ≤ ((2 : Int32)).toNatClampNeg) := inb_of As8 ⟨by decide, by decide⟩
  obtain ⟨T9, h9, X9, e9, W9, st9⟩ := stJ X4 hx hZ e4 Ar8 (j := (2 : Int32)) hin8 (g := (mkF m 31 #[.val (.ref a), .val (.long q), .second, .val (.ref r), .val (.int (2 : Int32))] [(.long q), (.int (2 : Int32)), (.ref r)])) rfl rfl (hb hby d3_31)
  have N9 := Fr.snoc X9 N0 ge_r
  have Sz9 := Nat.le_trans Z0 (Keep.of_wr W9).1
  have E_a := E_a.wr W9
  have F_elements_a := F_elements_a.other W9 (Or.inl nra.symm)
  have F_size_a := F_size_a.other W9 (Or.inl nra.symm)
  have V_r : Arv Z h9 r kc .long (3 : Int32) [(.long u0), (.long u1), (.long q)] (.long (0 : Int64)) := Arv.set Ar8 Aq8 As8 An8 Ah8 Ag8 rfl W9 2 rfl (Nat.le_of_ble_eq_true rfl)
  have KP := KP.wr W9 (Or.inl (List.mem_of_getElem? (i := 1) rfl))
  have R10 : ∀ t, Steps p.tables e below (T9.setTop (mkF m 34 #[.val (.ref a), .val (.long q), .second, .val (.ref r), .val (.int (2 : Int32))] [(.ref r), (.ref a)])) t → Steps p.tables e below (s₁.setTop (entryFrame m #[(.ref a), (.long q)] 5)) t := by
    intro t k
    refine R7 t ?_
    show Steps p.tables e below (T4.setTop (mkF m 31 #[.val (.ref a), .val (.long q), .second, .val (.ref r), .val (.int (2 : Int32))] [(.long q), (.int (2 : Int32)), (.ref r)])) _
    refine st9 _ ?_
    show Steps p.tables e below (T9.setTop (mkF m 32 #[.val (.ref a), .val (.long q), .second, .val (.ref r), .val (.int (2 : Int32))] [])) _
    refine XS.aloadN X9.here hx rfl (hb hby d3_32) rfl rfl ?_
    show Steps p.tables e below (T9.setTop (mkF m 33 #[.val (.ref a), .val (.long q), .second, .val (.ref r), .val (.int (2 : Int32))] [(.ref a)])) _
    refine XS.aloadN X9.here hx rfl (hb hby d3_33) rfl rfl ?_
    exact k
  obtain ⟨T11, h11, X11, e11, W11, st11⟩ := putF X9 hx hZ hown (host := "") (Or.inl (hw _ (List.mem_of_getElem? (i := 10) rfl))) Via.refl e9 F_elements_a E_a (Or.inl (hw _ (List.mem_of_getElem? (i := 11) rfl))) (hw _ (List.mem_of_getElem? (i := 1) rfl)) (ty := (.array .long)) (by decide) rfl rfl (g := (mkF m 34 #[.val (.ref a), .val (.long q), .second, .val (.ref r), .val (.int (2 : Int32))] [(.ref r), (.ref a)])) rfl rfl (hb hby d3_34)
  have N11 := Fr.snoc X11 N9 ge_a
  have Sz11 := Nat.le_trans Sz9 (Keep.of_wr W11).1
  have E_a := E_a.wr W11
  have F_size_a := F_size_a.other W11 (Or.inr (slot_ne (Or.inl (hw _ (List.mem_of_getElem? (i := 18) rfl))) (Or.inl (hw _ (List.mem_of_getElem? (i := 11) rfl))) (by decide) (t := .int) (t' := (.array .long)) (by decide) (by decide)))
  have V_r := V_r.other W11 nra
  have F_elements_a := F_elements_a.same W11
  have KP := KP.wr W11 (Or.inl (List.mem_of_getElem? (i := 0) rfl))
  have R12 : ∀ t, Steps p.tables e below (T11.setTop (mkF m 42 #[.val (.ref a), .val (.long q), .second, .val (.ref r), .val (.int (2 : Int32))] [(.int (3 : Int32)), (.ref a)])) t → Steps p.tables e below (s₁.setTop (entryFrame m #[(.ref a), (.long q)] 5)) t := by
    intro t k
    refine R10 t ?_
    show Steps p.tables e below (T9.setTop (mkF m 34 #[.val (.ref a), .val (.long q), .second, .val (.ref r), .val (.int (2 : Int32))] [(.ref r), (.ref a)])) _
    refine st11 _ ?_
    show Steps p.tables e below (T11.setTop (mkF m 37 #[.val (.ref a), .val (.long q), .second, .val (.ref r), .val (.int (2 : Int32))] [])) _
    refine XS.aloadN X11.here hx rfl (hb hby d3_37) rfl rfl ?_
    show Steps p.tables e below (T11.setTop (mkF m 38 #[.val (.ref a), .val (.long q), .second, .val (.ref r), .val (.int (2 : Int32))] [(.ref a)])) _
    refine XS.iload X11.here hx rfl (hb hby d3_38) rfl ?_
    show Steps p.tables e below (T11.setTop (mkF m 40 #[.val (.ref a), .val (.long q), .second, .val (.ref r), .val (.int (2 : Int32))] [(.int (2 : Int32)), (.ref a)])) _
    refine XS.iconst X11.here hx rfl (hb hby d3_40) ?_
    show Steps p.tables e below (T11.setTop (mkF m 41 #[.val (.ref a), .val (.long q), .second, .val (.ref r), .val (.int (2 : Int32))] [(.int (1 : Int32)), (.int (2 : Int32)), (.ref a)])) _
    refine XS.iadd X11.here hx rfl (hb hby d3_41) rfl ?_
    exact k
  obtain ⟨T13, h13, X13, e13, W13, st13⟩ := putF X11 hx hZ hown (host := "") (Or.inl (hw _ (List.mem_of_getElem? (i := 17) rfl))) Via.refl e11 F_size_a E_a (Or.inl (hw _ (List.mem_of_getElem? (i := 18) rfl))) (hw _ (List.mem_of_getElem? (i := 1) rfl)) (ty := .int) (by decide) rfl rfl (g := (mkF m 42 #[.val (.ref a), .val (.long q), .second, .val (.ref r), .val (.int (2 : Int32))] [(.int (3 : Int32)), (.ref a)])) rfl rfl (hb hby d3_42)
  have N13 := Fr.snoc X13 N11 ge_a
  have Sz13 := Nat.le_trans Sz11 (Keep.of_wr W13).1
  have E_a := E_a.wr W13
  have F_elements_a := F_elements_a.other W13 (Or.inr (slot_ne (Or.inl (hw _ (List.mem_of_getElem? (i := 11) rfl))) (Or.inl (hw _ (List.mem_of_getElem? (i := 18) rfl))) (by decide) (t := (.array .long)) (t' := .int) (by decide) (by decide)))
  have V_r := V_r.other W13 nra
  have F_size_a := F_size_a.same W13
  have KP := KP.wr W13 (Or.inl (List.mem_of_getElem? (i := 0) rfl))
  have R14 : ∀ t, Steps p.tables e below (T13.setTop (mkF m 45 #[.val (.ref a), .val (.long q), .second, .val (.ref r), .val (.int (2 : Int32))] [])) t → Steps p.tables e below (s₁.setTop (entryFrame m #[(.ref a), (.long q)] 5)) t := by
    intro t k
    refine R12 t ?_
    show Steps p.tables e below (T11.setTop (mkF m 42 #[.val (.ref a), .val (.long q), .second, .val (.ref r), .val (.int (2 : Int32))] [(.int (3 : Int32)), (.ref a)])) _
    refine st13 _ ?_
    exact k
  obtain ⟨fs, hr, hrun, hended, hW, hsame⟩ := X13.leave (v := none) (fun _ => rfl)
  refine ⟨_, _, R14 _ ?_, hrun, hended, _, _, rfl, ?_, ⟨_, rfl⟩, hW, hsame.mono (by decide) (by decide)⟩
  · exact X13.returnOut hx Bd.returns (hb hby d3_45) hr
  · show Q3n3_2 Z a q r kc u0 u1 u2 h0 n0 _ T13.heap _
    rw [e13]
    exact ⟨rfl, N13, KP, F_elements_a, F_size_a, V_r⟩
theorem ef3n3_3 (m : MethodId) (x0 : Addr) (x1 : Int64) : entryFrame m #[(.ref x0), (.long x1)] 5 = mkF m 0 #[.val (.ref x0), .val (.long x1), .second, .unset, .unset] [] := by first | (simp [entryFrame, mkF, argsToLocals, Value.category]; done) | rfl
def Q3n3_3 (Z : State) (a : Addr) (q : Int64) (r : Addr) (kc : ClassId) (u0 : Int64) (u1 : Int64) (u2 : Int64) (h0 : Heap) (n0 : Nat) (v : Option Value) (h : Heap) (L : List Loc) : Prop := v = none ∧ Fr n0 L ∧ ∃ kc2 : ClassId, Keep h0 h [a] ∧ Fld Z h a "com/example/accesstrail/accesstrail/store/AppendOnlyLongs" "elements" "[J" (.ref h0.size) ∧ Fld Z h a "com/example/accesstrail/accesstrail/store/AppendOnlyLongs" "size" "I" (.int (4 : Int32)) ∧ Arv Z h h0.size kc2 .long (6 : Int32) [(.long u0), (.long u1), (.long u2), (.long q), (.long (0 : Int64)), (.long (0 : Int64))] (.long (0 : Int64))
set_option maxRecDepth 65536 in
set_option maxHeartbeats 40000000 in
theorem rm3n3_3 (l : Launch) (Z : State) (a0 : Array Value) (hw : ∀ d ∈ tables_1, d.before a0 Z = true) (ws : List Jvm.Cond) (a : Addr) (q : Int64) (r : Addr) (kc : ClassId) (u0 : Int64) (u1 : Int64) (u2 : Int64) (h0 : Heap) (n0 : Nat) (Z0 : n0 ≤ h0.size) (E_a : Exa Z h0 a "com/example/accesstrail/accesstrail/store/AppendOnlyLongs") (F_elements_a : Fld Z h0 a "com/example/accesstrail/accesstrail/store/AppendOnlyLongs" "elements" "[J" (.ref r)) (F_size_a : Fld Z h0 a "com/example/accesstrail/accesstrail/store/AppendOnlyLongs" "size" "I" (.int (3 : Int32))) (V_r : Arv Z h0 r kc .long (3 : Int32) [(.long u0), (.long u1), (.long u2)] (.long (0 : Int64))) (ge_a : n0 ≤ a) (ge_r : n0 ≤ r) (nra : r ≠ a) :
    MetFree l (⟨"com/example/accesstrail/accesstrail/store/AppendOnlyLongs", "add", "(J)V"⟩ : MethodName) (head1 (Jvm.Cond.code (⟨"com/example/accesstrail/accesstrail/store/AppendOnlyLongs", "add", "(J)V"⟩ : MethodName) prog_33_method_2_code 5 none :: ws) ({ frames := 2, cells := 1, slots := 6, locals := 74 } : Room)) (fun zza zzU => zza = #[(.ref a), (.long q)] ∧ Z.Warmed39 zzU.vm ∧ zzU.heap = h0) (fun _ _ _ _ _ => True) (fun _ zzU zzo zzV => ∃ zzv zzL, zzo = .returned zzv ∧ Q3n3_3 Z a q r kc u0 u1 u2 h0 n0 zzv zzV.heap zzL ∧ FrameEnd zzU zzo zzV zzL ({ frames := 2, cells := 1, slots := 6, locals := 74 } : Room).cells ({ frames := 2, cells := 1, slots := 6, locals := 74 } : Room).slots) := by
  refine MetFree.of_bodySF (plainFor_of_name pn_1) hisR ?_
  intro p e s m args below meth c s₁ Bd hml0 hP hK
  obtain ⟨rfl, hZ, hh⟩ := hP
  have hx := Bd.exec
  have hby := Bd.bytes
  have hml : c.maxLocals = 5 := hml0
  have hown : s.vm.findClass "com/example/accesstrail/accesstrail/store/AppendOnlyLongs" = some m.cls := findClass_of_methodNamed Bd.named
  have hnm := (name_of_methodNamed Bd.named Bd.method).1
  have X0 : Stand p l e ({ frames := 2, cells := 1, slots := 6, locals := 74 } : Room) s m #[(.ref a), (.long q)] below meth c s₁ [] 0 0 := Stand.of_body Bd
  have e0 : s₁.heap = h0 := by rw [← hh, Bd.state]; rfl
  have N0 := Fr.nil n0
  have R0 : ∀ t, Steps p.tables e below (s₁.setTop (mkF m 0 #[.val (.ref a), .val (.long q), .second, .unset, .unset] [])) t → Steps p.tables e below (s₁.setTop (entryFrame m #[(.ref a), (.long q)] 5)) t := fun t k => castTop (ef3n3_3 m a q) k
  have KP := Keep.refl h0 [a]
  have R1 : ∀ t, Steps p.tables e below (s₁.setTop (mkF m 1 #[.val (.ref a), .val (.long q), .second, .unset, .unset] [(.ref a)])) t → Steps p.tables e below (s₁.setTop (entryFrame m #[(.ref a), (.long q)] 5)) t := by
    intro t k
    refine R0 t ?_
    show Steps p.tables e below (s₁.setTop (mkF m 0 #[.val (.ref a), .val (.long q), .second, .unset, .unset] [])) _
    refine XS.aloadN X0.here hx rfl (hb hby d3_0) rfl rfl ?_
    exact k
  obtain ⟨T2, X2, e2, st2⟩ := getF X0 hx hZ hown (host := "") (Or.inl (hw _ (List.mem_of_getElem? (i := 10) rfl))) Via.refl e0 F_elements_a (g := (mkF m 1 #[.val (.ref a), .val (.long q), .second, .unset, .unset] [(.ref a)])) rfl rfl (hb hby d3_1)
  have R3 : ∀ t, Steps p.tables e below (T2.setTop (mkF m 6 #[.val (.ref a), .val (.long q), .second, .val (.ref r), .unset] [(.ref a)])) t → Steps p.tables e below (s₁.setTop (entryFrame m #[(.ref a), (.long q)] 5)) t := by
    intro t k
    refine R1 t ?_
    show Steps p.tables e below (s₁.setTop (mkF m 1 #[.val (.ref a), .val (.long q), .second, .unset, .unset] [(.ref a)])) _
    refine st2 _ ?_
    show Steps p.tables e below (T2.setTop (mkF m 4 #[.val (.ref a), .val (.long q), .second, .unset, .unset] [(.ref r)])) _
    refine XS.astoreN X2.here hx rfl (hb hby d3_4) rfl rfl (l' := #[.val (.ref a), .val (.long q), .second, .val (.ref r), .unset]) rfl ?_
    show Steps p.tables e below (T2.setTop (mkF m 5 #[.val (.ref a), .val (.long q), .second, .val (.ref r), .unset] [])) _
    refine XS.aloadN X2.here hx rfl (hb hby d3_5) rfl rfl ?_
    exact k
  obtain ⟨T4, X4, e4, st4⟩ := getF X2 hx hZ hown (host := "") (Or.inl (hw _ (List.mem_of_getElem? (i := 17) rfl))) Via.refl e2 F_size_a (g := (mkF m 6 #[.val (.ref a), .val (.long q), .second, .val (.ref r), .unset] [(.ref a)])) rfl rfl (hb hby d3_6)
  have R5 : ∀ t, Steps p.tables e below (T4.setTop (mkF m 14 #[.val (.ref a), .val (.long q), .second, .val (.ref r), .val (.int (3 : Int32))] [(.ref r), (.int (3 : Int32))])) t → Steps p.tables e below (s₁.setTop (entryFrame m #[(.ref a), (.long q)] 5)) t := by
    intro t k
    refine R3 t ?_
    show Steps p.tables e below (T2.setTop (mkF m 6 #[.val (.ref a), .val (.long q), .second, .val (.ref r), .unset] [(.ref a)])) _
    refine st4 _ ?_
    show Steps p.tables e below (T4.setTop (mkF m 9 #[.val (.ref a), .val (.long q), .second, .val (.ref r), .unset] [(.int (3 : Int32))])) _
    refine XS.istore X4.here hx rfl (hb hby d3_9) rfl (l' := #[.val (.ref a), .val (.long q), .second, .val (.ref r), .val (.int (3 : Int32))]) rfl ?_
    show Steps p.tables e below (T4.setTop (mkF m 11 #[.val (.ref a), .val (.long q), .second, .val (.ref r), .val (.int (3 : Int32))] [])) _
    refine XS.iload X4.here hx rfl (hb hby d3_11) rfl ?_
    show Steps p.tables e below (T4.setTop (mkF m 13 #[.val (.ref a), .val (.long q), .second, .val (.ref r), .val (.int (3 : Int32))] [(.int (3 : Int32))])) _
    refine XS.aloadN X4.here hx rfl (hb hby d3_13) rfl rfl ?_
    exact k
  obtain ⟨cl6, Ar6, Aq6, As6, An6, Ah6, Ag6⟩ := id V_r
  have R7 : ∀ t, Steps p.tables e below (T4.setTop (mkF m 23 #[.val (.ref a), .val (.long q), .second, .val (.ref r), .val (.int (3 : Int32))] [(.int (6 : Int32)), (.ref r)])) t → Steps p.tables e below (s₁.setTop (entryFrame m #[(.ref a), (.long q)] 5)) t := by
    intro t k
    refine R5 t ?_
    show Steps p.tables e below (T4.setTop (mkF m 14 #[.val (.ref a), .val (.long q), .second, .val (.ref r), .val (.int (3 : Int32))] [(.ref r), (.int (3 : Int32))])) _
    refine X4.arraylength hx (by rw [e4]; exact Ar6.1) (State.isArrayOf_alike hZ.alike Ar6.2.1) (g := (mkF m 14 #[.val (.ref a), .val (.long q), .second, .val (.ref r), .val (.int (3 : Int32))] [(.ref r), (.int (3 : Int32))])) rfl rfl (hb hby d3_14) _ ?_
    rw [len_of As6 An6]
    show Steps p.tables e below (T4.setTop (mkF m 15 #[.val (.ref a), .val (.long q), .second, .val (.ref r), .val (.int (3 : Int32))] [(.int (3 : Int32)), (.int (3 : Int32))])) _
    refine XS.icmpNo X4.here hx rfl (hb hby d3_15) rfl (teq (by decide)).2 ?_
    show Steps p.tables e below (T4.setTop (mkF m 18 #[.val (.ref a), .val (.long q), .second, .val (.ref r), .val (.int (3 : Int32))] [])) _
    refine XS.aloadN X4.here hx rfl (hb hby d3_18) rfl rfl ?_
    show Steps p.tables e below (T4.setTop (mkF m 19 #[.val (.ref a), .val (.long q), .second, .val (.ref r), .val (.int (3 : Int32))] [(.ref r)])) _
    refine XS.iload X4.here hx rfl (hb hby d3_19) rfl ?_
    show Steps p.tables e below (T4.setTop (mkF m 21 #[.val (.ref a), .val (.long q), .second, .val (.ref r), .val (.int (3 : Int32))] [(.int (3 : Int32)), (.ref r)])) _
    refine XS.iconst X4.here hx rfl (hb hby d3_21) ?_
    show Steps p.tables e below (T4.setTop (mkF m 22 #[.val (.ref a), .val (.long q), .second, .val (.ref r), .val (.int (3 : Int32))] [(.int (2 : Int32)), (.int (3 : Int32)), (.ref r)])) _
    refine XS.imul X4.here hx rfl (hb hby d3_22) rfl ?_
    exact k
  have lt_a := E_a.lt
  have lt_r := V_r.lt
  obtain ⟨_, _, ⟨T8, L8, k8, n8⟩, -, X8, ⟨Lc8, hQ8, l8, y8, z8⟩, st8⟩ := Jvm.LawKit.callS X4 hx (y := (⟨"java/util/Arrays", "copyOf", "([JI)[J"⟩ : MethodName)) hown (mvT hZ (hw _ (List.mem_of_getElem? (i := 19) rfl))) (mvT hZ (hw _ (List.mem_of_getElem? (i := 20) rfl))) (mvT hZ (hw _ (List.mem_of_getElem? (i := 21) rfl))) (mvT hZ (hw _ (List.mem_of_getElem? (i := 22) rfl))) (by decide) (backOf (W := 0) (rm4n3 l Z a0 hw [] r (6 : Int32) kc u0 u1 u2 h0 n0 Z0 V_r rfl) hZ (hw _ (List.mem_of_getElem? (i := 22) rfl)) (hw _ (List.mem_of_getElem? (i := 21) rfl)) (by decide) (by decide)) (g := (mkF m 23 #[.val (.ref a), .val (.long q), .second, .val (.ref r), .val (.int (3 : Int32))] [(.int (6 : Int32)), (.ref r)])) rfl (by rw [hml]; rfl) (argsL := [(.ref r), (.int (6 : Int32))]) (rest := []) (lenOf pd_1 rfl) rfl (by show 2 * 0 + _ ≤ _; exact Nat.le_of_eq rfl) (hb hby d3_23) (fun _ _ => ⟨rfl, e4, (by decide : 0 + 1 ≤ _), (by decide : 0 + 6 ≤ _)⟩)
  dsimp only [Pt.U, Pt.locs, Pt.cells, Pt.slots] at X8 l8 y8 z8 st8 hQ8
  subst l8 y8 z8
  obtain ⟨rfl, Nq8, ⟨kc2, K8, V_b⟩⟩ := hQ8
  have N8 := Fr.app N0 Nq8
  have Sz8 := Nat.le_trans Z0 K8.1
  have E_a := E_a.keep K8
  have F_elements_a := F_elements_a.keep K8 nin0
  have F_size_a := F_size_a.keep K8 nin0
  have V_r := V_r.keep K8 nin0
  have KP := KP.trans K8 all0
  obtain ⟨b, gb⟩ : ∃ z, z = h0.size := ⟨_, rfl⟩
  rw [← gb] at V_b st8
  have ge_b : n0 ≤ b := gb ▸ Z0
  have ne_a_b : a ≠ b := Nat.ne_of_lt (Nat.lt_of_lt_of_le lt_a (Nat.le_of_eq gb.symm))
  have ne_r_b : r ≠ b := Nat.ne_of_lt (Nat.lt_of_lt_of_le lt_r (Nat.le_of_eq gb.symm))
  have sz0_b : h0.size ≤ b := Nat.le_of_eq gb.symm
  have R9 : ∀ t, Steps p.tables e below (T8.setTop (mkF m 31 #[.val (.ref a), .val (.long q), .second, .val (.ref b), .val (.int (3 : Int32))] [(.long q), (.int (3 : Int32)), (.ref b)])) t → Steps p.tables e below (s₁.setTop (entryFrame m #[(.ref a), (.long q)] 5)) t := by
    intro t k
    refine R7 t ?_
    show Steps p.tables e below (T4.setTop (mkF m 23 #[.val (.ref a), .val (.long q), .second, .val (.ref r), .val (.int (3 : Int32))] [(.int (6 : Int32)), (.ref r)])) _
    refine st8 _ ?_
    show Steps p.tables e below (T8.setTop (mkF m 26 #[.val (.ref a), .val (.long q), .second, .val (.ref r), .val (.int (3 : Int32))] [(.ref b)])) _
    refine XS.astoreN X8.here hx rfl (hb hby d3_26) rfl rfl (l' := #[.val (.ref a), .val (.long q), .second, .val (.ref b), .val (.int (3 : Int32))]) rfl ?_
    show Steps p.tables e below (T8.setTop (mkF m 27 #[.val (.ref a), .val (.long q), .second, .val (.ref b), .val (.int (3 : Int32))] [])) _
    refine XS.aloadN X8.here hx rfl (hb hby d3_27) rfl rfl ?_
    show Steps p.tables e below (T8.setTop (mkF m 28 #[.val (.ref a), .val (.long q), .second, .val (.ref b), .val (.int (3 : Int32))] [(.ref b)])) _
    refine XS.iload X8.here hx rfl (hb hby d3_28) rfl ?_
    show Steps p.tables e below (T8.setTop (mkF m 30 #[.val (.ref a), .val (.long q), .second, .val (.ref b), .val (.int (3 : Int32))] [(.int (3 : Int32)), (.ref b)])) _
    refine XS.lloadN X8.here hx rfl (hb hby d3_30) rfl ?_
    exact k
  obtain ⟨cl10, Ar10, Aq10, As10, An10, Ah10, Ag10⟩ := id V_b
  have hin10 : ¬ ((3 : Int32) < 0 ∨ cl10.slots.size ≤ ((3 : Int32)).toNatClampNeg) := inb_of As10 ⟨by decide, by decide⟩
  obtain ⟨T11, h11, X11, e11, W11, st11⟩ := stJ X8 hx hZ rfl Ar10 (j := (3 : Int32)) hin10 (g := (mkF m 31 #[.val (.ref a), .val (.long q), .second, .val (.ref b), .val (.int (3 : Int32))] [(.long q), (.int (3 : Int32)), (.ref b)])) rfl rfl (hb hby d3_31)
  have N11 := Fr.snoc X11 N8 ge_b
  have Sz11 := Nat.le_trans Sz8 (Keep.of_wr W11).1
  have E_a := E_a.wr W11
  have F_elements_a := F_elements_a.other W11 (Or.inl ne_a_b)
  have F_size_a := F_size_a.other W11 (Or.inl ne_a_b)
  have V_r := V_r.other W11 ne_r_b
  have V_b : Arv Z h11 b kc2 .long (6 : Int32) [(.long u0), (.long u1), (.long u2), (.long q), (.long (0 : Int64)), (.long (0 : Int64))] (.long (0 : Int64)) := Arv.set Ar10 Aq10 As10 An10 Ah10 Ag10 rfl W11 3 rfl (Nat.le_of_ble_eq_true rfl)
  have KP := KP.wr W11 (Or.inr sz0_b)
  have R12 : ∀ t, Steps p.tables e below (T11.setTop (mkF m 34 #[.val (.ref a), .val (.long q), .second, .val (.ref b), .val (.int (3 : Int32))] [(.ref b), (.ref a)])) t → Steps p.tables e below (s₁.setTop (entryFrame m #[(.ref a), (.long q)] 5)) t := by
    intro t k
    refine R9 t ?_
    show Steps p.tables e below (T8.setTop (mkF m 31 #[.val (.ref a), .val (.long q), .second, .val (.ref b), .val (.int (3 : Int32))] [(.long q), (.int (3 : Int32)), (.ref b)])) _
    refine st11 _ ?_
    show Steps p.tables e below (T11.setTop (mkF m 32 #[.val (.ref a), .val (.long q), .second, .val (.ref b), .val (.int (3 : Int32))] [])) _
    refine XS.aloadN X11.here hx rfl (hb hby d3_32) rfl rfl ?_
    show Steps p.tables e below (T11.setTop (mkF m 33 #[.val (.ref a), .val (.long q), .second, .val (.ref b), .val (.int (3 : Int32))] [(.ref a)])) _
    refine XS.aloadN X11.here hx rfl (hb hby d3_33) rfl rfl ?_
    exact k
  obtain ⟨T13, h13, X13, e13, W13, st13⟩ := putF X11 hx hZ hown (host := "") (Or.inl (hw _ (List.mem_of_getElem? (i := 10) rfl))) Via.refl e11 F_elements_a E_a (Or.inl (hw _ (List.mem_of_getElem? (i := 11) rfl))) (hw _ (List.mem_of_getElem? (i := 1) rfl)) (ty := (.array .long)) (by decide) rfl rfl (g := (mkF m 34 #[.val (.ref a), .val (.long q), .second, .val (.ref b), .val (.int (3 : Int32))] [(.ref b), (.ref a)])) rfl rfl (hb hby d3_34)
  have N13 := Fr.snoc X13 N11 ge_a
  have Sz13 := Nat.le_trans Sz11 (Keep.of_wr W13).1
  have E_a := E_a.wr W13
  have F_size_a := F_size_a.other W13 (Or.inr (slot_ne (Or.inl (hw _ (List.mem_of_getElem? (i := 18) rfl))) (Or.inl (hw _ (List.mem_of_getElem? (i := 11) rfl))) (by decide) (t := .int) (t' := (.array .long)) (by decide) (by decide)))
  have V_r := V_r.other W13 nra
  have V_b := V_b.other W13 ne_a_b.symm
  have F_elements_a := F_elements_a.same W13
  have KP := KP.wr W13 (Or.inl (List.mem_of_getElem? (i := 0) rfl))
  have R14 : ∀ t, Steps p.tables e below (T13.setTop (mkF m 42 #[.val (.ref a), .val (.long q), .second, .val (.ref b), .val (.int (3 : Int32))] [(.int (4 : Int32)), (.ref a)])) t → Steps p.tables e below (s₁.setTop (entryFrame m #[(.ref a), (.long q)] 5)) t := by
    intro t k
    refine R12 t ?_
    show Steps p.tables e below (T11.setTop (mkF m 34 #[.val (.ref a), .val (.long q), .second, .val (.ref b), .val (.int (3 : Int32))] [(.ref b), (.ref a)])) _
    refine st13 _ ?_
    show Steps p.tables e below (T13.setTop (mkF m 37 #[.val (.ref a), .val (.long q), .second, .val (.ref b), .val (.int (3 : Int32))] [])) _
    refine XS.aloadN X13.here hx rfl (hb hby d3_37) rfl rfl ?_
    show Steps p.tables e below (T13.setTop (mkF m 38 #[.val (.ref a), .val (.long q), .second, .val (.ref b), .val (.int (3 : Int32))] [(.ref a)])) _
    refine XS.iload X13.here hx rfl (hb hby d3_38) rfl ?_
    show Steps p.tables e below (T13.setTop (mkF m 40 #[.val (.ref a), .val (.long q), .second, .val (.ref b), .val (.int (3 : Int32))] [(.int (3 : Int32)), (.ref a)])) _
    refine XS.iconst X13.here hx rfl (hb hby d3_40) ?_
    show Steps p.tables e below (T13.setTop (mkF m 41 #[.val (.ref a), .val (.long q), .second, .val (.ref b), .val (.int (3 : Int32))] [(.int (1 : Int32)), (.int (3 : Int32)), (.ref a)])) _
    refine XS.iadd X13.here hx rfl (hb hby d3_41) rfl ?_
    exact k
  obtain ⟨T15, h15, X15, e15, W15, st15⟩ := putF X13 hx hZ hown (host := "") (Or.inl (hw _ (List.mem_of_getElem? (i := 17) rfl))) Via.refl e13 F_size_a E_a (Or.inl (hw _ (List.mem_of_getElem? (i := 18) rfl))) (hw _ (List.mem_of_getElem? (i := 1) rfl)) (ty := .int) (by decide) rfl rfl (g := (mkF m 42 #[.val (.ref a), .val (.long q), .second, .val (.ref b), .val (.int (3 : Int32))] [(.int (4 : Int32)), (.ref a)])) rfl rfl (hb hby d3_42)
  have N15 := Fr.snoc X15 N13 ge_a
  have Sz15 := Nat.le_trans Sz13 (Keep.of_wr W15).1
  have E_a := E_a.wr W15
  have F_elements_a := F_elements_a.other W15 (Or.inr (slot_ne (Or.inl (hw _ (List.mem_of_getElem? (i := 11) rfl))) (Or.inl (hw _ (List.mem_of_getElem? (i := 18) rfl))) (by decide) (t := (.array .long)) (t' := .int) (by decide) (by decide)))
  have V_r := V_r.other W15 nra
  have V_b := V_b.other W15 ne_a_b.symm
  have F_size_a := F_size_a.same W15
  have KP := KP.wr W15 (Or.inl (List.mem_of_getElem? (i := 0) rfl))
  have R16 : ∀ t, Steps p.tables e below (T15.setTop (mkF m 45 #[.val (.ref a), .val (.long q), .second, .val (.ref b), .val (.int (3 : Int32))] [])) t → Steps p.tables e below (s₁.setTop (entryFrame m #[(.ref a), (.long q)] 5)) t := by
    intro t k
    refine R14 t ?_
    show Steps p.tables e below (T13.setTop (mkF m 42 #[.val (.ref a), .val (.long q), .second, .val (.ref b), .val (.int (3 : Int32))] [(.int (4 : Int32)), (.ref a)])) _
    refine st15 _ ?_
    exact k
  obtain ⟨fs, hr, hrun, hended, hW, hsame⟩ := X15.leave (v := none) (fun _ => rfl)
  refine ⟨_, _, R16 _ ?_, hrun, hended, _, _, rfl, ?_, ⟨_, rfl⟩, hW, hsame.mono (by decide) (by decide)⟩
  · exact X15.returnOut hx Bd.returns (hb hby d3_45) hr
  · show Q3n3_3 Z a q r kc u0 u1 u2 h0 n0 _ T15.heap _
    rw [e15]
    exact ⟨rfl, N15, ⟨kc2, KP, gb ▸ F_elements_a, F_size_a, gb ▸ V_b⟩⟩
theorem ef3n4_0 (m : MethodId) (x0 : Addr) (x1 : Int64) : entryFrame m #[(.ref x0), (.long x1)] 5 = mkF m 0 #[.val (.ref x0), .val (.long x1), .second, .unset, .unset] [] := by first | (simp [entryFrame, mkF, argsToLocals, Value.category]; done) | rfl
def Q3n4_0 (Z : State) (a : Addr) (q : Int64) (r : Addr) (kc : ClassId) (u0 : Int64) (u1 : Int64) (u2 : Int64) (u3 : Int64) (h0 : Heap) (n0 : Nat) (v : Option Value) (h : Heap) (L : List Loc) : Prop := v = none ∧ Fr n0 L ∧ Keep h0 h [a, r] ∧ Fld Z h a "com/example/accesstrail/accesstrail/store/AppendOnlyLongs" "elements" "[J" (.ref r) ∧ Fld Z h a "com/example/accesstrail/accesstrail/store/AppendOnlyLongs" "size" "I" (.int (1 : Int32)) ∧ Arv Z h r kc .long (4 : Int32) [(.long q), (.long u1), (.long u2), (.long u3)] (.long (0 : Int64))
set_option maxRecDepth 65536 in
set_option maxHeartbeats 40000000 in
theorem rm3n4_0 (l : Launch) (Z : State) (a0 : Array Value) (hw : ∀ d ∈ tables_1, d.before a0 Z = true) (ws : List Jvm.Cond) (a : Addr) (q : Int64) (r : Addr) (kc : ClassId) (u0 : Int64) (u1 : Int64) (u2 : Int64) (u3 : Int64) (h0 : Heap) (n0 : Nat) (Z0 : n0 ≤ h0.size) (E_a : Exa Z h0 a "com/example/accesstrail/accesstrail/store/AppendOnlyLongs") (F_elements_a : Fld Z h0 a "com/example/accesstrail/accesstrail/store/AppendOnlyLongs" "elements" "[J" (.ref r)) (F_size_a : Fld Z h0 a "com/example/accesstrail/accesstrail/store/AppendOnlyLongs" "size" "I" (.int (0 : Int32))) (V_r : Arv Z h0 r kc .long (4 : Int32) [(.long u0), (.long u1), (.long u2), (.long u3)] (.long (0 : Int64))) (ge_a : n0 ≤ a) (ge_r : n0 ≤ r) (nra : r ≠ a) :
    MetFree l (⟨"com/example/accesstrail/accesstrail/store/AppendOnlyLongs", "add", "(J)V"⟩ : MethodName) (head1 (Jvm.Cond.code (⟨"com/example/accesstrail/accesstrail/store/AppendOnlyLongs", "add", "(J)V"⟩ : MethodName) prog_33_method_2_code 5 none :: ws) ({ frames := 0, cells := 0, slots := 0, locals := 0 } : Room)) (fun zza zzU => zza = #[(.ref a), (.long q)] ∧ Z.Warmed39 zzU.vm ∧ zzU.heap = h0) (fun _ _ _ _ _ => True) (fun _ zzU zzo zzV => ∃ zzv zzL, zzo = .returned zzv ∧ Q3n4_0 Z a q r kc u0 u1 u2 u3 h0 n0 zzv zzV.heap zzL ∧ FrameEnd zzU zzo zzV zzL ({ frames := 0, cells := 0, slots := 0, locals := 0 } : Room).cells ({ frames := 0, cells := 0, slots := 0, locals := 0 } : Room).slots) := by
  refine MetFree.of_bodySF (plainFor_of_name pn_1) hisR ?_
  intro p e s m args below meth c s₁ Bd hml0 hP hK
  obtain ⟨rfl, hZ, hh⟩ := hP
  have hx := Bd.exec
  have hby := Bd.bytes
  have hml : c.maxLocals = 5 := hml0
  have hown : s.vm.findClass "com/example/accesstrail/accesstrail/store/AppendOnlyLongs" = some m.cls := findClass_of_methodNamed Bd.named
  have hnm := (name_of_methodNamed Bd.named Bd.method).1
  have X0 : Stand p l e ({ frames := 0, cells := 0, slots := 0, locals := 0 } : Room) s m #[(.ref a), (.long q)] below meth c s₁ [] 0 0 := Stand.of_body Bd
  have e0 : s₁.heap = h0 := by rw [← hh, Bd.state]; rfl
  have N0 := Fr.nil n0
  have R0 : ∀ t, Steps p.tables e below (s₁.setTop (mkF m 0 #[.val (.ref a), .val (.long q), .second, .unset, .unset] [])) t → Steps p.tables e below (s₁.setTop (entryFrame m #[(.ref a), (.long q)] 5)) t := fun t k => castTop (ef3n4_0 m a q) k
  have KP := Keep.refl h0 [a, r]
  have R1 : ∀ t, Steps p.tables e below (s₁.setTop (mkF m 1 #[.val (.ref a), .val (.long q), .second, .unset, .unset] [(.ref a)])) t → Steps p.tables e below (s₁.setTop (entryFrame m #[(.ref a), (.long q)] 5)) t := by
    intro t k
    refine R0 t ?_
    show Steps p.tables e below (s₁.setTop (mkF m 0 #[.val (.ref a), .val (.long q), .second, .unset, .unset] [])) _
    refine XS.aloadN X0.here hx rfl (hb hby d3_0) rfl rfl ?_
    exact k
  obtain ⟨T2, X2, e2, st2⟩ := getF X0 hx hZ hown (host := "") (Or.inl (hw _ (List.mem_of_getElem? (i := 10) rfl))) Via.refl e0 F_elements_a (g := (mkF m 1 #[.val (.ref a), .val (.long q), .second, .unset, .unset] [(.ref a)])) rfl rfl (hb hby d3_1)
  have R3 : ∀ t, Steps p.tables e below (T2.setTop (mkF m 6 #[.val (.ref a), .val (.long q), .second, .val (.ref r), .unset] [(.ref a)])) t → Steps p.tables e below (s₁.setTop (entryFrame m #[(.ref a), (.long q)] 5)) t := by
    intro t k
    refine R1 t ?_
    show Steps p.tables e below (s₁.setTop (mkF m 1 #[.val (.ref a), .val (.long q), .second, .unset, .unset] [(.ref a)])) _
    refine st2 _ ?_
    show Steps p.tables e below (T2.setTop (mkF m 4 #[.val (.ref a), .val (.long q), .second, .unset, .unset] [(.ref r)])) _
    refine XS.astoreN X2.here hx rfl (hb hby d3_4) rfl rfl (l' := #[.val (.ref a), .val (.long q), .second, .val (.ref r), .unset]) rfl ?_
    show Steps p.tables e below (T2.setTop (mkF m 5 #[.val (.ref a), .val (.long q), .second, .val (.ref r), .unset] [])) _
    refine XS.aloadN X2.here hx rfl (hb hby d3_5) rfl rfl ?_
    exact k
  obtain ⟨T4, X4, e4, st4⟩ := getF X2 hx hZ hown (host := "") (Or.inl (hw _ (List.mem_of_getElem? (i := 17) rfl))) Via.refl e2 F_size_a (g := (mkF m 6 #[.val (.ref a), .val (.long q), .second, .val (.ref r), .unset] [(.ref a)])) rfl rfl (hb hby d3_6)
  have R5 : ∀ t, Steps p.tables e below (T4.setTop (mkF m 14 #[.val (.ref a), .val (.long q), .second, .val (.ref r), .val (.int (0 : Int32))] [(.ref r), (.int (0 : Int32))])) t → Steps p.tables e below (s₁.setTop (entryFrame m #[(.ref a), (.long q)] 5)) t := by
    intro t k
    refine R3 t ?_
    show Steps p.tables e below (T2.setTop (mkF m 6 #[.val (.ref a), .val (.long q), .second, .val (.ref r), .unset] [(.ref a)])) _
    refine st4 _ ?_
    show Steps p.tables e below (T4.setTop (mkF m 9 #[.val (.ref a), .val (.long q), .second, .val (.ref r), .unset] [(.int (0 : Int32))])) _
    refine XS.istore X4.here hx rfl (hb hby d3_9) rfl (l' := #[.val (.ref a), .val (.long q), .second, .val (.ref r), .val (.int (0 : Int32))]) rfl ?_
    show Steps p.tables e below (T4.setTop (mkF m 11 #[.val (.ref a), .val (.long q), .second, .val (.ref r), .val (.int (0 : Int32))] [])) _
    refine XS.iload X4.here hx rfl (hb hby d3_11) rfl ?_
    show Steps p.tables e below (T4.setTop (mkF m 13 #[.val (.ref a), .val (.long q), .second, .val (.ref r), .val (.int (0 : Int32))] [(.int (0 : Int32))])) _
    refine XS.aloadN X4.here hx rfl (hb hby d3_13) rfl rfl ?_
    exact k
  obtain ⟨cl6, Ar6, Aq6, As6, An6, Ah6, Ag6⟩ := id V_r
  have R7 : ∀ t, Steps p.tables e below (T4.setTop (mkF m 31 #[.val (.ref a), .val (.long q), .second, .val (.ref r), .val (.int (0 : Int32))] [(.long q), (.int (0 : Int32)), (.ref r)])) t → Steps p.tables e below (s₁.setTop (entryFrame m #[(.ref a), (.long q)] 5)) t := by
    intro t k
    refine R5 t ?_
    show Steps p.tables e below (T4.setTop (mkF m 14 #[.val (.ref a), .val (.long q), .second, .val (.ref r), .val (.int (0 : Int32))] [(.ref r), (.int (0 : Int32))])) _
    refine X4.arraylength hx (by rw [e4]; exact Ar6.1) (State.isArrayOf_alike hZ.alike Ar6.2.1) (g := (mkF m 14 #[.val (.ref a), .val (.long q), .second, .val (.ref r), .val (.int (0 : Int32))] [(.ref r), (.int (0 : Int32))])) rfl rfl (hb hby d3_14) _ ?_
    rw [len_of As6 An6]
    show Steps p.tables e below (T4.setTop (mkF m 15 #[.val (.ref a), .val (.long q), .second, .val (.ref r), .val (.int (0 : Int32))] [(.int (4 : Int32)), (.int (0 : Int32))])) _
    refine XS.icmpYes X4.here hx rfl (pc0 := 15) (pc' := 27) rfl (hb hby d3_15) rfl (feq (by decide)).2 (by decide) (by decide) ?_
    show Steps p.tables e below (T4.setTop (mkF m 27 #[.val (.ref a), .val (.long q), .second, .val (.ref r), .val (.int (0 : Int32))] [])) _
    refine XS.aloadN X4.here hx rfl (hb hby d3_27) rfl rfl ?_
    show Steps p.tables e below (T4.setTop (mkF m 28 #[.val (.ref a), .val (.long q), .second, .val (.ref r), .val (.int (0 : Int32))] [(.ref r)])) _
    refine XS.iload X4.here hx rfl (hb hby d3_28) rfl ?_
    show Steps p.tables e below (T4.setTop (mkF m 30 #[.val (.ref a), .val (.long q), .second, .val (.ref r), .val (.int (0 : Int32))] [(.int (0 : Int32)), (.ref r)])) _
    refine XS.lloadN X4.here hx rfl (hb hby d3_30) rfl ?_
    exact k
  obtain ⟨cl8, Ar8, Aq8, As8, An8, Ah8, Ag8⟩ := id V_r
  have hin8 : ¬ ((0 : Int32) < 0 ∨ cl8.slots.size ≤ ((0 : Int32)).toNatClampNeg) := inb_of As8 ⟨by decide, by decide⟩
  obtain ⟨T9, h9, X9, e9, W9, st9⟩ := stJ X4 hx hZ e4 Ar8 (j := (0 : Int32)) hin8 (g := (mkF m 31 #[.val (.ref a), .val (.long q), .second, .val (.ref r), .val (.int (0 : Int32))] [(.long q), (.int (0 : Int32)), (.ref r)])) rfl rfl (hb hby d3_31)
  have N9 := Fr.snoc X9 N0 ge_r
  have Sz9 := Nat.le_trans Z0 (Keep.of_wr W9).1
  have E_a := E_a.wr W9
  have F_elements_a := F_elements_a.other W9 (Or.inl nra.symm)
  have F_size_a := F_size_a.other W9 (Or.inl nra.symm)
  have V_r : Arv Z h9 r kc .long (4 : Int32) [(.long q), (.long u1), (.long u2), (.long u3)] (.long (0 : Int64)) := Arv.set Ar8 Aq8 As8 An8 Ah8 Ag8 rfl W9 0 rfl (Nat.le_of_ble_eq_true rfl)
  have KP := KP.wr W9 (Or.inl (List.mem_of_getElem? (i := 1) rfl))
  have R10 : ∀ t, Steps p.tables e below (T9.setTop (mkF m 34 #[.val (.ref a), .val (.long q), .second, .val (.ref r), .val (.int (0 : Int32))] [(.ref r), (.ref a)])) t → Steps p.tables e below (s₁.setTop (entryFrame m #[(.ref a), (.long q)] 5)) t := by
    intro t k
    refine R7 t ?_
    show Steps p.tables e below (T4.setTop (mkF m 31 #[.val (.ref a), .val (.long q), .second, .val (.ref r), .val (.int (0 : Int32))] [(.long q), (.int (0 : Int32)), (.ref r)])) _
    refine st9 _ ?_
    show Steps p.tables e below (T9.setTop (mkF m 32 #[.val (.ref a), .val (.long q), .second, .val (.ref r), .val (.int (0 : Int32))] [])) _
    refine XS.aloadN X9.here hx rfl (hb hby d3_32) rfl rfl ?_
    show Steps p.tables e below (T9.setTop (mkF m 33 #[.val (.ref a), .val (.long q), .second, .val (.ref r), .val (.int (0 : Int32))] [(.ref a)])) _
    refine XS.aloadN X9.here hx rfl (hb hby d3_33) rfl rfl ?_
    exact k
  obtain ⟨T11, h11, X11, e11, W11, st11⟩ := putF X9 hx hZ hown (host := "") (Or.inl (hw _ (List.mem_of_getElem? (i := 10) rfl))) Via.refl e9 F_elements_a E_a (Or.inl (hw _ (List.mem_of_getElem? (i := 11) rfl))) (hw _ (List.mem_of_getElem? (i := 1) rfl)) (ty := (.array .long)) (by decide) rfl rfl (g := (mkF m 34 #[.val (.ref a), .val (.long q), .second, .val (.ref r), .val (.int (0 : Int32))] [(.ref r), (.ref a)])) rfl rfl (hb hby d3_34)
  have N11 := Fr.snoc X11 N9 ge_a
  have Sz11 := Nat.le_trans Sz9 (Keep.of_wr W11).1
  have E_a := E_a.wr W11
  have F_size_a := F_size_a.other W11 (Or.inr (slot_ne (Or.inl (hw _ (List.mem_of_getElem? (i := 18) rfl))) (Or.inl (hw _ (List.mem_of_getElem? (i := 11) rfl))) (by decide) (t := .int) (t' := (.array .long)) (by decide) (by decide)))
  have V_r := V_r.other W11 nra
  have F_elements_a := F_elements_a.same W11
  have KP := KP.wr W11 (Or.inl (List.mem_of_getElem? (i := 0) rfl))
  have R12 : ∀ t, Steps p.tables e below (T11.setTop (mkF m 42 #[.val (.ref a), .val (.long q), .second, .val (.ref r), .val (.int (0 : Int32))] [(.int (1 : Int32)), (.ref a)])) t → Steps p.tables e below (s₁.setTop (entryFrame m #[(.ref a), (.long q)] 5)) t := by
    intro t k
    refine R10 t ?_
    show Steps p.tables e below (T9.setTop (mkF m 34 #[.val (.ref a), .val (.long q), .second, .val (.ref r), .val (.int (0 : Int32))] [(.ref r), (.ref a)])) _
    refine st11 _ ?_
    show Steps p.tables e below (T11.setTop (mkF m 37 #[.val (.ref a), .val (.long q), .second, .val (.ref r), .val (.int (0 : Int32))] [])) _
    refine XS.aloadN X11.here hx rfl (hb hby d3_37) rfl rfl ?_
    show Steps p.tables e below (T11.setTop (mkF m 38 #[.val (.ref a), .val (.long q), .second, .val (.ref r), .val (.int (0 : Int32))] [(.ref a)])) _
    refine XS.iload X11.here hx rfl (hb hby d3_38) rfl ?_
    show Steps p.tables e below (T11.setTop (mkF m 40 #[.val (.ref a), .val (.long q), .second, .val (.ref r), .val (.int (0 : Int32))] [(.int (0 : Int32)), (.ref a)])) _
    refine XS.iconst X11.here hx rfl (hb hby d3_40) ?_
    show Steps p.tables e below (T11.setTop (mkF m 41 #[.val (.ref a), .val (.long q), .second, .val (.ref r), .val (.int (0 : Int32))] [(.int (1 : Int32)), (.int (0 : Int32)), (.ref a)])) _
    refine XS.iadd X11.here hx rfl (hb hby d3_41) rfl ?_
    exact k
  obtain ⟨T13, h13, X13, e13, W13, st13⟩ := putF X11 hx hZ hown (host := "") (Or.inl (hw _ (List.mem_of_getElem? (i := 17) rfl))) Via.refl e11 F_size_a E_a (Or.inl (hw _ (List.mem_of_getElem? (i := 18) rfl))) (hw _ (List.mem_of_getElem? (i := 1) rfl)) (ty := .int) (by decide) rfl rfl (g := (mkF m 42 #[.val (.ref a), .val (.long q), .second, .val (.ref r), .val (.int (0 : Int32))] [(.int (1 : Int32)), (.ref a)])) rfl rfl (hb hby d3_42)
  have N13 := Fr.snoc X13 N11 ge_a
  have Sz13 := Nat.le_trans Sz11 (Keep.of_wr W13).1
  have E_a := E_a.wr W13
  have F_elements_a := F_elements_a.other W13 (Or.inr (slot_ne (Or.inl (hw _ (List.mem_of_getElem? (i := 11) rfl))) (Or.inl (hw _ (List.mem_of_getElem? (i := 18) rfl))) (by decide) (t := (.array .long)) (t' := .int) (by decide) (by decide)))
  have V_r := V_r.other W13 nra
  have F_size_a := F_size_a.same W13
  have KP := KP.wr W13 (Or.inl (List.mem_of_getElem? (i := 0) rfl))
  have R14 : ∀ t, Steps p.tables e below (T13.setTop (mkF m 45 #[.val (.ref a), .val (.long q), .second, .val (.ref r), .val (.int (0 : Int32))] [])) t → Steps p.tables e below (s₁.setTop (entryFrame m #[(.ref a), (.long q)] 5)) t := by
    intro t k
    refine R12 t ?_
    show Steps p.tables e below (T11.setTop (mkF m 42 #[.val (.ref a), .val (.long q), .second, .val (.ref r), .val (.int (0 : Int32))] [(.int (1 : Int32)), (.ref a)])) _
    refine st13 _ ?_
    exact k
  obtain ⟨fs, hr, hrun, hended, hW, hsame⟩ := X13.leave (v := none) (fun _ => rfl)
  refine ⟨_, _, R14 _ ?_, hrun, hended, _, _, rfl, ?_, ⟨_, rfl⟩, hW, hsame.mono (by decide) (by decide)⟩
  · exact X13.returnOut hx Bd.returns (hb hby d3_45) hr
  · show Q3n4_0 Z a q r kc u0 u1 u2 u3 h0 n0 _ T13.heap _
    rw [e13]
    exact ⟨rfl, N13, KP, F_elements_a, F_size_a, V_r⟩
theorem ef3n4_1 (m : MethodId) (x0 : Addr) (x1 : Int64) : entryFrame m #[(.ref x0), (.long x1)] 5 = mkF m 0 #[.val (.ref x0), .val (.long x1), .second, .unset, .unset] [] := by first | (simp [entryFrame, mkF, argsToLocals, Value.category]; done) | rfl
def Q3n4_1 (Z : State) (a : Addr) (q : Int64) (r : Addr) (kc : ClassId) (u0 : Int64) (u1 : Int64) (u2 : Int64) (u3 : Int64) (h0 : Heap) (n0 : Nat) (v : Option Value) (h : Heap) (L : List Loc) : Prop := v = none ∧ Fr n0 L ∧ Keep h0 h [a, r] ∧ Fld Z h a "com/example/accesstrail/accesstrail/store/AppendOnlyLongs" "elements" "[J" (.ref r) ∧ Fld Z h a "com/example/accesstrail/accesstrail/store/AppendOnlyLongs" "size" "I" (.int (2 : Int32)) ∧ Arv Z h r kc .long (4 : Int32) [(.long u0), (.long q), (.long u2), (.long u3)] (.long (0 : Int64))
set_option maxRecDepth 65536 in
set_option maxHeartbeats 40000000 in
theorem rm3n4_1 (l : Launch) (Z : State) (a0 : Array Value) (hw : ∀ d ∈ tables_1, d.before a0 Z = true) (ws : List Jvm.Cond) (a : Addr) (q : Int64) (r : Addr) (kc : ClassId) (u0 : Int64) (u1 : Int64) (u2 : Int64) (u3 : Int64) (h0 : Heap) (n0 : Nat) (Z0 : n0 ≤ h0.size) (E_a : Exa Z h0 a "com/example/accesstrail/accesstrail/store/AppendOnlyLongs") (F_elements_a : Fld Z h0 a "com/example/accesstrail/accesstrail/store/AppendOnlyLongs" "elements" "[J" (.ref r)) (F_size_a : Fld Z h0 a "com/example/accesstrail/accesstrail/store/AppendOnlyLongs" "size" "I" (.int (1 : Int32))) (V_r : Arv Z h0 r kc .long (4 : Int32) [(.long u0), (.long u1), (.long u2), (.long u3)] (.long (0 : Int64))) (ge_a : n0 ≤ a) (ge_r : n0 ≤ r) (nra : r ≠ a) :
    MetFree l (⟨"com/example/accesstrail/accesstrail/store/AppendOnlyLongs", "add", "(J)V"⟩ : MethodName) (head1 (Jvm.Cond.code (⟨"com/example/accesstrail/accesstrail/store/AppendOnlyLongs", "add", "(J)V"⟩ : MethodName) prog_33_method_2_code 5 none :: ws) ({ frames := 0, cells := 0, slots := 0, locals := 0 } : Room)) (fun zza zzU => zza = #[(.ref a), (.long q)] ∧ Z.Warmed39 zzU.vm ∧ zzU.heap = h0) (fun _ _ _ _ _ => True) (fun _ zzU zzo zzV => ∃ zzv zzL, zzo = .returned zzv ∧ Q3n4_1 Z a q r kc u0 u1 u2 u3 h0 n0 zzv zzV.heap zzL ∧ FrameEnd zzU zzo zzV zzL ({ frames := 0, cells := 0, slots := 0, locals := 0 } : Room).cells ({ frames := 0, cells := 0, slots := 0, locals := 0 } : Room).slots) := by
  refine MetFree.of_bodySF (plainFor_of_name pn_1) hisR ?_
  intro p e s m args below meth c s₁ Bd hml0 hP hK
  obtain ⟨rfl, hZ, hh⟩ := hP
  have hx := Bd.exec
  have hby := Bd.bytes
  have hml : c.maxLocals = 5 := hml0
  have hown : s.vm.findClass "com/example/accesstrail/accesstrail/store/AppendOnlyLongs" = some m.cls := findClass_of_methodNamed Bd.named
  have hnm := (name_of_methodNamed Bd.named Bd.method).1
  have X0 : Stand p l e ({ frames := 0, cells := 0, slots := 0, locals := 0 } : Room) s m #[(.ref a), (.long q)] below meth c s₁ [] 0 0 := Stand.of_body Bd
  have e0 : s₁.heap = h0 := by rw [← hh, Bd.state]; rfl
  have N0 := Fr.nil n0
  have R0 : ∀ t, Steps p.tables e below (s₁.setTop (mkF m 0 #[.val (.ref a), .val (.long q), .second, .unset, .unset] [])) t → Steps p.tables e below (s₁.setTop (entryFrame m #[(.ref a), (.long q)] 5)) t := fun t k => castTop (ef3n4_1 m a q) k
  have KP := Keep.refl h0 [a, r]
  have R1 : ∀ t, Steps p.tables e below (s₁.setTop (mkF m 1 #[.val (.ref a), .val (.long q), .second, .unset, .unset] [(.ref a)])) t → Steps p.tables e below (s₁.setTop (entryFrame m #[(.ref a), (.long q)] 5)) t := by
    intro t k
    refine R0 t ?_
    show Steps p.tables e below (s₁.setTop (mkF m 0 #[.val (.ref a), .val (.long q), .second, .unset, .unset] [])) _
    refine XS.aloadN X0.here hx rfl (hb hby d3_0) rfl rfl ?_
    exact k
  obtain ⟨T2, X2, e2, st2⟩ := getF X0 hx hZ hown (host := "") (Or.inl (hw _ (List.mem_of_getElem? (i := 10) rfl))) Via.refl e0 F_elements_a (g := (mkF m 1 #[.val (.ref a), .val (.long q), .second, .unset, .unset] [(.ref a)])) rfl rfl (hb hby d3_1)
  have R3 : ∀ t, Steps p.tables e below (T2.setTop (mkF m 6 #[.val (.ref a), .val (.long q), .second, .val (.ref r), .unset] [(.ref a)])) t → Steps p.tables e below (s₁.setTop (entryFrame m #[(.ref a), (.long q)] 5)) t := by
    intro t k
    refine R1 t ?_
    show Steps p.tables e below (s₁.setTop (mkF m 1 #[.val (.ref a), .val (.long q), .second, .unset, .unset] [(.ref a)])) _
    refine st2 _ ?_
    show Steps p.tables e below (T2.setTop (mkF m 4 #[.val (.ref a), .val (.long q), .second, .unset, .unset] [(.ref r)])) _
    refine XS.astoreN X2.here hx rfl (hb hby d3_4) rfl rfl (l' := #[.val (.ref a), .val (.long q), .second, .val (.ref r), .unset]) rfl ?_
    show Steps p.tables e below (T2.setTop (mkF m 5 #[.val (.ref a), .val (.long q), .second, .val (.ref r), .unset] [])) _
    refine XS.aloadN X2.here hx rfl (hb hby d3_5) rfl rfl ?_
    exact k
  obtain ⟨T4, X4, e4, st4⟩ := getF X2 hx hZ hown (host := "") (Or.inl (hw _ (List.mem_of_getElem? (i := 17) rfl))) Via.refl e2 F_size_a (g := (mkF m 6 #[.val (.ref a), .val (.long q), .second, .val (.ref r), .unset] [(.ref a)])) rfl rfl (hb hby d3_6)
  have R5 : ∀ t, Steps p.tables e below (T4.setTop (mkF m 14 #[.val (.ref a), .val (.long q), .second, .val (.ref r), .val (.int (1 : Int32))] [(.ref r), (.int (1 : Int32))])) t → Steps p.tables e below (s₁.setTop (entryFrame m #[(.ref a), (.long q)] 5)) t := by
    intro t k
    refine R3 t ?_
    show Steps p.tables e below (T2.setTop (mkF m 6 #[.val (.ref a), .val (.long q), .second, .val (.ref r), .unset] [(.ref a)])) _
    refine st4 _ ?_
    show Steps p.tables e below (T4.setTop (mkF m 9 #[.val (.ref a), .val (.long q), .second, .val (.ref r), .unset] [(.int (1 : Int32))])) _
    refine XS.istore X4.here hx rfl (hb hby d3_9) rfl (l' := #[.val (.ref a), .val (.long q), .second, .val (.ref r), .val (.int (1 : Int32))]) rfl ?_
    show Steps p.tables e below (T4.setTop (mkF m 11 #[.val (.ref a), .val (.long q), .second, .val (.ref r), .val (.int (1 : Int32))] [])) _
    refine XS.iload X4.here hx rfl (hb hby d3_11) rfl ?_
    show Steps p.tables e below (T4.setTop (mkF m 13 #[.val (.ref a), .val (.long q), .second, .val (.ref r), .val (.int (1 : Int32))] [(.int (1 : Int32))])) _
    refine XS.aloadN X4.here hx rfl (hb hby d3_13) rfl rfl ?_
    exact k
  obtain ⟨cl6, Ar6, Aq6, As6, An6, Ah6, Ag6⟩ := id V_r
  have R7 : ∀ t, Steps p.tables e below (T4.setTop (mkF m 31 #[.val (.ref a), .val (.long q), .second, .val (.ref r), .val (.int (1 : Int32))] [(.long q), (.int (1 : Int32)), (.ref r)])) t → Steps p.tables e below (s₁.setTop (entryFrame m #[(.ref a), (.long q)] 5)) t := by
    intro t k
    refine R5 t ?_
    show Steps p.tables e below (T4.setTop (mkF m 14 #[.val (.ref a), .val (.long q), .second, .val (.ref r), .val (.int (1 : Int32))] [(.ref r), (.int (1 : Int32))])) _
    refine X4.arraylength hx (by rw [e4]; exact Ar6.1) (State.isArrayOf_alike hZ.alike Ar6.2.1) (g := (mkF m 14 #[.val (.ref a), .val (.long q), .second, .val (.ref r), .val (.int (1 : Int32))] [(.ref r), (.int (1 : Int32))])) rfl rfl (hb hby d3_14) _ ?_
    rw [len_of As6 An6]
    show Steps p.tables e below (T4.setTop (mkF m 15 #[.val (.ref a), .val (.long q), .second, .val (.ref r), .val (.int (1 : Int32))] [(.int (4 : Int32)), (.int (1 : Int32))])) _
    refine XS.icmpYes X4.here hx rfl (pc0 := 15) (pc' := 27) rfl (hb hby d3_15) rfl (feq (by decide)).2 (by decide) (by decide) ?_
    show Steps p.tables e below (T4.setTop (mkF m 27 #[.val (.ref a), .val (.long q), .second, .val (.ref r), .val (.int (1 : Int32))] [])) _
    refine XS.aloadN X4.here hx rfl (hb hby d3_27) rfl rfl ?_
    show Steps p.tables e below (T4.setTop (mkF m 28 #[.val (.ref a), .val (.long q), .second, .val (.ref r), .val (.int (1 : Int32))] [(.ref r)])) _
    refine XS.iload X4.here hx rfl (hb hby d3_28) rfl ?_
    show Steps p.tables e below (T4.setTop (mkF m 30 #[.val (.ref a), .val (.long q), .second, .val (.ref r), .val (.int (1 : Int32))] [(.int (1 : Int32)), (.ref r)])) _
    refine XS.lloadN X4.here hx rfl (hb hby d3_30) rfl ?_
    exact k
  obtain ⟨cl8, Ar8, Aq8, As8, An8, Ah8, Ag8⟩ := id V_r
  have hin8 : ¬ ((1 : Int32) < 0 ∨ cl8.slots.size ≤ ((1 : Int32)).toNatClampNeg) := inb_of As8 ⟨by decide, by decide⟩
  obtain ⟨T9, h9, X9, e9, W9, st9⟩ := stJ X4 hx hZ e4 Ar8 (j := (1 : Int32)) hin8 (g := (mkF m 31 #[.val (.ref a), .val (.long q), .second, .val (.ref r), .val (.int (1 : Int32))] [(.long q), (.int (1 : Int32)), (.ref r)])) rfl rfl (hb hby d3_31)
  have N9 := Fr.snoc X9 N0 ge_r
  have Sz9 := Nat.le_trans Z0 (Keep.of_wr W9).1
  have E_a := E_a.wr W9
  have F_elements_a := F_elements_a.other W9 (Or.inl nra.symm)
  have F_size_a := F_size_a.other W9 (Or.inl nra.symm)
  have V_r : Arv Z h9 r kc .long (4 : Int32) [(.long u0), (.long q), (.long u2), (.long u3)] (.long (0 : Int64)) := Arv.set Ar8 Aq8 As8 An8 Ah8 Ag8 rfl W9 1 rfl (Nat.le_of_ble_eq_true rfl)
  have KP := KP.wr W9 (Or.inl (List.mem_of_getElem? (i := 1) rfl))
  have R10 : ∀ t, Steps p.tables e below (T9.setTop (mkF m 34 #[.val (.ref a), .val (.long q), .second, .val (.ref r), .val (.int (1 : Int32))] [(.ref r), (.ref a)])) t → Steps p.tables e below (s₁.setTop (entryFrame m #[(.ref a), (.long q)] 5)) t := by
    intro t k
    refine R7 t ?_
    show Steps p.tables e below (T4.setTop (mkF m 31 #[.val (.ref a), .val (.long q), .second, .val (.ref r), .val (.int (1 : Int32))] [(.long q), (.int (1 : Int32)), (.ref r)])) _
    refine st9 _ ?_
    show Steps p.tables e below (T9.setTop (mkF m 32 #[.val (.ref a), .val (.long q), .second, .val (.ref r), .val (.int (1 : Int32))] [])) _
    refine XS.aloadN X9.here hx rfl (hb hby d3_32) rfl rfl ?_
    show Steps p.tables e below (T9.setTop (mkF m 33 #[.val (.ref a), .val (.long q), .second, .val (.ref r), .val (.int (1 : Int32))] [(.ref a)])) _
    refine XS.aloadN X9.here hx rfl (hb hby d3_33) rfl rfl ?_
    exact k
  obtain ⟨T11, h11, X11, e11, W11, st11⟩ := putF X9 hx hZ hown (host := "") (Or.inl (hw _ (List.mem_of_getElem? (i := 10) rfl))) Via.refl e9 F_elements_a E_a (Or.inl (hw _ (List.mem_of_getElem? (i := 11) rfl))) (hw _ (List.mem_of_getElem? (i := 1) rfl)) (ty := (.array .long)) (by decide) rfl rfl (g := (mkF m 34 #[.val (.ref a), .val (.long q), .second, .val (.ref r), .val (.int (1 : Int32))] [(.ref r), (.ref a)])) rfl rfl (hb hby d3_34)
  have N11 := Fr.snoc X11 N9 ge_a
  have Sz11 := Nat.le_trans Sz9 (Keep.of_wr W11).1
  have E_a := E_a.wr W11
  have F_size_a := F_size_a.other W11 (Or.inr (slot_ne (Or.inl (hw _ (List.mem_of_getElem? (i := 18) rfl))) (Or.inl (hw _ (List.mem_of_getElem? (i := 11) rfl))) (by decide) (t := .int) (t' := (.array .long)) (by decide) (by decide)))
  have V_r := V_r.other W11 nra
  have F_elements_a := F_elements_a.same W11
  have KP := KP.wr W11 (Or.inl (List.mem_of_getElem? (i := 0) rfl))
  have R12 : ∀ t, Steps p.tables e below (T11.setTop (mkF m 42 #[.val (.ref a), .val (.long q), .second, .val (.ref r), .val (.int (1 : Int32))] [(.int (2 : Int32)), (.ref a)])) t → Steps p.tables e below (s₁.setTop (entryFrame m #[(.ref a), (.long q)] 5)) t := by
    intro t k
    refine R10 t ?_
    show Steps p.tables e below (T9.setTop (mkF m 34 #[.val (.ref a), .val (.long q), .second, .val (.ref r), .val (.int (1 : Int32))] [(.ref r), (.ref a)])) _
    refine st11 _ ?_
    show Steps p.tables e below (T11.setTop (mkF m 37 #[.val (.ref a), .val (.long q), .second, .val (.ref r), .val (.int (1 : Int32))] [])) _
    refine XS.aloadN X11.here hx rfl (hb hby d3_37) rfl rfl ?_
    show Steps p.tables e below (T11.setTop (mkF m 38 #[.val (.ref a), .val (.long q), .second, .val (.ref r), .val (.int (1 : Int32))] [(.ref a)])) _
    refine XS.iload X11.here hx rfl (hb hby d3_38) rfl ?_
    show Steps p.tables e below (T11.setTop (mkF m 40 #[.val (.ref a), .val (.long q), .second, .val (.ref r), .val (.int (1 : Int32))] [(.int (1 : Int32)), (.ref a)])) _
    refine XS.iconst X11.here hx rfl (hb hby d3_40) ?_
    show Steps p.tables e below (T11.setTop (mkF m 41 #[.val (.ref a), .val (.long q), .second, .val (.ref r), .val (.int (1 : Int32))] [(.int (1 : Int32)), (.int (1 : Int32)), (.ref a)])) _
    refine XS.iadd X11.here hx rfl (hb hby d3_41) rfl ?_
    exact k
  obtain ⟨T13, h13, X13, e13, W13, st13⟩ := putF X11 hx hZ hown (host := "") (Or.inl (hw _ (List.mem_of_getElem? (i := 17) rfl))) Via.refl e11 F_size_a E_a (Or.inl (hw _ (List.mem_of_getElem? (i := 18) rfl))) (hw _ (List.mem_of_getElem? (i := 1) rfl)) (ty := .int) (by decide) rfl rfl (g := (mkF m 42 #[.val (.ref a), .val (.long q), .second, .val (.ref r), .val (.int (1 : Int32))] [(.int (2 : Int32)), (.ref a)])) rfl rfl (hb hby d3_42)
  have N13 := Fr.snoc X13 N11 ge_a
  have Sz13 := Nat.le_trans Sz11 (Keep.of_wr W13).1
  have E_a := E_a.wr W13
  have F_elements_a := F_elements_a.other W13 (Or.inr (slot_ne (Or.inl (hw _ (List.mem_of_getElem? (i := 11) rfl))) (Or.inl (hw _ (List.mem_of_getElem? (i := 18) rfl))) (by decide) (t := (.array .long)) (t' := .int) (by decide) (by decide)))
  have V_r := V_r.other W13 nra
  have F_size_a := F_size_a.same W13
  have KP := KP.wr W13 (Or.inl (List.mem_of_getElem? (i := 0) rfl))
  have R14 : ∀ t, Steps p.tables e below (T13.setTop (mkF m 45 #[.val (.ref a), .val (.long q), .second, .val (.ref r), .val (.int (1 : Int32))] [])) t → Steps p.tables e below (s₁.setTop (entryFrame m #[(.ref a), (.long q)] 5)) t := by
    intro t k
    refine R12 t ?_
    show Steps p.tables e below (T11.setTop (mkF m 42 #[.val (.ref a), .val (.long q), .second, .val (.ref r), .val (.int (1 : Int32))] [(.int (2 : Int32)), (.ref a)])) _
    refine st13 _ ?_
    exact k
  obtain ⟨fs, hr, hrun, hended, hW, hsame⟩ := X13.leave (v := none) (fun _ => rfl)
  refine ⟨_, _, R14 _ ?_, hrun, hended, _, _, rfl, ?_, ⟨_, rfl⟩, hW, hsame.mono (by decide) (by decide)⟩
  · exact X13.returnOut hx Bd.returns (hb hby d3_45) hr
  · show Q3n4_1 Z a q r kc u0 u1 u2 u3 h0 n0 _ T13.heap _
    rw [e13]
    exact ⟨rfl, N13, KP, F_elements_a, F_size_a, V_r⟩
theorem ef3n4_2 (m : MethodId) (x0 : Addr) (x1 : Int64) : entryFrame m #[(.ref x0), (.long x1)] 5 = mkF m 0 #[.val (.ref x0), .val (.long x1), .second, .unset, .unset] [] := by first | (simp [entryFrame, mkF, argsToLocals, Value.category]; done) | rfl
def Q3n4_2 (Z : State) (a : Addr) (q : Int64) (r : Addr) (kc : ClassId) (u0 : Int64) (u1 : Int64) (u2 : Int64) (u3 : Int64) (h0 : Heap) (n0 : Nat) (v : Option Value) (h : Heap) (L : List Loc) : Prop := v = none ∧ Fr n0 L ∧ Keep h0 h [a, r] ∧ Fld Z h a "com/example/accesstrail/accesstrail/store/AppendOnlyLongs" "elements" "[J" (.ref r) ∧ Fld Z h a "com/example/accesstrail/accesstrail/store/AppendOnlyLongs" "size" "I" (.int (3 : Int32)) ∧ Arv Z h r kc .long (4 : Int32) [(.long u0), (.long u1), (.long q), (.long u3)] (.long (0 : Int64))
set_option maxRecDepth 65536 in
set_option maxHeartbeats 40000000 in
theorem rm3n4_2 (l : Launch) (Z : State) (a0 : Array Value) (hw : ∀ d ∈ tables_1, d.before a0 Z = true) (ws : List Jvm.Cond) (a : Addr) (q : Int64) (r : Addr) (kc : ClassId) (u0 : Int64) (u1 : Int64) (u2 : Int64) (u3 : Int64) (h0 : Heap) (n0 : Nat) (Z0 : n0 ≤ h0.size) (E_a : Exa Z h0 a "com/example/accesstrail/accesstrail/store/AppendOnlyLongs") (F_elements_a : Fld Z h0 a "com/example/accesstrail/accesstrail/store/AppendOnlyLongs" "elements" "[J" (.ref r)) (F_size_a : Fld Z h0 a "com/example/accesstrail/accesstrail/store/AppendOnlyLongs" "size" "I" (.int (2 : Int32))) (V_r : Arv Z h0 r kc .long (4 : Int32) [(.long u0), (.long u1), (.long u2), (.long u3)] (.long (0 : Int64))) (ge_a : n0 ≤ a) (ge_r : n0 ≤ r) (nra : r ≠ a) :
    MetFree l (⟨"com/example/accesstrail/accesstrail/store/AppendOnlyLongs", "add", "(J)V"⟩ : MethodName) (head1 (Jvm.Cond.code (⟨"com/example/accesstrail/accesstrail/store/AppendOnlyLongs", "add", "(J)V"⟩ : MethodName) prog_33_method_2_code 5 none :: ws) ({ frames := 0, cells := 0, slots := 0, locals := 0 } : Room)) (fun zza zzU => zza = #[(.ref a), (.long q)] ∧ Z.Warmed39 zzU.vm ∧ zzU.heap = h0) (fun _ _ _ _ _ => True) (fun _ zzU zzo zzV => ∃ zzv zzL, zzo = .returned zzv ∧ Q3n4_2 Z a q r kc u0 u1 u2 u3 h0 n0 zzv zzV.heap zzL ∧ FrameEnd zzU zzo zzV zzL ({ frames := 0, cells := 0, slots := 0, locals := 0 } : Room).cells ({ frames := 0, cells := 0, slots := 0, locals := 0 } : Room).slots) := by
  refine MetFree.of_bodySF (plainFor_of_name pn_1) hisR ?_
  intro p e s m args below meth c s₁ Bd hml0 hP hK
  obtain ⟨rfl, hZ, hh⟩ := hP
  have hx := Bd.exec
  have hby := Bd.bytes
  have hml : c.maxLocals = 5 := hml0
  have hown : s.vm.findClass "com/example/accesstrail/accesstrail/store/AppendOnlyLongs" = some m.cls := findClass_of_methodNamed Bd.named
  have hnm := (name_of_methodNamed Bd.named Bd.method).1
  have X0 : Stand p l e ({ frames := 0, cells := 0, slots := 0, locals := 0 } : Room) s m #[(.ref a), (.long q)] below meth c s₁ [] 0 0 := Stand.of_body Bd
  have e0 : s₁.heap = h0 := by rw [← hh, Bd.state]; rfl
  have N0 := Fr.nil n0
  have R0 : ∀ t, Steps p.tables e below (s₁.setTop (mkF m 0 #[.val (.ref a), .val (.long q), .second, .unset, .unset] [])) t → Steps p.tables e below (s₁.setTop (entryFrame m #[(.ref a), (.long q)] 5)) t := fun t k => castTop (ef3n4_2 m a q) k
  have KP := Keep.refl h0 [a, r]
  have R1 : ∀ t, Steps p.tables e below (s₁.setTop (mkF m 1 #[.val (.ref a), .val (.long q), .second, .unset, .unset] [(.ref a)])) t → Steps p.tables e below (s₁.setTop (entryFrame m #[(.ref a), (.long q)] 5)) t := by
    intro t k
    refine R0 t ?_
    show Steps p.tables e below (s₁.setTop (mkF m 0 #[.val (.ref a), .val (.long q), .second, .unset, .unset] [])) _
    refine XS.aloadN X0.here hx rfl (hb hby d3_0) rfl rfl ?_
    exact k
  obtain ⟨T2, X2, e2, st2⟩ := getF X0 hx hZ hown (host := "") (Or.inl (hw _ (List.mem_of_getElem? (i := 10) rfl))) Via.refl e0 F_elements_a (g := (mkF m 1 #[.val (.ref a), .val (.long q), .second, .unset, .unset] [(.ref a)])) rfl rfl (hb hby d3_1)
  have R3 : ∀ t, Steps p.tables e below (T2.setTop (mkF m 6 #[.val (.ref a), .val (.long q), .second, .val (.ref r), .unset] [(.ref a)])) t → Steps p.tables e below (s₁.setTop (entryFrame m #[(.ref a), (.long q)] 5)) t := by
    intro t k
    refine R1 t ?_
    show Steps p.tables e below (s₁.setTop (mkF m 1 #[.val (.ref a), .val (.long q), .second, .unset, .unset] [(.ref a)])) _
    refine st2 _ ?_
    show Steps p.tables e below (T2.setTop (mkF m 4 #[.val (.ref a), .val (.long q), .second, .unset, .unset] [(.ref r)])) _
    refine XS.astoreN X2.here hx rfl (hb hby d3_4) rfl rfl (l' := #[.val (.ref a), .val (.long q), .second, .val (.ref r), .unset]) rfl ?_
    show Steps p.tables e below (T2.setTop (mkF m 5 #[.val (.ref a), .val (.long q), .second, .val (.ref r), .unset] [])) _
    refine XS.aloadN X2.here hx rfl (hb hby d3_5) rfl rfl ?_
    exact k
  obtain ⟨T4, X4, e4, st4⟩ := getF X2 hx hZ hown (host := "") (Or.inl (hw _ (List.mem_of_getElem? (i := 17) rfl))) Via.refl e2 F_size_a (g := (mkF m 6 #[.val (.ref a), .val (.long q), .second, .val (.ref r), .unset] [(.ref a)])) rfl rfl (hb hby d3_6)
  have R5 : ∀ t, Steps p.tables e below (T4.setTop (mkF m 14 #[.val (.ref a), .val (.long q), .second, .val (.ref r), .val (.int (2 : Int32))] [(.ref r), (.int (2 : Int32))])) t → Steps p.tables e below (s₁.setTop (entryFrame m #[(.ref a), (.long q)] 5)) t := by
    intro t k
    refine R3 t ?_
    show Steps p.tables e below (T2.setTop (mkF m 6 #[.val (.ref a), .val (.long q), .second, .val (.ref r), .unset] [(.ref a)])) _
    refine st4 _ ?_
    show Steps p.tables e below (T4.setTop (mkF m 9 #[.val (.ref a), .val (.long q), .second, .val (.ref r), .unset] [(.int (2 : Int32))])) _
    refine XS.istore X4.here hx rfl (hb hby d3_9) rfl (l' := #[.val (.ref a), .val (.long q), .second, .val (.ref r), .val (.int (2 : Int32))]) rfl ?_
    show Steps p.tables e below (T4.setTop (mkF m 11 #[.val (.ref a), .val (.long q), .second, .val (.ref r), .val (.int (2 : Int32))] [])) _
    refine XS.iload X4.here hx rfl (hb hby d3_11) rfl ?_
    show Steps p.tables e below (T4.setTop (mkF m 13 #[.val (.ref a), .val (.long q), .second, .val (.ref r), .val (.int (2 : Int32))] [(.int (2 : Int32))])) _
    refine XS.aloadN X4.here hx rfl (hb hby d3_13) rfl rfl ?_
    exact k
  obtain ⟨cl6, Ar6, Aq6, As6, An6, Ah6, Ag6⟩ := id V_r
  have R7 : ∀ t, Steps p.tables e below (T4.setTop (mkF m 31 #[.val (.ref a), .val (.long q), .second, .val (.ref r), .val (.int (2 : Int32))] [(.long q), (.int (2 : Int32)), (.ref r)])) t → Steps p.tables e below (s₁.setTop (entryFrame m #[(.ref a), (.long q)] 5)) t := by
    intro t k
    refine R5 t ?_
    show Steps p.tables e below (T4.setTop (mkF m 14 #[.val (.ref a), .val (.long q), .second, .val (.ref r), .val (.int (2 : Int32))] [(.ref r), (.int (2 : Int32))])) _
    refine X4.arraylength hx (by rw [e4]; exact Ar6.1) (State.isArrayOf_alike hZ.alike Ar6.2.1) (g := (mkF m 14 #[.val (.ref a), .val (.long q), .second, .val (.ref r), .val (.int (2 : Int32))] [(.ref r), (.int (2 : Int32))])) rfl rfl (hb hby d3_14) _ ?_
    rw [len_of As6 An6]
    show Steps p.tables e below (T4.setTop (mkF m 15 #[.val (.ref a), .val (.long q), .second, .val (.ref r), .val (.int (2 : Int32))] [(.int (4 : Int32)), (.int (2 : Int32))])) _
    refine XS.icmpYes X4.here hx rfl (pc0 := 15) (pc' := 27) rfl (hb hby d3_15) rfl (feq (by decide)).2 (by decide) (by decide) ?_
    show Steps p.tables e below (T4.setTop (mkF m 27 #[.val (.ref a), .val (.long q), .second, .val (.ref r), .val (.int (2 : Int32))] [])) _
    refine XS.aloadN X4.here hx rfl (hb hby d3_27) rfl rfl ?_
    show Steps p.tables e below (T4.setTop (mkF m 28 #[.val (.ref a), .val (.long q), .second, .val (.ref r), .val (.int (2 : Int32))] [(.ref r)])) _
    refine XS.iload X4.here hx rfl (hb hby d3_28) rfl ?_
    show Steps p.tables e below (T4.setTop (mkF m 30 #[.val (.ref a), .val (.long q), .second, .val (.ref r), .val (.int (2 : Int32))] [(.int (2 : Int32)), (.ref r)])) _
    refine XS.lloadN X4.here hx rfl (hb hby d3_30) rfl ?_
    exact k
  obtain ⟨cl8, Ar8, Aq8, As8, An8, Ah8, Ag8⟩ := id V_r
  have hin8 : ¬ ((2 : Int32) < 0 ∨ cl8.slots.size ≤ ((2 : Int32)).toNatClampNeg) := inb_of As8 ⟨by decide, by decide⟩
  obtain ⟨T9, h9, X9, e9, W9, st9⟩ := stJ X4 hx hZ e4 Ar8 (j := (2 : Int32)) hin8 (g := (mkF m 31 #[.val (.ref a), .val (.long q), .second, .val (.ref r), .val (.int (2 : Int32))] [(.long q), (.int (2 : Int32)), (.ref r)])) rfl rfl (hb hby d3_31)
  have N9 := Fr.snoc X9 N0 ge_r
  have Sz9 := Nat.le_trans Z0 (Keep.of_wr W9).1
  have E_a := E_a.wr W9
  have F_elements_a := F_elements_a.other W9 (Or.inl nra.symm)
  have F_size_a := F_size_a.other W9 (Or.inl nra.symm)
  have V_r : Arv Z h9 r kc .long (4 : Int32) [(.long u0), (.long u1), (.long q), (.long u3)] (.long (0 : Int64)) := Arv.set Ar8 Aq8 As8 An8 Ah8 Ag8 rfl W9 2 rfl (Nat.le_of_ble_eq_true rfl)
  have KP := KP.wr W9 (Or.inl (List.mem_of_getElem? (i := 1) rfl))
  have R10 : ∀ t, Steps p.tables e below (T9.setTop (mkF m 34 #[.val (.ref a), .val (.long q), .second, .val (.ref r), .val (.int (2 : Int32))] [(.ref r), (.ref a)])) t → Steps p.tables e below (s₁.setTop (entryFrame m #[(.ref a), (.long q)] 5)) t := by
    intro t k
    refine R7 t ?_
    show Steps p.tables e below (T4.setTop (mkF m 31 #[.val (.ref a), .val (.long q), .second, .val (.ref r), .val (.int (2 : Int32))] [(.long q), (.int (2 : Int32)), (.ref r)])) _
    refine st9 _ ?_
    show Steps p.tables e below (T9.setTop (mkF m 32 #[.val (.ref a), .val (.long q), .second, .val (.ref r), .val (.int (2 : Int32))] [])) _
    refine XS.aloadN X9.here hx rfl (hb hby d3_32) rfl rfl ?_
    show Steps p.tables e below (T9.setTop (mkF m 33 #[.val (.ref a), .val (.long q), .second, .val (.ref r), .val (.int (2 : Int32))] [(.ref a)])) _
    refine XS.aloadN X9.here hx rfl (hb hby d3_33) rfl rfl ?_
    exact k
  obtain ⟨T11, h11, X11, e11, W11, st11⟩ := putF X9 hx hZ hown (host := "") (Or.inl (hw _ (List.mem_of_getElem? (i := 10) rfl))) Via.refl e9 F_elements_a E_a (Or.inl (hw _ (List.mem_of_getElem? (i := 11) rfl))) (hw _ (List.mem_of_getElem? (i := 1) rfl)) (ty := (.array .long)) (by decide) rfl rfl (g := (mkF m 34 #[.val (.ref a), .val (.long q), .second, .val (.ref r), .val (.int (2 : Int32))] [(.ref r), (.ref a)])) rfl rfl (hb hby d3_34)
  have N11 := Fr.snoc X11 N9 ge_a
  have Sz11 := Nat.le_trans Sz9 (Keep.of_wr W11).1
  have E_a := E_a.wr W11
  have F_size_a := F_size_a.other W11 (Or.inr (slot_ne (Or.inl (hw _ (List.mem_of_getElem? (i := 18) rfl))) (Or.inl (hw _ (List.mem_of_getElem? (i := 11) rfl))) (by decide) (t := .int) (t' := (.array .long)) (by decide) (by decide)))
  have V_r := V_r.other W11 nra
  have F_elements_a := F_elements_a.same W11
  have KP := KP.wr W11 (Or.inl (List.mem_of_getElem? (i := 0) rfl))
  have R12 : ∀ t, Steps p.tables e below (T11.setTop (mkF m 42 #[.val (.ref a), .val (.long q), .second, .val (.ref r), .val (.int (2 : Int32))] [(.int (3 : Int32)), (.ref a)])) t → Steps p.tables e below (s₁.setTop (entryFrame m #[(.ref a), (.long q)] 5)) t := by
    intro t k
    refine R10 t ?_
    show Steps p.tables e below (T9.setTop (mkF m 34 #[.val (.ref a), .val (.long q), .second, .val (.ref r), .val (.int (2 : Int32))] [(.ref r), (.ref a)])) _
    refine st11 _ ?_
    show Steps p.tables e below (T11.setTop (mkF m 37 #[.val (.ref a), .val (.long q), .second, .val (.ref r), .val (.int (2 : Int32))] [])) _
    refine XS.aloadN X11.here hx rfl (hb hby d3_37) rfl rfl ?_
    show Steps p.tables e below (T11.setTop (mkF m 38 #[.val (.ref a), .val (.long q), .second, .val (.ref r), .val (.int (2 : Int32))] [(.ref a)])) _
    refine XS.iload X11.here hx rfl (hb hby d3_38) rfl ?_
    show Steps p.tables e below (T11.setTop (mkF m 40 #[.val (.ref a), .val (.long q), .second, .val (.ref r), .val (.int (2 : Int32))] [(.int (2 : Int32)), (.ref a)])) _
    refine XS.iconst X11.here hx rfl (hb hby d3_40) ?_
    show Steps p.tables e below (T11.setTop (mkF m 41 #[.val (.ref a), .val (.long q), .second, .val (.ref r), .val (.int (2 : Int32))] [(.int (1 : Int32)), (.int (2 : Int32)), (.ref a)])) _
    refine XS.iadd X11.here hx rfl (hb hby d3_41) rfl ?_
    exact k
  obtain ⟨T13, h13, X13, e13, W13, st13⟩ := putF X11 hx hZ hown (host := "") (Or.inl (hw _ (List.mem_of_getElem? (i := 17) rfl))) Via.refl e11 F_size_a E_a (Or.inl (hw _ (List.mem_of_getElem? (i := 18) rfl))) (hw _ (List.mem_of_getElem? (i := 1) rfl)) (ty := .int) (by decide) rfl rfl (g := (mkF m 42 #[.val (.ref a), .val (.long q), .second, .val (.ref r), .val (.int (2 : Int32))] [(.int (3 : Int32)), (.ref a)])) rfl rfl (hb hby d3_42)
  have N13 := Fr.snoc X13 N11 ge_a
  have Sz13 := Nat.le_trans Sz11 (Keep.of_wr W13).1
  have E_a := E_a.wr W13
  have F_elements_a := F_elements_a.other W13 (Or.inr (slot_ne (Or.inl (hw _ (List.mem_of_getElem? (i := 11) rfl))) (Or.inl (hw _ (List.mem_of_getElem? (i := 18) rfl))) (by decide) (t := (.array .long)) (t' := .int) (by decide) (by decide)))
  have V_r := V_r.other W13 nra
  have F_size_a := F_size_a.same W13
  have KP := KP.wr W13 (Or.inl (List.mem_of_getElem? (i := 0) rfl))
  have R14 : ∀ t, Steps p.tables e below (T13.setTop (mkF m 45 #[.val (.ref a), .val (.long q), .second, .val (.ref r), .val (.int (2 : Int32))] [])) t → Steps p.tables e below (s₁.setTop (entryFrame m #[(.ref a), (.long q)] 5)) t := by
    intro t k
    refine R12 t ?_
    show Steps p.tables e below (T11.setTop (mkF m 42 #[.val (.ref a), .val (.long q), .second, .val (.ref r), .val (.int (2 : Int32))] [(.int (3 : Int32)), (.ref a)])) _
    refine st13 _ ?_
    exact k
  obtain ⟨fs, hr, hrun, hended, hW, hsame⟩ := X13.leave (v := none) (fun _ => rfl)
  refine ⟨_, _, R14 _ ?_, hrun, hended, _, _, rfl, ?_, ⟨_, rfl⟩, hW, hsame.mono (by decide) (by decide)⟩
  · exact X13.returnOut hx Bd.returns (hb hby d3_45) hr
  · show Q3n4_2 Z a q r kc u0 u1 u2 u3 h0 n0 _ T13.heap _
    rw [e13]
    exact ⟨rfl, N13, KP, F_elements_a, F_size_a, V_r⟩
theorem ef3n4_3 (m : MethodId) (x0 : Addr) (x1 : Int64) : entryFrame m #[(.ref x0), (.long x1)] 5 = mkF m 0 #[.val (.ref x0), .val (.long x1), .second, .unset, .unset] [] := by first | (simp [entryFrame, mkF, argsToLocals, Value.category]; done) | rfl
def Q3n4_3 (Z : State) (a : Addr) (q : Int64) (r : Addr) (kc : ClassId) (u0 : Int64) (u1 : Int64) (u2 : Int64) (u3 : Int64) (h0 : Heap) (n0 : Nat) (v : Option Value) (h : Heap) (L : List Loc) : Prop := v = none ∧ Fr n0 L ∧ Keep h0 h [a, r] ∧ Fld Z h a "com/example/accesstrail/accesstrail/store/AppendOnlyLongs" "elements" "[J" (.ref r) ∧ Fld Z h a "com/example/accesstrail/accesstrail/store/AppendOnlyLongs" "size" "I" (.int (4 : Int32)) ∧ Arv Z h r kc .long (4 : Int32) [(.long u0), (.long u1), (.long u2), (.long q)] (.long (0 : Int64))
set_option maxRecDepth 65536 in
set_option maxHeartbeats 40000000 in
theorem rm3n4_3 (l : Launch) (Z : State) (a0 : Array Value) (hw : ∀ d ∈ tables_1, d.before a0 Z = true) (ws : List Jvm.Cond) (a : Addr) (q : Int64) (r : Addr) (kc : ClassId) (u0 : Int64) (u1 : Int64) (u2 : Int64) (u3 : Int64) (h0 : Heap) (n0 : Nat) (Z0 : n0 ≤ h0.size) (E_a : Exa Z h0 a "com/example/accesstrail/accesstrail/store/AppendOnlyLongs") (F_elements_a : Fld Z h0 a "com/example/accesstrail/accesstrail/store/AppendOnlyLongs" "elements" "[J" (.ref r)) (F_size_a : Fld Z h0 a "com/example/accesstrail/accesstrail/store/AppendOnlyLongs" "size" "I" (.int (3 : Int32))) (V_r : Arv Z h0 r kc .long (4 : Int32) [(.long u0), (.long u1), (.long u2), (.long u3)] (.long (0 : Int64))) (ge_a : n0 ≤ a) (ge_r : n0 ≤ r) (nra : r ≠ a) :
    MetFree l (⟨"com/example/accesstrail/accesstrail/store/AppendOnlyLongs", "add", "(J)V"⟩ : MethodName) (head1 (Jvm.Cond.code (⟨"com/example/accesstrail/accesstrail/store/AppendOnlyLongs", "add", "(J)V"⟩ : MethodName) prog_33_method_2_code 5 none :: ws) ({ frames := 0, cells := 0, slots := 0, locals := 0 } : Room)) (fun zza zzU => zza = #[(.ref a), (.long q)] ∧ Z.Warmed39 zzU.vm ∧ zzU.heap = h0) (fun _ _ _ _ _ => True) (fun _ zzU zzo zzV => ∃ zzv zzL, zzo = .returned zzv ∧ Q3n4_3 Z a q r kc u0 u1 u2 u3 h0 n0 zzv zzV.heap zzL ∧ FrameEnd zzU zzo zzV zzL ({ frames := 0, cells := 0, slots := 0, locals := 0 } : Room).cells ({ frames := 0, cells := 0, slots := 0, locals := 0 } : Room).slots) := by
  refine MetFree.of_bodySF (plainFor_of_name pn_1) hisR ?_
  intro p e s m args below meth c s₁ Bd hml0 hP hK
  obtain ⟨rfl, hZ, hh⟩ := hP
  have hx := Bd.exec
  have hby := Bd.bytes
  have hml : c.maxLocals = 5 := hml0
  have hown : s.vm.findClass "com/example/accesstrail/accesstrail/store/AppendOnlyLongs" = some m.cls := findClass_of_methodNamed Bd.named
  have hnm := (name_of_methodNamed Bd.named Bd.method).1
  have X0 : Stand p l e ({ frames := 0, cells := 0, slots := 0, locals := 0 } : Room) s m #[(.ref a), (.long q)] below meth c s₁ [] 0 0 := Stand.of_body Bd
  have e0 : s₁.heap = h0 := by rw [← hh, Bd.state]; rfl
  have N0 := Fr.nil n0
  have R0 : ∀ t, Steps p.tables e below (s₁.setTop (mkF m 0 #[.val (.ref a), .val (.long q), .second, .unset, .unset] [])) t → Steps p.tables e below (s₁.setTop (entryFrame m #[(.ref a), (.long q)] 5)) t := fun t k => castTop (ef3n4_3 m a q) k
  have KP := Keep.refl h0 [a, r]
  have R1 : ∀ t, Steps p.tables e below (s₁.setTop (mkF m 1 #[.val (.ref a), .val (.long q), .second, .unset, .unset] [(.ref a)])) t → Steps p.tables e below (s₁.setTop (entryFrame m #[(.ref a), (.long q)] 5)) t := by
    intro t k
    refine R0 t ?_
    show Steps p.tables e below (s₁.setTop (mkF m 0 #[.val (.ref a), .val (.long q), .second, .unset, .unset] [])) _
    refine XS.aloadN X0.here hx rfl (hb hby d3_0) rfl rfl ?_
    exact k
  obtain ⟨T2, X2, e2, st2⟩ := getF X0 hx hZ hown (host := "") (Or.inl (hw _ (List.mem_of_getElem? (i := 10) rfl))) Via.refl e0 F_elements_a (g := (mkF m 1 #[.val (.ref a), .val (.long q), .second, .unset, .unset] [(.ref a)])) rfl rfl (hb hby d3_1)
  have R3 : ∀ t, Steps p.tables e below (T2.setTop (mkF m 6 #[.val (.ref a), .val (.long q), .second, .val (.ref r), .unset] [(.ref a)])) t → Steps p.tables e below (s₁.setTop (entryFrame m #[(.ref a), (.long q)] 5)) t := by
    intro t k
    refine R1 t ?_
    show Steps p.tables e below (s₁.setTop (mkF m 1 #[.val (.ref a), .val (.long q), .second, .unset, .unset] [(.ref a)])) _
    refine st2 _ ?_
    show Steps p.tables e below (T2.setTop (mkF m 4 #[.val (.ref a), .val (.long q), .second, .unset, .unset] [(.ref r)])) _
    refine XS.astoreN X2.here hx rfl (hb hby d3_4) rfl rfl (l' := #[.val (.ref a), .val (.long q), .second, .val (.ref r), .unset]) rfl ?_
    show Steps p.tables e below (T2.setTop (mkF m 5 #[.val (.ref a), .val (.long q), .second, .val (.ref r), .unset] [])) _
    refine XS.aloadN X2.here hx rfl (hb hby d3_5) rfl rfl ?_
    exact k
  obtain ⟨T4, X4, e4, st4⟩ := getF X2 hx hZ hown (host := "") (Or.inl (hw _ (List.mem_of_getElem? (i := 17) rfl))) Via.refl e2 F_size_a (g := (mkF m 6 #[.val (.ref a), .val (.long q), .second, .val (.ref r), .unset] [(.ref a)])) rfl rfl (hb hby d3_6)
  have R5 : ∀ t, Steps p.tables e below (T4.setTop (mkF m 14 #[.val (.ref a), .val (.long q), .second, .val (.ref r), .val (.int (3 : Int32))] [(.ref r), (.int (3 : Int32))])) t → Steps p.tables e below (s₁.setTop (entryFrame m #[(.ref a), (.long q)] 5)) t := by
    intro t k
    refine R3 t ?_
    show Steps p.tables e below (T2.setTop (mkF m 6 #[.val (.ref a), .val (.long q), .second, .val (.ref r), .unset] [(.ref a)])) _
    refine st4 _ ?_
    show Steps p.tables e below (T4.setTop (mkF m 9 #[.val (.ref a), .val (.long q), .second, .val (.ref r), .unset] [(.int (3 : Int32))])) _
    refine XS.istore X4.here hx rfl (hb hby d3_9) rfl (l' := #[.val (.ref a), .val (.long q), .second, .val (.ref r), .val (.int (3 : Int32))]) rfl ?_
    show Steps p.tables e below (T4.setTop (mkF m 11 #[.val (.ref a), .val (.long q), .second, .val (.ref r), .val (.int (3 : Int32))] [])) _
    refine XS.iload X4.here hx rfl (hb hby d3_11) rfl ?_
    show Steps p.tables e below (T4.setTop (mkF m 13 #[.val (.ref a), .val (.long q), .second, .val (.ref r), .val (.int (3 : Int32))] [(.int (3 : Int32))])) _
    refine XS.aloadN X4.here hx rfl (hb hby d3_13) rfl rfl ?_
    exact k
  obtain ⟨cl6, Ar6, Aq6, As6, An6, Ah6, Ag6⟩ := id V_r
  have R7 : ∀ t, Steps p.tables e below (T4.setTop (mkF m 31 #[.val (.ref a), .val (.long q), .second, .val (.ref r), .val (.int (3 : Int32))] [(.long q), (.int (3 : Int32)), (.ref r)])) t → Steps p.tables e below (s₁.setTop (entryFrame m #[(.ref a), (.long q)] 5)) t := by
    intro t k
    refine R5 t ?_
    show Steps p.tables e below (T4.setTop (mkF m 14 #[.val (.ref a), .val (.long q), .second, .val (.ref r), .val (.int (3 : Int32))] [(.ref r), (.int (3 : Int32))])) _
    refine X4.arraylength hx (by rw [e4]; exact Ar6.1) (State.isArrayOf_alike hZ.alike Ar6.2.1) (g := (mkF m 14 #[.val (.ref a), .val (.long q), .second, .val (.ref r), .val (.int (3 : Int32))] [(.ref r), (.int (3 : Int32))])) rfl rfl (hb hby d3_14) _ ?_
    rw [len_of As6 An6]
    show Steps p.tables e below (T4.setTop (mkF m 15 #[.val (.ref a), .val (.long q), .second, .val (.ref r), .val (.int (3 : Int32))] [(.int (4 : Int32)), (.int (3 : Int32))])) _
    refine XS.icmpYes X4.here hx rfl (pc0 := 15) (pc' := 27) rfl (hb hby d3_15) rfl (feq (by decide)).2 (by decide) (by decide) ?_
    show Steps p.tables e below (T4.setTop (mkF m 27 #[.val (.ref a), .val (.long q), .second, .val (.ref r), .val (.int (3 : Int32))] [])) _
    refine XS.aloadN X4.here hx rfl (hb hby d3_27) rfl rfl ?_
    show Steps p.tables e below (T4.setTop (mkF m 28 #[.val (.ref a), .val (.long q), .second, .val (.ref r), .val (.int (3 : Int32))] [(.ref r)])) _
    refine XS.iload X4.here hx rfl (hb hby d3_28) rfl ?_
    show Steps p.tables e below (T4.setTop (mkF m 30 #[.val (.ref a), .val (.long q), .second, .val (.ref r), .val (.int (3 : Int32))] [(.int (3 : Int32)), (.ref r)])) _
    refine XS.lloadN X4.here hx rfl (hb hby d3_30) rfl ?_
    exact k
  obtain ⟨cl8, Ar8, Aq8, As8, An8, Ah8, Ag8⟩ := id V_r
  have hin8 : ¬ ((3 : Int32) < 0 ∨ cl8.slots.size ≤ ((3 : Int32)).toNatClampNeg) := inb_of As8 ⟨by decide, by decide⟩
  obtain ⟨T9, h9, X9, e9, W9, st9⟩ := stJ X4 hx hZ e4 Ar8 (j := (3 : Int32)) hin8 (g := (mkF m 31 #[.val (.ref a), .val (.long q), .second, .val (.ref r), .val (.int (3 : Int32))] [(.long q), (.int (3 : Int32)), (.ref r)])) rfl rfl (hb hby d3_31)
  have N9 := Fr.snoc X9 N0 ge_r
  have Sz9 := Nat.le_trans Z0 (Keep.of_wr W9).1
  have E_a := E_a.wr W9
  have F_elements_a := F_elements_a.other W9 (Or.inl nra.symm)
  have F_size_a := F_size_a.other W9 (Or.inl nra.symm)
  have V_r : Arv Z h9 r kc .long (4 : Int32) [(.long u0), (.long u1), (.long u2), (.long q)] (.long (0 : Int64)) := Arv.set Ar8 Aq8 As8 An8 Ah8 Ag8 rfl W9 3 rfl (Nat.le_of_ble_eq_true rfl)
  have KP := KP.wr W9 (Or.inl (List.mem_of_getElem? (i := 1) rfl))
  have R10 : ∀ t, Steps p.tables e below (T9.setTop (mkF m 34 #[.val (.ref a), .val (.long q), .second, .val (.ref r), .val (.int (3 : Int32))] [(.ref r), (.ref a)])) t → Steps p.tables e below (s₁.setTop (entryFrame m #[(.ref a), (.long q)] 5)) t := by
    intro t k
    refine R7 t ?_
    show Steps p.tables e below (T4.setTop (mkF m 31 #[.val (.ref a), .val (.long q), .second, .val (.ref r), .val (.int (3 : Int32))] [(.long q), (.int (3 : Int32)), (.ref r)])) _
    refine st9 _ ?_
    show Steps p.tables e below (T9.setTop (mkF m 32 #[.val (.ref a), .val (.long q), .second, .val (.ref r), .val (.int (3 : Int32))] [])) _
    refine XS.aloadN X9.here hx rfl (hb hby d3_32) rfl rfl ?_
    show Steps p.tables e below (T9.setTop (mkF m 33 #[.val (.ref a), .val (.long q), .second, .val (.ref r), .val (.int (3 : Int32))] [(.ref a)])) _
    refine XS.aloadN X9.here hx rfl (hb hby d3_33) rfl rfl ?_
    exact k
  obtain ⟨T11, h11, X11, e11, W11, st11⟩ := putF X9 hx hZ hown (host := "") (Or.inl (hw _ (List.mem_of_getElem? (i := 10) rfl))) Via.refl e9 F_elements_a E_a (Or.inl (hw _ (List.mem_of_getElem? (i := 11) rfl))) (hw _ (List.mem_of_getElem? (i := 1) rfl)) (ty := (.array .long)) (by decide) rfl rfl (g := (mkF m 34 #[.val (.ref a), .val (.long q), .second, .val (.ref r), .val (.int (3 : Int32))] [(.ref r), (.ref a)])) rfl rfl (hb hby d3_34)
  have N11 := Fr.snoc X11 N9 ge_a
  have Sz11 := Nat.le_trans Sz9 (Keep.of_wr W11).1
  have E_a := E_a.wr W11
  have F_size_a := F_size_a.other W11 (Or.inr (slot_ne (Or.inl (hw _ (List.mem_of_getElem? (i := 18) rfl))) (Or.inl (hw _ (List.mem_of_getElem? (i := 11) rfl))) (by decide) (t := .int) (t' := (.array .long)) (by decide) (by decide)))
  have V_r := V_r.other W11 nra
  have F_elements_a := F_elements_a.same W11
  have KP := KP.wr W11 (Or.inl (List.mem_of_getElem? (i := 0) rfl))
  have R12 : ∀ t, Steps p.tables e below (T11.setTop (mkF m 42 #[.val (.ref a), .val (.long q), .second, .val (.ref r), .val (.int (3 : Int32))] [(.int (4 : Int32)), (.ref a)])) t → Steps p.tables e below (s₁.setTop (entryFrame m #[(.ref a), (.long q)] 5)) t := by
    intro t k
    refine R10 t ?_
    show Steps p.tables e below (T9.setTop (mkF m 34 #[.val (.ref a), .val (.long q), .second, .val (.ref r), .val (.int (3 : Int32))] [(.ref r), (.ref a)])) _
    refine st11 _ ?_
    show Steps p.tables e below (T11.setTop (mkF m 37 #[.val (.ref a), .val (.long q), .second, .val (.ref r), .val (.int (3 : Int32))] [])) _
    refine XS.aloadN X11.here hx rfl (hb hby d3_37) rfl rfl ?_
    show Steps p.tables e below (T11.setTop (mkF m 38 #[.val (.ref a), .val (.long q), .second, .val (.ref r), .val (.int (3 : Int32))] [(.ref a)])) _
    refine XS.iload X11.here hx rfl (hb hby d3_38) rfl ?_
    show Steps p.tables e below (T11.setTop (mkF m 40 #[.val (.ref a), .val (.long q), .second, .val (.ref r), .val (.int (3 : Int32))] [(.int (3 : Int32)), (.ref a)])) _
    refine XS.iconst X11.here hx rfl (hb hby d3_40) ?_
    show Steps p.tables e below (T11.setTop (mkF m 41 #[.val (.ref a), .val (.long q), .second, .val (.ref r), .val (.int (3 : Int32))] [(.int (1 : Int32)), (.int (3 : Int32)), (.ref a)])) _
    refine XS.iadd X11.here hx rfl (hb hby d3_41) rfl ?_
    exact k
  obtain ⟨T13, h13, X13, e13, W13, st13⟩ := putF X11 hx hZ hown (host := "") (Or.inl (hw _ (List.mem_of_getElem? (i := 17) rfl))) Via.refl e11 F_size_a E_a (Or.inl (hw _ (List.mem_of_getElem? (i := 18) rfl))) (hw _ (List.mem_of_getElem? (i := 1) rfl)) (ty := .int) (by decide) rfl rfl (g := (mkF m 42 #[.val (.ref a), .val (.long q), .second, .val (.ref r), .val (.int (3 : Int32))] [(.int (4 : Int32)), (.ref a)])) rfl rfl (hb hby d3_42)
  have N13 := Fr.snoc X13 N11 ge_a
  have Sz13 := Nat.le_trans Sz11 (Keep.of_wr W13).1
  have E_a := E_a.wr W13
  have F_elements_a := F_elements_a.other W13 (Or.inr (slot_ne (Or.inl (hw _ (List.mem_of_getElem? (i := 11) rfl))) (Or.inl (hw _ (List.mem_of_getElem? (i := 18) rfl))) (by decide) (t := (.array .long)) (t' := .int) (by decide) (by decide)))
  have V_r := V_r.other W13 nra
  have F_size_a := F_size_a.same W13
  have KP := KP.wr W13 (Or.inl (List.mem_of_getElem? (i := 0) rfl))
  have R14 : ∀ t, Steps p.tables e below (T13.setTop (mkF m 45 #[.val (.ref a), .val (.long q), .second, .val (.ref r), .val (.int (3 : Int32))] [])) t → Steps p.tables e below (s₁.setTop (entryFrame m #[(.ref a), (.long q)] 5)) t := by
    intro t k
    refine R12 t ?_
    show Steps p.tables e below (T11.setTop (mkF m 42 #[.val (.ref a), .val (.long q), .second, .val (.ref r), .val (.int (3 : Int32))] [(.int (4 : Int32)), (.ref a)])) _
    refine st13 _ ?_
    exact k
  obtain ⟨fs, hr, hrun, hended, hW, hsame⟩ := X13.leave (v := none) (fun _ => rfl)
  refine ⟨_, _, R14 _ ?_, hrun, hended, _, _, rfl, ?_, ⟨_, rfl⟩, hW, hsame.mono (by decide) (by decide)⟩
  · exact X13.returnOut hx Bd.returns (hb hby d3_45) hr
  · show Q3n4_3 Z a q r kc u0 u1 u2 u3 h0 n0 _ T13.heap _
    rw [e13]
    exact ⟨rfl, N13, KP, F_elements_a, F_size_a, V_r⟩
theorem ef6 (m : MethodId) (x0 : Addr) : entryFrame m #[(.ref x0)] 1 = mkF m 0 #[.val (.ref x0)] [] := by first | (simp [entryFrame, mkF, argsToLocals, Value.category]; done) | rfl
theorem d6_0 : decode prog_33_method_3_code 0 = .ok (.aload_n 0, 1) := by decide +kernel
theorem d6_1 : decode prog_33_method_3_code 1 = .ok (.getfield 13, 3) := by decide +kernel
theorem d6_4 : decode prog_33_method_3_code 4 = .ok (.ireturn, 1) := by decide +kernel
def Q6 (Z : State) (a : Addr) (kk : Int32) (h0 : Heap) (n0 : Nat) (v : Option Value) (h : Heap) (L : List Loc) : Prop := v = some (.int kk) ∧ Fr n0 L ∧ h = h0
set_option maxRecDepth 65536 in
set_option maxHeartbeats 40000000 in
theorem rm6 (l : Launch) (Z : State) (a0 : Array Value) (hw : ∀ d ∈ tables_1, d.before a0 Z = true) (ws : List Jvm.Cond) (a : Addr) (kk : Int32) (h0 : Heap) (n0 : Nat) (Z0 : n0 ≤ h0.size) (F_size_a : Fld Z h0 a "com/example/accesstrail/accesstrail/store/AppendOnlyLongs" "size" "I" (.int kk)) :
    MetFree l (⟨"com/example/accesstrail/accesstrail/store/AppendOnlyLongs", "size", "()I"⟩ : MethodName) (head1 (Jvm.Cond.code (⟨"com/example/accesstrail/accesstrail/store/AppendOnlyLongs", "size", "()I"⟩ : MethodName) prog_33_method_3_code 1 (some .int) :: ws) ({ frames := 0, cells := 0, slots := 0, locals := 0 } : Room)) (fun zza zzU => zza = #[(.ref a)] ∧ Z.Warmed39 zzU.vm ∧ zzU.heap = h0) (fun _ _ _ _ _ => True) (fun _ zzU zzo zzV => ∃ zzv zzL, zzo = .returned zzv ∧ Q6 Z a kk h0 n0 zzv zzV.heap zzL ∧ FrameEnd zzU zzo zzV zzL ({ frames := 0, cells := 0, slots := 0, locals := 0 } : Room).cells ({ frames := 0, cells := 0, slots := 0, locals := 0 } : Room).slots) := by
  refine MetFree.of_bodySF (plainFor_of_name pn_1) hisR ?_
  intro p e s m args below meth c s₁ Bd hml0 hP hK
  obtain ⟨rfl, hZ, hh⟩ := hP
  have hx := Bd.exec
  have hby := Bd.bytes
  have hml : c.maxLocals = 1 := hml0
  have hown : s.vm.findClass "com/example/accesstrail/accesstrail/store/AppendOnlyLongs" = some m.cls := findClass_of_methodNamed Bd.named
  have hnm := (name_of_methodNamed Bd.named Bd.method).1
  have X0 : Stand p l e ({ frames := 0, cells := 0, slots := 0, locals := 0 } : Room) s m #[(.ref a)] below meth c s₁ [] 0 0 := Stand.of_body Bd
  have e0 : s₁.heap = h0 := by rw [← hh, Bd.state]; rfl
  have N0 := Fr.nil n0
  have R0 : ∀ t, Steps p.tables e below (s₁.setTop (mkF m 0 #[.val (.ref a)] [])) t → Steps p.tables e below (s₁.setTop (entryFrame m #[(.ref a)] 1)) t := fun t k => castTop (ef6 m a) k
  have R1 : ∀ t, Steps p.tables e below (s₁.setTop (mkF m 1 #[.val (.ref a)] [(.ref a)])) t → Steps p.tables e below (s₁.setTop (entryFrame m #[(.ref a)] 1)) t := by
    intro t k
    refine R0 t ?_
    show Steps p.tables e below (s₁.setTop (mkF m 0 #[.val (.ref a)] [])) _
    refine XS.aloadN X0.here hx rfl (hb hby d6_0) rfl rfl ?_
    exact k
  obtain ⟨T2, X2, e2, st2⟩ := getF X0 hx hZ hown (host := "") (Or.inl (hw _ (List.mem_of_getElem? (i := 17) rfl))) Via.refl e0 F_size_a (g := (mkF m 1 #[.val (.ref a)] [(.ref a)])) rfl rfl (hb hby d6_1)
  have R3 : ∀ t, Steps p.tables e below (T2.setTop (mkF m 4 #[.val (.ref a)] [(.int kk)])) t → Steps p.tables e below (s₁.setTop (entryFrame m #[(.ref a)] 1)) t := by
    intro t k
    refine R1 t ?_
    show Steps p.tables e below (s₁.setTop (mkF m 1 #[.val (.ref a)] [(.ref a)])) _
    refine st2 _ ?_
    exact k
  obtain ⟨fs, hr, hrun, hended, hW, hsame⟩ := X2.leave (v := some (.int kk)) (fun h => by rw [Bd.returns] at h; cases h)
  refine ⟨_, _, R3 _ ?_, hrun, hended, _, _, rfl, ?_, ⟨_, rfl⟩, hW, hsame.mono (by decide) (by decide)⟩
  · exact retI X2 hx Bd.returns (hb hby d6_4) hr
  · show Q6 Z a kk h0 n0 _ T2.heap _
    rw [e2]
    exact ⟨rfl, N0, rfl⟩
theorem ef7n4_0 (m : MethodId) (x0 : Addr) (x1 : Int32) : entryFrame m #[(.ref x0), (.int x1)] 2 = mkF m 0 #[.val (.ref x0), .val (.int x1)] [] := by first | (simp [entryFrame, mkF, argsToLocals, Value.category]; done) | rfl
theorem d7_0 : decode prog_33_method_4_code 0 = .ok (.aload_n 0, 1) := by decide +kernel
theorem d7_1 : decode prog_33_method_4_code 1 = .ok (.getfield 7, 3) := by decide +kernel
theorem d7_4 : decode prog_33_method_4_code 4 = .ok (.iload_n 1, 1) := by decide +kernel
theorem d7_5 : decode prog_33_method_4_code 5 = .ok (.laload, 1) := by decide +kernel
theorem d7_6 : decode prog_33_method_4_code 6 = .ok (.lreturn, 1) := by decide +kernel
def Q7n4_0 (Z : State) (a : Addr) (jj : Int32) (r : Addr) (kc : ClassId) (u0 : Int64) (u1 : Int64) (u2 : Int64) (u3 : Int64) (h0 : Heap) (n0 : Nat) (v : Option Value) (h : Heap) (L : List Loc) : Prop := v = some (.long u0) ∧ Fr n0 L ∧ h = h0
set_option maxRecDepth 65536 in
set_option maxHeartbeats 40000000 in
theorem rm7n4_0 (l : Launch) (Z : State) (a0 : Array Value) (hw : ∀ d ∈ tables_1, d.before a0 Z = true) (ws : List Jvm.Cond) (a : Addr) (jj : Int32) (r : Addr) (kc : ClassId) (u0 : Int64) (u1 : Int64) (u2 : Int64) (u3 : Int64) (h0 : Heap) (n0 : Nat) (Z0 : n0 ≤ h0.size) (F_elements_a : Fld Z h0 a "com/example/accesstrail/accesstrail/store/AppendOnlyLongs" "elements" "[J" (.ref r)) (V_r : Arv Z h0 r kc .long (4 : Int32) [(.long u0), (.long u1), (.long u2), (.long u3)] (.long (0 : Int64))) (hjj : jj = (0 : Int32)) :
    MetFree l (⟨"com/example/accesstrail/accesstrail/store/AppendOnlyLongs", "get", "(I)J"⟩ : MethodName) (head1 (Jvm.Cond.code (⟨"com/example/accesstrail/accesstrail/store/AppendOnlyLongs", "get", "(I)J"⟩ : MethodName) prog_33_method_4_code 2 (some .long) :: ws) ({ frames := 0, cells := 0, slots := 0, locals := 0 } : Room)) (fun zza zzU => zza = #[(.ref a), (.int jj)] ∧ Z.Warmed39 zzU.vm ∧ zzU.heap = h0) (fun _ _ _ _ _ => True) (fun _ zzU zzo zzV => ∃ zzv zzL, zzo = .returned zzv ∧ Q7n4_0 Z a jj r kc u0 u1 u2 u3 h0 n0 zzv zzV.heap zzL ∧ FrameEnd zzU zzo zzV zzL ({ frames := 0, cells := 0, slots := 0, locals := 0 } : Room).cells ({ frames := 0, cells := 0, slots := 0, locals := 0 } : Room).slots) := by
  refine MetFree.of_bodySF (plainFor_of_name pn_1) hisR ?_
  intro p e s m args below meth c s₁ Bd hml0 hP hK
  obtain ⟨rfl, hZ, hh⟩ := hP
  have hx := Bd.exec
  have hby := Bd.bytes
  have hml : c.maxLocals = 2 := hml0
  have hown : s.vm.findClass "com/example/accesstrail/accesstrail/store/AppendOnlyLongs" = some m.cls := findClass_of_methodNamed Bd.named
  have hnm := (name_of_methodNamed Bd.named Bd.method).1
  have X0 : Stand p l e ({ frames := 0, cells := 0, slots := 0, locals := 0 } : Room) s m #[(.ref a), (.int jj)] below meth c s₁ [] 0 0 := Stand.of_body Bd
  have e0 : s₁.heap = h0 := by rw [← hh, Bd.state]; rfl
  have N0 := Fr.nil n0
  have R0 : ∀ t, Steps p.tables e below (s₁.setTop (mkF m 0 #[.val (.ref a), .val (.int jj)] [])) t → Steps p.tables e below (s₁.setTop (entryFrame m #[(.ref a), (.int jj)] 2)) t := fun t k => castTop (ef7n4_0 m a jj) k
  subst hjj
  have R1 : ∀ t, Steps p.tables e below (s₁.setTop (mkF m 1 #[.val (.ref a), .val (.int (0 : Int32))] [(.ref a)])) t → Steps p.tables e below (s₁.setTop (entryFrame m #[(.ref a), (.int (0 : Int32))] 2)) t := by
    intro t k
    refine R0 t ?_
    show Steps p.tables e below (s₁.setTop (mkF m 0 #[.val (.ref a), .val (.int (0 : Int32))] [])) _
    refine XS.aloadN X0.here hx rfl (hb hby d7_0) rfl rfl ?_
    exact k
  obtain ⟨T2, X2, e2, st2⟩ := getF X0 hx hZ hown (host := "") (Or.inl (hw _ (List.mem_of_getElem? (i := 10) rfl))) Via.refl e0 F_elements_a (g := (mkF m 1 #[.val (.ref a), .val (.int (0 : Int32))] [(.ref a)])) rfl rfl (hb hby d7_1)
  have R3 : ∀ t, Steps p.tables e below (T2.setTop (mkF m 5 #[.val (.ref a), .val (.int (0 : Int32))] [(.int (0 : Int32)), (.ref r)])) t → Steps p.tables e below (s₁.setTop (entryFrame m #[(.ref a), (.int (0 : Int32))] 2)) t := by
    intro t k
    refine R1 t ?_
    show Steps p.tables e below (s₁.setTop (mkF m 1 #[.val (.ref a), .val (.int (0 : Int32))] [(.ref a)])) _
    refine st2 _ ?_
    show Steps p.tables e below (T2.setTop (mkF m 4 #[.val (.ref a), .val (.int (0 : Int32))] [(.ref r)])) _
    refine XS.iloadN X2.here hx rfl (hb hby d7_4) rfl ?_
    exact k
  obtain ⟨cl4, Ar4, Aq4, As4, An4, Ah4, Ag4⟩ := id V_r
  have hin4 : ¬ ((0 : Int32) < 0 ∨ cl4.slots.size ≤ ((0 : Int32)).toNatClampNeg) := inb_of As4 ⟨by decide, by decide⟩
  have hat4 : cl4.slots[((0 : Int32)).toNatClampNeg]? = some (.long u0) := Has.at Ah4 hin4 rfl
  have R5 : ∀ t, Steps p.tables e below (T2.setTop (mkF m 6 #[.val (.ref a), .val (.int (0 : Int32))] [(.long u0)])) t → Steps p.tables e below (s₁.setTop (entryFrame m #[(.ref a), (.int (0 : Int32))] 2)) t := by
    intro t k
    refine R3 t ?_
    show Steps p.tables e below (T2.setTop (mkF m 5 #[.val (.ref a), .val (.int (0 : Int32))] [(.int (0 : Int32)), (.ref r)])) _
    refine X2.laload hx (j := (0 : Int32)) (v := (.long u0)) (by rw [e2]; exact Ar4.1) (State.isArrayOf_alike hZ.alike Ar4.2.1) Ar4.2.2 hin4 hat4 (g := (mkF m 5 #[.val (.ref a), .val (.int (0 : Int32))] [(.int (0 : Int32)), (.ref r)])) rfl rfl (hb hby d7_5) _ ?_
    exact k
  obtain ⟨fs, hr, hrun, hended, hW, hsame⟩ := X2.leave (v := some (.long u0)) (fun h => by rw [Bd.returns] at h; cases h)
  refine ⟨_, _, R5 _ ?_, hrun, hended, _, _, rfl, ?_, ⟨_, rfl⟩, hW, hsame.mono (by decide) (by decide)⟩
  · exact retOut X2 hx Bd.returns rfl (Or.inr (Or.inl ⟨rfl, rfl, _, rfl⟩)) (hb hby d7_6) hr
  · show Q7n4_0 Z a (0 : Int32) r kc u0 u1 u2 u3 h0 n0 _ T2.heap _
    rw [e2]
    exact ⟨rfl, N0, rfl⟩
theorem ef7n4_1 (m : MethodId) (x0 : Addr) (x1 : Int32) : entryFrame m #[(.ref x0), (.int x1)] 2 = mkF m 0 #[.val (.ref x0), .val (.int x1)] [] := by first | (simp [entryFrame, mkF, argsToLocals, Value.category]; done) | rfl
def Q7n4_1 (Z : State) (a : Addr) (jj : Int32) (r : Addr) (kc : ClassId) (u0 : Int64) (u1 : Int64) (u2 : Int64) (u3 : Int64) (h0 : Heap) (n0 : Nat) (v : Option Value) (h : Heap) (L : List Loc) : Prop := v = some (.long u1) ∧ Fr n0 L ∧ h = h0
set_option maxRecDepth 65536 in
set_option maxHeartbeats 40000000 in
theorem rm7n4_1 (l : Launch) (Z : State) (a0 : Array Value) (hw : ∀ d ∈ tables_1, d.before a0 Z = true) (ws : List Jvm.Cond) (a : Addr) (jj : Int32) (r : Addr) (kc : ClassId) (u0 : Int64) (u1 : Int64) (u2 : Int64) (u3 : Int64) (h0 : Heap) (n0 : Nat) (Z0 : n0 ≤ h0.size) (F_elements_a : Fld Z h0 a "com/example/accesstrail/accesstrail/store/AppendOnlyLongs" "elements" "[J" (.ref r)) (V_r : Arv Z h0 r kc .long (4 : Int32) [(.long u0), (.long u1), (.long u2), (.long u3)] (.long (0 : Int64))) (hjj : jj = (1 : Int32)) :
    MetFree l (⟨"com/example/accesstrail/accesstrail/store/AppendOnlyLongs", "get", "(I)J"⟩ : MethodName) (head1 (Jvm.Cond.code (⟨"com/example/accesstrail/accesstrail/store/AppendOnlyLongs", "get", "(I)J"⟩ : MethodName) prog_33_method_4_code 2 (some .long) :: ws) ({ frames := 0, cells := 0, slots := 0, locals := 0 } : Room)) (fun zza zzU => zza = #[(.ref a), (.int jj)] ∧ Z.Warmed39 zzU.vm ∧ zzU.heap = h0) (fun _ _ _ _ _ => True) (fun _ zzU zzo zzV => ∃ zzv zzL, zzo = .returned zzv ∧ Q7n4_1 Z a jj r kc u0 u1 u2 u3 h0 n0 zzv zzV.heap zzL ∧ FrameEnd zzU zzo zzV zzL ({ frames := 0, cells := 0, slots := 0, locals := 0 } : Room).cells ({ frames := 0, cells := 0, slots := 0, locals := 0 } : Room).slots) := by
  refine MetFree.of_bodySF (plainFor_of_name pn_1) hisR ?_
  intro p e s m args below meth c s₁ Bd hml0 hP hK
  obtain ⟨rfl, hZ, hh⟩ := hP
  have hx := Bd.exec
  have hby := Bd.bytes
  have hml : c.maxLocals = 2 := hml0
  have hown : s.vm.findClass "com/example/accesstrail/accesstrail/store/AppendOnlyLongs" = some m.cls := findClass_of_methodNamed Bd.named
  have hnm := (name_of_methodNamed Bd.named Bd.method).1
  have X0 : Stand p l e ({ frames := 0, cells := 0, slots := 0, locals := 0 } : Room) s m #[(.ref a), (.int jj)] below meth c s₁ [] 0 0 := Stand.of_body Bd
  have e0 : s₁.heap = h0 := by rw [← hh, Bd.state]; rfl
  have N0 := Fr.nil n0
  have R0 : ∀ t, Steps p.tables e below (s₁.setTop (mkF m 0 #[.val (.ref a), .val (.int jj)] [])) t → Steps p.tables e below (s₁.setTop (entryFrame m #[(.ref a), (.int jj)] 2)) t := fun t k => castTop (ef7n4_1 m a jj) k
  subst hjj
  have R1 : ∀ t, Steps p.tables e below (s₁.setTop (mkF m 1 #[.val (.ref a), .val (.int (1 : Int32))] [(.ref a)])) t → Steps p.tables e below (s₁.setTop (entryFrame m #[(.ref a), (.int (1 : Int32))] 2)) t := by
    intro t k
    refine R0 t ?_
    show Steps p.tables e below (s₁.setTop (mkF m 0 #[.val (.ref a), .val (.int (1 : Int32))] [])) _
    refine XS.aloadN X0.here hx rfl (hb hby d7_0) rfl rfl ?_
    exact k
  obtain ⟨T2, X2, e2, st2⟩ := getF X0 hx hZ hown (host := "") (Or.inl (hw _ (List.mem_of_getElem? (i := 10) rfl))) Via.refl e0 F_elements_a (g := (mkF m 1 #[.val (.ref a), .val (.int (1 : Int32))] [(.ref a)])) rfl rfl (hb hby d7_1)
  have R3 : ∀ t, Steps p.tables e below (T2.setTop (mkF m 5 #[.val (.ref a), .val (.int (1 : Int32))] [(.int (1 : Int32)), (.ref r)])) t → Steps p.tables e below (s₁.setTop (entryFrame m #[(.ref a), (.int (1 : Int32))] 2)) t := by
    intro t k
    refine R1 t ?_
    show Steps p.tables e below (s₁.setTop (mkF m 1 #[.val (.ref a), .val (.int (1 : Int32))] [(.ref a)])) _
    refine st2 _ ?_
    show Steps p.tables e below (T2.setTop (mkF m 4 #[.val (.ref a), .val (.int (1 : Int32))] [(.ref r)])) _
    refine XS.iloadN X2.here hx rfl (hb hby d7_4) rfl ?_
    exact k
  obtain ⟨cl4, Ar4, Aq4, As4, An4, Ah4, Ag4⟩ := id V_r
  have hin4 : ¬ ((1 : Int32) < 0 ∨ cl4.slots.size ≤ ((1 : Int32)).toNatClampNeg) := inb_of As4 ⟨by decide, by decide⟩
  have hat4 : cl4.slots[((1 : Int32)).toNatClampNeg]? = some (.long u1) := Has.at Ah4 hin4 rfl
  have R5 : ∀ t, Steps p.tables e below (T2.setTop (mkF m 6 #[.val (.ref a), .val (.int (1 : Int32))] [(.long u1)])) t → Steps p.tables e below (s₁.setTop (entryFrame m #[(.ref a), (.int (1 : Int32))] 2)) t := by
    intro t k
    refine R3 t ?_
    show Steps p.tables e below (T2.setTop (mkF m 5 #[.val (.ref a), .val (.int (1 : Int32))] [(.int (1 : Int32)), (.ref r)])) _
    refine X2.laload hx (j := (1 : Int32)) (v := (.long u1)) (by rw [e2]; exact Ar4.1) (State.isArrayOf_alike hZ.alike Ar4.2.1) Ar4.2.2 hin4 hat4 (g := (mkF m 5 #[.val (.ref a), .val (.int (1 : Int32))] [(.int (1 : Int32)), (.ref r)])) rfl rfl (hb hby d7_5) _ ?_
    exact k
  obtain ⟨fs, hr, hrun, hended, hW, hsame⟩ := X2.leave (v := some (.long u1)) (fun h => by rw [Bd.returns] at h; cases h)
  refine ⟨_, _, R5 _ ?_, hrun, hended, _, _, rfl, ?_, ⟨_, rfl⟩, hW, hsame.mono (by decide) (by decide)⟩
  · exact retOut X2 hx Bd.returns rfl (Or.inr (Or.inl ⟨rfl, rfl, _, rfl⟩)) (hb hby d7_6) hr
  · show Q7n4_1 Z a (1 : Int32) r kc u0 u1 u2 u3 h0 n0 _ T2.heap _
    rw [e2]
    exact ⟨rfl, N0, rfl⟩
theorem ef7n4_2 (m : MethodId) (x0 : Addr) (x1 : Int32) : entryFrame m #[(.ref x0), (.int x1)] 2 = mkF m 0 #[.val (.ref x0), .val (.int x1)] [] := by first | (simp [entryFrame, mkF, argsToLocals, Value.category]; done) | rfl
def Q7n4_2 (Z : State) (a : Addr) (jj : Int32) (r : Addr) (kc : ClassId) (u0 : Int64) (u1 : Int64) (u2 : Int64) (u3 : Int64) (h0 : Heap) (n0 : Nat) (v : Option Value) (h : Heap) (L : List Loc) : Prop := v = some (.long u2) ∧ Fr n0 L ∧ h = h0
set_option maxRecDepth 65536 in
set_option maxHeartbeats 40000000 in
theorem rm7n4_2 (l : Launch) (Z : State) (a0 : Array Value) (hw : ∀ d ∈ tables_1, d.before a0 Z = true) (ws : List Jvm.Cond) (a : Addr) (jj : Int32) (r : Addr) (kc : ClassId) (u0 : Int64) (u1 : Int64) (u2 : Int64) (u3 : Int64) (h0 : Heap) (n0 : Nat) (Z0 : n0 ≤ h0.size) (F_elements_a : Fld Z h0 a "com/example/accesstrail/accesstrail/store/AppendOnlyLongs" "elements" "[J" (.ref r)) (V_r : Arv Z h0 r kc .long (4 : Int32) [(.long u0), (.long u1), (.long u2), (.long u3)] (.long (0 : Int64))) (hjj : jj = (2 : Int32)) :
    MetFree l (⟨"com/example/accesstrail/accesstrail/store/AppendOnlyLongs", "get", "(I)J"⟩ : MethodName) (head1 (Jvm.Cond.code (⟨"com/example/accesstrail/accesstrail/store/AppendOnlyLongs", "get", "(I)J"⟩ : MethodName) prog_33_method_4_code 2 (some .long) :: ws) ({ frames := 0, cells := 0, slots := 0, locals := 0 } : Room)) (fun zza zzU => zza = #[(.ref a), (.int jj)] ∧ Z.Warmed39 zzU.vm ∧ zzU.heap = h0) (fun _ _ _ _ _ => True) (fun _ zzU zzo zzV => ∃ zzv zzL, zzo = .returned zzv ∧ Q7n4_2 Z a jj r kc u0 u1 u2 u3 h0 n0 zzv zzV.heap zzL ∧ FrameEnd zzU zzo zzV zzL ({ frames := 0, cells := 0, slots := 0, locals := 0 } : Room).cells ({ frames := 0, cells := 0, slots := 0, locals := 0 } : Room).slots) := by
  refine MetFree.of_bodySF (plainFor_of_name pn_1) hisR ?_
  intro p e s m args below meth c s₁ Bd hml0 hP hK
  obtain ⟨rfl, hZ, hh⟩ := hP
  have hx := Bd.exec
  have hby := Bd.bytes
  have hml : c.maxLocals = 2 := hml0
  have hown : s.vm.findClass "com/example/accesstrail/accesstrail/store/AppendOnlyLongs" = some m.cls := findClass_of_methodNamed Bd.named
  have hnm := (name_of_methodNamed Bd.named Bd.method).1
  have X0 : Stand p l e ({ frames := 0, cells := 0, slots := 0, locals := 0 } : Room) s m #[(.ref a), (.int jj)] below meth c s₁ [] 0 0 := Stand.of_body Bd
  have e0 : s₁.heap = h0 := by rw [← hh, Bd.state]; rfl
  have N0 := Fr.nil n0
  have R0 : ∀ t, Steps p.tables e below (s₁.setTop (mkF m 0 #[.val (.ref a), .val (.int jj)] [])) t → Steps p.tables e below (s₁.setTop (entryFrame m #[(.ref a), (.int jj)] 2)) t := fun t k => castTop (ef7n4_2 m a jj) k
  subst hjj
  have R1 : ∀ t, Steps p.tables e below (s₁.setTop (mkF m 1 #[.val (.ref a), .val (.int (2 : Int32))] [(.ref a)])) t → Steps p.tables e below (s₁.setTop (entryFrame m #[(.ref a), (.int (2 : Int32))] 2)) t := by
    intro t k
    refine R0 t ?_
    show Steps p.tables e below (s₁.setTop (mkF m 0 #[.val (.ref a), .val (.int (2 : Int32))] [])) _
    refine XS.aloadN X0.here hx rfl (hb hby d7_0) rfl rfl ?_
    exact k
  obtain ⟨T2, X2, e2, st2⟩ := getF X0 hx hZ hown (host := "") (Or.inl (hw _ (List.mem_of_getElem? (i := 10) rfl))) Via.refl e0 F_elements_a (g := (mkF m 1 #[.val (.ref a), .val (.int (2 : Int32))] [(.ref a)])) rfl rfl (hb hby d7_1)
  have R3 : ∀ t, Steps p.tables e below (T2.setTop (mkF m 5 #[.val (.ref a), .val (.int (2 : Int32))] [(.int (2 : Int32)), (.ref r)])) t → Steps p.tables e below (s₁.setTop (entryFrame m #[(.ref a), (.int (2 : Int32))] 2)) t := by
    intro t k
    refine R1 t ?_
    show Steps p.tables e below (s₁.setTop (mkF m 1 #[.val (.ref a), .val (.int (2 : Int32))] [(.ref a)])) _
    refine st2 _ ?_
    show Steps p.tables e below (T2.setTop (mkF m 4 #[.val (.ref a), .val (.int (2 : Int32))] [(.ref r)])) _
    refine XS.iloadN X2.here hx rfl (hb hby d7_4) rfl ?_
    exact k
  obtain ⟨cl4, Ar4, Aq4, As4, An4, Ah4, Ag4⟩ := id V_r
  have hin4 : ¬ ((2 : Int32) < 0 ∨ cl4.slots.size ≤ ((2 : Int32)).toNatClampNeg) := inb_of As4 ⟨by decide, by decide⟩
  have hat4 : cl4.slots[((2 : Int32)).toNatClampNeg]? = some (.long u2) := Has.at Ah4 hin4 rfl
  have R5 : ∀ t, Steps p.tables e below (T2.setTop (mkF m 6 #[.val (.ref a), .val (.int (2 : Int32))] [(.long u2)])) t → Steps p.tables e below (s₁.setTop (entryFrame m #[(.ref a), (.int (2 : Int32))] 2)) t := by
    intro t k
    refine R3 t ?_
    show Steps p.tables e below (T2.setTop (mkF m 5 #[.val (.ref a), .val (.int (2 : Int32))] [(.int (2 : Int32)), (.ref r)])) _
    refine X2.laload hx (j := (2 : Int32)) (v := (.long u2)) (by rw [e2]; exact Ar4.1) (State.isArrayOf_alike hZ.alike Ar4.2.1) Ar4.2.2 hin4 hat4 (g := (mkF m 5 #[.val (.ref a), .val (.int (2 : Int32))] [(.int (2 : Int32)), (.ref r)])) rfl rfl (hb hby d7_5) _ ?_
    exact k
  obtain ⟨fs, hr, hrun, hended, hW, hsame⟩ := X2.leave (v := some (.long u2)) (fun h => by rw [Bd.returns] at h; cases h)
  refine ⟨_, _, R5 _ ?_, hrun, hended, _, _, rfl, ?_, ⟨_, rfl⟩, hW, hsame.mono (by decide) (by decide)⟩
  · exact retOut X2 hx Bd.returns rfl (Or.inr (Or.inl ⟨rfl, rfl, _, rfl⟩)) (hb hby d7_6) hr
  · show Q7n4_2 Z a (2 : Int32) r kc u0 u1 u2 u3 h0 n0 _ T2.heap _
    rw [e2]
    exact ⟨rfl, N0, rfl⟩
theorem ef7n4_3 (m : MethodId) (x0 : Addr) (x1 : Int32) : entryFrame m #[(.ref x0), (.int x1)] 2 = mkF m 0 #[.val (.ref x0), .val (.int x1)] [] := by first | (simp [entryFrame, mkF, argsToLocals, Value.category]; done) | rfl
def Q7n4_3 (Z : State) (a : Addr) (jj : Int32) (r : Addr) (kc : ClassId) (u0 : Int64) (u1 : Int64) (u2 : Int64) (u3 : Int64) (h0 : Heap) (n0 : Nat) (v : Option Value) (h : Heap) (L : List Loc) : Prop := v = some (.long u3) ∧ Fr n0 L ∧ h = h0
set_option maxRecDepth 65536 in
set_option maxHeartbeats 40000000 in
theorem rm7n4_3 (l : Launch) (Z : State) (a0 : Array Value) (hw : ∀ d ∈ tables_1, d.before a0 Z = true) (ws : List Jvm.Cond) (a : Addr) (jj : Int32) (r : Addr) (kc : ClassId) (u0 : Int64) (u1 : Int64) (u2 : Int64) (u3 : Int64) (h0 : Heap) (n0 : Nat) (Z0 : n0 ≤ h0.size) (F_elements_a : Fld Z h0 a "com/example/accesstrail/accesstrail/store/AppendOnlyLongs" "elements" "[J" (.ref r)) (V_r : Arv Z h0 r kc .long (4 : Int32) [(.long u0), (.long u1), (.long u2), (.long u3)] (.long (0 : Int64))) (hjj : jj = (3 : Int32)) :
    MetFree l (⟨"com/example/accesstrail/accesstrail/store/AppendOnlyLongs", "get", "(I)J"⟩ : MethodName) (head1 (Jvm.Cond.code (⟨"com/example/accesstrail/accesstrail/store/AppendOnlyLongs", "get", "(I)J"⟩ : MethodName) prog_33_method_4_code 2 (some .long) :: ws) ({ frames := 0, cells := 0, slots := 0, locals := 0 } : Room)) (fun zza zzU => zza = #[(.ref a), (.int jj)] ∧ Z.Warmed39 zzU.vm ∧ zzU.heap = h0) (fun _ _ _ _ _ => True) (fun _ zzU zzo zzV => ∃ zzv zzL, zzo = .returned zzv ∧ Q7n4_3 Z a jj r kc u0 u1 u2 u3 h0 n0 zzv zzV.heap zzL ∧ FrameEnd zzU zzo zzV zzL ({ frames := 0, cells := 0, slots := 0, locals := 0 } : Room).cells ({ frames := 0, cells := 0, slots := 0, locals := 0 } : Room).slots) := by
  refine MetFree.of_bodySF (plainFor_of_name pn_1) hisR ?_
  intro p e s m args below meth c s₁ Bd hml0 hP hK
  obtain ⟨rfl, hZ, hh⟩ := hP
  have hx := Bd.exec
  have hby := Bd.bytes
  have hml : c.maxLocals = 2 := hml0
  have hown : s.vm.findClass "com/example/accesstrail/accesstrail/store/AppendOnlyLongs" = some m.cls := findClass_of_methodNamed Bd.named
  have hnm := (name_of_methodNamed Bd.named Bd.method).1
  have X0 : Stand p l e ({ frames := 0, cells := 0, slots := 0, locals := 0 } : Room) s m #[(.ref a), (.int jj)] below meth c s₁ [] 0 0 := Stand.of_body Bd
  have e0 : s₁.heap = h0 := by rw [← hh, Bd.state]; rfl
  have N0 := Fr.nil n0
  have R0 : ∀ t, Steps p.tables e below (s₁.setTop (mkF m 0 #[.val (.ref a), .val (.int jj)] [])) t → Steps p.tables e below (s₁.setTop (entryFrame m #[(.ref a), (.int jj)] 2)) t := fun t k => castTop (ef7n4_3 m a jj) k
  subst hjj
  have R1 : ∀ t, Steps p.tables e below (s₁.setTop (mkF m 1 #[.val (.ref a), .val (.int (3 : Int32))] [(.ref a)])) t → Steps p.tables e below (s₁.setTop (entryFrame m #[(.ref a), (.int (3 : Int32))] 2)) t := by
    intro t k
    refine R0 t ?_
    show Steps p.tables e below (s₁.setTop (mkF m 0 #[.val (.ref a), .val (.int (3 : Int32))] [])) _
    refine XS.aloadN X0.here hx rfl (hb hby d7_0) rfl rfl ?_
    exact k
  obtain ⟨T2, X2, e2, st2⟩ := getF X0 hx hZ hown (host := "") (Or.inl (hw _ (List.mem_of_getElem? (i := 10) rfl))) Via.refl e0 F_elements_a (g := (mkF m 1 #[.val (.ref a), .val (.int (3 : Int32))] [(.ref a)])) rfl rfl (hb hby d7_1)
  have R3 : ∀ t, Steps p.tables e below (T2.setTop (mkF m 5 #[.val (.ref a), .val (.int (3 : Int32))] [(.int (3 : Int32)), (.ref r)])) t → Steps p.tables e below (s₁.setTop (entryFrame m #[(.ref a), (.int (3 : Int32))] 2)) t := by
    intro t k
    refine R1 t ?_
    show Steps p.tables e below (s₁.setTop (mkF m 1 #[.val (.ref a), .val (.int (3 : Int32))] [(.ref a)])) _
    refine st2 _ ?_
    show Steps p.tables e below (T2.setTop (mkF m 4 #[.val (.ref a), .val (.int (3 : Int32))] [(.ref r)])) _
    refine XS.iloadN X2.here hx rfl (hb hby d7_4) rfl ?_
    exact k
  obtain ⟨cl4, Ar4, Aq4, As4, An4, Ah4, Ag4⟩ := id V_r
  have hin4 : ¬ ((3 : Int32) < 0 ∨ cl4.slots.size ≤ ((3 : Int32)).toNatClampNeg) := inb_of As4 ⟨by decide, by decide⟩
  have hat4 : cl4.slots[((3 : Int32)).toNatClampNeg]? = some (.long u3) := Has.at Ah4 hin4 rfl
  have R5 : ∀ t, Steps p.tables e below (T2.setTop (mkF m 6 #[.val (.ref a), .val (.int (3 : Int32))] [(.long u3)])) t → Steps p.tables e below (s₁.setTop (entryFrame m #[(.ref a), (.int (3 : Int32))] 2)) t := by
    intro t k
    refine R3 t ?_
    show Steps p.tables e below (T2.setTop (mkF m 5 #[.val (.ref a), .val (.int (3 : Int32))] [(.int (3 : Int32)), (.ref r)])) _
    refine X2.laload hx (j := (3 : Int32)) (v := (.long u3)) (by rw [e2]; exact Ar4.1) (State.isArrayOf_alike hZ.alike Ar4.2.1) Ar4.2.2 hin4 hat4 (g := (mkF m 5 #[.val (.ref a), .val (.int (3 : Int32))] [(.int (3 : Int32)), (.ref r)])) rfl rfl (hb hby d7_5) _ ?_
    exact k
  obtain ⟨fs, hr, hrun, hended, hW, hsame⟩ := X2.leave (v := some (.long u3)) (fun h => by rw [Bd.returns] at h; cases h)
  refine ⟨_, _, R5 _ ?_, hrun, hended, _, _, rfl, ?_, ⟨_, rfl⟩, hW, hsame.mono (by decide) (by decide)⟩
  · exact retOut X2 hx Bd.returns rfl (Or.inr (Or.inl ⟨rfl, rfl, _, rfl⟩)) (hb hby d7_6) hr
  · show Q7n4_3 Z a (3 : Int32) r kc u0 u1 u2 u3 h0 n0 _ T2.heap _
    rw [e2]
    exact ⟨rfl, N0, rfl⟩
theorem ef7n6_0 (m : MethodId) (x0 : Addr) (x1 : Int32) : entryFrame m #[(.ref x0), (.int x1)] 2 = mkF m 0 #[.val (.ref x0), .val (.int x1)] [] := by first | (simp [entryFrame, mkF, argsToLocals, Value.category]; done) | rfl
def Q7n6_0 (Z : State) (a : Addr) (jj : Int32) (r : Addr) (kc : ClassId) (u0 : Int64) (u1 : Int64) (u2 : Int64) (u3 : Int64) (u4 : Int64) (u5 : Int64) (h0 : Heap) (n0 : Nat) (v : Option Value) (h : Heap) (L : List Loc) : Prop := v = some (.long u0) ∧ Fr n0 L ∧ h = h0
set_option maxRecDepth 65536 in
set_option maxHeartbeats 40000000 in
theorem rm7n6_0 (l : Launch) (Z : State) (a0 : Array Value) (hw : ∀ d ∈ tables_1, d.before a0 Z = true) (ws : List Jvm.Cond) (a : Addr) (jj : Int32) (r : Addr) (kc : ClassId) (u0 : Int64) (u1 : Int64) (u2 : Int64) (u3 : Int64) (u4 : Int64) (u5 : Int64) (h0 : Heap) (n0 : Nat) (Z0 : n0 ≤ h0.size) (F_elements_a : Fld Z h0 a "com/example/accesstrail/accesstrail/store/AppendOnlyLongs" "elements" "[J" (.ref r)) (V_r : Arv Z h0 r kc .long (6 : Int32) [(.long u0), (.long u1), (.long u2), (.long u3), (.long u4), (.long u5)] (.long (0 : Int64))) (hjj : jj = (0 : Int32)) :
    MetFree l (⟨"com/example/accesstrail/accesstrail/store/AppendOnlyLongs", "get", "(I)J"⟩ : MethodName) (head1 (Jvm.Cond.code (⟨"com/example/accesstrail/accesstrail/store/AppendOnlyLongs", "get", "(I)J"⟩ : MethodName) prog_33_method_4_code 2 (some .long) :: ws) ({ frames := 0, cells := 0, slots := 0, locals := 0 } : Room)) (fun zza zzU => zza = #[(.ref a), (.int jj)] ∧ Z.Warmed39 zzU.vm ∧ zzU.heap = h0) (fun _ _ _ _ _ => True) (fun _ zzU zzo zzV => ∃ zzv zzL, zzo = .returned zzv ∧ Q7n6_0 Z a jj r kc u0 u1 u2 u3 u4 u5 h0 n0 zzv zzV.heap zzL ∧ FrameEnd zzU zzo zzV zzL ({ frames := 0, cells := 0, slots := 0, locals := 0 } : Room).cells ({ frames := 0, cells := 0, slots := 0, locals := 0 } : Room).slots) := by
  refine MetFree.of_bodySF (plainFor_of_name pn_1) hisR ?_
  intro p e s m args below meth c s₁ Bd hml0 hP hK
  obtain ⟨rfl, hZ, hh⟩ := hP
  have hx := Bd.exec
  have hby := Bd.bytes
  have hml : c.maxLocals = 2 := hml0
  have hown : s.vm.findClass "com/example/accesstrail/accesstrail/store/AppendOnlyLongs" = some m.cls := findClass_of_methodNamed Bd.named
  have hnm := (name_of_methodNamed Bd.named Bd.method).1
  have X0 : Stand p l e ({ frames := 0, cells := 0, slots := 0, locals := 0 } : Room) s m #[(.ref a), (.int jj)] below meth c s₁ [] 0 0 := Stand.of_body Bd
  have e0 : s₁.heap = h0 := by rw [← hh, Bd.state]; rfl
  have N0 := Fr.nil n0
  have R0 : ∀ t, Steps p.tables e below (s₁.setTop (mkF m 0 #[.val (.ref a), .val (.int jj)] [])) t → Steps p.tables e below (s₁.setTop (entryFrame m #[(.ref a), (.int jj)] 2)) t := fun t k => castTop (ef7n6_0 m a jj) k
  subst hjj
  have R1 : ∀ t, Steps p.tables e below (s₁.setTop (mkF m 1 #[.val (.ref a), .val (.int (0 : Int32))] [(.ref a)])) t → Steps p.tables e below (s₁.setTop (entryFrame m #[(.ref a), (.int (0 : Int32))] 2)) t := by
    intro t k
    refine R0 t ?_
    show Steps p.tables e below (s₁.setTop (mkF m 0 #[.val (.ref a), .val (.int (0 : Int32))] [])) _
    refine XS.aloadN X0.here hx rfl (hb hby d7_0) rfl rfl ?_
    exact k
  obtain ⟨T2, X2, e2, st2⟩ := getF X0 hx hZ hown (host := "") (Or.inl (hw _ (List.mem_of_getElem? (i := 10) rfl))) Via.refl e0 F_elements_a (g := (mkF m 1 #[.val (.ref a), .val (.int (0 : Int32))] [(.ref a)])) rfl rfl (hb hby d7_1)
  have R3 : ∀ t, Steps p.tables e below (T2.setTop (mkF m 5 #[.val (.ref a), .val (.int (0 : Int32))] [(.int (0 : Int32)), (.ref r)])) t → Steps p.tables e below (s₁.setTop (entryFrame m #[(.ref a), (.int (0 : Int32))] 2)) t := by
    intro t k
    refine R1 t ?_
    show Steps p.tables e below (s₁.setTop (mkF m 1 #[.val (.ref a), .val (.int (0 : Int32))] [(.ref a)])) _
    refine st2 _ ?_
    show Steps p.tables e below (T2.setTop (mkF m 4 #[.val (.ref a), .val (.int (0 : Int32))] [(.ref r)])) _
    refine XS.iloadN X2.here hx rfl (hb hby d7_4) rfl ?_
    exact k
  obtain ⟨cl4, Ar4, Aq4, As4, An4, Ah4, Ag4⟩ := id V_r
  have hin4 : ¬ ((0 : Int32) < 0 ∨ cl4.slots.size ≤ ((0 : Int32)).toNatClampNeg) := inb_of As4 ⟨by decide, by decide⟩
  have hat4 : cl4.slots[((0 : Int32)).toNatClampNeg]? = some (.long u0) := Has.at Ah4 hin4 rfl
  have R5 : ∀ t, Steps p.tables e below (T2.setTop (mkF m 6 #[.val (.ref a), .val (.int (0 : Int32))] [(.long u0)])) t → Steps p.tables e below (s₁.setTop (entryFrame m #[(.ref a), (.int (0 : Int32))] 2)) t := by
    intro t k
    refine R3 t ?_
    show Steps p.tables e below (T2.setTop (mkF m 5 #[.val (.ref a), .val (.int (0 : Int32))] [(.int (0 : Int32)), (.ref r)])) _
    refine X2.laload hx (j := (0 : Int32)) (v := (.long u0)) (by rw [e2]; exact Ar4.1) (State.isArrayOf_alike hZ.alike Ar4.2.1) Ar4.2.2 hin4 hat4 (g := (mkF m 5 #[.val (.ref a), .val (.int (0 : Int32))] [(.int (0 : Int32)), (.ref r)])) rfl rfl (hb hby d7_5) _ ?_
    exact k
  obtain ⟨fs, hr, hrun, hended, hW, hsame⟩ := X2.leave (v := some (.long u0)) (fun h => by rw [Bd.returns] at h; cases h)
  refine ⟨_, _, R5 _ ?_, hrun, hended, _, _, rfl, ?_, ⟨_, rfl⟩, hW, hsame.mono (by decide) (by decide)⟩
  · exact retOut X2 hx Bd.returns rfl (Or.inr (Or.inl ⟨rfl, rfl, _, rfl⟩)) (hb hby d7_6) hr
  · show Q7n6_0 Z a (0 : Int32) r kc u0 u1 u2 u3 u4 u5 h0 n0 _ T2.heap _
    rw [e2]
    exact ⟨rfl, N0, rfl⟩
theorem ef7n6_1 (m : MethodId) (x0 : Addr) (x1 : Int32) : entryFrame m #[(.ref x0), (.int x1)] 2 = mkF m 0 #[.val (.ref x0), .val (.int x1)] [] := by first | (simp [entryFrame, mkF, argsToLocals, Value.category]; done) | rfl
def Q7n6_1 (Z : State) (a : Addr) (jj : Int32) (r : Addr) (kc : ClassId) (u0 : Int64) (u1 : Int64) (u2 : Int64) (u3 : Int64) (u4 : Int64) (u5 : Int64) (h0 : Heap) (n0 : Nat) (v : Option Value) (h : Heap) (L : List Loc) : Prop := v = some (.long u1) ∧ Fr n0 L ∧ h = h0
set_option maxRecDepth 65536 in
set_option maxHeartbeats 40000000 in
theorem rm7n6_1 (l : Launch) (Z : State) (a0 : Array Value) (hw : ∀ d ∈ tables_1, d.before a0 Z = true) (ws : List Jvm.Cond) (a : Addr) (jj : Int32) (r : Addr) (kc : ClassId) (u0 : Int64) (u1 : Int64) (u2 : Int64) (u3 : Int64) (u4 : Int64) (u5 : Int64) (h0 : Heap) (n0 : Nat) (Z0 : n0 ≤ h0.size) (F_elements_a : Fld Z h0 a "com/example/accesstrail/accesstrail/store/AppendOnlyLongs" "elements" "[J" (.ref r)) (V_r : Arv Z h0 r kc .long (6 : Int32) [(.long u0), (.long u1), (.long u2), (.long u3), (.long u4), (.long u5)] (.long (0 : Int64))) (hjj : jj = (1 : Int32)) :
    MetFree l (⟨"com/example/accesstrail/accesstrail/store/AppendOnlyLongs", "get", "(I)J"⟩ : MethodName) (head1 (Jvm.Cond.code (⟨"com/example/accesstrail/accesstrail/store/AppendOnlyLongs", "get", "(I)J"⟩ : MethodName) prog_33_method_4_code 2 (some .long) :: ws) ({ frames := 0, cells := 0, slots := 0, locals := 0 } : Room)) (fun zza zzU => zza = #[(.ref a), (.int jj)] ∧ Z.Warmed39 zzU.vm ∧ zzU.heap = h0) (fun _ _ _ _ _ => True) (fun _ zzU zzo zzV => ∃ zzv zzL, zzo = .returned zzv ∧ Q7n6_1 Z a jj r kc u0 u1 u2 u3 u4 u5 h0 n0 zzv zzV.heap zzL ∧ FrameEnd zzU zzo zzV zzL ({ frames := 0, cells := 0, slots := 0, locals := 0 } : Room).cells ({ frames := 0, cells := 0, slots := 0, locals := 0 } : Room).slots) := by
  refine MetFree.of_bodySF (plainFor_of_name pn_1) hisR ?_
  intro p e s m args below meth c s₁ Bd hml0 hP hK
  obtain ⟨rfl, hZ, hh⟩ := hP
  have hx := Bd.exec
  have hby := Bd.bytes
  have hml : c.maxLocals = 2 := hml0
  have hown : s.vm.findClass "com/example/accesstrail/accesstrail/store/AppendOnlyLongs" = some m.cls := findClass_of_methodNamed Bd.named
  have hnm := (name_of_methodNamed Bd.named Bd.method).1
  have X0 : Stand p l e ({ frames := 0, cells := 0, slots := 0, locals := 0 } : Room) s m #[(.ref a), (.int jj)] below meth c s₁ [] 0 0 := Stand.of_body Bd
  have e0 : s₁.heap = h0 := by rw [← hh, Bd.state]; rfl
  have N0 := Fr.nil n0
  have R0 : ∀ t, Steps p.tables e below (s₁.setTop (mkF m 0 #[.val (.ref a), .val (.int jj)] [])) t → Steps p.tables e below (s₁.setTop (entryFrame m #[(.ref a), (.int jj)] 2)) t := fun t k => castTop (ef7n6_1 m a jj) k
  subst hjj
  have R1 : ∀ t, Steps p.tables e below (s₁.setTop (mkF m 1 #[.val (.ref a), .val (.int (1 : Int32))] [(.ref a)])) t → Steps p.tables e below (s₁.setTop (entryFrame m #[(.ref a), (.int (1 : Int32))] 2)) t := by
    intro t k
    refine R0 t ?_
    show Steps p.tables e below (s₁.setTop (mkF m 0 #[.val (.ref a), .val (.int (1 : Int32))] [])) _
    refine XS.aloadN X0.here hx rfl (hb hby d7_0) rfl rfl ?_
    exact k
  obtain ⟨T2, X2, e2, st2⟩ := getF X0 hx hZ hown (host := "") (Or.inl (hw _ (List.mem_of_getElem? (i := 10) rfl))) Via.refl e0 F_elements_a (g := (mkF m 1 #[.val (.ref a), .val (.int (1 : Int32))] [(.ref a)])) rfl rfl (hb hby d7_1)
  have R3 : ∀ t, Steps p.tables e below (T2.setTop (mkF m 5 #[.val (.ref a), .val (.int (1 : Int32))] [(.int (1 : Int32)), (.ref r)])) t → Steps p.tables e below (s₁.setTop (entryFrame m #[(.ref a), (.int (1 : Int32))] 2)) t := by
    intro t k
    refine R1 t ?_
    show Steps p.tables e below (s₁.setTop (mkF m 1 #[.val (.ref a), .val (.int (1 : Int32))] [(.ref a)])) _
    refine st2 _ ?_
    show Steps p.tables e below (T2.setTop (mkF m 4 #[.val (.ref a), .val (.int (1 : Int32))] [(.ref r)])) _
    refine XS.iloadN X2.here hx rfl (hb hby d7_4) rfl ?_
    exact k
  obtain ⟨cl4, Ar4, Aq4, As4, An4, Ah4, Ag4⟩ := id V_r
  have hin4 : ¬ ((1 : Int32) < 0 ∨ cl4.slots.size ≤ ((1 : Int32)).toNatClampNeg) := inb_of As4 ⟨by decide, by decide⟩
  have hat4 : cl4.slots[((1 : Int32)).toNatClampNeg]? = some (.long u1) := Has.at Ah4 hin4 rfl
  have R5 : ∀ t, Steps p.tables e below (T2.setTop (mkF m 6 #[.val (.ref a), .val (.int (1 : Int32))] [(.long u1)])) t → Steps p.tables e below (s₁.setTop (entryFrame m #[(.ref a), (.int (1 : Int32))] 2)) t := by
    intro t k
    refine R3 t ?_
    show Steps p.tables e below (T2.setTop (mkF m 5 #[.val (.ref a), .val (.int (1 : Int32))] [(.int (1 : Int32)), (.ref r)])) _
    refine X2.laload hx (j := (1 : Int32)) (v := (.long u1)) (by rw [e2]; exact Ar4.1) (State.isArrayOf_alike hZ.alike Ar4.2.1) Ar4.2.2 hin4 hat4 (g := (mkF m 5 #[.val (.ref a), .val (.int (1 : Int32))] [(.int (1 : Int32)), (.ref r)])) rfl rfl (hb hby d7_5) _ ?_
    exact k
  obtain ⟨fs, hr, hrun, hended, hW, hsame⟩ := X2.leave (v := some (.long u1)) (fun h => by rw [Bd.returns] at h; cases h)
  refine ⟨_, _, R5 _ ?_, hrun, hended, _, _, rfl, ?_, ⟨_, rfl⟩, hW, hsame.mono (by decide) (by decide)⟩
  · exact retOut X2 hx Bd.returns rfl (Or.inr (Or.inl ⟨rfl, rfl, _, rfl⟩)) (hb hby d7_6) hr
  · show Q7n6_1 Z a (1 : Int32) r kc u0 u1 u2 u3 u4 u5 h0 n0 _ T2.heap _
    rw [e2]
    exact ⟨rfl, N0, rfl⟩
theorem ef7n6_2 (m : MethodId) (x0 : Addr) (x1 : Int32) : entryFrame m #[(.ref x0), (.int x1)] 2 = mkF m 0 #[.val (.ref x0), .val (.int x1)] [] := by first | (simp [entryFrame, mkF, argsToLocals, Value.category]; done) | rfl
def Q7n6_2 (Z : State) (a : Addr) (jj : Int32) (r : Addr) (kc : ClassId) (u0 : Int64) (u1 : Int64) (u2 : Int64) (u3 : Int64) (u4 : Int64) (u5 : Int64) (h0 : Heap) (n0 : Nat) (v : Option Value) (h : Heap) (L : List Loc) : Prop := v = some (.long u2) ∧ Fr n0 L ∧ h = h0
set_option maxRecDepth 65536 in
set_option maxHeartbeats 40000000 in
theorem rm7n6_2 (l : Launch) (Z : State) (a0 : Array Value) (hw : ∀ d ∈ tables_1, d.before a0 Z = true) (ws : List Jvm.Cond) (a : Addr) (jj : Int32) (r : Addr) (kc : ClassId) (u0 : Int64) (u1 : Int64) (u2 : Int64) (u3 : Int64) (u4 : Int64) (u5 : Int64) (h0 : Heap) (n0 : Nat) (Z0 : n0 ≤ h0.size) (F_elements_a : Fld Z h0 a "com/example/accesstrail/accesstrail/store/AppendOnlyLongs" "elements" "[J" (.ref r)) (V_r : Arv Z h0 r kc .long (6 : Int32) [(.long u0), (.long u1), (.long u2), (.long u3), (.long u4), (.long u5)] (.long (0 : Int64))) (hjj : jj = (2 : Int32)) :
    MetFree l (⟨"com/example/accesstrail/accesstrail/store/AppendOnlyLongs", "get", "(I)J"⟩ : MethodName) (head1 (Jvm.Cond.code (⟨"com/example/accesstrail/accesstrail/store/AppendOnlyLongs", "get", "(I)J"⟩ : MethodName) prog_33_method_4_code 2 (some .long) :: ws) ({ frames := 0, cells := 0, slots := 0, locals := 0 } : Room)) (fun zza zzU => zza = #[(.ref a), (.int jj)] ∧ Z.Warmed39 zzU.vm ∧ zzU.heap = h0) (fun _ _ _ _ _ => True) (fun _ zzU zzo zzV => ∃ zzv zzL, zzo = .returned zzv ∧ Q7n6_2 Z a jj r kc u0 u1 u2 u3 u4 u5 h0 n0 zzv zzV.heap zzL ∧ FrameEnd zzU zzo zzV zzL ({ frames := 0, cells := 0, slots := 0, locals := 0 } : Room).cells ({ frames := 0, cells := 0, slots := 0, locals := 0 } : Room).slots) := by
  refine MetFree.of_bodySF (plainFor_of_name pn_1) hisR ?_
  intro p e s m args below meth c s₁ Bd hml0 hP hK
  obtain ⟨rfl, hZ, hh⟩ := hP
  have hx := Bd.exec
  have hby := Bd.bytes
  have hml : c.maxLocals = 2 := hml0
  have hown : s.vm.findClass "com/example/accesstrail/accesstrail/store/AppendOnlyLongs" = some m.cls := findClass_of_methodNamed Bd.named
  have hnm := (name_of_methodNamed Bd.named Bd.method).1
  have X0 : Stand p l e ({ frames := 0, cells := 0, slots := 0, locals := 0 } : Room) s m #[(.ref a), (.int jj)] below meth c s₁ [] 0 0 := Stand.of_body Bd
  have e0 : s₁.heap = h0 := by rw [← hh, Bd.state]; rfl
  have N0 := Fr.nil n0
  have R0 : ∀ t, Steps p.tables e below (s₁.setTop (mkF m 0 #[.val (.ref a), .val (.int jj)] [])) t → Steps p.tables e below (s₁.setTop (entryFrame m #[(.ref a), (.int jj)] 2)) t := fun t k => castTop (ef7n6_2 m a jj) k
  subst hjj
  have R1 : ∀ t, Steps p.tables e below (s₁.setTop (mkF m 1 #[.val (.ref a), .val (.int (2 : Int32))] [(.ref a)])) t → Steps p.tables e below (s₁.setTop (entryFrame m #[(.ref a), (.int (2 : Int32))] 2)) t := by
    intro t k
    refine R0 t ?_
    show Steps p.tables e below (s₁.setTop (mkF m 0 #[.val (.ref a), .val (.int (2 : Int32))] [])) _
    refine XS.aloadN X0.here hx rfl (hb hby d7_0) rfl rfl ?_
    exact k
  obtain ⟨T2, X2, e2, st2⟩ := getF X0 hx hZ hown (host := "") (Or.inl (hw _ (List.mem_of_getElem? (i := 10) rfl))) Via.refl e0 F_elements_a (g := (mkF m 1 #[.val (.ref a), .val (.int (2 : Int32))] [(.ref a)])) rfl rfl (hb hby d7_1)
  have R3 : ∀ t, Steps p.tables e below (T2.setTop (mkF m 5 #[.val (.ref a), .val (.int (2 : Int32))] [(.int (2 : Int32)), (.ref r)])) t → Steps p.tables e below (s₁.setTop (entryFrame m #[(.ref a), (.int (2 : Int32))] 2)) t := by
    intro t k
    refine R1 t ?_
    show Steps p.tables e below (s₁.setTop (mkF m 1 #[.val (.ref a), .val (.int (2 : Int32))] [(.ref a)])) _
    refine st2 _ ?_
    show Steps p.tables e below (T2.setTop (mkF m 4 #[.val (.ref a), .val (.int (2 : Int32))] [(.ref r)])) _
    refine XS.iloadN X2.here hx rfl (hb hby d7_4) rfl ?_
    exact k
  obtain ⟨cl4, Ar4, Aq4, As4, An4, Ah4, Ag4⟩ := id V_r
  have hin4 : ¬ ((2 : Int32) < 0 ∨ cl4.slots.size ≤ ((2 : Int32)).toNatClampNeg) := inb_of As4 ⟨by decide, by decide⟩
  have hat4 : cl4.slots[((2 : Int32)).toNatClampNeg]? = some (.long u2) := Has.at Ah4 hin4 rfl
  have R5 : ∀ t, Steps p.tables e below (T2.setTop (mkF m 6 #[.val (.ref a), .val (.int (2 : Int32))] [(.long u2)])) t → Steps p.tables e below (s₁.setTop (entryFrame m #[(.ref a), (.int (2 : Int32))] 2)) t := by
    intro t k
    refine R3 t ?_
    show Steps p.tables e below (T2.setTop (mkF m 5 #[.val (.ref a), .val (.int (2 : Int32))] [(.int (2 : Int32)), (.ref r)])) _
    refine X2.laload hx (j := (2 : Int32)) (v := (.long u2)) (by rw [e2]; exact Ar4.1) (State.isArrayOf_alike hZ.alike Ar4.2.1) Ar4.2.2 hin4 hat4 (g := (mkF m 5 #[.val (.ref a), .val (.int (2 : Int32))] [(.int (2 : Int32)), (.ref r)])) rfl rfl (hb hby d7_5) _ ?_
    exact k
  obtain ⟨fs, hr, hrun, hended, hW, hsame⟩ := X2.leave (v := some (.long u2)) (fun h => by rw [Bd.returns] at h; cases h)
  refine ⟨_, _, R5 _ ?_, hrun, hended, _, _, rfl, ?_, ⟨_, rfl⟩, hW, hsame.mono (by decide) (by decide)⟩
  · exact retOut X2 hx Bd.returns rfl (Or.inr (Or.inl ⟨rfl, rfl, _, rfl⟩)) (hb hby d7_6) hr
  · show Q7n6_2 Z a (2 : Int32) r kc u0 u1 u2 u3 u4 u5 h0 n0 _ T2.heap _
    rw [e2]
    exact ⟨rfl, N0, rfl⟩
theorem ef7n6_3 (m : MethodId) (x0 : Addr) (x1 : Int32) : entryFrame m #[(.ref x0), (.int x1)] 2 = mkF m 0 #[.val (.ref x0), .val (.int x1)] [] := by first | (simp [entryFrame, mkF, argsToLocals, Value.category]; done) | rfl
def Q7n6_3 (Z : State) (a : Addr) (jj : Int32) (r : Addr) (kc : ClassId) (u0 : Int64) (u1 : Int64) (u2 : Int64) (u3 : Int64) (u4 : Int64) (u5 : Int64) (h0 : Heap) (n0 : Nat) (v : Option Value) (h : Heap) (L : List Loc) : Prop := v = some (.long u3) ∧ Fr n0 L ∧ h = h0
set_option maxRecDepth 65536 in
set_option maxHeartbeats 40000000 in
theorem rm7n6_3 (l : Launch) (Z : State) (a0 : Array Value) (hw : ∀ d ∈ tables_1, d.before a0 Z = true) (ws : List Jvm.Cond) (a : Addr) (jj : Int32) (r : Addr) (kc : ClassId) (u0 : Int64) (u1 : Int64) (u2 : Int64) (u3 : Int64) (u4 : Int64) (u5 : Int64) (h0 : Heap) (n0 : Nat) (Z0 : n0 ≤ h0.size) (F_elements_a : Fld Z h0 a "com/example/accesstrail/accesstrail/store/AppendOnlyLongs" "elements" "[J" (.ref r)) (V_r : Arv Z h0 r kc .long (6 : Int32) [(.long u0), (.long u1), (.long u2), (.long u3), (.long u4), (.long u5)] (.long (0 : Int64))) (hjj : jj = (3 : Int32)) :
    MetFree l (⟨"com/example/accesstrail/accesstrail/store/AppendOnlyLongs", "get", "(I)J"⟩ : MethodName) (head1 (Jvm.Cond.code (⟨"com/example/accesstrail/accesstrail/store/AppendOnlyLongs", "get", "(I)J"⟩ : MethodName) prog_33_method_4_code 2 (some .long) :: ws) ({ frames := 0, cells := 0, slots := 0, locals := 0 } : Room)) (fun zza zzU => zza = #[(.ref a), (.int jj)] ∧ Z.Warmed39 zzU.vm ∧ zzU.heap = h0) (fun _ _ _ _ _ => True) (fun _ zzU zzo zzV => ∃ zzv zzL, zzo = .returned zzv ∧ Q7n6_3 Z a jj r kc u0 u1 u2 u3 u4 u5 h0 n0 zzv zzV.heap zzL ∧ FrameEnd zzU zzo zzV zzL ({ frames := 0, cells := 0, slots := 0, locals := 0 } : Room).cells ({ frames := 0, cells := 0, slots := 0, locals := 0 } : Room).slots) := by
  refine MetFree.of_bodySF (plainFor_of_name pn_1) hisR ?_
  intro p e s m args below meth c s₁ Bd hml0 hP hK
  obtain ⟨rfl, hZ, hh⟩ := hP
  have hx := Bd.exec
  have hby := Bd.bytes
  have hml : c.maxLocals = 2 := hml0
  have hown : s.vm.findClass "com/example/accesstrail/accesstrail/store/AppendOnlyLongs" = some m.cls := findClass_of_methodNamed Bd.named
  have hnm := (name_of_methodNamed Bd.named Bd.method).1
  have X0 : Stand p l e ({ frames := 0, cells := 0, slots := 0, locals := 0 } : Room) s m #[(.ref a), (.int jj)] below meth c s₁ [] 0 0 := Stand.of_body Bd
  have e0 : s₁.heap = h0 := by rw [← hh, Bd.state]; rfl
  have N0 := Fr.nil n0
  have R0 : ∀ t, Steps p.tables e below (s₁.setTop (mkF m 0 #[.val (.ref a), .val (.int jj)] [])) t → Steps p.tables e below (s₁.setTop (entryFrame m #[(.ref a), (.int jj)] 2)) t := fun t k => castTop (ef7n6_3 m a jj) k
  subst hjj
  have R1 : ∀ t, Steps p.tables e below (s₁.setTop (mkF m 1 #[.val (.ref a), .val (.int (3 : Int32))] [(.ref a)])) t → Steps p.tables e below (s₁.setTop (entryFrame m #[(.ref a), (.int (3 : Int32))] 2)) t := by
    intro t k
    refine R0 t ?_
    show Steps p.tables e below (s₁.setTop (mkF m 0 #[.val (.ref a), .val (.int (3 : Int32))] [])) _
    refine XS.aloadN X0.here hx rfl (hb hby d7_0) rfl rfl ?_
    exact k
  obtain ⟨T2, X2, e2, st2⟩ := getF X0 hx hZ hown (host := "") (Or.inl (hw _ (List.mem_of_getElem? (i := 10) rfl))) Via.refl e0 F_elements_a (g := (mkF m 1 #[.val (.ref a), .val (.int (3 : Int32))] [(.ref a)])) rfl rfl (hb hby d7_1)
  have R3 : ∀ t, Steps p.tables e below (T2.setTop (mkF m 5 #[.val (.ref a), .val (.int (3 : Int32))] [(.int (3 : Int32)), (.ref r)])) t → Steps p.tables e below (s₁.setTop (entryFrame m #[(.ref a), (.int (3 : Int32))] 2)) t := by
    intro t k
    refine R1 t ?_
    show Steps p.tables e below (s₁.setTop (mkF m 1 #[.val (.ref a), .val (.int (3 : Int32))] [(.ref a)])) _
    refine st2 _ ?_
    show Steps p.tables e below (T2.setTop (mkF m 4 #[.val (.ref a), .val (.int (3 : Int32))] [(.ref r)])) _
    refine XS.iloadN X2.here hx rfl (hb hby d7_4) rfl ?_
    exact k
  obtain ⟨cl4, Ar4, Aq4, As4, An4, Ah4, Ag4⟩ := id V_r
  have hin4 : ¬ ((3 : Int32) < 0 ∨ cl4.slots.size ≤ ((3 : Int32)).toNatClampNeg) := inb_of As4 ⟨by decide, by decide⟩
  have hat4 : cl4.slots[((3 : Int32)).toNatClampNeg]? = some (.long u3) := Has.at Ah4 hin4 rfl
  have R5 : ∀ t, Steps p.tables e below (T2.setTop (mkF m 6 #[.val (.ref a), .val (.int (3 : Int32))] [(.long u3)])) t → Steps p.tables e below (s₁.setTop (entryFrame m #[(.ref a), (.int (3 : Int32))] 2)) t := by
    intro t k
    refine R3 t ?_
    show Steps p.tables e below (T2.setTop (mkF m 5 #[.val (.ref a), .val (.int (3 : Int32))] [(.int (3 : Int32)), (.ref r)])) _
    refine X2.laload hx (j := (3 : Int32)) (v := (.long u3)) (by rw [e2]; exact Ar4.1) (State.isArrayOf_alike hZ.alike Ar4.2.1) Ar4.2.2 hin4 hat4 (g := (mkF m 5 #[.val (.ref a), .val (.int (3 : Int32))] [(.int (3 : Int32)), (.ref r)])) rfl rfl (hb hby d7_5) _ ?_
    exact k
  obtain ⟨fs, hr, hrun, hended, hW, hsame⟩ := X2.leave (v := some (.long u3)) (fun h => by rw [Bd.returns] at h; cases h)
  refine ⟨_, _, R5 _ ?_, hrun, hended, _, _, rfl, ?_, ⟨_, rfl⟩, hW, hsame.mono (by decide) (by decide)⟩
  · exact retOut X2 hx Bd.returns rfl (Or.inr (Or.inl ⟨rfl, rfl, _, rfl⟩)) (hb hby d7_6) hr
  · show Q7n6_3 Z a (3 : Int32) r kc u0 u1 u2 u3 u4 u5 h0 n0 _ T2.heap _
    rw [e2]
    exact ⟨rfl, N0, rfl⟩
theorem ef0 (m : MethodId) (x0 : Int32) (x1 : Int64) (x2 : Int64) (x3 : Int64) (x4 : Int64) : entryFrame m #[(.int x0), (.long x1), (.long x2), (.long x3), (.long x4)] maxLocals = mkF m 0 #[.val (.int x0), .val (.long x1), .second, .val (.long x2), .second, .val (.long x3), .second, .val (.long x4), .second, .unset] [] := by first | (simp [entryFrame, mkF, argsToLocals, Value.category, maxLocals]; done) | rfl
theorem pn_2 : plainName "com/example/accesstrail/accesstrail/store/AppendOnlyLongsAddPinLaw" = true := by first | (simp [plainName, overriddenIn]; done) | decide +kernel
theorem pd_2 : parseMethodDescriptor "(I)V" = some ⟨[.int], none⟩ := by decide +kernel
theorem pd_3 : parseMethodDescriptor "(J)V" = some ⟨[.long], none⟩ := by decide +kernel
theorem pd_4 : parseMethodDescriptor "()I" = some ⟨[], some .int⟩ := by decide +kernel
theorem pd_5 : parseMethodDescriptor "(I)J" = some ⟨[.int], some .long⟩ := by decide +kernel
def Q0 (Z : State) (p0 : Int32) (p1 : Int64) (p2 : Int64) (p3 : Int64) (p4 : Int64) (h0 : Heap) (n0 : Nat) (v : Option Value) (h : Heap) (L : List Loc) : Prop := v = some (.int (1 : Int32)) ∧ Fr n0 L
set_option maxRecDepth 65536 in
set_option maxHeartbeats 40000000 in
theorem rm0 (l : Launch) (Z : State) (a0 : Array Value) (hw : ∀ d ∈ tables_1, d.before a0 Z = true) (ws : List Jvm.Cond) (p0 : Int32) (p1 : Int64) (p2 : Int64) (p3 : Int64) (p4 : Int64) (h0 : Heap) (n0 : Nat) (Z0 : n0 ≤ h0.size)  :
    MetFree l x (head1 (Jvm.Cond.code x code maxLocals ret :: ws) room_1) (fun zza zzU => zza = #[(.int p0), (.long p1), (.long p2), (.long p3), (.long p4)] ∧ Z.Warmed39 zzU.vm ∧ zzU.heap = h0) (fun _ _ _ _ _ => True) (fun _ zzU zzo zzV => ∃ zzv zzL, zzo = .returned zzv ∧ Q0 Z p0 p1 p2 p3 p4 h0 n0 zzv zzV.heap zzL ∧ FrameEnd zzU zzo zzV zzL 16 128) := by
  refine MetFree.of_bodySF (plainFor_of_name pn_2) hisR ?_
  intro p e s m args below meth c s₁ Bd hml0 hP hK
  obtain ⟨rfl, hZ, hh⟩ := hP
  have hx := Bd.exec
  have hby := Bd.bytes
  have hml : c.maxLocals = 10 := hml0
  have hown : s.vm.findClass "com/example/accesstrail/accesstrail/store/AppendOnlyLongsAddPinLaw" = some m.cls := findClass_of_methodNamed Bd.named
  have hnm := (name_of_methodNamed Bd.named Bd.method).1
  have X0 : Stand p l e room_1 s m #[(.int p0), (.long p1), (.long p2), (.long p3), (.long p4)] below meth c s₁ [] 0 0 := Stand.of_body Bd
  have e0 : s₁.heap = h0 := by rw [← hh, Bd.state]; rfl
  have N0 := Fr.nil n0
  have R0 : ∀ t, Steps p.tables e below (s₁.setTop (mkF m 0 #[.val (.int p0), .val (.long p1), .second, .val (.long p2), .second, .val (.long p3), .second, .val (.long p4), .second, .unset] [])) t → Steps p.tables e below (s₁.setTop (entryFrame m #[(.int p0), (.long p1), (.long p2), (.long p3), (.long p4)] maxLocals)) t := fun t k => castTop (ef0 m p0 p1 p2 p3 p4) k
  obtain ⟨T1, h1, X1, e1, E1, A1, D1, -, st1⟩ := newO X0 hx hZ hown (hw _ (List.mem_of_getElem? (i := 0) rfl)) (hw _ (List.mem_of_getElem? (i := 1) rfl)) (hw _ (List.mem_of_getElem? (i := 2) rfl)) e0 (g := (mkF m 0 #[.val (.int p0), .val (.long p1), .second, .val (.long p2), .second, .val (.long p3), .second, .val (.long p4), .second, .unset] [])) rfl (hb hby at_0) (by decide) (by decide)
  obtain ⟨b, g1⟩ : ∃ z, z = h0.size := ⟨_, rfl⟩
  rw [← g1] at A1 D1 st1
  have ge_b : n0 ≤ b := by rw [g1]; exact Z0
  have Sz1 := Nat.le_trans Z0 E1.1
  have E_b := A1
  have F_elements_b : Fld Z h1 b "com/example/accesstrail/accesstrail/store/AppendOnlyLongs" "elements" "[J" .null := D1 (Or.inl (hw _ (List.mem_of_getElem? (i := 11) rfl))) (ty := (.array .long)) (by decide)
  have F_size_b : Fld Z h1 b "com/example/accesstrail/accesstrail/store/AppendOnlyLongs" "size" "I" (.int (0 : Int32)) := D1 (Or.inl (hw _ (List.mem_of_getElem? (i := 18) rfl))) (ty := .int) (by decide)
  have R2 : ∀ t, Steps p.tables e below (T1.setTop (mkF m 9 #[.val (.int p0), .val (.long p1), .second, .val (.long p2), .second, .val (.long p3), .second, .val (.long p4), .second, .unset] [(.int ((p0 &&& (3 : Int32)) + (1 : Int32))), (.ref b), (.ref b)])) t → Steps p.tables e below (s₁.setTop (entryFrame m #[(.int p0), (.long p1), (.long p2), (.long p3), (.long p4)] maxLocals)) t := by
    intro t k
    refine R0 t ?_
    show Steps p.tables e below (s₁.setTop (mkF m 0 #[.val (.int p0), .val (.long p1), .second, .val (.long p2), .second, .val (.long p3), .second, .val (.long p4), .second, .unset] [])) _
    refine st1 _ ?_
    show Steps p.tables e below (T1.setTop (mkF m 3 #[.val (.int p0), .val (.long p1), .second, .val (.long p2), .second, .val (.long p3), .second, .val (.long p4), .second, .unset] [(.ref b)])) _
    refine XS.dup X1.here hx rfl (hb hby at_3) rfl rfl ?_
    show Steps p.tables e below (T1.setTop (mkF m 4 #[.val (.int p0), .val (.long p1), .second, .val (.long p2), .second, .val (.long p3), .second, .val (.long p4), .second, .unset] [(.ref b), (.ref b)])) _
    refine XS.iloadN X1.here hx rfl (hb hby at_4) rfl ?_
    show Steps p.tables e below (T1.setTop (mkF m 5 #[.val (.int p0), .val (.long p1), .second, .val (.long p2), .second, .val (.long p3), .second, .val (.long p4), .second, .unset] [(.int p0), (.ref b), (.ref b)])) _
    refine XS.iconst X1.here hx rfl (hb hby at_5) ?_
    show Steps p.tables e below (T1.setTop (mkF m 6 #[.val (.int p0), .val (.long p1), .second, .val (.long p2), .second, .val (.long p3), .second, .val (.long p4), .second, .unset] [(.int (3 : Int32)), (.int p0), (.ref b), (.ref b)])) _
    refine XS.iand X1.here hx rfl (hb hby at_6) rfl ?_
    show Steps p.tables e below (T1.setTop (mkF m 7 #[.val (.int p0), .val (.long p1), .second, .val (.long p2), .second, .val (.long p3), .second, .val (.long p4), .second, .unset] [(.int (p0 &&& (3 : Int32))), (.ref b), (.ref b)])) _
    refine XS.iconst X1.here hx rfl (hb hby at_7) ?_
    show Steps p.tables e below (T1.setTop (mkF m 8 #[.val (.int p0), .val (.long p1), .second, .val (.long p2), .second, .val (.long p3), .second, .val (.long p4), .second, .unset] [(.int (1 : Int32)), (.int (p0 &&& (3 : Int32))), (.ref b), (.ref b)])) _
    refine XS.iadd X1.here hx rfl (hb hby at_8) rfl ?_
    exact k
  rcases (own_c4 p0) with hv3 | hv3 | hv3 | hv3
  ·
    rw [hv3] at R2
    have lt_b := E_b.lt
    obtain ⟨_, _, ⟨T4, L4, k4, n4⟩, -, X4, ⟨Lc4, hQ4, l4, y4, z4⟩, st4⟩ := X1.specialBack hx (y := (⟨"com/example/accesstrail/accesstrail/store/AppendOnlyLongs", "<init>", "(I)V"⟩ : MethodName)) rfl hown (mvT hZ (hw _ (List.mem_of_getElem? (i := 3) rfl))) (mvT hZ (hw _ (List.mem_of_getElem? (i := 4) rfl))) (mvT hZ (hw _ (List.mem_of_getElem? (i := 5) rfl))) (by decide) (backOf (W := 1) (rm1n1 l Z a0 hw [] b (1 : Int32) h1 n0 Sz1 E_b F_elements_b F_size_b ge_b rfl) hZ (hw _ (List.mem_of_getElem? (i := 5) rfl)) (hw _ (List.mem_of_getElem? (i := 2) rfl)) (by decide) (by decide)) (g := (mkF m 9 #[.val (.int p0), .val (.long p1), .second, .val (.long p2), .second, .val (.long p3), .second, .val (.long p4), .second, .unset] [(.int (1 : Int32)), (.ref b), (.ref b)])) rfl (by rw [hml]; rfl) (Steps.refl _) (a := b) (argsL := [(.int (1 : Int32))]) (rest := [(.ref b)]) (lenOf pd_2 rfl) rfl (by show 2 * 0 + _ ≤ _; exact Nat.le_of_eq rfl) (hb hby at_9) (fun _ _ => ⟨rfl, e1, (by decide : 1 + 1 ≤ _), (by decide : 2 + 1 ≤ _)⟩)
    dsimp only [Pt.U, Pt.locs, Pt.cells, Pt.slots] at X4 l4 y4 z4 st4 hQ4
    subst l4 y4 z4
    obtain ⟨rfl, Nq4, ⟨kc4, K4, F_elements_b, F_size_b, V_r⟩⟩ := hQ4
    have N4 := Fr.app N0 Nq4
    have Sz4 := Nat.le_trans Sz1 K4.1
    have E_b := E_b.keep K4
    obtain ⟨r0, g_r0⟩ : ∃ z, z = h1.size := ⟨_, rfl⟩
    rw [← g_r0] at F_elements_b V_r
    have V_r0 : Arv Z T4.heap r0 kc4 .long (1 : Int32) [(.long (0 : Int64))] (.long (0 : Int64)) := V_r
    have ge_r0 : n0 ≤ r0 := g_r0 ▸ Nat.le_trans Z0 E1.1
    have ne_r0_b : r0 ≠ b := Ne.symm (Nat.ne_of_lt (Nat.lt_of_lt_of_le lt_b (Nat.le_of_eq g_r0.symm)))
    have R5 : ∀ t, Steps p.tables e below (T4.setTop (mkF m 17 #[.val (.int p0), .val (.long p1), .second, .val (.long p2), .second, .val (.long p3), .second, .val (.long p4), .second, .val (.ref b)] [(.long p1), (.ref b)])) t → Steps p.tables e below (s₁.setTop (entryFrame m #[(.int p0), (.long p1), (.long p2), (.long p3), (.long p4)] maxLocals)) t := by
      intro t k
      refine R2 t ?_
      show Steps p.tables e below (T1.setTop (mkF m 9 #[.val (.int p0), .val (.long p1), .second, .val (.long p2), .second, .val (.long p3), .second, .val (.long p4), .second, .unset] [(.int (1 : Int32)), (.ref b), (.ref b)])) _
      refine st4.trans ?_
      show Steps p.tables e below (T4.setTop (mkF m 12 #[.val (.int p0), .val (.long p1), .second, .val (.long p2), .second, .val (.long p3), .second, .val (.long p4), .second, .unset] [(.ref b)])) _
      refine XS.astore X4.here hx rfl (hb hby at_12) rfl rfl (l' := #[.val (.int p0), .val (.long p1), .second, .val (.long p2), .second, .val (.long p3), .second, .val (.long p4), .second, .val (.ref b)]) rfl ?_
      show Steps p.tables e below (T4.setTop (mkF m 14 #[.val (.int p0), .val (.long p1), .second, .val (.long p2), .second, .val (.long p3), .second, .val (.long p4), .second, .val (.ref b)] [])) _
      refine XS.aload X4.here hx rfl (hb hby at_14) rfl rfl ?_
      show Steps p.tables e below (T4.setTop (mkF m 16 #[.val (.int p0), .val (.long p1), .second, .val (.long p2), .second, .val (.long p3), .second, .val (.long p4), .second, .val (.ref b)] [(.ref b)])) _
      refine XS.lloadN X4.here hx rfl (hb hby at_16) rfl ?_
      exact k
    have lt_b := E_b.lt
    obtain ⟨cq6, kq6, q6a, q6b, q6c⟩ := isOf hZ rfl E_b
    obtain ⟨_, _, ⟨T6, L6, k6, n6⟩, -, X6, ⟨Lc6, hQ6, l6, y6, z6⟩, st6⟩ := X4.virtualBack hx (y := (⟨"com/example/accesstrail/accesstrail/store/AppendOnlyLongs", "add", "(J)V"⟩ : MethodName)) (z := (⟨"com/example/accesstrail/accesstrail/store/AppendOnlyLongs", "add", "(J)V"⟩ : MethodName)) hown (mvT hZ (hw _ (List.mem_of_getElem? (i := 12) rfl))) (mvT hZ (hw _ (List.mem_of_getElem? (i := 13) rfl))) (notFace_of_selects (args := #[]) (mvT hZ (hw _ (List.mem_of_getElem? (i := 15) rfl)))) (mvT hZ (hw _ (List.mem_of_getElem? (i := 15) rfl))) (mvT hZ (hw _ (List.mem_of_getElem? (i := 14) rfl))) (by decide) (backOf (W := 0) (rm3n1_0 l Z a0 hw [] b p1 r0 kc4 (0 : Int64) T4.heap n0 Sz4 E_b F_elements_b F_size_b V_r0 ge_b ge_r0 ne_r0_b) hZ (hw _ (List.mem_of_getElem? (i := 16) rfl)) (hw _ (List.mem_of_getElem? (i := 2) rfl)) (by decide) (by decide)) q6a q6c (g := (mkF m 17 #[.val (.int p0), .val (.long p1), .second, .val (.long p2), .second, .val (.long p3), .second, .val (.long p4), .second, .val (.ref b)] [(.long p1), (.ref b)])) rfl (by rw [hml]; rfl) (Steps.refl _) (argsL := [(.long p1)]) (rest := []) (lenOf pd_3 rfl) rfl (by show 2 * 0 + _ ≤ _; exact Nat.le_of_eq rfl) (hb hby at_17) (fun _ _ => ⟨rfl, rfl, (by decide : 2 + 0 ≤ _), (by decide : 3 + 0 ≤ _)⟩)
    dsimp only [Pt.U, Pt.locs, Pt.cells, Pt.slots] at X6 l6 y6 z6 st6 hQ6
    subst l6 y6 z6
    obtain ⟨rfl, Nq6, K6, F_elements_b, F_size_b, V_r0⟩ := hQ6
    have N6 := Fr.app N4 Nq6
    have Sz6 := Nat.le_trans Sz4 K6.1
    have E_b := E_b.keep K6
    have R7 : ∀ t, Steps p.tables e below (T6.setTop (mkF m 23 #[.val (.int p0), .val (.long p1), .second, .val (.long p2), .second, .val (.long p3), .second, .val (.long p4), .second, .val (.ref b)] [(.long p2), (.ref b)])) t → Steps p.tables e below (s₁.setTop (entryFrame m #[(.int p0), (.long p1), (.long p2), (.long p3), (.long p4)] maxLocals)) t := by
      intro t k
      refine R5 t ?_
      show Steps p.tables e below (T4.setTop (mkF m 17 #[.val (.int p0), .val (.long p1), .second, .val (.long p2), .second, .val (.long p3), .second, .val (.long p4), .second, .val (.ref b)] [(.long p1), (.ref b)])) _
      refine st6.trans ?_
      show Steps p.tables e below (T6.setTop (mkF m 20 #[.val (.int p0), .val (.long p1), .second, .val (.long p2), .second, .val (.long p3), .second, .val (.long p4), .second, .val (.ref b)] [])) _
      refine XS.aload X6.here hx rfl (hb hby at_20) rfl rfl ?_
      show Steps p.tables e below (T6.setTop (mkF m 22 #[.val (.int p0), .val (.long p1), .second, .val (.long p2), .second, .val (.long p3), .second, .val (.long p4), .second, .val (.ref b)] [(.ref b)])) _
      refine XS.lloadN X6.here hx rfl (hb hby at_22) rfl ?_
      exact k
    have lt_b := E_b.lt
    obtain ⟨cq8, kq8, q8a, q8b, q8c⟩ := isOf hZ rfl E_b
    obtain ⟨_, _, ⟨T8, L8, k8, n8⟩, -, X8, ⟨Lc8, hQ8, l8, y8, z8⟩, st8⟩ := X6.virtualBack hx (y := (⟨"com/example/accesstrail/accesstrail/store/AppendOnlyLongs", "add", "(J)V"⟩ : MethodName)) (z := (⟨"com/example/accesstrail/accesstrail/store/AppendOnlyLongs", "add", "(J)V"⟩ : MethodName)) hown (mvT hZ (hw _ (List.mem_of_getElem? (i := 12) rfl))) (mvT hZ (hw _ (List.mem_of_getElem? (i := 13) rfl))) (notFace_of_selects (args := #[]) (mvT hZ (hw _ (List.mem_of_getElem? (i := 15) rfl)))) (mvT hZ (hw _ (List.mem_of_getElem? (i := 15) rfl))) (mvT hZ (hw _ (List.mem_of_getElem? (i := 14) rfl))) (by decide) (backOf (W := 0) (rm3n1_1 l Z a0 hw [] b p2 r0 kc4 p1 T6.heap n0 Sz6 E_b F_elements_b F_size_b V_r0 ge_b ge_r0 ne_r0_b) hZ (hw _ (List.mem_of_getElem? (i := 16) rfl)) (hw _ (List.mem_of_getElem? (i := 2) rfl)) (by decide) (by decide)) q8a q8c (g := (mkF m 23 #[.val (.int p0), .val (.long p1), .second, .val (.long p2), .second, .val (.long p3), .second, .val (.long p4), .second, .val (.ref b)] [(.long p2), (.ref b)])) rfl (by rw [hml]; rfl) (Steps.refl _) (argsL := [(.long p2)]) (rest := []) (lenOf pd_3 rfl) rfl (by show 2 * 0 + _ ≤ _; exact Nat.le_of_eq rfl) (hb hby at_23) (fun _ _ => ⟨rfl, rfl, (by decide : 2 + 1 ≤ _), (by decide : 3 + 2 ≤ _)⟩)
    dsimp only [Pt.U, Pt.locs, Pt.cells, Pt.slots] at X8 l8 y8 z8 st8 hQ8
    subst l8 y8 z8
    obtain ⟨rfl, Nq8, ⟨kc8, K8, F_elements_b, F_size_b, V_r⟩⟩ := hQ8
    have N8 := Fr.app N6 Nq8
    have Sz8 := Nat.le_trans Sz6 K8.1
    have E_b := E_b.keep K8
    have V_r0 := V_r0.keep K8 (ninS ne_r0_b nin0)
    obtain ⟨r2, g_r2⟩ : ∃ z, z = T6.heap.size := ⟨_, rfl⟩
    rw [← g_r2] at F_elements_b V_r
    have V_r2 : Arv Z T8.heap r2 kc8 .long (2 : Int32) [(.long p1), (.long p2)] (.long (0 : Int64)) := V_r
    have ge_r2 : n0 ≤ r2 := g_r2 ▸ Sz6
    have ne_r2_b : r2 ≠ b := Ne.symm (Nat.ne_of_lt (Nat.lt_of_lt_of_le lt_b (Nat.le_of_eq g_r2.symm)))
    have R9 : ∀ t, Steps p.tables e below (T8.setTop (mkF m 30 #[.val (.int p0), .val (.long p1), .second, .val (.long p2), .second, .val (.long p3), .second, .val (.long p4), .second, .val (.ref b)] [(.long p3), (.ref b)])) t → Steps p.tables e below (s₁.setTop (entryFrame m #[(.int p0), (.long p1), (.long p2), (.long p3), (.long p4)] maxLocals)) t := by
      intro t k
      refine R7 t ?_
      show Steps p.tables e below (T6.setTop (mkF m 23 #[.val (.int p0), .val (.long p1), .second, .val (.long p2), .second, .val (.long p3), .second, .val (.long p4), .second, .val (.ref b)] [(.long p2), (.ref b)])) _
      refine st8.trans ?_
      show Steps p.tables e below (T8.setTop (mkF m 26 #[.val (.int p0), .val (.long p1), .second, .val (.long p2), .second, .val (.long p3), .second, .val (.long p4), .second, .val (.ref b)] [])) _
      refine XS.aload X8.here hx rfl (hb hby at_26) rfl rfl ?_
      show Steps p.tables e below (T8.setTop (mkF m 28 #[.val (.int p0), .val (.long p1), .second, .val (.long p2), .second, .val (.long p3), .second, .val (.long p4), .second, .val (.ref b)] [(.ref b)])) _
      refine XS.lload X8.here hx rfl (hb hby at_28) rfl ?_
      exact k
    have lt_b := E_b.lt
    obtain ⟨cq10, kq10, q10a, q10b, q10c⟩ := isOf hZ rfl E_b
    obtain ⟨_, _, ⟨T10, L10, k10, n10⟩, -, X10, ⟨Lc10, hQ10, l10, y10, z10⟩, st10⟩ := X8.virtualBack hx (y := (⟨"com/example/accesstrail/accesstrail/store/AppendOnlyLongs", "add", "(J)V"⟩ : MethodName)) (z := (⟨"com/example/accesstrail/accesstrail/store/AppendOnlyLongs", "add", "(J)V"⟩ : MethodName)) hown (mvT hZ (hw _ (List.mem_of_getElem? (i := 12) rfl))) (mvT hZ (hw _ (List.mem_of_getElem? (i := 13) rfl))) (notFace_of_selects (args := #[]) (mvT hZ (hw _ (List.mem_of_getElem? (i := 15) rfl)))) (mvT hZ (hw _ (List.mem_of_getElem? (i := 15) rfl))) (mvT hZ (hw _ (List.mem_of_getElem? (i := 14) rfl))) (by decide) (backOf (W := 0) (rm3n2_2 l Z a0 hw [] b p3 r2 kc8 p1 p2 T8.heap n0 Sz8 E_b F_elements_b F_size_b V_r2 ge_b ge_r2 ne_r2_b) hZ (hw _ (List.mem_of_getElem? (i := 16) rfl)) (hw _ (List.mem_of_getElem? (i := 2) rfl)) (by decide) (by decide)) q10a q10c (g := (mkF m 30 #[.val (.int p0), .val (.long p1), .second, .val (.long p2), .second, .val (.long p3), .second, .val (.long p4), .second, .val (.ref b)] [(.long p3), (.ref b)])) rfl (by rw [hml]; rfl) (Steps.refl _) (argsL := [(.long p3)]) (rest := []) (lenOf pd_3 rfl) rfl (by show 2 * 0 + _ ≤ _; exact Nat.le_of_eq rfl) (hb hby at_30) (fun _ _ => ⟨rfl, rfl, (by decide : 3 + 1 ≤ _), (by decide : 5 + 4 ≤ _)⟩)
    dsimp only [Pt.U, Pt.locs, Pt.cells, Pt.slots] at X10 l10 y10 z10 st10 hQ10
    subst l10 y10 z10
    obtain ⟨rfl, Nq10, ⟨kc10, K10, F_elements_b, F_size_b, V_r⟩⟩ := hQ10
    have N10 := Fr.app N8 Nq10
    have Sz10 := Nat.le_trans Sz8 K10.1
    have E_b := E_b.keep K10
    have V_r2 := V_r2.keep K10 (ninS ne_r2_b nin0)
    obtain ⟨r3, g_r3⟩ : ∃ z, z = T8.heap.size := ⟨_, rfl⟩
    rw [← g_r3] at F_elements_b V_r
    have V_r3 : Arv Z T10.heap r3 kc10 .long (4 : Int32) [(.long p1), (.long p2), (.long p3), (.long (0 : Int64))] (.long (0 : Int64)) := V_r
    have ge_r3 : n0 ≤ r3 := g_r3 ▸ Sz8
    have ne_r3_b : r3 ≠ b := Ne.symm (Nat.ne_of_lt (Nat.lt_of_lt_of_le lt_b (Nat.le_of_eq g_r3.symm)))
    have R11 : ∀ t, Steps p.tables e below (T10.setTop (mkF m 37 #[.val (.int p0), .val (.long p1), .second, .val (.long p2), .second, .val (.long p3), .second, .val (.long p4), .second, .val (.ref b)] [(.long p4), (.ref b)])) t → Steps p.tables e below (s₁.setTop (entryFrame m #[(.int p0), (.long p1), (.long p2), (.long p3), (.long p4)] maxLocals)) t := by
      intro t k
      refine R9 t ?_
      show Steps p.tables e below (T8.setTop (mkF m 30 #[.val (.int p0), .val (.long p1), .second, .val (.long p2), .second, .val (.long p3), .second, .val (.long p4), .second, .val (.ref b)] [(.long p3), (.ref b)])) _
      refine st10.trans ?_
      show Steps p.tables e below (T10.setTop (mkF m 33 #[.val (.int p0), .val (.long p1), .second, .val (.long p2), .second, .val (.long p3), .second, .val (.long p4), .second, .val (.ref b)] [])) _
      refine XS.aload X10.here hx rfl (hb hby at_33) rfl rfl ?_
      show Steps p.tables e below (T10.setTop (mkF m 35 #[.val (.int p0), .val (.long p1), .second, .val (.long p2), .second, .val (.long p3), .second, .val (.long p4), .second, .val (.ref b)] [(.ref b)])) _
      refine XS.lload X10.here hx rfl (hb hby at_35) rfl ?_
      exact k
    have lt_b := E_b.lt
    obtain ⟨cq12, kq12, q12a, q12b, q12c⟩ := isOf hZ rfl E_b
    obtain ⟨_, _, ⟨T12, L12, k12, n12⟩, -, X12, ⟨Lc12, hQ12, l12, y12, z12⟩, st12⟩ := X10.virtualBack hx (y := (⟨"com/example/accesstrail/accesstrail/store/AppendOnlyLongs", "add", "(J)V"⟩ : MethodName)) (z := (⟨"com/example/accesstrail/accesstrail/store/AppendOnlyLongs", "add", "(J)V"⟩ : MethodName)) hown (mvT hZ (hw _ (List.mem_of_getElem? (i := 12) rfl))) (mvT hZ (hw _ (List.mem_of_getElem? (i := 13) rfl))) (notFace_of_selects (args := #[]) (mvT hZ (hw _ (List.mem_of_getElem? (i := 15) rfl)))) (mvT hZ (hw _ (List.mem_of_getElem? (i := 15) rfl))) (mvT hZ (hw _ (List.mem_of_getElem? (i := 14) rfl))) (by decide) (backOf (W := 0) (rm3n4_3 l Z a0 hw [] b p4 r3 kc10 p1 p2 p3 (0 : Int64) T10.heap n0 Sz10 E_b F_elements_b F_size_b V_r3 ge_b ge_r3 ne_r3_b) hZ (hw _ (List.mem_of_getElem? (i := 16) rfl)) (hw _ (List.mem_of_getElem? (i := 2) rfl)) (by decide) (by decide)) q12a q12c (g := (mkF m 37 #[.val (.int p0), .val (.long p1), .second, .val (.long p2), .second, .val (.long p3), .second, .val (.long p4), .second, .val (.ref b)] [(.long p4), (.ref b)])) rfl (by rw [hml]; rfl) (Steps.refl _) (argsL := [(.long p4)]) (rest := []) (lenOf pd_3 rfl) rfl (by show 2 * 0 + _ ≤ _; exact Nat.le_of_eq rfl) (hb hby at_37) (fun _ _ => ⟨rfl, rfl, (by decide : 4 + 0 ≤ _), (by decide : 9 + 0 ≤ _)⟩)
    dsimp only [Pt.U, Pt.locs, Pt.cells, Pt.slots] at X12 l12 y12 z12 st12 hQ12
    subst l12 y12 z12
    obtain ⟨rfl, Nq12, K12, F_elements_b, F_size_b, V_r3⟩ := hQ12
    have N12 := Fr.app N10 Nq12
    have Sz12 := Nat.le_trans Sz10 K12.1
    have E_b := E_b.keep K12
    have R13 : ∀ t, Steps p.tables e below (T12.setTop (mkF m 42 #[.val (.int p0), .val (.long p1), .second, .val (.long p2), .second, .val (.long p3), .second, .val (.long p4), .second, .val (.ref b)] [(.ref b)])) t → Steps p.tables e below (s₁.setTop (entryFrame m #[(.int p0), (.long p1), (.long p2), (.long p3), (.long p4)] maxLocals)) t := by
      intro t k
      refine R11 t ?_
      show Steps p.tables e below (T10.setTop (mkF m 37 #[.val (.int p0), .val (.long p1), .second, .val (.long p2), .second, .val (.long p3), .second, .val (.long p4), .second, .val (.ref b)] [(.long p4), (.ref b)])) _
      refine st12.trans ?_
      show Steps p.tables e below (T12.setTop (mkF m 40 #[.val (.int p0), .val (.long p1), .second, .val (.long p2), .second, .val (.long p3), .second, .val (.long p4), .second, .val (.ref b)] [])) _
      refine XS.aload X12.here hx rfl (hb hby at_40) rfl rfl ?_
      exact k
    obtain ⟨cq14, kq14, q14a, q14b, q14c⟩ := isOf hZ rfl E_b
    obtain ⟨_, _, ⟨T14, L14, k14, n14⟩, -, X14, ⟨Lc14, hQ14, l14, y14, z14⟩, st14⟩ := X12.virtualBack hx (y := (⟨"com/example/accesstrail/accesstrail/store/AppendOnlyLongs", "size", "()I"⟩ : MethodName)) (z := (⟨"com/example/accesstrail/accesstrail/store/AppendOnlyLongs", "size", "()I"⟩ : MethodName)) hown (mvT hZ (hw _ (List.mem_of_getElem? (i := 31) rfl))) (mvT hZ (hw _ (List.mem_of_getElem? (i := 32) rfl))) (notFace_of_selects (args := #[]) (mvT hZ (hw _ (List.mem_of_getElem? (i := 34) rfl)))) (mvT hZ (hw _ (List.mem_of_getElem? (i := 34) rfl))) (mvT hZ (hw _ (List.mem_of_getElem? (i := 33) rfl))) (by decide) (backOf (W := 0) (rm6 l Z a0 hw [] b (4 : Int32) T12.heap n0 Sz12 F_size_b) hZ (hw _ (List.mem_of_getElem? (i := 35) rfl)) (hw _ (List.mem_of_getElem? (i := 2) rfl)) (by decide) (by decide)) q14a q14c (g := (mkF m 42 #[.val (.int p0), .val (.long p1), .second, .val (.long p2), .second, .val (.long p3), .second, .val (.long p4), .second, .val (.ref b)] [(.ref b)])) rfl (by rw [hml]; rfl) (Steps.refl _) (argsL := []) (rest := []) (lenOf pd_4 rfl) rfl (by show 2 * 0 + _ ≤ _; exact Nat.le_of_eq rfl) (hb hby at_42) (fun _ _ => ⟨rfl, rfl, (by decide : 4 + 0 ≤ _), (by decide : 9 + 0 ≤ _)⟩)
    dsimp only [Pt.U, Pt.locs, Pt.cells, Pt.slots] at X14 l14 y14 z14 st14 hQ14
    subst l14 y14 z14
    obtain ⟨rfl, Nq14, eq14⟩ := hQ14
    have N14 := Fr.app N12 Nq14
    have e14 : T14.heap = T12.heap := eq14
    have R15 : ∀ t, Steps p.tables e below (T14.setTop (mkF m 52 #[.val (.int p0), .val (.long p1), .second, .val (.long p2), .second, .val (.long p3), .second, .val (.long p4), .second, .val (.ref b)] [(.int (0 : Int32)), (.ref b)])) t → Steps p.tables e below (s₁.setTop (entryFrame m #[(.int p0), (.long p1), (.long p2), (.long p3), (.long p4)] maxLocals)) t := by
      intro t k
      refine R13 t ?_
      show Steps p.tables e below (T12.setTop (mkF m 42 #[.val (.int p0), .val (.long p1), .second, .val (.long p2), .second, .val (.long p3), .second, .val (.long p4), .second, .val (.ref b)] [(.ref b)])) _
      refine st14.trans ?_
      show Steps p.tables e below (T14.setTop (mkF m 45 #[.val (.int p0), .val (.long p1), .second, .val (.long p2), .second, .val (.long p3), .second, .val (.long p4), .second, .val (.ref b)] [(.int (4 : Int32))])) _
      refine XS.iconst X14.here hx rfl (hb hby at_45) ?_
      show Steps p.tables e below (T14.setTop (mkF m 46 #[.val (.int p0), .val (.long p1), .second, .val (.long p2), .second, .val (.long p3), .second, .val (.long p4), .second, .val (.ref b)] [(.int (4 : Int32)), (.int (4 : Int32))])) _
      refine XS.icmpNo X14.here hx rfl (hb hby at_46) rfl (teq (rfl : (4 : Int32) = 4)).2 ?_
      show Steps p.tables e below (T14.setTop (mkF m 49 #[.val (.int p0), .val (.long p1), .second, .val (.long p2), .second, .val (.long p3), .second, .val (.long p4), .second, .val (.ref b)] [])) _
      refine XS.aload X14.here hx rfl (hb hby at_49) rfl rfl ?_
      show Steps p.tables e below (T14.setTop (mkF m 51 #[.val (.int p0), .val (.long p1), .second, .val (.long p2), .second, .val (.long p3), .second, .val (.long p4), .second, .val (.ref b)] [(.ref b)])) _
      refine XS.iconst X14.here hx rfl (hb hby at_51) ?_
      exact k
    obtain ⟨cq16, kq16, q16a, q16b, q16c⟩ := isOf hZ e14 E_b
    obtain ⟨_, _, ⟨T16, L16, k16, n16⟩, -, X16, ⟨Lc16, hQ16, l16, y16, z16⟩, st16⟩ := X14.virtualBack hx (y := (⟨"com/example/accesstrail/accesstrail/store/AppendOnlyLongs", "get", "(I)J"⟩ : MethodName)) (z := (⟨"com/example/accesstrail/accesstrail/store/AppendOnlyLongs", "get", "(I)J"⟩ : MethodName)) hown (mvT hZ (hw _ (List.mem_of_getElem? (i := 36) rfl))) (mvT hZ (hw _ (List.mem_of_getElem? (i := 37) rfl))) (notFace_of_selects (args := #[]) (mvT hZ (hw _ (List.mem_of_getElem? (i := 39) rfl)))) (mvT hZ (hw _ (List.mem_of_getElem? (i := 39) rfl))) (mvT hZ (hw _ (List.mem_of_getElem? (i := 38) rfl))) (by decide) (backOf (W := 0) (rm7n4_0 l Z a0 hw [] b (0 : Int32) r3 kc10 p1 p2 p3 p4 T12.heap n0 Sz12 F_elements_b V_r3 rfl) hZ (hw _ (List.mem_of_getElem? (i := 40) rfl)) (hw _ (List.mem_of_getElem? (i := 2) rfl)) (by decide) (by decide)) q16a q16c (g := (mkF m 52 #[.val (.int p0), .val (.long p1), .second, .val (.long p2), .second, .val (.long p3), .second, .val (.long p4), .second, .val (.ref b)] [(.int (0 : Int32)), (.ref b)])) rfl (by rw [hml]; rfl) (Steps.refl _) (argsL := [(.int (0 : Int32))]) (rest := []) (lenOf pd_5 rfl) rfl (by show 2 * 0 + _ ≤ _; exact Nat.le_of_eq rfl) (hb hby at_52) (fun _ _ => ⟨rfl, e14, (by decide : 4 + 0 ≤ _), (by decide : 9 + 0 ≤ _)⟩)
    dsimp only [Pt.U, Pt.locs, Pt.cells, Pt.slots] at X16 l16 y16 z16 st16 hQ16
    subst l16 y16 z16
    obtain ⟨rfl, Nq16, eq16⟩ := hQ16
    have N16 := Fr.app N14 Nq16
    have e16 : T16.heap = T12.heap := eq16
    have R17 : ∀ t, Steps p.tables e below (T16.setTop (mkF m 63 #[.val (.int p0), .val (.long p1), .second, .val (.long p2), .second, .val (.long p3), .second, .val (.long p4), .second, .val (.ref b)] [(.int (1 : Int32)), (.ref b)])) t → Steps p.tables e below (s₁.setTop (entryFrame m #[(.int p0), (.long p1), (.long p2), (.long p3), (.long p4)] maxLocals)) t := by
      intro t k
      refine R15 t ?_
      show Steps p.tables e below (T14.setTop (mkF m 52 #[.val (.int p0), .val (.long p1), .second, .val (.long p2), .second, .val (.long p3), .second, .val (.long p4), .second, .val (.ref b)] [(.int (0 : Int32)), (.ref b)])) _
      refine st16.trans ?_
      show Steps p.tables e below (T16.setTop (mkF m 55 #[.val (.int p0), .val (.long p1), .second, .val (.long p2), .second, .val (.long p3), .second, .val (.long p4), .second, .val (.ref b)] [(.long p1)])) _
      refine XS.lloadN X16.here hx rfl (hb hby at_55) rfl ?_
      show Steps p.tables e below (T16.setTop (mkF m 56 #[.val (.int p0), .val (.long p1), .second, .val (.long p2), .second, .val (.long p3), .second, .val (.long p4), .second, .val (.ref b)] [(.long p1), (.long p1)])) _
      refine XS.lcmp X16.here hx rfl (hb hby at_56) rfl ?_
      show Steps p.tables e below (T16.setTop (mkF m 57 #[.val (.int p0), .val (.long p1), .second, .val (.long p2), .second, .val (.long p3), .second, .val (.long p4), .second, .val (.ref b)] [(.int (lcmpW p1 p1))])) _
      refine XS.ifNo X16.here hx rfl (hb hby at_57) rfl ((if0 _ _).trans (teq ((lw_eq _ _).mpr rfl)).2) ?_
      show Steps p.tables e below (T16.setTop (mkF m 60 #[.val (.int p0), .val (.long p1), .second, .val (.long p2), .second, .val (.long p3), .second, .val (.long p4), .second, .val (.ref b)] [])) _
      refine XS.aload X16.here hx rfl (hb hby at_60) rfl rfl ?_
      show Steps p.tables e below (T16.setTop (mkF m 62 #[.val (.int p0), .val (.long p1), .second, .val (.long p2), .second, .val (.long p3), .second, .val (.long p4), .second, .val (.ref b)] [(.ref b)])) _
      refine XS.iconst X16.here hx rfl (hb hby at_62) ?_
      exact k
    obtain ⟨cq18, kq18, q18a, q18b, q18c⟩ := isOf hZ e16 E_b
    obtain ⟨_, _, ⟨T18, L18, k18, n18⟩, -, X18, ⟨Lc18, hQ18, l18, y18, z18⟩, st18⟩ := X16.virtualBack hx (y := (⟨"com/example/accesstrail/accesstrail/store/AppendOnlyLongs", "get", "(I)J"⟩ : MethodName)) (z := (⟨"com/example/accesstrail/accesstrail/store/AppendOnlyLongs", "get", "(I)J"⟩ : MethodName)) hown (mvT hZ (hw _ (List.mem_of_getElem? (i := 36) rfl))) (mvT hZ (hw _ (List.mem_of_getElem? (i := 37) rfl))) (notFace_of_selects (args := #[]) (mvT hZ (hw _ (List.mem_of_getElem? (i := 39) rfl)))) (mvT hZ (hw _ (List.mem_of_getElem? (i := 39) rfl))) (mvT hZ (hw _ (List.mem_of_getElem? (i := 38) rfl))) (by decide) (backOf (W := 0) (rm7n4_1 l Z a0 hw [] b (1 : Int32) r3 kc10 p1 p2 p3 p4 T12.heap n0 Sz12 F_elements_b V_r3 rfl) hZ (hw _ (List.mem_of_getElem? (i := 40) rfl)) (hw _ (List.mem_of_getElem? (i := 2) rfl)) (by decide) (by decide)) q18a q18c (g := (mkF m 63 #[.val (.int p0), .val (.long p1), .second, .val (.long p2), .second, .val (.long p3), .second, .val (.long p4), .second, .val (.ref b)] [(.int (1 : Int32)), (.ref b)])) rfl (by rw [hml]; rfl) (Steps.refl _) (argsL := [(.int (1 : Int32))]) (rest := []) (lenOf pd_5 rfl) rfl (by show 2 * 0 + _ ≤ _; exact Nat.le_of_eq rfl) (hb hby at_63) (fun _ _ => ⟨rfl, e16, (by decide : 4 + 0 ≤ _), (by decide : 9 + 0 ≤ _)⟩)
    dsimp only [Pt.U, Pt.locs, Pt.cells, Pt.slots] at X18 l18 y18 z18 st18 hQ18
    subst l18 y18 z18
    obtain ⟨rfl, Nq18, eq18⟩ := hQ18
    have N18 := Fr.app N16 Nq18
    have e18 : T18.heap = T12.heap := eq18
    have R19 : ∀ t, Steps p.tables e below (T18.setTop (mkF m 74 #[.val (.int p0), .val (.long p1), .second, .val (.long p2), .second, .val (.long p3), .second, .val (.long p4), .second, .val (.ref b)] [(.int (2 : Int32)), (.ref b)])) t → Steps p.tables e below (s₁.setTop (entryFrame m #[(.int p0), (.long p1), (.long p2), (.long p3), (.long p4)] maxLocals)) t := by
      intro t k
      refine R17 t ?_
      show Steps p.tables e below (T16.setTop (mkF m 63 #[.val (.int p0), .val (.long p1), .second, .val (.long p2), .second, .val (.long p3), .second, .val (.long p4), .second, .val (.ref b)] [(.int (1 : Int32)), (.ref b)])) _
      refine st18.trans ?_
      show Steps p.tables e below (T18.setTop (mkF m 66 #[.val (.int p0), .val (.long p1), .second, .val (.long p2), .second, .val (.long p3), .second, .val (.long p4), .second, .val (.ref b)] [(.long p2)])) _
      refine XS.lloadN X18.here hx rfl (hb hby at_66) rfl ?_
      show Steps p.tables e below (T18.setTop (mkF m 67 #[.val (.int p0), .val (.long p1), .second, .val (.long p2), .second, .val (.long p3), .second, .val (.long p4), .second, .val (.ref b)] [(.long p2), (.long p2)])) _
      refine XS.lcmp X18.here hx rfl (hb hby at_67) rfl ?_
      show Steps p.tables e below (T18.setTop (mkF m 68 #[.val (.int p0), .val (.long p1), .second, .val (.long p2), .second, .val (.long p3), .second, .val (.long p4), .second, .val (.ref b)] [(.int (lcmpW p2 p2))])) _
      refine XS.ifNo X18.here hx rfl (hb hby at_68) rfl ((if0 _ _).trans (teq ((lw_eq _ _).mpr rfl)).2) ?_
      show Steps p.tables e below (T18.setTop (mkF m 71 #[.val (.int p0), .val (.long p1), .second, .val (.long p2), .second, .val (.long p3), .second, .val (.long p4), .second, .val (.ref b)] [])) _
      refine XS.aload X18.here hx rfl (hb hby at_71) rfl rfl ?_
      show Steps p.tables e below (T18.setTop (mkF m 73 #[.val (.int p0), .val (.long p1), .second, .val (.long p2), .second, .val (.long p3), .second, .val (.long p4), .second, .val (.ref b)] [(.ref b)])) _
      refine XS.iconst X18.here hx rfl (hb hby at_73) ?_
      exact k
    obtain ⟨cq20, kq20, q20a, q20b, q20c⟩ := isOf hZ e18 E_b
    obtain ⟨_, _, ⟨T20, L20, k20, n20⟩, -, X20, ⟨Lc20, hQ20, l20, y20, z20⟩, st20⟩ := X18.virtualBack hx (y := (⟨"com/example/accesstrail/accesstrail/store/AppendOnlyLongs", "get", "(I)J"⟩ : MethodName)) (z := (⟨"com/example/accesstrail/accesstrail/store/AppendOnlyLongs", "get", "(I)J"⟩ : MethodName)) hown (mvT hZ (hw _ (List.mem_of_getElem? (i := 36) rfl))) (mvT hZ (hw _ (List.mem_of_getElem? (i := 37) rfl))) (notFace_of_selects (args := #[]) (mvT hZ (hw _ (List.mem_of_getElem? (i := 39) rfl)))) (mvT hZ (hw _ (List.mem_of_getElem? (i := 39) rfl))) (mvT hZ (hw _ (List.mem_of_getElem? (i := 38) rfl))) (by decide) (backOf (W := 0) (rm7n4_2 l Z a0 hw [] b (2 : Int32) r3 kc10 p1 p2 p3 p4 T12.heap n0 Sz12 F_elements_b V_r3 rfl) hZ (hw _ (List.mem_of_getElem? (i := 40) rfl)) (hw _ (List.mem_of_getElem? (i := 2) rfl)) (by decide) (by decide)) q20a q20c (g := (mkF m 74 #[.val (.int p0), .val (.long p1), .second, .val (.long p2), .second, .val (.long p3), .second, .val (.long p4), .second, .val (.ref b)] [(.int (2 : Int32)), (.ref b)])) rfl (by rw [hml]; rfl) (Steps.refl _) (argsL := [(.int (2 : Int32))]) (rest := []) (lenOf pd_5 rfl) rfl (by show 2 * 0 + _ ≤ _; exact Nat.le_of_eq rfl) (hb hby at_74) (fun _ _ => ⟨rfl, e18, (by decide : 4 + 0 ≤ _), (by decide : 9 + 0 ≤ _)⟩)
    dsimp only [Pt.U, Pt.locs, Pt.cells, Pt.slots] at X20 l20 y20 z20 st20 hQ20
    subst l20 y20 z20
    obtain ⟨rfl, Nq20, eq20⟩ := hQ20
    have N20 := Fr.app N18 Nq20
    have e20 : T20.heap = T12.heap := eq20
    have R21 : ∀ t, Steps p.tables e below (T20.setTop (mkF m 86 #[.val (.int p0), .val (.long p1), .second, .val (.long p2), .second, .val (.long p3), .second, .val (.long p4), .second, .val (.ref b)] [(.int (3 : Int32)), (.ref b)])) t → Steps p.tables e below (s₁.setTop (entryFrame m #[(.int p0), (.long p1), (.long p2), (.long p3), (.long p4)] maxLocals)) t := by
      intro t k
      refine R19 t ?_
      show Steps p.tables e below (T18.setTop (mkF m 74 #[.val (.int p0), .val (.long p1), .second, .val (.long p2), .second, .val (.long p3), .second, .val (.long p4), .second, .val (.ref b)] [(.int (2 : Int32)), (.ref b)])) _
      refine st20.trans ?_
      show Steps p.tables e below (T20.setTop (mkF m 77 #[.val (.int p0), .val (.long p1), .second, .val (.long p2), .second, .val (.long p3), .second, .val (.long p4), .second, .val (.ref b)] [(.long p3)])) _
      refine XS.lload X20.here hx rfl (hb hby at_77) rfl ?_
      show Steps p.tables e below (T20.setTop (mkF m 79 #[.val (.int p0), .val (.long p1), .second, .val (.long p2), .second, .val (.long p3), .second, .val (.long p4), .second, .val (.ref b)] [(.long p3), (.long p3)])) _
      refine XS.lcmp X20.here hx rfl (hb hby at_79) rfl ?_
      show Steps p.tables e below (T20.setTop (mkF m 80 #[.val (.int p0), .val (.long p1), .second, .val (.long p2), .second, .val (.long p3), .second, .val (.long p4), .second, .val (.ref b)] [(.int (lcmpW p3 p3))])) _
      refine XS.ifNo X20.here hx rfl (hb hby at_80) rfl ((if0 _ _).trans (teq ((lw_eq _ _).mpr rfl)).2) ?_
      show Steps p.tables e below (T20.setTop (mkF m 83 #[.val (.int p0), .val (.long p1), .second, .val (.long p2), .second, .val (.long p3), .second, .val (.long p4), .second, .val (.ref b)] [])) _
      refine XS.aload X20.here hx rfl (hb hby at_83) rfl rfl ?_
      show Steps p.tables e below (T20.setTop (mkF m 85 #[.val (.int p0), .val (.long p1), .second, .val (.long p2), .second, .val (.long p3), .second, .val (.long p4), .second, .val (.ref b)] [(.ref b)])) _
      refine XS.iconst X20.here hx rfl (hb hby at_85) ?_
      exact k
    obtain ⟨cq22, kq22, q22a, q22b, q22c⟩ := isOf hZ e20 E_b
    obtain ⟨_, _, ⟨T22, L22, k22, n22⟩, -, X22, ⟨Lc22, hQ22, l22, y22, z22⟩, st22⟩ := X20.virtualBack hx (y := (⟨"com/example/accesstrail/accesstrail/store/AppendOnlyLongs", "get", "(I)J"⟩ : MethodName)) (z := (⟨"com/example/accesstrail/accesstrail/store/AppendOnlyLongs", "get", "(I)J"⟩ : MethodName)) hown (mvT hZ (hw _ (List.mem_of_getElem? (i := 36) rfl))) (mvT hZ (hw _ (List.mem_of_getElem? (i := 37) rfl))) (notFace_of_selects (args := #[]) (mvT hZ (hw _ (List.mem_of_getElem? (i := 39) rfl)))) (mvT hZ (hw _ (List.mem_of_getElem? (i := 39) rfl))) (mvT hZ (hw _ (List.mem_of_getElem? (i := 38) rfl))) (by decide) (backOf (W := 0) (rm7n4_3 l Z a0 hw [] b (3 : Int32) r3 kc10 p1 p2 p3 p4 T12.heap n0 Sz12 F_elements_b V_r3 rfl) hZ (hw _ (List.mem_of_getElem? (i := 40) rfl)) (hw _ (List.mem_of_getElem? (i := 2) rfl)) (by decide) (by decide)) q22a q22c (g := (mkF m 86 #[.val (.int p0), .val (.long p1), .second, .val (.long p2), .second, .val (.long p3), .second, .val (.long p4), .second, .val (.ref b)] [(.int (3 : Int32)), (.ref b)])) rfl (by rw [hml]; rfl) (Steps.refl _) (argsL := [(.int (3 : Int32))]) (rest := []) (lenOf pd_5 rfl) rfl (by show 2 * 0 + _ ≤ _; exact Nat.le_of_eq rfl) (hb hby at_86) (fun _ _ => ⟨rfl, e20, (by decide : 4 + 0 ≤ _), (by decide : 9 + 0 ≤ _)⟩)
    dsimp only [Pt.U, Pt.locs, Pt.cells, Pt.slots] at X22 l22 y22 z22 st22 hQ22
    subst l22 y22 z22
    obtain ⟨rfl, Nq22, eq22⟩ := hQ22
    have N22 := Fr.app N20 Nq22
    have e22 : T22.heap = T12.heap := eq22
    have R23 : ∀ t, Steps p.tables e below (T22.setTop (mkF m 100 #[.val (.int p0), .val (.long p1), .second, .val (.long p2), .second, .val (.long p3), .second, .val (.long p4), .second, .val (.ref b)] [(.int (1 : Int32))])) t → Steps p.tables e below (s₁.setTop (entryFrame m #[(.int p0), (.long p1), (.long p2), (.long p3), (.long p4)] maxLocals)) t := by
      intro t k
      refine R21 t ?_
      show Steps p.tables e below (T20.setTop (mkF m 86 #[.val (.int p0), .val (.long p1), .second, .val (.long p2), .second, .val (.long p3), .second, .val (.long p4), .second, .val (.ref b)] [(.int (3 : Int32)), (.ref b)])) _
      refine st22.trans ?_
      show Steps p.tables e below (T22.setTop (mkF m 89 #[.val (.int p0), .val (.long p1), .second, .val (.long p2), .second, .val (.long p3), .second, .val (.long p4), .second, .val (.ref b)] [(.long p4)])) _
      refine XS.lload X22.here hx rfl (hb hby at_89) rfl ?_
      show Steps p.tables e below (T22.setTop (mkF m 91 #[.val (.int p0), .val (.long p1), .second, .val (.long p2), .second, .val (.long p3), .second, .val (.long p4), .second, .val (.ref b)] [(.long p4), (.long p4)])) _
      refine XS.lcmp X22.here hx rfl (hb hby at_91) rfl ?_
      show Steps p.tables e below (T22.setTop (mkF m 92 #[.val (.int p0), .val (.long p1), .second, .val (.long p2), .second, .val (.long p3), .second, .val (.long p4), .second, .val (.ref b)] [(.int (lcmpW p4 p4))])) _
      refine XS.ifNo X22.here hx rfl (hb hby at_92) rfl ((if0 _ _).trans (teq ((lw_eq _ _).mpr rfl)).2) ?_
      show Steps p.tables e below (T22.setTop (mkF m 95 #[.val (.int p0), .val (.long p1), .second, .val (.long p2), .second, .val (.long p3), .second, .val (.long p4), .second, .val (.ref b)] [])) _
      refine XS.iconst X22.here hx rfl (hb hby at_95) ?_
      show Steps p.tables e below (T22.setTop (mkF m 96 #[.val (.int p0), .val (.long p1), .second, .val (.long p2), .second, .val (.long p3), .second, .val (.long p4), .second, .val (.ref b)] [(.int (1 : Int32))])) _
      refine XS.goto X22.here hx rfl (pc0 := 96) (pc' := 100) rfl (hb hby at_96) (by decide) (by decide) ?_
      exact k
    obtain ⟨fs, hr, hrun, hended, hW, hsame⟩ := X22.leave (v := some (.int (1 : Int32))) (fun h => by rw [Bd.returns] at h; cases h)
    refine ⟨_, _, R23 _ ?_, hrun, hended, _, _, rfl, ?_, ⟨_, rfl⟩, hW, hsame.mono (by decide) (by decide)⟩
    · exact retN X22 hx (t := .boolean) Bd.returns (by simp) (hb hby at_100) hr
    · show Q0 Z p0 p1 p2 p3 p4 h0 n0 _ T22.heap _
      rw [e22]
      exact ⟨rfl, N22⟩
  ·
    rw [hv3] at R2
    have lt_b := E_b.lt
    obtain ⟨_, _, ⟨T24, L24, k24, n24⟩, -, X24, ⟨Lc24, hQ24, l24, y24, z24⟩, st24⟩ := X1.specialBack hx (y := (⟨"com/example/accesstrail/accesstrail/store/AppendOnlyLongs", "<init>", "(I)V"⟩ : MethodName)) rfl hown (mvT hZ (hw _ (List.mem_of_getElem? (i := 3) rfl))) (mvT hZ (hw _ (List.mem_of_getElem? (i := 4) rfl))) (mvT hZ (hw _ (List.mem_of_getElem? (i := 5) rfl))) (by decide) (backOf (W := 1) (rm1n2 l Z a0 hw [] b (2 : Int32) h1 n0 Sz1 E_b F_elements_b F_size_b ge_b rfl) hZ (hw _ (List.mem_of_getElem? (i := 5) rfl)) (hw _ (List.mem_of_getElem? (i := 2) rfl)) (by decide) (by decide)) (g := (mkF m 9 #[.val (.int p0), .val (.long p1), .second, .val (.long p2), .second, .val (.long p3), .second, .val (.long p4), .second, .unset] [(.int (2 : Int32)), (.ref b), (.ref b)])) rfl (by rw [hml]; rfl) (Steps.refl _) (a := b) (argsL := [(.int (2 : Int32))]) (rest := [(.ref b)]) (lenOf pd_2 rfl) rfl (by show 2 * 0 + _ ≤ _; exact Nat.le_of_eq rfl) (hb hby at_9) (fun _ _ => ⟨rfl, e1, (by decide : 1 + 1 ≤ _), (by decide : 2 + 2 ≤ _)⟩)
    dsimp only [Pt.U, Pt.locs, Pt.cells, Pt.slots] at X24 l24 y24 z24 st24 hQ24
    subst l24 y24 z24
    obtain ⟨rfl, Nq24, ⟨kc24, K24, F_elements_b, F_size_b, V_r⟩⟩ := hQ24
    have N24 := Fr.app N0 Nq24
    have Sz24 := Nat.le_trans Sz1 K24.1
    have E_b := E_b.keep K24
    obtain ⟨r0, g_r0⟩ : ∃ z, z = h1.size := ⟨_, rfl⟩
    rw [← g_r0] at F_elements_b V_r
    have V_r0 : Arv Z T24.heap r0 kc24 .long (2 : Int32) [(.long (0 : Int64)), (.long (0 : Int64))] (.long (0 : Int64)) := V_r
    have ge_r0 : n0 ≤ r0 := g_r0 ▸ Nat.le_trans Z0 E1.1
    have ne_r0_b : r0 ≠ b := Ne.symm (Nat.ne_of_lt (Nat.lt_of_lt_of_le lt_b (Nat.le_of_eq g_r0.symm)))
    have R25 : ∀ t, Steps p.tables e below (T24.setTop (mkF m 17 #[.val (.int p0), .val (.long p1), .second, .val (.long p2), .second, .val (.long p3), .second, .val (.long p4), .second, .val (.ref b)] [(.long p1), (.ref b)])) t → Steps p.tables e below (s₁.setTop (entryFrame m #[(.int p0), (.long p1), (.long p2), (.long p3), (.long p4)] maxLocals)) t := by
      intro t k
      refine R2 t ?_
      show Steps p.tables e below (T1.setTop (mkF m 9 #[.val (.int p0), .val (.long p1), .second, .val (.long p2), .second, .val (.long p3), .second, .val (.long p4), .second, .unset] [(.int (2 : Int32)), (.ref b), (.ref b)])) _
      refine st24.trans ?_
      show Steps p.tables e below (T24.setTop (mkF m 12 #[.val (.int p0), .val (.long p1), .second, .val (.long p2), .second, .val (.long p3), .second, .val (.long p4), .second, .unset] [(.ref b)])) _
      refine XS.astore X24.here hx rfl (hb hby at_12) rfl rfl (l' := #[.val (.int p0), .val (.long p1), .second, .val (.long p2), .second, .val (.long p3), .second, .val (.long p4), .second, .val (.ref b)]) rfl ?_
      show Steps p.tables e below (T24.setTop (mkF m 14 #[.val (.int p0), .val (.long p1), .second, .val (.long p2), .second, .val (.long p3), .second, .val (.long p4), .second, .val (.ref b)] [])) _
      refine XS.aload X24.here hx rfl (hb hby at_14) rfl rfl ?_
      show Steps p.tables e below (T24.setTop (mkF m 16 #[.val (.int p0), .val (.long p1), .second, .val (.long p2), .second, .val (.long p3), .second, .val (.long p4), .second, .val (.ref b)] [(.ref b)])) _
      refine XS.lloadN X24.here hx rfl (hb hby at_16) rfl ?_
      exact k
    have lt_b := E_b.lt
    obtain ⟨cq26, kq26, q26a, q26b, q26c⟩ := isOf hZ rfl E_b
    obtain ⟨_, _, ⟨T26, L26, k26, n26⟩, -, X26, ⟨Lc26, hQ26, l26, y26, z26⟩, st26⟩ := X24.virtualBack hx (y := (⟨"com/example/accesstrail/accesstrail/store/AppendOnlyLongs", "add", "(J)V"⟩ : MethodName)) (z := (⟨"com/example/accesstrail/accesstrail/store/AppendOnlyLongs", "add", "(J)V"⟩ : MethodName)) hown (mvT hZ (hw _ (List.mem_of_getElem? (i := 12) rfl))) (mvT hZ (hw _ (List.mem_of_getElem? (i := 13) rfl))) (notFace_of_selects (args := #[]) (mvT hZ (hw _ (List.mem_of_getElem? (i := 15) rfl)))) (mvT hZ (hw _ (List.mem_of_getElem? (i := 15) rfl))) (mvT hZ (hw _ (List.mem_of_getElem? (i := 14) rfl))) (by decide) (backOf (W := 0) (rm3n2_0 l Z a0 hw [] b p1 r0 kc24 (0 : Int64) (0 : Int64) T24.heap n0 Sz24 E_b F_elements_b F_size_b V_r0 ge_b ge_r0 ne_r0_b) hZ (hw _ (List.mem_of_getElem? (i := 16) rfl)) (hw _ (List.mem_of_getElem? (i := 2) rfl)) (by decide) (by decide)) q26a q26c (g := (mkF m 17 #[.val (.int p0), .val (.long p1), .second, .val (.long p2), .second, .val (.long p3), .second, .val (.long p4), .second, .val (.ref b)] [(.long p1), (.ref b)])) rfl (by rw [hml]; rfl) (Steps.refl _) (argsL := [(.long p1)]) (rest := []) (lenOf pd_3 rfl) rfl (by show 2 * 0 + _ ≤ _; exact Nat.le_of_eq rfl) (hb hby at_17) (fun _ _ => ⟨rfl, rfl, (by decide : 2 + 0 ≤ _), (by decide : 4 + 0 ≤ _)⟩)
    dsimp only [Pt.U, Pt.locs, Pt.cells, Pt.slots] at X26 l26 y26 z26 st26 hQ26
    subst l26 y26 z26
    obtain ⟨rfl, Nq26, K26, F_elements_b, F_size_b, V_r0⟩ := hQ26
    have N26 := Fr.app N24 Nq26
    have Sz26 := Nat.le_trans Sz24 K26.1
    have E_b := E_b.keep K26
    have R27 : ∀ t, Steps p.tables e below (T26.setTop (mkF m 23 #[.val (.int p0), .val (.long p1), .second, .val (.long p2), .second, .val (.long p3), .second, .val (.long p4), .second, .val (.ref b)] [(.long p2), (.ref b)])) t → Steps p.tables e below (s₁.setTop (entryFrame m #[(.int p0), (.long p1), (.long p2), (.long p3), (.long p4)] maxLocals)) t := by
      intro t k
      refine R25 t ?_
      show Steps p.tables e below (T24.setTop (mkF m 17 #[.val (.int p0), .val (.long p1), .second, .val (.long p2), .second, .val (.long p3), .second, .val (.long p4), .second, .val (.ref b)] [(.long p1), (.ref b)])) _
      refine st26.trans ?_
      show Steps p.tables e below (T26.setTop (mkF m 20 #[.val (.int p0), .val (.long p1), .second, .val (.long p2), .second, .val (.long p3), .second, .val (.long p4), .second, .val (.ref b)] [])) _
      refine XS.aload X26.here hx rfl (hb hby at_20) rfl rfl ?_
      show Steps p.tables e below (T26.setTop (mkF m 22 #[.val (.int p0), .val (.long p1), .second, .val (.long p2), .second, .val (.long p3), .second, .val (.long p4), .second, .val (.ref b)] [(.ref b)])) _
      refine XS.lloadN X26.here hx rfl (hb hby at_22) rfl ?_
      exact k
    have lt_b := E_b.lt
    obtain ⟨cq28, kq28, q28a, q28b, q28c⟩ := isOf hZ rfl E_b
    obtain ⟨_, _, ⟨T28, L28, k28, n28⟩, -, X28, ⟨Lc28, hQ28, l28, y28, z28⟩, st28⟩ := X26.virtualBack hx (y := (⟨"com/example/accesstrail/accesstrail/store/AppendOnlyLongs", "add", "(J)V"⟩ : MethodName)) (z := (⟨"com/example/accesstrail/accesstrail/store/AppendOnlyLongs", "add", "(J)V"⟩ : MethodName)) hown (mvT hZ (hw _ (List.mem_of_getElem? (i := 12) rfl))) (mvT hZ (hw _ (List.mem_of_getElem? (i := 13) rfl))) (notFace_of_selects (args := #[]) (mvT hZ (hw _ (List.mem_of_getElem? (i := 15) rfl)))) (mvT hZ (hw _ (List.mem_of_getElem? (i := 15) rfl))) (mvT hZ (hw _ (List.mem_of_getElem? (i := 14) rfl))) (by decide) (backOf (W := 0) (rm3n2_1 l Z a0 hw [] b p2 r0 kc24 p1 (0 : Int64) T26.heap n0 Sz26 E_b F_elements_b F_size_b V_r0 ge_b ge_r0 ne_r0_b) hZ (hw _ (List.mem_of_getElem? (i := 16) rfl)) (hw _ (List.mem_of_getElem? (i := 2) rfl)) (by decide) (by decide)) q28a q28c (g := (mkF m 23 #[.val (.int p0), .val (.long p1), .second, .val (.long p2), .second, .val (.long p3), .second, .val (.long p4), .second, .val (.ref b)] [(.long p2), (.ref b)])) rfl (by rw [hml]; rfl) (Steps.refl _) (argsL := [(.long p2)]) (rest := []) (lenOf pd_3 rfl) rfl (by show 2 * 0 + _ ≤ _; exact Nat.le_of_eq rfl) (hb hby at_23) (fun _ _ => ⟨rfl, rfl, (by decide : 2 + 0 ≤ _), (by decide : 4 + 0 ≤ _)⟩)
    dsimp only [Pt.U, Pt.locs, Pt.cells, Pt.slots] at X28 l28 y28 z28 st28 hQ28
    subst l28 y28 z28
    obtain ⟨rfl, Nq28, K28, F_elements_b, F_size_b, V_r0⟩ := hQ28
    have N28 := Fr.app N26 Nq28
    have Sz28 := Nat.le_trans Sz26 K28.1
    have E_b := E_b.keep K28
    have R29 : ∀ t, Steps p.tables e below (T28.setTop (mkF m 30 #[.val (.int p0), .val (.long p1), .second, .val (.long p2), .second, .val (.long p3), .second, .val (.long p4), .second, .val (.ref b)] [(.long p3), (.ref b)])) t → Steps p.tables e below (s₁.setTop (entryFrame m #[(.int p0), (.long p1), (.long p2), (.long p3), (.long p4)] maxLocals)) t := by
      intro t k
      refine R27 t ?_
      show Steps p.tables e below (T26.setTop (mkF m 23 #[.val (.int p0), .val (.long p1), .second, .val (.long p2), .second, .val (.long p3), .second, .val (.long p4), .second, .val (.ref b)] [(.long p2), (.ref b)])) _
      refine st28.trans ?_
      show Steps p.tables e below (T28.setTop (mkF m 26 #[.val (.int p0), .val (.long p1), .second, .val (.long p2), .second, .val (.long p3), .second, .val (.long p4), .second, .val (.ref b)] [])) _
      refine XS.aload X28.here hx rfl (hb hby at_26) rfl rfl ?_
      show Steps p.tables e below (T28.setTop (mkF m 28 #[.val (.int p0), .val (.long p1), .second, .val (.long p2), .second, .val (.long p3), .second, .val (.long p4), .second, .val (.ref b)] [(.ref b)])) _
      refine XS.lload X28.here hx rfl (hb hby at_28) rfl ?_
      exact k
    have lt_b := E_b.lt
    obtain ⟨cq30, kq30, q30a, q30b, q30c⟩ := isOf hZ rfl E_b
    obtain ⟨_, _, ⟨T30, L30, k30, n30⟩, -, X30, ⟨Lc30, hQ30, l30, y30, z30⟩, st30⟩ := X28.virtualBack hx (y := (⟨"com/example/accesstrail/accesstrail/store/AppendOnlyLongs", "add", "(J)V"⟩ : MethodName)) (z := (⟨"com/example/accesstrail/accesstrail/store/AppendOnlyLongs", "add", "(J)V"⟩ : MethodName)) hown (mvT hZ (hw _ (List.mem_of_getElem? (i := 12) rfl))) (mvT hZ (hw _ (List.mem_of_getElem? (i := 13) rfl))) (notFace_of_selects (args := #[]) (mvT hZ (hw _ (List.mem_of_getElem? (i := 15) rfl)))) (mvT hZ (hw _ (List.mem_of_getElem? (i := 15) rfl))) (mvT hZ (hw _ (List.mem_of_getElem? (i := 14) rfl))) (by decide) (backOf (W := 0) (rm3n2_2 l Z a0 hw [] b p3 r0 kc24 p1 p2 T28.heap n0 Sz28 E_b F_elements_b F_size_b V_r0 ge_b ge_r0 ne_r0_b) hZ (hw _ (List.mem_of_getElem? (i := 16) rfl)) (hw _ (List.mem_of_getElem? (i := 2) rfl)) (by decide) (by decide)) q30a q30c (g := (mkF m 30 #[.val (.int p0), .val (.long p1), .second, .val (.long p2), .second, .val (.long p3), .second, .val (.long p4), .second, .val (.ref b)] [(.long p3), (.ref b)])) rfl (by rw [hml]; rfl) (Steps.refl _) (argsL := [(.long p3)]) (rest := []) (lenOf pd_3 rfl) rfl (by show 2 * 0 + _ ≤ _; exact Nat.le_of_eq rfl) (hb hby at_30) (fun _ _ => ⟨rfl, rfl, (by decide : 2 + 1 ≤ _), (by decide : 4 + 4 ≤ _)⟩)
    dsimp only [Pt.U, Pt.locs, Pt.cells, Pt.slots] at X30 l30 y30 z30 st30 hQ30
    subst l30 y30 z30
    obtain ⟨rfl, Nq30, ⟨kc30, K30, F_elements_b, F_size_b, V_r⟩⟩ := hQ30
    have N30 := Fr.app N28 Nq30
    have Sz30 := Nat.le_trans Sz28 K30.1
    have E_b := E_b.keep K30
    have V_r0 := V_r0.keep K30 (ninS ne_r0_b nin0)
    obtain ⟨r3, g_r3⟩ : ∃ z, z = T28.heap.size := ⟨_, rfl⟩
    rw [← g_r3] at F_elements_b V_r
    have V_r3 : Arv Z T30.heap r3 kc30 .long (4 : Int32) [(.long p1), (.long p2), (.long p3), (.long (0 : Int64))] (.long (0 : Int64)) := V_r
    have ge_r3 : n0 ≤ r3 := g_r3 ▸ Sz28
    have ne_r3_b : r3 ≠ b := Ne.symm (Nat.ne_of_lt (Nat.lt_of_lt_of_le lt_b (Nat.le_of_eq g_r3.symm)))
    have R31 : ∀ t, Steps p.tables e below (T30.setTop (mkF m 37 #[.val (.int p0), .val (.long p1), .second, .val (.long p2), .second, .val (.long p3), .second, .val (.long p4), .second, .val (.ref b)] [(.long p4), (.ref b)])) t → Steps p.tables e below (s₁.setTop (entryFrame m #[(.int p0), (.long p1), (.long p2), (.long p3), (.long p4)] maxLocals)) t := by
      intro t k
      refine R29 t ?_
      show Steps p.tables e below (T28.setTop (mkF m 30 #[.val (.int p0), .val (.long p1), .second, .val (.long p2), .second, .val (.long p3), .second, .val (.long p4), .second, .val (.ref b)] [(.long p3), (.ref b)])) _
      refine st30.trans ?_
      show Steps p.tables e below (T30.setTop (mkF m 33 #[.val (.int p0), .val (.long p1), .second, .val (.long p2), .second, .val (.long p3), .second, .val (.long p4), .second, .val (.ref b)] [])) _
      refine XS.aload X30.here hx rfl (hb hby at_33) rfl rfl ?_
      show Steps p.tables e below (T30.setTop (mkF m 35 #[.val (.int p0), .val (.long p1), .second, .val (.long p2), .second, .val (.long p3), .second, .val (.long p4), .second, .val (.ref b)] [(.ref b)])) _
      refine XS.lload X30.here hx rfl (hb hby at_35) rfl ?_
      exact k
    have lt_b := E_b.lt
    obtain ⟨cq32, kq32, q32a, q32b, q32c⟩ := isOf hZ rfl E_b
    obtain ⟨_, _, ⟨T32, L32, k32, n32⟩, -, X32, ⟨Lc32, hQ32, l32, y32, z32⟩, st32⟩ := X30.virtualBack hx (y := (⟨"com/example/accesstrail/accesstrail/store/AppendOnlyLongs", "add", "(J)V"⟩ : MethodName)) (z := (⟨"com/example/accesstrail/accesstrail/store/AppendOnlyLongs", "add", "(J)V"⟩ : MethodName)) hown (mvT hZ (hw _ (List.mem_of_getElem? (i := 12) rfl))) (mvT hZ (hw _ (List.mem_of_getElem? (i := 13) rfl))) (notFace_of_selects (args := #[]) (mvT hZ (hw _ (List.mem_of_getElem? (i := 15) rfl)))) (mvT hZ (hw _ (List.mem_of_getElem? (i := 15) rfl))) (mvT hZ (hw _ (List.mem_of_getElem? (i := 14) rfl))) (by decide) (backOf (W := 0) (rm3n4_3 l Z a0 hw [] b p4 r3 kc30 p1 p2 p3 (0 : Int64) T30.heap n0 Sz30 E_b F_elements_b F_size_b V_r3 ge_b ge_r3 ne_r3_b) hZ (hw _ (List.mem_of_getElem? (i := 16) rfl)) (hw _ (List.mem_of_getElem? (i := 2) rfl)) (by decide) (by decide)) q32a q32c (g := (mkF m 37 #[.val (.int p0), .val (.long p1), .second, .val (.long p2), .second, .val (.long p3), .second, .val (.long p4), .second, .val (.ref b)] [(.long p4), (.ref b)])) rfl (by rw [hml]; rfl) (Steps.refl _) (argsL := [(.long p4)]) (rest := []) (lenOf pd_3 rfl) rfl (by show 2 * 0 + _ ≤ _; exact Nat.le_of_eq rfl) (hb hby at_37) (fun _ _ => ⟨rfl, rfl, (by decide : 3 + 0 ≤ _), (by decide : 8 + 0 ≤ _)⟩)
    dsimp only [Pt.U, Pt.locs, Pt.cells, Pt.slots] at X32 l32 y32 z32 st32 hQ32
    subst l32 y32 z32
    obtain ⟨rfl, Nq32, K32, F_elements_b, F_size_b, V_r3⟩ := hQ32
    have N32 := Fr.app N30 Nq32
    have Sz32 := Nat.le_trans Sz30 K32.1
    have E_b := E_b.keep K32
    have R33 : ∀ t, Steps p.tables e below (T32.setTop (mkF m 42 #[.val (.int p0), .val (.long p1), .second, .val (.long p2), .second, .val (.long p3), .second, .val (.long p4), .second, .val (.ref b)] [(.ref b)])) t → Steps p.tables e below (s₁.setTop (entryFrame m #[(.int p0), (.long p1), (.long p2), (.long p3), (.long p4)] maxLocals)) t := by
      intro t k
      refine R31 t ?_
      show Steps p.tables e below (T30.setTop (mkF m 37 #[.val (.int p0), .val (.long p1), .second, .val (.long p2), .second, .val (.long p3), .second, .val (.long p4), .second, .val (.ref b)] [(.long p4), (.ref b)])) _
      refine st32.trans ?_
      show Steps p.tables e below (T32.setTop (mkF m 40 #[.val (.int p0), .val (.long p1), .second, .val (.long p2), .second, .val (.long p3), .second, .val (.long p4), .second, .val (.ref b)] [])) _
      refine XS.aload X32.here hx rfl (hb hby at_40) rfl rfl ?_
      exact k
    obtain ⟨cq34, kq34, q34a, q34b, q34c⟩ := isOf hZ rfl E_b
    obtain ⟨_, _, ⟨T34, L34, k34, n34⟩, -, X34, ⟨Lc34, hQ34, l34, y34, z34⟩, st34⟩ := X32.virtualBack hx (y := (⟨"com/example/accesstrail/accesstrail/store/AppendOnlyLongs", "size", "()I"⟩ : MethodName)) (z := (⟨"com/example/accesstrail/accesstrail/store/AppendOnlyLongs", "size", "()I"⟩ : MethodName)) hown (mvT hZ (hw _ (List.mem_of_getElem? (i := 31) rfl))) (mvT hZ (hw _ (List.mem_of_getElem? (i := 32) rfl))) (notFace_of_selects (args := #[]) (mvT hZ (hw _ (List.mem_of_getElem? (i := 34) rfl)))) (mvT hZ (hw _ (List.mem_of_getElem? (i := 34) rfl))) (mvT hZ (hw _ (List.mem_of_getElem? (i := 33) rfl))) (by decide) (backOf (W := 0) (rm6 l Z a0 hw [] b (4 : Int32) T32.heap n0 Sz32 F_size_b) hZ (hw _ (List.mem_of_getElem? (i := 35) rfl)) (hw _ (List.mem_of_getElem? (i := 2) rfl)) (by decide) (by decide)) q34a q34c (g := (mkF m 42 #[.val (.int p0), .val (.long p1), .second, .val (.long p2), .second, .val (.long p3), .second, .val (.long p4), .second, .val (.ref b)] [(.ref b)])) rfl (by rw [hml]; rfl) (Steps.refl _) (argsL := []) (rest := []) (lenOf pd_4 rfl) rfl (by show 2 * 0 + _ ≤ _; exact Nat.le_of_eq rfl) (hb hby at_42) (fun _ _ => ⟨rfl, rfl, (by decide : 3 + 0 ≤ _), (by decide : 8 + 0 ≤ _)⟩)
    dsimp only [Pt.U, Pt.locs, Pt.cells, Pt.slots] at X34 l34 y34 z34 st34 hQ34
    subst l34 y34 z34
    obtain ⟨rfl, Nq34, eq34⟩ := hQ34
    have N34 := Fr.app N32 Nq34
    have e34 : T34.heap = T32.heap := eq34
    have R35 : ∀ t, Steps p.tables e below (T34.setTop (mkF m 52 #[.val (.int p0), .val (.long p1), .second, .val (.long p2), .second, .val (.long p3), .second, .val (.long p4), .second, .val (.ref b)] [(.int (0 : Int32)), (.ref b)])) t → Steps p.tables e below (s₁.setTop (entryFrame m #[(.int p0), (.long p1), (.long p2), (.long p3), (.long p4)] maxLocals)) t := by
      intro t k
      refine R33 t ?_
      show Steps p.tables e below (T32.setTop (mkF m 42 #[.val (.int p0), .val (.long p1), .second, .val (.long p2), .second, .val (.long p3), .second, .val (.long p4), .second, .val (.ref b)] [(.ref b)])) _
      refine st34.trans ?_
      show Steps p.tables e below (T34.setTop (mkF m 45 #[.val (.int p0), .val (.long p1), .second, .val (.long p2), .second, .val (.long p3), .second, .val (.long p4), .second, .val (.ref b)] [(.int (4 : Int32))])) _
      refine XS.iconst X34.here hx rfl (hb hby at_45) ?_
      show Steps p.tables e below (T34.setTop (mkF m 46 #[.val (.int p0), .val (.long p1), .second, .val (.long p2), .second, .val (.long p3), .second, .val (.long p4), .second, .val (.ref b)] [(.int (4 : Int32)), (.int (4 : Int32))])) _
      refine XS.icmpNo X34.here hx rfl (hb hby at_46) rfl (teq (rfl : (4 : Int32) = 4)).2 ?_
      show Steps p.tables e below (T34.setTop (mkF m 49 #[.val (.int p0), .val (.long p1), .second, .val (.long p2), .second, .val (.long p3), .second, .val (.long p4), .second, .val (.ref b)] [])) _
      refine XS.aload X34.here hx rfl (hb hby at_49) rfl rfl ?_
      show Steps p.tables e below (T34.setTop (mkF m 51 #[.val (.int p0), .val (.long p1), .second, .val (.long p2), .second, .val (.long p3), .second, .val (.long p4), .second, .val (.ref b)] [(.ref b)])) _
      refine XS.iconst X34.here hx rfl (hb hby at_51) ?_
      exact k
    obtain ⟨cq36, kq36, q36a, q36b, q36c⟩ := isOf hZ e34 E_b
    obtain ⟨_, _, ⟨T36, L36, k36, n36⟩, -, X36, ⟨Lc36, hQ36, l36, y36, z36⟩, st36⟩ := X34.virtualBack hx (y := (⟨"com/example/accesstrail/accesstrail/store/AppendOnlyLongs", "get", "(I)J"⟩ : MethodName)) (z := (⟨"com/example/accesstrail/accesstrail/store/AppendOnlyLongs", "get", "(I)J"⟩ : MethodName)) hown (mvT hZ (hw _ (List.mem_of_getElem? (i := 36) rfl))) (mvT hZ (hw _ (List.mem_of_getElem? (i := 37) rfl))) (notFace_of_selects (args := #[]) (mvT hZ (hw _ (List.mem_of_getElem? (i := 39) rfl)))) (mvT hZ (hw _ (List.mem_of_getElem? (i := 39) rfl))) (mvT hZ (hw _ (List.mem_of_getElem? (i := 38) rfl))) (by decide) (backOf (W := 0) (rm7n4_0 l Z a0 hw [] b (0 : Int32) r3 kc30 p1 p2 p3 p4 T32.heap n0 Sz32 F_elements_b V_r3 rfl) hZ (hw _ (List.mem_of_getElem? (i := 40) rfl)) (hw _ (List.mem_of_getElem? (i := 2) rfl)) (by decide) (by decide)) q36a q36c (g := (mkF m 52 #[.val (.int p0), .val (.long p1), .second, .val (.long p2), .second, .val (.long p3), .second, .val (.long p4), .second, .val (.ref b)] [(.int (0 : Int32)), (.ref b)])) rfl (by rw [hml]; rfl) (Steps.refl _) (argsL := [(.int (0 : Int32))]) (rest := []) (lenOf pd_5 rfl) rfl (by show 2 * 0 + _ ≤ _; exact Nat.le_of_eq rfl) (hb hby at_52) (fun _ _ => ⟨rfl, e34, (by decide : 3 + 0 ≤ _), (by decide : 8 + 0 ≤ _)⟩)
    dsimp only [Pt.U, Pt.locs, Pt.cells, Pt.slots] at X36 l36 y36 z36 st36 hQ36
    subst l36 y36 z36
    obtain ⟨rfl, Nq36, eq36⟩ := hQ36
    have N36 := Fr.app N34 Nq36
    have e36 : T36.heap = T32.heap := eq36
    have R37 : ∀ t, Steps p.tables e below (T36.setTop (mkF m 63 #[.val (.int p0), .val (.long p1), .second, .val (.long p2), .second, .val (.long p3), .second, .val (.long p4), .second, .val (.ref b)] [(.int (1 : Int32)), (.ref b)])) t → Steps p.tables e below (s₁.setTop (entryFrame m #[(.int p0), (.long p1), (.long p2), (.long p3), (.long p4)] maxLocals)) t := by
      intro t k
      refine R35 t ?_
      show Steps p.tables e below (T34.setTop (mkF m 52 #[.val (.int p0), .val (.long p1), .second, .val (.long p2), .second, .val (.long p3), .second, .val (.long p4), .second, .val (.ref b)] [(.int (0 : Int32)), (.ref b)])) _
      refine st36.trans ?_
      show Steps p.tables e below (T36.setTop (mkF m 55 #[.val (.int p0), .val (.long p1), .second, .val (.long p2), .second, .val (.long p3), .second, .val (.long p4), .second, .val (.ref b)] [(.long p1)])) _
      refine XS.lloadN X36.here hx rfl (hb hby at_55) rfl ?_
      show Steps p.tables e below (T36.setTop (mkF m 56 #[.val (.int p0), .val (.long p1), .second, .val (.long p2), .second, .val (.long p3), .second, .val (.long p4), .second, .val (.ref b)] [(.long p1), (.long p1)])) _
      refine XS.lcmp X36.here hx rfl (hb hby at_56) rfl ?_
      show Steps p.tables e below (T36.setTop (mkF m 57 #[.val (.int p0), .val (.long p1), .second, .val (.long p2), .second, .val (.long p3), .second, .val (.long p4), .second, .val (.ref b)] [(.int (lcmpW p1 p1))])) _
      refine XS.ifNo X36.here hx rfl (hb hby at_57) rfl ((if0 _ _).trans (teq ((lw_eq _ _).mpr rfl)).2) ?_
      show Steps p.tables e below (T36.setTop (mkF m 60 #[.val (.int p0), .val (.long p1), .second, .val (.long p2), .second, .val (.long p3), .second, .val (.long p4), .second, .val (.ref b)] [])) _
      refine XS.aload X36.here hx rfl (hb hby at_60) rfl rfl ?_
      show Steps p.tables e below (T36.setTop (mkF m 62 #[.val (.int p0), .val (.long p1), .second, .val (.long p2), .second, .val (.long p3), .second, .val (.long p4), .second, .val (.ref b)] [(.ref b)])) _
      refine XS.iconst X36.here hx rfl (hb hby at_62) ?_
      exact k
    obtain ⟨cq38, kq38, q38a, q38b, q38c⟩ := isOf hZ e36 E_b
    obtain ⟨_, _, ⟨T38, L38, k38, n38⟩, -, X38, ⟨Lc38, hQ38, l38, y38, z38⟩, st38⟩ := X36.virtualBack hx (y := (⟨"com/example/accesstrail/accesstrail/store/AppendOnlyLongs", "get", "(I)J"⟩ : MethodName)) (z := (⟨"com/example/accesstrail/accesstrail/store/AppendOnlyLongs", "get", "(I)J"⟩ : MethodName)) hown (mvT hZ (hw _ (List.mem_of_getElem? (i := 36) rfl))) (mvT hZ (hw _ (List.mem_of_getElem? (i := 37) rfl))) (notFace_of_selects (args := #[]) (mvT hZ (hw _ (List.mem_of_getElem? (i := 39) rfl)))) (mvT hZ (hw _ (List.mem_of_getElem? (i := 39) rfl))) (mvT hZ (hw _ (List.mem_of_getElem? (i := 38) rfl))) (by decide) (backOf (W := 0) (rm7n4_1 l Z a0 hw [] b (1 : Int32) r3 kc30 p1 p2 p3 p4 T32.heap n0 Sz32 F_elements_b V_r3 rfl) hZ (hw _ (List.mem_of_getElem? (i := 40) rfl)) (hw _ (List.mem_of_getElem? (i := 2) rfl)) (by decide) (by decide)) q38a q38c (g := (mkF m 63 #[.val (.int p0), .val (.long p1), .second, .val (.long p2), .second, .val (.long p3), .second, .val (.long p4), .second, .val (.ref b)] [(.int (1 : Int32)), (.ref b)])) rfl (by rw [hml]; rfl) (Steps.refl _) (argsL := [(.int (1 : Int32))]) (rest := []) (lenOf pd_5 rfl) rfl (by show 2 * 0 + _ ≤ _; exact Nat.le_of_eq rfl) (hb hby at_63) (fun _ _ => ⟨rfl, e36, (by decide : 3 + 0 ≤ _), (by decide : 8 + 0 ≤ _)⟩)
    dsimp only [Pt.U, Pt.locs, Pt.cells, Pt.slots] at X38 l38 y38 z38 st38 hQ38
    subst l38 y38 z38
    obtain ⟨rfl, Nq38, eq38⟩ := hQ38
    have N38 := Fr.app N36 Nq38
    have e38 : T38.heap = T32.heap := eq38
    have R39 : ∀ t, Steps p.tables e below (T38.setTop (mkF m 74 #[.val (.int p0), .val (.long p1), .second, .val (.long p2), .second, .val (.long p3), .second, .val (.long p4), .second, .val (.ref b)] [(.int (2 : Int32)), (.ref b)])) t → Steps p.tables e below (s₁.setTop (entryFrame m #[(.int p0), (.long p1), (.long p2), (.long p3), (.long p4)] maxLocals)) t := by
      intro t k
      refine R37 t ?_
      show Steps p.tables e below (T36.setTop (mkF m 63 #[.val (.int p0), .val (.long p1), .second, .val (.long p2), .second, .val (.long p3), .second, .val (.long p4), .second, .val (.ref b)] [(.int (1 : Int32)), (.ref b)])) _
      refine st38.trans ?_
      show Steps p.tables e below (T38.setTop (mkF m 66 #[.val (.int p0), .val (.long p1), .second, .val (.long p2), .second, .val (.long p3), .second, .val (.long p4), .second, .val (.ref b)] [(.long p2)])) _
      refine XS.lloadN X38.here hx rfl (hb hby at_66) rfl ?_
      show Steps p.tables e below (T38.setTop (mkF m 67 #[.val (.int p0), .val (.long p1), .second, .val (.long p2), .second, .val (.long p3), .second, .val (.long p4), .second, .val (.ref b)] [(.long p2), (.long p2)])) _
      refine XS.lcmp X38.here hx rfl (hb hby at_67) rfl ?_
      show Steps p.tables e below (T38.setTop (mkF m 68 #[.val (.int p0), .val (.long p1), .second, .val (.long p2), .second, .val (.long p3), .second, .val (.long p4), .second, .val (.ref b)] [(.int (lcmpW p2 p2))])) _
      refine XS.ifNo X38.here hx rfl (hb hby at_68) rfl ((if0 _ _).trans (teq ((lw_eq _ _).mpr rfl)).2) ?_
      show Steps p.tables e below (T38.setTop (mkF m 71 #[.val (.int p0), .val (.long p1), .second, .val (.long p2), .second, .val (.long p3), .second, .val (.long p4), .second, .val (.ref b)] [])) _
      refine XS.aload X38.here hx rfl (hb hby at_71) rfl rfl ?_
      show Steps p.tables e below (T38.setTop (mkF m 73 #[.val (.int p0), .val (.long p1), .second, .val (.long p2), .second, .val (.long p3), .second, .val (.long p4), .second, .val (.ref b)] [(.ref b)])) _
      refine XS.iconst X38.here hx rfl (hb hby at_73) ?_
      exact k
    obtain ⟨cq40, kq40, q40a, q40b, q40c⟩ := isOf hZ e38 E_b
    obtain ⟨_, _, ⟨T40, L40, k40, n40⟩, -, X40, ⟨Lc40, hQ40, l40, y40, z40⟩, st40⟩ := X38.virtualBack hx (y := (⟨"com/example/accesstrail/accesstrail/store/AppendOnlyLongs", "get", "(I)J"⟩ : MethodName)) (z := (⟨"com/example/accesstrail/accesstrail/store/AppendOnlyLongs", "get", "(I)J"⟩ : MethodName)) hown (mvT hZ (hw _ (List.mem_of_getElem? (i := 36) rfl))) (mvT hZ (hw _ (List.mem_of_getElem? (i := 37) rfl))) (notFace_of_selects (args := #[]) (mvT hZ (hw _ (List.mem_of_getElem? (i := 39) rfl)))) (mvT hZ (hw _ (List.mem_of_getElem? (i := 39) rfl))) (mvT hZ (hw _ (List.mem_of_getElem? (i := 38) rfl))) (by decide) (backOf (W := 0) (rm7n4_2 l Z a0 hw [] b (2 : Int32) r3 kc30 p1 p2 p3 p4 T32.heap n0 Sz32 F_elements_b V_r3 rfl) hZ (hw _ (List.mem_of_getElem? (i := 40) rfl)) (hw _ (List.mem_of_getElem? (i := 2) rfl)) (by decide) (by decide)) q40a q40c (g := (mkF m 74 #[.val (.int p0), .val (.long p1), .second, .val (.long p2), .second, .val (.long p3), .second, .val (.long p4), .second, .val (.ref b)] [(.int (2 : Int32)), (.ref b)])) rfl (by rw [hml]; rfl) (Steps.refl _) (argsL := [(.int (2 : Int32))]) (rest := []) (lenOf pd_5 rfl) rfl (by show 2 * 0 + _ ≤ _; exact Nat.le_of_eq rfl) (hb hby at_74) (fun _ _ => ⟨rfl, e38, (by decide : 3 + 0 ≤ _), (by decide : 8 + 0 ≤ _)⟩)
    dsimp only [Pt.U, Pt.locs, Pt.cells, Pt.slots] at X40 l40 y40 z40 st40 hQ40
    subst l40 y40 z40
    obtain ⟨rfl, Nq40, eq40⟩ := hQ40
    have N40 := Fr.app N38 Nq40
    have e40 : T40.heap = T32.heap := eq40
    have R41 : ∀ t, Steps p.tables e below (T40.setTop (mkF m 86 #[.val (.int p0), .val (.long p1), .second, .val (.long p2), .second, .val (.long p3), .second, .val (.long p4), .second, .val (.ref b)] [(.int (3 : Int32)), (.ref b)])) t → Steps p.tables e below (s₁.setTop (entryFrame m #[(.int p0), (.long p1), (.long p2), (.long p3), (.long p4)] maxLocals)) t := by
      intro t k
      refine R39 t ?_
      show Steps p.tables e below (T38.setTop (mkF m 74 #[.val (.int p0), .val (.long p1), .second, .val (.long p2), .second, .val (.long p3), .second, .val (.long p4), .second, .val (.ref b)] [(.int (2 : Int32)), (.ref b)])) _
      refine st40.trans ?_
      show Steps p.tables e below (T40.setTop (mkF m 77 #[.val (.int p0), .val (.long p1), .second, .val (.long p2), .second, .val (.long p3), .second, .val (.long p4), .second, .val (.ref b)] [(.long p3)])) _
      refine XS.lload X40.here hx rfl (hb hby at_77) rfl ?_
      show Steps p.tables e below (T40.setTop (mkF m 79 #[.val (.int p0), .val (.long p1), .second, .val (.long p2), .second, .val (.long p3), .second, .val (.long p4), .second, .val (.ref b)] [(.long p3), (.long p3)])) _
      refine XS.lcmp X40.here hx rfl (hb hby at_79) rfl ?_
      show Steps p.tables e below (T40.setTop (mkF m 80 #[.val (.int p0), .val (.long p1), .second, .val (.long p2), .second, .val (.long p3), .second, .val (.long p4), .second, .val (.ref b)] [(.int (lcmpW p3 p3))])) _
      refine XS.ifNo X40.here hx rfl (hb hby at_80) rfl ((if0 _ _).trans (teq ((lw_eq _ _).mpr rfl)).2) ?_
      show Steps p.tables e below (T40.setTop (mkF m 83 #[.val (.int p0), .val (.long p1), .second, .val (.long p2), .second, .val (.long p3), .second, .val (.long p4), .second, .val (.ref b)] [])) _
      refine XS.aload X40.here hx rfl (hb hby at_83) rfl rfl ?_
      show Steps p.tables e below (T40.setTop (mkF m 85 #[.val (.int p0), .val (.long p1), .second, .val (.long p2), .second, .val (.long p3), .second, .val (.long p4), .second, .val (.ref b)] [(.ref b)])) _
      refine XS.iconst X40.here hx rfl (hb hby at_85) ?_
      exact k
    obtain ⟨cq42, kq42, q42a, q42b, q42c⟩ := isOf hZ e40 E_b
    obtain ⟨_, _, ⟨T42, L42, k42, n42⟩, -, X42, ⟨Lc42, hQ42, l42, y42, z42⟩, st42⟩ := X40.virtualBack hx (y := (⟨"com/example/accesstrail/accesstrail/store/AppendOnlyLongs", "get", "(I)J"⟩ : MethodName)) (z := (⟨"com/example/accesstrail/accesstrail/store/AppendOnlyLongs", "get", "(I)J"⟩ : MethodName)) hown (mvT hZ (hw _ (List.mem_of_getElem? (i := 36) rfl))) (mvT hZ (hw _ (List.mem_of_getElem? (i := 37) rfl))) (notFace_of_selects (args := #[]) (mvT hZ (hw _ (List.mem_of_getElem? (i := 39) rfl)))) (mvT hZ (hw _ (List.mem_of_getElem? (i := 39) rfl))) (mvT hZ (hw _ (List.mem_of_getElem? (i := 38) rfl))) (by decide) (backOf (W := 0) (rm7n4_3 l Z a0 hw [] b (3 : Int32) r3 kc30 p1 p2 p3 p4 T32.heap n0 Sz32 F_elements_b V_r3 rfl) hZ (hw _ (List.mem_of_getElem? (i := 40) rfl)) (hw _ (List.mem_of_getElem? (i := 2) rfl)) (by decide) (by decide)) q42a q42c (g := (mkF m 86 #[.val (.int p0), .val (.long p1), .second, .val (.long p2), .second, .val (.long p3), .second, .val (.long p4), .second, .val (.ref b)] [(.int (3 : Int32)), (.ref b)])) rfl (by rw [hml]; rfl) (Steps.refl _) (argsL := [(.int (3 : Int32))]) (rest := []) (lenOf pd_5 rfl) rfl (by show 2 * 0 + _ ≤ _; exact Nat.le_of_eq rfl) (hb hby at_86) (fun _ _ => ⟨rfl, e40, (by decide : 3 + 0 ≤ _), (by decide : 8 + 0 ≤ _)⟩)
    dsimp only [Pt.U, Pt.locs, Pt.cells, Pt.slots] at X42 l42 y42 z42 st42 hQ42
    subst l42 y42 z42
    obtain ⟨rfl, Nq42, eq42⟩ := hQ42
    have N42 := Fr.app N40 Nq42
    have e42 : T42.heap = T32.heap := eq42
    have R43 : ∀ t, Steps p.tables e below (T42.setTop (mkF m 100 #[.val (.int p0), .val (.long p1), .second, .val (.long p2), .second, .val (.long p3), .second, .val (.long p4), .second, .val (.ref b)] [(.int (1 : Int32))])) t → Steps p.tables e below (s₁.setTop (entryFrame m #[(.int p0), (.long p1), (.long p2), (.long p3), (.long p4)] maxLocals)) t := by
      intro t k
      refine R41 t ?_
      show Steps p.tables e below (T40.setTop (mkF m 86 #[.val (.int p0), .val (.long p1), .second, .val (.long p2), .second, .val (.long p3), .second, .val (.long p4), .second, .val (.ref b)] [(.int (3 : Int32)), (.ref b)])) _
      refine st42.trans ?_
      show Steps p.tables e below (T42.setTop (mkF m 89 #[.val (.int p0), .val (.long p1), .second, .val (.long p2), .second, .val (.long p3), .second, .val (.long p4), .second, .val (.ref b)] [(.long p4)])) _
      refine XS.lload X42.here hx rfl (hb hby at_89) rfl ?_
      show Steps p.tables e below (T42.setTop (mkF m 91 #[.val (.int p0), .val (.long p1), .second, .val (.long p2), .second, .val (.long p3), .second, .val (.long p4), .second, .val (.ref b)] [(.long p4), (.long p4)])) _
      refine XS.lcmp X42.here hx rfl (hb hby at_91) rfl ?_
      show Steps p.tables e below (T42.setTop (mkF m 92 #[.val (.int p0), .val (.long p1), .second, .val (.long p2), .second, .val (.long p3), .second, .val (.long p4), .second, .val (.ref b)] [(.int (lcmpW p4 p4))])) _
      refine XS.ifNo X42.here hx rfl (hb hby at_92) rfl ((if0 _ _).trans (teq ((lw_eq _ _).mpr rfl)).2) ?_
      show Steps p.tables e below (T42.setTop (mkF m 95 #[.val (.int p0), .val (.long p1), .second, .val (.long p2), .second, .val (.long p3), .second, .val (.long p4), .second, .val (.ref b)] [])) _
      refine XS.iconst X42.here hx rfl (hb hby at_95) ?_
      show Steps p.tables e below (T42.setTop (mkF m 96 #[.val (.int p0), .val (.long p1), .second, .val (.long p2), .second, .val (.long p3), .second, .val (.long p4), .second, .val (.ref b)] [(.int (1 : Int32))])) _
      refine XS.goto X42.here hx rfl (pc0 := 96) (pc' := 100) rfl (hb hby at_96) (by decide) (by decide) ?_
      exact k
    obtain ⟨fs, hr, hrun, hended, hW, hsame⟩ := X42.leave (v := some (.int (1 : Int32))) (fun h => by rw [Bd.returns] at h; cases h)
    refine ⟨_, _, R43 _ ?_, hrun, hended, _, _, rfl, ?_, ⟨_, rfl⟩, hW, hsame.mono (by decide) (by decide)⟩
    · exact retN X42 hx (t := .boolean) Bd.returns (by simp) (hb hby at_100) hr
    · show Q0 Z p0 p1 p2 p3 p4 h0 n0 _ T42.heap _
      rw [e42]
      exact ⟨rfl, N42⟩
  ·
    rw [hv3] at R2
    have lt_b := E_b.lt
    obtain ⟨_, _, ⟨T44, L44, k44, n44⟩, -, X44, ⟨Lc44, hQ44, l44, y44, z44⟩, st44⟩ := X1.specialBack hx (y := (⟨"com/example/accesstrail/accesstrail/store/AppendOnlyLongs", "<init>", "(I)V"⟩ : MethodName)) rfl hown (mvT hZ (hw _ (List.mem_of_getElem? (i := 3) rfl))) (mvT hZ (hw _ (List.mem_of_getElem? (i := 4) rfl))) (mvT hZ (hw _ (List.mem_of_getElem? (i := 5) rfl))) (by decide) (backOf (W := 1) (rm1n3 l Z a0 hw [] b (3 : Int32) h1 n0 Sz1 E_b F_elements_b F_size_b ge_b rfl) hZ (hw _ (List.mem_of_getElem? (i := 5) rfl)) (hw _ (List.mem_of_getElem? (i := 2) rfl)) (by decide) (by decide)) (g := (mkF m 9 #[.val (.int p0), .val (.long p1), .second, .val (.long p2), .second, .val (.long p3), .second, .val (.long p4), .second, .unset] [(.int (3 : Int32)), (.ref b), (.ref b)])) rfl (by rw [hml]; rfl) (Steps.refl _) (a := b) (argsL := [(.int (3 : Int32))]) (rest := [(.ref b)]) (lenOf pd_2 rfl) rfl (by show 2 * 0 + _ ≤ _; exact Nat.le_of_eq rfl) (hb hby at_9) (fun _ _ => ⟨rfl, e1, (by decide : 1 + 1 ≤ _), (by decide : 2 + 3 ≤ _)⟩)
    dsimp only [Pt.U, Pt.locs, Pt.cells, Pt.slots] at X44 l44 y44 z44 st44 hQ44
    subst l44 y44 z44
    obtain ⟨rfl, Nq44, ⟨kc44, K44, F_elements_b, F_size_b, V_r⟩⟩ := hQ44
    have N44 := Fr.app N0 Nq44
    have Sz44 := Nat.le_trans Sz1 K44.1
    have E_b := E_b.keep K44
    obtain ⟨r0, g_r0⟩ : ∃ z, z = h1.size := ⟨_, rfl⟩
    rw [← g_r0] at F_elements_b V_r
    have V_r0 : Arv Z T44.heap r0 kc44 .long (3 : Int32) [(.long (0 : Int64)), (.long (0 : Int64)), (.long (0 : Int64))] (.long (0 : Int64)) := V_r
    have ge_r0 : n0 ≤ r0 := g_r0 ▸ Nat.le_trans Z0 E1.1
    have ne_r0_b : r0 ≠ b := Ne.symm (Nat.ne_of_lt (Nat.lt_of_lt_of_le lt_b (Nat.le_of_eq g_r0.symm)))
    have R45 : ∀ t, Steps p.tables e below (T44.setTop (mkF m 17 #[.val (.int p0), .val (.long p1), .second, .val (.long p2), .second, .val (.long p3), .second, .val (.long p4), .second, .val (.ref b)] [(.long p1), (.ref b)])) t → Steps p.tables e below (s₁.setTop (entryFrame m #[(.int p0), (.long p1), (.long p2), (.long p3), (.long p4)] maxLocals)) t := by
      intro t k
      refine R2 t ?_
      show Steps p.tables e below (T1.setTop (mkF m 9 #[.val (.int p0), .val (.long p1), .second, .val (.long p2), .second, .val (.long p3), .second, .val (.long p4), .second, .unset] [(.int (3 : Int32)), (.ref b), (.ref b)])) _
      refine st44.trans ?_
      show Steps p.tables e below (T44.setTop (mkF m 12 #[.val (.int p0), .val (.long p1), .second, .val (.long p2), .second, .val (.long p3), .second, .val (.long p4), .second, .unset] [(.ref b)])) _
      refine XS.astore X44.here hx rfl (hb hby at_12) rfl rfl (l' := #[.val (.int p0), .val (.long p1), .second, .val (.long p2), .second, .val (.long p3), .second, .val (.long p4), .second, .val (.ref b)]) rfl ?_
      show Steps p.tables e below (T44.setTop (mkF m 14 #[.val (.int p0), .val (.long p1), .second, .val (.long p2), .second, .val (.long p3), .second, .val (.long p4), .second, .val (.ref b)] [])) _
      refine XS.aload X44.here hx rfl (hb hby at_14) rfl rfl ?_
      show Steps p.tables e below (T44.setTop (mkF m 16 #[.val (.int p0), .val (.long p1), .second, .val (.long p2), .second, .val (.long p3), .second, .val (.long p4), .second, .val (.ref b)] [(.ref b)])) _
      refine XS.lloadN X44.here hx rfl (hb hby at_16) rfl ?_
      exact k
    have lt_b := E_b.lt
    obtain ⟨cq46, kq46, q46a, q46b, q46c⟩ := isOf hZ rfl E_b
    obtain ⟨_, _, ⟨T46, L46, k46, n46⟩, -, X46, ⟨Lc46, hQ46, l46, y46, z46⟩, st46⟩ := X44.virtualBack hx (y := (⟨"com/example/accesstrail/accesstrail/store/AppendOnlyLongs", "add", "(J)V"⟩ : MethodName)) (z := (⟨"com/example/accesstrail/accesstrail/store/AppendOnlyLongs", "add", "(J)V"⟩ : MethodName)) hown (mvT hZ (hw _ (List.mem_of_getElem? (i := 12) rfl))) (mvT hZ (hw _ (List.mem_of_getElem? (i := 13) rfl))) (notFace_of_selects (args := #[]) (mvT hZ (hw _ (List.mem_of_getElem? (i := 15) rfl)))) (mvT hZ (hw _ (List.mem_of_getElem? (i := 15) rfl))) (mvT hZ (hw _ (List.mem_of_getElem? (i := 14) rfl))) (by decide) (backOf (W := 0) (rm3n3_0 l Z a0 hw [] b p1 r0 kc44 (0 : Int64) (0 : Int64) (0 : Int64) T44.heap n0 Sz44 E_b F_elements_b F_size_b V_r0 ge_b ge_r0 ne_r0_b) hZ (hw _ (List.mem_of_getElem? (i := 16) rfl)) (hw _ (List.mem_of_getElem? (i := 2) rfl)) (by decide) (by decide)) q46a q46c (g := (mkF m 17 #[.val (.int p0), .val (.long p1), .second, .val (.long p2), .second, .val (.long p3), .second, .val (.long p4), .second, .val (.ref b)] [(.long p1), (.ref b)])) rfl (by rw [hml]; rfl) (Steps.refl _) (argsL := [(.long p1)]) (rest := []) (lenOf pd_3 rfl) rfl (by show 2 * 0 + _ ≤ _; exact Nat.le_of_eq rfl) (hb hby at_17) (fun _ _ => ⟨rfl, rfl, (by decide : 2 + 0 ≤ _), (by decide : 5 + 0 ≤ _)⟩)
    dsimp only [Pt.U, Pt.locs, Pt.cells, Pt.slots] at X46 l46 y46 z46 st46 hQ46
    subst l46 y46 z46
    obtain ⟨rfl, Nq46, K46, F_elements_b, F_size_b, V_r0⟩ := hQ46
    have N46 := Fr.app N44 Nq46
    have Sz46 := Nat.le_trans Sz44 K46.1
    have E_b := E_b.keep K46
    have R47 : ∀ t, Steps p.tables e below (T46.setTop (mkF m 23 #[.val (.int p0), .val (.long p1), .second, .val (.long p2), .second, .val (.long p3), .second, .val (.long p4), .second, .val (.ref b)] [(.long p2), (.ref b)])) t → Steps p.tables e below (s₁.setTop (entryFrame m #[(.int p0), (.long p1), (.long p2), (.long p3), (.long p4)] maxLocals)) t := by
      intro t k
      refine R45 t ?_
      show Steps p.tables e below (T44.setTop (mkF m 17 #[.val (.int p0), .val (.long p1), .second, .val (.long p2), .second, .val (.long p3), .second, .val (.long p4), .second, .val (.ref b)] [(.long p1), (.ref b)])) _
      refine st46.trans ?_
      show Steps p.tables e below (T46.setTop (mkF m 20 #[.val (.int p0), .val (.long p1), .second, .val (.long p2), .second, .val (.long p3), .second, .val (.long p4), .second, .val (.ref b)] [])) _
      refine XS.aload X46.here hx rfl (hb hby at_20) rfl rfl ?_
      show Steps p.tables e below (T46.setTop (mkF m 22 #[.val (.int p0), .val (.long p1), .second, .val (.long p2), .second, .val (.long p3), .second, .val (.long p4), .second, .val (.ref b)] [(.ref b)])) _
      refine XS.lloadN X46.here hx rfl (hb hby at_22) rfl ?_
      exact k
    have lt_b := E_b.lt
    obtain ⟨cq48, kq48, q48a, q48b, q48c⟩ := isOf hZ rfl E_b
    obtain ⟨_, _, ⟨T48, L48, k48, n48⟩, -, X48, ⟨Lc48, hQ48, l48, y48, z48⟩, st48⟩ := X46.virtualBack hx (y := (⟨"com/example/accesstrail/accesstrail/store/AppendOnlyLongs", "add", "(J)V"⟩ : MethodName)) (z := (⟨"com/example/accesstrail/accesstrail/store/AppendOnlyLongs", "add", "(J)V"⟩ : MethodName)) hown (mvT hZ (hw _ (List.mem_of_getElem? (i := 12) rfl))) (mvT hZ (hw _ (List.mem_of_getElem? (i := 13) rfl))) (notFace_of_selects (args := #[]) (mvT hZ (hw _ (List.mem_of_getElem? (i := 15) rfl)))) (mvT hZ (hw _ (List.mem_of_getElem? (i := 15) rfl))) (mvT hZ (hw _ (List.mem_of_getElem? (i := 14) rfl))) (by decide) (backOf (W := 0) (rm3n3_1 l Z a0 hw [] b p2 r0 kc44 p1 (0 : Int64) (0 : Int64) T46.heap n0 Sz46 E_b F_elements_b F_size_b V_r0 ge_b ge_r0 ne_r0_b) hZ (hw _ (List.mem_of_getElem? (i := 16) rfl)) (hw _ (List.mem_of_getElem? (i := 2) rfl)) (by decide) (by decide)) q48a q48c (g := (mkF m 23 #[.val (.int p0), .val (.long p1), .second, .val (.long p2), .second, .val (.long p3), .second, .val (.long p4), .second, .val (.ref b)] [(.long p2), (.ref b)])) rfl (by rw [hml]; rfl) (Steps.refl _) (argsL := [(.long p2)]) (rest := []) (lenOf pd_3 rfl) rfl (by show 2 * 0 + _ ≤ _; exact Nat.le_of_eq rfl) (hb hby at_23) (fun _ _ => ⟨rfl, rfl, (by decide : 2 + 0 ≤ _), (by decide : 5 + 0 ≤ _)⟩)
    dsimp only [Pt.U, Pt.locs, Pt.cells, Pt.slots] at X48 l48 y48 z48 st48 hQ48
    subst l48 y48 z48
    obtain ⟨rfl, Nq48, K48, F_elements_b, F_size_b, V_r0⟩ := hQ48
    have N48 := Fr.app N46 Nq48
    have Sz48 := Nat.le_trans Sz46 K48.1
    have E_b := E_b.keep K48
    have R49 : ∀ t, Steps p.tables e below (T48.setTop (mkF m 30 #[.val (.int p0), .val (.long p1), .second, .val (.long p2), .second, .val (.long p3), .second, .val (.long p4), .second, .val (.ref b)] [(.long p3), (.ref b)])) t → Steps p.tables e below (s₁.setTop (entryFrame m #[(.int p0), (.long p1), (.long p2), (.long p3), (.long p4)] maxLocals)) t := by
      intro t k
      refine R47 t ?_
      show Steps p.tables e below (T46.setTop (mkF m 23 #[.val (.int p0), .val (.long p1), .second, .val (.long p2), .second, .val (.long p3), .second, .val (.long p4), .second, .val (.ref b)] [(.long p2), (.ref b)])) _
      refine st48.trans ?_
      show Steps p.tables e below (T48.setTop (mkF m 26 #[.val (.int p0), .val (.long p1), .second, .val (.long p2), .second, .val (.long p3), .second, .val (.long p4), .second, .val (.ref b)] [])) _
      refine XS.aload X48.here hx rfl (hb hby at_26) rfl rfl ?_
      show Steps p.tables e below (T48.setTop (mkF m 28 #[.val (.int p0), .val (.long p1), .second, .val (.long p2), .second, .val (.long p3), .second, .val (.long p4), .second, .val (.ref b)] [(.ref b)])) _
      refine XS.lload X48.here hx rfl (hb hby at_28) rfl ?_
      exact k
    have lt_b := E_b.lt
    obtain ⟨cq50, kq50, q50a, q50b, q50c⟩ := isOf hZ rfl E_b
    obtain ⟨_, _, ⟨T50, L50, k50, n50⟩, -, X50, ⟨Lc50, hQ50, l50, y50, z50⟩, st50⟩ := X48.virtualBack hx (y := (⟨"com/example/accesstrail/accesstrail/store/AppendOnlyLongs", "add", "(J)V"⟩ : MethodName)) (z := (⟨"com/example/accesstrail/accesstrail/store/AppendOnlyLongs", "add", "(J)V"⟩ : MethodName)) hown (mvT hZ (hw _ (List.mem_of_getElem? (i := 12) rfl))) (mvT hZ (hw _ (List.mem_of_getElem? (i := 13) rfl))) (notFace_of_selects (args := #[]) (mvT hZ (hw _ (List.mem_of_getElem? (i := 15) rfl)))) (mvT hZ (hw _ (List.mem_of_getElem? (i := 15) rfl))) (mvT hZ (hw _ (List.mem_of_getElem? (i := 14) rfl))) (by decide) (backOf (W := 0) (rm3n3_2 l Z a0 hw [] b p3 r0 kc44 p1 p2 (0 : Int64) T48.heap n0 Sz48 E_b F_elements_b F_size_b V_r0 ge_b ge_r0 ne_r0_b) hZ (hw _ (List.mem_of_getElem? (i := 16) rfl)) (hw _ (List.mem_of_getElem? (i := 2) rfl)) (by decide) (by decide)) q50a q50c (g := (mkF m 30 #[.val (.int p0), .val (.long p1), .second, .val (.long p2), .second, .val (.long p3), .second, .val (.long p4), .second, .val (.ref b)] [(.long p3), (.ref b)])) rfl (by rw [hml]; rfl) (Steps.refl _) (argsL := [(.long p3)]) (rest := []) (lenOf pd_3 rfl) rfl (by show 2 * 0 + _ ≤ _; exact Nat.le_of_eq rfl) (hb hby at_30) (fun _ _ => ⟨rfl, rfl, (by decide : 2 + 0 ≤ _), (by decide : 5 + 0 ≤ _)⟩)
    dsimp only [Pt.U, Pt.locs, Pt.cells, Pt.slots] at X50 l50 y50 z50 st50 hQ50
    subst l50 y50 z50
    obtain ⟨rfl, Nq50, K50, F_elements_b, F_size_b, V_r0⟩ := hQ50
    have N50 := Fr.app N48 Nq50
    have Sz50 := Nat.le_trans Sz48 K50.1
    have E_b := E_b.keep K50
    have R51 : ∀ t, Steps p.tables e below (T50.setTop (mkF m 37 #[.val (.int p0), .val (.long p1), .second, .val (.long p2), .second, .val (.long p3), .second, .val (.long p4), .second, .val (.ref b)] [(.long p4), (.ref b)])) t → Steps p.tables e below (s₁.setTop (entryFrame m #[(.int p0), (.long p1), (.long p2), (.long p3), (.long p4)] maxLocals)) t := by
      intro t k
      refine R49 t ?_
      show Steps p.tables e below (T48.setTop (mkF m 30 #[.val (.int p0), .val (.long p1), .second, .val (.long p2), .second, .val (.long p3), .second, .val (.long p4), .second, .val (.ref b)] [(.long p3), (.ref b)])) _
      refine st50.trans ?_
      show Steps p.tables e below (T50.setTop (mkF m 33 #[.val (.int p0), .val (.long p1), .second, .val (.long p2), .second, .val (.long p3), .second, .val (.long p4), .second, .val (.ref b)] [])) _
      refine XS.aload X50.here hx rfl (hb hby at_33) rfl rfl ?_
      show Steps p.tables e below (T50.setTop (mkF m 35 #[.val (.int p0), .val (.long p1), .second, .val (.long p2), .second, .val (.long p3), .second, .val (.long p4), .second, .val (.ref b)] [(.ref b)])) _
      refine XS.lload X50.here hx rfl (hb hby at_35) rfl ?_
      exact k
    have lt_b := E_b.lt
    obtain ⟨cq52, kq52, q52a, q52b, q52c⟩ := isOf hZ rfl E_b
    obtain ⟨_, _, ⟨T52, L52, k52, n52⟩, -, X52, ⟨Lc52, hQ52, l52, y52, z52⟩, st52⟩ := X50.virtualBack hx (y := (⟨"com/example/accesstrail/accesstrail/store/AppendOnlyLongs", "add", "(J)V"⟩ : MethodName)) (z := (⟨"com/example/accesstrail/accesstrail/store/AppendOnlyLongs", "add", "(J)V"⟩ : MethodName)) hown (mvT hZ (hw _ (List.mem_of_getElem? (i := 12) rfl))) (mvT hZ (hw _ (List.mem_of_getElem? (i := 13) rfl))) (notFace_of_selects (args := #[]) (mvT hZ (hw _ (List.mem_of_getElem? (i := 15) rfl)))) (mvT hZ (hw _ (List.mem_of_getElem? (i := 15) rfl))) (mvT hZ (hw _ (List.mem_of_getElem? (i := 14) rfl))) (by decide) (backOf (W := 0) (rm3n3_3 l Z a0 hw [] b p4 r0 kc44 p1 p2 p3 T50.heap n0 Sz50 E_b F_elements_b F_size_b V_r0 ge_b ge_r0 ne_r0_b) hZ (hw _ (List.mem_of_getElem? (i := 16) rfl)) (hw _ (List.mem_of_getElem? (i := 2) rfl)) (by decide) (by decide)) q52a q52c (g := (mkF m 37 #[.val (.int p0), .val (.long p1), .second, .val (.long p2), .second, .val (.long p3), .second, .val (.long p4), .second, .val (.ref b)] [(.long p4), (.ref b)])) rfl (by rw [hml]; rfl) (Steps.refl _) (argsL := [(.long p4)]) (rest := []) (lenOf pd_3 rfl) rfl (by show 2 * 0 + _ ≤ _; exact Nat.le_of_eq rfl) (hb hby at_37) (fun _ _ => ⟨rfl, rfl, (by decide : 2 + 1 ≤ _), (by decide : 5 + 6 ≤ _)⟩)
    dsimp only [Pt.U, Pt.locs, Pt.cells, Pt.slots] at X52 l52 y52 z52 st52 hQ52
    subst l52 y52 z52
    obtain ⟨rfl, Nq52, ⟨kc52, K52, F_elements_b, F_size_b, V_r⟩⟩ := hQ52
    have N52 := Fr.app N50 Nq52
    have Sz52 := Nat.le_trans Sz50 K52.1
    have E_b := E_b.keep K52
    have V_r0 := V_r0.keep K52 (ninS ne_r0_b nin0)
    obtain ⟨r4, g_r4⟩ : ∃ z, z = T50.heap.size := ⟨_, rfl⟩
    rw [← g_r4] at F_elements_b V_r
    have V_r4 : Arv Z T52.heap r4 kc52 .long (6 : Int32) [(.long p1), (.long p2), (.long p3), (.long p4), (.long (0 : Int64)), (.long (0 : Int64))] (.long (0 : Int64)) := V_r
    have ge_r4 : n0 ≤ r4 := g_r4 ▸ Sz50
    have ne_r4_b : r4 ≠ b := Ne.symm (Nat.ne_of_lt (Nat.lt_of_lt_of_le lt_b (Nat.le_of_eq g_r4.symm)))
    have R53 : ∀ t, Steps p.tables e below (T52.setTop (mkF m 42 #[.val (.int p0), .val (.long p1), .second, .val (.long p2), .second, .val (.long p3), .second, .val (.long p4), .second, .val (.ref b)] [(.ref b)])) t → Steps p.tables e below (s₁.setTop (entryFrame m #[(.int p0), (.long p1), (.long p2), (.long p3), (.long p4)] maxLocals)) t := by
      intro t k
      refine R51 t ?_
      show Steps p.tables e below (T50.setTop (mkF m 37 #[.val (.int p0), .val (.long p1), .second, .val (.long p2), .second, .val (.long p3), .second, .val (.long p4), .second, .val (.ref b)] [(.long p4), (.ref b)])) _
      refine st52.trans ?_
      show Steps p.tables e below (T52.setTop (mkF m 40 #[.val (.int p0), .val (.long p1), .second, .val (.long p2), .second, .val (.long p3), .second, .val (.long p4), .second, .val (.ref b)] [])) _
      refine XS.aload X52.here hx rfl (hb hby at_40) rfl rfl ?_
      exact k
    obtain ⟨cq54, kq54, q54a, q54b, q54c⟩ := isOf hZ rfl E_b
    obtain ⟨_, _, ⟨T54, L54, k54, n54⟩, -, X54, ⟨Lc54, hQ54, l54, y54, z54⟩, st54⟩ := X52.virtualBack hx (y := (⟨"com/example/accesstrail/accesstrail/store/AppendOnlyLongs", "size", "()I"⟩ : MethodName)) (z := (⟨"com/example/accesstrail/accesstrail/store/AppendOnlyLongs", "size", "()I"⟩ : MethodName)) hown (mvT hZ (hw _ (List.mem_of_getElem? (i := 31) rfl))) (mvT hZ (hw _ (List.mem_of_getElem? (i := 32) rfl))) (notFace_of_selects (args := #[]) (mvT hZ (hw _ (List.mem_of_getElem? (i := 34) rfl)))) (mvT hZ (hw _ (List.mem_of_getElem? (i := 34) rfl))) (mvT hZ (hw _ (List.mem_of_getElem? (i := 33) rfl))) (by decide) (backOf (W := 0) (rm6 l Z a0 hw [] b (4 : Int32) T52.heap n0 Sz52 F_size_b) hZ (hw _ (List.mem_of_getElem? (i := 35) rfl)) (hw _ (List.mem_of_getElem? (i := 2) rfl)) (by decide) (by decide)) q54a q54c (g := (mkF m 42 #[.val (.int p0), .val (.long p1), .second, .val (.long p2), .second, .val (.long p3), .second, .val (.long p4), .second, .val (.ref b)] [(.ref b)])) rfl (by rw [hml]; rfl) (Steps.refl _) (argsL := []) (rest := []) (lenOf pd_4 rfl) rfl (by show 2 * 0 + _ ≤ _; exact Nat.le_of_eq rfl) (hb hby at_42) (fun _ _ => ⟨rfl, rfl, (by decide : 3 + 0 ≤ _), (by decide : 11 + 0 ≤ _)⟩)
    dsimp only [Pt.U, Pt.locs, Pt.cells, Pt.slots] at X54 l54 y54 z54 st54 hQ54
    subst l54 y54 z54
    obtain ⟨rfl, Nq54, eq54⟩ := hQ54
    have N54 := Fr.app N52 Nq54
    have e54 : T54.heap = T52.heap := eq54
    have R55 : ∀ t, Steps p.tables e below (T54.setTop (mkF m 52 #[.val (.int p0), .val (.long p1), .second, .val (.long p2), .second, .val (.long p3), .second, .val (.long p4), .second, .val (.ref b)] [(.int (0 : Int32)), (.ref b)])) t → Steps p.tables e below (s₁.setTop (entryFrame m #[(.int p0), (.long p1), (.long p2), (.long p3), (.long p4)] maxLocals)) t := by
      intro t k
      refine R53 t ?_
      show Steps p.tables e below (T52.setTop (mkF m 42 #[.val (.int p0), .val (.long p1), .second, .val (.long p2), .second, .val (.long p3), .second, .val (.long p4), .second, .val (.ref b)] [(.ref b)])) _
      refine st54.trans ?_
      show Steps p.tables e below (T54.setTop (mkF m 45 #[.val (.int p0), .val (.long p1), .second, .val (.long p2), .second, .val (.long p3), .second, .val (.long p4), .second, .val (.ref b)] [(.int (4 : Int32))])) _
      refine XS.iconst X54.here hx rfl (hb hby at_45) ?_
      show Steps p.tables e below (T54.setTop (mkF m 46 #[.val (.int p0), .val (.long p1), .second, .val (.long p2), .second, .val (.long p3), .second, .val (.long p4), .second, .val (.ref b)] [(.int (4 : Int32)), (.int (4 : Int32))])) _
      refine XS.icmpNo X54.here hx rfl (hb hby at_46) rfl (teq (rfl : (4 : Int32) = 4)).2 ?_
      show Steps p.tables e below (T54.setTop (mkF m 49 #[.val (.int p0), .val (.long p1), .second, .val (.long p2), .second, .val (.long p3), .second, .val (.long p4), .second, .val (.ref b)] [])) _
      refine XS.aload X54.here hx rfl (hb hby at_49) rfl rfl ?_
      show Steps p.tables e below (T54.setTop (mkF m 51 #[.val (.int p0), .val (.long p1), .second, .val (.long p2), .second, .val (.long p3), .second, .val (.long p4), .second, .val (.ref b)] [(.ref b)])) _
      refine XS.iconst X54.here hx rfl (hb hby at_51) ?_
      exact k
    obtain ⟨cq56, kq56, q56a, q56b, q56c⟩ := isOf hZ e54 E_b
    obtain ⟨_, _, ⟨T56, L56, k56, n56⟩, -, X56, ⟨Lc56, hQ56, l56, y56, z56⟩, st56⟩ := X54.virtualBack hx (y := (⟨"com/example/accesstrail/accesstrail/store/AppendOnlyLongs", "get", "(I)J"⟩ : MethodName)) (z := (⟨"com/example/accesstrail/accesstrail/store/AppendOnlyLongs", "get", "(I)J"⟩ : MethodName)) hown (mvT hZ (hw _ (List.mem_of_getElem? (i := 36) rfl))) (mvT hZ (hw _ (List.mem_of_getElem? (i := 37) rfl))) (notFace_of_selects (args := #[]) (mvT hZ (hw _ (List.mem_of_getElem? (i := 39) rfl)))) (mvT hZ (hw _ (List.mem_of_getElem? (i := 39) rfl))) (mvT hZ (hw _ (List.mem_of_getElem? (i := 38) rfl))) (by decide) (backOf (W := 0) (rm7n6_0 l Z a0 hw [] b (0 : Int32) r4 kc52 p1 p2 p3 p4 (0 : Int64) (0 : Int64) T52.heap n0 Sz52 F_elements_b V_r4 rfl) hZ (hw _ (List.mem_of_getElem? (i := 40) rfl)) (hw _ (List.mem_of_getElem? (i := 2) rfl)) (by decide) (by decide)) q56a q56c (g := (mkF m 52 #[.val (.int p0), .val (.long p1), .second, .val (.long p2), .second, .val (.long p3), .second, .val (.long p4), .second, .val (.ref b)] [(.int (0 : Int32)), (.ref b)])) rfl (by rw [hml]; rfl) (Steps.refl _) (argsL := [(.int (0 : Int32))]) (rest := []) (lenOf pd_5 rfl) rfl (by show 2 * 0 + _ ≤ _; exact Nat.le_of_eq rfl) (hb hby at_52) (fun _ _ => ⟨rfl, e54, (by decide : 3 + 0 ≤ _), (by decide : 11 + 0 ≤ _)⟩)
    dsimp only [Pt.U, Pt.locs, Pt.cells, Pt.slots] at X56 l56 y56 z56 st56 hQ56
    subst l56 y56 z56
    obtain ⟨rfl, Nq56, eq56⟩ := hQ56
    have N56 := Fr.app N54 Nq56
    have e56 : T56.heap = T52.heap := eq56
    have R57 : ∀ t, Steps p.tables e below (T56.setTop (mkF m 63 #[.val (.int p0), .val (.long p1), .second, .val (.long p2), .second, .val (.long p3), .second, .val (.long p4), .second, .val (.ref b)] [(.int (1 : Int32)), (.ref b)])) t → Steps p.tables e below (s₁.setTop (entryFrame m #[(.int p0), (.long p1), (.long p2), (.long p3), (.long p4)] maxLocals)) t := by
      intro t k
      refine R55 t ?_
      show Steps p.tables e below (T54.setTop (mkF m 52 #[.val (.int p0), .val (.long p1), .second, .val (.long p2), .second, .val (.long p3), .second, .val (.long p4), .second, .val (.ref b)] [(.int (0 : Int32)), (.ref b)])) _
      refine st56.trans ?_
      show Steps p.tables e below (T56.setTop (mkF m 55 #[.val (.int p0), .val (.long p1), .second, .val (.long p2), .second, .val (.long p3), .second, .val (.long p4), .second, .val (.ref b)] [(.long p1)])) _
      refine XS.lloadN X56.here hx rfl (hb hby at_55) rfl ?_
      show Steps p.tables e below (T56.setTop (mkF m 56 #[.val (.int p0), .val (.long p1), .second, .val (.long p2), .second, .val (.long p3), .second, .val (.long p4), .second, .val (.ref b)] [(.long p1), (.long p1)])) _
      refine XS.lcmp X56.here hx rfl (hb hby at_56) rfl ?_
      show Steps p.tables e below (T56.setTop (mkF m 57 #[.val (.int p0), .val (.long p1), .second, .val (.long p2), .second, .val (.long p3), .second, .val (.long p4), .second, .val (.ref b)] [(.int (lcmpW p1 p1))])) _
      refine XS.ifNo X56.here hx rfl (hb hby at_57) rfl ((if0 _ _).trans (teq ((lw_eq _ _).mpr rfl)).2) ?_
      show Steps p.tables e below (T56.setTop (mkF m 60 #[.val (.int p0), .val (.long p1), .second, .val (.long p2), .second, .val (.long p3), .second, .val (.long p4), .second, .val (.ref b)] [])) _
      refine XS.aload X56.here hx rfl (hb hby at_60) rfl rfl ?_
      show Steps p.tables e below (T56.setTop (mkF m 62 #[.val (.int p0), .val (.long p1), .second, .val (.long p2), .second, .val (.long p3), .second, .val (.long p4), .second, .val (.ref b)] [(.ref b)])) _
      refine XS.iconst X56.here hx rfl (hb hby at_62) ?_
      exact k
    obtain ⟨cq58, kq58, q58a, q58b, q58c⟩ := isOf hZ e56 E_b
    obtain ⟨_, _, ⟨T58, L58, k58, n58⟩, -, X58, ⟨Lc58, hQ58, l58, y58, z58⟩, st58⟩ := X56.virtualBack hx (y := (⟨"com/example/accesstrail/accesstrail/store/AppendOnlyLongs", "get", "(I)J"⟩ : MethodName)) (z := (⟨"com/example/accesstrail/accesstrail/store/AppendOnlyLongs", "get", "(I)J"⟩ : MethodName)) hown (mvT hZ (hw _ (List.mem_of_getElem? (i := 36) rfl))) (mvT hZ (hw _ (List.mem_of_getElem? (i := 37) rfl))) (notFace_of_selects (args := #[]) (mvT hZ (hw _ (List.mem_of_getElem? (i := 39) rfl)))) (mvT hZ (hw _ (List.mem_of_getElem? (i := 39) rfl))) (mvT hZ (hw _ (List.mem_of_getElem? (i := 38) rfl))) (by decide) (backOf (W := 0) (rm7n6_1 l Z a0 hw [] b (1 : Int32) r4 kc52 p1 p2 p3 p4 (0 : Int64) (0 : Int64) T52.heap n0 Sz52 F_elements_b V_r4 rfl) hZ (hw _ (List.mem_of_getElem? (i := 40) rfl)) (hw _ (List.mem_of_getElem? (i := 2) rfl)) (by decide) (by decide)) q58a q58c (g := (mkF m 63 #[.val (.int p0), .val (.long p1), .second, .val (.long p2), .second, .val (.long p3), .second, .val (.long p4), .second, .val (.ref b)] [(.int (1 : Int32)), (.ref b)])) rfl (by rw [hml]; rfl) (Steps.refl _) (argsL := [(.int (1 : Int32))]) (rest := []) (lenOf pd_5 rfl) rfl (by show 2 * 0 + _ ≤ _; exact Nat.le_of_eq rfl) (hb hby at_63) (fun _ _ => ⟨rfl, e56, (by decide : 3 + 0 ≤ _), (by decide : 11 + 0 ≤ _)⟩)
    dsimp only [Pt.U, Pt.locs, Pt.cells, Pt.slots] at X58 l58 y58 z58 st58 hQ58
    subst l58 y58 z58
    obtain ⟨rfl, Nq58, eq58⟩ := hQ58
    have N58 := Fr.app N56 Nq58
    have e58 : T58.heap = T52.heap := eq58
    have R59 : ∀ t, Steps p.tables e below (T58.setTop (mkF m 74 #[.val (.int p0), .val (.long p1), .second, .val (.long p2), .second, .val (.long p3), .second, .val (.long p4), .second, .val (.ref b)] [(.int (2 : Int32)), (.ref b)])) t → Steps p.tables e below (s₁.setTop (entryFrame m #[(.int p0), (.long p1), (.long p2), (.long p3), (.long p4)] maxLocals)) t := by
      intro t k
      refine R57 t ?_
      show Steps p.tables e below (T56.setTop (mkF m 63 #[.val (.int p0), .val (.long p1), .second, .val (.long p2), .second, .val (.long p3), .second, .val (.long p4), .second, .val (.ref b)] [(.int (1 : Int32)), (.ref b)])) _
      refine st58.trans ?_
      show Steps p.tables e below (T58.setTop (mkF m 66 #[.val (.int p0), .val (.long p1), .second, .val (.long p2), .second, .val (.long p3), .second, .val (.long p4), .second, .val (.ref b)] [(.long p2)])) _
      refine XS.lloadN X58.here hx rfl (hb hby at_66) rfl ?_
      show Steps p.tables e below (T58.setTop (mkF m 67 #[.val (.int p0), .val (.long p1), .second, .val (.long p2), .second, .val (.long p3), .second, .val (.long p4), .second, .val (.ref b)] [(.long p2), (.long p2)])) _
      refine XS.lcmp X58.here hx rfl (hb hby at_67) rfl ?_
      show Steps p.tables e below (T58.setTop (mkF m 68 #[.val (.int p0), .val (.long p1), .second, .val (.long p2), .second, .val (.long p3), .second, .val (.long p4), .second, .val (.ref b)] [(.int (lcmpW p2 p2))])) _
      refine XS.ifNo X58.here hx rfl (hb hby at_68) rfl ((if0 _ _).trans (teq ((lw_eq _ _).mpr rfl)).2) ?_
      show Steps p.tables e below (T58.setTop (mkF m 71 #[.val (.int p0), .val (.long p1), .second, .val (.long p2), .second, .val (.long p3), .second, .val (.long p4), .second, .val (.ref b)] [])) _
      refine XS.aload X58.here hx rfl (hb hby at_71) rfl rfl ?_
      show Steps p.tables e below (T58.setTop (mkF m 73 #[.val (.int p0), .val (.long p1), .second, .val (.long p2), .second, .val (.long p3), .second, .val (.long p4), .second, .val (.ref b)] [(.ref b)])) _
      refine XS.iconst X58.here hx rfl (hb hby at_73) ?_
      exact k
    obtain ⟨cq60, kq60, q60a, q60b, q60c⟩ := isOf hZ e58 E_b
    obtain ⟨_, _, ⟨T60, L60, k60, n60⟩, -, X60, ⟨Lc60, hQ60, l60, y60, z60⟩, st60⟩ := X58.virtualBack hx (y := (⟨"com/example/accesstrail/accesstrail/store/AppendOnlyLongs", "get", "(I)J"⟩ : MethodName)) (z := (⟨"com/example/accesstrail/accesstrail/store/AppendOnlyLongs", "get", "(I)J"⟩ : MethodName)) hown (mvT hZ (hw _ (List.mem_of_getElem? (i := 36) rfl))) (mvT hZ (hw _ (List.mem_of_getElem? (i := 37) rfl))) (notFace_of_selects (args := #[]) (mvT hZ (hw _ (List.mem_of_getElem? (i := 39) rfl)))) (mvT hZ (hw _ (List.mem_of_getElem? (i := 39) rfl))) (mvT hZ (hw _ (List.mem_of_getElem? (i := 38) rfl))) (by decide) (backOf (W := 0) (rm7n6_2 l Z a0 hw [] b (2 : Int32) r4 kc52 p1 p2 p3 p4 (0 : Int64) (0 : Int64) T52.heap n0 Sz52 F_elements_b V_r4 rfl) hZ (hw _ (List.mem_of_getElem? (i := 40) rfl)) (hw _ (List.mem_of_getElem? (i := 2) rfl)) (by decide) (by decide)) q60a q60c (g := (mkF m 74 #[.val (.int p0), .val (.long p1), .second, .val (.long p2), .second, .val (.long p3), .second, .val (.long p4), .second, .val (.ref b)] [(.int (2 : Int32)), (.ref b)])) rfl (by rw [hml]; rfl) (Steps.refl _) (argsL := [(.int (2 : Int32))]) (rest := []) (lenOf pd_5 rfl) rfl (by show 2 * 0 + _ ≤ _; exact Nat.le_of_eq rfl) (hb hby at_74) (fun _ _ => ⟨rfl, e58, (by decide : 3 + 0 ≤ _), (by decide : 11 + 0 ≤ _)⟩)
    dsimp only [Pt.U, Pt.locs, Pt.cells, Pt.slots] at X60 l60 y60 z60 st60 hQ60
    subst l60 y60 z60
    obtain ⟨rfl, Nq60, eq60⟩ := hQ60
    have N60 := Fr.app N58 Nq60
    have e60 : T60.heap = T52.heap := eq60
    have R61 : ∀ t, Steps p.tables e below (T60.setTop (mkF m 86 #[.val (.int p0), .val (.long p1), .second, .val (.long p2), .second, .val (.long p3), .second, .val (.long p4), .second, .val (.ref b)] [(.int (3 : Int32)), (.ref b)])) t → Steps p.tables e below (s₁.setTop (entryFrame m #[(.int p0), (.long p1), (.long p2), (.long p3), (.long p4)] maxLocals)) t := by
      intro t k
      refine R59 t ?_
      show Steps p.tables e below (T58.setTop (mkF m 74 #[.val (.int p0), .val (.long p1), .second, .val (.long p2), .second, .val (.long p3), .second, .val (.long p4), .second, .val (.ref b)] [(.int (2 : Int32)), (.ref b)])) _
      refine st60.trans ?_
      show Steps p.tables e below (T60.setTop (mkF m 77 #[.val (.int p0), .val (.long p1), .second, .val (.long p2), .second, .val (.long p3), .second, .val (.long p4), .second, .val (.ref b)] [(.long p3)])) _
      refine XS.lload X60.here hx rfl (hb hby at_77) rfl ?_
      show Steps p.tables e below (T60.setTop (mkF m 79 #[.val (.int p0), .val (.long p1), .second, .val (.long p2), .second, .val (.long p3), .second, .val (.long p4), .second, .val (.ref b)] [(.long p3), (.long p3)])) _
      refine XS.lcmp X60.here hx rfl (hb hby at_79) rfl ?_
      show Steps p.tables e below (T60.setTop (mkF m 80 #[.val (.int p0), .val (.long p1), .second, .val (.long p2), .second, .val (.long p3), .second, .val (.long p4), .second, .val (.ref b)] [(.int (lcmpW p3 p3))])) _
      refine XS.ifNo X60.here hx rfl (hb hby at_80) rfl ((if0 _ _).trans (teq ((lw_eq _ _).mpr rfl)).2) ?_
      show Steps p.tables e below (T60.setTop (mkF m 83 #[.val (.int p0), .val (.long p1), .second, .val (.long p2), .second, .val (.long p3), .second, .val (.long p4), .second, .val (.ref b)] [])) _
      refine XS.aload X60.here hx rfl (hb hby at_83) rfl rfl ?_
      show Steps p.tables e below (T60.setTop (mkF m 85 #[.val (.int p0), .val (.long p1), .second, .val (.long p2), .second, .val (.long p3), .second, .val (.long p4), .second, .val (.ref b)] [(.ref b)])) _
      refine XS.iconst X60.here hx rfl (hb hby at_85) ?_
      exact k
    obtain ⟨cq62, kq62, q62a, q62b, q62c⟩ := isOf hZ e60 E_b
    obtain ⟨_, _, ⟨T62, L62, k62, n62⟩, -, X62, ⟨Lc62, hQ62, l62, y62, z62⟩, st62⟩ := X60.virtualBack hx (y := (⟨"com/example/accesstrail/accesstrail/store/AppendOnlyLongs", "get", "(I)J"⟩ : MethodName)) (z := (⟨"com/example/accesstrail/accesstrail/store/AppendOnlyLongs", "get", "(I)J"⟩ : MethodName)) hown (mvT hZ (hw _ (List.mem_of_getElem? (i := 36) rfl))) (mvT hZ (hw _ (List.mem_of_getElem? (i := 37) rfl))) (notFace_of_selects (args := #[]) (mvT hZ (hw _ (List.mem_of_getElem? (i := 39) rfl)))) (mvT hZ (hw _ (List.mem_of_getElem? (i := 39) rfl))) (mvT hZ (hw _ (List.mem_of_getElem? (i := 38) rfl))) (by decide) (backOf (W := 0) (rm7n6_3 l Z a0 hw [] b (3 : Int32) r4 kc52 p1 p2 p3 p4 (0 : Int64) (0 : Int64) T52.heap n0 Sz52 F_elements_b V_r4 rfl) hZ (hw _ (List.mem_of_getElem? (i := 40) rfl)) (hw _ (List.mem_of_getElem? (i := 2) rfl)) (by decide) (by decide)) q62a q62c (g := (mkF m 86 #[.val (.int p0), .val (.long p1), .second, .val (.long p2), .second, .val (.long p3), .second, .val (.long p4), .second, .val (.ref b)] [(.int (3 : Int32)), (.ref b)])) rfl (by rw [hml]; rfl) (Steps.refl _) (argsL := [(.int (3 : Int32))]) (rest := []) (lenOf pd_5 rfl) rfl (by show 2 * 0 + _ ≤ _; exact Nat.le_of_eq rfl) (hb hby at_86) (fun _ _ => ⟨rfl, e60, (by decide : 3 + 0 ≤ _), (by decide : 11 + 0 ≤ _)⟩)
    dsimp only [Pt.U, Pt.locs, Pt.cells, Pt.slots] at X62 l62 y62 z62 st62 hQ62
    subst l62 y62 z62
    obtain ⟨rfl, Nq62, eq62⟩ := hQ62
    have N62 := Fr.app N60 Nq62
    have e62 : T62.heap = T52.heap := eq62
    have R63 : ∀ t, Steps p.tables e below (T62.setTop (mkF m 100 #[.val (.int p0), .val (.long p1), .second, .val (.long p2), .second, .val (.long p3), .second, .val (.long p4), .second, .val (.ref b)] [(.int (1 : Int32))])) t → Steps p.tables e below (s₁.setTop (entryFrame m #[(.int p0), (.long p1), (.long p2), (.long p3), (.long p4)] maxLocals)) t := by
      intro t k
      refine R61 t ?_
      show Steps p.tables e below (T60.setTop (mkF m 86 #[.val (.int p0), .val (.long p1), .second, .val (.long p2), .second, .val (.long p3), .second, .val (.long p4), .second, .val (.ref b)] [(.int (3 : Int32)), (.ref b)])) _
      refine st62.trans ?_
      show Steps p.tables e below (T62.setTop (mkF m 89 #[.val (.int p0), .val (.long p1), .second, .val (.long p2), .second, .val (.long p3), .second, .val (.long p4), .second, .val (.ref b)] [(.long p4)])) _
      refine XS.lload X62.here hx rfl (hb hby at_89) rfl ?_
      show Steps p.tables e below (T62.setTop (mkF m 91 #[.val (.int p0), .val (.long p1), .second, .val (.long p2), .second, .val (.long p3), .second, .val (.long p4), .second, .val (.ref b)] [(.long p4), (.long p4)])) _
      refine XS.lcmp X62.here hx rfl (hb hby at_91) rfl ?_
      show Steps p.tables e below (T62.setTop (mkF m 92 #[.val (.int p0), .val (.long p1), .second, .val (.long p2), .second, .val (.long p3), .second, .val (.long p4), .second, .val (.ref b)] [(.int (lcmpW p4 p4))])) _
      refine XS.ifNo X62.here hx rfl (hb hby at_92) rfl ((if0 _ _).trans (teq ((lw_eq _ _).mpr rfl)).2) ?_
      show Steps p.tables e below (T62.setTop (mkF m 95 #[.val (.int p0), .val (.long p1), .second, .val (.long p2), .second, .val (.long p3), .second, .val (.long p4), .second, .val (.ref b)] [])) _
      refine XS.iconst X62.here hx rfl (hb hby at_95) ?_
      show Steps p.tables e below (T62.setTop (mkF m 96 #[.val (.int p0), .val (.long p1), .second, .val (.long p2), .second, .val (.long p3), .second, .val (.long p4), .second, .val (.ref b)] [(.int (1 : Int32))])) _
      refine XS.goto X62.here hx rfl (pc0 := 96) (pc' := 100) rfl (hb hby at_96) (by decide) (by decide) ?_
      exact k
    obtain ⟨fs, hr, hrun, hended, hW, hsame⟩ := X62.leave (v := some (.int (1 : Int32))) (fun h => by rw [Bd.returns] at h; cases h)
    refine ⟨_, _, R63 _ ?_, hrun, hended, _, _, rfl, ?_, ⟨_, rfl⟩, hW, hsame.mono (by decide) (by decide)⟩
    · exact retN X62 hx (t := .boolean) Bd.returns (by simp) (hb hby at_100) hr
    · show Q0 Z p0 p1 p2 p3 p4 h0 n0 _ T62.heap _
      rw [e62]
      exact ⟨rfl, N62⟩
  ·
    rw [hv3] at R2
    have lt_b := E_b.lt
    obtain ⟨_, _, ⟨T64, L64, k64, n64⟩, -, X64, ⟨Lc64, hQ64, l64, y64, z64⟩, st64⟩ := X1.specialBack hx (y := (⟨"com/example/accesstrail/accesstrail/store/AppendOnlyLongs", "<init>", "(I)V"⟩ : MethodName)) rfl hown (mvT hZ (hw _ (List.mem_of_getElem? (i := 3) rfl))) (mvT hZ (hw _ (List.mem_of_getElem? (i := 4) rfl))) (mvT hZ (hw _ (List.mem_of_getElem? (i := 5) rfl))) (by decide) (backOf (W := 1) (rm1n4 l Z a0 hw [] b (4 : Int32) h1 n0 Sz1 E_b F_elements_b F_size_b ge_b rfl) hZ (hw _ (List.mem_of_getElem? (i := 5) rfl)) (hw _ (List.mem_of_getElem? (i := 2) rfl)) (by decide) (by decide)) (g := (mkF m 9 #[.val (.int p0), .val (.long p1), .second, .val (.long p2), .second, .val (.long p3), .second, .val (.long p4), .second, .unset] [(.int (4 : Int32)), (.ref b), (.ref b)])) rfl (by rw [hml]; rfl) (Steps.refl _) (a := b) (argsL := [(.int (4 : Int32))]) (rest := [(.ref b)]) (lenOf pd_2 rfl) rfl (by show 2 * 0 + _ ≤ _; exact Nat.le_of_eq rfl) (hb hby at_9) (fun _ _ => ⟨rfl, e1, (by decide : 1 + 1 ≤ _), (by decide : 2 + 4 ≤ _)⟩)
    dsimp only [Pt.U, Pt.locs, Pt.cells, Pt.slots] at X64 l64 y64 z64 st64 hQ64
    subst l64 y64 z64
    obtain ⟨rfl, Nq64, ⟨kc64, K64, F_elements_b, F_size_b, V_r⟩⟩ := hQ64
    have N64 := Fr.app N0 Nq64
    have Sz64 := Nat.le_trans Sz1 K64.1
    have E_b := E_b.keep K64
    obtain ⟨r0, g_r0⟩ : ∃ z, z = h1.size := ⟨_, rfl⟩
    rw [← g_r0] at F_elements_b V_r
    have V_r0 : Arv Z T64.heap r0 kc64 .long (4 : Int32) [(.long (0 : Int64)), (.long (0 : Int64)), (.long (0 : Int64)), (.long (0 : Int64))] (.long (0 : Int64)) := V_r
    have ge_r0 : n0 ≤ r0 := g_r0 ▸ Nat.le_trans Z0 E1.1
    have ne_r0_b : r0 ≠ b := Ne.symm (Nat.ne_of_lt (Nat.lt_of_lt_of_le lt_b (Nat.le_of_eq g_r0.symm)))
    have R65 : ∀ t, Steps p.tables e below (T64.setTop (mkF m 17 #[.val (.int p0), .val (.long p1), .second, .val (.long p2), .second, .val (.long p3), .second, .val (.long p4), .second, .val (.ref b)] [(.long p1), (.ref b)])) t → Steps p.tables e below (s₁.setTop (entryFrame m #[(.int p0), (.long p1), (.long p2), (.long p3), (.long p4)] maxLocals)) t := by
      intro t k
      refine R2 t ?_
      show Steps p.tables e below (T1.setTop (mkF m 9 #[.val (.int p0), .val (.long p1), .second, .val (.long p2), .second, .val (.long p3), .second, .val (.long p4), .second, .unset] [(.int (4 : Int32)), (.ref b), (.ref b)])) _
      refine st64.trans ?_
      show Steps p.tables e below (T64.setTop (mkF m 12 #[.val (.int p0), .val (.long p1), .second, .val (.long p2), .second, .val (.long p3), .second, .val (.long p4), .second, .unset] [(.ref b)])) _
      refine XS.astore X64.here hx rfl (hb hby at_12) rfl rfl (l' := #[.val (.int p0), .val (.long p1), .second, .val (.long p2), .second, .val (.long p3), .second, .val (.long p4), .second, .val (.ref b)]) rfl ?_
      show Steps p.tables e below (T64.setTop (mkF m 14 #[.val (.int p0), .val (.long p1), .second, .val (.long p2), .second, .val (.long p3), .second, .val (.long p4), .second, .val (.ref b)] [])) _
      refine XS.aload X64.here hx rfl (hb hby at_14) rfl rfl ?_
      show Steps p.tables e below (T64.setTop (mkF m 16 #[.val (.int p0), .val (.long p1), .second, .val (.long p2), .second, .val (.long p3), .second, .val (.long p4), .second, .val (.ref b)] [(.ref b)])) _
      refine XS.lloadN X64.here hx rfl (hb hby at_16) rfl ?_
      exact k
    have lt_b := E_b.lt
    obtain ⟨cq66, kq66, q66a, q66b, q66c⟩ := isOf hZ rfl E_b
    obtain ⟨_, _, ⟨T66, L66, k66, n66⟩, -, X66, ⟨Lc66, hQ66, l66, y66, z66⟩, st66⟩ := X64.virtualBack hx (y := (⟨"com/example/accesstrail/accesstrail/store/AppendOnlyLongs", "add", "(J)V"⟩ : MethodName)) (z := (⟨"com/example/accesstrail/accesstrail/store/AppendOnlyLongs", "add", "(J)V"⟩ : MethodName)) hown (mvT hZ (hw _ (List.mem_of_getElem? (i := 12) rfl))) (mvT hZ (hw _ (List.mem_of_getElem? (i := 13) rfl))) (notFace_of_selects (args := #[]) (mvT hZ (hw _ (List.mem_of_getElem? (i := 15) rfl)))) (mvT hZ (hw _ (List.mem_of_getElem? (i := 15) rfl))) (mvT hZ (hw _ (List.mem_of_getElem? (i := 14) rfl))) (by decide) (backOf (W := 0) (rm3n4_0 l Z a0 hw [] b p1 r0 kc64 (0 : Int64) (0 : Int64) (0 : Int64) (0 : Int64) T64.heap n0 Sz64 E_b F_elements_b F_size_b V_r0 ge_b ge_r0 ne_r0_b) hZ (hw _ (List.mem_of_getElem? (i := 16) rfl)) (hw _ (List.mem_of_getElem? (i := 2) rfl)) (by decide) (by decide)) q66a q66c (g := (mkF m 17 #[.val (.int p0), .val (.long p1), .second, .val (.long p2), .second, .val (.long p3), .second, .val (.long p4), .second, .val (.ref b)] [(.long p1), (.ref b)])) rfl (by rw [hml]; rfl) (Steps.refl _) (argsL := [(.long p1)]) (rest := []) (lenOf pd_3 rfl) rfl (by show 2 * 0 + _ ≤ _; exact Nat.le_of_eq rfl) (hb hby at_17) (fun _ _ => ⟨rfl, rfl, (by decide : 2 + 0 ≤ _), (by decide : 6 + 0 ≤ _)⟩)
    dsimp only [Pt.U, Pt.locs, Pt.cells, Pt.slots] at X66 l66 y66 z66 st66 hQ66
    subst l66 y66 z66
    obtain ⟨rfl, Nq66, K66, F_elements_b, F_size_b, V_r0⟩ := hQ66
    have N66 := Fr.app N64 Nq66
    have Sz66 := Nat.le_trans Sz64 K66.1
    have E_b := E_b.keep K66
    have R67 : ∀ t, Steps p.tables e below (T66.setTop (mkF m 23 #[.val (.int p0), .val (.long p1), .second, .val (.long p2), .second, .val (.long p3), .second, .val (.long p4), .second, .val (.ref b)] [(.long p2), (.ref b)])) t → Steps p.tables e below (s₁.setTop (entryFrame m #[(.int p0), (.long p1), (.long p2), (.long p3), (.long p4)] maxLocals)) t := by
      intro t k
      refine R65 t ?_
      show Steps p.tables e below (T64.setTop (mkF m 17 #[.val (.int p0), .val (.long p1), .second, .val (.long p2), .second, .val (.long p3), .second, .val (.long p4), .second, .val (.ref b)] [(.long p1), (.ref b)])) _
      refine st66.trans ?_
      show Steps p.tables e below (T66.setTop (mkF m 20 #[.val (.int p0), .val (.long p1), .second, .val (.long p2), .second, .val (.long p3), .second, .val (.long p4), .second, .val (.ref b)] [])) _
      refine XS.aload X66.here hx rfl (hb hby at_20) rfl rfl ?_
      show Steps p.tables e below (T66.setTop (mkF m 22 #[.val (.int p0), .val (.long p1), .second, .val (.long p2), .second, .val (.long p3), .second, .val (.long p4), .second, .val (.ref b)] [(.ref b)])) _
      refine XS.lloadN X66.here hx rfl (hb hby at_22) rfl ?_
      exact k
    have lt_b := E_b.lt
    obtain ⟨cq68, kq68, q68a, q68b, q68c⟩ := isOf hZ rfl E_b
    obtain ⟨_, _, ⟨T68, L68, k68, n68⟩, -, X68, ⟨Lc68, hQ68, l68, y68, z68⟩, st68⟩ := X66.virtualBack hx (y := (⟨"com/example/accesstrail/accesstrail/store/AppendOnlyLongs", "add", "(J)V"⟩ : MethodName)) (z := (⟨"com/example/accesstrail/accesstrail/store/AppendOnlyLongs", "add", "(J)V"⟩ : MethodName)) hown (mvT hZ (hw _ (List.mem_of_getElem? (i := 12) rfl))) (mvT hZ (hw _ (List.mem_of_getElem? (i := 13) rfl))) (notFace_of_selects (args := #[]) (mvT hZ (hw _ (List.mem_of_getElem? (i := 15) rfl)))) (mvT hZ (hw _ (List.mem_of_getElem? (i := 15) rfl))) (mvT hZ (hw _ (List.mem_of_getElem? (i := 14) rfl))) (by decide) (backOf (W := 0) (rm3n4_1 l Z a0 hw [] b p2 r0 kc64 p1 (0 : Int64) (0 : Int64) (0 : Int64) T66.heap n0 Sz66 E_b F_elements_b F_size_b V_r0 ge_b ge_r0 ne_r0_b) hZ (hw _ (List.mem_of_getElem? (i := 16) rfl)) (hw _ (List.mem_of_getElem? (i := 2) rfl)) (by decide) (by decide)) q68a q68c (g := (mkF m 23 #[.val (.int p0), .val (.long p1), .second, .val (.long p2), .second, .val (.long p3), .second, .val (.long p4), .second, .val (.ref b)] [(.long p2), (.ref b)])) rfl (by rw [hml]; rfl) (Steps.refl _) (argsL := [(.long p2)]) (rest := []) (lenOf pd_3 rfl) rfl (by show 2 * 0 + _ ≤ _; exact Nat.le_of_eq rfl) (hb hby at_23) (fun _ _ => ⟨rfl, rfl, (by decide : 2 + 0 ≤ _), (by decide : 6 + 0 ≤ _)⟩)
    dsimp only [Pt.U, Pt.locs, Pt.cells, Pt.slots] at X68 l68 y68 z68 st68 hQ68
    subst l68 y68 z68
    obtain ⟨rfl, Nq68, K68, F_elements_b, F_size_b, V_r0⟩ := hQ68
    have N68 := Fr.app N66 Nq68
    have Sz68 := Nat.le_trans Sz66 K68.1
    have E_b := E_b.keep K68
    have R69 : ∀ t, Steps p.tables e below (T68.setTop (mkF m 30 #[.val (.int p0), .val (.long p1), .second, .val (.long p2), .second, .val (.long p3), .second, .val (.long p4), .second, .val (.ref b)] [(.long p3), (.ref b)])) t → Steps p.tables e below (s₁.setTop (entryFrame m #[(.int p0), (.long p1), (.long p2), (.long p3), (.long p4)] maxLocals)) t := by
      intro t k
      refine R67 t ?_
      show Steps p.tables e below (T66.setTop (mkF m 23 #[.val (.int p0), .val (.long p1), .second, .val (.long p2), .second, .val (.long p3), .second, .val (.long p4), .second, .val (.ref b)] [(.long p2), (.ref b)])) _
      refine st68.trans ?_
      show Steps p.tables e below (T68.setTop (mkF m 26 #[.val (.int p0), .val (.long p1), .second, .val (.long p2), .second, .val (.long p3), .second, .val (.long p4), .second, .val (.ref b)] [])) _
      refine XS.aload X68.here hx rfl (hb hby at_26) rfl rfl ?_
      show Steps p.tables e below (T68.setTop (mkF m 28 #[.val (.int p0), .val (.long p1), .second, .val (.long p2), .second, .val (.long p3), .second, .val (.long p4), .second, .val (.ref b)] [(.ref b)])) _
      refine XS.lload X68.here hx rfl (hb hby at_28) rfl ?_
      exact k
    have lt_b := E_b.lt
    obtain ⟨cq70, kq70, q70a, q70b, q70c⟩ := isOf hZ rfl E_b
    obtain ⟨_, _, ⟨T70, L70, k70, n70⟩, -, X70, ⟨Lc70, hQ70, l70, y70, z70⟩, st70⟩ := X68.virtualBack hx (y := (⟨"com/example/accesstrail/accesstrail/store/AppendOnlyLongs", "add", "(J)V"⟩ : MethodName)) (z := (⟨"com/example/accesstrail/accesstrail/store/AppendOnlyLongs", "add", "(J)V"⟩ : MethodName)) hown (mvT hZ (hw _ (List.mem_of_getElem? (i := 12) rfl))) (mvT hZ (hw _ (List.mem_of_getElem? (i := 13) rfl))) (notFace_of_selects (args := #[]) (mvT hZ (hw _ (List.mem_of_getElem? (i := 15) rfl)))) (mvT hZ (hw _ (List.mem_of_getElem? (i := 15) rfl))) (mvT hZ (hw _ (List.mem_of_getElem? (i := 14) rfl))) (by decide) (backOf (W := 0) (rm3n4_2 l Z a0 hw [] b p3 r0 kc64 p1 p2 (0 : Int64) (0 : Int64) T68.heap n0 Sz68 E_b F_elements_b F_size_b V_r0 ge_b ge_r0 ne_r0_b) hZ (hw _ (List.mem_of_getElem? (i := 16) rfl)) (hw _ (List.mem_of_getElem? (i := 2) rfl)) (by decide) (by decide)) q70a q70c (g := (mkF m 30 #[.val (.int p0), .val (.long p1), .second, .val (.long p2), .second, .val (.long p3), .second, .val (.long p4), .second, .val (.ref b)] [(.long p3), (.ref b)])) rfl (by rw [hml]; rfl) (Steps.refl _) (argsL := [(.long p3)]) (rest := []) (lenOf pd_3 rfl) rfl (by show 2 * 0 + _ ≤ _; exact Nat.le_of_eq rfl) (hb hby at_30) (fun _ _ => ⟨rfl, rfl, (by decide : 2 + 0 ≤ _), (by decide : 6 + 0 ≤ _)⟩)
    dsimp only [Pt.U, Pt.locs, Pt.cells, Pt.slots] at X70 l70 y70 z70 st70 hQ70
    subst l70 y70 z70
    obtain ⟨rfl, Nq70, K70, F_elements_b, F_size_b, V_r0⟩ := hQ70
    have N70 := Fr.app N68 Nq70
    have Sz70 := Nat.le_trans Sz68 K70.1
    have E_b := E_b.keep K70
    have R71 : ∀ t, Steps p.tables e below (T70.setTop (mkF m 37 #[.val (.int p0), .val (.long p1), .second, .val (.long p2), .second, .val (.long p3), .second, .val (.long p4), .second, .val (.ref b)] [(.long p4), (.ref b)])) t → Steps p.tables e below (s₁.setTop (entryFrame m #[(.int p0), (.long p1), (.long p2), (.long p3), (.long p4)] maxLocals)) t := by
      intro t k
      refine R69 t ?_
      show Steps p.tables e below (T68.setTop (mkF m 30 #[.val (.int p0), .val (.long p1), .second, .val (.long p2), .second, .val (.long p3), .second, .val (.long p4), .second, .val (.ref b)] [(.long p3), (.ref b)])) _
      refine st70.trans ?_
      show Steps p.tables e below (T70.setTop (mkF m 33 #[.val (.int p0), .val (.long p1), .second, .val (.long p2), .second, .val (.long p3), .second, .val (.long p4), .second, .val (.ref b)] [])) _
      refine XS.aload X70.here hx rfl (hb hby at_33) rfl rfl ?_
      show Steps p.tables e below (T70.setTop (mkF m 35 #[.val (.int p0), .val (.long p1), .second, .val (.long p2), .second, .val (.long p3), .second, .val (.long p4), .second, .val (.ref b)] [(.ref b)])) _
      refine XS.lload X70.here hx rfl (hb hby at_35) rfl ?_
      exact k
    have lt_b := E_b.lt
    obtain ⟨cq72, kq72, q72a, q72b, q72c⟩ := isOf hZ rfl E_b
    obtain ⟨_, _, ⟨T72, L72, k72, n72⟩, -, X72, ⟨Lc72, hQ72, l72, y72, z72⟩, st72⟩ := X70.virtualBack hx (y := (⟨"com/example/accesstrail/accesstrail/store/AppendOnlyLongs", "add", "(J)V"⟩ : MethodName)) (z := (⟨"com/example/accesstrail/accesstrail/store/AppendOnlyLongs", "add", "(J)V"⟩ : MethodName)) hown (mvT hZ (hw _ (List.mem_of_getElem? (i := 12) rfl))) (mvT hZ (hw _ (List.mem_of_getElem? (i := 13) rfl))) (notFace_of_selects (args := #[]) (mvT hZ (hw _ (List.mem_of_getElem? (i := 15) rfl)))) (mvT hZ (hw _ (List.mem_of_getElem? (i := 15) rfl))) (mvT hZ (hw _ (List.mem_of_getElem? (i := 14) rfl))) (by decide) (backOf (W := 0) (rm3n4_3 l Z a0 hw [] b p4 r0 kc64 p1 p2 p3 (0 : Int64) T70.heap n0 Sz70 E_b F_elements_b F_size_b V_r0 ge_b ge_r0 ne_r0_b) hZ (hw _ (List.mem_of_getElem? (i := 16) rfl)) (hw _ (List.mem_of_getElem? (i := 2) rfl)) (by decide) (by decide)) q72a q72c (g := (mkF m 37 #[.val (.int p0), .val (.long p1), .second, .val (.long p2), .second, .val (.long p3), .second, .val (.long p4), .second, .val (.ref b)] [(.long p4), (.ref b)])) rfl (by rw [hml]; rfl) (Steps.refl _) (argsL := [(.long p4)]) (rest := []) (lenOf pd_3 rfl) rfl (by show 2 * 0 + _ ≤ _; exact Nat.le_of_eq rfl) (hb hby at_37) (fun _ _ => ⟨rfl, rfl, (by decide : 2 + 0 ≤ _), (by decide : 6 + 0 ≤ _)⟩)
    dsimp only [Pt.U, Pt.locs, Pt.cells, Pt.slots] at X72 l72 y72 z72 st72 hQ72
    subst l72 y72 z72
    obtain ⟨rfl, Nq72, K72, F_elements_b, F_size_b, V_r0⟩ := hQ72
    have N72 := Fr.app N70 Nq72
    have Sz72 := Nat.le_trans Sz70 K72.1
    have E_b := E_b.keep K72
    have R73 : ∀ t, Steps p.tables e below (T72.setTop (mkF m 42 #[.val (.int p0), .val (.long p1), .second, .val (.long p2), .second, .val (.long p3), .second, .val (.long p4), .second, .val (.ref b)] [(.ref b)])) t → Steps p.tables e below (s₁.setTop (entryFrame m #[(.int p0), (.long p1), (.long p2), (.long p3), (.long p4)] maxLocals)) t := by
      intro t k
      refine R71 t ?_
      show Steps p.tables e below (T70.setTop (mkF m 37 #[.val (.int p0), .val (.long p1), .second, .val (.long p2), .second, .val (.long p3), .second, .val (.long p4), .second, .val (.ref b)] [(.long p4), (.ref b)])) _
      refine st72.trans ?_
      show Steps p.tables e below (T72.setTop (mkF m 40 #[.val (.int p0), .val (.long p1), .second, .val (.long p2), .second, .val (.long p3), .second, .val (.long p4), .second, .val (.ref b)] [])) _
      refine XS.aload X72.here hx rfl (hb hby at_40) rfl rfl ?_
      exact k
    obtain ⟨cq74, kq74, q74a, q74b, q74c⟩ := isOf hZ rfl E_b
    obtain ⟨_, _, ⟨T74, L74, k74, n74⟩, -, X74, ⟨Lc74, hQ74, l74, y74, z74⟩, st74⟩ := X72.virtualBack hx (y := (⟨"com/example/accesstrail/accesstrail/store/AppendOnlyLongs", "size", "()I"⟩ : MethodName)) (z := (⟨"com/example/accesstrail/accesstrail/store/AppendOnlyLongs", "size", "()I"⟩ : MethodName)) hown (mvT hZ (hw _ (List.mem_of_getElem? (i := 31) rfl))) (mvT hZ (hw _ (List.mem_of_getElem? (i := 32) rfl))) (notFace_of_selects (args := #[]) (mvT hZ (hw _ (List.mem_of_getElem? (i := 34) rfl)))) (mvT hZ (hw _ (List.mem_of_getElem? (i := 34) rfl))) (mvT hZ (hw _ (List.mem_of_getElem? (i := 33) rfl))) (by decide) (backOf (W := 0) (rm6 l Z a0 hw [] b (4 : Int32) T72.heap n0 Sz72 F_size_b) hZ (hw _ (List.mem_of_getElem? (i := 35) rfl)) (hw _ (List.mem_of_getElem? (i := 2) rfl)) (by decide) (by decide)) q74a q74c (g := (mkF m 42 #[.val (.int p0), .val (.long p1), .second, .val (.long p2), .second, .val (.long p3), .second, .val (.long p4), .second, .val (.ref b)] [(.ref b)])) rfl (by rw [hml]; rfl) (Steps.refl _) (argsL := []) (rest := []) (lenOf pd_4 rfl) rfl (by show 2 * 0 + _ ≤ _; exact Nat.le_of_eq rfl) (hb hby at_42) (fun _ _ => ⟨rfl, rfl, (by decide : 2 + 0 ≤ _), (by decide : 6 + 0 ≤ _)⟩)
    dsimp only [Pt.U, Pt.locs, Pt.cells, Pt.slots] at X74 l74 y74 z74 st74 hQ74
    subst l74 y74 z74
    obtain ⟨rfl, Nq74, eq74⟩ := hQ74
    have N74 := Fr.app N72 Nq74
    have e74 : T74.heap = T72.heap := eq74
    have R75 : ∀ t, Steps p.tables e below (T74.setTop (mkF m 52 #[.val (.int p0), .val (.long p1), .second, .val (.long p2), .second, .val (.long p3), .second, .val (.long p4), .second, .val (.ref b)] [(.int (0 : Int32)), (.ref b)])) t → Steps p.tables e below (s₁.setTop (entryFrame m #[(.int p0), (.long p1), (.long p2), (.long p3), (.long p4)] maxLocals)) t := by
      intro t k
      refine R73 t ?_
      show Steps p.tables e below (T72.setTop (mkF m 42 #[.val (.int p0), .val (.long p1), .second, .val (.long p2), .second, .val (.long p3), .second, .val (.long p4), .second, .val (.ref b)] [(.ref b)])) _
      refine st74.trans ?_
      show Steps p.tables e below (T74.setTop (mkF m 45 #[.val (.int p0), .val (.long p1), .second, .val (.long p2), .second, .val (.long p3), .second, .val (.long p4), .second, .val (.ref b)] [(.int (4 : Int32))])) _
      refine XS.iconst X74.here hx rfl (hb hby at_45) ?_
      show Steps p.tables e below (T74.setTop (mkF m 46 #[.val (.int p0), .val (.long p1), .second, .val (.long p2), .second, .val (.long p3), .second, .val (.long p4), .second, .val (.ref b)] [(.int (4 : Int32)), (.int (4 : Int32))])) _
      refine XS.icmpNo X74.here hx rfl (hb hby at_46) rfl (teq (rfl : (4 : Int32) = 4)).2 ?_
      show Steps p.tables e below (T74.setTop (mkF m 49 #[.val (.int p0), .val (.long p1), .second, .val (.long p2), .second, .val (.long p3), .second, .val (.long p4), .second, .val (.ref b)] [])) _
      refine XS.aload X74.here hx rfl (hb hby at_49) rfl rfl ?_
      show Steps p.tables e below (T74.setTop (mkF m 51 #[.val (.int p0), .val (.long p1), .second, .val (.long p2), .second, .val (.long p3), .second, .val (.long p4), .second, .val (.ref b)] [(.ref b)])) _
      refine XS.iconst X74.here hx rfl (hb hby at_51) ?_
      exact k
    obtain ⟨cq76, kq76, q76a, q76b, q76c⟩ := isOf hZ e74 E_b
    obtain ⟨_, _, ⟨T76, L76, k76, n76⟩, -, X76, ⟨Lc76, hQ76, l76, y76, z76⟩, st76⟩ := X74.virtualBack hx (y := (⟨"com/example/accesstrail/accesstrail/store/AppendOnlyLongs", "get", "(I)J"⟩ : MethodName)) (z := (⟨"com/example/accesstrail/accesstrail/store/AppendOnlyLongs", "get", "(I)J"⟩ : MethodName)) hown (mvT hZ (hw _ (List.mem_of_getElem? (i := 36) rfl))) (mvT hZ (hw _ (List.mem_of_getElem? (i := 37) rfl))) (notFace_of_selects (args := #[]) (mvT hZ (hw _ (List.mem_of_getElem? (i := 39) rfl)))) (mvT hZ (hw _ (List.mem_of_getElem? (i := 39) rfl))) (mvT hZ (hw _ (List.mem_of_getElem? (i := 38) rfl))) (by decide) (backOf (W := 0) (rm7n4_0 l Z a0 hw [] b (0 : Int32) r0 kc64 p1 p2 p3 p4 T72.heap n0 Sz72 F_elements_b V_r0 rfl) hZ (hw _ (List.mem_of_getElem? (i := 40) rfl)) (hw _ (List.mem_of_getElem? (i := 2) rfl)) (by decide) (by decide)) q76a q76c (g := (mkF m 52 #[.val (.int p0), .val (.long p1), .second, .val (.long p2), .second, .val (.long p3), .second, .val (.long p4), .second, .val (.ref b)] [(.int (0 : Int32)), (.ref b)])) rfl (by rw [hml]; rfl) (Steps.refl _) (argsL := [(.int (0 : Int32))]) (rest := []) (lenOf pd_5 rfl) rfl (by show 2 * 0 + _ ≤ _; exact Nat.le_of_eq rfl) (hb hby at_52) (fun _ _ => ⟨rfl, e74, (by decide : 2 + 0 ≤ _), (by decide : 6 + 0 ≤ _)⟩)
    dsimp only [Pt.U, Pt.locs, Pt.cells, Pt.slots] at X76 l76 y76 z76 st76 hQ76
    subst l76 y76 z76
    obtain ⟨rfl, Nq76, eq76⟩ := hQ76
    have N76 := Fr.app N74 Nq76
    have e76 : T76.heap = T72.heap := eq76
    have R77 : ∀ t, Steps p.tables e below (T76.setTop (mkF m 63 #[.val (.int p0), .val (.long p1), .second, .val (.long p2), .second, .val (.long p3), .second, .val (.long p4), .second, .val (.ref b)] [(.int (1 : Int32)), (.ref b)])) t → Steps p.tables e below (s₁.setTop (entryFrame m #[(.int p0), (.long p1), (.long p2), (.long p3), (.long p4)] maxLocals)) t := by
      intro t k
      refine R75 t ?_
      show Steps p.tables e below (T74.setTop (mkF m 52 #[.val (.int p0), .val (.long p1), .second, .val (.long p2), .second, .val (.long p3), .second, .val (.long p4), .second, .val (.ref b)] [(.int (0 : Int32)), (.ref b)])) _
      refine st76.trans ?_
      show Steps p.tables e below (T76.setTop (mkF m 55 #[.val (.int p0), .val (.long p1), .second, .val (.long p2), .second, .val (.long p3), .second, .val (.long p4), .second, .val (.ref b)] [(.long p1)])) _
      refine XS.lloadN X76.here hx rfl (hb hby at_55) rfl ?_
      show Steps p.tables e below (T76.setTop (mkF m 56 #[.val (.int p0), .val (.long p1), .second, .val (.long p2), .second, .val (.long p3), .second, .val (.long p4), .second, .val (.ref b)] [(.long p1), (.long p1)])) _
      refine XS.lcmp X76.here hx rfl (hb hby at_56) rfl ?_
      show Steps p.tables e below (T76.setTop (mkF m 57 #[.val (.int p0), .val (.long p1), .second, .val (.long p2), .second, .val (.long p3), .second, .val (.long p4), .second, .val (.ref b)] [(.int (lcmpW p1 p1))])) _
      refine XS.ifNo X76.here hx rfl (hb hby at_57) rfl ((if0 _ _).trans (teq ((lw_eq _ _).mpr rfl)).2) ?_
      show Steps p.tables e below (T76.setTop (mkF m 60 #[.val (.int p0), .val (.long p1), .second, .val (.long p2), .second, .val (.long p3), .second, .val (.long p4), .second, .val (.ref b)] [])) _
      refine XS.aload X76.here hx rfl (hb hby at_60) rfl rfl ?_
      show Steps p.tables e below (T76.setTop (mkF m 62 #[.val (.int p0), .val (.long p1), .second, .val (.long p2), .second, .val (.long p3), .second, .val (.long p4), .second, .val (.ref b)] [(.ref b)])) _
      refine XS.iconst X76.here hx rfl (hb hby at_62) ?_
      exact k
    obtain ⟨cq78, kq78, q78a, q78b, q78c⟩ := isOf hZ e76 E_b
    obtain ⟨_, _, ⟨T78, L78, k78, n78⟩, -, X78, ⟨Lc78, hQ78, l78, y78, z78⟩, st78⟩ := X76.virtualBack hx (y := (⟨"com/example/accesstrail/accesstrail/store/AppendOnlyLongs", "get", "(I)J"⟩ : MethodName)) (z := (⟨"com/example/accesstrail/accesstrail/store/AppendOnlyLongs", "get", "(I)J"⟩ : MethodName)) hown (mvT hZ (hw _ (List.mem_of_getElem? (i := 36) rfl))) (mvT hZ (hw _ (List.mem_of_getElem? (i := 37) rfl))) (notFace_of_selects (args := #[]) (mvT hZ (hw _ (List.mem_of_getElem? (i := 39) rfl)))) (mvT hZ (hw _ (List.mem_of_getElem? (i := 39) rfl))) (mvT hZ (hw _ (List.mem_of_getElem? (i := 38) rfl))) (by decide) (backOf (W := 0) (rm7n4_1 l Z a0 hw [] b (1 : Int32) r0 kc64 p1 p2 p3 p4 T72.heap n0 Sz72 F_elements_b V_r0 rfl) hZ (hw _ (List.mem_of_getElem? (i := 40) rfl)) (hw _ (List.mem_of_getElem? (i := 2) rfl)) (by decide) (by decide)) q78a q78c (g := (mkF m 63 #[.val (.int p0), .val (.long p1), .second, .val (.long p2), .second, .val (.long p3), .second, .val (.long p4), .second, .val (.ref b)] [(.int (1 : Int32)), (.ref b)])) rfl (by rw [hml]; rfl) (Steps.refl _) (argsL := [(.int (1 : Int32))]) (rest := []) (lenOf pd_5 rfl) rfl (by show 2 * 0 + _ ≤ _; exact Nat.le_of_eq rfl) (hb hby at_63) (fun _ _ => ⟨rfl, e76, (by decide : 2 + 0 ≤ _), (by decide : 6 + 0 ≤ _)⟩)
    dsimp only [Pt.U, Pt.locs, Pt.cells, Pt.slots] at X78 l78 y78 z78 st78 hQ78
    subst l78 y78 z78
    obtain ⟨rfl, Nq78, eq78⟩ := hQ78
    have N78 := Fr.app N76 Nq78
    have e78 : T78.heap = T72.heap := eq78
    have R79 : ∀ t, Steps p.tables e below (T78.setTop (mkF m 74 #[.val (.int p0), .val (.long p1), .second, .val (.long p2), .second, .val (.long p3), .second, .val (.long p4), .second, .val (.ref b)] [(.int (2 : Int32)), (.ref b)])) t → Steps p.tables e below (s₁.setTop (entryFrame m #[(.int p0), (.long p1), (.long p2), (.long p3), (.long p4)] maxLocals)) t := by
      intro t k
      refine R77 t ?_
      show Steps p.tables e below (T76.setTop (mkF m 63 #[.val (.int p0), .val (.long p1), .second, .val (.long p2), .second, .val (.long p3), .second, .val (.long p4), .second, .val (.ref b)] [(.int (1 : Int32)), (.ref b)])) _
      refine st78.trans ?_
      show Steps p.tables e below (T78.setTop (mkF m 66 #[.val (.int p0), .val (.long p1), .second, .val (.long p2), .second, .val (.long p3), .second, .val (.long p4), .second, .val (.ref b)] [(.long p2)])) _
      refine XS.lloadN X78.here hx rfl (hb hby at_66) rfl ?_
      show Steps p.tables e below (T78.setTop (mkF m 67 #[.val (.int p0), .val (.long p1), .second, .val (.long p2), .second, .val (.long p3), .second, .val (.long p4), .second, .val (.ref b)] [(.long p2), (.long p2)])) _
      refine XS.lcmp X78.here hx rfl (hb hby at_67) rfl ?_
      show Steps p.tables e below (T78.setTop (mkF m 68 #[.val (.int p0), .val (.long p1), .second, .val (.long p2), .second, .val (.long p3), .second, .val (.long p4), .second, .val (.ref b)] [(.int (lcmpW p2 p2))])) _
      refine XS.ifNo X78.here hx rfl (hb hby at_68) rfl ((if0 _ _).trans (teq ((lw_eq _ _).mpr rfl)).2) ?_
      show Steps p.tables e below (T78.setTop (mkF m 71 #[.val (.int p0), .val (.long p1), .second, .val (.long p2), .second, .val (.long p3), .second, .val (.long p4), .second, .val (.ref b)] [])) _
      refine XS.aload X78.here hx rfl (hb hby at_71) rfl rfl ?_
      show Steps p.tables e below (T78.setTop (mkF m 73 #[.val (.int p0), .val (.long p1), .second, .val (.long p2), .second, .val (.long p3), .second, .val (.long p4), .second, .val (.ref b)] [(.ref b)])) _
      refine XS.iconst X78.here hx rfl (hb hby at_73) ?_
      exact k
    obtain ⟨cq80, kq80, q80a, q80b, q80c⟩ := isOf hZ e78 E_b
    obtain ⟨_, _, ⟨T80, L80, k80, n80⟩, -, X80, ⟨Lc80, hQ80, l80, y80, z80⟩, st80⟩ := X78.virtualBack hx (y := (⟨"com/example/accesstrail/accesstrail/store/AppendOnlyLongs", "get", "(I)J"⟩ : MethodName)) (z := (⟨"com/example/accesstrail/accesstrail/store/AppendOnlyLongs", "get", "(I)J"⟩ : MethodName)) hown (mvT hZ (hw _ (List.mem_of_getElem? (i := 36) rfl))) (mvT hZ (hw _ (List.mem_of_getElem? (i := 37) rfl))) (notFace_of_selects (args := #[]) (mvT hZ (hw _ (List.mem_of_getElem? (i := 39) rfl)))) (mvT hZ (hw _ (List.mem_of_getElem? (i := 39) rfl))) (mvT hZ (hw _ (List.mem_of_getElem? (i := 38) rfl))) (by decide) (backOf (W := 0) (rm7n4_2 l Z a0 hw [] b (2 : Int32) r0 kc64 p1 p2 p3 p4 T72.heap n0 Sz72 F_elements_b V_r0 rfl) hZ (hw _ (List.mem_of_getElem? (i := 40) rfl)) (hw _ (List.mem_of_getElem? (i := 2) rfl)) (by decide) (by decide)) q80a q80c (g := (mkF m 74 #[.val (.int p0), .val (.long p1), .second, .val (.long p2), .second, .val (.long p3), .second, .val (.long p4), .second, .val (.ref b)] [(.int (2 : Int32)), (.ref b)])) rfl (by rw [hml]; rfl) (Steps.refl _) (argsL := [(.int (2 : Int32))]) (rest := []) (lenOf pd_5 rfl) rfl (by show 2 * 0 + _ ≤ _; exact Nat.le_of_eq rfl) (hb hby at_74) (fun _ _ => ⟨rfl, e78, (by decide : 2 + 0 ≤ _), (by decide : 6 + 0 ≤ _)⟩)
    dsimp only [Pt.U, Pt.locs, Pt.cells, Pt.slots] at X80 l80 y80 z80 st80 hQ80
    subst l80 y80 z80
    obtain ⟨rfl, Nq80, eq80⟩ := hQ80
    have N80 := Fr.app N78 Nq80
    have e80 : T80.heap = T72.heap := eq80
    have R81 : ∀ t, Steps p.tables e below (T80.setTop (mkF m 86 #[.val (.int p0), .val (.long p1), .second, .val (.long p2), .second, .val (.long p3), .second, .val (.long p4), .second, .val (.ref b)] [(.int (3 : Int32)), (.ref b)])) t → Steps p.tables e below (s₁.setTop (entryFrame m #[(.int p0), (.long p1), (.long p2), (.long p3), (.long p4)] maxLocals)) t := by
      intro t k
      refine R79 t ?_
      show Steps p.tables e below (T78.setTop (mkF m 74 #[.val (.int p0), .val (.long p1), .second, .val (.long p2), .second, .val (.long p3), .second, .val (.long p4), .second, .val (.ref b)] [(.int (2 : Int32)), (.ref b)])) _
      refine st80.trans ?_
      show Steps p.tables e below (T80.setTop (mkF m 77 #[.val (.int p0), .val (.long p1), .second, .val (.long p2), .second, .val (.long p3), .second, .val (.long p4), .second, .val (.ref b)] [(.long p3)])) _
      refine XS.lload X80.here hx rfl (hb hby at_77) rfl ?_
      show Steps p.tables e below (T80.setTop (mkF m 79 #[.val (.int p0), .val (.long p1), .second, .val (.long p2), .second, .val (.long p3), .second, .val (.long p4), .second, .val (.ref b)] [(.long p3), (.long p3)])) _
      refine XS.lcmp X80.here hx rfl (hb hby at_79) rfl ?_
      show Steps p.tables e below (T80.setTop (mkF m 80 #[.val (.int p0), .val (.long p1), .second, .val (.long p2), .second, .val (.long p3), .second, .val (.long p4), .second, .val (.ref b)] [(.int (lcmpW p3 p3))])) _
      refine XS.ifNo X80.here hx rfl (hb hby at_80) rfl ((if0 _ _).trans (teq ((lw_eq _ _).mpr rfl)).2) ?_
      show Steps p.tables e below (T80.setTop (mkF m 83 #[.val (.int p0), .val (.long p1), .second, .val (.long p2), .second, .val (.long p3), .second, .val (.long p4), .second, .val (.ref b)] [])) _
      refine XS.aload X80.here hx rfl (hb hby at_83) rfl rfl ?_
      show Steps p.tables e below (T80.setTop (mkF m 85 #[.val (.int p0), .val (.long p1), .second, .val (.long p2), .second, .val (.long p3), .second, .val (.long p4), .second, .val (.ref b)] [(.ref b)])) _
      refine XS.iconst X80.here hx rfl (hb hby at_85) ?_
      exact k
    obtain ⟨cq82, kq82, q82a, q82b, q82c⟩ := isOf hZ e80 E_b
    obtain ⟨_, _, ⟨T82, L82, k82, n82⟩, -, X82, ⟨Lc82, hQ82, l82, y82, z82⟩, st82⟩ := X80.virtualBack hx (y := (⟨"com/example/accesstrail/accesstrail/store/AppendOnlyLongs", "get", "(I)J"⟩ : MethodName)) (z := (⟨"com/example/accesstrail/accesstrail/store/AppendOnlyLongs", "get", "(I)J"⟩ : MethodName)) hown (mvT hZ (hw _ (List.mem_of_getElem? (i := 36) rfl))) (mvT hZ (hw _ (List.mem_of_getElem? (i := 37) rfl))) (notFace_of_selects (args := #[]) (mvT hZ (hw _ (List.mem_of_getElem? (i := 39) rfl)))) (mvT hZ (hw _ (List.mem_of_getElem? (i := 39) rfl))) (mvT hZ (hw _ (List.mem_of_getElem? (i := 38) rfl))) (by decide) (backOf (W := 0) (rm7n4_3 l Z a0 hw [] b (3 : Int32) r0 kc64 p1 p2 p3 p4 T72.heap n0 Sz72 F_elements_b V_r0 rfl) hZ (hw _ (List.mem_of_getElem? (i := 40) rfl)) (hw _ (List.mem_of_getElem? (i := 2) rfl)) (by decide) (by decide)) q82a q82c (g := (mkF m 86 #[.val (.int p0), .val (.long p1), .second, .val (.long p2), .second, .val (.long p3), .second, .val (.long p4), .second, .val (.ref b)] [(.int (3 : Int32)), (.ref b)])) rfl (by rw [hml]; rfl) (Steps.refl _) (argsL := [(.int (3 : Int32))]) (rest := []) (lenOf pd_5 rfl) rfl (by show 2 * 0 + _ ≤ _; exact Nat.le_of_eq rfl) (hb hby at_86) (fun _ _ => ⟨rfl, e80, (by decide : 2 + 0 ≤ _), (by decide : 6 + 0 ≤ _)⟩)
    dsimp only [Pt.U, Pt.locs, Pt.cells, Pt.slots] at X82 l82 y82 z82 st82 hQ82
    subst l82 y82 z82
    obtain ⟨rfl, Nq82, eq82⟩ := hQ82
    have N82 := Fr.app N80 Nq82
    have e82 : T82.heap = T72.heap := eq82
    have R83 : ∀ t, Steps p.tables e below (T82.setTop (mkF m 100 #[.val (.int p0), .val (.long p1), .second, .val (.long p2), .second, .val (.long p3), .second, .val (.long p4), .second, .val (.ref b)] [(.int (1 : Int32))])) t → Steps p.tables e below (s₁.setTop (entryFrame m #[(.int p0), (.long p1), (.long p2), (.long p3), (.long p4)] maxLocals)) t := by
      intro t k
      refine R81 t ?_
      show Steps p.tables e below (T80.setTop (mkF m 86 #[.val (.int p0), .val (.long p1), .second, .val (.long p2), .second, .val (.long p3), .second, .val (.long p4), .second, .val (.ref b)] [(.int (3 : Int32)), (.ref b)])) _
      refine st82.trans ?_
      show Steps p.tables e below (T82.setTop (mkF m 89 #[.val (.int p0), .val (.long p1), .second, .val (.long p2), .second, .val (.long p3), .second, .val (.long p4), .second, .val (.ref b)] [(.long p4)])) _
      refine XS.lload X82.here hx rfl (hb hby at_89) rfl ?_
      show Steps p.tables e below (T82.setTop (mkF m 91 #[.val (.int p0), .val (.long p1), .second, .val (.long p2), .second, .val (.long p3), .second, .val (.long p4), .second, .val (.ref b)] [(.long p4), (.long p4)])) _
      refine XS.lcmp X82.here hx rfl (hb hby at_91) rfl ?_
      show Steps p.tables e below (T82.setTop (mkF m 92 #[.val (.int p0), .val (.long p1), .second, .val (.long p2), .second, .val (.long p3), .second, .val (.long p4), .second, .val (.ref b)] [(.int (lcmpW p4 p4))])) _
      refine XS.ifNo X82.here hx rfl (hb hby at_92) rfl ((if0 _ _).trans (teq ((lw_eq _ _).mpr rfl)).2) ?_
      show Steps p.tables e below (T82.setTop (mkF m 95 #[.val (.int p0), .val (.long p1), .second, .val (.long p2), .second, .val (.long p3), .second, .val (.long p4), .second, .val (.ref b)] [])) _
      refine XS.iconst X82.here hx rfl (hb hby at_95) ?_
      show Steps p.tables e below (T82.setTop (mkF m 96 #[.val (.int p0), .val (.long p1), .second, .val (.long p2), .second, .val (.long p3), .second, .val (.long p4), .second, .val (.ref b)] [(.int (1 : Int32))])) _
      refine XS.goto X82.here hx rfl (pc0 := 96) (pc' := 100) rfl (hb hby at_96) (by decide) (by decide) ?_
      exact k
    obtain ⟨fs, hr, hrun, hended, hW, hsame⟩ := X82.leave (v := some (.int (1 : Int32))) (fun h => by rw [Bd.returns] at h; cases h)
    refine ⟨_, _, R83 _ ?_, hrun, hended, _, _, rfl, ?_, ⟨_, rfl⟩, hW, hsame.mono (by decide) (by decide)⟩
    · exact retN X82 hx (t := .boolean) Bd.returns (by simp) (hb hby at_100) hr
    · show Q0 Z p0 p1 p2 p3 p4 h0 n0 _ T82.heap _
      rw [e82]
      exact ⟨rfl, N82⟩
set_option maxRecDepth 65536 in
set_option maxHeartbeats 40000000 in
theorem comes_1 {Post : Tables → Env → Array Value → State → Outcome → State → Prop} (hpost : ∀ tb e args s v u, (limb_1_1.after args s (.returned v) u = true ∧ limb_1_2.after args s (.returned v) u = true ∧ True) → FrameEnd s (.returned v) u (Jvm.fieldLocs frame_1_writes args s ++ Jvm.arrayLocs frame_1_arrays args s ++ Jvm.staticLocs frame_1_statics s) 16 128 → Post tb e args s (.returned v) u) :
    ArmFor flags0 classFile x code maxLocals ret World_1 tables_1 room_1 Calls_1 rest_1 Pre_1 Post := by
  intro l hfl _ _ p e ha hc hk s m args below hf hA hF happ hP
  obtain ⟨hcalls, hrest, hpre⟩ := hP
  obtain ⟨-, -, -, hnamed, -, -, -, hat⟩ := (Spec.applies_iff hf).mp happ
  obtain ⟨hg, hn⟩ := and_e (Cond.before_iff.mp (show (Jvm.Cond.and given_1 narrow_1).before args s = true from hpre))
  obtain ⟨hcount, hg0⟩ := and_e hg
  obtain ⟨hi0, hg1⟩ := and_e hg0
  obtain ⟨hi1, hg2⟩ := and_e hg1
  obtain ⟨hi2, hg3⟩ := and_e hg2
  obtain ⟨hi3, hg4⟩ := and_e hg3
  have hi4 := hg4
  obtain ⟨w0, w1, w2, w3, w4, rfl⟩ : ∃ w0 w1 w2 w3 w4 : Value, args = #[w0, w1, w2, w3, w4] := by
    have hs : args.size = 5 := by simpa [Cond.value, given_1] using hcount
    obtain ⟨L⟩ := args
    match L, hs with
    | [w0, w1, w2, w3, w4], _ => exact ⟨w0, w1, w2, w3, w4, rfl⟩
  have hw := fun d (hd : d ∈ tables_1) => atoms_spec (ws := Jvm.Cond.code x code maxLocals ret :: tables_1) hat d (List.mem_cons_of_mem _ hd)
  have hfit : Fit s := fun {y c} hc i hi => by
    obtain ⟨ha, rfl⟩ := Array.getElem?_eq_some_iff.mp hc
    have q := List.all_eq_true.mp ((Array.all_eq_true_iff_forall_mem.mp hF) _ (Array.getElem_mem ha)) i (List.mem_range.mpr hi)
    simpa [Array.getElem?_eq_getElem hi] using q
  obtain ⟨i0, ei0⟩ := is_v hi0
  obtain rfl : w0 = (.int i0) := Option.some.inj ei0
  obtain ⟨i1, ei1⟩ := isL_v hi1
  obtain rfl : w1 = (.long i1) := Option.some.inj ei1
  obtain ⟨i2, ei2⟩ := isL_v hi2
  obtain rfl : w2 = (.long i2) := Option.some.inj ei2
  obtain ⟨i3, ei3⟩ := isL_v hi3
  obtain rfl : w3 = (.long i3) := Option.some.inj ei3
  obtain ⟨i4, ei4⟩ := isL_v hi4
  obtain rfl : w4 = (.long i4) := Option.some.inj ei4
  obtain ⟨n, o, h1, h2, h3, _, L, rfl, ⟨rfl, N⟩, hq⟩ := rm0 l s _ hw tables_1 i0 i1 i2 i3 i4 s.heap s.heap.size (Nat.le_refl _) p e ha hc hk s m _ below hf ((Spec.applies_iff_loose hf).mp happ).1 ⟨rfl, State.Warmed39.refl s, rfl⟩ trivial
  refine ⟨n, _, h1, h2, h3, hpost _ _ _ _ _ _ ⟨Cond.after_iff.mpr rfl, Cond.after_iff.mpr (eq_i res_at (Term.int_eval (1)) rfl), trivial⟩ ⟨hq.1, hq.2.1, (hq.2.2.sift fun y hy => Or.inr (N y hy)).mono (by decide) (by decide)⟩⟩
theorem main_1_1 : Claimed_1_1 := comes_1 fun _ _ _ _ _ _ h hF => ⟨h.1, hF⟩
theorem main_1_2 : Claimed_1_2 := comes_1 fun _ _ _ _ _ _ h hF => ⟨h.2.1, hF⟩
end Jvm.Pilot.@@N@@
namespace Jvm.Pilot.@@N@@
open Jvm Jvm.ClassFile Sem Op Lib Jvm.Free Jvm.Stand Jvm.Pilot.@@N@@.Jvm.D
/-! MADE BY PROGRAM (witnessworld.py) out of the Statement's table words and the real class files: 14 classes; the members and pool entries that the words name. The judged class is class 1, her method 1. -/
namespace start1
open Jvm.ClassFile
def u (s : String) : CpInfo := .utf8 (stringToUtf16 s)
/-- a pool by its gaps: so many unusable entries, then the entry; so many at the end -/
def gap : Nat → List CpInfo → List CpInfo
  | 0, r => r
  | n + 1, r => .unusable :: gap n r
def poolList (es : List (Nat × CpInfo)) (last : Nat) : List CpInfo := es.foldr (fun e r => gap e.1 (e.2 :: r)) (gap last [])
def pool (es : List (Nat × CpInfo)) (last : Nat) : Array CpInfo := ⟨poolList es last⟩
def fileOf (pool : Array CpInfo) (this : Nat) (attrs : Array Attribute := #[]) (ms : Array MethodInfo := #[]) (fl : Nat := 33) (sup : Nat := 0) (ifs : Array Nat := #[]) (fds : Array FieldInfo := #[]) : ClassFile where
  minorVersion := 0
  majorVersion := 65
  constantPool := pool
  accessFlags := fl
  thisClass := this
  superClass := sup
  interfaces := ifs
  fields := fds
  methods := ms
  attributes := attrs
def plain (name : String) (sup : Option ClassId) : Class where
  name := name
  kind := .ordinary
  loader := none
  accessFlags := 33
  super := sup
  interfaces := #[]
  cf := none
  fields := #[]
  methods := #[]
  instanceTypes := #[]
  staticTypes := #[]
  resolved := #[]
  callSites := []
  init := .initialized
  statics := none
  mirror := none

def pool0 : Array CpInfo := pool [(5, u "<init>"), (0, u "()V"), (1, .class_ 10), (1, u "java/lang/Object")] 113

def k0c0 : Code := { maxStack := 0, maxLocals := 1, code := object_method_1_code, exceptionTable := #[], attributes := #[] }
def k0m0 : Method := { name := "<init>", desc := "()V", sig := { parameters := [], returnType := none }, accessFlags := 1, code := some k0c0 }
/-- java/lang/Object -/
def k0 : Class := { plain "java/lang/Object" none with
  accessFlags := 33
  interfaces := #[]
  cf := some (fileOf pool0 8 #[] #[{ accessFlags := 1, nameIndex := 5, descriptorIndex := 6, attributes := #[] }] 33 0 #[] #[])
  fields := #[]
  methods := #[k0m0]
  instanceTypes := #[]
  staticTypes := #[]
  resolved := Array.replicate 124 none
  statics := none }

def pool1 : Array CpInfo := pool [(2, .class_ 4), (1, u "java/lang/Object"), (0, u "<init>"), (0, u "()V"), (0, .class_ 8), (0, u "com/example/accesstrail/accesstrail/store/AppendOnlyLongs"), (0, .methodref 7 10), (0, .nameAndType 5 11), (0, u "(I)V"), (0, .methodref 7 13), (0, .nameAndType 14 15), (0, u "add"), (0, u "(J)V"), (0, .methodref 7 17), (0, .nameAndType 18 19), (0, u "size"), (0, u "()I"), (0, .methodref 7 21), (0, .nameAndType 22 23), (0, u "get"), (0, u "(I)J"), (0, .class_ 25), (0, u "com/example/accesstrail/accesstrail/store/AppendOnlyLongsAddPinLaw"), (2, u "law"), (0, u "(IJJJJ)Z")] 3

def k1m0 : Method := { name := "<init>", desc := "()V", sig := { parameters := [], returnType := none }, accessFlags := 1, code := none }
def k1c1 : Code := { maxStack := 4, maxLocals := 10, code := code, exceptionTable := #[], attributes := #[] }
def k1m1 : Method := { name := "law", desc := "(IJJJJ)Z", sig := { parameters := [.int, .long, .long, .long, .long], returnType := some .boolean }, accessFlags := 9, code := some k1c1 }
/-- com/example/accesstrail/accesstrail/store/AppendOnlyLongsAddPinLaw -/
def k1 : Class := { plain "com/example/accesstrail/accesstrail/store/AppendOnlyLongsAddPinLaw" (some 0) with
  accessFlags := 49
  interfaces := #[]
  cf := some (fileOf pool1 24 #[] #[{ accessFlags := 1, nameIndex := 5, descriptorIndex := 6, attributes := #[] }, { accessFlags := 9, nameIndex := 28, descriptorIndex := 29, attributes := #[] }] 49 2 #[] #[])
  fields := #[]
  methods := #[k1m0, k1m1]
  instanceTypes := #[]
  staticTypes := #[]
  resolved := Array.replicate 33 none
  statics := none }

def pool2 : Array CpInfo := pool [(1, .methodref 2 3), (0, .class_ 4), (0, .nameAndType 5 6), (0, u "java/lang/Object"), (0, u "<init>"), (0, u "()V"), (0, .fieldref 8 9), (0, .class_ 10), (0, .nameAndType 11 12), (0, u "com/example/accesstrail/accesstrail/store/AppendOnlyLongs"), (0, u "elements"), (0, u "[J"), (0, .fieldref 8 14), (0, .nameAndType 15 16), (0, u "size"), (0, u "I"), (0, .methodref 18 19), (0, .class_ 20), (0, .nameAndType 21 22), (0, u "java/util/Arrays"), (0, u "copyOf"), (0, u "([JI)[J"), (0, u "(I)V"), (2, u "add"), (0, u "(J)V"), (2, u "()I"), (0, u "get"), (0, u "(I)J")] 2

def k2c0 : Code := { maxStack := 2, maxLocals := 2, code := prog_33_method_1_code, exceptionTable := #[], attributes := #[] }
def k2m0 : Method := { name := "<init>", desc := "(I)V", sig := { parameters := [.int], returnType := none }, accessFlags := 0, code := some k2c0 }
def k2c1 : Code := { maxStack := 4, maxLocals := 5, code := prog_33_method_2_code, exceptionTable := #[], attributes := #[] }
def k2m1 : Method := { name := "add", desc := "(J)V", sig := { parameters := [.long], returnType := none }, accessFlags := 0, code := some k2c1 }
def k2c2 : Code := { maxStack := 1, maxLocals := 1, code := prog_33_method_3_code, exceptionTable := #[], attributes := #[] }
def k2m2 : Method := { name := "size", desc := "()I", sig := { parameters := [], returnType := some .int }, accessFlags := 0, code := some k2c2 }
def k2c3 : Code := { maxStack := 2, maxLocals := 2, code := prog_33_method_4_code, exceptionTable := #[], attributes := #[] }
def k2m3 : Method := { name := "get", desc := "(I)J", sig := { parameters := [.int], returnType := some .long }, accessFlags := 0, code := some k2c3 }
/-- com/example/accesstrail/accesstrail/store/AppendOnlyLongs -/
def k2 : Class := { plain "com/example/accesstrail/accesstrail/store/AppendOnlyLongs" (some 0) with
  accessFlags := 32
  interfaces := #[]
  cf := some (fileOf pool2 8 #[] #[{ accessFlags := 0, nameIndex := 5, descriptorIndex := 23, attributes := #[] }, { accessFlags := 0, nameIndex := 26, descriptorIndex := 27, attributes := #[] }, { accessFlags := 0, nameIndex := 15, descriptorIndex := 30, attributes := #[] }, { accessFlags := 0, nameIndex := 31, descriptorIndex := 32, attributes := #[] }] 32 2 #[] #[{ accessFlags := 66, nameIndex := 11, descriptorIndex := 12, attributes := #[] }, { accessFlags := 66, nameIndex := 15, descriptorIndex := 16, attributes := #[] }])
  fields := #[{ name := "elements", type := (.array .long), accessFlags := 66, slot := 0, constantValue := 0 }, { name := "size", type := .int, accessFlags := 66, slot := 1, constantValue := 0 }]
  methods := #[k2m0, k2m1, k2m2, k2m3]
  instanceTypes := #[(.array .long), .int]
  staticTypes := #[]
  resolved := Array.replicate 35 none
  statics := none }

def pool3 : Array CpInfo := pool [(2, .class_ 4), (1, u "java/lang/Object"), (0, u "<init>"), (0, u "()V"), (7, .class_ 16), (1, u "java/util/Arrays"), (57, .class_ 76), (1, u "java/util/Arrays$NaturalOrder"), (36, .class_ 115), (1, u "java/util/Arrays$LegacyMergeSort"), (1, u "Z"), (32, .methodref 151 152), (0, .class_ 153), (0, .nameAndType 154 155), (0, u "java/lang/System"), (0, u "arraycopy"), (0, u "(Ljava/lang/Object;ILjava/lang/Object;II)V"), (146, u "copyOf"), (1, .methodref 305 306), (0, .class_ 307), (0, .nameAndType 308 309), (0, u "java/lang/Math"), (0, u "min"), (0, u "(II)I"), (65, .class_ 376), (0, u "java/util/Arrays$ArrayList"), (68, u "$assertionsDisabled"), (269, u "MIN_ARRAY_SORT_GRAN"), (0, u "I"), (2, u "INSERTIONSORT_THRESHOLD"), (152, u "([JI)[J"), (102, .class_ 976), (0, u "java/util/Arrays$ArrayItr")] 52

def k3m0 : Method := { name := "<init>", desc := "()V", sig := { parameters := [], returnType := none }, accessFlags := 2, code := none }
def k3c1 : Code := { maxStack := 6, maxLocals := 3, code := jdk_65_method_124_code, exceptionTable := #[], attributes := #[] }
def k3m1 : Method := { name := "copyOf", desc := "([JI)[J", sig := { parameters := [(.array .long), .int], returnType := some (.array .long) }, accessFlags := 9, code := some k3c1 }
/-- java/util/Arrays -/
def k3 : Class := { plain "java/util/Arrays" (some 0) with
  accessFlags := 49
  interfaces := #[]
  cf := some (fileOf pool3 14 #[.nestMembers #[975, 375, 113, 74]] #[{ accessFlags := 2, nameIndex := 5, descriptorIndex := 6, attributes := #[] }, { accessFlags := 9, nameIndex := 302, descriptorIndex := 872, attributes := #[] }] 49 2 #[] #[{ accessFlags := 26, nameIndex := 715, descriptorIndex := 716, attributes := #[] }, { accessFlags := 26, nameIndex := 719, descriptorIndex := 716, attributes := #[] }, { accessFlags := 4120, nameIndex := 445, descriptorIndex := 117, attributes := #[] }])
  fields := #[{ name := "MIN_ARRAY_SORT_GRAN", type := .int, accessFlags := 26, slot := 0, constantValue := 0 }, { name := "INSERTIONSORT_THRESHOLD", type := .int, accessFlags := 26, slot := 1, constantValue := 0 }, { name := "$assertionsDisabled", type := .boolean, accessFlags := 4120, slot := 2, constantValue := 0 }]
  methods := #[k3m0, k3m1]
  instanceTypes := #[]
  staticTypes := #[.int, .int, .boolean]
  resolved := Array.replicate 1029 none
  statics := none }

def pool4 : Array CpInfo := pool [(1, .class_ 2), (0, u "java/lang/Math"), (1, .class_ 6), (1, u "java/lang/Object"), (0, u "<init>"), (0, u "()V"), (89, .class_ 100), (1, u "java/lang/Math$RandomNumberGeneratorHolder"), (71, u "negativeZeroFloatBits"), (0, u "J"), (2, u "negativeZeroDoubleBits"), (24, u "min"), (43, u "$assertionsDisabled"), (0, u "Z"), (88, u "(II)I"), (2, u "twoToTheDoubleScaleDown"), (0, u "D"), (4, u "twoToTheDoubleScaleUp"), (9, u "E"), (3, u "PI"), (2, u "TAU"), (2, u "DEGREES_TO_RADIANS"), (0, u "RADIANS_TO_DEGREES")] 94

def k4m0 : Method := { name := "<init>", desc := "()V", sig := { parameters := [], returnType := none }, accessFlags := 2, code := none }
def k4c1 : Code := { maxStack := 2, maxLocals := 2, code := jdk_29_method_69_code, exceptionTable := #[], attributes := #[] }
def k4m1 : Method := { name := "min", desc := "(II)I", sig := { parameters := [.int, .int], returnType := some .int }, accessFlags := 9, code := some k4c1 }
/-- java/lang/Math -/
def k4 : Class := { plain "java/lang/Math" (some 0) with
  accessFlags := 49
  interfaces := #[]
  cf := some (fileOf pool4 1 #[.nestMembers #[98]] #[{ accessFlags := 2, nameIndex := 7, descriptorIndex := 8, attributes := #[] }, { accessFlags := 9, nameIndex := 201, descriptorIndex := 335, attributes := #[] }] 49 4 #[] #[{ accessFlags := 25, nameIndex := 354, descriptorIndex := 339, attributes := #[] }, { accessFlags := 25, nameIndex := 358, descriptorIndex := 339, attributes := #[] }, { accessFlags := 25, nameIndex := 361, descriptorIndex := 339, attributes := #[] }, { accessFlags := 26, nameIndex := 364, descriptorIndex := 339, attributes := #[] }, { accessFlags := 26, nameIndex := 365, descriptorIndex := 339, attributes := #[] }, { accessFlags := 26, nameIndex := 172, descriptorIndex := 173, attributes := #[] }, { accessFlags := 26, nameIndex := 176, descriptorIndex := 173, attributes := #[] }, { accessFlags := 8, nameIndex := 344, descriptorIndex := 339, attributes := #[] }, { accessFlags := 8, nameIndex := 338, descriptorIndex := 339, attributes := #[] }, { accessFlags := 4120, nameIndex := 245, descriptorIndex := 246, attributes := #[] }])
  fields := #[{ name := "E", type := .double, accessFlags := 25, slot := 0, constantValue := 0 }, { name := "PI", type := .double, accessFlags := 25, slot := 1, constantValue := 0 }, { name := "TAU", type := .double, accessFlags := 25, slot := 2, constantValue := 0 }, { name := "DEGREES_TO_RADIANS", type := .double, accessFlags := 26, slot := 3, constantValue := 0 }, { name := "RADIANS_TO_DEGREES", type := .double, accessFlags := 26, slot := 4, constantValue := 0 }, { name := "negativeZeroFloatBits", type := .long, accessFlags := 26, slot := 5, constantValue := 0 }, { name := "negativeZeroDoubleBits", type := .long, accessFlags := 26, slot := 6, constantValue := 0 }, { name := "twoToTheDoubleScaleUp", type := .double, accessFlags := 8, slot := 7, constantValue := 0 }, { name := "twoToTheDoubleScaleDown", type := .double, accessFlags := 8, slot := 8, constantValue := 0 }, { name := "$assertionsDisabled", type := .boolean, accessFlags := 4120, slot := 9, constantValue := 0 }]
  methods := #[k4m0, k4m1]
  instanceTypes := #[]
  staticTypes := #[.double, .double, .double, .double, .double, .long, .long, .double, .double, .boolean]
  resolved := Array.replicate 460 none
  statics := none }

def pool5 : Array CpInfo := pool [(2, .class_ 4), (1, u "java/lang/Object"), (0, u "<init>"), (0, u "()V"), (1, .class_ 10), (1, u "java/lang/System"), (0, u "allowSecurityManager"), (0, u "I"), (16, u "cons"), (0, u "Ljava/io/Console;"), (77, .class_ 110), (1, u "java/lang/System$CallersHolder"), (43, u "initialErrStream"), (0, u "Ljava/io/PrintStream;"), (19, u "security"), (0, u "Ljava/lang/SecurityManager;"), (31, .class_ 209), (0, u "java/lang/System$1"), (7, u "props"), (0, u "Ljava/util/Properties;"), (2, u "lineSeparator"), (0, u "Ljava/lang/String;"), (96, .class_ 321), (1, u "java/lang/System$LoggerFinder"), (5, .class_ 328), (0, u "java/lang/System$Logger"), (67, u "err"), (2, u "out"), (91, u "notSupportedJnuEncoding"), (15, u "in"), (17, u "initialIn"), (0, u "Ljava/io/InputStream;"), (35, u "bootLayer"), (0, u "Ljava/lang/ModuleLayer;"), (99, .class_ 664), (0, u "java/lang/System$2"), (9, u "NEVER"), (2, u "MAYBE"), (49, u "arraycopy"), (0, u "(Ljava/lang/Object;ILjava/lang/Object;II)V"), (72, .class_ 802), (0, u "java/lang/System$Logger$Level")] 31

def k5m0 : Method := { name := "<init>", desc := "()V", sig := { parameters := [], returnType := none }, accessFlags := 2, code := none }
def k5m1 : Method := { name := "arraycopy", desc := "(Ljava/lang/Object;ILjava/lang/Object;II)V", sig := { parameters := [(.object "java/lang/Object"), .int, (.object "java/lang/Object"), .int, .int], returnType := none }, accessFlags := 265, code := none }
/-- java/lang/System -/
def k5 : Class := { plain "java/lang/System" (some 0) with
  accessFlags := 49
  interfaces := #[]
  cf := some (fileOf pool5 8 #[.nestMembers #[319, 327, 801, 108, 663, 208]] #[{ accessFlags := 2, nameIndex := 5, descriptorIndex := 6, attributes := #[] }, { accessFlags := 265, nameIndex := 727, descriptorIndex := 728, attributes := #[] }] 49 2 #[] #[{ accessFlags := 25, nameIndex := 507, descriptorIndex := 526, attributes := #[] }, { accessFlags := 25, nameIndex := 399, descriptorIndex := 155, attributes := #[] }, { accessFlags := 25, nameIndex := 396, descriptorIndex := 155, attributes := #[] }, { accessFlags := 10, nameIndex := 525, descriptorIndex := 526, attributes := #[] }, { accessFlags := 26, nameIndex := 674, descriptorIndex := 12, attributes := #[] }, { accessFlags := 26, nameIndex := 677, descriptorIndex := 12, attributes := #[] }, { accessFlags := 10, nameIndex := 11, descriptorIndex := 12, attributes := #[] }, { accessFlags := 74, nameIndex := 175, descriptorIndex := 176, attributes := #[] }, { accessFlags := 10, nameIndex := 491, descriptorIndex := 222, attributes := #[] }, { accessFlags := 74, nameIndex := 29, descriptorIndex := 30, attributes := #[] }, { accessFlags := 74, nameIndex := 154, descriptorIndex := 155, attributes := #[] }, { accessFlags := 10, nameIndex := 217, descriptorIndex := 218, attributes := #[] }, { accessFlags := 10, nameIndex := 221, descriptorIndex := 222, attributes := #[] }, { accessFlags := 8, nameIndex := 562, descriptorIndex := 563, attributes := #[] }])
  fields := #[{ name := "in", type := (.object "java/io/InputStream"), accessFlags := 25, slot := 0, constantValue := 0 }, { name := "out", type := (.object "java/io/PrintStream"), accessFlags := 25, slot := 1, constantValue := 0 }, { name := "err", type := (.object "java/io/PrintStream"), accessFlags := 25, slot := 2, constantValue := 0 }, { name := "initialIn", type := (.object "java/io/InputStream"), accessFlags := 10, slot := 3, constantValue := 0 }, { name := "NEVER", type := .int, accessFlags := 26, slot := 4, constantValue := 0 }, { name := "MAYBE", type := .int, accessFlags := 26, slot := 5, constantValue := 0 }, { name := "allowSecurityManager", type := .int, accessFlags := 10, slot := 6, constantValue := 0 }, { name := "security", type := (.object "java/lang/SecurityManager"), accessFlags := 74, slot := 7, constantValue := 0 }, { name := "notSupportedJnuEncoding", type := (.object "java/lang/String"), accessFlags := 10, slot := 8, constantValue := 0 }, { name := "cons", type := (.object "java/io/Console"), accessFlags := 74, slot := 9, constantValue := 0 }, { name := "initialErrStream", type := (.object "java/io/PrintStream"), accessFlags := 74, slot := 10, constantValue := 0 }, { name := "props", type := (.object "java/util/Properties"), accessFlags := 10, slot := 11, constantValue := 0 }, { name := "lineSeparator", type := (.object "java/lang/String"), accessFlags := 10, slot := 12, constantValue := 0 }, { name := "bootLayer", type := (.object "java/lang/ModuleLayer"), accessFlags := 8, slot := 13, constantValue := 0 }]
  methods := #[k5m0, k5m1]
  instanceTypes := #[]
  staticTypes := #[(.object "java/io/InputStream"), (.object "java/io/PrintStream"), (.object "java/io/PrintStream"), (.object "java/io/InputStream"), .int, .int, .int, (.object "java/lang/SecurityManager"), (.object "java/lang/String"), (.object "java/io/Console"), (.object "java/io/PrintStream"), (.object "java/util/Properties"), (.object "java/lang/String"), (.object "java/lang/ModuleLayer")]
  resolved := Array.replicate 834 none
  statics := none }

def pool6 : Array CpInfo := pool [(1, u "java/lang/Cloneable"), (0, .class_ 1), (0, u "java/lang/Object"), (0, .class_ 3)] 3

/-- java/lang/Cloneable -/
def k6 : Class := { plain "java/lang/Cloneable" (some 0) with
  accessFlags := 1537
  interfaces := #[]
  cf := some (fileOf pool6 2 #[] #[] 1537 4 #[] #[])
  fields := #[]
  methods := #[]
  instanceTypes := #[]
  staticTypes := #[]
  resolved := Array.replicate 8 none
  statics := none }

def pool7 : Array CpInfo := pool [(1, u "java/io/Serializable"), (0, .class_ 1), (0, u "java/lang/Object"), (0, .class_ 3)] 3

/-- java/io/Serializable -/
def k7 : Class := { plain "java/io/Serializable" (some 0) with
  accessFlags := 1537
  interfaces := #[]
  cf := some (fileOf pool7 2 #[] #[] 1537 4 #[] #[])
  fields := #[]
  methods := #[]
  instanceTypes := #[]
  staticTypes := #[]
  resolved := Array.replicate 8 none
  statics := none }

/-- the primitive byte -/
def k8 : Class := { plain "byte" none with kind := .primitive 'B', accessFlags := 0x411 }
/-- [B -/
def k9 : Class := { plain "[B" (some 0) with kind := .array 8 .byte, interfaces := #[6, 7], accessFlags := 1041 }

/-- the primitive int -/
def k10 : Class := { plain "int" none with kind := .primitive 'I', accessFlags := 0x411 }
/-- [I -/
def k11 : Class := { plain "[I" (some 0) with kind := .array 10 .int, interfaces := #[6, 7], accessFlags := 1041 }

/-- the primitive long -/
def k12 : Class := { plain "long" none with kind := .primitive 'J', accessFlags := 0x411 }
/-- [J -/
def k13 : Class := { plain "[J" (some 0) with kind := .array 12 .long, interfaces := #[6, 7], accessFlags := 1041 }

def heap : Heap := #[]
def classes : Array Class := #[k0, k1, k2, k3, k4, k5, k6, k7, k8, k9, k10, k11, k12, k13]
def interned : List (Array UInt16 × Addr) := []
def slotsUsed : Nat := 0
def theMethod : MethodId := ⟨1, 1⟩
def args0 : Array Value := #[.int 5, .long 2, .long 3, .long 4, .long 1]
def aboutOver (below : List Frame) : State where
  vm := { classes := classes, interned := interned.toArray }
  heap := heap
  slotsUsed := slotsUsed
  threads := #[{ frames := .invoking theMethod args0 :: below }]
def below0 : List Frame := [.native { method := ⟨0, 0⟩, args := #[] }]
def about1 : State := aboutOver below0
def p0 : Program := .bare "" "" ""
def e0 : Env := launch0.env 0 0 0
theorem w_frames : about1.frames = Frame.invoking theMethod args0 :: below0 := rfl
set_option maxRecDepth 65536 in
theorem w_args : argsFit about1.vm theMethod args0 = true := by decide +kernel
set_option maxRecDepth 65536 in
theorem w_heap : heapFits about1 = true := by decide +kernel
set_option maxRecDepth 65536 in
theorem w_runnable : about1.curStatus? = some .runnable := by decide +kernel
set_option maxRecDepth 65536 in
theorem w_alone : about1.alone = true := by decide +kernel
set_option maxRecDepth 65536 in
theorem w_named : about1.methodNamed? x = some theMethod := by decide +kernel
set_option maxRecDepth 65536 in
theorem w_hears : about1.hears theMethod below0 = true := by decide +kernel
set_option maxRecDepth 65536 in
theorem w_ripe : about1.ripe theMethod args0 below0 = true := by decide +kernel
theorem w_running : about1.status = .running := rfl
set_option maxRecDepth 65536 in
theorem w_room : about1.hasRoom e0.platform room_1 = true :=
  launch0.hasRoom_least _ room_1 (by decide +kernel) (by decide +kernel) (by decide +kernel) (by decide +kernel) (by decide +kernel) (by decide +kernel)
theorem allAtoms_all (ts : List Jvm.Cond) (a : Array Jvm.Value) (st : Jvm.State) : (allAtoms ts).before a st = ts.all (fun c => c.before a st) := by
  induction ts with
  | nil => rfl
  | cons c t ih =>
    show (Jvm.Cond.and c (allAtoms t)).before a st = _
    rw [Jvm.Cond.before_and, ih, List.all_cons]
def words1 : List Jvm.Cond := Jvm.Cond.code x code maxLocals ret :: tables_1
/-- a 'code' word, met by the world's own term for the bytes: nothing is compared byte by byte -/
theorem code_word {y : MethodName} {bytes : ByteArray} {mx : Nat} {rt : Option FieldType} {a : Array Value} {s : State} {m : MethodId} {meth : Method} {c : Code} (h1 : s.methodNamed? y = some m) (h2 : s.vm.method? m = some meth) (h3 : meth.code = some c) (h4 : c.code = bytes)
    (h5 : (c.maxLocals == mx && c.exceptionTable.isEmpty && decide (c.maxStack ≤ mostOperands) && decide (meth.sig.returnType = rt) && !meth.locks && decide (parseMethodDescriptor y.desc = some meth.sig)) = true) : (Jvm.Cond.code y bytes mx rt).before a s = true := by
  simp only [Bool.and_eq_true, beq_iff_eq, Bool.not_eq_true', decide_eq_true_eq] at h5
  obtain ⟨⟨⟨⟨⟨g1, g2⟩, g3⟩, g4⟩, g5⟩, g6⟩ := h5
  simp [Cond.before, Cond.holds, Cond.value, h1, h2, h3, h4, g1, g2, g3, g4, g5, g6]
def isCode : Jvm.Cond → Bool
  | .code _ _ _ _ => true
  | _ => false
theorem all_split {L : List Jvm.Cond} {P : Jvm.Cond → Bool} (h1 : L.all (fun c => isCode c || P c) = true) (h2 : ∀ c ∈ L.filter isCode, P c = true) : L.all P = true := by
  refine List.all_eq_true.mpr fun c hc => ?_
  have h := List.all_eq_true.mp h1 c hc
  rcases Bool.eq_false_or_eq_true (isCode c) with hi | hi
  · exact h2 c (List.mem_filter.mpr ⟨hc, hi⟩)
  · simpa [hi] using h
set_option maxRecDepth 65536 in
theorem w_c0 : (Jvm.Cond.code x code maxLocals ret).before args0 about1 = true := code_word (m := ⟨1, 1⟩) (meth := k1m1) (c := k1c1) (by decide +kernel) rfl rfl rfl (by decide +kernel)
set_option maxRecDepth 65536 in
theorem w_c1 : (Jvm.Cond.code ({ cls := "com/example/accesstrail/accesstrail/store/AppendOnlyLongs", name := "<init>", desc := "(I)V" } : Jvm.MethodName) prog_33_method_1_code (2 : Nat) (Option.none : Option Jvm.ClassFile.FieldType)).before args0 about1 = true := code_word (m := ⟨2, 0⟩) (meth := k2m0) (c := k2c0) (by decide +kernel) rfl rfl rfl (by decide +kernel)
set_option maxRecDepth 65536 in
theorem w_c2 : (Jvm.Cond.code ({ cls := "java/lang/Object", name := "<init>", desc := "()V" } : Jvm.MethodName) object_method_1_code (1 : Nat) (Option.none : Option Jvm.ClassFile.FieldType)).before args0 about1 = true := code_word (m := ⟨0, 0⟩) (meth := k0m0) (c := k0c0) (by decide +kernel) rfl rfl rfl (by decide +kernel)
set_option maxRecDepth 65536 in
theorem w_c3 : (Jvm.Cond.code ({ cls := "com/example/accesstrail/accesstrail/store/AppendOnlyLongs", name := "add", desc := "(J)V" } : Jvm.MethodName) prog_33_method_2_code (5 : Nat) (Option.none : Option Jvm.ClassFile.FieldType)).before args0 about1 = true := code_word (m := ⟨2, 1⟩) (meth := k2m1) (c := k2c1) (by decide +kernel) rfl rfl rfl (by decide +kernel)
set_option maxRecDepth 65536 in
theorem w_c4 : (Jvm.Cond.code ({ cls := "java/util/Arrays", name := "copyOf", desc := "([JI)[J" } : Jvm.MethodName) jdk_65_method_124_code (3 : Nat) (Option.some (Jvm.ClassFile.FieldType.array Jvm.ClassFile.FieldType.long))).before args0 about1 = true := code_word (m := ⟨3, 1⟩) (meth := k3m1) (c := k3c1) (by decide +kernel) rfl rfl rfl (by decide +kernel)
set_option maxRecDepth 65536 in
theorem w_c5 : (Jvm.Cond.code ({ cls := "java/lang/Math", name := "min", desc := "(II)I" } : Jvm.MethodName) jdk_29_method_69_code (2 : Nat) (Option.some Jvm.ClassFile.FieldType.int)).before args0 about1 = true := code_word (m := ⟨4, 1⟩) (meth := k4m1) (c := k4c1) (by decide +kernel) rfl rfl rfl (by decide +kernel)
set_option maxRecDepth 65536 in
theorem w_c6 : (Jvm.Cond.code ({ cls := "com/example/accesstrail/accesstrail/store/AppendOnlyLongs", name := "size", desc := "()I" } : Jvm.MethodName) prog_33_method_3_code (1 : Nat) (Option.some Jvm.ClassFile.FieldType.int)).before args0 about1 = true := code_word (m := ⟨2, 2⟩) (meth := k2m2) (c := k2c2) (by decide +kernel) rfl rfl rfl (by decide +kernel)
set_option maxRecDepth 65536 in
theorem w_c7 : (Jvm.Cond.code ({ cls := "com/example/accesstrail/accesstrail/store/AppendOnlyLongs", name := "get", desc := "(I)J" } : Jvm.MethodName) prog_33_method_4_code (2 : Nat) (Option.some Jvm.ClassFile.FieldType.long)).before args0 about1 = true := code_word (m := ⟨2, 3⟩) (meth := k2m3) (c := k2c3) (by decide +kernel) rfl rfl rfl (by decide +kernel)
def codes1 : List Jvm.Cond := [Jvm.Cond.code x code maxLocals ret, Jvm.Cond.code ({ cls := "com/example/accesstrail/accesstrail/store/AppendOnlyLongs", name := "<init>", desc := "(I)V" } : Jvm.MethodName) prog_33_method_1_code (2 : Nat) (Option.none : Option Jvm.ClassFile.FieldType), Jvm.Cond.code ({ cls := "java/lang/Object", name := "<init>", desc := "()V" } : Jvm.MethodName) object_method_1_code (1 : Nat) (Option.none : Option Jvm.ClassFile.FieldType), Jvm.Cond.code ({ cls := "com/example/accesstrail/accesstrail/store/AppendOnlyLongs", name := "add", desc := "(J)V" } : Jvm.MethodName) prog_33_method_2_code (5 : Nat) (Option.none : Option Jvm.ClassFile.FieldType), Jvm.Cond.code ({ cls := "java/util/Arrays", name := "copyOf", desc := "([JI)[J" } : Jvm.MethodName) jdk_65_method_124_code (3 : Nat) (Option.some (Jvm.ClassFile.FieldType.array Jvm.ClassFile.FieldType.long)), Jvm.Cond.code ({ cls := "java/lang/Math", name := "min", desc := "(II)I" } : Jvm.MethodName) jdk_29_method_69_code (2 : Nat) (Option.some Jvm.ClassFile.FieldType.int), Jvm.Cond.code ({ cls := "com/example/accesstrail/accesstrail/store/AppendOnlyLongs", name := "size", desc := "()I" } : Jvm.MethodName) prog_33_method_3_code (1 : Nat) (Option.some Jvm.ClassFile.FieldType.int), Jvm.Cond.code ({ cls := "com/example/accesstrail/accesstrail/store/AppendOnlyLongs", name := "get", desc := "(I)J" } : Jvm.MethodName) prog_33_method_4_code (2 : Nat) (Option.some Jvm.ClassFile.FieldType.long)]
set_option maxRecDepth 65536 in
theorem codes_eq : words1.filter isCode = codes1 := rfl
theorem w_codes : ∀ c ∈ words1.filter isCode, c.before args0 about1 = true := by
  rw [codes_eq]
  intro c hc
  simp only [codes1, List.mem_cons, List.not_mem_nil, or_false] at hc
  rcases hc with rfl | rfl | rfl | rfl | rfl | rfl | rfl | rfl
  · exact w_c0
  · exact w_c1
  · exact w_c2
  · exact w_c3
  · exact w_c4
  · exact w_c5
  · exact w_c6
  · exact w_c7
set_option maxRecDepth 65536 in
theorem w_t1 : (words1.take 24).all (fun c => isCode c || c.before args0 about1) = true := by decide +kernel
set_option maxRecDepth 65536 in
theorem w_t2 : (words1.drop 24).all (fun c => isCode c || c.before args0 about1) = true := by decide +kernel
theorem w_tables : (allAtoms (Jvm.Cond.code x code maxLocals ret :: tables_1)).before args0 about1 = true := by
  rw [allAtoms_all]
  show words1.all (fun c => c.before args0 about1) = true
  refine all_split ?_ w_codes
  rw [← List.take_append_drop 24 words1, List.all_append, w_t1, w_t2]
  rfl
set_option maxRecDepth 65536 in
theorem w_case : (Jvm.Cond.and given_1 narrow_1).before args0 about1 = true := by decide +kernel
theorem w_applies : (headSpec (Jvm.Cond.code x code maxLocals ret :: tables_1) room_1).applies x e0.platform about1 = true :=
  (Spec.applies_iff w_frames).mpr ⟨w_running, w_runnable, w_alone, w_named, w_hears, w_ripe, w_room, w_tables⟩
theorem atStart : AtStart classFile x code maxLocals ret World_1 tables_1 room_1 Calls_1 rest_1 Pre_1 launch0 p0 e0 about1 theMethod args0 below0 :=
  ⟨lists_1, trivial, launch0.admits_env _ _ _, launch0.least_env, fairChoices_fair.cas, fairChoices_fair.clock, w_frames, w_args, w_heap, w_applies, trivial, trivial, w_case⟩
end start1
theorem witness_1 : WitnessClaimed_1 := ⟨start1.p0, start1.e0, start1.about1, start1.theMethod, start1.args0, start1.below0, start1.atStart⟩
end Jvm.Pilot.@@N@@
