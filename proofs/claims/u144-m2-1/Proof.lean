import JvmDerived
import JvmDerived.Pilot.@@N@@Statement
import JvmDerived.Pilot.@@N@@Code
set_option linter.unusedVariables false
set_option linter.unusedSimpArgs false
namespace Jvm.RoadKit
open Sem ClassFile Op Lib Jvm.Stand Jvm.Free Jvm.LawKit
section New
variable {p : Program} {l : Launch} {e : Env} {R : Room} {s : State} {m : MethodId} {args : Array Value} {below : List Frame} {meth : Method} {c : Code} {T : State} {locs : List Loc} {cells slots : Nat}
theorem retI (X : Stand p l e R s m args below meth c T locs cells slots) (hx : p.tables.exec = Jvm.exec) {pc : Nat} {Ls : Array Slot} {z : Int32} {rest : List Value} (hret : meth.sig.returnType = some .int) (hd : decode c.code pc = .ok (.ireturn, 1)) {fs : List Frame}
    (hl : ∀ (f : JFrame) (acts : List Action), f.method = m → f.locked = none → f.entered = [] → (doReturn e (T.setTop f) acts (some (.int z))).1 = T.setFrames fs) : Steps p.tables e below (T.setTop (mkF m pc Ls (.int z :: rest))) (T.setFrames fs) := by
  have hm' : T.vm.method? m = some meth := X.method'
  have hn : narrow .int (.int z) = .int z := rfl
  show Steps p.tables e below (T.setTop { method := m, pc := pc, locals := Ls, stack := _ :: rest, locked := none }) _
  jvm_step X.here [X.here.top, hx, hd, hm', hret, hn]
  first | (intro acts; rw [hl _ acts rfl rfl rfl]) | rw [hl _ _ rfl rfl rfl]
  exact Steps.refl _
end New
end Jvm.RoadKit
namespace Jvm.Pilot.@@N@@
open Jvm Jvm.ClassFile Sem Op Lib Jvm.Free Jvm.Stand Jvm.LawKit Jvm.RoadKit Bundle Jvm.Pilot.@@N@@.Jvm.D
theorem own_eqI {args : Array Value} {first s : State} {o : Option Outcome} {idx : List Nat} {t : Term} {k : Int32} (h : (Jvm.Cond.eq t (Term.int k)).value args first o s idx = some true) : t.eval args first o idx s = some (.int k) := by
  simp only [Cond.value, Term.eval] at h
  cases ht : t.eval args first o idx s with
  | none => simp [ht] at h
  | some x => cases x <;> simp [ht] at h ⊢; exact h
theorem own_n0 (v : Int32) (h : ¬ v < (1 : Int32)) : ¬ v < (0 : Int32) := fun q => h (Int32.lt_trans q (by decide))
theorem ef1 (m : MethodId) (x0 : Int32) : entryFrame m #[(.int x0)] 1 = mkF m 0 #[.val (.int x0)] [] := by first | (simp [entryFrame, mkF, argsToLocals, Value.category]; done) | rfl
theorem pn_0 : plainName "com/example/key_ranges/keyranges/KeyShapeFewestValuesPinLaw" = true := by first | (simp [plainName, overriddenIn]; done) | decide +kernel
theorem d1_0 : decode method_2_code 0 = .ok (.iload_n 0, 1) := by decide +kernel
theorem d1_1 : decode method_2_code 1 = .ok (.ifCond .ne 7, 3) := by decide +kernel
theorem d1_4 : decode method_2_code 4 = .ok (.getstatic 7, 3) := by decide +kernel
theorem d1_7 : decode method_2_code 7 = .ok (.areturn, 1) := by decide +kernel
theorem d1_8 : decode method_2_code 8 = .ok (.iload_n 0, 1) := by decide +kernel
theorem d1_9 : decode method_2_code 9 = .ok (.iconst 1, 1) := by decide +kernel
theorem d1_10 : decode method_2_code 10 = .ok (.if_icmp .ne 7, 3) := by decide +kernel
theorem d1_13 : decode method_2_code 13 = .ok (.getstatic 13, 3) := by decide +kernel
theorem d1_16 : decode method_2_code 16 = .ok (.areturn, 1) := by decide +kernel
theorem d1_17 : decode method_2_code 17 = .ok (.getstatic 16, 3) := by decide +kernel
theorem d1_20 : decode method_2_code 20 = .ok (.areturn, 1) := by decide +kernel
def Q1 (Z : State) (u : Int32) (ak : Addr) (ap : Addr) (ae : Addr) (h0 : Heap) (n0 : Nat) (v : Option Value) (h : Heap) (L : List Loc) : Prop := v = some (.ref (if u = (0 : Int32) then ak else if u = (1 : Int32) then ap else ae)) ∧ Fr n0 L ∧ h = h0
set_option maxRecDepth 65536 in
set_option maxHeartbeats 40000000 in
theorem rm1 (l : Launch) (Z : State) (a0 : Array Value) (hw : ∀ d ∈ tables_1, d.before a0 Z = true) (ws : List Jvm.Cond) (u : Int32) (ak : Addr) (ap : Addr) (ae : Addr) (h0 : Heap) (n0 : Nat) (Z0 : n0 ≤ h0.size) (Sak : Sta Z h0 "com/example/key_ranges/keyranges/KeyShape" "KEY" "Lcom/example/key_ranges/keyranges/KeyShape;" (.ref ak)) (Sap : Sta Z h0 "com/example/key_ranges/keyranges/KeyShape" "PARTIAL_KEY" "Lcom/example/key_ranges/keyranges/KeyShape;" (.ref ap)) (Sae : Sta Z h0 "com/example/key_ranges/keyranges/KeyShape" "RANGE_END" "Lcom/example/key_ranges/keyranges/KeyShape;" (.ref ae)) :
    MetFree l (⟨"com/example/key_ranges/keyranges/KeyShapeFewestValuesPinLaw", "pick", "(I)Lcom/example/key_ranges/keyranges/KeyShape;"⟩ : MethodName) (head1 (Jvm.Cond.code (⟨"com/example/key_ranges/keyranges/KeyShapeFewestValuesPinLaw", "pick", "(I)Lcom/example/key_ranges/keyranges/KeyShape;"⟩ : MethodName) method_2_code 1 (some (.object "com/example/key_ranges/keyranges/KeyShape")) :: ws) ({ frames := 0, cells := 0, slots := 0, locals := 0 } : Room)) (fun zza zzU => zza = #[(.int u)] ∧ Z.Warmed39 zzU.vm ∧ zzU.heap = h0) (fun _ _ _ _ _ => True) (fun _ zzU zzo zzV => ∃ zzv zzL, zzo = .returned zzv ∧ Q1 Z u ak ap ae h0 n0 zzv zzV.heap zzL ∧ FrameEnd zzU zzo zzV zzL ({ frames := 0, cells := 0, slots := 0, locals := 0 } : Room).cells ({ frames := 0, cells := 0, slots := 0, locals := 0 } : Room).slots) := by
  refine MetFree.of_bodySF (plainFor_of_name pn_0) hisR ?_
  intro p e s m args below meth c s₁ Bd hml0 hP hK
  obtain ⟨rfl, hZ, hh⟩ := hP
  have hx := Bd.exec
  have hby := Bd.bytes
  have hml : c.maxLocals = 1 := hml0
  have hown : s.vm.findClass "com/example/key_ranges/keyranges/KeyShapeFewestValuesPinLaw" = some m.cls := findClass_of_methodNamed Bd.named
  have hnm := (name_of_methodNamed Bd.named Bd.method).1
  have X0 : Stand p l e ({ frames := 0, cells := 0, slots := 0, locals := 0 } : Room) s m #[(.int u)] below meth c s₁ [] 0 0 := Stand.of_body Bd
  have e0 : s₁.heap = h0 := by rw [← hh, Bd.state]; rfl
  have N0 := Fr.nil n0
  have R0 : ∀ t, Steps p.tables e below (s₁.setTop (mkF m 0 #[.val (.int u)] [])) t → Steps p.tables e below (s₁.setTop (entryFrame m #[(.int u)] 1)) t := fun t k => castTop (ef1 m u) k
  have R1 : ∀ t, Steps p.tables e below (s₁.setTop (mkF m 1 #[.val (.int u)] [(.int u)])) t → Steps p.tables e below (s₁.setTop (entryFrame m #[(.int u)] 1)) t := by
    intro t k
    refine R0 t ?_
    show Steps p.tables e below (s₁.setTop (mkF m 0 #[.val (.int u)] [])) _
    refine XS.iloadN X0.here hx rfl (hb hby d1_0) rfl ?_
    exact k
  by_cases hc2 : u = (0 : Int32)
  ·
    skip
    have R3 : ∀ t, Steps p.tables e below (s₁.setTop (mkF m 4 #[.val (.int u)] [])) t → Steps p.tables e below (s₁.setTop (entryFrame m #[(.int u)] 1)) t := by
      intro t k
      refine R1 t ?_
      show Steps p.tables e below (s₁.setTop (mkF m 1 #[.val (.int u)] [(.int u)])) _
      refine XS.ifNo X0.here hx rfl (hb hby d1_1) rfl ((if0 _ _).trans (teq hc2).2) ?_
      exact k
    obtain ⟨T4, X4, e4, st4⟩ := getS2 X0 hx hZ hown (host := "") (Or.inl (hw _ (List.mem_of_getElem? (i := 5) rfl))) Via.refl e0 Sak (g := (mkF m 4 #[.val (.int u)] [])) rfl (hb hby d1_4)
    have R5 : ∀ t, Steps p.tables e below (T4.setTop (mkF m 7 #[.val (.int u)] [(.ref ak)])) t → Steps p.tables e below (s₁.setTop (entryFrame m #[(.int u)] 1)) t := by
      intro t k
      refine R3 t ?_
      show Steps p.tables e below (s₁.setTop (mkF m 4 #[.val (.int u)] [])) _
      refine st4 _ ?_
      exact k
    obtain ⟨fs, hr, hrun, hended, hW, hsame⟩ := X4.leave (v := some (.ref ak)) (fun h => by rw [Bd.returns] at h; cases h)
    refine ⟨_, _, R5 _ ?_, hrun, hended, _, _, rfl, ?_, ⟨_, rfl⟩, hW, hsame.mono (by decide) (by decide)⟩
    · exact retOut X4 hx Bd.returns rfl (Or.inr (Or.inr (Or.inr (Or.inr ⟨rfl, rfl, rfl⟩)))) (hb hby d1_7) hr
    · show Q1 Z u ak ap ae h0 n0 _ T4.heap _
      rw [e4]
      exact ⟨(by rw [if_pos hc2]), N0, rfl⟩
  ·
    skip
    have R6 : ∀ t, Steps p.tables e below (s₁.setTop (mkF m 10 #[.val (.int u)] [(.int (1 : Int32)), (.int u)])) t → Steps p.tables e below (s₁.setTop (entryFrame m #[(.int u)] 1)) t := by
      intro t k
      refine R1 t ?_
      show Steps p.tables e below (s₁.setTop (mkF m 1 #[.val (.int u)] [(.int u)])) _
      refine XS.ifYes X0.here hx rfl (pc0 := 1) (pc' := 8) rfl (hb hby d1_1) rfl ((if0 _ _).trans (feq hc2).2) (by decide) (by decide) ?_
      show Steps p.tables e below (s₁.setTop (mkF m 8 #[.val (.int u)] [])) _
      refine XS.iloadN X0.here hx rfl (hb hby d1_8) rfl ?_
      show Steps p.tables e below (s₁.setTop (mkF m 9 #[.val (.int u)] [(.int u)])) _
      refine XS.iconst X0.here hx rfl (hb hby d1_9) ?_
      exact k
    by_cases hc7 : u = (1 : Int32)
    ·
      skip
      have R8 : ∀ t, Steps p.tables e below (s₁.setTop (mkF m 13 #[.val (.int u)] [])) t → Steps p.tables e below (s₁.setTop (entryFrame m #[(.int u)] 1)) t := by
        intro t k
        refine R6 t ?_
        show Steps p.tables e below (s₁.setTop (mkF m 10 #[.val (.int u)] [(.int (1 : Int32)), (.int u)])) _
        refine XS.icmpNo X0.here hx rfl (hb hby d1_10) rfl (teq hc7).2 ?_
        exact k
      obtain ⟨T9, X9, e9, st9⟩ := getS2 X0 hx hZ hown (host := "") (Or.inl (hw _ (List.mem_of_getElem? (i := 30) rfl))) Via.refl e0 Sap (g := (mkF m 13 #[.val (.int u)] [])) rfl (hb hby d1_13)
      have R10 : ∀ t, Steps p.tables e below (T9.setTop (mkF m 16 #[.val (.int u)] [(.ref ap)])) t → Steps p.tables e below (s₁.setTop (entryFrame m #[(.int u)] 1)) t := by
        intro t k
        refine R8 t ?_
        show Steps p.tables e below (s₁.setTop (mkF m 13 #[.val (.int u)] [])) _
        refine st9 _ ?_
        exact k
      obtain ⟨fs, hr, hrun, hended, hW, hsame⟩ := X9.leave (v := some (.ref ap)) (fun h => by rw [Bd.returns] at h; cases h)
      refine ⟨_, _, R10 _ ?_, hrun, hended, _, _, rfl, ?_, ⟨_, rfl⟩, hW, hsame.mono (by decide) (by decide)⟩
      · exact retOut X9 hx Bd.returns rfl (Or.inr (Or.inr (Or.inr (Or.inr ⟨rfl, rfl, rfl⟩)))) (hb hby d1_16) hr
      · show Q1 Z u ak ap ae h0 n0 _ T9.heap _
        rw [e9]
        exact ⟨(by rw [if_neg hc2, if_pos hc7]), N0, rfl⟩
    ·
      skip
      have R11 : ∀ t, Steps p.tables e below (s₁.setTop (mkF m 17 #[.val (.int u)] [])) t → Steps p.tables e below (s₁.setTop (entryFrame m #[(.int u)] 1)) t := by
        intro t k
        refine R6 t ?_
        show Steps p.tables e below (s₁.setTop (mkF m 10 #[.val (.int u)] [(.int (1 : Int32)), (.int u)])) _
        refine XS.icmpYes X0.here hx rfl (pc0 := 10) (pc' := 17) rfl (hb hby d1_10) rfl (feq hc7).2 (by decide) (by decide) ?_
        exact k
      obtain ⟨T12, X12, e12, st12⟩ := getS2 X0 hx hZ hown (host := "") (Or.inl (hw _ (List.mem_of_getElem? (i := 29) rfl))) Via.refl e0 Sae (g := (mkF m 17 #[.val (.int u)] [])) rfl (hb hby d1_17)
      have R13 : ∀ t, Steps p.tables e below (T12.setTop (mkF m 20 #[.val (.int u)] [(.ref ae)])) t → Steps p.tables e below (s₁.setTop (entryFrame m #[(.int u)] 1)) t := by
        intro t k
        refine R11 t ?_
        show Steps p.tables e below (s₁.setTop (mkF m 17 #[.val (.int u)] [])) _
        refine st12 _ ?_
        exact k
      obtain ⟨fs, hr, hrun, hended, hW, hsame⟩ := X12.leave (v := some (.ref ae)) (fun h => by rw [Bd.returns] at h; cases h)
      refine ⟨_, _, R13 _ ?_, hrun, hended, _, _, rfl, ?_, ⟨_, rfl⟩, hW, hsame.mono (by decide) (by decide)⟩
      · exact retOut X12 hx Bd.returns rfl (Or.inr (Or.inr (Or.inr (Or.inr ⟨rfl, rfl, rfl⟩)))) (hb hby d1_20) hr
      · show Q1 Z u ak ap ae h0 n0 _ T12.heap _
        rw [e12]
        exact ⟨(by rw [if_neg hc2, if_neg hc7]), N0, rfl⟩
theorem ef3 (m : MethodId) (x0 : Addr) : entryFrame m #[(.ref x0)] 1 = mkF m 0 #[.val (.ref x0)] [] := by first | (simp [entryFrame, mkF, argsToLocals, Value.category]; done) | rfl
theorem pn_1 : plainName "java/lang/Enum" = true := by first | (simp [plainName, overriddenIn]; done) | decide +kernel
theorem d3_0 : decode jdk_37_method_2_code 0 = .ok (.aload_n 0, 1) := by decide +kernel
theorem d3_1 : decode jdk_37_method_2_code 1 = .ok (.getfield 7, 3) := by decide +kernel
theorem d3_4 : decode jdk_37_method_2_code 4 = .ok (.ireturn, 1) := by decide +kernel
def Q3 (Z : State) (a : Addr) (o : Int32) (h0 : Heap) (n0 : Nat) (v : Option Value) (h : Heap) (L : List Loc) : Prop := v = some (.int o) ∧ Fr n0 L ∧ h = h0
set_option maxRecDepth 65536 in
set_option maxHeartbeats 40000000 in
theorem rm3 (l : Launch) (Z : State) (a0 : Array Value) (hw : ∀ d ∈ tables_1, d.before a0 Z = true) (ws : List Jvm.Cond) (a : Addr) (o : Int32) (h0 : Heap) (n0 : Nat) (Z0 : n0 ≤ h0.size) (Oa : Fld Z h0 a "java/lang/Enum" "ordinal" "I" (.int o)) :
    MetFree l (⟨"java/lang/Enum", "ordinal", "()I"⟩ : MethodName) (head1 (Jvm.Cond.code (⟨"java/lang/Enum", "ordinal", "()I"⟩ : MethodName) jdk_37_method_2_code 1 (some .int) :: ws) ({ frames := 0, cells := 0, slots := 0, locals := 0 } : Room)) (fun zza zzU => zza = #[(.ref a)] ∧ Z.Warmed39 zzU.vm ∧ zzU.heap = h0) (fun _ _ _ _ _ => True) (fun _ zzU zzo zzV => ∃ zzv zzL, zzo = .returned zzv ∧ Q3 Z a o h0 n0 zzv zzV.heap zzL ∧ FrameEnd zzU zzo zzV zzL ({ frames := 0, cells := 0, slots := 0, locals := 0 } : Room).cells ({ frames := 0, cells := 0, slots := 0, locals := 0 } : Room).slots) := by
  refine MetFree.of_bodySF (plainFor_of_name pn_1) hisR ?_
  intro p e s m args below meth c s₁ Bd hml0 hP hK
  obtain ⟨rfl, hZ, hh⟩ := hP
  have hx := Bd.exec
  have hby := Bd.bytes
  have hml : c.maxLocals = 1 := hml0
  have hown : s.vm.findClass "java/lang/Enum" = some m.cls := findClass_of_methodNamed Bd.named
  have hnm := (name_of_methodNamed Bd.named Bd.method).1
  have X0 : Stand p l e ({ frames := 0, cells := 0, slots := 0, locals := 0 } : Room) s m #[(.ref a)] below meth c s₁ [] 0 0 := Stand.of_body Bd
  have e0 : s₁.heap = h0 := by rw [← hh, Bd.state]; rfl
  have N0 := Fr.nil n0
  have R0 : ∀ t, Steps p.tables e below (s₁.setTop (mkF m 0 #[.val (.ref a)] [])) t → Steps p.tables e below (s₁.setTop (entryFrame m #[(.ref a)] 1)) t := fun t k => castTop (ef3 m a) k
  have R1 : ∀ t, Steps p.tables e below (s₁.setTop (mkF m 1 #[.val (.ref a)] [(.ref a)])) t → Steps p.tables e below (s₁.setTop (entryFrame m #[(.ref a)] 1)) t := by
    intro t k
    refine R0 t ?_
    show Steps p.tables e below (s₁.setTop (mkF m 0 #[.val (.ref a)] [])) _
    refine XS.aloadN X0.here hx rfl (hb hby d3_0) rfl rfl ?_
    exact k
  obtain ⟨T2, X2, e2, st2⟩ := getF X0 hx hZ hown (host := "") (Or.inl (hw _ (List.mem_of_getElem? (i := 20) rfl))) Via.refl e0 Oa (g := (mkF m 1 #[.val (.ref a)] [(.ref a)])) rfl rfl (hb hby d3_1)
  have R3 : ∀ t, Steps p.tables e below (T2.setTop (mkF m 4 #[.val (.ref a)] [(.int o)])) t → Steps p.tables e below (s₁.setTop (entryFrame m #[(.ref a)] 1)) t := by
    intro t k
    refine R1 t ?_
    show Steps p.tables e below (s₁.setTop (mkF m 1 #[.val (.ref a)] [(.ref a)])) _
    refine st2 _ ?_
    exact k
  obtain ⟨fs, hr, hrun, hended, hW, hsame⟩ := X2.leave (v := some (.int o)) (fun h => by rw [Bd.returns] at h; cases h)
  refine ⟨_, _, R3 _ ?_, hrun, hended, _, _, rfl, ?_, ⟨_, rfl⟩, hW, hsame.mono (by decide) (by decide)⟩
  · exact retI X2 hx Bd.returns (hb hby d3_4) hr
  · show Q3 Z a o h0 n0 _ T2.heap _
    rw [e2]
    exact ⟨rfl, N0, rfl⟩
theorem ef2k0 (m : MethodId) (x0 : Addr) (x1 : Int32) : entryFrame m #[(.ref x0), (.int x1)] 2 = mkF m 0 #[.val (.ref x0), .val (.int x1)] [] := by first | (simp [entryFrame, mkF, argsToLocals, Value.category]; done) | rfl
theorem pn_2 : plainName "com/example/key_ranges/keyranges/KeyShape" = true := by first | (simp [plainName, overriddenIn]; done) | decide +kernel
theorem d2_0 : decode prog_20_method_5_code 0 = .ok (.aload_n 0, 1) := by decide +kernel
theorem pd_0 : parseMethodDescriptor "()I" = some ⟨[], some .int⟩ := by decide +kernel
theorem d2_1 : decode prog_20_method_5_code 1 = .ok (.invokevirtual 36, 3) := by decide +kernel
theorem d2_4 : decode prog_20_method_5_code 4 = .ok (.tableswitch 28 0 2 #[38, 42, 46], 28) := by decide +kernel
theorem d2_42 : decode prog_20_method_5_code 42 = .ok (.iload_n 1, 1) := by decide +kernel
theorem d2_43 : decode prog_20_method_5_code 43 = .ok (.goto 8, 3) := by decide +kernel
theorem d2_51 : decode prog_20_method_5_code 51 = .ok (.ireturn, 1) := by decide +kernel
def Q2k0 (Z : State) (a : Addr) (u : Int32) (h0 : Heap) (n0 : Nat) (v : Option Value) (h : Heap) (L : List Loc) : Prop := v = some (.int u) ∧ Fr n0 L ∧ h = h0
set_option maxRecDepth 65536 in
set_option maxHeartbeats 40000000 in
theorem rm2k0 (l : Launch) (Z : State) (a0 : Array Value) (hw : ∀ d ∈ tables_1, d.before a0 Z = true) (ws : List Jvm.Cond) (a : Addr) (u : Int32) (h0 : Heap) (n0 : Nat) (Z0 : n0 ≤ h0.size) (Oa : Fld Z h0 a "java/lang/Enum" "ordinal" "I" (.int (0 : Int32))) (E_a : Exa Z h0 a "com/example/key_ranges/keyranges/KeyShape") :
    MetFree l (⟨"com/example/key_ranges/keyranges/KeyShape", "fewestValues", "(I)I"⟩ : MethodName) (head1 (Jvm.Cond.code (⟨"com/example/key_ranges/keyranges/KeyShape", "fewestValues", "(I)I"⟩ : MethodName) prog_20_method_5_code 2 (some .int) :: ws) ({ frames := 1, cells := 0, slots := 0, locals := 12 } : Room)) (fun zza zzU => zza = #[(.ref a), (.int u)] ∧ Z.Warmed39 zzU.vm ∧ zzU.heap = h0) (fun _ _ _ _ _ => True) (fun _ zzU zzo zzV => ∃ zzv zzL, zzo = .returned zzv ∧ Q2k0 Z a u h0 n0 zzv zzV.heap zzL ∧ FrameEnd zzU zzo zzV zzL ({ frames := 1, cells := 0, slots := 0, locals := 12 } : Room).cells ({ frames := 1, cells := 0, slots := 0, locals := 12 } : Room).slots) := by
  refine MetFree.of_bodySF (plainFor_of_name pn_2) hisR ?_
  intro p e s m args below meth c s₁ Bd hml0 hP hK
  obtain ⟨rfl, hZ, hh⟩ := hP
  have hx := Bd.exec
  have hby := Bd.bytes
  have hml : c.maxLocals = 2 := hml0
  have hown : s.vm.findClass "com/example/key_ranges/keyranges/KeyShape" = some m.cls := findClass_of_methodNamed Bd.named
  have hnm := (name_of_methodNamed Bd.named Bd.method).1
  have X0 : Stand p l e ({ frames := 1, cells := 0, slots := 0, locals := 12 } : Room) s m #[(.ref a), (.int u)] below meth c s₁ [] 0 0 := Stand.of_body Bd
  have e0 : s₁.heap = h0 := by rw [← hh, Bd.state]; rfl
  have N0 := Fr.nil n0
  have R0 : ∀ t, Steps p.tables e below (s₁.setTop (mkF m 0 #[.val (.ref a), .val (.int u)] [])) t → Steps p.tables e below (s₁.setTop (entryFrame m #[(.ref a), (.int u)] 2)) t := fun t k => castTop (ef2k0 m a u) k
  have R1 : ∀ t, Steps p.tables e below (s₁.setTop (mkF m 1 #[.val (.ref a), .val (.int u)] [(.ref a)])) t → Steps p.tables e below (s₁.setTop (entryFrame m #[(.ref a), (.int u)] 2)) t := by
    intro t k
    refine R0 t ?_
    show Steps p.tables e below (s₁.setTop (mkF m 0 #[.val (.ref a), .val (.int u)] [])) _
    refine XS.aloadN X0.here hx rfl (hb hby d2_0) rfl rfl ?_
    exact k
  obtain ⟨cq2, kq2, q2a, q2b, q2c⟩ := isOf hZ e0 E_a
  obtain ⟨_, _, ⟨T2, L2, k2, n2⟩, -, X2, ⟨Lc2, hQ2, l2, y2, z2⟩, st2⟩ := X0.virtualBackUp hx (owner := "java/lang/Enum") (x := (⟨"com/example/key_ranges/keyranges/KeyShape", "ordinal", "()I"⟩ : MethodName)) (y := (⟨"java/lang/Enum", "ordinal", "()I"⟩ : MethodName)) hown (mvT hZ (hw _ (List.mem_of_getElem? (i := 13) rfl))) (mvT hZ (hw _ (List.mem_of_getElem? (i := 14) rfl))) (mvT hZ (hw _ (List.mem_of_getElem? (i := 15) rfl))) (by decide) (mvT hZ (hw _ (List.mem_of_getElem? (i := 17) rfl))) (mvT hZ (hw _ (List.mem_of_getElem? (i := 16) rfl))) (backOf (W := 0) (rm3 l Z a0 hw [] a (0 : Int32) h0 n0 Z0 Oa) hZ (hw _ (List.mem_of_getElem? (i := 19) rfl)) (hw _ (List.mem_of_getElem? (i := 18) rfl)) (by decide) (by decide)) q2a q2c (g := (mkF m 1 #[.val (.ref a), .val (.int u)] [(.ref a)])) rfl (by rw [hml]; rfl) (Steps.refl _) (argsL := []) (rest := []) (lenOf pd_0 rfl) rfl (by show 2 * 0 + _ ≤ _; exact Nat.le_of_eq rfl) (hb hby d2_1) (fun _ _ => ⟨rfl, e0, (by decide : 0 + 0 ≤ _), (by decide : 0 + 0 ≤ _)⟩)
  dsimp only [Pt.U, Pt.locs, Pt.cells, Pt.slots] at X2 l2 y2 z2 st2 hQ2
  subst l2 y2 z2
  obtain ⟨rfl, Nq2, eq2⟩ := hQ2
  have N2 := Fr.app N0 Nq2
  have e2 : T2.heap = h0 := eq2
  have R3 : ∀ t, Steps p.tables e below (T2.setTop (mkF m 51 #[.val (.ref a), .val (.int u)] [(.int u)])) t → Steps p.tables e below (s₁.setTop (entryFrame m #[(.ref a), (.int u)] 2)) t := by
    intro t k
    refine R1 t ?_
    show Steps p.tables e below (s₁.setTop (mkF m 1 #[.val (.ref a), .val (.int u)] [(.ref a)])) _
    refine st2.trans ?_
    show Steps p.tables e below (T2.setTop (mkF m 4 #[.val (.ref a), .val (.int u)] [(.int (0 : Int32))])) _
    refine XS.tswIn X2.here hx rfl (pc0 := 4) (pc' := 42) (o := 38) rfl (hb hby d2_4) rfl (by decide) (by decide) (by decide) (by decide) ?_
    show Steps p.tables e below (T2.setTop (mkF m 42 #[.val (.ref a), .val (.int u)] [])) _
    refine XS.iloadN X2.here hx rfl (hb hby d2_42) rfl ?_
    show Steps p.tables e below (T2.setTop (mkF m 43 #[.val (.ref a), .val (.int u)] [(.int u)])) _
    refine XS.goto X2.here hx rfl (pc0 := 43) (pc' := 51) rfl (hb hby d2_43) (by decide) (by decide) ?_
    exact k
  obtain ⟨fs, hr, hrun, hended, hW, hsame⟩ := X2.leave (v := some (.int u)) (fun h => by rw [Bd.returns] at h; cases h)
  refine ⟨_, _, R3 _ ?_, hrun, hended, _, _, rfl, ?_, ⟨_, rfl⟩, hW, hsame.mono (by decide) (by decide)⟩
  · exact retI X2 hx Bd.returns (hb hby d2_51) hr
  · show Q2k0 Z a u h0 n0 _ T2.heap _
    rw [e2]
    exact ⟨rfl, N2, rfl⟩
theorem ef2k1 (m : MethodId) (x0 : Addr) (x1 : Int32) : entryFrame m #[(.ref x0), (.int x1)] 2 = mkF m 0 #[.val (.ref x0), .val (.int x1)] [] := by first | (simp [entryFrame, mkF, argsToLocals, Value.category]; done) | rfl
theorem d2_46 : decode prog_20_method_5_code 46 = .ok (.iconst 1, 1) := by decide +kernel
theorem d2_47 : decode prog_20_method_5_code 47 = .ok (.goto 4, 3) := by decide +kernel
def Q2k1 (Z : State) (a : Addr) (u : Int32) (h0 : Heap) (n0 : Nat) (v : Option Value) (h : Heap) (L : List Loc) : Prop := v = some (.int (1 : Int32)) ∧ Fr n0 L ∧ h = h0
set_option maxRecDepth 65536 in
set_option maxHeartbeats 40000000 in
theorem rm2k1 (l : Launch) (Z : State) (a0 : Array Value) (hw : ∀ d ∈ tables_1, d.before a0 Z = true) (ws : List Jvm.Cond) (a : Addr) (u : Int32) (h0 : Heap) (n0 : Nat) (Z0 : n0 ≤ h0.size) (Oa : Fld Z h0 a "java/lang/Enum" "ordinal" "I" (.int (1 : Int32))) (E_a : Exa Z h0 a "com/example/key_ranges/keyranges/KeyShape") :
    MetFree l (⟨"com/example/key_ranges/keyranges/KeyShape", "fewestValues", "(I)I"⟩ : MethodName) (head1 (Jvm.Cond.code (⟨"com/example/key_ranges/keyranges/KeyShape", "fewestValues", "(I)I"⟩ : MethodName) prog_20_method_5_code 2 (some .int) :: ws) ({ frames := 1, cells := 0, slots := 0, locals := 12 } : Room)) (fun zza zzU => zza = #[(.ref a), (.int u)] ∧ Z.Warmed39 zzU.vm ∧ zzU.heap = h0) (fun _ _ _ _ _ => True) (fun _ zzU zzo zzV => ∃ zzv zzL, zzo = .returned zzv ∧ Q2k1 Z a u h0 n0 zzv zzV.heap zzL ∧ FrameEnd zzU zzo zzV zzL ({ frames := 1, cells := 0, slots := 0, locals := 12 } : Room).cells ({ frames := 1, cells := 0, slots := 0, locals := 12 } : Room).slots) := by
  refine MetFree.of_bodySF (plainFor_of_name pn_2) hisR ?_
  intro p e s m args below meth c s₁ Bd hml0 hP hK
  obtain ⟨rfl, hZ, hh⟩ := hP
  have hx := Bd.exec
  have hby := Bd.bytes
  have hml : c.maxLocals = 2 := hml0
  have hown : s.vm.findClass "com/example/key_ranges/keyranges/KeyShape" = some m.cls := findClass_of_methodNamed Bd.named
  have hnm := (name_of_methodNamed Bd.named Bd.method).1
  have X0 : Stand p l e ({ frames := 1, cells := 0, slots := 0, locals := 12 } : Room) s m #[(.ref a), (.int u)] below meth c s₁ [] 0 0 := Stand.of_body Bd
  have e0 : s₁.heap = h0 := by rw [← hh, Bd.state]; rfl
  have N0 := Fr.nil n0
  have R0 : ∀ t, Steps p.tables e below (s₁.setTop (mkF m 0 #[.val (.ref a), .val (.int u)] [])) t → Steps p.tables e below (s₁.setTop (entryFrame m #[(.ref a), (.int u)] 2)) t := fun t k => castTop (ef2k1 m a u) k
  have R1 : ∀ t, Steps p.tables e below (s₁.setTop (mkF m 1 #[.val (.ref a), .val (.int u)] [(.ref a)])) t → Steps p.tables e below (s₁.setTop (entryFrame m #[(.ref a), (.int u)] 2)) t := by
    intro t k
    refine R0 t ?_
    show Steps p.tables e below (s₁.setTop (mkF m 0 #[.val (.ref a), .val (.int u)] [])) _
    refine XS.aloadN X0.here hx rfl (hb hby d2_0) rfl rfl ?_
    exact k
  obtain ⟨cq2, kq2, q2a, q2b, q2c⟩ := isOf hZ e0 E_a
  obtain ⟨_, _, ⟨T2, L2, k2, n2⟩, -, X2, ⟨Lc2, hQ2, l2, y2, z2⟩, st2⟩ := X0.virtualBackUp hx (owner := "java/lang/Enum") (x := (⟨"com/example/key_ranges/keyranges/KeyShape", "ordinal", "()I"⟩ : MethodName)) (y := (⟨"java/lang/Enum", "ordinal", "()I"⟩ : MethodName)) hown (mvT hZ (hw _ (List.mem_of_getElem? (i := 13) rfl))) (mvT hZ (hw _ (List.mem_of_getElem? (i := 14) rfl))) (mvT hZ (hw _ (List.mem_of_getElem? (i := 15) rfl))) (by decide) (mvT hZ (hw _ (List.mem_of_getElem? (i := 17) rfl))) (mvT hZ (hw _ (List.mem_of_getElem? (i := 16) rfl))) (backOf (W := 0) (rm3 l Z a0 hw [] a (1 : Int32) h0 n0 Z0 Oa) hZ (hw _ (List.mem_of_getElem? (i := 19) rfl)) (hw _ (List.mem_of_getElem? (i := 18) rfl)) (by decide) (by decide)) q2a q2c (g := (mkF m 1 #[.val (.ref a), .val (.int u)] [(.ref a)])) rfl (by rw [hml]; rfl) (Steps.refl _) (argsL := []) (rest := []) (lenOf pd_0 rfl) rfl (by show 2 * 0 + _ ≤ _; exact Nat.le_of_eq rfl) (hb hby d2_1) (fun _ _ => ⟨rfl, e0, (by decide : 0 + 0 ≤ _), (by decide : 0 + 0 ≤ _)⟩)
  dsimp only [Pt.U, Pt.locs, Pt.cells, Pt.slots] at X2 l2 y2 z2 st2 hQ2
  subst l2 y2 z2
  obtain ⟨rfl, Nq2, eq2⟩ := hQ2
  have N2 := Fr.app N0 Nq2
  have e2 : T2.heap = h0 := eq2
  have R3 : ∀ t, Steps p.tables e below (T2.setTop (mkF m 51 #[.val (.ref a), .val (.int u)] [(.int (1 : Int32))])) t → Steps p.tables e below (s₁.setTop (entryFrame m #[(.ref a), (.int u)] 2)) t := by
    intro t k
    refine R1 t ?_
    show Steps p.tables e below (s₁.setTop (mkF m 1 #[.val (.ref a), .val (.int u)] [(.ref a)])) _
    refine st2.trans ?_
    show Steps p.tables e below (T2.setTop (mkF m 4 #[.val (.ref a), .val (.int u)] [(.int (1 : Int32))])) _
    refine XS.tswIn X2.here hx rfl (pc0 := 4) (pc' := 46) (o := 42) rfl (hb hby d2_4) rfl (by decide) (by decide) (by decide) (by decide) ?_
    show Steps p.tables e below (T2.setTop (mkF m 46 #[.val (.ref a), .val (.int u)] [])) _
    refine XS.iconst X2.here hx rfl (hb hby d2_46) ?_
    show Steps p.tables e below (T2.setTop (mkF m 47 #[.val (.ref a), .val (.int u)] [(.int (1 : Int32))])) _
    refine XS.goto X2.here hx rfl (pc0 := 47) (pc' := 51) rfl (hb hby d2_47) (by decide) (by decide) ?_
    exact k
  obtain ⟨fs, hr, hrun, hended, hW, hsame⟩ := X2.leave (v := some (.int (1 : Int32))) (fun h => by rw [Bd.returns] at h; cases h)
  refine ⟨_, _, R3 _ ?_, hrun, hended, _, _, rfl, ?_, ⟨_, rfl⟩, hW, hsame.mono (by decide) (by decide)⟩
  · exact retI X2 hx Bd.returns (hb hby d2_51) hr
  · show Q2k1 Z a u h0 n0 _ T2.heap _
    rw [e2]
    exact ⟨rfl, N2, rfl⟩
theorem ef2k2 (m : MethodId) (x0 : Addr) (x1 : Int32) : entryFrame m #[(.ref x0), (.int x1)] 2 = mkF m 0 #[.val (.ref x0), .val (.int x1)] [] := by first | (simp [entryFrame, mkF, argsToLocals, Value.category]; done) | rfl
theorem d2_50 : decode prog_20_method_5_code 50 = .ok (.iconst 0, 1) := by decide +kernel
def Q2k2 (Z : State) (a : Addr) (u : Int32) (h0 : Heap) (n0 : Nat) (v : Option Value) (h : Heap) (L : List Loc) : Prop := v = some (.int (0 : Int32)) ∧ Fr n0 L ∧ h = h0
set_option maxRecDepth 65536 in
set_option maxHeartbeats 40000000 in
theorem rm2k2 (l : Launch) (Z : State) (a0 : Array Value) (hw : ∀ d ∈ tables_1, d.before a0 Z = true) (ws : List Jvm.Cond) (a : Addr) (u : Int32) (h0 : Heap) (n0 : Nat) (Z0 : n0 ≤ h0.size) (Oa : Fld Z h0 a "java/lang/Enum" "ordinal" "I" (.int (2 : Int32))) (E_a : Exa Z h0 a "com/example/key_ranges/keyranges/KeyShape") :
    MetFree l (⟨"com/example/key_ranges/keyranges/KeyShape", "fewestValues", "(I)I"⟩ : MethodName) (head1 (Jvm.Cond.code (⟨"com/example/key_ranges/keyranges/KeyShape", "fewestValues", "(I)I"⟩ : MethodName) prog_20_method_5_code 2 (some .int) :: ws) ({ frames := 1, cells := 0, slots := 0, locals := 12 } : Room)) (fun zza zzU => zza = #[(.ref a), (.int u)] ∧ Z.Warmed39 zzU.vm ∧ zzU.heap = h0) (fun _ _ _ _ _ => True) (fun _ zzU zzo zzV => ∃ zzv zzL, zzo = .returned zzv ∧ Q2k2 Z a u h0 n0 zzv zzV.heap zzL ∧ FrameEnd zzU zzo zzV zzL ({ frames := 1, cells := 0, slots := 0, locals := 12 } : Room).cells ({ frames := 1, cells := 0, slots := 0, locals := 12 } : Room).slots) := by
  refine MetFree.of_bodySF (plainFor_of_name pn_2) hisR ?_
  intro p e s m args below meth c s₁ Bd hml0 hP hK
  obtain ⟨rfl, hZ, hh⟩ := hP
  have hx := Bd.exec
  have hby := Bd.bytes
  have hml : c.maxLocals = 2 := hml0
  have hown : s.vm.findClass "com/example/key_ranges/keyranges/KeyShape" = some m.cls := findClass_of_methodNamed Bd.named
  have hnm := (name_of_methodNamed Bd.named Bd.method).1
  have X0 : Stand p l e ({ frames := 1, cells := 0, slots := 0, locals := 12 } : Room) s m #[(.ref a), (.int u)] below meth c s₁ [] 0 0 := Stand.of_body Bd
  have e0 : s₁.heap = h0 := by rw [← hh, Bd.state]; rfl
  have N0 := Fr.nil n0
  have R0 : ∀ t, Steps p.tables e below (s₁.setTop (mkF m 0 #[.val (.ref a), .val (.int u)] [])) t → Steps p.tables e below (s₁.setTop (entryFrame m #[(.ref a), (.int u)] 2)) t := fun t k => castTop (ef2k2 m a u) k
  have R1 : ∀ t, Steps p.tables e below (s₁.setTop (mkF m 1 #[.val (.ref a), .val (.int u)] [(.ref a)])) t → Steps p.tables e below (s₁.setTop (entryFrame m #[(.ref a), (.int u)] 2)) t := by
    intro t k
    refine R0 t ?_
    show Steps p.tables e below (s₁.setTop (mkF m 0 #[.val (.ref a), .val (.int u)] [])) _
    refine XS.aloadN X0.here hx rfl (hb hby d2_0) rfl rfl ?_
    exact k
  obtain ⟨cq2, kq2, q2a, q2b, q2c⟩ := isOf hZ e0 E_a
  obtain ⟨_, _, ⟨T2, L2, k2, n2⟩, -, X2, ⟨Lc2, hQ2, l2, y2, z2⟩, st2⟩ := X0.virtualBackUp hx (owner := "java/lang/Enum") (x := (⟨"com/example/key_ranges/keyranges/KeyShape", "ordinal", "()I"⟩ : MethodName)) (y := (⟨"java/lang/Enum", "ordinal", "()I"⟩ : MethodName)) hown (mvT hZ (hw _ (List.mem_of_getElem? (i := 13) rfl))) (mvT hZ (hw _ (List.mem_of_getElem? (i := 14) rfl))) (mvT hZ (hw _ (List.mem_of_getElem? (i := 15) rfl))) (by decide) (mvT hZ (hw _ (List.mem_of_getElem? (i := 17) rfl))) (mvT hZ (hw _ (List.mem_of_getElem? (i := 16) rfl))) (backOf (W := 0) (rm3 l Z a0 hw [] a (2 : Int32) h0 n0 Z0 Oa) hZ (hw _ (List.mem_of_getElem? (i := 19) rfl)) (hw _ (List.mem_of_getElem? (i := 18) rfl)) (by decide) (by decide)) q2a q2c (g := (mkF m 1 #[.val (.ref a), .val (.int u)] [(.ref a)])) rfl (by rw [hml]; rfl) (Steps.refl _) (argsL := []) (rest := []) (lenOf pd_0 rfl) rfl (by show 2 * 0 + _ ≤ _; exact Nat.le_of_eq rfl) (hb hby d2_1) (fun _ _ => ⟨rfl, e0, (by decide : 0 + 0 ≤ _), (by decide : 0 + 0 ≤ _)⟩)
  dsimp only [Pt.U, Pt.locs, Pt.cells, Pt.slots] at X2 l2 y2 z2 st2 hQ2
  subst l2 y2 z2
  obtain ⟨rfl, Nq2, eq2⟩ := hQ2
  have N2 := Fr.app N0 Nq2
  have e2 : T2.heap = h0 := eq2
  have R3 : ∀ t, Steps p.tables e below (T2.setTop (mkF m 51 #[.val (.ref a), .val (.int u)] [(.int (0 : Int32))])) t → Steps p.tables e below (s₁.setTop (entryFrame m #[(.ref a), (.int u)] 2)) t := by
    intro t k
    refine R1 t ?_
    show Steps p.tables e below (s₁.setTop (mkF m 1 #[.val (.ref a), .val (.int u)] [(.ref a)])) _
    refine st2.trans ?_
    show Steps p.tables e below (T2.setTop (mkF m 4 #[.val (.ref a), .val (.int u)] [(.int (2 : Int32))])) _
    refine XS.tswIn X2.here hx rfl (pc0 := 4) (pc' := 50) (o := 46) rfl (hb hby d2_4) rfl (by decide) (by decide) (by decide) (by decide) ?_
    show Steps p.tables e below (T2.setTop (mkF m 50 #[.val (.ref a), .val (.int u)] [])) _
    refine XS.iconst X2.here hx rfl (hb hby d2_50) ?_
    exact k
  obtain ⟨fs, hr, hrun, hended, hW, hsame⟩ := X2.leave (v := some (.int (0 : Int32))) (fun h => by rw [Bd.returns] at h; cases h)
  refine ⟨_, _, R3 _ ?_, hrun, hended, _, _, rfl, ?_, ⟨_, rfl⟩, hW, hsame.mono (by decide) (by decide)⟩
  · exact retI X2 hx Bd.returns (hb hby d2_51) hr
  · show Q2k2 Z a u h0 n0 _ T2.heap _
    rw [e2]
    exact ⟨rfl, N2, rfl⟩
theorem ef4 (m : MethodId) (x0 : Addr) : entryFrame m #[(.ref x0)] 1 = mkF m 0 #[.val (.ref x0)] [] := by first | (simp [entryFrame, mkF, argsToLocals, Value.category]; done) | rfl
theorem d4_0 : decode prog_20_method_6_code 0 = .ok (.aload_n 0, 1) := by decide +kernel
theorem d4_1 : decode prog_20_method_6_code 1 = .ok (.getstatic 10, 3) := by decide +kernel
theorem d4_4 : decode prog_20_method_6_code 4 = .ok (.if_acmp .ne 7, 3) := by decide +kernel
theorem d4_7 : decode prog_20_method_6_code 7 = .ok (.iconst 1, 1) := by decide +kernel
theorem d4_8 : decode prog_20_method_6_code 8 = .ok (.goto 4, 3) := by decide +kernel
theorem d4_12 : decode prog_20_method_6_code 12 = .ok (.ireturn, 1) := by decide +kernel
theorem d4_11 : decode prog_20_method_6_code 11 = .ok (.iconst 0, 1) := by decide +kernel
def Q4 (Z : State) (a : Addr) (ae : Addr) (h0 : Heap) (n0 : Nat) (v : Option Value) (h : Heap) (L : List Loc) : Prop := v = some (.int (if a = ae then (1 : Int32) else (0 : Int32))) ∧ Fr n0 L ∧ h = h0
set_option maxRecDepth 65536 in
set_option maxHeartbeats 40000000 in
theorem rm4 (l : Launch) (Z : State) (a0 : Array Value) (hw : ∀ d ∈ tables_1, d.before a0 Z = true) (ws : List Jvm.Cond) (a : Addr) (ae : Addr) (h0 : Heap) (n0 : Nat) (Z0 : n0 ≤ h0.size) (Sae : Sta Z h0 "com/example/key_ranges/keyranges/KeyShape" "RANGE_END" "Lcom/example/key_ranges/keyranges/KeyShape;" (.ref ae)) :
    MetFree l (⟨"com/example/key_ranges/keyranges/KeyShape", "takesBounds", "()Z"⟩ : MethodName) (head1 (Jvm.Cond.code (⟨"com/example/key_ranges/keyranges/KeyShape", "takesBounds", "()Z"⟩ : MethodName) prog_20_method_6_code 1 (some .boolean) :: ws) ({ frames := 0, cells := 0, slots := 0, locals := 0 } : Room)) (fun zza zzU => zza = #[(.ref a)] ∧ Z.Warmed39 zzU.vm ∧ zzU.heap = h0) (fun _ _ _ _ _ => True) (fun _ zzU zzo zzV => ∃ zzv zzL, zzo = .returned zzv ∧ Q4 Z a ae h0 n0 zzv zzV.heap zzL ∧ FrameEnd zzU zzo zzV zzL ({ frames := 0, cells := 0, slots := 0, locals := 0 } : Room).cells ({ frames := 0, cells := 0, slots := 0, locals := 0 } : Room).slots) := by
  refine MetFree.of_bodySF (plainFor_of_name pn_2) hisR ?_
  intro p e s m args below meth c s₁ Bd hml0 hP hK
  obtain ⟨rfl, hZ, hh⟩ := hP
  have hx := Bd.exec
  have hby := Bd.bytes
  have hml : c.maxLocals = 1 := hml0
  have hown : s.vm.findClass "com/example/key_ranges/keyranges/KeyShape" = some m.cls := findClass_of_methodNamed Bd.named
  have hnm := (name_of_methodNamed Bd.named Bd.method).1
  have X0 : Stand p l e ({ frames := 0, cells := 0, slots := 0, locals := 0 } : Room) s m #[(.ref a)] below meth c s₁ [] 0 0 := Stand.of_body Bd
  have e0 : s₁.heap = h0 := by rw [← hh, Bd.state]; rfl
  have N0 := Fr.nil n0
  have R0 : ∀ t, Steps p.tables e below (s₁.setTop (mkF m 0 #[.val (.ref a)] [])) t → Steps p.tables e below (s₁.setTop (entryFrame m #[(.ref a)] 1)) t := fun t k => castTop (ef4 m a) k
  have R1 : ∀ t, Steps p.tables e below (s₁.setTop (mkF m 1 #[.val (.ref a)] [(.ref a)])) t → Steps p.tables e below (s₁.setTop (entryFrame m #[(.ref a)] 1)) t := by
    intro t k
    refine R0 t ?_
    show Steps p.tables e below (s₁.setTop (mkF m 0 #[.val (.ref a)] [])) _
    refine XS.aloadN X0.here hx rfl (hb hby d4_0) rfl rfl ?_
    exact k
  obtain ⟨T2, X2, e2, st2⟩ := getS2 X0 hx hZ hown (host := "") (Or.inl (hw _ (List.mem_of_getElem? (i := 27) rfl))) Via.refl e0 Sae (g := (mkF m 1 #[.val (.ref a)] [(.ref a)])) rfl (hb hby d4_1)
  have R3 : ∀ t, Steps p.tables e below (T2.setTop (mkF m 4 #[.val (.ref a)] [(.ref ae), (.ref a)])) t → Steps p.tables e below (s₁.setTop (entryFrame m #[(.ref a)] 1)) t := by
    intro t k
    refine R1 t ?_
    show Steps p.tables e below (s₁.setTop (mkF m 1 #[.val (.ref a)] [(.ref a)])) _
    refine st2 _ ?_
    exact k
  by_cases hc4 : a = ae
  ·
    skip
    have R5 : ∀ t, Steps p.tables e below (T2.setTop (mkF m 12 #[.val (.ref a)] [(.int (1 : Int32))])) t → Steps p.tables e below (s₁.setTop (entryFrame m #[(.ref a)] 1)) t := by
      intro t k
      refine R3 t ?_
      show Steps p.tables e below (T2.setTop (mkF m 4 #[.val (.ref a)] [(.ref ae), (.ref a)])) _
      refine Jvm.RoadKit.acmp (g := (mkF m 4 #[.val (.ref a)] [(.ref ae), (.ref a)])) X2 hx rfl rfl rfl (pc0 := 4) (pc' := 7) (same := true) rfl (hb hby d4_4) rfl (decide_eq_true (congrArg Value.ref hc4)) (by decide) (by decide) ?_
      show Steps p.tables e below (T2.setTop (mkF m 7 #[.val (.ref a)] [])) _
      refine XS.iconst X2.here hx rfl (hb hby d4_7) ?_
      show Steps p.tables e below (T2.setTop (mkF m 8 #[.val (.ref a)] [(.int (1 : Int32))])) _
      refine XS.goto X2.here hx rfl (pc0 := 8) (pc' := 12) rfl (hb hby d4_8) (by decide) (by decide) ?_
      exact k
    obtain ⟨fs, hr, hrun, hended, hW, hsame⟩ := X2.leave (v := some (.int (1 : Int32))) (fun h => by rw [Bd.returns] at h; cases h)
    refine ⟨_, _, R5 _ ?_, hrun, hended, _, _, rfl, ?_, ⟨_, rfl⟩, hW, hsame.mono (by decide) (by decide)⟩
    · exact retN X2 hx (t := .boolean) Bd.returns (by simp) (hb hby d4_12) hr
    · show Q4 Z a ae h0 n0 _ T2.heap _
      rw [e2]
      exact ⟨(by rw [if_pos hc4]), N0, rfl⟩
  ·
    skip
    have R6 : ∀ t, Steps p.tables e below (T2.setTop (mkF m 12 #[.val (.ref a)] [(.int (0 : Int32))])) t → Steps p.tables e below (s₁.setTop (entryFrame m #[(.ref a)] 1)) t := by
      intro t k
      refine R3 t ?_
      show Steps p.tables e below (T2.setTop (mkF m 4 #[.val (.ref a)] [(.ref ae), (.ref a)])) _
      refine Jvm.RoadKit.acmp (g := (mkF m 4 #[.val (.ref a)] [(.ref ae), (.ref a)])) X2 hx rfl rfl rfl (pc0 := 4) (pc' := 11) (same := false) rfl (hb hby d4_4) rfl (decide_eq_false fun q => hc4 (Value.ref.inj q)) (by decide) (by decide) ?_
      show Steps p.tables e below (T2.setTop (mkF m 11 #[.val (.ref a)] [])) _
      refine XS.iconst X2.here hx rfl (hb hby d4_11) ?_
      exact k
    obtain ⟨fs, hr, hrun, hended, hW, hsame⟩ := X2.leave (v := some (.int (0 : Int32))) (fun h => by rw [Bd.returns] at h; cases h)
    refine ⟨_, _, R6 _ ?_, hrun, hended, _, _, rfl, ?_, ⟨_, rfl⟩, hW, hsame.mono (by decide) (by decide)⟩
    · exact retN X2 hx (t := .boolean) Bd.returns (by simp) (hb hby d4_12) hr
    · show Q4 Z a ae h0 n0 _ T2.heap _
      rw [e2]
      exact ⟨(by rw [if_neg hc4]), N0, rfl⟩
theorem ef0 (m : MethodId) (x0 : Int32) (x1 : Int32) : entryFrame m #[(.int x0), (.int x1)] maxLocals = mkF m 0 #[.val (.int x0), .val (.int x1), .unset, .unset, .unset, .unset] [] := by first | (simp [entryFrame, mkF, argsToLocals, Value.category, maxLocals]; done) | rfl
theorem pd_1 : parseMethodDescriptor "(I)Lcom/example/key_ranges/keyranges/KeyShape;" = some ⟨[.int], some (.object "com/example/key_ranges/keyranges/KeyShape")⟩ := by decide +kernel
theorem pd_2 : parseMethodDescriptor "(I)I" = some ⟨[.int], some .int⟩ := by decide +kernel
theorem pd_3 : parseMethodDescriptor "()Z" = some ⟨[], some .boolean⟩ := by decide +kernel
def Q0 (Z : State) (p0 : Int32) (p1 : Int32) (ak : Addr) (ap : Addr) (ae : Addr) (h0 : Heap) (n0 : Nat) (v : Option Value) (h : Heap) (L : List Loc) : Prop := v = some (.int (1 : Int32)) ∧ Fr n0 L
set_option maxRecDepth 65536 in
set_option maxHeartbeats 40000000 in
theorem rm0 (l : Launch) (Z : State) (a0 : Array Value) (hw : ∀ d ∈ tables_1, d.before a0 Z = true) (ws : List Jvm.Cond) (p0 : Int32) (p1 : Int32) (ak : Addr) (ap : Addr) (ae : Addr) (h0 : Heap) (n0 : Nat) (Z0 : n0 ≤ h0.size) (Sak : Sta Z h0 "com/example/key_ranges/keyranges/KeyShape" "KEY" "Lcom/example/key_ranges/keyranges/KeyShape;" (.ref ak)) (Sap : Sta Z h0 "com/example/key_ranges/keyranges/KeyShape" "PARTIAL_KEY" "Lcom/example/key_ranges/keyranges/KeyShape;" (.ref ap)) (Sae : Sta Z h0 "com/example/key_ranges/keyranges/KeyShape" "RANGE_END" "Lcom/example/key_ranges/keyranges/KeyShape;" (.ref ae)) (Eak : Exa Z h0 ak "com/example/key_ranges/keyranges/KeyShape") (Eap : Exa Z h0 ap "com/example/key_ranges/keyranges/KeyShape") (Eae : Exa Z h0 ae "com/example/key_ranges/keyranges/KeyShape") (Oak : Fld Z h0 ak "java/lang/Enum" "ordinal" "I" (.int (0 : Int32))) (Oap : Fld Z h0 ap "java/lang/Enum" "ordinal" "I" (.int (1 : Int32))) (Oae : Fld Z h0 ae "java/lang/Enum" "ordinal" "I" (.int (2 : Int32))) (nk : ak ≠ ae) (np : ap ≠ ae) :
    MetFree l x (head1 (Jvm.Cond.code x code maxLocals ret :: ws) room_1) (fun zza zzU => zza = #[(.int p0), (.int p1)] ∧ Z.Warmed39 zzU.vm ∧ zzU.heap = h0) (fun _ _ _ _ _ => True) (fun _ zzU zzo zzV => ∃ zzv zzL, zzo = .returned zzv ∧ Q0 Z p0 p1 ak ap ae h0 n0 zzv zzV.heap zzL ∧ FrameEnd zzU zzo zzV zzL 0 0) := by
  refine MetFree.of_bodySF (plainFor_of_name pn_0) hisR ?_
  intro p e s m args below meth c s₁ Bd hml0 hP hK
  obtain ⟨rfl, hZ, hh⟩ := hP
  have hx := Bd.exec
  have hby := Bd.bytes
  have hml : c.maxLocals = 6 := hml0
  have hown : s.vm.findClass "com/example/key_ranges/keyranges/KeyShapeFewestValuesPinLaw" = some m.cls := findClass_of_methodNamed Bd.named
  have hnm := (name_of_methodNamed Bd.named Bd.method).1
  have X0 : Stand p l e room_1 s m #[(.int p0), (.int p1)] below meth c s₁ [] 0 0 := Stand.of_body Bd
  have e0 : s₁.heap = h0 := by rw [← hh, Bd.state]; rfl
  have N0 := Fr.nil n0
  have R0 : ∀ t, Steps p.tables e below (s₁.setTop (mkF m 0 #[.val (.int p0), .val (.int p1), .unset, .unset, .unset, .unset] [])) t → Steps p.tables e below (s₁.setTop (entryFrame m #[(.int p0), (.int p1)] maxLocals)) t := fun t k => castTop (ef0 m p0 p1) k
  have R1 : ∀ t, Steps p.tables e below (s₁.setTop (mkF m 8 #[.val (.int p0), .val (.int p1), .val (.int ((p0 &&& (2147483647 : Int32)) % (3 : Int32))), .unset, .unset, .unset] [(.int ((p0 &&& (2147483647 : Int32)) % (3 : Int32)))])) t → Steps p.tables e below (s₁.setTop (entryFrame m #[(.int p0), (.int p1)] maxLocals)) t := by
    intro t k
    refine R0 t ?_
    show Steps p.tables e below (s₁.setTop (mkF m 0 #[.val (.int p0), .val (.int p1), .unset, .unset, .unset, .unset] [])) _
    refine XS.iloadN X0.here hx rfl (hb hby at_0) rfl ?_
    show Steps p.tables e below (s₁.setTop (mkF m 1 #[.val (.int p0), .val (.int p1), .unset, .unset, .unset, .unset] [(.int p0)])) _
    refine X0.ldcInt hx hown (mvT hZ (hw _ (List.mem_of_getElem? (i := 0) rfl))) (g := (mkF m 1 #[.val (.int p0), .val (.int p1), .unset, .unset, .unset, .unset] [(.int p0)])) rfl (hb hby at_1) _ ?_
    show Steps p.tables e below (s₁.setTop (mkF m 3 #[.val (.int p0), .val (.int p1), .unset, .unset, .unset, .unset] [(.int (2147483647 : Int32)), (.int p0)])) _
    refine XS.iand X0.here hx rfl (hb hby at_3) rfl ?_
    show Steps p.tables e below (s₁.setTop (mkF m 4 #[.val (.int p0), .val (.int p1), .unset, .unset, .unset, .unset] [(.int (p0 &&& (2147483647 : Int32)))])) _
    refine XS.iconst X0.here hx rfl (hb hby at_4) ?_
    show Steps p.tables e below (s₁.setTop (mkF m 5 #[.val (.int p0), .val (.int p1), .unset, .unset, .unset, .unset] [(.int (3 : Int32)), (.int (p0 &&& (2147483647 : Int32)))])) _
    refine iremM X0 hx rfl (hb hby at_5) rfl (by decide) ?_
    show Steps p.tables e below (s₁.setTop (mkF m 6 #[.val (.int p0), .val (.int p1), .unset, .unset, .unset, .unset] [(.int ((p0 &&& (2147483647 : Int32)) % (3 : Int32)))])) _
    refine XS.istoreN X0.here hx rfl (hb hby at_6) rfl (l' := #[.val (.int p0), .val (.int p1), .val (.int ((p0 &&& (2147483647 : Int32)) % (3 : Int32))), .unset, .unset, .unset]) rfl ?_
    show Steps p.tables e below (s₁.setTop (mkF m 7 #[.val (.int p0), .val (.int p1), .val (.int ((p0 &&& (2147483647 : Int32)) % (3 : Int32))), .unset, .unset, .unset] [])) _
    refine XS.iloadN X0.here hx rfl (hb hby at_7) rfl ?_
    exact k
  obtain ⟨_, _, ⟨T2, L2, k2, n2⟩, -, X2, ⟨Lc2, hQ2, l2, y2, z2⟩, st2⟩ := Jvm.LawKit.callS X0 hx (y := (⟨"com/example/key_ranges/keyranges/KeyShapeFewestValuesPinLaw", "pick", "(I)Lcom/example/key_ranges/keyranges/KeyShape;"⟩ : MethodName)) hown (mvT hZ (hw _ (List.mem_of_getElem? (i := 1) rfl))) (mvT hZ (hw _ (List.mem_of_getElem? (i := 2) rfl))) (mvT hZ (hw _ (List.mem_of_getElem? (i := 3) rfl))) (mvT hZ (hw _ (List.mem_of_getElem? (i := 4) rfl))) (by decide) (backOf (W := 0) (rm1 l Z a0 hw [] ((p0 &&& (2147483647 : Int32)) % (3 : Int32)) ak ap ae h0 n0 Z0 Sak Sap Sae) hZ (hw _ (List.mem_of_getElem? (i := 4) rfl)) (hw _ (List.mem_of_getElem? (i := 3) rfl)) (by decide) (by decide)) (g := (mkF m 8 #[.val (.int p0), .val (.int p1), .val (.int ((p0 &&& (2147483647 : Int32)) % (3 : Int32))), .unset, .unset, .unset] [(.int ((p0 &&& (2147483647 : Int32)) % (3 : Int32)))])) rfl (by rw [hml]; rfl) (argsL := [(.int ((p0 &&& (2147483647 : Int32)) % (3 : Int32)))]) (rest := []) (lenOf pd_1 rfl) rfl (by show 2 * 0 + _ ≤ _; exact Nat.le_of_eq rfl) (hb hby at_8) (fun _ _ => ⟨rfl, e0, (by decide : 0 + 0 ≤ _), (by decide : 0 + 0 ≤ _)⟩)
  dsimp only [Pt.U, Pt.locs, Pt.cells, Pt.slots] at X2 l2 y2 z2 st2 hQ2
  subst l2 y2 z2
  obtain ⟨rfl, Nq2, eq2⟩ := hQ2
  have N2 := Fr.app N0 Nq2
  have e2 : T2.heap = h0 := eq2
  have R3 : ∀ t, Steps p.tables e below (T2.setTop (mkF m 14 #[.val (.int p0), .val (.int p1), .val (.int ((p0 &&& (2147483647 : Int32)) % (3 : Int32))), .val (.ref (if ((p0 &&& (2147483647 : Int32)) % (3 : Int32)) = (0 : Int32) then ak else if ((p0 &&& (2147483647 : Int32)) % (3 : Int32)) = (1 : Int32) then ap else ae)), .unset, .unset] [(.int p1), (.ref (if ((p0 &&& (2147483647 : Int32)) % (3 : Int32)) = (0 : Int32) then ak else if ((p0 &&& (2147483647 : Int32)) % (3 : Int32)) = (1 : Int32) then ap else ae))])) t → Steps p.tables e below (s₁.setTop (entryFrame m #[(.int p0), (.int p1)] maxLocals)) t := by
    intro t k
    refine R1 t ?_
    show Steps p.tables e below (s₁.setTop (mkF m 8 #[.val (.int p0), .val (.int p1), .val (.int ((p0 &&& (2147483647 : Int32)) % (3 : Int32))), .unset, .unset, .unset] [(.int ((p0 &&& (2147483647 : Int32)) % (3 : Int32)))])) _
    refine st2 _ ?_
    show Steps p.tables e below (T2.setTop (mkF m 11 #[.val (.int p0), .val (.int p1), .val (.int ((p0 &&& (2147483647 : Int32)) % (3 : Int32))), .unset, .unset, .unset] [(.ref (if ((p0 &&& (2147483647 : Int32)) % (3 : Int32)) = (0 : Int32) then ak else if ((p0 &&& (2147483647 : Int32)) % (3 : Int32)) = (1 : Int32) then ap else ae))])) _
    refine XS.astoreN X2.here hx rfl (hb hby at_11) rfl rfl (l' := #[.val (.int p0), .val (.int p1), .val (.int ((p0 &&& (2147483647 : Int32)) % (3 : Int32))), .val (.ref (if ((p0 &&& (2147483647 : Int32)) % (3 : Int32)) = (0 : Int32) then ak else if ((p0 &&& (2147483647 : Int32)) % (3 : Int32)) = (1 : Int32) then ap else ae)), .unset, .unset]) rfl ?_
    show Steps p.tables e below (T2.setTop (mkF m 12 #[.val (.int p0), .val (.int p1), .val (.int ((p0 &&& (2147483647 : Int32)) % (3 : Int32))), .val (.ref (if ((p0 &&& (2147483647 : Int32)) % (3 : Int32)) = (0 : Int32) then ak else if ((p0 &&& (2147483647 : Int32)) % (3 : Int32)) = (1 : Int32) then ap else ae)), .unset, .unset] [])) _
    refine XS.aloadN X2.here hx rfl (hb hby at_12) rfl rfl ?_
    show Steps p.tables e below (T2.setTop (mkF m 13 #[.val (.int p0), .val (.int p1), .val (.int ((p0 &&& (2147483647 : Int32)) % (3 : Int32))), .val (.ref (if ((p0 &&& (2147483647 : Int32)) % (3 : Int32)) = (0 : Int32) then ak else if ((p0 &&& (2147483647 : Int32)) % (3 : Int32)) = (1 : Int32) then ap else ae)), .unset, .unset] [(.ref (if ((p0 &&& (2147483647 : Int32)) % (3 : Int32)) = (0 : Int32) then ak else if ((p0 &&& (2147483647 : Int32)) % (3 : Int32)) = (1 : Int32) then ap else ae))])) _
    refine XS.iloadN X2.here hx rfl (hb hby at_13) rfl ?_
    exact k
  by_cases hk0 : ((p0 &&& (2147483647 : Int32)) % (3 : Int32)) = (0 : Int32)
  ·
    rw [if_pos hk0] at R3
    obtain ⟨cq4, kq4, q4a, q4b, q4c⟩ := isOf hZ e2 Eak
    obtain ⟨_, _, ⟨T4, L4, k4, n4⟩, -, X4, ⟨Lc4, hQ4, l4, y4, z4⟩, st4⟩ := X2.virtualBack hx (y := (⟨"com/example/key_ranges/keyranges/KeyShape", "fewestValues", "(I)I"⟩ : MethodName)) (z := (⟨"com/example/key_ranges/keyranges/KeyShape", "fewestValues", "(I)I"⟩ : MethodName)) hown (mvT hZ (hw _ (List.mem_of_getElem? (i := 8) rfl))) (mvT hZ (hw _ (List.mem_of_getElem? (i := 9) rfl))) (notFace_of_selects (args := #[]) (mvT hZ (hw _ (List.mem_of_getElem? (i := 11) rfl)))) (mvT hZ (hw _ (List.mem_of_getElem? (i := 11) rfl))) (mvT hZ (hw _ (List.mem_of_getElem? (i := 10) rfl))) (by decide) (backOf (W := 0) (rm2k0 l Z a0 hw [] ak p1 h0 n0 Z0 Oak Eak) hZ (hw _ (List.mem_of_getElem? (i := 12) rfl)) (hw _ (List.mem_of_getElem? (i := 6) rfl)) (by decide) (by decide)) q4a q4c (g := (mkF m 14 #[.val (.int p0), .val (.int p1), .val (.int ((p0 &&& (2147483647 : Int32)) % (3 : Int32))), .val (.ref ak), .unset, .unset] [(.int p1), (.ref ak)])) rfl (by rw [hml]; rfl) (Steps.refl _) (argsL := [(.int p1)]) (rest := []) (lenOf pd_2 rfl) rfl (by show 2 * 0 + _ ≤ _; exact Nat.le_of_eq rfl) (hb hby at_14) (fun _ _ => ⟨rfl, e2, (by decide : 0 + 0 ≤ _), (by decide : 0 + 0 ≤ _)⟩)
    dsimp only [Pt.U, Pt.locs, Pt.cells, Pt.slots] at X4 l4 y4 z4 st4 hQ4
    subst l4 y4 z4
    obtain ⟨rfl, Nq4, eq4⟩ := hQ4
    have N4 := Fr.app N2 Nq4
    have e4 : T4.heap = h0 := eq4
    have R5 : ∀ t, Steps p.tables e below (T4.setTop (mkF m 54 #[.val (.int p0), .val (.int p1), .val (.int ((p0 &&& (2147483647 : Int32)) % (3 : Int32))), .val (.ref ak), .val (.int p1), .val (.int p1)] [(.int (1 : Int32)), (.int p1)])) t → Steps p.tables e below (s₁.setTop (entryFrame m #[(.int p0), (.int p1)] maxLocals)) t := by
      intro t k
      refine R3 t ?_
      show Steps p.tables e below (T2.setTop (mkF m 14 #[.val (.int p0), .val (.int p1), .val (.int ((p0 &&& (2147483647 : Int32)) % (3 : Int32))), .val (.ref ak), .unset, .unset] [(.int p1), (.ref ak)])) _
      refine st4.trans ?_
      show Steps p.tables e below (T4.setTop (mkF m 17 #[.val (.int p0), .val (.int p1), .val (.int ((p0 &&& (2147483647 : Int32)) % (3 : Int32))), .val (.ref ak), .unset, .unset] [(.int p1)])) _
      refine XS.istore X4.here hx rfl (hb hby at_17) rfl (l' := #[.val (.int p0), .val (.int p1), .val (.int ((p0 &&& (2147483647 : Int32)) % (3 : Int32))), .val (.ref ak), .val (.int p1), .unset]) rfl ?_
      show Steps p.tables e below (T4.setTop (mkF m 19 #[.val (.int p0), .val (.int p1), .val (.int ((p0 &&& (2147483647 : Int32)) % (3 : Int32))), .val (.ref ak), .val (.int p1), .unset] [])) _
      refine XS.iloadN X4.here hx rfl (hb hby at_19) rfl ?_
      show Steps p.tables e below (T4.setTop (mkF m 20 #[.val (.int p0), .val (.int p1), .val (.int ((p0 &&& (2147483647 : Int32)) % (3 : Int32))), .val (.ref ak), .val (.int p1), .unset] [(.int ((p0 &&& (2147483647 : Int32)) % (3 : Int32)))])) _
      refine XS.ifNo X4.here hx rfl (hb hby at_20) rfl ((if0 _ _).trans (teq hk0).2) ?_
      show Steps p.tables e below (T4.setTop (mkF m 23 #[.val (.int p0), .val (.int p1), .val (.int ((p0 &&& (2147483647 : Int32)) % (3 : Int32))), .val (.ref ak), .val (.int p1), .unset] [])) _
      refine XS.iloadN X4.here hx rfl (hb hby at_23) rfl ?_
      show Steps p.tables e below (T4.setTop (mkF m 24 #[.val (.int p0), .val (.int p1), .val (.int ((p0 &&& (2147483647 : Int32)) % (3 : Int32))), .val (.ref ak), .val (.int p1), .unset] [(.int p1)])) _
      refine XS.istore X4.here hx rfl (hb hby at_24) rfl (l' := #[.val (.int p0), .val (.int p1), .val (.int ((p0 &&& (2147483647 : Int32)) % (3 : Int32))), .val (.ref ak), .val (.int p1), .val (.int p1)]) rfl ?_
      show Steps p.tables e below (T4.setTop (mkF m 26 #[.val (.int p0), .val (.int p1), .val (.int ((p0 &&& (2147483647 : Int32)) % (3 : Int32))), .val (.ref ak), .val (.int p1), .val (.int p1)] [])) _
      refine XS.goto X4.here hx rfl (pc0 := 26) (pc' := 43) rfl (hb hby at_26) (by decide) (by decide) ?_
      show Steps p.tables e below (T4.setTop (mkF m 43 #[.val (.int p0), .val (.int p1), .val (.int ((p0 &&& (2147483647 : Int32)) % (3 : Int32))), .val (.ref ak), .val (.int p1), .val (.int p1)] [])) _
      refine XS.iload X4.here hx rfl (hb hby at_43) rfl ?_
      show Steps p.tables e below (T4.setTop (mkF m 45 #[.val (.int p0), .val (.int p1), .val (.int ((p0 &&& (2147483647 : Int32)) % (3 : Int32))), .val (.ref ak), .val (.int p1), .val (.int p1)] [(.int p1)])) _
      refine XS.iload X4.here hx rfl (hb hby at_45) rfl ?_
      show Steps p.tables e below (T4.setTop (mkF m 47 #[.val (.int p0), .val (.int p1), .val (.int ((p0 &&& (2147483647 : Int32)) % (3 : Int32))), .val (.ref ak), .val (.int p1), .val (.int p1)] [(.int p1), (.int p1)])) _
      refine XS.icmpYes X4.here hx rfl (pc0 := 47) (pc' := 52) rfl (hb hby at_47) rfl (teq (rfl : p1 = p1)).1 (by decide) (by decide) ?_
      show Steps p.tables e below (T4.setTop (mkF m 52 #[.val (.int p0), .val (.int p1), .val (.int ((p0 &&& (2147483647 : Int32)) % (3 : Int32))), .val (.ref ak), .val (.int p1), .val (.int p1)] [])) _
      refine XS.iloadN X4.here hx rfl (hb hby at_52) rfl ?_
      show Steps p.tables e below (T4.setTop (mkF m 53 #[.val (.int p0), .val (.int p1), .val (.int ((p0 &&& (2147483647 : Int32)) % (3 : Int32))), .val (.ref ak), .val (.int p1), .val (.int p1)] [(.int p1)])) _
      refine XS.iconst X4.here hx rfl (hb hby at_53) ?_
      exact k
    by_cases hc6 : p1 < (1 : Int32)
    ·
      skip
      have R7 : ∀ t, Steps p.tables e below (T4.setTop (mkF m 72 #[.val (.int p0), .val (.int p1), .val (.int ((p0 &&& (2147483647 : Int32)) % (3 : Int32))), .val (.ref ak), .val (.int p1), .val (.int p1)] [(.int p1)])) t → Steps p.tables e below (s₁.setTop (entryFrame m #[(.int p0), (.int p1)] maxLocals)) t := by
        intro t k
        refine R5 t ?_
        show Steps p.tables e below (T4.setTop (mkF m 54 #[.val (.int p0), .val (.int p1), .val (.int ((p0 &&& (2147483647 : Int32)) % (3 : Int32))), .val (.ref ak), .val (.int p1), .val (.int p1)] [(.int (1 : Int32)), (.int p1)])) _
        refine XS.icmpYes X4.here hx rfl (pc0 := 54) (pc' := 70) rfl (hb hby at_54) rfl (tlt hc6).1 (by decide) (by decide) ?_
        show Steps p.tables e below (T4.setTop (mkF m 70 #[.val (.int p0), .val (.int p1), .val (.int ((p0 &&& (2147483647 : Int32)) % (3 : Int32))), .val (.ref ak), .val (.int p1), .val (.int p1)] [])) _
        refine XS.iload X4.here hx rfl (hb hby at_70) rfl ?_
        exact k
      by_cases hc8 : p1 = (0 : Int32)
      ·
        skip
        have R9 : ∀ t, Steps p.tables e below (T4.setTop (mkF m 85 #[.val (.int p0), .val (.int p1), .val (.int ((p0 &&& (2147483647 : Int32)) % (3 : Int32))), .val (.ref ak), .val (.int p1), .val (.int p1)] [(.ref ak), (.int (0 : Int32))])) t → Steps p.tables e below (s₁.setTop (entryFrame m #[(.int p0), (.int p1)] maxLocals)) t := by
          intro t k
          refine R7 t ?_
          show Steps p.tables e below (T4.setTop (mkF m 72 #[.val (.int p0), .val (.int p1), .val (.int ((p0 &&& (2147483647 : Int32)) % (3 : Int32))), .val (.ref ak), .val (.int p1), .val (.int p1)] [(.int p1)])) _
          refine XS.ifNo X4.here hx rfl (hb hby at_72) rfl ((if0 _ _).trans (teq hc8).2) ?_
          show Steps p.tables e below (T4.setTop (mkF m 75 #[.val (.int p0), .val (.int p1), .val (.int ((p0 &&& (2147483647 : Int32)) % (3 : Int32))), .val (.ref ak), .val (.int p1), .val (.int p1)] [])) _
          refine XS.iloadN X4.here hx rfl (hb hby at_75) rfl ?_
          show Steps p.tables e below (T4.setTop (mkF m 76 #[.val (.int p0), .val (.int p1), .val (.int ((p0 &&& (2147483647 : Int32)) % (3 : Int32))), .val (.ref ak), .val (.int p1), .val (.int p1)] [(.int p1)])) _
          refine XS.ifYes X4.here hx rfl (pc0 := 76) (pc' := 83) rfl (hb hby at_76) rfl ((if0 _ _).trans (teq hc8).1) (by decide) (by decide) ?_
          show Steps p.tables e below (T4.setTop (mkF m 83 #[.val (.int p0), .val (.int p1), .val (.int ((p0 &&& (2147483647 : Int32)) % (3 : Int32))), .val (.ref ak), .val (.int p1), .val (.int p1)] [])) _
          refine XS.iconst X4.here hx rfl (hb hby at_83) ?_
          show Steps p.tables e below (T4.setTop (mkF m 84 #[.val (.int p0), .val (.int p1), .val (.int ((p0 &&& (2147483647 : Int32)) % (3 : Int32))), .val (.ref ak), .val (.int p1), .val (.int p1)] [(.int (0 : Int32))])) _
          refine XS.aloadN X4.here hx rfl (hb hby at_84) rfl rfl ?_
          exact k
        obtain ⟨cq10, kq10, q10a, q10b, q10c⟩ := isOf hZ e4 Eak
        obtain ⟨_, _, ⟨T10, L10, k10, n10⟩, -, X10, ⟨Lc10, hQ10, l10, y10, z10⟩, st10⟩ := X4.virtualBack hx (y := (⟨"com/example/key_ranges/keyranges/KeyShape", "takesBounds", "()Z"⟩ : MethodName)) (z := (⟨"com/example/key_ranges/keyranges/KeyShape", "takesBounds", "()Z"⟩ : MethodName)) hown (mvT hZ (hw _ (List.mem_of_getElem? (i := 22) rfl))) (mvT hZ (hw _ (List.mem_of_getElem? (i := 23) rfl))) (notFace_of_selects (args := #[]) (mvT hZ (hw _ (List.mem_of_getElem? (i := 25) rfl)))) (mvT hZ (hw _ (List.mem_of_getElem? (i := 25) rfl))) (mvT hZ (hw _ (List.mem_of_getElem? (i := 24) rfl))) (by decide) (backOf (W := 1) (rm4 l Z a0 hw [] ak ae h0 n0 Z0 Sae) hZ (hw _ (List.mem_of_getElem? (i := 26) rfl)) (hw _ (List.mem_of_getElem? (i := 6) rfl)) (by decide) (by decide)) q10a q10c (g := (mkF m 85 #[.val (.int p0), .val (.int p1), .val (.int ((p0 &&& (2147483647 : Int32)) % (3 : Int32))), .val (.ref ak), .val (.int p1), .val (.int p1)] [(.ref ak), (.int (0 : Int32))])) rfl (by rw [hml]; rfl) (Steps.refl _) (argsL := []) (rest := [(.int (0 : Int32))]) (lenOf pd_3 rfl) rfl (by show 2 * 0 + _ ≤ _; exact Nat.le_of_eq rfl) (hb hby at_85) (fun _ _ => ⟨rfl, e4, (by decide : 0 + 0 ≤ _), (by decide : 0 + 0 ≤ _)⟩)
        dsimp only [Pt.U, Pt.locs, Pt.cells, Pt.slots] at X10 l10 y10 z10 st10 hQ10
        subst l10 y10 z10
        obtain ⟨rfl, Nq10, eq10⟩ := hQ10
        have N10 := Fr.app N4 Nq10
        have e10 : T10.heap = h0 := eq10
        have R11 : ∀ t, Steps p.tables e below (T10.setTop (mkF m 100 #[.val (.int p0), .val (.int p1), .val (.int ((p0 &&& (2147483647 : Int32)) % (3 : Int32))), .val (.ref ak), .val (.int p1), .val (.int p1)] [(.int (1 : Int32))])) t → Steps p.tables e below (s₁.setTop (entryFrame m #[(.int p0), (.int p1)] maxLocals)) t := by
          intro t k
          refine R9 t ?_
          show Steps p.tables e below (T4.setTop (mkF m 85 #[.val (.int p0), .val (.int p1), .val (.int ((p0 &&& (2147483647 : Int32)) % (3 : Int32))), .val (.ref ak), .val (.int p1), .val (.int p1)] [(.ref ak), (.int (0 : Int32))])) _
          refine st10.trans ?_
          show Steps p.tables e below (T10.setTop (mkF m 88 #[.val (.int p0), .val (.int p1), .val (.int ((p0 &&& (2147483647 : Int32)) % (3 : Int32))), .val (.ref ak), .val (.int p1), .val (.int p1)] [(.int (if ak = ae then (1 : Int32) else (0 : Int32))), (.int (0 : Int32))])) _
          refine XS.icmpYes X10.here hx rfl (pc0 := 88) (pc' := 95) rfl (hb hby at_88) rfl (teq ((if_neg nk).symm)).1 (by decide) (by decide) ?_
          show Steps p.tables e below (T10.setTop (mkF m 95 #[.val (.int p0), .val (.int p1), .val (.int ((p0 &&& (2147483647 : Int32)) % (3 : Int32))), .val (.ref ak), .val (.int p1), .val (.int p1)] [])) _
          refine XS.iconst X10.here hx rfl (hb hby at_95) ?_
          show Steps p.tables e below (T10.setTop (mkF m 96 #[.val (.int p0), .val (.int p1), .val (.int ((p0 &&& (2147483647 : Int32)) % (3 : Int32))), .val (.ref ak), .val (.int p1), .val (.int p1)] [(.int (1 : Int32))])) _
          refine XS.goto X10.here hx rfl (pc0 := 96) (pc' := 100) rfl (hb hby at_96) (by decide) (by decide) ?_
          exact k
        obtain ⟨fs, hr, hrun, hended, hW, hsame⟩ := X10.leave (v := some (.int (1 : Int32))) (fun h => by rw [Bd.returns] at h; cases h)
        refine ⟨_, _, R11 _ ?_, hrun, hended, _, _, rfl, ?_, ⟨_, rfl⟩, hW, hsame.mono (by decide) (by decide)⟩
        · exact retN X10 hx (t := .boolean) Bd.returns (by simp) (hb hby at_100) hr
        · show Q0 Z p0 p1 ak ap ae h0 n0 _ T10.heap _
          rw [e10]
          exact ⟨rfl, N10⟩
      ·
        skip
        have R12 : ∀ t, Steps p.tables e below (T4.setTop (mkF m 85 #[.val (.int p0), .val (.int p1), .val (.int ((p0 &&& (2147483647 : Int32)) % (3 : Int32))), .val (.ref ak), .val (.int p1), .val (.int p1)] [(.ref ak), (.int (0 : Int32))])) t → Steps p.tables e below (s₁.setTop (entryFrame m #[(.int p0), (.int p1)] maxLocals)) t := by
          intro t k
          refine R7 t ?_
          show Steps p.tables e below (T4.setTop (mkF m 72 #[.val (.int p0), .val (.int p1), .val (.int ((p0 &&& (2147483647 : Int32)) % (3 : Int32))), .val (.ref ak), .val (.int p1), .val (.int p1)] [(.int p1)])) _
          refine XS.ifYes X4.here hx rfl (pc0 := 72) (pc' := 83) rfl (hb hby at_72) rfl ((if0 _ _).trans (feq hc8).2) (by decide) (by decide) ?_
          show Steps p.tables e below (T4.setTop (mkF m 83 #[.val (.int p0), .val (.int p1), .val (.int ((p0 &&& (2147483647 : Int32)) % (3 : Int32))), .val (.ref ak), .val (.int p1), .val (.int p1)] [])) _
          refine XS.iconst X4.here hx rfl (hb hby at_83) ?_
          show Steps p.tables e below (T4.setTop (mkF m 84 #[.val (.int p0), .val (.int p1), .val (.int ((p0 &&& (2147483647 : Int32)) % (3 : Int32))), .val (.ref ak), .val (.int p1), .val (.int p1)] [(.int (0 : Int32))])) _
          refine XS.aloadN X4.here hx rfl (hb hby at_84) rfl rfl ?_
          exact k
        obtain ⟨cq13, kq13, q13a, q13b, q13c⟩ := isOf hZ e4 Eak
        obtain ⟨_, _, ⟨T13, L13, k13, n13⟩, -, X13, ⟨Lc13, hQ13, l13, y13, z13⟩, st13⟩ := X4.virtualBack hx (y := (⟨"com/example/key_ranges/keyranges/KeyShape", "takesBounds", "()Z"⟩ : MethodName)) (z := (⟨"com/example/key_ranges/keyranges/KeyShape", "takesBounds", "()Z"⟩ : MethodName)) hown (mvT hZ (hw _ (List.mem_of_getElem? (i := 22) rfl))) (mvT hZ (hw _ (List.mem_of_getElem? (i := 23) rfl))) (notFace_of_selects (args := #[]) (mvT hZ (hw _ (List.mem_of_getElem? (i := 25) rfl)))) (mvT hZ (hw _ (List.mem_of_getElem? (i := 25) rfl))) (mvT hZ (hw _ (List.mem_of_getElem? (i := 24) rfl))) (by decide) (backOf (W := 1) (rm4 l Z a0 hw [] ak ae h0 n0 Z0 Sae) hZ (hw _ (List.mem_of_getElem? (i := 26) rfl)) (hw _ (List.mem_of_getElem? (i := 6) rfl)) (by decide) (by decide)) q13a q13c (g := (mkF m 85 #[.val (.int p0), .val (.int p1), .val (.int ((p0 &&& (2147483647 : Int32)) % (3 : Int32))), .val (.ref ak), .val (.int p1), .val (.int p1)] [(.ref ak), (.int (0 : Int32))])) rfl (by rw [hml]; rfl) (Steps.refl _) (argsL := []) (rest := [(.int (0 : Int32))]) (lenOf pd_3 rfl) rfl (by show 2 * 0 + _ ≤ _; exact Nat.le_of_eq rfl) (hb hby at_85) (fun _ _ => ⟨rfl, e4, (by decide : 0 + 0 ≤ _), (by decide : 0 + 0 ≤ _)⟩)
        dsimp only [Pt.U, Pt.locs, Pt.cells, Pt.slots] at X13 l13 y13 z13 st13 hQ13
        subst l13 y13 z13
        obtain ⟨rfl, Nq13, eq13⟩ := hQ13
        have N13 := Fr.app N4 Nq13
        have e13 : T13.heap = h0 := eq13
        have R14 : ∀ t, Steps p.tables e below (T13.setTop (mkF m 100 #[.val (.int p0), .val (.int p1), .val (.int ((p0 &&& (2147483647 : Int32)) % (3 : Int32))), .val (.ref ak), .val (.int p1), .val (.int p1)] [(.int (1 : Int32))])) t → Steps p.tables e below (s₁.setTop (entryFrame m #[(.int p0), (.int p1)] maxLocals)) t := by
          intro t k
          refine R12 t ?_
          show Steps p.tables e below (T4.setTop (mkF m 85 #[.val (.int p0), .val (.int p1), .val (.int ((p0 &&& (2147483647 : Int32)) % (3 : Int32))), .val (.ref ak), .val (.int p1), .val (.int p1)] [(.ref ak), (.int (0 : Int32))])) _
          refine st13.trans ?_
          show Steps p.tables e below (T13.setTop (mkF m 88 #[.val (.int p0), .val (.int p1), .val (.int ((p0 &&& (2147483647 : Int32)) % (3 : Int32))), .val (.ref ak), .val (.int p1), .val (.int p1)] [(.int (if ak = ae then (1 : Int32) else (0 : Int32))), (.int (0 : Int32))])) _
          refine XS.icmpYes X13.here hx rfl (pc0 := 88) (pc' := 95) rfl (hb hby at_88) rfl (teq ((if_neg nk).symm)).1 (by decide) (by decide) ?_
          show Steps p.tables e below (T13.setTop (mkF m 95 #[.val (.int p0), .val (.int p1), .val (.int ((p0 &&& (2147483647 : Int32)) % (3 : Int32))), .val (.ref ak), .val (.int p1), .val (.int p1)] [])) _
          refine XS.iconst X13.here hx rfl (hb hby at_95) ?_
          show Steps p.tables e below (T13.setTop (mkF m 96 #[.val (.int p0), .val (.int p1), .val (.int ((p0 &&& (2147483647 : Int32)) % (3 : Int32))), .val (.ref ak), .val (.int p1), .val (.int p1)] [(.int (1 : Int32))])) _
          refine XS.goto X13.here hx rfl (pc0 := 96) (pc' := 100) rfl (hb hby at_96) (by decide) (by decide) ?_
          exact k
        obtain ⟨fs, hr, hrun, hended, hW, hsame⟩ := X13.leave (v := some (.int (1 : Int32))) (fun h => by rw [Bd.returns] at h; cases h)
        refine ⟨_, _, R14 _ ?_, hrun, hended, _, _, rfl, ?_, ⟨_, rfl⟩, hW, hsame.mono (by decide) (by decide)⟩
        · exact retN X13 hx (t := .boolean) Bd.returns (by simp) (hb hby at_100) hr
        · show Q0 Z p0 p1 ak ap ae h0 n0 _ T13.heap _
          rw [e13]
          exact ⟨rfl, N13⟩
    ·
      skip
      have R15 : ∀ t, Steps p.tables e below (T4.setTop (mkF m 72 #[.val (.int p0), .val (.int p1), .val (.int ((p0 &&& (2147483647 : Int32)) % (3 : Int32))), .val (.ref ak), .val (.int p1), .val (.int p1)] [(.int p1)])) t → Steps p.tables e below (s₁.setTop (entryFrame m #[(.int p0), (.int p1)] maxLocals)) t := by
        intro t k
        refine R5 t ?_
        show Steps p.tables e below (T4.setTop (mkF m 54 #[.val (.int p0), .val (.int p1), .val (.int ((p0 &&& (2147483647 : Int32)) % (3 : Int32))), .val (.ref ak), .val (.int p1), .val (.int p1)] [(.int (1 : Int32)), (.int p1)])) _
        refine XS.icmpNo X4.here hx rfl (hb hby at_54) rfl (flt hc6).1 ?_
        show Steps p.tables e below (T4.setTop (mkF m 57 #[.val (.int p0), .val (.int p1), .val (.int ((p0 &&& (2147483647 : Int32)) % (3 : Int32))), .val (.ref ak), .val (.int p1), .val (.int p1)] [])) _
        refine XS.iload X4.here hx rfl (hb hby at_57) rfl ?_
        show Steps p.tables e below (T4.setTop (mkF m 59 #[.val (.int p0), .val (.int p1), .val (.int ((p0 &&& (2147483647 : Int32)) % (3 : Int32))), .val (.ref ak), .val (.int p1), .val (.int p1)] [(.int p1)])) _
        refine XS.ifNo X4.here hx rfl (hb hby at_59) rfl ((if0 _ _).trans (flt (own_n0 _ hc6)).1) ?_
        show Steps p.tables e below (T4.setTop (mkF m 62 #[.val (.int p0), .val (.int p1), .val (.int ((p0 &&& (2147483647 : Int32)) % (3 : Int32))), .val (.ref ak), .val (.int p1), .val (.int p1)] [])) _
        refine XS.iload X4.here hx rfl (hb hby at_62) rfl ?_
        show Steps p.tables e below (T4.setTop (mkF m 64 #[.val (.int p0), .val (.int p1), .val (.int ((p0 &&& (2147483647 : Int32)) % (3 : Int32))), .val (.ref ak), .val (.int p1), .val (.int p1)] [(.int p1)])) _
        refine XS.iloadN X4.here hx rfl (hb hby at_64) rfl ?_
        show Steps p.tables e below (T4.setTop (mkF m 65 #[.val (.int p0), .val (.int p1), .val (.int ((p0 &&& (2147483647 : Int32)) % (3 : Int32))), .val (.ref ak), .val (.int p1), .val (.int p1)] [(.int p1), (.int p1)])) _
        refine XS.icmpYes X4.here hx rfl (pc0 := 65) (pc' := 70) rfl (hb hby at_65) rfl (flt Int32.lt_irrefl).2.2.2 (by decide) (by decide) ?_
        show Steps p.tables e below (T4.setTop (mkF m 70 #[.val (.int p0), .val (.int p1), .val (.int ((p0 &&& (2147483647 : Int32)) % (3 : Int32))), .val (.ref ak), .val (.int p1), .val (.int p1)] [])) _
        refine XS.iload X4.here hx rfl (hb hby at_70) rfl ?_
        exact k
      by_cases hc16 : p1 = (0 : Int32)
      ·
        skip
        have R17 : ∀ t, Steps p.tables e below (T4.setTop (mkF m 85 #[.val (.int p0), .val (.int p1), .val (.int ((p0 &&& (2147483647 : Int32)) % (3 : Int32))), .val (.ref ak), .val (.int p1), .val (.int p1)] [(.ref ak), (.int (0 : Int32))])) t → Steps p.tables e below (s₁.setTop (entryFrame m #[(.int p0), (.int p1)] maxLocals)) t := by
          intro t k
          refine R15 t ?_
          show Steps p.tables e below (T4.setTop (mkF m 72 #[.val (.int p0), .val (.int p1), .val (.int ((p0 &&& (2147483647 : Int32)) % (3 : Int32))), .val (.ref ak), .val (.int p1), .val (.int p1)] [(.int p1)])) _
          refine XS.ifNo X4.here hx rfl (hb hby at_72) rfl ((if0 _ _).trans (teq hc16).2) ?_
          show Steps p.tables e below (T4.setTop (mkF m 75 #[.val (.int p0), .val (.int p1), .val (.int ((p0 &&& (2147483647 : Int32)) % (3 : Int32))), .val (.ref ak), .val (.int p1), .val (.int p1)] [])) _
          refine XS.iloadN X4.here hx rfl (hb hby at_75) rfl ?_
          show Steps p.tables e below (T4.setTop (mkF m 76 #[.val (.int p0), .val (.int p1), .val (.int ((p0 &&& (2147483647 : Int32)) % (3 : Int32))), .val (.ref ak), .val (.int p1), .val (.int p1)] [(.int p1)])) _
          refine XS.ifYes X4.here hx rfl (pc0 := 76) (pc' := 83) rfl (hb hby at_76) rfl ((if0 _ _).trans (teq hc16).1) (by decide) (by decide) ?_
          show Steps p.tables e below (T4.setTop (mkF m 83 #[.val (.int p0), .val (.int p1), .val (.int ((p0 &&& (2147483647 : Int32)) % (3 : Int32))), .val (.ref ak), .val (.int p1), .val (.int p1)] [])) _
          refine XS.iconst X4.here hx rfl (hb hby at_83) ?_
          show Steps p.tables e below (T4.setTop (mkF m 84 #[.val (.int p0), .val (.int p1), .val (.int ((p0 &&& (2147483647 : Int32)) % (3 : Int32))), .val (.ref ak), .val (.int p1), .val (.int p1)] [(.int (0 : Int32))])) _
          refine XS.aloadN X4.here hx rfl (hb hby at_84) rfl rfl ?_
          exact k
        obtain ⟨cq18, kq18, q18a, q18b, q18c⟩ := isOf hZ e4 Eak
        obtain ⟨_, _, ⟨T18, L18, k18, n18⟩, -, X18, ⟨Lc18, hQ18, l18, y18, z18⟩, st18⟩ := X4.virtualBack hx (y := (⟨"com/example/key_ranges/keyranges/KeyShape", "takesBounds", "()Z"⟩ : MethodName)) (z := (⟨"com/example/key_ranges/keyranges/KeyShape", "takesBounds", "()Z"⟩ : MethodName)) hown (mvT hZ (hw _ (List.mem_of_getElem? (i := 22) rfl))) (mvT hZ (hw _ (List.mem_of_getElem? (i := 23) rfl))) (notFace_of_selects (args := #[]) (mvT hZ (hw _ (List.mem_of_getElem? (i := 25) rfl)))) (mvT hZ (hw _ (List.mem_of_getElem? (i := 25) rfl))) (mvT hZ (hw _ (List.mem_of_getElem? (i := 24) rfl))) (by decide) (backOf (W := 1) (rm4 l Z a0 hw [] ak ae h0 n0 Z0 Sae) hZ (hw _ (List.mem_of_getElem? (i := 26) rfl)) (hw _ (List.mem_of_getElem? (i := 6) rfl)) (by decide) (by decide)) q18a q18c (g := (mkF m 85 #[.val (.int p0), .val (.int p1), .val (.int ((p0 &&& (2147483647 : Int32)) % (3 : Int32))), .val (.ref ak), .val (.int p1), .val (.int p1)] [(.ref ak), (.int (0 : Int32))])) rfl (by rw [hml]; rfl) (Steps.refl _) (argsL := []) (rest := [(.int (0 : Int32))]) (lenOf pd_3 rfl) rfl (by show 2 * 0 + _ ≤ _; exact Nat.le_of_eq rfl) (hb hby at_85) (fun _ _ => ⟨rfl, e4, (by decide : 0 + 0 ≤ _), (by decide : 0 + 0 ≤ _)⟩)
        dsimp only [Pt.U, Pt.locs, Pt.cells, Pt.slots] at X18 l18 y18 z18 st18 hQ18
        subst l18 y18 z18
        obtain ⟨rfl, Nq18, eq18⟩ := hQ18
        have N18 := Fr.app N4 Nq18
        have e18 : T18.heap = h0 := eq18
        have R19 : ∀ t, Steps p.tables e below (T18.setTop (mkF m 100 #[.val (.int p0), .val (.int p1), .val (.int ((p0 &&& (2147483647 : Int32)) % (3 : Int32))), .val (.ref ak), .val (.int p1), .val (.int p1)] [(.int (1 : Int32))])) t → Steps p.tables e below (s₁.setTop (entryFrame m #[(.int p0), (.int p1)] maxLocals)) t := by
          intro t k
          refine R17 t ?_
          show Steps p.tables e below (T4.setTop (mkF m 85 #[.val (.int p0), .val (.int p1), .val (.int ((p0 &&& (2147483647 : Int32)) % (3 : Int32))), .val (.ref ak), .val (.int p1), .val (.int p1)] [(.ref ak), (.int (0 : Int32))])) _
          refine st18.trans ?_
          show Steps p.tables e below (T18.setTop (mkF m 88 #[.val (.int p0), .val (.int p1), .val (.int ((p0 &&& (2147483647 : Int32)) % (3 : Int32))), .val (.ref ak), .val (.int p1), .val (.int p1)] [(.int (if ak = ae then (1 : Int32) else (0 : Int32))), (.int (0 : Int32))])) _
          refine XS.icmpYes X18.here hx rfl (pc0 := 88) (pc' := 95) rfl (hb hby at_88) rfl (teq ((if_neg nk).symm)).1 (by decide) (by decide) ?_
          show Steps p.tables e below (T18.setTop (mkF m 95 #[.val (.int p0), .val (.int p1), .val (.int ((p0 &&& (2147483647 : Int32)) % (3 : Int32))), .val (.ref ak), .val (.int p1), .val (.int p1)] [])) _
          refine XS.iconst X18.here hx rfl (hb hby at_95) ?_
          show Steps p.tables e below (T18.setTop (mkF m 96 #[.val (.int p0), .val (.int p1), .val (.int ((p0 &&& (2147483647 : Int32)) % (3 : Int32))), .val (.ref ak), .val (.int p1), .val (.int p1)] [(.int (1 : Int32))])) _
          refine XS.goto X18.here hx rfl (pc0 := 96) (pc' := 100) rfl (hb hby at_96) (by decide) (by decide) ?_
          exact k
        obtain ⟨fs, hr, hrun, hended, hW, hsame⟩ := X18.leave (v := some (.int (1 : Int32))) (fun h => by rw [Bd.returns] at h; cases h)
        refine ⟨_, _, R19 _ ?_, hrun, hended, _, _, rfl, ?_, ⟨_, rfl⟩, hW, hsame.mono (by decide) (by decide)⟩
        · exact retN X18 hx (t := .boolean) Bd.returns (by simp) (hb hby at_100) hr
        · show Q0 Z p0 p1 ak ap ae h0 n0 _ T18.heap _
          rw [e18]
          exact ⟨rfl, N18⟩
      ·
        skip
        have R20 : ∀ t, Steps p.tables e below (T4.setTop (mkF m 85 #[.val (.int p0), .val (.int p1), .val (.int ((p0 &&& (2147483647 : Int32)) % (3 : Int32))), .val (.ref ak), .val (.int p1), .val (.int p1)] [(.ref ak), (.int (0 : Int32))])) t → Steps p.tables e below (s₁.setTop (entryFrame m #[(.int p0), (.int p1)] maxLocals)) t := by
          intro t k
          refine R15 t ?_
          show Steps p.tables e below (T4.setTop (mkF m 72 #[.val (.int p0), .val (.int p1), .val (.int ((p0 &&& (2147483647 : Int32)) % (3 : Int32))), .val (.ref ak), .val (.int p1), .val (.int p1)] [(.int p1)])) _
          refine XS.ifYes X4.here hx rfl (pc0 := 72) (pc' := 83) rfl (hb hby at_72) rfl ((if0 _ _).trans (feq hc16).2) (by decide) (by decide) ?_
          show Steps p.tables e below (T4.setTop (mkF m 83 #[.val (.int p0), .val (.int p1), .val (.int ((p0 &&& (2147483647 : Int32)) % (3 : Int32))), .val (.ref ak), .val (.int p1), .val (.int p1)] [])) _
          refine XS.iconst X4.here hx rfl (hb hby at_83) ?_
          show Steps p.tables e below (T4.setTop (mkF m 84 #[.val (.int p0), .val (.int p1), .val (.int ((p0 &&& (2147483647 : Int32)) % (3 : Int32))), .val (.ref ak), .val (.int p1), .val (.int p1)] [(.int (0 : Int32))])) _
          refine XS.aloadN X4.here hx rfl (hb hby at_84) rfl rfl ?_
          exact k
        obtain ⟨cq21, kq21, q21a, q21b, q21c⟩ := isOf hZ e4 Eak
        obtain ⟨_, _, ⟨T21, L21, k21, n21⟩, -, X21, ⟨Lc21, hQ21, l21, y21, z21⟩, st21⟩ := X4.virtualBack hx (y := (⟨"com/example/key_ranges/keyranges/KeyShape", "takesBounds", "()Z"⟩ : MethodName)) (z := (⟨"com/example/key_ranges/keyranges/KeyShape", "takesBounds", "()Z"⟩ : MethodName)) hown (mvT hZ (hw _ (List.mem_of_getElem? (i := 22) rfl))) (mvT hZ (hw _ (List.mem_of_getElem? (i := 23) rfl))) (notFace_of_selects (args := #[]) (mvT hZ (hw _ (List.mem_of_getElem? (i := 25) rfl)))) (mvT hZ (hw _ (List.mem_of_getElem? (i := 25) rfl))) (mvT hZ (hw _ (List.mem_of_getElem? (i := 24) rfl))) (by decide) (backOf (W := 1) (rm4 l Z a0 hw [] ak ae h0 n0 Z0 Sae) hZ (hw _ (List.mem_of_getElem? (i := 26) rfl)) (hw _ (List.mem_of_getElem? (i := 6) rfl)) (by decide) (by decide)) q21a q21c (g := (mkF m 85 #[.val (.int p0), .val (.int p1), .val (.int ((p0 &&& (2147483647 : Int32)) % (3 : Int32))), .val (.ref ak), .val (.int p1), .val (.int p1)] [(.ref ak), (.int (0 : Int32))])) rfl (by rw [hml]; rfl) (Steps.refl _) (argsL := []) (rest := [(.int (0 : Int32))]) (lenOf pd_3 rfl) rfl (by show 2 * 0 + _ ≤ _; exact Nat.le_of_eq rfl) (hb hby at_85) (fun _ _ => ⟨rfl, e4, (by decide : 0 + 0 ≤ _), (by decide : 0 + 0 ≤ _)⟩)
        dsimp only [Pt.U, Pt.locs, Pt.cells, Pt.slots] at X21 l21 y21 z21 st21 hQ21
        subst l21 y21 z21
        obtain ⟨rfl, Nq21, eq21⟩ := hQ21
        have N21 := Fr.app N4 Nq21
        have e21 : T21.heap = h0 := eq21
        have R22 : ∀ t, Steps p.tables e below (T21.setTop (mkF m 100 #[.val (.int p0), .val (.int p1), .val (.int ((p0 &&& (2147483647 : Int32)) % (3 : Int32))), .val (.ref ak), .val (.int p1), .val (.int p1)] [(.int (1 : Int32))])) t → Steps p.tables e below (s₁.setTop (entryFrame m #[(.int p0), (.int p1)] maxLocals)) t := by
          intro t k
          refine R20 t ?_
          show Steps p.tables e below (T4.setTop (mkF m 85 #[.val (.int p0), .val (.int p1), .val (.int ((p0 &&& (2147483647 : Int32)) % (3 : Int32))), .val (.ref ak), .val (.int p1), .val (.int p1)] [(.ref ak), (.int (0 : Int32))])) _
          refine st21.trans ?_
          show Steps p.tables e below (T21.setTop (mkF m 88 #[.val (.int p0), .val (.int p1), .val (.int ((p0 &&& (2147483647 : Int32)) % (3 : Int32))), .val (.ref ak), .val (.int p1), .val (.int p1)] [(.int (if ak = ae then (1 : Int32) else (0 : Int32))), (.int (0 : Int32))])) _
          refine XS.icmpYes X21.here hx rfl (pc0 := 88) (pc' := 95) rfl (hb hby at_88) rfl (teq ((if_neg nk).symm)).1 (by decide) (by decide) ?_
          show Steps p.tables e below (T21.setTop (mkF m 95 #[.val (.int p0), .val (.int p1), .val (.int ((p0 &&& (2147483647 : Int32)) % (3 : Int32))), .val (.ref ak), .val (.int p1), .val (.int p1)] [])) _
          refine XS.iconst X21.here hx rfl (hb hby at_95) ?_
          show Steps p.tables e below (T21.setTop (mkF m 96 #[.val (.int p0), .val (.int p1), .val (.int ((p0 &&& (2147483647 : Int32)) % (3 : Int32))), .val (.ref ak), .val (.int p1), .val (.int p1)] [(.int (1 : Int32))])) _
          refine XS.goto X21.here hx rfl (pc0 := 96) (pc' := 100) rfl (hb hby at_96) (by decide) (by decide) ?_
          exact k
        obtain ⟨fs, hr, hrun, hended, hW, hsame⟩ := X21.leave (v := some (.int (1 : Int32))) (fun h => by rw [Bd.returns] at h; cases h)
        refine ⟨_, _, R22 _ ?_, hrun, hended, _, _, rfl, ?_, ⟨_, rfl⟩, hW, hsame.mono (by decide) (by decide)⟩
        · exact retN X21 hx (t := .boolean) Bd.returns (by simp) (hb hby at_100) hr
        · show Q0 Z p0 p1 ak ap ae h0 n0 _ T21.heap _
          rw [e21]
          exact ⟨rfl, N21⟩
  ·
    rw [if_neg hk0] at R3
    by_cases hk1 : ((p0 &&& (2147483647 : Int32)) % (3 : Int32)) = (1 : Int32)
    ·
      rw [if_pos hk1] at R3
      obtain ⟨cq23, kq23, q23a, q23b, q23c⟩ := isOf hZ e2 Eap
      obtain ⟨_, _, ⟨T23, L23, k23, n23⟩, -, X23, ⟨Lc23, hQ23, l23, y23, z23⟩, st23⟩ := X2.virtualBack hx (y := (⟨"com/example/key_ranges/keyranges/KeyShape", "fewestValues", "(I)I"⟩ : MethodName)) (z := (⟨"com/example/key_ranges/keyranges/KeyShape", "fewestValues", "(I)I"⟩ : MethodName)) hown (mvT hZ (hw _ (List.mem_of_getElem? (i := 8) rfl))) (mvT hZ (hw _ (List.mem_of_getElem? (i := 9) rfl))) (notFace_of_selects (args := #[]) (mvT hZ (hw _ (List.mem_of_getElem? (i := 11) rfl)))) (mvT hZ (hw _ (List.mem_of_getElem? (i := 11) rfl))) (mvT hZ (hw _ (List.mem_of_getElem? (i := 10) rfl))) (by decide) (backOf (W := 0) (rm2k1 l Z a0 hw [] ap p1 h0 n0 Z0 Oap Eap) hZ (hw _ (List.mem_of_getElem? (i := 12) rfl)) (hw _ (List.mem_of_getElem? (i := 6) rfl)) (by decide) (by decide)) q23a q23c (g := (mkF m 14 #[.val (.int p0), .val (.int p1), .val (.int ((p0 &&& (2147483647 : Int32)) % (3 : Int32))), .val (.ref ap), .unset, .unset] [(.int p1), (.ref ap)])) rfl (by rw [hml]; rfl) (Steps.refl _) (argsL := [(.int p1)]) (rest := []) (lenOf pd_2 rfl) rfl (by show 2 * 0 + _ ≤ _; exact Nat.le_of_eq rfl) (hb hby at_14) (fun _ _ => ⟨rfl, e2, (by decide : 0 + 0 ≤ _), (by decide : 0 + 0 ≤ _)⟩)
      dsimp only [Pt.U, Pt.locs, Pt.cells, Pt.slots] at X23 l23 y23 z23 st23 hQ23
      subst l23 y23 z23
      obtain ⟨rfl, Nq23, eq23⟩ := hQ23
      have N23 := Fr.app N2 Nq23
      have e23 : T23.heap = h0 := eq23
      have R24 : ∀ t, Steps p.tables e below (T23.setTop (mkF m 54 #[.val (.int p0), .val (.int p1), .val (.int ((p0 &&& (2147483647 : Int32)) % (3 : Int32))), .val (.ref ap), .val (.int (1 : Int32)), .val (.int (1 : Int32))] [(.int (1 : Int32)), (.int p1)])) t → Steps p.tables e below (s₁.setTop (entryFrame m #[(.int p0), (.int p1)] maxLocals)) t := by
        intro t k
        refine R3 t ?_
        show Steps p.tables e below (T2.setTop (mkF m 14 #[.val (.int p0), .val (.int p1), .val (.int ((p0 &&& (2147483647 : Int32)) % (3 : Int32))), .val (.ref ap), .unset, .unset] [(.int p1), (.ref ap)])) _
        refine st23.trans ?_
        show Steps p.tables e below (T23.setTop (mkF m 17 #[.val (.int p0), .val (.int p1), .val (.int ((p0 &&& (2147483647 : Int32)) % (3 : Int32))), .val (.ref ap), .unset, .unset] [(.int (1 : Int32))])) _
        refine XS.istore X23.here hx rfl (hb hby at_17) rfl (l' := #[.val (.int p0), .val (.int p1), .val (.int ((p0 &&& (2147483647 : Int32)) % (3 : Int32))), .val (.ref ap), .val (.int (1 : Int32)), .unset]) rfl ?_
        show Steps p.tables e below (T23.setTop (mkF m 19 #[.val (.int p0), .val (.int p1), .val (.int ((p0 &&& (2147483647 : Int32)) % (3 : Int32))), .val (.ref ap), .val (.int (1 : Int32)), .unset] [])) _
        refine XS.iloadN X23.here hx rfl (hb hby at_19) rfl ?_
        show Steps p.tables e below (T23.setTop (mkF m 20 #[.val (.int p0), .val (.int p1), .val (.int ((p0 &&& (2147483647 : Int32)) % (3 : Int32))), .val (.ref ap), .val (.int (1 : Int32)), .unset] [(.int ((p0 &&& (2147483647 : Int32)) % (3 : Int32)))])) _
        refine XS.ifYes X23.here hx rfl (pc0 := 20) (pc' := 29) rfl (hb hby at_20) rfl ((if0 _ _).trans (feq hk0).2) (by decide) (by decide) ?_
        show Steps p.tables e below (T23.setTop (mkF m 29 #[.val (.int p0), .val (.int p1), .val (.int ((p0 &&& (2147483647 : Int32)) % (3 : Int32))), .val (.ref ap), .val (.int (1 : Int32)), .unset] [])) _
        refine XS.iloadN X23.here hx rfl (hb hby at_29) rfl ?_
        show Steps p.tables e below (T23.setTop (mkF m 30 #[.val (.int p0), .val (.int p1), .val (.int ((p0 &&& (2147483647 : Int32)) % (3 : Int32))), .val (.ref ap), .val (.int (1 : Int32)), .unset] [(.int ((p0 &&& (2147483647 : Int32)) % (3 : Int32)))])) _
        refine XS.iconst X23.here hx rfl (hb hby at_30) ?_
        show Steps p.tables e below (T23.setTop (mkF m 31 #[.val (.int p0), .val (.int p1), .val (.int ((p0 &&& (2147483647 : Int32)) % (3 : Int32))), .val (.ref ap), .val (.int (1 : Int32)), .unset] [(.int (1 : Int32)), (.int ((p0 &&& (2147483647 : Int32)) % (3 : Int32)))])) _
        refine XS.icmpNo X23.here hx rfl (hb hby at_31) rfl (teq hk1).2 ?_
        show Steps p.tables e below (T23.setTop (mkF m 34 #[.val (.int p0), .val (.int p1), .val (.int ((p0 &&& (2147483647 : Int32)) % (3 : Int32))), .val (.ref ap), .val (.int (1 : Int32)), .unset] [])) _
        refine XS.iconst X23.here hx rfl (hb hby at_34) ?_
        show Steps p.tables e below (T23.setTop (mkF m 35 #[.val (.int p0), .val (.int p1), .val (.int ((p0 &&& (2147483647 : Int32)) % (3 : Int32))), .val (.ref ap), .val (.int (1 : Int32)), .unset] [(.int (1 : Int32))])) _
        refine XS.istore X23.here hx rfl (hb hby at_35) rfl (l' := #[.val (.int p0), .val (.int p1), .val (.int ((p0 &&& (2147483647 : Int32)) % (3 : Int32))), .val (.ref ap), .val (.int (1 : Int32)), .val (.int (1 : Int32))]) rfl ?_
        show Steps p.tables e below (T23.setTop (mkF m 37 #[.val (.int p0), .val (.int p1), .val (.int ((p0 &&& (2147483647 : Int32)) % (3 : Int32))), .val (.ref ap), .val (.int (1 : Int32)), .val (.int (1 : Int32))] [])) _
        refine XS.goto X23.here hx rfl (pc0 := 37) (pc' := 43) rfl (hb hby at_37) (by decide) (by decide) ?_
        show Steps p.tables e below (T23.setTop (mkF m 43 #[.val (.int p0), .val (.int p1), .val (.int ((p0 &&& (2147483647 : Int32)) % (3 : Int32))), .val (.ref ap), .val (.int (1 : Int32)), .val (.int (1 : Int32))] [])) _
        refine XS.iload X23.here hx rfl (hb hby at_43) rfl ?_
        show Steps p.tables e below (T23.setTop (mkF m 45 #[.val (.int p0), .val (.int p1), .val (.int ((p0 &&& (2147483647 : Int32)) % (3 : Int32))), .val (.ref ap), .val (.int (1 : Int32)), .val (.int (1 : Int32))] [(.int (1 : Int32))])) _
        refine XS.iload X23.here hx rfl (hb hby at_45) rfl ?_
        show Steps p.tables e below (T23.setTop (mkF m 47 #[.val (.int p0), .val (.int p1), .val (.int ((p0 &&& (2147483647 : Int32)) % (3 : Int32))), .val (.ref ap), .val (.int (1 : Int32)), .val (.int (1 : Int32))] [(.int (1 : Int32)), (.int (1 : Int32))])) _
        refine XS.icmpYes X23.here hx rfl (pc0 := 47) (pc' := 52) rfl (hb hby at_47) rfl (teq (rfl : (1 : Int32) = (1 : Int32))).1 (by decide) (by decide) ?_
        show Steps p.tables e below (T23.setTop (mkF m 52 #[.val (.int p0), .val (.int p1), .val (.int ((p0 &&& (2147483647 : Int32)) % (3 : Int32))), .val (.ref ap), .val (.int (1 : Int32)), .val (.int (1 : Int32))] [])) _
        refine XS.iloadN X23.here hx rfl (hb hby at_52) rfl ?_
        show Steps p.tables e below (T23.setTop (mkF m 53 #[.val (.int p0), .val (.int p1), .val (.int ((p0 &&& (2147483647 : Int32)) % (3 : Int32))), .val (.ref ap), .val (.int (1 : Int32)), .val (.int (1 : Int32))] [(.int p1)])) _
        refine XS.iconst X23.here hx rfl (hb hby at_53) ?_
        exact k
      by_cases hc25 : p1 < (1 : Int32)
      ·
        skip
        have R26 : ∀ t, Steps p.tables e below (T23.setTop (mkF m 85 #[.val (.int p0), .val (.int p1), .val (.int ((p0 &&& (2147483647 : Int32)) % (3 : Int32))), .val (.ref ap), .val (.int (1 : Int32)), .val (.int (1 : Int32))] [(.ref ap), (.int (0 : Int32))])) t → Steps p.tables e below (s₁.setTop (entryFrame m #[(.int p0), (.int p1)] maxLocals)) t := by
          intro t k
          refine R24 t ?_
          show Steps p.tables e below (T23.setTop (mkF m 54 #[.val (.int p0), .val (.int p1), .val (.int ((p0 &&& (2147483647 : Int32)) % (3 : Int32))), .val (.ref ap), .val (.int (1 : Int32)), .val (.int (1 : Int32))] [(.int (1 : Int32)), (.int p1)])) _
          refine XS.icmpYes X23.here hx rfl (pc0 := 54) (pc' := 70) rfl (hb hby at_54) rfl (tlt hc25).1 (by decide) (by decide) ?_
          show Steps p.tables e below (T23.setTop (mkF m 70 #[.val (.int p0), .val (.int p1), .val (.int ((p0 &&& (2147483647 : Int32)) % (3 : Int32))), .val (.ref ap), .val (.int (1 : Int32)), .val (.int (1 : Int32))] [])) _
          refine XS.iload X23.here hx rfl (hb hby at_70) rfl ?_
          show Steps p.tables e below (T23.setTop (mkF m 72 #[.val (.int p0), .val (.int p1), .val (.int ((p0 &&& (2147483647 : Int32)) % (3 : Int32))), .val (.ref ap), .val (.int (1 : Int32)), .val (.int (1 : Int32))] [(.int (1 : Int32))])) _
          refine XS.ifYes X23.here hx rfl (pc0 := 72) (pc' := 83) rfl (hb hby at_72) rfl ((if0 _ _).trans (feq (by decide)).2) (by decide) (by decide) ?_
          show Steps p.tables e below (T23.setTop (mkF m 83 #[.val (.int p0), .val (.int p1), .val (.int ((p0 &&& (2147483647 : Int32)) % (3 : Int32))), .val (.ref ap), .val (.int (1 : Int32)), .val (.int (1 : Int32))] [])) _
          refine XS.iconst X23.here hx rfl (hb hby at_83) ?_
          show Steps p.tables e below (T23.setTop (mkF m 84 #[.val (.int p0), .val (.int p1), .val (.int ((p0 &&& (2147483647 : Int32)) % (3 : Int32))), .val (.ref ap), .val (.int (1 : Int32)), .val (.int (1 : Int32))] [(.int (0 : Int32))])) _
          refine XS.aloadN X23.here hx rfl (hb hby at_84) rfl rfl ?_
          exact k
        obtain ⟨cq27, kq27, q27a, q27b, q27c⟩ := isOf hZ e23 Eap
        obtain ⟨_, _, ⟨T27, L27, k27, n27⟩, -, X27, ⟨Lc27, hQ27, l27, y27, z27⟩, st27⟩ := X23.virtualBack hx (y := (⟨"com/example/key_ranges/keyranges/KeyShape", "takesBounds", "()Z"⟩ : MethodName)) (z := (⟨"com/example/key_ranges/keyranges/KeyShape", "takesBounds", "()Z"⟩ : MethodName)) hown (mvT hZ (hw _ (List.mem_of_getElem? (i := 22) rfl))) (mvT hZ (hw _ (List.mem_of_getElem? (i := 23) rfl))) (notFace_of_selects (args := #[]) (mvT hZ (hw _ (List.mem_of_getElem? (i := 25) rfl)))) (mvT hZ (hw _ (List.mem_of_getElem? (i := 25) rfl))) (mvT hZ (hw _ (List.mem_of_getElem? (i := 24) rfl))) (by decide) (backOf (W := 1) (rm4 l Z a0 hw [] ap ae h0 n0 Z0 Sae) hZ (hw _ (List.mem_of_getElem? (i := 26) rfl)) (hw _ (List.mem_of_getElem? (i := 6) rfl)) (by decide) (by decide)) q27a q27c (g := (mkF m 85 #[.val (.int p0), .val (.int p1), .val (.int ((p0 &&& (2147483647 : Int32)) % (3 : Int32))), .val (.ref ap), .val (.int (1 : Int32)), .val (.int (1 : Int32))] [(.ref ap), (.int (0 : Int32))])) rfl (by rw [hml]; rfl) (Steps.refl _) (argsL := []) (rest := [(.int (0 : Int32))]) (lenOf pd_3 rfl) rfl (by show 2 * 0 + _ ≤ _; exact Nat.le_of_eq rfl) (hb hby at_85) (fun _ _ => ⟨rfl, e23, (by decide : 0 + 0 ≤ _), (by decide : 0 + 0 ≤ _)⟩)
        dsimp only [Pt.U, Pt.locs, Pt.cells, Pt.slots] at X27 l27 y27 z27 st27 hQ27
        subst l27 y27 z27
        obtain ⟨rfl, Nq27, eq27⟩ := hQ27
        have N27 := Fr.app N23 Nq27
        have e27 : T27.heap = h0 := eq27
        have R28 : ∀ t, Steps p.tables e below (T27.setTop (mkF m 100 #[.val (.int p0), .val (.int p1), .val (.int ((p0 &&& (2147483647 : Int32)) % (3 : Int32))), .val (.ref ap), .val (.int (1 : Int32)), .val (.int (1 : Int32))] [(.int (1 : Int32))])) t → Steps p.tables e below (s₁.setTop (entryFrame m #[(.int p0), (.int p1)] maxLocals)) t := by
          intro t k
          refine R26 t ?_
          show Steps p.tables e below (T23.setTop (mkF m 85 #[.val (.int p0), .val (.int p1), .val (.int ((p0 &&& (2147483647 : Int32)) % (3 : Int32))), .val (.ref ap), .val (.int (1 : Int32)), .val (.int (1 : Int32))] [(.ref ap), (.int (0 : Int32))])) _
          refine st27.trans ?_
          show Steps p.tables e below (T27.setTop (mkF m 88 #[.val (.int p0), .val (.int p1), .val (.int ((p0 &&& (2147483647 : Int32)) % (3 : Int32))), .val (.ref ap), .val (.int (1 : Int32)), .val (.int (1 : Int32))] [(.int (if ap = ae then (1 : Int32) else (0 : Int32))), (.int (0 : Int32))])) _
          refine XS.icmpYes X27.here hx rfl (pc0 := 88) (pc' := 95) rfl (hb hby at_88) rfl (teq ((if_neg np).symm)).1 (by decide) (by decide) ?_
          show Steps p.tables e below (T27.setTop (mkF m 95 #[.val (.int p0), .val (.int p1), .val (.int ((p0 &&& (2147483647 : Int32)) % (3 : Int32))), .val (.ref ap), .val (.int (1 : Int32)), .val (.int (1 : Int32))] [])) _
          refine XS.iconst X27.here hx rfl (hb hby at_95) ?_
          show Steps p.tables e below (T27.setTop (mkF m 96 #[.val (.int p0), .val (.int p1), .val (.int ((p0 &&& (2147483647 : Int32)) % (3 : Int32))), .val (.ref ap), .val (.int (1 : Int32)), .val (.int (1 : Int32))] [(.int (1 : Int32))])) _
          refine XS.goto X27.here hx rfl (pc0 := 96) (pc' := 100) rfl (hb hby at_96) (by decide) (by decide) ?_
          exact k
        obtain ⟨fs, hr, hrun, hended, hW, hsame⟩ := X27.leave (v := some (.int (1 : Int32))) (fun h => by rw [Bd.returns] at h; cases h)
        refine ⟨_, _, R28 _ ?_, hrun, hended, _, _, rfl, ?_, ⟨_, rfl⟩, hW, hsame.mono (by decide) (by decide)⟩
        · exact retN X27 hx (t := .boolean) Bd.returns (by simp) (hb hby at_100) hr
        · show Q0 Z p0 p1 ak ap ae h0 n0 _ T27.heap _
          rw [e27]
          exact ⟨rfl, N27⟩
      ·
        skip
        have R29 : ∀ t, Steps p.tables e below (T23.setTop (mkF m 85 #[.val (.int p0), .val (.int p1), .val (.int ((p0 &&& (2147483647 : Int32)) % (3 : Int32))), .val (.ref ap), .val (.int (1 : Int32)), .val (.int (1 : Int32))] [(.ref ap), (.int (0 : Int32))])) t → Steps p.tables e below (s₁.setTop (entryFrame m #[(.int p0), (.int p1)] maxLocals)) t := by
          intro t k
          refine R24 t ?_
          show Steps p.tables e below (T23.setTop (mkF m 54 #[.val (.int p0), .val (.int p1), .val (.int ((p0 &&& (2147483647 : Int32)) % (3 : Int32))), .val (.ref ap), .val (.int (1 : Int32)), .val (.int (1 : Int32))] [(.int (1 : Int32)), (.int p1)])) _
          refine XS.icmpNo X23.here hx rfl (hb hby at_54) rfl (flt hc25).1 ?_
          show Steps p.tables e below (T23.setTop (mkF m 57 #[.val (.int p0), .val (.int p1), .val (.int ((p0 &&& (2147483647 : Int32)) % (3 : Int32))), .val (.ref ap), .val (.int (1 : Int32)), .val (.int (1 : Int32))] [])) _
          refine XS.iload X23.here hx rfl (hb hby at_57) rfl ?_
          show Steps p.tables e below (T23.setTop (mkF m 59 #[.val (.int p0), .val (.int p1), .val (.int ((p0 &&& (2147483647 : Int32)) % (3 : Int32))), .val (.ref ap), .val (.int (1 : Int32)), .val (.int (1 : Int32))] [(.int (1 : Int32))])) _
          refine XS.ifNo X23.here hx rfl (hb hby at_59) rfl ((if0 _ _).trans (flt (by decide)).1) ?_
          show Steps p.tables e below (T23.setTop (mkF m 62 #[.val (.int p0), .val (.int p1), .val (.int ((p0 &&& (2147483647 : Int32)) % (3 : Int32))), .val (.ref ap), .val (.int (1 : Int32)), .val (.int (1 : Int32))] [])) _
          refine XS.iload X23.here hx rfl (hb hby at_62) rfl ?_
          show Steps p.tables e below (T23.setTop (mkF m 64 #[.val (.int p0), .val (.int p1), .val (.int ((p0 &&& (2147483647 : Int32)) % (3 : Int32))), .val (.ref ap), .val (.int (1 : Int32)), .val (.int (1 : Int32))] [(.int (1 : Int32))])) _
          refine XS.iloadN X23.here hx rfl (hb hby at_64) rfl ?_
          show Steps p.tables e below (T23.setTop (mkF m 65 #[.val (.int p0), .val (.int p1), .val (.int ((p0 &&& (2147483647 : Int32)) % (3 : Int32))), .val (.ref ap), .val (.int (1 : Int32)), .val (.int (1 : Int32))] [(.int p1), (.int (1 : Int32))])) _
          refine XS.icmpYes X23.here hx rfl (pc0 := 65) (pc' := 70) rfl (hb hby at_65) rfl (flt hc25).2.2.2 (by decide) (by decide) ?_
          show Steps p.tables e below (T23.setTop (mkF m 70 #[.val (.int p0), .val (.int p1), .val (.int ((p0 &&& (2147483647 : Int32)) % (3 : Int32))), .val (.ref ap), .val (.int (1 : Int32)), .val (.int (1 : Int32))] [])) _
          refine XS.iload X23.here hx rfl (hb hby at_70) rfl ?_
          show Steps p.tables e below (T23.setTop (mkF m 72 #[.val (.int p0), .val (.int p1), .val (.int ((p0 &&& (2147483647 : Int32)) % (3 : Int32))), .val (.ref ap), .val (.int (1 : Int32)), .val (.int (1 : Int32))] [(.int (1 : Int32))])) _
          refine XS.ifYes X23.here hx rfl (pc0 := 72) (pc' := 83) rfl (hb hby at_72) rfl ((if0 _ _).trans (feq (by decide)).2) (by decide) (by decide) ?_
          show Steps p.tables e below (T23.setTop (mkF m 83 #[.val (.int p0), .val (.int p1), .val (.int ((p0 &&& (2147483647 : Int32)) % (3 : Int32))), .val (.ref ap), .val (.int (1 : Int32)), .val (.int (1 : Int32))] [])) _
          refine XS.iconst X23.here hx rfl (hb hby at_83) ?_
          show Steps p.tables e below (T23.setTop (mkF m 84 #[.val (.int p0), .val (.int p1), .val (.int ((p0 &&& (2147483647 : Int32)) % (3 : Int32))), .val (.ref ap), .val (.int (1 : Int32)), .val (.int (1 : Int32))] [(.int (0 : Int32))])) _
          refine XS.aloadN X23.here hx rfl (hb hby at_84) rfl rfl ?_
          exact k
        obtain ⟨cq30, kq30, q30a, q30b, q30c⟩ := isOf hZ e23 Eap
        obtain ⟨_, _, ⟨T30, L30, k30, n30⟩, -, X30, ⟨Lc30, hQ30, l30, y30, z30⟩, st30⟩ := X23.virtualBack hx (y := (⟨"com/example/key_ranges/keyranges/KeyShape", "takesBounds", "()Z"⟩ : MethodName)) (z := (⟨"com/example/key_ranges/keyranges/KeyShape", "takesBounds", "()Z"⟩ : MethodName)) hown (mvT hZ (hw _ (List.mem_of_getElem? (i := 22) rfl))) (mvT hZ (hw _ (List.mem_of_getElem? (i := 23) rfl))) (notFace_of_selects (args := #[]) (mvT hZ (hw _ (List.mem_of_getElem? (i := 25) rfl)))) (mvT hZ (hw _ (List.mem_of_getElem? (i := 25) rfl))) (mvT hZ (hw _ (List.mem_of_getElem? (i := 24) rfl))) (by decide) (backOf (W := 1) (rm4 l Z a0 hw [] ap ae h0 n0 Z0 Sae) hZ (hw _ (List.mem_of_getElem? (i := 26) rfl)) (hw _ (List.mem_of_getElem? (i := 6) rfl)) (by decide) (by decide)) q30a q30c (g := (mkF m 85 #[.val (.int p0), .val (.int p1), .val (.int ((p0 &&& (2147483647 : Int32)) % (3 : Int32))), .val (.ref ap), .val (.int (1 : Int32)), .val (.int (1 : Int32))] [(.ref ap), (.int (0 : Int32))])) rfl (by rw [hml]; rfl) (Steps.refl _) (argsL := []) (rest := [(.int (0 : Int32))]) (lenOf pd_3 rfl) rfl (by show 2 * 0 + _ ≤ _; exact Nat.le_of_eq rfl) (hb hby at_85) (fun _ _ => ⟨rfl, e23, (by decide : 0 + 0 ≤ _), (by decide : 0 + 0 ≤ _)⟩)
        dsimp only [Pt.U, Pt.locs, Pt.cells, Pt.slots] at X30 l30 y30 z30 st30 hQ30
        subst l30 y30 z30
        obtain ⟨rfl, Nq30, eq30⟩ := hQ30
        have N30 := Fr.app N23 Nq30
        have e30 : T30.heap = h0 := eq30
        have R31 : ∀ t, Steps p.tables e below (T30.setTop (mkF m 100 #[.val (.int p0), .val (.int p1), .val (.int ((p0 &&& (2147483647 : Int32)) % (3 : Int32))), .val (.ref ap), .val (.int (1 : Int32)), .val (.int (1 : Int32))] [(.int (1 : Int32))])) t → Steps p.tables e below (s₁.setTop (entryFrame m #[(.int p0), (.int p1)] maxLocals)) t := by
          intro t k
          refine R29 t ?_
          show Steps p.tables e below (T23.setTop (mkF m 85 #[.val (.int p0), .val (.int p1), .val (.int ((p0 &&& (2147483647 : Int32)) % (3 : Int32))), .val (.ref ap), .val (.int (1 : Int32)), .val (.int (1 : Int32))] [(.ref ap), (.int (0 : Int32))])) _
          refine st30.trans ?_
          show Steps p.tables e below (T30.setTop (mkF m 88 #[.val (.int p0), .val (.int p1), .val (.int ((p0 &&& (2147483647 : Int32)) % (3 : Int32))), .val (.ref ap), .val (.int (1 : Int32)), .val (.int (1 : Int32))] [(.int (if ap = ae then (1 : Int32) else (0 : Int32))), (.int (0 : Int32))])) _
          refine XS.icmpYes X30.here hx rfl (pc0 := 88) (pc' := 95) rfl (hb hby at_88) rfl (teq ((if_neg np).symm)).1 (by decide) (by decide) ?_
          show Steps p.tables e below (T30.setTop (mkF m 95 #[.val (.int p0), .val (.int p1), .val (.int ((p0 &&& (2147483647 : Int32)) % (3 : Int32))), .val (.ref ap), .val (.int (1 : Int32)), .val (.int (1 : Int32))] [])) _
          refine XS.iconst X30.here hx rfl (hb hby at_95) ?_
          show Steps p.tables e below (T30.setTop (mkF m 96 #[.val (.int p0), .val (.int p1), .val (.int ((p0 &&& (2147483647 : Int32)) % (3 : Int32))), .val (.ref ap), .val (.int (1 : Int32)), .val (.int (1 : Int32))] [(.int (1 : Int32))])) _
          refine XS.goto X30.here hx rfl (pc0 := 96) (pc' := 100) rfl (hb hby at_96) (by decide) (by decide) ?_
          exact k
        obtain ⟨fs, hr, hrun, hended, hW, hsame⟩ := X30.leave (v := some (.int (1 : Int32))) (fun h => by rw [Bd.returns] at h; cases h)
        refine ⟨_, _, R31 _ ?_, hrun, hended, _, _, rfl, ?_, ⟨_, rfl⟩, hW, hsame.mono (by decide) (by decide)⟩
        · exact retN X30 hx (t := .boolean) Bd.returns (by simp) (hb hby at_100) hr
        · show Q0 Z p0 p1 ak ap ae h0 n0 _ T30.heap _
          rw [e30]
          exact ⟨rfl, N30⟩
    ·
      rw [if_neg hk1] at R3
      obtain ⟨cq32, kq32, q32a, q32b, q32c⟩ := isOf hZ e2 Eae
      obtain ⟨_, _, ⟨T32, L32, k32, n32⟩, -, X32, ⟨Lc32, hQ32, l32, y32, z32⟩, st32⟩ := X2.virtualBack hx (y := (⟨"com/example/key_ranges/keyranges/KeyShape", "fewestValues", "(I)I"⟩ : MethodName)) (z := (⟨"com/example/key_ranges/keyranges/KeyShape", "fewestValues", "(I)I"⟩ : MethodName)) hown (mvT hZ (hw _ (List.mem_of_getElem? (i := 8) rfl))) (mvT hZ (hw _ (List.mem_of_getElem? (i := 9) rfl))) (notFace_of_selects (args := #[]) (mvT hZ (hw _ (List.mem_of_getElem? (i := 11) rfl)))) (mvT hZ (hw _ (List.mem_of_getElem? (i := 11) rfl))) (mvT hZ (hw _ (List.mem_of_getElem? (i := 10) rfl))) (by decide) (backOf (W := 0) (rm2k2 l Z a0 hw [] ae p1 h0 n0 Z0 Oae Eae) hZ (hw _ (List.mem_of_getElem? (i := 12) rfl)) (hw _ (List.mem_of_getElem? (i := 6) rfl)) (by decide) (by decide)) q32a q32c (g := (mkF m 14 #[.val (.int p0), .val (.int p1), .val (.int ((p0 &&& (2147483647 : Int32)) % (3 : Int32))), .val (.ref ae), .unset, .unset] [(.int p1), (.ref ae)])) rfl (by rw [hml]; rfl) (Steps.refl _) (argsL := [(.int p1)]) (rest := []) (lenOf pd_2 rfl) rfl (by show 2 * 0 + _ ≤ _; exact Nat.le_of_eq rfl) (hb hby at_14) (fun _ _ => ⟨rfl, e2, (by decide : 0 + 0 ≤ _), (by decide : 0 + 0 ≤ _)⟩)
      dsimp only [Pt.U, Pt.locs, Pt.cells, Pt.slots] at X32 l32 y32 z32 st32 hQ32
      subst l32 y32 z32
      obtain ⟨rfl, Nq32, eq32⟩ := hQ32
      have N32 := Fr.app N2 Nq32
      have e32 : T32.heap = h0 := eq32
      have R33 : ∀ t, Steps p.tables e below (T32.setTop (mkF m 54 #[.val (.int p0), .val (.int p1), .val (.int ((p0 &&& (2147483647 : Int32)) % (3 : Int32))), .val (.ref ae), .val (.int (0 : Int32)), .val (.int (0 : Int32))] [(.int (1 : Int32)), (.int p1)])) t → Steps p.tables e below (s₁.setTop (entryFrame m #[(.int p0), (.int p1)] maxLocals)) t := by
        intro t k
        refine R3 t ?_
        show Steps p.tables e below (T2.setTop (mkF m 14 #[.val (.int p0), .val (.int p1), .val (.int ((p0 &&& (2147483647 : Int32)) % (3 : Int32))), .val (.ref ae), .unset, .unset] [(.int p1), (.ref ae)])) _
        refine st32.trans ?_
        show Steps p.tables e below (T32.setTop (mkF m 17 #[.val (.int p0), .val (.int p1), .val (.int ((p0 &&& (2147483647 : Int32)) % (3 : Int32))), .val (.ref ae), .unset, .unset] [(.int (0 : Int32))])) _
        refine XS.istore X32.here hx rfl (hb hby at_17) rfl (l' := #[.val (.int p0), .val (.int p1), .val (.int ((p0 &&& (2147483647 : Int32)) % (3 : Int32))), .val (.ref ae), .val (.int (0 : Int32)), .unset]) rfl ?_
        show Steps p.tables e below (T32.setTop (mkF m 19 #[.val (.int p0), .val (.int p1), .val (.int ((p0 &&& (2147483647 : Int32)) % (3 : Int32))), .val (.ref ae), .val (.int (0 : Int32)), .unset] [])) _
        refine XS.iloadN X32.here hx rfl (hb hby at_19) rfl ?_
        show Steps p.tables e below (T32.setTop (mkF m 20 #[.val (.int p0), .val (.int p1), .val (.int ((p0 &&& (2147483647 : Int32)) % (3 : Int32))), .val (.ref ae), .val (.int (0 : Int32)), .unset] [(.int ((p0 &&& (2147483647 : Int32)) % (3 : Int32)))])) _
        refine XS.ifYes X32.here hx rfl (pc0 := 20) (pc' := 29) rfl (hb hby at_20) rfl ((if0 _ _).trans (feq hk0).2) (by decide) (by decide) ?_
        show Steps p.tables e below (T32.setTop (mkF m 29 #[.val (.int p0), .val (.int p1), .val (.int ((p0 &&& (2147483647 : Int32)) % (3 : Int32))), .val (.ref ae), .val (.int (0 : Int32)), .unset] [])) _
        refine XS.iloadN X32.here hx rfl (hb hby at_29) rfl ?_
        show Steps p.tables e below (T32.setTop (mkF m 30 #[.val (.int p0), .val (.int p1), .val (.int ((p0 &&& (2147483647 : Int32)) % (3 : Int32))), .val (.ref ae), .val (.int (0 : Int32)), .unset] [(.int ((p0 &&& (2147483647 : Int32)) % (3 : Int32)))])) _
        refine XS.iconst X32.here hx rfl (hb hby at_30) ?_
        show Steps p.tables e below (T32.setTop (mkF m 31 #[.val (.int p0), .val (.int p1), .val (.int ((p0 &&& (2147483647 : Int32)) % (3 : Int32))), .val (.ref ae), .val (.int (0 : Int32)), .unset] [(.int (1 : Int32)), (.int ((p0 &&& (2147483647 : Int32)) % (3 : Int32)))])) _
        refine XS.icmpYes X32.here hx rfl (pc0 := 31) (pc' := 40) rfl (hb hby at_31) rfl (feq hk1).2 (by decide) (by decide) ?_
        show Steps p.tables e below (T32.setTop (mkF m 40 #[.val (.int p0), .val (.int p1), .val (.int ((p0 &&& (2147483647 : Int32)) % (3 : Int32))), .val (.ref ae), .val (.int (0 : Int32)), .unset] [])) _
        refine XS.iconst X32.here hx rfl (hb hby at_40) ?_
        show Steps p.tables e below (T32.setTop (mkF m 41 #[.val (.int p0), .val (.int p1), .val (.int ((p0 &&& (2147483647 : Int32)) % (3 : Int32))), .val (.ref ae), .val (.int (0 : Int32)), .unset] [(.int (0 : Int32))])) _
        refine XS.istore X32.here hx rfl (hb hby at_41) rfl (l' := #[.val (.int p0), .val (.int p1), .val (.int ((p0 &&& (2147483647 : Int32)) % (3 : Int32))), .val (.ref ae), .val (.int (0 : Int32)), .val (.int (0 : Int32))]) rfl ?_
        show Steps p.tables e below (T32.setTop (mkF m 43 #[.val (.int p0), .val (.int p1), .val (.int ((p0 &&& (2147483647 : Int32)) % (3 : Int32))), .val (.ref ae), .val (.int (0 : Int32)), .val (.int (0 : Int32))] [])) _
        refine XS.iload X32.here hx rfl (hb hby at_43) rfl ?_
        show Steps p.tables e below (T32.setTop (mkF m 45 #[.val (.int p0), .val (.int p1), .val (.int ((p0 &&& (2147483647 : Int32)) % (3 : Int32))), .val (.ref ae), .val (.int (0 : Int32)), .val (.int (0 : Int32))] [(.int (0 : Int32))])) _
        refine XS.iload X32.here hx rfl (hb hby at_45) rfl ?_
        show Steps p.tables e below (T32.setTop (mkF m 47 #[.val (.int p0), .val (.int p1), .val (.int ((p0 &&& (2147483647 : Int32)) % (3 : Int32))), .val (.ref ae), .val (.int (0 : Int32)), .val (.int (0 : Int32))] [(.int (0 : Int32)), (.int (0 : Int32))])) _
        refine XS.icmpYes X32.here hx rfl (pc0 := 47) (pc' := 52) rfl (hb hby at_47) rfl (teq (rfl : (0 : Int32) = (0 : Int32))).1 (by decide) (by decide) ?_
        show Steps p.tables e below (T32.setTop (mkF m 52 #[.val (.int p0), .val (.int p1), .val (.int ((p0 &&& (2147483647 : Int32)) % (3 : Int32))), .val (.ref ae), .val (.int (0 : Int32)), .val (.int (0 : Int32))] [])) _
        refine XS.iloadN X32.here hx rfl (hb hby at_52) rfl ?_
        show Steps p.tables e below (T32.setTop (mkF m 53 #[.val (.int p0), .val (.int p1), .val (.int ((p0 &&& (2147483647 : Int32)) % (3 : Int32))), .val (.ref ae), .val (.int (0 : Int32)), .val (.int (0 : Int32))] [(.int p1)])) _
        refine XS.iconst X32.here hx rfl (hb hby at_53) ?_
        exact k
      by_cases hc34 : p1 < (1 : Int32)
      ·
        skip
        have R35 : ∀ t, Steps p.tables e below (T32.setTop (mkF m 76 #[.val (.int p0), .val (.int p1), .val (.int ((p0 &&& (2147483647 : Int32)) % (3 : Int32))), .val (.ref ae), .val (.int (0 : Int32)), .val (.int (0 : Int32))] [(.int p1)])) t → Steps p.tables e below (s₁.setTop (entryFrame m #[(.int p0), (.int p1)] maxLocals)) t := by
          intro t k
          refine R33 t ?_
          show Steps p.tables e below (T32.setTop (mkF m 54 #[.val (.int p0), .val (.int p1), .val (.int ((p0 &&& (2147483647 : Int32)) % (3 : Int32))), .val (.ref ae), .val (.int (0 : Int32)), .val (.int (0 : Int32))] [(.int (1 : Int32)), (.int p1)])) _
          refine XS.icmpYes X32.here hx rfl (pc0 := 54) (pc' := 70) rfl (hb hby at_54) rfl (tlt hc34).1 (by decide) (by decide) ?_
          show Steps p.tables e below (T32.setTop (mkF m 70 #[.val (.int p0), .val (.int p1), .val (.int ((p0 &&& (2147483647 : Int32)) % (3 : Int32))), .val (.ref ae), .val (.int (0 : Int32)), .val (.int (0 : Int32))] [])) _
          refine XS.iload X32.here hx rfl (hb hby at_70) rfl ?_
          show Steps p.tables e below (T32.setTop (mkF m 72 #[.val (.int p0), .val (.int p1), .val (.int ((p0 &&& (2147483647 : Int32)) % (3 : Int32))), .val (.ref ae), .val (.int (0 : Int32)), .val (.int (0 : Int32))] [(.int (0 : Int32))])) _
          refine XS.ifNo X32.here hx rfl (hb hby at_72) rfl ((if0 _ _).trans (teq (rfl : (0 : Int32) = 0)).2) ?_
          show Steps p.tables e below (T32.setTop (mkF m 75 #[.val (.int p0), .val (.int p1), .val (.int ((p0 &&& (2147483647 : Int32)) % (3 : Int32))), .val (.ref ae), .val (.int (0 : Int32)), .val (.int (0 : Int32))] [])) _
          refine XS.iloadN X32.here hx rfl (hb hby at_75) rfl ?_
          exact k
        by_cases hc36 : p1 = (0 : Int32)
        ·
          skip
          have R37 : ∀ t, Steps p.tables e below (T32.setTop (mkF m 85 #[.val (.int p0), .val (.int p1), .val (.int ((p0 &&& (2147483647 : Int32)) % (3 : Int32))), .val (.ref ae), .val (.int (0 : Int32)), .val (.int (0 : Int32))] [(.ref ae), (.int (0 : Int32))])) t → Steps p.tables e below (s₁.setTop (entryFrame m #[(.int p0), (.int p1)] maxLocals)) t := by
            intro t k
            refine R35 t ?_
            show Steps p.tables e below (T32.setTop (mkF m 76 #[.val (.int p0), .val (.int p1), .val (.int ((p0 &&& (2147483647 : Int32)) % (3 : Int32))), .val (.ref ae), .val (.int (0 : Int32)), .val (.int (0 : Int32))] [(.int p1)])) _
            refine XS.ifYes X32.here hx rfl (pc0 := 76) (pc' := 83) rfl (hb hby at_76) rfl ((if0 _ _).trans (teq hc36).1) (by decide) (by decide) ?_
            show Steps p.tables e below (T32.setTop (mkF m 83 #[.val (.int p0), .val (.int p1), .val (.int ((p0 &&& (2147483647 : Int32)) % (3 : Int32))), .val (.ref ae), .val (.int (0 : Int32)), .val (.int (0 : Int32))] [])) _
            refine XS.iconst X32.here hx rfl (hb hby at_83) ?_
            show Steps p.tables e below (T32.setTop (mkF m 84 #[.val (.int p0), .val (.int p1), .val (.int ((p0 &&& (2147483647 : Int32)) % (3 : Int32))), .val (.ref ae), .val (.int (0 : Int32)), .val (.int (0 : Int32))] [(.int (0 : Int32))])) _
            refine XS.aloadN X32.here hx rfl (hb hby at_84) rfl rfl ?_
            exact k
          obtain ⟨cq38, kq38, q38a, q38b, q38c⟩ := isOf hZ e32 Eae
          obtain ⟨_, _, ⟨T38, L38, k38, n38⟩, -, X38, ⟨Lc38, hQ38, l38, y38, z38⟩, st38⟩ := X32.virtualBack hx (y := (⟨"com/example/key_ranges/keyranges/KeyShape", "takesBounds", "()Z"⟩ : MethodName)) (z := (⟨"com/example/key_ranges/keyranges/KeyShape", "takesBounds", "()Z"⟩ : MethodName)) hown (mvT hZ (hw _ (List.mem_of_getElem? (i := 22) rfl))) (mvT hZ (hw _ (List.mem_of_getElem? (i := 23) rfl))) (notFace_of_selects (args := #[]) (mvT hZ (hw _ (List.mem_of_getElem? (i := 25) rfl)))) (mvT hZ (hw _ (List.mem_of_getElem? (i := 25) rfl))) (mvT hZ (hw _ (List.mem_of_getElem? (i := 24) rfl))) (by decide) (backOf (W := 1) (rm4 l Z a0 hw [] ae ae h0 n0 Z0 Sae) hZ (hw _ (List.mem_of_getElem? (i := 26) rfl)) (hw _ (List.mem_of_getElem? (i := 6) rfl)) (by decide) (by decide)) q38a q38c (g := (mkF m 85 #[.val (.int p0), .val (.int p1), .val (.int ((p0 &&& (2147483647 : Int32)) % (3 : Int32))), .val (.ref ae), .val (.int (0 : Int32)), .val (.int (0 : Int32))] [(.ref ae), (.int (0 : Int32))])) rfl (by rw [hml]; rfl) (Steps.refl _) (argsL := []) (rest := [(.int (0 : Int32))]) (lenOf pd_3 rfl) rfl (by show 2 * 0 + _ ≤ _; exact Nat.le_of_eq rfl) (hb hby at_85) (fun _ _ => ⟨rfl, e32, (by decide : 0 + 0 ≤ _), (by decide : 0 + 0 ≤ _)⟩)
          dsimp only [Pt.U, Pt.locs, Pt.cells, Pt.slots] at X38 l38 y38 z38 st38 hQ38
          subst l38 y38 z38
          obtain ⟨rfl, Nq38, eq38⟩ := hQ38
          have N38 := Fr.app N32 Nq38
          have e38 : T38.heap = h0 := eq38
          have R39 : ∀ t, Steps p.tables e below (T38.setTop (mkF m 100 #[.val (.int p0), .val (.int p1), .val (.int ((p0 &&& (2147483647 : Int32)) % (3 : Int32))), .val (.ref ae), .val (.int (0 : Int32)), .val (.int (0 : Int32))] [(.int (1 : Int32))])) t → Steps p.tables e below (s₁.setTop (entryFrame m #[(.int p0), (.int p1)] maxLocals)) t := by
            intro t k
            refine R37 t ?_
            show Steps p.tables e below (T32.setTop (mkF m 85 #[.val (.int p0), .val (.int p1), .val (.int ((p0 &&& (2147483647 : Int32)) % (3 : Int32))), .val (.ref ae), .val (.int (0 : Int32)), .val (.int (0 : Int32))] [(.ref ae), (.int (0 : Int32))])) _
            refine st38.trans ?_
            show Steps p.tables e below (T38.setTop (mkF m 88 #[.val (.int p0), .val (.int p1), .val (.int ((p0 &&& (2147483647 : Int32)) % (3 : Int32))), .val (.ref ae), .val (.int (0 : Int32)), .val (.int (0 : Int32))] [(.int (if ae = ae then (1 : Int32) else (0 : Int32))), (.int (0 : Int32))])) _
            refine XS.icmpNo X38.here hx rfl (hb hby at_88) rfl (feq (fun q => absurd (q.trans (if_pos rfl)) (by decide))).1 ?_
            show Steps p.tables e below (T38.setTop (mkF m 91 #[.val (.int p0), .val (.int p1), .val (.int ((p0 &&& (2147483647 : Int32)) % (3 : Int32))), .val (.ref ae), .val (.int (0 : Int32)), .val (.int (0 : Int32))] [])) _
            refine XS.iloadN X38.here hx rfl (hb hby at_91) rfl ?_
            show Steps p.tables e below (T38.setTop (mkF m 92 #[.val (.int p0), .val (.int p1), .val (.int ((p0 &&& (2147483647 : Int32)) % (3 : Int32))), .val (.ref ae), .val (.int (0 : Int32)), .val (.int (0 : Int32))] [(.int p1)])) _
            refine XS.ifNo X38.here hx rfl (hb hby at_92) rfl ((if0 _ _).trans (teq hc36).2) ?_
            show Steps p.tables e below (T38.setTop (mkF m 95 #[.val (.int p0), .val (.int p1), .val (.int ((p0 &&& (2147483647 : Int32)) % (3 : Int32))), .val (.ref ae), .val (.int (0 : Int32)), .val (.int (0 : Int32))] [])) _
            refine XS.iconst X38.here hx rfl (hb hby at_95) ?_
            show Steps p.tables e below (T38.setTop (mkF m 96 #[.val (.int p0), .val (.int p1), .val (.int ((p0 &&& (2147483647 : Int32)) % (3 : Int32))), .val (.ref ae), .val (.int (0 : Int32)), .val (.int (0 : Int32))] [(.int (1 : Int32))])) _
            refine XS.goto X38.here hx rfl (pc0 := 96) (pc' := 100) rfl (hb hby at_96) (by decide) (by decide) ?_
            exact k
          obtain ⟨fs, hr, hrun, hended, hW, hsame⟩ := X38.leave (v := some (.int (1 : Int32))) (fun h => by rw [Bd.returns] at h; cases h)
          refine ⟨_, _, R39 _ ?_, hrun, hended, _, _, rfl, ?_, ⟨_, rfl⟩, hW, hsame.mono (by decide) (by decide)⟩
          · exact retN X38 hx (t := .boolean) Bd.returns (by simp) (hb hby at_100) hr
          · show Q0 Z p0 p1 ak ap ae h0 n0 _ T38.heap _
            rw [e38]
            exact ⟨rfl, N38⟩
        ·
          skip
          have R40 : ∀ t, Steps p.tables e below (T32.setTop (mkF m 85 #[.val (.int p0), .val (.int p1), .val (.int ((p0 &&& (2147483647 : Int32)) % (3 : Int32))), .val (.ref ae), .val (.int (0 : Int32)), .val (.int (0 : Int32))] [(.ref ae), (.int (1 : Int32))])) t → Steps p.tables e below (s₁.setTop (entryFrame m #[(.int p0), (.int p1)] maxLocals)) t := by
            intro t k
            refine R35 t ?_
            show Steps p.tables e below (T32.setTop (mkF m 76 #[.val (.int p0), .val (.int p1), .val (.int ((p0 &&& (2147483647 : Int32)) % (3 : Int32))), .val (.ref ae), .val (.int (0 : Int32)), .val (.int (0 : Int32))] [(.int p1)])) _
            refine XS.ifNo X32.here hx rfl (hb hby at_76) rfl ((if0 _ _).trans (feq hc36).1) ?_
            show Steps p.tables e below (T32.setTop (mkF m 79 #[.val (.int p0), .val (.int p1), .val (.int ((p0 &&& (2147483647 : Int32)) % (3 : Int32))), .val (.ref ae), .val (.int (0 : Int32)), .val (.int (0 : Int32))] [])) _
            refine XS.iconst X32.here hx rfl (hb hby at_79) ?_
            show Steps p.tables e below (T32.setTop (mkF m 80 #[.val (.int p0), .val (.int p1), .val (.int ((p0 &&& (2147483647 : Int32)) % (3 : Int32))), .val (.ref ae), .val (.int (0 : Int32)), .val (.int (0 : Int32))] [(.int (1 : Int32))])) _
            refine XS.goto X32.here hx rfl (pc0 := 80) (pc' := 84) rfl (hb hby at_80) (by decide) (by decide) ?_
            show Steps p.tables e below (T32.setTop (mkF m 84 #[.val (.int p0), .val (.int p1), .val (.int ((p0 &&& (2147483647 : Int32)) % (3 : Int32))), .val (.ref ae), .val (.int (0 : Int32)), .val (.int (0 : Int32))] [(.int (1 : Int32))])) _
            refine XS.aloadN X32.here hx rfl (hb hby at_84) rfl rfl ?_
            exact k
          obtain ⟨cq41, kq41, q41a, q41b, q41c⟩ := isOf hZ e32 Eae
          obtain ⟨_, _, ⟨T41, L41, k41, n41⟩, -, X41, ⟨Lc41, hQ41, l41, y41, z41⟩, st41⟩ := X32.virtualBack hx (y := (⟨"com/example/key_ranges/keyranges/KeyShape", "takesBounds", "()Z"⟩ : MethodName)) (z := (⟨"com/example/key_ranges/keyranges/KeyShape", "takesBounds", "()Z"⟩ : MethodName)) hown (mvT hZ (hw _ (List.mem_of_getElem? (i := 22) rfl))) (mvT hZ (hw _ (List.mem_of_getElem? (i := 23) rfl))) (notFace_of_selects (args := #[]) (mvT hZ (hw _ (List.mem_of_getElem? (i := 25) rfl)))) (mvT hZ (hw _ (List.mem_of_getElem? (i := 25) rfl))) (mvT hZ (hw _ (List.mem_of_getElem? (i := 24) rfl))) (by decide) (backOf (W := 1) (rm4 l Z a0 hw [] ae ae h0 n0 Z0 Sae) hZ (hw _ (List.mem_of_getElem? (i := 26) rfl)) (hw _ (List.mem_of_getElem? (i := 6) rfl)) (by decide) (by decide)) q41a q41c (g := (mkF m 85 #[.val (.int p0), .val (.int p1), .val (.int ((p0 &&& (2147483647 : Int32)) % (3 : Int32))), .val (.ref ae), .val (.int (0 : Int32)), .val (.int (0 : Int32))] [(.ref ae), (.int (1 : Int32))])) rfl (by rw [hml]; rfl) (Steps.refl _) (argsL := []) (rest := [(.int (1 : Int32))]) (lenOf pd_3 rfl) rfl (by show 2 * 0 + _ ≤ _; exact Nat.le_of_eq rfl) (hb hby at_85) (fun _ _ => ⟨rfl, e32, (by decide : 0 + 0 ≤ _), (by decide : 0 + 0 ≤ _)⟩)
          dsimp only [Pt.U, Pt.locs, Pt.cells, Pt.slots] at X41 l41 y41 z41 st41 hQ41
          subst l41 y41 z41
          obtain ⟨rfl, Nq41, eq41⟩ := hQ41
          have N41 := Fr.app N32 Nq41
          have e41 : T41.heap = h0 := eq41
          have R42 : ∀ t, Steps p.tables e below (T41.setTop (mkF m 100 #[.val (.int p0), .val (.int p1), .val (.int ((p0 &&& (2147483647 : Int32)) % (3 : Int32))), .val (.ref ae), .val (.int (0 : Int32)), .val (.int (0 : Int32))] [(.int (1 : Int32))])) t → Steps p.tables e below (s₁.setTop (entryFrame m #[(.int p0), (.int p1)] maxLocals)) t := by
            intro t k
            refine R40 t ?_
            show Steps p.tables e below (T32.setTop (mkF m 85 #[.val (.int p0), .val (.int p1), .val (.int ((p0 &&& (2147483647 : Int32)) % (3 : Int32))), .val (.ref ae), .val (.int (0 : Int32)), .val (.int (0 : Int32))] [(.ref ae), (.int (1 : Int32))])) _
            refine st41.trans ?_
            show Steps p.tables e below (T41.setTop (mkF m 88 #[.val (.int p0), .val (.int p1), .val (.int ((p0 &&& (2147483647 : Int32)) % (3 : Int32))), .val (.ref ae), .val (.int (0 : Int32)), .val (.int (0 : Int32))] [(.int (if ae = ae then (1 : Int32) else (0 : Int32))), (.int (1 : Int32))])) _
            refine XS.icmpYes X41.here hx rfl (pc0 := 88) (pc' := 95) rfl (hb hby at_88) rfl (teq ((if_pos rfl).symm)).1 (by decide) (by decide) ?_
            show Steps p.tables e below (T41.setTop (mkF m 95 #[.val (.int p0), .val (.int p1), .val (.int ((p0 &&& (2147483647 : Int32)) % (3 : Int32))), .val (.ref ae), .val (.int (0 : Int32)), .val (.int (0 : Int32))] [])) _
            refine XS.iconst X41.here hx rfl (hb hby at_95) ?_
            show Steps p.tables e below (T41.setTop (mkF m 96 #[.val (.int p0), .val (.int p1), .val (.int ((p0 &&& (2147483647 : Int32)) % (3 : Int32))), .val (.ref ae), .val (.int (0 : Int32)), .val (.int (0 : Int32))] [(.int (1 : Int32))])) _
            refine XS.goto X41.here hx rfl (pc0 := 96) (pc' := 100) rfl (hb hby at_96) (by decide) (by decide) ?_
            exact k
          obtain ⟨fs, hr, hrun, hended, hW, hsame⟩ := X41.leave (v := some (.int (1 : Int32))) (fun h => by rw [Bd.returns] at h; cases h)
          refine ⟨_, _, R42 _ ?_, hrun, hended, _, _, rfl, ?_, ⟨_, rfl⟩, hW, hsame.mono (by decide) (by decide)⟩
          · exact retN X41 hx (t := .boolean) Bd.returns (by simp) (hb hby at_100) hr
          · show Q0 Z p0 p1 ak ap ae h0 n0 _ T41.heap _
            rw [e41]
            exact ⟨rfl, N41⟩
      ·
        skip
        have R43 : ∀ t, Steps p.tables e below (T32.setTop (mkF m 76 #[.val (.int p0), .val (.int p1), .val (.int ((p0 &&& (2147483647 : Int32)) % (3 : Int32))), .val (.ref ae), .val (.int (0 : Int32)), .val (.int (0 : Int32))] [(.int p1)])) t → Steps p.tables e below (s₁.setTop (entryFrame m #[(.int p0), (.int p1)] maxLocals)) t := by
          intro t k
          refine R33 t ?_
          show Steps p.tables e below (T32.setTop (mkF m 54 #[.val (.int p0), .val (.int p1), .val (.int ((p0 &&& (2147483647 : Int32)) % (3 : Int32))), .val (.ref ae), .val (.int (0 : Int32)), .val (.int (0 : Int32))] [(.int (1 : Int32)), (.int p1)])) _
          refine XS.icmpNo X32.here hx rfl (hb hby at_54) rfl (flt hc34).1 ?_
          show Steps p.tables e below (T32.setTop (mkF m 57 #[.val (.int p0), .val (.int p1), .val (.int ((p0 &&& (2147483647 : Int32)) % (3 : Int32))), .val (.ref ae), .val (.int (0 : Int32)), .val (.int (0 : Int32))] [])) _
          refine XS.iload X32.here hx rfl (hb hby at_57) rfl ?_
          show Steps p.tables e below (T32.setTop (mkF m 59 #[.val (.int p0), .val (.int p1), .val (.int ((p0 &&& (2147483647 : Int32)) % (3 : Int32))), .val (.ref ae), .val (.int (0 : Int32)), .val (.int (0 : Int32))] [(.int (0 : Int32))])) _
          refine XS.ifNo X32.here hx rfl (hb hby at_59) rfl ((if0 _ _).trans (flt (by decide)).1) ?_
          show Steps p.tables e below (T32.setTop (mkF m 62 #[.val (.int p0), .val (.int p1), .val (.int ((p0 &&& (2147483647 : Int32)) % (3 : Int32))), .val (.ref ae), .val (.int (0 : Int32)), .val (.int (0 : Int32))] [])) _
          refine XS.iload X32.here hx rfl (hb hby at_62) rfl ?_
          show Steps p.tables e below (T32.setTop (mkF m 64 #[.val (.int p0), .val (.int p1), .val (.int ((p0 &&& (2147483647 : Int32)) % (3 : Int32))), .val (.ref ae), .val (.int (0 : Int32)), .val (.int (0 : Int32))] [(.int (0 : Int32))])) _
          refine XS.iloadN X32.here hx rfl (hb hby at_64) rfl ?_
          show Steps p.tables e below (T32.setTop (mkF m 65 #[.val (.int p0), .val (.int p1), .val (.int ((p0 &&& (2147483647 : Int32)) % (3 : Int32))), .val (.ref ae), .val (.int (0 : Int32)), .val (.int (0 : Int32))] [(.int p1), (.int (0 : Int32))])) _
          refine XS.icmpYes X32.here hx rfl (pc0 := 65) (pc' := 70) rfl (hb hby at_65) rfl (flt (own_n0 _ hc34)).2.2.2 (by decide) (by decide) ?_
          show Steps p.tables e below (T32.setTop (mkF m 70 #[.val (.int p0), .val (.int p1), .val (.int ((p0 &&& (2147483647 : Int32)) % (3 : Int32))), .val (.ref ae), .val (.int (0 : Int32)), .val (.int (0 : Int32))] [])) _
          refine XS.iload X32.here hx rfl (hb hby at_70) rfl ?_
          show Steps p.tables e below (T32.setTop (mkF m 72 #[.val (.int p0), .val (.int p1), .val (.int ((p0 &&& (2147483647 : Int32)) % (3 : Int32))), .val (.ref ae), .val (.int (0 : Int32)), .val (.int (0 : Int32))] [(.int (0 : Int32))])) _
          refine XS.ifNo X32.here hx rfl (hb hby at_72) rfl ((if0 _ _).trans (teq (rfl : (0 : Int32) = 0)).2) ?_
          show Steps p.tables e below (T32.setTop (mkF m 75 #[.val (.int p0), .val (.int p1), .val (.int ((p0 &&& (2147483647 : Int32)) % (3 : Int32))), .val (.ref ae), .val (.int (0 : Int32)), .val (.int (0 : Int32))] [])) _
          refine XS.iloadN X32.here hx rfl (hb hby at_75) rfl ?_
          exact k
        by_cases hc44 : p1 = (0 : Int32)
        ·
          skip
          have R45 : ∀ t, Steps p.tables e below (T32.setTop (mkF m 85 #[.val (.int p0), .val (.int p1), .val (.int ((p0 &&& (2147483647 : Int32)) % (3 : Int32))), .val (.ref ae), .val (.int (0 : Int32)), .val (.int (0 : Int32))] [(.ref ae), (.int (0 : Int32))])) t → Steps p.tables e below (s₁.setTop (entryFrame m #[(.int p0), (.int p1)] maxLocals)) t := by
            intro t k
            refine R43 t ?_
            show Steps p.tables e below (T32.setTop (mkF m 76 #[.val (.int p0), .val (.int p1), .val (.int ((p0 &&& (2147483647 : Int32)) % (3 : Int32))), .val (.ref ae), .val (.int (0 : Int32)), .val (.int (0 : Int32))] [(.int p1)])) _
            refine XS.ifYes X32.here hx rfl (pc0 := 76) (pc' := 83) rfl (hb hby at_76) rfl ((if0 _ _).trans (teq hc44).1) (by decide) (by decide) ?_
            show Steps p.tables e below (T32.setTop (mkF m 83 #[.val (.int p0), .val (.int p1), .val (.int ((p0 &&& (2147483647 : Int32)) % (3 : Int32))), .val (.ref ae), .val (.int (0 : Int32)), .val (.int (0 : Int32))] [])) _
            refine XS.iconst X32.here hx rfl (hb hby at_83) ?_
            show Steps p.tables e below (T32.setTop (mkF m 84 #[.val (.int p0), .val (.int p1), .val (.int ((p0 &&& (2147483647 : Int32)) % (3 : Int32))), .val (.ref ae), .val (.int (0 : Int32)), .val (.int (0 : Int32))] [(.int (0 : Int32))])) _
            refine XS.aloadN X32.here hx rfl (hb hby at_84) rfl rfl ?_
            exact k
          obtain ⟨cq46, kq46, q46a, q46b, q46c⟩ := isOf hZ e32 Eae
          obtain ⟨_, _, ⟨T46, L46, k46, n46⟩, -, X46, ⟨Lc46, hQ46, l46, y46, z46⟩, st46⟩ := X32.virtualBack hx (y := (⟨"com/example/key_ranges/keyranges/KeyShape", "takesBounds", "()Z"⟩ : MethodName)) (z := (⟨"com/example/key_ranges/keyranges/KeyShape", "takesBounds", "()Z"⟩ : MethodName)) hown (mvT hZ (hw _ (List.mem_of_getElem? (i := 22) rfl))) (mvT hZ (hw _ (List.mem_of_getElem? (i := 23) rfl))) (notFace_of_selects (args := #[]) (mvT hZ (hw _ (List.mem_of_getElem? (i := 25) rfl)))) (mvT hZ (hw _ (List.mem_of_getElem? (i := 25) rfl))) (mvT hZ (hw _ (List.mem_of_getElem? (i := 24) rfl))) (by decide) (backOf (W := 1) (rm4 l Z a0 hw [] ae ae h0 n0 Z0 Sae) hZ (hw _ (List.mem_of_getElem? (i := 26) rfl)) (hw _ (List.mem_of_getElem? (i := 6) rfl)) (by decide) (by decide)) q46a q46c (g := (mkF m 85 #[.val (.int p0), .val (.int p1), .val (.int ((p0 &&& (2147483647 : Int32)) % (3 : Int32))), .val (.ref ae), .val (.int (0 : Int32)), .val (.int (0 : Int32))] [(.ref ae), (.int (0 : Int32))])) rfl (by rw [hml]; rfl) (Steps.refl _) (argsL := []) (rest := [(.int (0 : Int32))]) (lenOf pd_3 rfl) rfl (by show 2 * 0 + _ ≤ _; exact Nat.le_of_eq rfl) (hb hby at_85) (fun _ _ => ⟨rfl, e32, (by decide : 0 + 0 ≤ _), (by decide : 0 + 0 ≤ _)⟩)
          dsimp only [Pt.U, Pt.locs, Pt.cells, Pt.slots] at X46 l46 y46 z46 st46 hQ46
          subst l46 y46 z46
          obtain ⟨rfl, Nq46, eq46⟩ := hQ46
          have N46 := Fr.app N32 Nq46
          have e46 : T46.heap = h0 := eq46
          have R47 : ∀ t, Steps p.tables e below (T46.setTop (mkF m 100 #[.val (.int p0), .val (.int p1), .val (.int ((p0 &&& (2147483647 : Int32)) % (3 : Int32))), .val (.ref ae), .val (.int (0 : Int32)), .val (.int (0 : Int32))] [(.int (1 : Int32))])) t → Steps p.tables e below (s₁.setTop (entryFrame m #[(.int p0), (.int p1)] maxLocals)) t := by
            intro t k
            refine R45 t ?_
            show Steps p.tables e below (T32.setTop (mkF m 85 #[.val (.int p0), .val (.int p1), .val (.int ((p0 &&& (2147483647 : Int32)) % (3 : Int32))), .val (.ref ae), .val (.int (0 : Int32)), .val (.int (0 : Int32))] [(.ref ae), (.int (0 : Int32))])) _
            refine st46.trans ?_
            show Steps p.tables e below (T46.setTop (mkF m 88 #[.val (.int p0), .val (.int p1), .val (.int ((p0 &&& (2147483647 : Int32)) % (3 : Int32))), .val (.ref ae), .val (.int (0 : Int32)), .val (.int (0 : Int32))] [(.int (if ae = ae then (1 : Int32) else (0 : Int32))), (.int (0 : Int32))])) _
            refine XS.icmpNo X46.here hx rfl (hb hby at_88) rfl (feq (fun q => absurd (q.trans (if_pos rfl)) (by decide))).1 ?_
            show Steps p.tables e below (T46.setTop (mkF m 91 #[.val (.int p0), .val (.int p1), .val (.int ((p0 &&& (2147483647 : Int32)) % (3 : Int32))), .val (.ref ae), .val (.int (0 : Int32)), .val (.int (0 : Int32))] [])) _
            refine XS.iloadN X46.here hx rfl (hb hby at_91) rfl ?_
            show Steps p.tables e below (T46.setTop (mkF m 92 #[.val (.int p0), .val (.int p1), .val (.int ((p0 &&& (2147483647 : Int32)) % (3 : Int32))), .val (.ref ae), .val (.int (0 : Int32)), .val (.int (0 : Int32))] [(.int p1)])) _
            refine XS.ifNo X46.here hx rfl (hb hby at_92) rfl ((if0 _ _).trans (teq hc44).2) ?_
            show Steps p.tables e below (T46.setTop (mkF m 95 #[.val (.int p0), .val (.int p1), .val (.int ((p0 &&& (2147483647 : Int32)) % (3 : Int32))), .val (.ref ae), .val (.int (0 : Int32)), .val (.int (0 : Int32))] [])) _
            refine XS.iconst X46.here hx rfl (hb hby at_95) ?_
            show Steps p.tables e below (T46.setTop (mkF m 96 #[.val (.int p0), .val (.int p1), .val (.int ((p0 &&& (2147483647 : Int32)) % (3 : Int32))), .val (.ref ae), .val (.int (0 : Int32)), .val (.int (0 : Int32))] [(.int (1 : Int32))])) _
            refine XS.goto X46.here hx rfl (pc0 := 96) (pc' := 100) rfl (hb hby at_96) (by decide) (by decide) ?_
            exact k
          obtain ⟨fs, hr, hrun, hended, hW, hsame⟩ := X46.leave (v := some (.int (1 : Int32))) (fun h => by rw [Bd.returns] at h; cases h)
          refine ⟨_, _, R47 _ ?_, hrun, hended, _, _, rfl, ?_, ⟨_, rfl⟩, hW, hsame.mono (by decide) (by decide)⟩
          · exact retN X46 hx (t := .boolean) Bd.returns (by simp) (hb hby at_100) hr
          · show Q0 Z p0 p1 ak ap ae h0 n0 _ T46.heap _
            rw [e46]
            exact ⟨rfl, N46⟩
        ·
          skip
          have R48 : ∀ t, Steps p.tables e below (T32.setTop (mkF m 85 #[.val (.int p0), .val (.int p1), .val (.int ((p0 &&& (2147483647 : Int32)) % (3 : Int32))), .val (.ref ae), .val (.int (0 : Int32)), .val (.int (0 : Int32))] [(.ref ae), (.int (1 : Int32))])) t → Steps p.tables e below (s₁.setTop (entryFrame m #[(.int p0), (.int p1)] maxLocals)) t := by
            intro t k
            refine R43 t ?_
            show Steps p.tables e below (T32.setTop (mkF m 76 #[.val (.int p0), .val (.int p1), .val (.int ((p0 &&& (2147483647 : Int32)) % (3 : Int32))), .val (.ref ae), .val (.int (0 : Int32)), .val (.int (0 : Int32))] [(.int p1)])) _
            refine XS.ifNo X32.here hx rfl (hb hby at_76) rfl ((if0 _ _).trans (feq hc44).1) ?_
            show Steps p.tables e below (T32.setTop (mkF m 79 #[.val (.int p0), .val (.int p1), .val (.int ((p0 &&& (2147483647 : Int32)) % (3 : Int32))), .val (.ref ae), .val (.int (0 : Int32)), .val (.int (0 : Int32))] [])) _
            refine XS.iconst X32.here hx rfl (hb hby at_79) ?_
            show Steps p.tables e below (T32.setTop (mkF m 80 #[.val (.int p0), .val (.int p1), .val (.int ((p0 &&& (2147483647 : Int32)) % (3 : Int32))), .val (.ref ae), .val (.int (0 : Int32)), .val (.int (0 : Int32))] [(.int (1 : Int32))])) _
            refine XS.goto X32.here hx rfl (pc0 := 80) (pc' := 84) rfl (hb hby at_80) (by decide) (by decide) ?_
            show Steps p.tables e below (T32.setTop (mkF m 84 #[.val (.int p0), .val (.int p1), .val (.int ((p0 &&& (2147483647 : Int32)) % (3 : Int32))), .val (.ref ae), .val (.int (0 : Int32)), .val (.int (0 : Int32))] [(.int (1 : Int32))])) _
            refine XS.aloadN X32.here hx rfl (hb hby at_84) rfl rfl ?_
            exact k
          obtain ⟨cq49, kq49, q49a, q49b, q49c⟩ := isOf hZ e32 Eae
          obtain ⟨_, _, ⟨T49, L49, k49, n49⟩, -, X49, ⟨Lc49, hQ49, l49, y49, z49⟩, st49⟩ := X32.virtualBack hx (y := (⟨"com/example/key_ranges/keyranges/KeyShape", "takesBounds", "()Z"⟩ : MethodName)) (z := (⟨"com/example/key_ranges/keyranges/KeyShape", "takesBounds", "()Z"⟩ : MethodName)) hown (mvT hZ (hw _ (List.mem_of_getElem? (i := 22) rfl))) (mvT hZ (hw _ (List.mem_of_getElem? (i := 23) rfl))) (notFace_of_selects (args := #[]) (mvT hZ (hw _ (List.mem_of_getElem? (i := 25) rfl)))) (mvT hZ (hw _ (List.mem_of_getElem? (i := 25) rfl))) (mvT hZ (hw _ (List.mem_of_getElem? (i := 24) rfl))) (by decide) (backOf (W := 1) (rm4 l Z a0 hw [] ae ae h0 n0 Z0 Sae) hZ (hw _ (List.mem_of_getElem? (i := 26) rfl)) (hw _ (List.mem_of_getElem? (i := 6) rfl)) (by decide) (by decide)) q49a q49c (g := (mkF m 85 #[.val (.int p0), .val (.int p1), .val (.int ((p0 &&& (2147483647 : Int32)) % (3 : Int32))), .val (.ref ae), .val (.int (0 : Int32)), .val (.int (0 : Int32))] [(.ref ae), (.int (1 : Int32))])) rfl (by rw [hml]; rfl) (Steps.refl _) (argsL := []) (rest := [(.int (1 : Int32))]) (lenOf pd_3 rfl) rfl (by show 2 * 0 + _ ≤ _; exact Nat.le_of_eq rfl) (hb hby at_85) (fun _ _ => ⟨rfl, e32, (by decide : 0 + 0 ≤ _), (by decide : 0 + 0 ≤ _)⟩)
          dsimp only [Pt.U, Pt.locs, Pt.cells, Pt.slots] at X49 l49 y49 z49 st49 hQ49
          subst l49 y49 z49
          obtain ⟨rfl, Nq49, eq49⟩ := hQ49
          have N49 := Fr.app N32 Nq49
          have e49 : T49.heap = h0 := eq49
          have R50 : ∀ t, Steps p.tables e below (T49.setTop (mkF m 100 #[.val (.int p0), .val (.int p1), .val (.int ((p0 &&& (2147483647 : Int32)) % (3 : Int32))), .val (.ref ae), .val (.int (0 : Int32)), .val (.int (0 : Int32))] [(.int (1 : Int32))])) t → Steps p.tables e below (s₁.setTop (entryFrame m #[(.int p0), (.int p1)] maxLocals)) t := by
            intro t k
            refine R48 t ?_
            show Steps p.tables e below (T32.setTop (mkF m 85 #[.val (.int p0), .val (.int p1), .val (.int ((p0 &&& (2147483647 : Int32)) % (3 : Int32))), .val (.ref ae), .val (.int (0 : Int32)), .val (.int (0 : Int32))] [(.ref ae), (.int (1 : Int32))])) _
            refine st49.trans ?_
            show Steps p.tables e below (T49.setTop (mkF m 88 #[.val (.int p0), .val (.int p1), .val (.int ((p0 &&& (2147483647 : Int32)) % (3 : Int32))), .val (.ref ae), .val (.int (0 : Int32)), .val (.int (0 : Int32))] [(.int (if ae = ae then (1 : Int32) else (0 : Int32))), (.int (1 : Int32))])) _
            refine XS.icmpYes X49.here hx rfl (pc0 := 88) (pc' := 95) rfl (hb hby at_88) rfl (teq ((if_pos rfl).symm)).1 (by decide) (by decide) ?_
            show Steps p.tables e below (T49.setTop (mkF m 95 #[.val (.int p0), .val (.int p1), .val (.int ((p0 &&& (2147483647 : Int32)) % (3 : Int32))), .val (.ref ae), .val (.int (0 : Int32)), .val (.int (0 : Int32))] [])) _
            refine XS.iconst X49.here hx rfl (hb hby at_95) ?_
            show Steps p.tables e below (T49.setTop (mkF m 96 #[.val (.int p0), .val (.int p1), .val (.int ((p0 &&& (2147483647 : Int32)) % (3 : Int32))), .val (.ref ae), .val (.int (0 : Int32)), .val (.int (0 : Int32))] [(.int (1 : Int32))])) _
            refine XS.goto X49.here hx rfl (pc0 := 96) (pc' := 100) rfl (hb hby at_96) (by decide) (by decide) ?_
            exact k
          obtain ⟨fs, hr, hrun, hended, hW, hsame⟩ := X49.leave (v := some (.int (1 : Int32))) (fun h => by rw [Bd.returns] at h; cases h)
          refine ⟨_, _, R50 _ ?_, hrun, hended, _, _, rfl, ?_, ⟨_, rfl⟩, hW, hsame.mono (by decide) (by decide)⟩
          · exact retN X49 hx (t := .boolean) Bd.returns (by simp) (hb hby at_100) hr
          · show Q0 Z p0 p1 ak ap ae h0 n0 _ T49.heap _
            rw [e49]
            exact ⟨rfl, N49⟩
set_option maxRecDepth 65536 in
set_option maxHeartbeats 40000000 in
theorem comes_1 {Post : Tables → Env → Array Value → State → Outcome → State → Prop} (hpost : ∀ tb e args s v u, (limb_1_1.after args s (.returned v) u = true ∧ limb_1_2.after args s (.returned v) u = true ∧ True) → FrameEnd s (.returned v) u (Jvm.fieldLocs frame_1_writes args s ++ Jvm.arrayLocs frame_1_arrays args s ++ Jvm.staticLocs frame_1_statics s) 0 0 → Post tb e args s (.returned v) u) :
    ArmFor flags0 classFile x code maxLocals ret World_1 tables_1 room_1 Calls_1 rest_1 Pre_1 Post := by
  intro l hfl _ _ p e ha hc hk s m args below hf hA hF happ hP
  obtain ⟨hcalls, hrest, hpre⟩ := hP
  obtain ⟨-, -, -, hnamed, -, -, -, hat⟩ := (Spec.applies_iff hf).mp happ
  obtain ⟨hg, hn⟩ := and_e (Cond.before_iff.mp (show (Jvm.Cond.and given_1 narrow_1).before args s = true from hpre))
  obtain ⟨hcount, hg0⟩ := and_e hg
  obtain ⟨hi0, hg1⟩ := and_e hg0
  have hi1 := hg1
  obtain ⟨w0, w1, rfl⟩ : ∃ w0 w1 : Value, args = #[w0, w1] := by
    have hs : args.size = 2 := by simpa [Cond.value, given_1] using hcount
    obtain ⟨L⟩ := args
    match L, hs with
    | [w0, w1], _ => exact ⟨w0, w1, rfl⟩
  have hw := fun d (hd : d ∈ tables_1) => atoms_spec (ws := Jvm.Cond.code x code maxLocals ret :: tables_1) hat d (List.mem_cons_of_mem _ hd)
  have hfit : Fit s := fun {y c} hc i hi => by
    obtain ⟨ha, rfl⟩ := Array.getElem?_eq_some_iff.mp hc
    have q := List.all_eq_true.mp ((Array.all_eq_true_iff_forall_mem.mp hF) _ (Array.getElem_mem ha)) i (List.mem_range.mpr hi)
    simpa [Array.getElem?_eq_getElem hi] using q
  obtain ⟨i0, ei0⟩ := is_v hi0
  obtain rfl : w0 = (.int i0) := Option.some.inj ei0
  obtain ⟨i1, ei1⟩ := is_v hi1
  obtain rfl : w1 = (.int i1) := Option.some.inj ei1
  obtain ⟨hz0, hy0⟩ := and_e hn
  obtain ⟨hz1, hy1⟩ := and_e hy0
  obtain ⟨hz2, hy2⟩ := and_e hy1
  obtain ⟨hz3, hy3⟩ := and_e hy2
  obtain ⟨hz4, hy4⟩ := and_e hy3
  obtain ⟨a_KEY, ev_KEY⟩ := exa_v hz0
  have S_KEY : Sta s s.heap "com/example/key_ranges/keyranges/KeyShape" "KEY" "Lcom/example/key_ranges/keyranges/KeyShape;" (.ref a_KEY) := Sta.start ev_KEY (Or.inr ⟨(hw _ (List.mem_of_getElem? (i := 6) rfl)), (hw _ (List.mem_of_getElem? (i := 7) rfl))⟩)
  have E_KEY : Exa s s.heap a_KEY "com/example/key_ranges/keyranges/KeyShape" := Exa.start ev_KEY hz0
  have F_KEY_ordinal : Fld s s.heap a_KEY "java/lang/Enum" "ordinal" "I" (.int (0 : Int32)) := Fld.start ((fld_at ev_KEY).symm.trans (own_eqI hz1))
  obtain ⟨a_RANGE_END, ev_RANGE_END⟩ := exa_v hz2
  have S_RANGE_END : Sta s s.heap "com/example/key_ranges/keyranges/KeyShape" "RANGE_END" "Lcom/example/key_ranges/keyranges/KeyShape;" (.ref a_RANGE_END) := Sta.start ev_RANGE_END (Or.inr ⟨(hw _ (List.mem_of_getElem? (i := 6) rfl)), (hw _ (List.mem_of_getElem? (i := 28) rfl))⟩)
  have E_RANGE_END : Exa s s.heap a_RANGE_END "com/example/key_ranges/keyranges/KeyShape" := Exa.start ev_RANGE_END hz2
  have F_RANGE_END_ordinal : Fld s s.heap a_RANGE_END "java/lang/Enum" "ordinal" "I" (.int (2 : Int32)) := Fld.start ((fld_at ev_RANGE_END).symm.trans (own_eqI hz3))
  obtain ⟨a_PARTIAL_KEY, ev_PARTIAL_KEY⟩ := exa_v hz4
  have S_PARTIAL_KEY : Sta s s.heap "com/example/key_ranges/keyranges/KeyShape" "PARTIAL_KEY" "Lcom/example/key_ranges/keyranges/KeyShape;" (.ref a_PARTIAL_KEY) := Sta.start ev_PARTIAL_KEY (Or.inr ⟨(hw _ (List.mem_of_getElem? (i := 6) rfl)), (hw _ (List.mem_of_getElem? (i := 31) rfl))⟩)
  have E_PARTIAL_KEY : Exa s s.heap a_PARTIAL_KEY "com/example/key_ranges/keyranges/KeyShape" := Exa.start ev_PARTIAL_KEY hz4
  have F_PARTIAL_KEY_ordinal : Fld s s.heap a_PARTIAL_KEY "java/lang/Enum" "ordinal" "I" (.int (1 : Int32)) := Fld.start ((fld_at ev_PARTIAL_KEY).symm.trans (own_eqI hy4))
  have ne_KEY_PARTIAL_KEY : a_KEY ≠ a_PARTIAL_KEY := Fld.ne F_KEY_ordinal F_PARTIAL_KEY_ordinal (by simp)
  have ne_KEY_RANGE_END : a_KEY ≠ a_RANGE_END := Fld.ne F_KEY_ordinal F_RANGE_END_ordinal (by simp)
  have ne_PARTIAL_KEY_RANGE_END : a_PARTIAL_KEY ≠ a_RANGE_END := Fld.ne F_PARTIAL_KEY_ordinal F_RANGE_END_ordinal (by simp)
  obtain ⟨n, o, h1, h2, h3, _, L, rfl, ⟨rfl, N⟩, hq⟩ := rm0 l s _ hw tables_1 i0 i1 a_KEY a_PARTIAL_KEY a_RANGE_END s.heap s.heap.size (Nat.le_refl _) S_KEY S_PARTIAL_KEY S_RANGE_END E_KEY E_PARTIAL_KEY E_RANGE_END F_KEY_ordinal F_PARTIAL_KEY_ordinal F_RANGE_END_ordinal ne_KEY_RANGE_END ne_PARTIAL_KEY_RANGE_END p e ha hc hk s m _ below hf ((Spec.applies_iff_loose hf).mp happ).1 ⟨rfl, State.Warmed39.refl s, rfl⟩ trivial
  refine ⟨n, _, h1, h2, h3, hpost _ _ _ _ _ _ ⟨Cond.after_iff.mpr rfl, Cond.after_iff.mpr (eq_i res_at (Term.int_eval (1)) rfl), trivial⟩ ⟨hq.1, hq.2.1, (hq.2.2.sift fun y hy => Or.inr (N y hy)).mono (by decide) (by decide)⟩⟩
theorem main_1_1 : Claimed_1_1 := comes_1 fun _ _ _ _ _ _ h hF => ⟨h.1, hF⟩
theorem main_1_2 : Claimed_1_2 := comes_1 fun _ _ _ _ _ _ h hF => ⟨h.2.1, hF⟩
end Jvm.Pilot.@@N@@
namespace Jvm.Pilot.@@N@@
open Jvm Jvm.ClassFile Sem Op Lib Jvm.Free Jvm.Stand Jvm.Pilot.@@N@@.Jvm.D
/-! MADE BY PROGRAM (witnessworld.py) out of the Statement's table words and the real class files: 12 classes; the members and pool entries that the words name. The judged class is class 1, her method 2. -/
namespace start1
open Jvm.ClassFile
def u (s : String) : CpInfo := .utf8 (stringToUtf16 s)
/-- a pool by its gaps: so many unusable entries, then the entry; so many at the end -/
def gap : Nat → List CpInfo → List CpInfo
  | 0, r => r
  | n + 1, r => .unusable :: gap n r
def poolList (es : List (Nat × CpInfo)) (last : Nat) : List CpInfo := es.foldr (fun e r => gap e.1 (e.2 :: r)) (gap last [])
def pool (es : List (Nat × CpInfo)) (last : Nat) : Array CpInfo := ⟨poolList es last⟩
def fileOf (pool : Array CpInfo) (this : Nat) (attrs : Array Attribute := #[]) (ms : Array MethodInfo := #[]) (fl : Nat := 33) (sup : Nat := 0) (ifs : Array Nat := #[]) (fds : Array FieldInfo := #[]) : ClassFile where
  minorVersion := 0
  majorVersion := 65
  constantPool := pool
  accessFlags := fl
  thisClass := this
  superClass := sup
  interfaces := ifs
  fields := fds
  methods := ms
  attributes := attrs
def plain (name : String) (sup : Option ClassId) : Class where
  name := name
  kind := .ordinary
  loader := none
  accessFlags := 33
  super := sup
  interfaces := #[]
  cf := none
  fields := #[]
  methods := #[]
  instanceTypes := #[]
  staticTypes := #[]
  resolved := #[]
  callSites := []
  init := .initialized
  statics := none
  mirror := none

def pool0 : Array CpInfo := pool [(5, u "<init>"), (0, u "()V"), (1, .class_ 10), (1, u "java/lang/Object")] 113

def k0m0 : Method := { name := "<init>", desc := "()V", sig := { parameters := [], returnType := none }, accessFlags := 1, code := none }
/-- java/lang/Object -/
def k0 : Class := { plain "java/lang/Object" none with
  accessFlags := 33
  interfaces := #[]
  cf := some (fileOf pool0 8 #[] #[{ accessFlags := 1, nameIndex := 5, descriptorIndex := 6, attributes := #[] }] 33 0 #[] #[])
  fields := #[]
  methods := #[k0m0]
  instanceTypes := #[]
  staticTypes := #[]
  resolved := Array.replicate 124 none
  statics := none }

def pool1 : Array CpInfo := pool [(2, .class_ 4), (1, u "java/lang/Object"), (0, u "<init>"), (0, u "()V"), (0, .fieldref 8 9), (0, .class_ 10), (0, .nameAndType 11 12), (0, u "com/example/key_ranges/keyranges/KeyShape"), (0, u "KEY"), (0, u "Lcom/example/key_ranges/keyranges/KeyShape;"), (0, .fieldref 8 14), (0, .nameAndType 15 12), (0, u "PARTIAL_KEY"), (0, .fieldref 8 17), (0, .nameAndType 18 12), (0, u "RANGE_END"), (0, .integer 2147483647), (0, .methodref 21 22), (0, .class_ 23), (0, .nameAndType 24 25), (0, u "com/example/key_ranges/keyranges/KeyShapeFewestValuesPinLaw"), (0, u "pick"), (0, u "(I)Lcom/example/key_ranges/keyranges/KeyShape;"), (0, .methodref 8 27), (0, .nameAndType 28 29), (0, u "fewestValues"), (0, u "(I)I"), (0, .methodref 8 31), (0, .nameAndType 32 33), (0, u "takesBounds"), (0, u "()Z"), (3, u "law"), (0, u "(II)Z")] 2

def k1m0 : Method := { name := "<init>", desc := "()V", sig := { parameters := [], returnType := none }, accessFlags := 2, code := none }
def k1c1 : Code := { maxStack := 2, maxLocals := 1, code := method_2_code, exceptionTable := #[], attributes := #[] }
def k1m1 : Method := { name := "pick", desc := "(I)Lcom/example/key_ranges/keyranges/KeyShape;", sig := { parameters := [.int], returnType := some (.object "com/example/key_ranges/keyranges/KeyShape") }, accessFlags := 10, code := some k1c1 }
def k1c2 : Code := { maxStack := 2, maxLocals := 6, code := code, exceptionTable := #[], attributes := #[] }
def k1m2 : Method := { name := "law", desc := "(II)Z", sig := { parameters := [.int, .int], returnType := some .boolean }, accessFlags := 9, code := some k1c2 }
/-- com/example/key_ranges/keyranges/KeyShapeFewestValuesPinLaw -/
def k1 : Class := { plain "com/example/key_ranges/keyranges/KeyShapeFewestValuesPinLaw" (some 0) with
  accessFlags := 49
  interfaces := #[]
  cf := some (fileOf pool1 21 #[] #[{ accessFlags := 2, nameIndex := 5, descriptorIndex := 6, attributes := #[] }, { accessFlags := 10, nameIndex := 24, descriptorIndex := 25, attributes := #[] }, { accessFlags := 9, nameIndex := 37, descriptorIndex := 38, attributes := #[] }] 49 2 #[] #[])
  fields := #[]
  methods := #[k1m0, k1m1, k1m2]
  instanceTypes := #[]
  staticTypes := #[]
  resolved := Array.replicate 41 none
  statics := none }

def pool2 : Array CpInfo := pool [(1, .class_ 2), (0, u "java/lang/constant/Constable"), (0, .class_ 4), (0, u "java/lang/Object")] 6

/-- java/lang/constant/Constable -/
def k2 : Class := { plain "java/lang/constant/Constable" (some 0) with
  accessFlags := 1537
  interfaces := #[]
  cf := some (fileOf pool2 1 #[] #[] 1537 3 #[] #[])
  fields := #[]
  methods := #[]
  instanceTypes := #[]
  staticTypes := #[]
  resolved := Array.replicate 11 none
  statics := none }

def pool3 : Array CpInfo := pool [(1, .class_ 2), (0, u "java/lang/Comparable"), (0, .class_ 4), (0, u "java/lang/Object")] 7

/-- java/lang/Comparable -/
def k3 : Class := { plain "java/lang/Comparable" (some 0) with
  accessFlags := 1537
  interfaces := #[]
  cf := some (fileOf pool3 1 #[] #[] 1537 3 #[] #[])
  fields := #[]
  methods := #[]
  instanceTypes := #[]
  staticTypes := #[]
  resolved := Array.replicate 12 none
  statics := none }

def pool4 : Array CpInfo := pool [(1, .class_ 2), (0, u "java/io/Serializable"), (0, .class_ 4), (0, u "java/lang/Object")] 2

/-- java/io/Serializable -/
def k4 : Class := { plain "java/io/Serializable" (some 0) with
  accessFlags := 1537
  interfaces := #[]
  cf := some (fileOf pool4 1 #[] #[] 1537 3 #[] #[])
  fields := #[]
  methods := #[]
  instanceTypes := #[]
  staticTypes := #[]
  resolved := Array.replicate 7 none
  statics := none }

def pool5 : Array CpInfo := pool [(2, .class_ 4), (1, u "java/lang/Enum"), (0, u "name"), (0, u "Ljava/lang/String;"), (0, .fieldref 2 8), (0, .nameAndType 9 10), (0, u "ordinal"), (0, u "I"), (1, .class_ 14), (1, u "java/lang/Object"), (4, u "hash"), (86, .class_ 108), (1, u "java/lang/Enum$EnumDesc"), (2, .class_ 112), (0, u "java/lang/constant/Constable"), (0, .class_ 114), (0, u "java/lang/Comparable"), (0, .class_ 116), (0, u "java/io/Serializable"), (9, u "()I")] 77

def k5c0 : Code := { maxStack := 1, maxLocals := 1, code := jdk_37_method_2_code, exceptionTable := #[], attributes := #[] }
def k5m0 : Method := { name := "ordinal", desc := "()I", sig := { parameters := [], returnType := some .int }, accessFlags := 17, code := some k5c0 }
/-- java/lang/Enum -/
def k5 : Class := { plain "java/lang/Enum" (some 0) with
  accessFlags := 1057
  interfaces := #[2, 3, 4]
  cf := some (fileOf pool5 2 #[.nestMembers #[106]] #[{ accessFlags := 17, nameIndex := 9, descriptorIndex := 126, attributes := #[] }] 1057 12 #[111, 113, 115] #[{ accessFlags := 18, nameIndex := 5, descriptorIndex := 6, attributes := #[] }, { accessFlags := 18, nameIndex := 9, descriptorIndex := 10, attributes := #[] }, { accessFlags := 2, nameIndex := 19, descriptorIndex := 10, attributes := #[] }])
  fields := #[{ name := "name", type := (.object "java/lang/String"), accessFlags := 18, slot := 0, constantValue := 0 }, { name := "ordinal", type := .int, accessFlags := 18, slot := 1, constantValue := 0 }, { name := "hash", type := .int, accessFlags := 2, slot := 2, constantValue := 0 }]
  methods := #[k5m0]
  instanceTypes := #[(.object "java/lang/String"), .int, .int]
  staticTypes := #[]
  resolved := Array.replicate 204 none
  statics := none }

def pool6 : Array CpInfo := pool [(1, .class_ 2), (0, u "com/example/key_ranges/keyranges/KeyShape"), (2, u "KEY"), (0, u "Lcom/example/key_ranges/keyranges/KeyShape;"), (2, u "PARTIAL_KEY"), (0, .fieldref 1 11), (0, .nameAndType 12 6), (0, u "RANGE_END"), (2, u "$VALUES"), (0, u "[Lcom/example/key_ranges/keyranges/KeyShape;"), (6, .class_ 25), (1, u "java/lang/Enum"), (8, u "sizeRule"), (0, u "Ljava/lang/String;"), (0, .methodref 1 37), (0, .nameAndType 38 39), (0, u "ordinal"), (0, u "()I"), (29, u "fewestValues"), (0, u "(I)I"), (1, u "takesBounds"), (0, u "()Z")] 5

def k6c0 : Code := { maxStack := 4, maxLocals := 2, code := prog_20_method_5_code, exceptionTable := #[], attributes := #[] }
def k6m0 : Method := { name := "fewestValues", desc := "(I)I", sig := { parameters := [.int], returnType := some .int }, accessFlags := 0, code := some k6c0 }
def k6c1 : Code := { maxStack := 2, maxLocals := 1, code := prog_20_method_6_code, exceptionTable := #[], attributes := #[] }
def k6m1 : Method := { name := "takesBounds", desc := "()Z", sig := { parameters := [], returnType := some .boolean }, accessFlags := 0, code := some k6c1 }
/-- com/example/key_ranges/keyranges/KeyShape -/
def k6 : Class := { plain "com/example/key_ranges/keyranges/KeyShape" (some 5) with
  accessFlags := 16432
  interfaces := #[]
  cf := some (fileOf pool6 1 #[] #[{ accessFlags := 0, nameIndex := 69, descriptorIndex := 70, attributes := #[] }, { accessFlags := 0, nameIndex := 72, descriptorIndex := 73, attributes := #[] }] 16432 23 #[] #[{ accessFlags := 16409, nameIndex := 5, descriptorIndex := 6, attributes := #[] }, { accessFlags := 16409, nameIndex := 9, descriptorIndex := 6, attributes := #[] }, { accessFlags := 16409, nameIndex := 12, descriptorIndex := 6, attributes := #[] }, { accessFlags := 18, nameIndex := 34, descriptorIndex := 35, attributes := #[] }, { accessFlags := 4122, nameIndex := 15, descriptorIndex := 16, attributes := #[] }])
  fields := #[{ name := "KEY", type := (.object "com/example/key_ranges/keyranges/KeyShape"), accessFlags := 16409, slot := 0, constantValue := 0 }, { name := "PARTIAL_KEY", type := (.object "com/example/key_ranges/keyranges/KeyShape"), accessFlags := 16409, slot := 1, constantValue := 0 }, { name := "RANGE_END", type := (.object "com/example/key_ranges/keyranges/KeyShape"), accessFlags := 16409, slot := 2, constantValue := 0 }, { name := "sizeRule", type := (.object "java/lang/String"), accessFlags := 18, slot := 3, constantValue := 0 }, { name := "$VALUES", type := (.array (.object "com/example/key_ranges/keyranges/KeyShape")), accessFlags := 4122, slot := 3, constantValue := 0 }]
  methods := #[k6m0, k6m1]
  instanceTypes := #[(.object "java/lang/String"), .int, .int, (.object "java/lang/String")]
  staticTypes := #[(.object "com/example/key_ranges/keyranges/KeyShape"), (.object "com/example/key_ranges/keyranges/KeyShape"), (.object "com/example/key_ranges/keyranges/KeyShape"), (.array (.object "com/example/key_ranges/keyranges/KeyShape"))]
  resolved := Array.replicate 79 none
  statics := some 0 }

def pool7 : Array CpInfo := pool [(1, u "java/lang/Cloneable"), (0, .class_ 1), (0, u "java/lang/Object"), (0, .class_ 3)] 3

/-- java/lang/Cloneable -/
def k7 : Class := { plain "java/lang/Cloneable" (some 0) with
  accessFlags := 1537
  interfaces := #[]
  cf := some (fileOf pool7 2 #[] #[] 1537 4 #[] #[])
  fields := #[]
  methods := #[]
  instanceTypes := #[]
  staticTypes := #[]
  resolved := Array.replicate 8 none
  statics := none }

/-- the primitive byte -/
def k8 : Class := { plain "byte" none with kind := .primitive 'B', accessFlags := 0x411 }
/-- [B -/
def k9 : Class := { plain "[B" (some 0) with kind := .array 8 .byte, interfaces := #[7, 4], accessFlags := 1041 }

/-- the primitive int -/
def k10 : Class := { plain "int" none with kind := .primitive 'I', accessFlags := 0x411 }
/-- [I -/
def k11 : Class := { plain "[I" (some 0) with kind := .array 10 .int, interfaces := #[7, 4], accessFlags := 1041 }

def heap : Heap := #[{ cls := 6, slots := #[.ref 1, .ref 2, .ref 3, .null], vm := .statics 6 },
  { cls := 6, slots := #[.null, .int 0, .int 0, .null], vm := .none },
  { cls := 6, slots := #[.null, .int 1, .int 0, .null], vm := .none },
  { cls := 6, slots := #[.null, .int 2, .int 0, .null], vm := .none }]
def classes : Array Class := #[k0, k1, k2, k3, k4, k5, k6, k7, k8, k9, k10, k11]
def interned : List (Array UInt16 × Addr) := []
def slotsUsed : Nat := 16
def theMethod : MethodId := ⟨1, 2⟩
def args0 : Array Value := #[.int 5, .int 2]
def aboutOver (below : List Frame) : State where
  vm := { classes := classes, interned := interned.toArray }
  heap := heap
  slotsUsed := slotsUsed
  threads := #[{ frames := .invoking theMethod args0 :: below }]
def below0 : List Frame := [.native { method := ⟨0, 0⟩, args := #[] }]
def about1 : State := aboutOver below0
def p0 : Program := .bare "" "" ""
def e0 : Env := launch0.env 0 0 0
theorem w_frames : about1.frames = Frame.invoking theMethod args0 :: below0 := rfl
set_option maxRecDepth 65536 in
theorem w_args : argsFit about1.vm theMethod args0 = true := by decide +kernel
set_option maxRecDepth 65536 in
theorem w_heap : heapFits about1 = true := by decide +kernel
set_option maxRecDepth 65536 in
theorem w_runnable : about1.curStatus? = some .runnable := by decide +kernel
set_option maxRecDepth 65536 in
theorem w_alone : about1.alone = true := by decide +kernel
set_option maxRecDepth 65536 in
theorem w_named : about1.methodNamed? x = some theMethod := by decide +kernel
set_option maxRecDepth 65536 in
theorem w_hears : about1.hears theMethod below0 = true := by decide +kernel
set_option maxRecDepth 65536 in
theorem w_ripe : about1.ripe theMethod args0 below0 = true := by decide +kernel
theorem w_running : about1.status = .running := rfl
set_option maxRecDepth 65536 in
theorem w_room : about1.hasRoom e0.platform room_1 = true :=
  launch0.hasRoom_least _ room_1 (by decide +kernel) (by decide +kernel) (by decide +kernel) (by decide +kernel) (by decide +kernel) (by decide +kernel)
theorem allAtoms_all (ts : List Jvm.Cond) (a : Array Jvm.Value) (st : Jvm.State) : (allAtoms ts).before a st = ts.all (fun c => c.before a st) := by
  induction ts with
  | nil => rfl
  | cons c t ih =>
    show (Jvm.Cond.and c (allAtoms t)).before a st = _
    rw [Jvm.Cond.before_and, ih, List.all_cons]
def words1 : List Jvm.Cond := Jvm.Cond.code x code maxLocals ret :: tables_1
/-- a 'code' word, met by the world's own term for the bytes: nothing is compared byte by byte -/
theorem code_word {y : MethodName} {bytes : ByteArray} {mx : Nat} {rt : Option FieldType} {a : Array Value} {s : State} {m : MethodId} {meth : Method} {c : Code} (h1 : s.methodNamed? y = some m) (h2 : s.vm.method? m = some meth) (h3 : meth.code = some c) (h4 : c.code = bytes)
    (h5 : (c.maxLocals == mx && c.exceptionTable.isEmpty && decide (c.maxStack ≤ mostOperands) && decide (meth.sig.returnType = rt) && !meth.locks && decide (parseMethodDescriptor y.desc = some meth.sig)) = true) : (Jvm.Cond.code y bytes mx rt).before a s = true := by
  simp only [Bool.and_eq_true, beq_iff_eq, Bool.not_eq_true', decide_eq_true_eq] at h5
  obtain ⟨⟨⟨⟨⟨g1, g2⟩, g3⟩, g4⟩, g5⟩, g6⟩ := h5
  simp [Cond.before, Cond.holds, Cond.value, h1, h2, h3, h4, g1, g2, g3, g4, g5, g6]
def isCode : Jvm.Cond → Bool
  | .code _ _ _ _ => true
  | _ => false
theorem all_split {L : List Jvm.Cond} {P : Jvm.Cond → Bool} (h1 : L.all (fun c => isCode c || P c) = true) (h2 : ∀ c ∈ L.filter isCode, P c = true) : L.all P = true := by
  refine List.all_eq_true.mpr fun c hc => ?_
  have h := List.all_eq_true.mp h1 c hc
  rcases Bool.eq_false_or_eq_true (isCode c) with hi | hi
  · exact h2 c (List.mem_filter.mpr ⟨hc, hi⟩)
  · simpa [hi] using h
set_option maxRecDepth 65536 in
theorem w_c0 : (Jvm.Cond.code x code maxLocals ret).before args0 about1 = true := code_word (m := ⟨1, 2⟩) (meth := k1m2) (c := k1c2) (by decide +kernel) rfl rfl rfl (by decide +kernel)
set_option maxRecDepth 65536 in
theorem w_c1 : (Jvm.Cond.code ({ cls := "com/example/key_ranges/keyranges/KeyShapeFewestValuesPinLaw", name := "pick", desc := "(I)Lcom/example/key_ranges/keyranges/KeyShape;" } : Jvm.MethodName) method_2_code (1 : Nat) (Option.some (Jvm.ClassFile.FieldType.object "com/example/key_ranges/keyranges/KeyShape"))).before args0 about1 = true := code_word (m := ⟨1, 1⟩) (meth := k1m1) (c := k1c1) (by decide +kernel) rfl rfl rfl (by decide +kernel)
set_option maxRecDepth 65536 in
theorem w_c2 : (Jvm.Cond.code ({ cls := "com/example/key_ranges/keyranges/KeyShape", name := "fewestValues", desc := "(I)I" } : Jvm.MethodName) prog_20_method_5_code (2 : Nat) (Option.some Jvm.ClassFile.FieldType.int)).before args0 about1 = true := code_word (m := ⟨6, 0⟩) (meth := k6m0) (c := k6c0) (by decide +kernel) rfl rfl rfl (by decide +kernel)
set_option maxRecDepth 65536 in
theorem w_c3 : (Jvm.Cond.code ({ cls := "java/lang/Enum", name := "ordinal", desc := "()I" } : Jvm.MethodName) jdk_37_method_2_code (1 : Nat) (Option.some Jvm.ClassFile.FieldType.int)).before args0 about1 = true := code_word (m := ⟨5, 0⟩) (meth := k5m0) (c := k5c0) (by decide +kernel) rfl rfl rfl (by decide +kernel)
set_option maxRecDepth 65536 in
theorem w_c4 : (Jvm.Cond.code ({ cls := "com/example/key_ranges/keyranges/KeyShape", name := "takesBounds", desc := "()Z" } : Jvm.MethodName) prog_20_method_6_code (1 : Nat) (Option.some Jvm.ClassFile.FieldType.boolean)).before args0 about1 = true := code_word (m := ⟨6, 1⟩) (meth := k6m1) (c := k6c1) (by decide +kernel) rfl rfl rfl (by decide +kernel)
def codes1 : List Jvm.Cond := [Jvm.Cond.code x code maxLocals ret, Jvm.Cond.code ({ cls := "com/example/key_ranges/keyranges/KeyShapeFewestValuesPinLaw", name := "pick", desc := "(I)Lcom/example/key_ranges/keyranges/KeyShape;" } : Jvm.MethodName) method_2_code (1 : Nat) (Option.some (Jvm.ClassFile.FieldType.object "com/example/key_ranges/keyranges/KeyShape")), Jvm.Cond.code ({ cls := "com/example/key_ranges/keyranges/KeyShape", name := "fewestValues", desc := "(I)I" } : Jvm.MethodName) prog_20_method_5_code (2 : Nat) (Option.some Jvm.ClassFile.FieldType.int), Jvm.Cond.code ({ cls := "java/lang/Enum", name := "ordinal", desc := "()I" } : Jvm.MethodName) jdk_37_method_2_code (1 : Nat) (Option.some Jvm.ClassFile.FieldType.int), Jvm.Cond.code ({ cls := "com/example/key_ranges/keyranges/KeyShape", name := "takesBounds", desc := "()Z" } : Jvm.MethodName) prog_20_method_6_code (1 : Nat) (Option.some Jvm.ClassFile.FieldType.boolean)]
set_option maxRecDepth 65536 in
theorem codes_eq : words1.filter isCode = codes1 := rfl
theorem w_codes : ∀ c ∈ words1.filter isCode, c.before args0 about1 = true := by
  rw [codes_eq]
  intro c hc
  simp only [codes1, List.mem_cons, List.not_mem_nil, or_false] at hc
  rcases hc with rfl | rfl | rfl | rfl | rfl
  · exact w_c0
  · exact w_c1
  · exact w_c2
  · exact w_c3
  · exact w_c4
set_option maxRecDepth 65536 in
theorem w_t1 : (words1.take 24).all (fun c => isCode c || c.before args0 about1) = true := by decide +kernel
set_option maxRecDepth 65536 in
theorem w_t2 : (words1.drop 24).all (fun c => isCode c || c.before args0 about1) = true := by decide +kernel
theorem w_tables : (allAtoms (Jvm.Cond.code x code maxLocals ret :: tables_1)).before args0 about1 = true := by
  rw [allAtoms_all]
  show words1.all (fun c => c.before args0 about1) = true
  refine all_split ?_ w_codes
  rw [← List.take_append_drop 24 words1, List.all_append, w_t1, w_t2]
  rfl
set_option maxRecDepth 65536 in
theorem w_case : (Jvm.Cond.and given_1 narrow_1).before args0 about1 = true := by decide +kernel
theorem w_applies : (headSpec (Jvm.Cond.code x code maxLocals ret :: tables_1) room_1).applies x e0.platform about1 = true :=
  (Spec.applies_iff w_frames).mpr ⟨w_running, w_runnable, w_alone, w_named, w_hears, w_ripe, w_room, w_tables⟩
theorem atStart : AtStart classFile x code maxLocals ret World_1 tables_1 room_1 Calls_1 rest_1 Pre_1 launch0 p0 e0 about1 theMethod args0 below0 :=
  ⟨lists_1, trivial, launch0.admits_env _ _ _, launch0.least_env, fairChoices_fair.cas, fairChoices_fair.clock, w_frames, w_args, w_heap, w_applies, trivial, trivial, w_case⟩
end start1
theorem witness_1 : WitnessClaimed_1 := ⟨start1.p0, start1.e0, start1.about1, start1.theMethod, start1.args0, start1.below0, start1.atStart⟩
end Jvm.Pilot.@@N@@
