import JvmDerived
import JvmDerived.Pilot.@@N@@Statement
import JvmDerived.Pilot.@@N@@Code
set_option linter.unusedVariables false
set_option linter.unusedSimpArgs false
namespace Jvm.RoadKit
open Sem ClassFile Op Lib Jvm.Stand Jvm.Free Jvm.LawKit
section New
variable {p : Program} {l : Launch} {e : Env} {R : Room} {s : State} {m : MethodId} {args : Array Value} {below : List Frame} {meth : Method} {c : Code} {T : State} {locs : List Loc} {cells slots : Nat}
theorem retI (X : Stand p l e R s m args below meth c T locs cells slots) (hx : p.tables.exec = Jvm.exec) {pc : Nat} {Ls : Array Slot} {z : Int32} {rest : List Value} (hret : meth.sig.returnType = some .int) (hd : decode c.code pc = .ok (.ireturn, 1)) {fs : List Frame}
    (hl : ∀ (f : JFrame) (acts : List Action), f.method = m → f.locked = none → f.entered = [] → (doReturn e (T.setTop f) acts (some (.int z))).1 = T.setFrames fs) : Steps p.tables e below (T.setTop (mkF m pc Ls (.int z :: rest))) (T.setFrames fs) := by
  have hm' : T.vm.method? m = some meth := X.method'
  have hn : narrow .int (.int z) = .int z := rfl
  show Steps p.tables e below (T.setTop { method := m, pc := pc, locals := Ls, stack := _ :: rest, locked := none }) _
  jvm_step X.here [X.here.top, hx, hd, hm', hret, hn]
  first | (intro acts; rw [hl _ acts rfl rfl rfl]) | rw [hl _ _ rfl rfl rfl]
  exact Steps.refl _
end New
end Jvm.RoadKit
namespace Jvm.Pilot.@@N@@
open Jvm Jvm.ClassFile Sem Op Lib Jvm.Free Jvm.Stand Jvm.LawKit Jvm.RoadKit Bundle Jvm.Pilot.@@N@@.Jvm.D
theorem own_satoms {Z : State} {a0 : Array Value} (hw : ∀ d ∈ tables_1, d.before a0 Z = true) : ∀ d ∈ Bundle.stringAtoms, d.before a0 Z = true := List.forall_mem_cons.mpr ⟨(hw _ (List.mem_of_getElem? (i := 8) rfl)), List.forall_mem_cons.mpr ⟨(hw _ (List.mem_of_getElem? (i := 9) rfl)), List.forall_mem_cons.mpr ⟨(hw _ (List.mem_of_getElem? (i := 0) rfl)), List.forall_mem_cons.mpr ⟨(hw _ (List.mem_of_getElem? (i := 10) rfl)), List.forall_mem_cons.mpr ⟨(hw _ (List.mem_of_getElem? (i := 11) rfl)), List.forall_mem_cons.mpr ⟨(hw _ (List.mem_of_getElem? (i := 12) rfl)), List.forall_mem_cons.mpr ⟨(hw _ (List.mem_of_getElem? (i := 13) rfl)), fun _ hd => nomatch hd⟩⟩⟩⟩⟩⟩⟩
theorem own_b8 (v : Int32) : nar .byte (v.toInt8.toInt32) = v.toInt8.toInt32 := by
  show v.toInt8.toInt32.toInt8.toInt32 = _
  rw [Int8.toInt8_toInt32]
theorem own_m3 (v : Int32) : (v &&& (3 : Int32)) = (0 : Int32) ∨ (v &&& (3 : Int32)) = (1 : Int32) ∨ (v &&& (3 : Int32)) = (2 : Int32) ∨ (v &&& (3 : Int32)) = (3 : Int32) := by
  have e := c_mask v 3 2 (by decide) (by decide)
  have h0 : (0 : Int32).toInt = 0 := rfl
  have h1 : (1 : Int32).toInt = 1 := rfl
  have h2 : (2 : Int32).toInt = 2 := rfl
  have h3 : (3 : Int32).toInt = 3 := rfl
  simp only [← Int32.toInt_inj, h0, h1, h2, h3]
  omega
theorem ef2 (m : MethodId) (x0 : Addr) (x1 : Addr) : entryFrame m #[(.ref x0), (.ref x1)] 2 = mkF m 0 #[.val (.ref x0), .val (.ref x1)] [] := by first | (simp [entryFrame, mkF, argsToLocals, Value.category]; done) | rfl
theorem pn_0 : plainName "java/util/Objects" = true := by first | (simp [plainName, overriddenIn]; done) | decide +kernel
theorem d2_0 : decode jdk_31_method_11_code 0 = .ok (.aload_n 0, 1) := by decide +kernel
theorem d2_1 : decode jdk_31_method_11_code 1 = .ok (.ifnonnull 12, 3) := by decide +kernel
theorem d2_13 : decode jdk_31_method_11_code 13 = .ok (.aload_n 0, 1) := by decide +kernel
theorem d2_14 : decode jdk_31_method_11_code 14 = .ok (.areturn, 1) := by decide +kernel
def Q2 (Z : State) (a : Addr) (b : Addr) (h0 : Heap) (n0 : Nat) (v : Option Value) (h : Heap) (L : List Loc) : Prop := v = some (.ref a) ∧ Fr n0 L ∧ h = h0
set_option maxRecDepth 65536 in
set_option maxHeartbeats 40000000 in
theorem rm2 (l : Launch) (Z : State) (a0 : Array Value) (hw : ∀ d ∈ tables_1, d.before a0 Z = true) (ws : List Jvm.Cond) (a : Addr) (b : Addr) (h0 : Heap) (n0 : Nat) (Z0 : n0 ≤ h0.size)  :
    MetFree l (⟨"java/util/Objects", "requireNonNull", "(Ljava/lang/Object;Ljava/lang/String;)Ljava/lang/Object;"⟩ : MethodName) (head1 (Jvm.Cond.code (⟨"java/util/Objects", "requireNonNull", "(Ljava/lang/Object;Ljava/lang/String;)Ljava/lang/Object;"⟩ : MethodName) jdk_31_method_11_code 2 (some (.object "java/lang/Object")) :: ws) ({ frames := 0, cells := 0, slots := 0, locals := 0 } : Room)) (fun zza zzU => zza = #[(.ref a), (.ref b)] ∧ Z.Warmed39 zzU.vm ∧ zzU.heap = h0) (fun _ _ _ _ _ => True) (fun _ zzU zzo zzV => ∃ zzv zzL, zzo = .returned zzv ∧ Q2 Z a b h0 n0 zzv zzV.heap zzL ∧ FrameEnd zzU zzo zzV zzL ({ frames := 0, cells := 0, slots := 0, locals := 0 } : Room).cells ({ frames := 0, cells := 0, slots := 0, locals := 0 } : Room).slots) := by
  refine MetFree.of_bodySF (plainFor_of_name pn_0) hisR ?_
  intro p e s m args below meth c s₁ Bd hml0 hP hK
  obtain ⟨rfl, hZ, hh⟩ := hP
  have hx := Bd.exec
  have hby := Bd.bytes
  have hml : c.maxLocals = 2 := hml0
  have hown : s.vm.findClass "java/util/Objects" = some m.cls := findClass_of_methodNamed Bd.named
  have hnm := (name_of_methodNamed Bd.named Bd.method).1
  have X0 : Stand p l e ({ frames := 0, cells := 0, slots := 0, locals := 0 } : Room) s m #[(.ref a), (.ref b)] below meth c s₁ [] 0 0 := Stand.of_body Bd
  have e0 : s₁.heap = h0 := by rw [← hh, Bd.state]; rfl
  have N0 := Fr.nil n0
  have R0 : ∀ zt, Steps p.tables e below (s₁.setTop (mkF m 0 #[.val (.ref a), .val (.ref b)] [])) zt → Steps p.tables e below (s₁.setTop (entryFrame m #[(.ref a), (.ref b)] 2)) zt := fun zt zk => castTop (ef2 m a b) zk
  have R1 : ∀ zt, Steps p.tables e below (s₁.setTop (mkF m 14 #[.val (.ref a), .val (.ref b)] [(.ref a)])) zt → Steps p.tables e below (s₁.setTop (entryFrame m #[(.ref a), (.ref b)] 2)) zt := by
    intro zt zk
    refine R0 zt ?_
    show Steps p.tables e below (s₁.setTop (mkF m 0 #[.val (.ref a), .val (.ref b)] [])) _
    refine XS.aloadN X0.here hx rfl (hb hby d2_0) rfl rfl ?_
    show Steps p.tables e below (s₁.setTop (mkF m 1 #[.val (.ref a), .val (.ref b)] [(.ref a)])) _
    refine XS.ifnonnullYes X0.here hx rfl (pc0 := 1) (pc' := 13) rfl (hb hby d2_1) rfl (by decide) (by decide) ?_
    show Steps p.tables e below (s₁.setTop (mkF m 13 #[.val (.ref a), .val (.ref b)] [])) _
    refine XS.aloadN X0.here hx rfl (hb hby d2_13) rfl rfl ?_
    exact zk
  obtain ⟨fs, hr, hrun, hended, hW, hsame⟩ := X0.leave (v := some (.ref a)) (fun h => by rw [Bd.returns] at h; cases h)
  refine ⟨_, _, R1 _ ?_, hrun, hended, _, _, rfl, ?_, ⟨_, rfl⟩, hW, hsame.mono (by decide) (by decide)⟩
  · exact retOut X0 hx Bd.returns rfl (Or.inr (Or.inr (Or.inr (Or.inr ⟨rfl, rfl, rfl⟩)))) (hb hby d2_14) hr
  · show Q2 Z a b h0 n0 _ s₁.heap _
    rw [e0]
    exact ⟨rfl, N0, rfl⟩
theorem ef3 (m : MethodId) (x0 : Addr) (x1 : Addr) : entryFrame m #[(.ref x0), (.ref x1)] 2 = mkF m 0 #[.val (.ref x0), .val (.ref x1)] [] := by first | (simp [entryFrame, mkF, argsToLocals, Value.category]; done) | rfl
theorem pn_1 : plainName "com/example/key_ranges/keyranges/ByteString" = true := by first | (simp [plainName, overriddenIn]; done) | decide +kernel
theorem d3_0 : decode prog_5_method_1_code 0 = .ok (.aload_n 0, 1) := by decide +kernel
theorem d3_1 : decode prog_5_method_1_code 1 = .ok (.invokespecial 1, 3) := by decide +kernel
theorem d3_4 : decode prog_5_method_1_code 4 = .ok (.aload_n 0, 1) := by decide +kernel
theorem d3_5 : decode prog_5_method_1_code 5 = .ok (.aload_n 1, 1) := by decide +kernel
theorem d3_6 : decode prog_5_method_1_code 6 = .ok (.putfield 7, 3) := by decide +kernel
theorem d3_9 : decode prog_5_method_1_code 9 = .ok (.return_, 1) := by decide +kernel
def Q3 (Z : State) (a : Addr) (q : Addr) (h0 : Heap) (n0 : Nat) (v : Option Value) (h : Heap) (L : List Loc) : Prop := v = none ∧ Fr n0 L ∧ Keep h0 h [a] ∧ Fld Z h a "com/example/key_ranges/keyranges/ByteString" "bytes" "[B" (.ref q)
set_option maxRecDepth 65536 in
set_option maxHeartbeats 40000000 in
theorem rm3 (l : Launch) (Z : State) (a0 : Array Value) (hw : ∀ d ∈ tables_1, d.before a0 Z = true) (ws : List Jvm.Cond) (a : Addr) (q : Addr) (h0 : Heap) (n0 : Nat) (Z0 : n0 ≤ h0.size) (E_a : Exa Z h0 a "com/example/key_ranges/keyranges/ByteString") (F_bytes_a : Fld Z h0 a "com/example/key_ranges/keyranges/ByteString" "bytes" "[B" .null) (ge_a : n0 ≤ a) :
    MetFree l (⟨"com/example/key_ranges/keyranges/ByteString", "<init>", "([B)V"⟩ : MethodName) (head1 (Jvm.Cond.code (⟨"com/example/key_ranges/keyranges/ByteString", "<init>", "([B)V"⟩ : MethodName) prog_5_method_1_code 2 none :: ws) ({ frames := 1, cells := 0, slots := 0, locals := 12 } : Room)) (fun zza zzU => zza = #[(.ref a), (.ref q)] ∧ Z.Warmed39 zzU.vm ∧ zzU.heap = h0) (fun _ _ _ _ _ => True) (fun _ zzU zzo zzV => ∃ zzv zzL, zzo = .returned zzv ∧ Q3 Z a q h0 n0 zzv zzV.heap zzL ∧ FrameEnd zzU zzo zzV zzL ({ frames := 1, cells := 0, slots := 0, locals := 12 } : Room).cells ({ frames := 1, cells := 0, slots := 0, locals := 12 } : Room).slots) := by
  refine MetFree.of_bodySF (plainFor_of_name pn_1) hisR ?_
  intro p e s m args below meth c s₁ Bd hml0 hP hK
  obtain ⟨rfl, hZ, hh⟩ := hP
  have hx := Bd.exec
  have hby := Bd.bytes
  have hml : c.maxLocals = 2 := hml0
  have hown : s.vm.findClass "com/example/key_ranges/keyranges/ByteString" = some m.cls := findClass_of_methodNamed Bd.named
  have hnm := (name_of_methodNamed Bd.named Bd.method).1
  have X0 : Stand p l e ({ frames := 1, cells := 0, slots := 0, locals := 12 } : Room) s m #[(.ref a), (.ref q)] below meth c s₁ [] 0 0 := Stand.of_body Bd
  have e0 : s₁.heap = h0 := by rw [← hh, Bd.state]; rfl
  have N0 := Fr.nil n0
  have R0 : ∀ zt, Steps p.tables e below (s₁.setTop (mkF m 0 #[.val (.ref a), .val (.ref q)] [])) zt → Steps p.tables e below (s₁.setTop (entryFrame m #[(.ref a), (.ref q)] 2)) zt := fun zt zk => castTop (ef3 m a q) zk
  have KP := Keep.refl h0 [a]
  have R1 : ∀ zt, Steps p.tables e below (s₁.setTop (mkF m 1 #[.val (.ref a), .val (.ref q)] [(.ref a)])) zt → Steps p.tables e below (s₁.setTop (entryFrame m #[(.ref a), (.ref q)] 2)) zt := by
    intro zt zk
    refine R0 zt ?_
    show Steps p.tables e below (s₁.setTop (mkF m 0 #[.val (.ref a), .val (.ref q)] [])) _
    refine XS.aloadN X0.here hx rfl (hb hby d3_0) rfl rfl ?_
    exact zk
  obtain ⟨T2, X2, e2, st2⟩ := initO X0 hx hZ hown (hw _ (List.mem_of_getElem? (i := 30) rfl)) (hw _ (List.mem_of_getElem? (i := 31) rfl)) (hw _ (List.mem_of_getElem? (i := 32) rfl)) e0 (g := (mkF m 1 #[.val (.ref a), .val (.ref q)] [(.ref a)])) rfl (by rw [hml]; rfl) rfl (hb hby d3_1) (by decide) (W := 0) (by show 2 * 0 + _ ≤ _; exact Nat.le_of_eq rfl) (by decide)
  have R3 : ∀ zt, Steps p.tables e below (T2.setTop (mkF m 6 #[.val (.ref a), .val (.ref q)] [(.ref q), (.ref a)])) zt → Steps p.tables e below (s₁.setTop (entryFrame m #[(.ref a), (.ref q)] 2)) zt := by
    intro zt zk
    refine R1 zt ?_
    show Steps p.tables e below (s₁.setTop (mkF m 1 #[.val (.ref a), .val (.ref q)] [(.ref a)])) _
    refine st2 _ ?_
    show Steps p.tables e below (T2.setTop (mkF m 4 #[.val (.ref a), .val (.ref q)] [])) _
    refine XS.aloadN X2.here hx rfl (hb hby d3_4) rfl rfl ?_
    show Steps p.tables e below (T2.setTop (mkF m 5 #[.val (.ref a), .val (.ref q)] [(.ref a)])) _
    refine XS.aloadN X2.here hx rfl (hb hby d3_5) rfl rfl ?_
    exact zk
  obtain ⟨T4, h4, X4, e4, W4, st4⟩ := putF X2 hx hZ hown (host := "") (Or.inl (hw _ (List.mem_of_getElem? (i := 33) rfl))) Via.refl e2 F_bytes_a E_a (Or.inr ⟨(hw _ (List.mem_of_getElem? (i := 34) rfl)), rfl, hnm⟩) (hw _ (List.mem_of_getElem? (i := 6) rfl)) (ty := (.array .byte)) (by decide) rfl rfl (g := (mkF m 6 #[.val (.ref a), .val (.ref q)] [(.ref q), (.ref a)])) rfl rfl (hb hby d3_6)
  have N4 := Fr.snoc X4 N0 ge_a
  have Sz4 := Nat.le_trans Z0 (Keep.of_wr W4).1
  have E_a := E_a.wr W4
  have F_bytes_a := F_bytes_a.same W4
  have KP := KP.wr W4 (Or.inl (List.mem_of_getElem? (i := 0) rfl))
  have R5 : ∀ zt, Steps p.tables e below (T4.setTop (mkF m 9 #[.val (.ref a), .val (.ref q)] [])) zt → Steps p.tables e below (s₁.setTop (entryFrame m #[(.ref a), (.ref q)] 2)) zt := by
    intro zt zk
    refine R3 zt ?_
    show Steps p.tables e below (T2.setTop (mkF m 6 #[.val (.ref a), .val (.ref q)] [(.ref q), (.ref a)])) _
    refine st4 _ ?_
    exact zk
  obtain ⟨fs, hr, hrun, hended, hW, hsame⟩ := X4.leave (v := none) (fun _ => rfl)
  refine ⟨_, _, R5 _ ?_, hrun, hended, _, _, rfl, ?_, ⟨_, rfl⟩, hW, hsame.mono (by decide) (by decide)⟩
  · exact X4.returnOut hx Bd.returns (hb hby d3_9) hr
  · show Q3 Z a q h0 n0 _ T4.heap _
    rw [e4]
    exact ⟨rfl, N4, KP, F_bytes_a⟩
theorem ef5 (m : MethodId) (x0 : Addr) : entryFrame m #[(.ref x0)] 1 = mkF m 0 #[.val (.ref x0)] [] := by first | (simp [entryFrame, mkF, argsToLocals, Value.category]; done) | rfl
theorem d5_0 : decode prog_5_method_5_code 0 = .ok (.aload_n 0, 1) := by decide +kernel
theorem d5_1 : decode prog_5_method_5_code 1 = .ok (.getfield 7, 3) := by decide +kernel
theorem d5_4 : decode prog_5_method_5_code 4 = .ok (.arraylength, 1) := by decide +kernel
theorem d5_5 : decode prog_5_method_5_code 5 = .ok (.ireturn, 1) := by decide +kernel
def Q5 (Z : State) (a : Addr) (r : Addr) (kc : ClassId) (nn : Int32) (vs : List Value) (h0 : Heap) (n0 : Nat) (v : Option Value) (h : Heap) (L : List Loc) : Prop := v = some (.int nn) ∧ Fr n0 L ∧ h = h0
set_option maxRecDepth 65536 in
set_option maxHeartbeats 40000000 in
theorem rm5 (l : Launch) (Z : State) (a0 : Array Value) (hw : ∀ d ∈ tables_1, d.before a0 Z = true) (ws : List Jvm.Cond) (a : Addr) (r : Addr) (kc : ClassId) (nn : Int32) (vs : List Value) (h0 : Heap) (n0 : Nat) (Z0 : n0 ≤ h0.size) (F_bytes_a : Fld Z h0 a "com/example/key_ranges/keyranges/ByteString" "bytes" "[B" (.ref r)) (V_r : Arv Z h0 r kc .byte nn vs (.int (0 : Int32))) :
    MetFree l (⟨"com/example/key_ranges/keyranges/ByteString", "size", "()I"⟩ : MethodName) (head1 (Jvm.Cond.code (⟨"com/example/key_ranges/keyranges/ByteString", "size", "()I"⟩ : MethodName) prog_5_method_5_code 1 (some .int) :: ws) ({ frames := 0, cells := 0, slots := 0, locals := 0 } : Room)) (fun zza zzU => zza = #[(.ref a)] ∧ Z.Warmed39 zzU.vm ∧ zzU.heap = h0) (fun _ _ _ _ _ => True) (fun _ zzU zzo zzV => ∃ zzv zzL, zzo = .returned zzv ∧ Q5 Z a r kc nn vs h0 n0 zzv zzV.heap zzL ∧ FrameEnd zzU zzo zzV zzL ({ frames := 0, cells := 0, slots := 0, locals := 0 } : Room).cells ({ frames := 0, cells := 0, slots := 0, locals := 0 } : Room).slots) := by
  refine MetFree.of_bodySF (plainFor_of_name pn_1) hisR ?_
  intro p e s m args below meth c s₁ Bd hml0 hP hK
  obtain ⟨rfl, hZ, hh⟩ := hP
  have hx := Bd.exec
  have hby := Bd.bytes
  have hml : c.maxLocals = 1 := hml0
  have hown : s.vm.findClass "com/example/key_ranges/keyranges/ByteString" = some m.cls := findClass_of_methodNamed Bd.named
  have hnm := (name_of_methodNamed Bd.named Bd.method).1
  have X0 : Stand p l e ({ frames := 0, cells := 0, slots := 0, locals := 0 } : Room) s m #[(.ref a)] below meth c s₁ [] 0 0 := Stand.of_body Bd
  have e0 : s₁.heap = h0 := by rw [← hh, Bd.state]; rfl
  have N0 := Fr.nil n0
  have R0 : ∀ zt, Steps p.tables e below (s₁.setTop (mkF m 0 #[.val (.ref a)] [])) zt → Steps p.tables e below (s₁.setTop (entryFrame m #[(.ref a)] 1)) zt := fun zt zk => castTop (ef5 m a) zk
  have R1 : ∀ zt, Steps p.tables e below (s₁.setTop (mkF m 1 #[.val (.ref a)] [(.ref a)])) zt → Steps p.tables e below (s₁.setTop (entryFrame m #[(.ref a)] 1)) zt := by
    intro zt zk
    refine R0 zt ?_
    show Steps p.tables e below (s₁.setTop (mkF m 0 #[.val (.ref a)] [])) _
    refine XS.aloadN X0.here hx rfl (hb hby d5_0) rfl rfl ?_
    exact zk
  obtain ⟨T2, X2, e2, st2⟩ := getF X0 hx hZ hown (host := "") (Or.inl (hw _ (List.mem_of_getElem? (i := 33) rfl))) Via.refl e0 F_bytes_a (g := (mkF m 1 #[.val (.ref a)] [(.ref a)])) rfl rfl (hb hby d5_1)
  have R3 : ∀ zt, Steps p.tables e below (T2.setTop (mkF m 4 #[.val (.ref a)] [(.ref r)])) zt → Steps p.tables e below (s₁.setTop (entryFrame m #[(.ref a)] 1)) zt := by
    intro zt zk
    refine R1 zt ?_
    show Steps p.tables e below (s₁.setTop (mkF m 1 #[.val (.ref a)] [(.ref a)])) _
    refine st2 _ ?_
    exact zk
  obtain ⟨cl4, Ar4, Aq4, As4, An4, Ah4, Ag4⟩ := id V_r
  have R5 : ∀ zt, Steps p.tables e below (T2.setTop (mkF m 5 #[.val (.ref a)] [(.int nn)])) zt → Steps p.tables e below (s₁.setTop (entryFrame m #[(.ref a)] 1)) zt := by
    intro zt zk
    refine R3 zt ?_
    show Steps p.tables e below (T2.setTop (mkF m 4 #[.val (.ref a)] [(.ref r)])) _
    refine X2.arraylength hx (by rw [e2]; exact Ar4.1) (State.isArrayOf_alike hZ.alike Ar4.2.1) (g := (mkF m 4 #[.val (.ref a)] [(.ref r)])) rfl rfl (hb hby d5_4) _ ?_
    rw [len_of As4 An4]
    exact zk
  obtain ⟨fs, hr, hrun, hended, hW, hsame⟩ := X2.leave (v := some (.int nn)) (fun h => by rw [Bd.returns] at h; cases h)
  refine ⟨_, _, R5 _ ?_, hrun, hended, _, _, rfl, ?_, ⟨_, rfl⟩, hW, hsame.mono (by decide) (by decide)⟩
  · exact retI X2 hx Bd.returns (hb hby d5_5) hr
  · show Q5 Z a r kc nn vs h0 n0 _ T2.heap _
    rw [e2]
    exact ⟨rfl, N0, rfl⟩
theorem ef6 (m : MethodId) (x0 : Addr) : entryFrame m #[(.ref x0)] 1 = mkF m 0 #[.val (.ref x0)] [] := by first | (simp [entryFrame, mkF, argsToLocals, Value.category]; done) | rfl
theorem d6_0 : decode prog_5_method_4_code 0 = .ok (.aload_n 0, 1) := by decide +kernel
theorem d6_1 : decode prog_5_method_4_code 1 = .ok (.getfield 7, 3) := by decide +kernel
theorem d6_4 : decode prog_5_method_4_code 4 = .ok (.invokevirtual 21, 3) := by decide +kernel
theorem d6_7 : decode prog_5_method_4_code 7 = .ok (.checkcast 20, 3) := by decide +kernel
theorem d6_10 : decode prog_5_method_4_code 10 = .ok (.areturn, 1) := by decide +kernel
def Q6 (Z : State) (a : Addr) (r : Addr) (kc : ClassId) (nn : Int32) (vs : List Value) (h0 : Heap) (n0 : Nat) (v : Option Value) (h : Heap) (L : List Loc) : Prop := v = some (.ref h0.size) ∧ Fr n0 L ∧ Keep h0 h [] ∧ Arv Z h h0.size kc .byte nn vs (.int (0 : Int32))
set_option maxRecDepth 65536 in
set_option maxHeartbeats 40000000 in
theorem rm6 (l : Launch) (Z : State) (a0 : Array Value) (hw : ∀ d ∈ tables_1, d.before a0 Z = true) (ws : List Jvm.Cond) (a : Addr) (r : Addr) (kc : ClassId) (nn : Int32) (vs : List Value) (h0 : Heap) (n0 : Nat) (Z0 : n0 ≤ h0.size) (F_bytes_a : Fld Z h0 a "com/example/key_ranges/keyranges/ByteString" "bytes" "[B" (.ref r)) (V_r : Arv Z h0 r kc .byte nn vs (.int (0 : Int32))) (E_r : Exa Z h0 r "[B") (hcap : nn.toNatClampNeg ≤ 3) :
    MetFree l (⟨"com/example/key_ranges/keyranges/ByteString", "toByteArray", "()[B"⟩ : MethodName) (head1 (Jvm.Cond.code (⟨"com/example/key_ranges/keyranges/ByteString", "toByteArray", "()[B"⟩ : MethodName) prog_5_method_4_code 1 (some (.array .byte)) :: ws) ({ frames := 1, cells := 1, slots := 3, locals := 16 } : Room)) (fun zza zzU => zza = #[(.ref a)] ∧ Z.Warmed39 zzU.vm ∧ zzU.heap = h0) (fun _ _ _ _ _ => True) (fun _ zzU zzo zzV => ∃ zzv zzL, zzo = .returned zzv ∧ Q6 Z a r kc nn vs h0 n0 zzv zzV.heap zzL ∧ FrameEnd zzU zzo zzV zzL ({ frames := 1, cells := 1, slots := 3, locals := 16 } : Room).cells ({ frames := 1, cells := 1, slots := 3, locals := 16 } : Room).slots) := by
  refine MetFree.of_bodySF (plainFor_of_name pn_1) hisR ?_
  intro p e s m args below meth c s₁ Bd hml0 hP hK
  obtain ⟨rfl, hZ, hh⟩ := hP
  have hx := Bd.exec
  have hby := Bd.bytes
  have hml : c.maxLocals = 1 := hml0
  have hown : s.vm.findClass "com/example/key_ranges/keyranges/ByteString" = some m.cls := findClass_of_methodNamed Bd.named
  have hnm := (name_of_methodNamed Bd.named Bd.method).1
  have X0 : Stand p l e ({ frames := 1, cells := 1, slots := 3, locals := 16 } : Room) s m #[(.ref a)] below meth c s₁ [] 0 0 := Stand.of_body Bd
  have e0 : s₁.heap = h0 := by rw [← hh, Bd.state]; rfl
  have N0 := Fr.nil n0
  have R0 : ∀ zt, Steps p.tables e below (s₁.setTop (mkF m 0 #[.val (.ref a)] [])) zt → Steps p.tables e below (s₁.setTop (entryFrame m #[(.ref a)] 1)) zt := fun zt zk => castTop (ef6 m a) zk
  have KP := Keep.refl h0 []
  have R1 : ∀ zt, Steps p.tables e below (s₁.setTop (mkF m 1 #[.val (.ref a)] [(.ref a)])) zt → Steps p.tables e below (s₁.setTop (entryFrame m #[(.ref a)] 1)) zt := by
    intro zt zk
    refine R0 zt ?_
    show Steps p.tables e below (s₁.setTop (mkF m 0 #[.val (.ref a)] [])) _
    refine XS.aloadN X0.here hx rfl (hb hby d6_0) rfl rfl ?_
    exact zk
  obtain ⟨T2, X2, e2, st2⟩ := getF X0 hx hZ hown (host := "") (Or.inl (hw _ (List.mem_of_getElem? (i := 33) rfl))) Via.refl e0 F_bytes_a (g := (mkF m 1 #[.val (.ref a)] [(.ref a)])) rfl rfl (hb hby d6_1)
  have R3 : ∀ zt, Steps p.tables e below (T2.setTop (mkF m 4 #[.val (.ref a)] [(.ref r)])) zt → Steps p.tables e below (s₁.setTop (entryFrame m #[(.ref a)] 1)) zt := by
    intro zt zk
    refine R1 zt ?_
    show Steps p.tables e below (s₁.setTop (mkF m 1 #[.val (.ref a)] [(.ref a)])) _
    refine st2 _ ?_
    exact zk
  obtain ⟨T4, h4, X4, e4, E4, V4, AE4, st4⟩ := cloneH X2 hx hZ hown (ad := "[B") (hw _ (List.mem_of_getElem? (i := 20) rfl)) (hw _ (List.mem_of_getElem? (i := 21) rfl)) (hw _ (List.mem_of_getElem? (i := 25) rfl)) (hw _ (List.mem_of_getElem? (i := 23) rfl)) (hw _ (List.mem_of_getElem? (i := 24) rfl)) (hw _ (List.mem_of_getElem? (i := 26) rfl)) e2 V_r.arh E_r (g := (mkF m 4 #[.val (.ref a)] [(.ref r)])) rfl (by rw [hml]; rfl) rfl (hb hby d6_4) (by decide) (W := 0) (cap := 3) (by show 2 * 0 + _ ≤ _; exact Nat.le_of_eq rfl) (by decide) hcap (by decide) (by decide)
  obtain ⟨q, g4⟩ : ∃ z, z = h0.size := ⟨_, rfl⟩
  rw [← g4] at V4 AE4 st4
  have ge_q : n0 ≤ q := by rw [g4]; exact Z0
  have Sz4 := Nat.le_trans Z0 E4.1
  have sz0_q : h0.size ≤ q := by rw [g4]; exact KP.1
  have KP := KP.ext E4
  have ne_r_q : r ≠ q := Nat.ne_of_lt (Nat.lt_of_lt_of_le V_r.lt (Nat.le_of_eq g4.symm))
  have V_r := V_r.ext E4
  have E_r := E_r.ext E4
  have V_q : Arv Z h4 q kc .byte nn vs (.int (0 : Int32)) := V4
  have E_q := AE4
  have R5 : ∀ zt, Steps p.tables e below (T4.setTop (mkF m 7 #[.val (.ref a)] [(.ref q)])) zt → Steps p.tables e below (s₁.setTop (entryFrame m #[(.ref a)] 1)) zt := by
    intro zt zk
    refine R3 zt ?_
    show Steps p.tables e below (T2.setTop (mkF m 4 #[.val (.ref a)] [(.ref r)])) _
    refine st4 _ ?_
    exact zk
  obtain ⟨T6, X6, e6, st6⟩ := castY X4 hx hZ hown (hw _ (List.mem_of_getElem? (i := 18) rfl)) e4 (Ins.self E_q) (g := (mkF m 7 #[.val (.ref a)] [(.ref q)])) rfl rfl (hb hby d6_7)
  have R7 : ∀ zt, Steps p.tables e below (T6.setTop (mkF m 10 #[.val (.ref a)] [(.ref q)])) zt → Steps p.tables e below (s₁.setTop (entryFrame m #[(.ref a)] 1)) zt := by
    intro zt zk
    refine R5 zt ?_
    show Steps p.tables e below (T4.setTop (mkF m 7 #[.val (.ref a)] [(.ref q)])) _
    refine st6 _ ?_
    exact zk
  have gq : q = h0.size := g4
  obtain ⟨fs, hr, hrun, hended, hW, hsame⟩ := X6.leave (v := some (.ref q)) (fun h => by rw [Bd.returns] at h; cases h)
  refine ⟨_, _, R7 _ ?_, hrun, hended, _, _, rfl, ?_, ⟨_, rfl⟩, hW, hsame.mono (by decide) (by decide)⟩
  · exact retOut X6 hx Bd.returns rfl (Or.inr (Or.inr (Or.inr (Or.inr ⟨rfl, rfl, rfl⟩)))) (hb hby d6_10) hr
  · show Q6 Z a r kc nn vs h0 n0 _ T6.heap _
    rw [e6]
    exact ⟨(by rw [gq]), N0, KP, gq ▸ V_q⟩
theorem ef1 (m : MethodId) (x0 : Addr) : entryFrame m #[(.ref x0)] 1 = mkF m 0 #[.val (.ref x0)] [] := by first | (simp [entryFrame, mkF, argsToLocals, Value.category]; done) | rfl
theorem d1_0 : decode prog_5_method_2_code 0 = .ok (.new 8, 3) := by decide +kernel
theorem d1_3 : decode prog_5_method_2_code 3 = .ok (.dup, 1) := by decide +kernel
theorem d1_4 : decode prog_5_method_2_code 4 = .ok (.aload_n 0, 1) := by decide +kernel
theorem d1_5 : decode prog_5_method_2_code 5 = .ok (.ldc 13, 2) := by decide +kernel
theorem pd_0 : parseMethodDescriptor "(Ljava/lang/Object;Ljava/lang/String;)Ljava/lang/Object;" = some ⟨[(.object "java/lang/Object"), (.object "java/lang/String")], some (.object "java/lang/Object")⟩ := by decide +kernel
theorem d1_7 : decode prog_5_method_2_code 7 = .ok (.invokestatic 14, 3) := by decide +kernel
theorem d1_10 : decode prog_5_method_2_code 10 = .ok (.checkcast 20, 3) := by decide +kernel
theorem d1_13 : decode prog_5_method_2_code 13 = .ok (.invokevirtual 21, 3) := by decide +kernel
theorem d1_16 : decode prog_5_method_2_code 16 = .ok (.checkcast 20, 3) := by decide +kernel
theorem pd_1 : parseMethodDescriptor "([B)V" = some ⟨[(.array .byte)], none⟩ := by decide +kernel
theorem d1_19 : decode prog_5_method_2_code 19 = .ok (.invokespecial 25, 3) := by decide +kernel
theorem d1_22 : decode prog_5_method_2_code 22 = .ok (.areturn, 1) := by decide +kernel
def Q1 (Z : State) (r : Addr) (kc : ClassId) (nn : Int32) (vs : List Value) (h0 : Heap) (n0 : Nat) (v : Option Value) (h : Heap) (L : List Loc) : Prop := v = some (.ref h0.size) ∧ Fr n0 L ∧ ∃ q : Addr, h0.size ≤ q ∧ q ≠ h0.size ∧ Keep h0 h [] ∧ Exa Z h h0.size "com/example/key_ranges/keyranges/ByteString" ∧ Fld Z h h0.size "com/example/key_ranges/keyranges/ByteString" "bytes" "[B" (.ref q) ∧ Arv Z h q kc .byte nn vs (.int (0 : Int32)) ∧ Exa Z h q "[B"
set_option maxRecDepth 65536 in
set_option maxHeartbeats 40000000 in
theorem rm1 (l : Launch) (Z : State) (a0 : Array Value) (hw : ∀ d ∈ tables_1, d.before a0 Z = true) (ws : List Jvm.Cond) (r : Addr) (kc : ClassId) (nn : Int32) (vs : List Value) (h0 : Heap) (n0 : Nat) (Z0 : n0 ≤ h0.size) (V_r : Arv Z h0 r kc .byte nn vs (.int (0 : Int32))) (E_r : Exa Z h0 r "[B") (hcap : nn.toNatClampNeg ≤ 3) :
    MetFree l (⟨"com/example/key_ranges/keyranges/ByteString", "copyOf", "([B)Lcom/example/key_ranges/keyranges/ByteString;"⟩ : MethodName) (head1 (Jvm.Cond.code (⟨"com/example/key_ranges/keyranges/ByteString", "copyOf", "([B)Lcom/example/key_ranges/keyranges/ByteString;"⟩ : MethodName) prog_5_method_2_code 1 (some (.object "com/example/key_ranges/keyranges/ByteString")) :: ws) ({ frames := 2, cells := 4, slots := 28, locals := 48 } : Room)) (fun zza zzU => zza = #[(.ref r)] ∧ Z.Warmed39 zzU.vm ∧ zzU.heap = h0) (fun _ _ _ _ _ => True) (fun _ zzU zzo zzV => ∃ zzv zzL, zzo = .returned zzv ∧ Q1 Z r kc nn vs h0 n0 zzv zzV.heap zzL ∧ ReturnedEndW zzU zzo zzV zzL ({ frames := 2, cells := 4, slots := 28, locals := 48 } : Room).cells ({ frames := 2, cells := 4, slots := 28, locals := 48 } : Room).slots) := by
  refine MetFree.of_bodySF (plainFor_of_name pn_1) hisR ?_
  intro p e s m args below meth c s₁ Bd hml0 hP hK
  obtain ⟨rfl, hZ, hh⟩ := hP
  have hx := Bd.exec
  have hby := Bd.bytes
  have hml : c.maxLocals = 1 := hml0
  have hown : s.vm.findClass "com/example/key_ranges/keyranges/ByteString" = some m.cls := findClass_of_methodNamed Bd.named
  have hnm := (name_of_methodNamed Bd.named Bd.method).1
  have X0 : Stand p l e ({ frames := 2, cells := 4, slots := 28, locals := 48 } : Room) s m #[(.ref r)] below meth c s₁ [] 0 0 := Stand.of_body Bd
  have e0 : s₁.heap = h0 := by rw [← hh, Bd.state]; rfl
  have N0 := Fr.nil n0
  have R0 : ∀ zt, Steps p.tables e below (s₁.setTop (mkF m 0 #[.val (.ref r)] [])) zt → Steps p.tables e below (s₁.setTop (entryFrame m #[(.ref r)] 1)) zt := fun zt zk => castTop (ef1 m r) zk
  have KP := Keep.refl h0 []
  obtain ⟨T1, h1, X1, e1, E1, A1, D1, -, st1⟩ := newO X0 hx hZ hown (hw _ (List.mem_of_getElem? (i := 5) rfl)) (hw _ (List.mem_of_getElem? (i := 6) rfl)) (hw _ (List.mem_of_getElem? (i := 3) rfl)) e0 (g := (mkF m 0 #[.val (.ref r)] [])) rfl (hb hby d1_0) (by decide) (by decide)
  obtain ⟨b, g1⟩ : ∃ z, z = h0.size := ⟨_, rfl⟩
  rw [← g1] at A1 D1 st1
  have ge_b : n0 ≤ b := by rw [g1]; exact Z0
  have Sz1 := Nat.le_trans Z0 E1.1
  have sz0_b : h0.size ≤ b := by rw [g1]; exact KP.1
  have KP := KP.ext E1
  have ne_r_b : r ≠ b := Nat.ne_of_lt (Nat.lt_of_lt_of_le V_r.lt (Nat.le_of_eq g1.symm))
  have V_r := V_r.ext E1
  have E_r := E_r.ext E1
  have E_b := A1
  have F_bytes_b : Fld Z h1 b "com/example/key_ranges/keyranges/ByteString" "bytes" "[B" .null := D1 (Or.inr (hw _ (List.mem_of_getElem? (i := 34) rfl))) (ty := (.array .byte)) (by decide)
  have R2 : ∀ zt, Steps p.tables e below (T1.setTop (mkF m 5 #[.val (.ref r)] [(.ref r), (.ref b), (.ref b)])) zt → Steps p.tables e below (s₁.setTop (entryFrame m #[(.ref r)] 1)) zt := by
    intro zt zk
    refine R0 zt ?_
    show Steps p.tables e below (s₁.setTop (mkF m 0 #[.val (.ref r)] [])) _
    refine st1 _ ?_
    show Steps p.tables e below (T1.setTop (mkF m 3 #[.val (.ref r)] [(.ref b)])) _
    refine XS.dup X1.here hx rfl (hb hby d1_3) rfl rfl ?_
    show Steps p.tables e below (T1.setTop (mkF m 4 #[.val (.ref r)] [(.ref b), (.ref b)])) _
    refine XS.aloadN X1.here hx rfl (hb hby d1_4) rfl rfl ?_
    exact zk
  obtain ⟨t, T3, h3, kk3, X3, e3, E3, Sc3, GS, hZ3, ho3, st3⟩ := ldcS (s := s) (vm0 := s.vm) X1 hx hZ (own := "com/example/key_ranges/keyranges/ByteString") hown (hw _ (List.mem_of_getElem? (i := 7) rfl)) (own_satoms hw) e1 ((State.WarmedH.refl s).since h1.size) (Nat.le_refl _) (g := (mkF m 5 #[.val (.ref r)] [(.ref r), (.ref b), (.ref b)])) rfl (hb hby d1_5) (n := 20) (by decide) (by decide) (by decide) (by decide)
  have Sz3 := Nat.le_trans Sz1 E3.1
  have KP := KP.ext E3
  have V_r := V_r.ext E3
  have E_r := E_r.ext E3
  have E_b := E_b.ext E3
  have F_bytes_b := F_bytes_b.ext E3
  have hZ := hZ3
  have hown := ho3
  have R4 : ∀ zt, Steps p.tables e below (T3.setTop (mkF m 7 #[.val (.ref r)] [(.ref t), (.ref r), (.ref b), (.ref b)])) zt → Steps p.tables e below (s₁.setTop (entryFrame m #[(.ref r)] 1)) zt := by
    intro zt zk
    refine R2 zt ?_
    show Steps p.tables e below (T1.setTop (mkF m 5 #[.val (.ref r)] [(.ref r), (.ref b), (.ref b)])) _
    refine st3 _ ?_
    exact zk
  obtain ⟨_, _, ⟨T5, L5, k5, n5⟩, -, X5, ⟨Lc5, hQ5, l5, y5, z5⟩, st5⟩ := Jvm.LawKit.callS X3 hx (y := (⟨"java/util/Objects", "requireNonNull", "(Ljava/lang/Object;Ljava/lang/String;)Ljava/lang/Object;"⟩ : MethodName)) hown (mvT hZ (hw _ (List.mem_of_getElem? (i := 14) rfl))) (mvT hZ (hw _ (List.mem_of_getElem? (i := 15) rfl))) (mvT hZ (hw _ (List.mem_of_getElem? (i := 16) rfl))) (mvT hZ (hw _ (List.mem_of_getElem? (i := 17) rfl))) (by decide) (backOf (W := 2) (rm2 l Z a0 hw [] r t h3 n0 Sz3) hZ (hw _ (List.mem_of_getElem? (i := 17) rfl)) (hw _ (List.mem_of_getElem? (i := 16) rfl)) (by decide) (by decide)) (g := (mkF m 7 #[.val (.ref r)] [(.ref t), (.ref r), (.ref b), (.ref b)])) rfl (by rw [hml]; rfl) (argsL := [(.ref r), (.ref t)]) (rest := [(.ref b), (.ref b)]) (lenOf pd_0 rfl) rfl (by show 2 * 0 + _ ≤ _; exact Nat.le_of_eq rfl) (hb hby d1_7) (fun _ _ => ⟨rfl, e3, (by decide : 3 + 0 ≤ _), (by decide : 25 + 0 ≤ _)⟩)
  dsimp only [Pt.U, Pt.locs, Pt.cells, Pt.slots] at X5 l5 y5 z5 st5 hQ5
  rw [y5, z5] at X5
  have X5 : Stand p l e ({ frames := 2, cells := 4, slots := 28, locals := 48 } : Room) (s.setVm T3.vm) m #[(.ref r)] below meth c T5 L5 3 25 := X5
  obtain ⟨rfl, Nq5, eq5⟩ := hQ5
  have N5 : Fr n0 L5 := by rw [l5]; exact Fr.app N0 Nq5
  clear l5 y5 z5
  have e5 : T5.heap = h3 := eq5
  have R6 : ∀ zt, Steps p.tables e below (T5.setTop (mkF m 10 #[.val (.ref r)] [(.ref r), (.ref b), (.ref b)])) zt → Steps p.tables e below (s₁.setTop (entryFrame m #[(.ref r)] 1)) zt := by
    intro zt zk
    refine R4 zt ?_
    show Steps p.tables e below (T3.setTop (mkF m 7 #[.val (.ref r)] [(.ref t), (.ref r), (.ref b), (.ref b)])) _
    refine st5 _ ?_
    exact zk
  obtain ⟨T7, X7, e7, st7⟩ := castY X5 hx hZ hown (hw _ (List.mem_of_getElem? (i := 18) rfl)) e5 (Ins.self E_r) (g := (mkF m 10 #[.val (.ref r)] [(.ref r), (.ref b), (.ref b)])) rfl rfl (hb hby d1_10)
  have R8 : ∀ zt, Steps p.tables e below (T7.setTop (mkF m 13 #[.val (.ref r)] [(.ref r), (.ref b), (.ref b)])) zt → Steps p.tables e below (s₁.setTop (entryFrame m #[(.ref r)] 1)) zt := by
    intro zt zk
    refine R6 zt ?_
    show Steps p.tables e below (T5.setTop (mkF m 10 #[.val (.ref r)] [(.ref r), (.ref b), (.ref b)])) _
    refine st7 _ ?_
    exact zk
  obtain ⟨T9, h9, X9, e9, E9, V9, AE9, st9⟩ := cloneH X7 hx hZ hown (ad := "[B") (hw _ (List.mem_of_getElem? (i := 20) rfl)) (hw _ (List.mem_of_getElem? (i := 21) rfl)) (hw _ (List.mem_of_getElem? (i := 25) rfl)) (hw _ (List.mem_of_getElem? (i := 23) rfl)) (hw _ (List.mem_of_getElem? (i := 24) rfl)) (hw _ (List.mem_of_getElem? (i := 26) rfl)) e7 V_r.arh E_r (g := (mkF m 13 #[.val (.ref r)] [(.ref r), (.ref b), (.ref b)])) rfl (by rw [hml]; rfl) rfl (hb hby d1_13) (by decide) (W := 2) (cap := 3) (by show 2 * 0 + _ ≤ _; exact Nat.le_of_eq rfl) (by decide) hcap (by decide) (by decide)
  obtain ⟨q, g9⟩ : ∃ z, z = h3.size := ⟨_, rfl⟩
  rw [← g9] at V9 AE9 st9
  have ge_q : n0 ≤ q := by rw [g9]; exact Sz3
  have Sz9 := Nat.le_trans Sz3 E9.1
  have sz0_q : h0.size ≤ q := by rw [g9]; exact KP.1
  have KP := KP.ext E9
  have ne_r_q : r ≠ q := Nat.ne_of_lt (Nat.lt_of_lt_of_le V_r.lt (Nat.le_of_eq g9.symm))
  have ne_b_q : b ≠ q := Nat.ne_of_lt (Nat.lt_of_lt_of_le E_b.lt (Nat.le_of_eq g9.symm))
  have V_r := V_r.ext E9
  have E_r := E_r.ext E9
  have E_b := E_b.ext E9
  have F_bytes_b := F_bytes_b.ext E9
  have GS := Nat.le_trans GS E9.1
  have V_q : Arv Z h9 q kc .byte nn vs (.int (0 : Int32)) := V9
  have E_q := AE9
  have R10 : ∀ zt, Steps p.tables e below (T9.setTop (mkF m 16 #[.val (.ref r)] [(.ref q), (.ref b), (.ref b)])) zt → Steps p.tables e below (s₁.setTop (entryFrame m #[(.ref r)] 1)) zt := by
    intro zt zk
    refine R8 zt ?_
    show Steps p.tables e below (T7.setTop (mkF m 13 #[.val (.ref r)] [(.ref r), (.ref b), (.ref b)])) _
    refine st9 _ ?_
    exact zk
  obtain ⟨T11, X11, e11, st11⟩ := castY X9 hx hZ hown (hw _ (List.mem_of_getElem? (i := 18) rfl)) e9 (Ins.self E_q) (g := (mkF m 16 #[.val (.ref r)] [(.ref q), (.ref b), (.ref b)])) rfl rfl (hb hby d1_16)
  have R12 : ∀ zt, Steps p.tables e below (T11.setTop (mkF m 19 #[.val (.ref r)] [(.ref q), (.ref b), (.ref b)])) zt → Steps p.tables e below (s₁.setTop (entryFrame m #[(.ref r)] 1)) zt := by
    intro zt zk
    refine R10 zt ?_
    show Steps p.tables e below (T9.setTop (mkF m 16 #[.val (.ref r)] [(.ref q), (.ref b), (.ref b)])) _
    refine st11 _ ?_
    exact zk
  obtain ⟨_, _, ⟨T13, L13, k13, n13⟩, -, X13, ⟨Lc13, hQ13, l13, y13, z13⟩, st13⟩ := X11.specialBack hx (y := (⟨"com/example/key_ranges/keyranges/ByteString", "<init>", "([B)V"⟩ : MethodName)) rfl hown (mvT hZ (hw _ (List.mem_of_getElem? (i := 27) rfl))) (mvT hZ (hw _ (List.mem_of_getElem? (i := 28) rfl))) (mvT hZ (hw _ (List.mem_of_getElem? (i := 29) rfl))) (by decide) (backOf (W := 1) (rm3 l Z a0 hw [] b q h9 n0 Sz9 E_b F_bytes_b ge_b) hZ (hw _ (List.mem_of_getElem? (i := 29) rfl)) (hw _ (List.mem_of_getElem? (i := 3) rfl)) (by decide) (by decide)) (g := (mkF m 19 #[.val (.ref r)] [(.ref q), (.ref b), (.ref b)])) rfl (by rw [hml]; rfl) (Steps.refl _) (a := b) (argsL := [(.ref q)]) (rest := [(.ref b)]) (lenOf pd_1 rfl) rfl (by show 2 * 0 + _ ≤ _; exact Nat.le_of_eq rfl) (hb hby d1_19) (fun _ _ => ⟨rfl, e11, (by decide : 4 + 0 ≤ _), (by decide : 28 + 0 ≤ _)⟩)
  dsimp only [Pt.U, Pt.locs, Pt.cells, Pt.slots] at X13 l13 y13 z13 st13 hQ13
  rw [y13, z13] at X13
  have X13 : Stand p l e ({ frames := 2, cells := 4, slots := 28, locals := 48 } : Room) (s.setVm T3.vm) m #[(.ref r)] below meth c T13 L13 4 28 := X13
  obtain ⟨rfl, Nq13, K13, F_bytes_b⟩ := hQ13
  have N13 : Fr n0 L13 := by rw [l13]; exact Fr.app N5 Nq13
  clear l13 y13 z13
  have Sz13 := Nat.le_trans Sz9 K13.1
  have V_r := V_r.keep K13 (ninS ne_r_b nin0)
  have E_r := E_r.keep K13
  have E_b := E_b.keep K13
  have GS := Nat.le_trans GS K13.1
  have V_q := V_q.keep K13 (ninS ne_b_q.symm nin0)
  have E_q := E_q.keep K13
  have KP := KP.trans K13 (allS (Or.inr sz0_b) all0)
  have R14 : ∀ zt, Steps p.tables e below (T13.setTop (mkF m 22 #[.val (.ref r)] [(.ref b)])) zt → Steps p.tables e below (s₁.setTop (entryFrame m #[(.ref r)] 1)) zt := by
    intro zt zk
    refine R12 zt ?_
    show Steps p.tables e below (T11.setTop (mkF m 19 #[.val (.ref r)] [(.ref q), (.ref b), (.ref b)])) _
    refine st13.trans ?_
    exact zk
  have gb : b = h0.size := g1
  obtain ⟨fs, hr, hrun, hended, hRE⟩ := Jvm.Stand.leaveW (s := s) (vm₁ := T3.vm) X13 Sc3 GS (v := some (.ref b)) (fun h => by rw [Bd.returns] at h; cases h)
  refine ⟨_, _, R14 _ ?_, hrun, hended, _, _, rfl, ?_, hRE.1, hRE.2.1, hRE.2.2.1, hRE.2.2.2.mono (by decide) (by decide)⟩
  · exact retOut X13 hx Bd.returns rfl (Or.inr (Or.inr (Or.inr (Or.inr ⟨rfl, rfl, rfl⟩)))) (hb hby d1_22) hr
  · show Q1 Z r kc nn vs h0 n0 _ T13.heap _
    exact ⟨(by rw [gb]), N13, q, sz0_q, gb ▸ ne_b_q.symm, KP, gb ▸ E_b, gb ▸ F_bytes_b, V_q, E_q⟩
theorem ef0 (m : MethodId) (x0 : Int32) (x1 : Int32) (x2 : Int32) (x3 : Int32) : entryFrame m #[(.int x0), (.int x1), (.int x2), (.int x3)] maxLocals = mkF m 0 #[.val (.int x0), .val (.int x1), .val (.int x2), .val (.int x3), .unset, .unset, .unset, .unset, .unset, .unset, .unset, .unset, .unset] [] := by first | (simp [entryFrame, mkF, argsToLocals, Value.category, maxLocals]; done) | rfl
theorem pn_2 : plainName "com/example/key_ranges/keyranges/ByteStringCopyOfPinLaw" = true := by first | (simp [plainName, overriddenIn]; done) | decide +kernel
theorem pd_2 : parseMethodDescriptor "([B)Lcom/example/key_ranges/keyranges/ByteString;" = some ⟨[(.array .byte)], some (.object "com/example/key_ranges/keyranges/ByteString")⟩ := by decide +kernel
theorem pd_3 : parseMethodDescriptor "()I" = some ⟨[], some .int⟩ := by decide +kernel
theorem pd_4 : parseMethodDescriptor "()[B" = some ⟨[], some (.array .byte)⟩ := by decide +kernel
def Q0 (Z : State) (p0 : Int32) (p1 : Int32) (p2 : Int32) (p3 : Int32) (h0 : Heap) (n0 : Nat) (v : Option Value) (h : Heap) (L : List Loc) : Prop := v = some (.int (1 : Int32)) ∧ Fr n0 L
set_option maxRecDepth 65536 in
set_option maxHeartbeats 40000000 in
theorem rm0 (l : Launch) (Z : State) (a0 : Array Value) (hw : ∀ d ∈ tables_1, d.before a0 Z = true) (ws : List Jvm.Cond) (p0 : Int32) (p1 : Int32) (p2 : Int32) (p3 : Int32) (h0 : Heap) (n0 : Nat) (Z0 : n0 ≤ h0.size)  :
    MetFree l x (head1 (Jvm.Cond.code x code maxLocals ret :: ws) room_1) (fun zza zzU => zza = #[(.int p0), (.int p1), (.int p2), (.int p3)] ∧ Z.Warmed39 zzU.vm ∧ zzU.heap = h0) (fun _ _ _ _ _ => True) (fun _ zzU zzo zzV => ∃ zzv zzL, zzo = .returned zzv ∧ Q0 Z p0 p1 p2 p3 h0 n0 zzv zzV.heap zzL ∧ ReturnedEndW zzU zzo zzV zzL 24 1152) := by
  refine MetFree.of_bodySF (plainFor_of_name pn_2) hisR ?_
  intro p e s m args below meth c s₁ Bd hml0 hP hK
  obtain ⟨rfl, hZ, hh⟩ := hP
  have hx := Bd.exec
  have hby := Bd.bytes
  have hml : c.maxLocals = 13 := hml0
  have hown : s.vm.findClass "com/example/key_ranges/keyranges/ByteStringCopyOfPinLaw" = some m.cls := findClass_of_methodNamed Bd.named
  have hnm := (name_of_methodNamed Bd.named Bd.method).1
  have X0 : Stand p l e room_1 s m #[(.int p0), (.int p1), (.int p2), (.int p3)] below meth c s₁ [] 0 0 := Stand.of_body Bd
  have e0 : s₁.heap = h0 := by rw [← hh, Bd.state]; rfl
  have N0 := Fr.nil n0
  have R0 : ∀ zt, Steps p.tables e below (s₁.setTop (mkF m 0 #[.val (.int p0), .val (.int p1), .val (.int p2), .val (.int p3), .unset, .unset, .unset, .unset, .unset, .unset, .unset, .unset, .unset] [])) zt → Steps p.tables e below (s₁.setTop (entryFrame m #[(.int p0), (.int p1), (.int p2), (.int p3)] maxLocals)) zt := fun zt zk => castTop (ef0 m p0 p1 p2 p3) zk
  have R1 : ∀ zt, Steps p.tables e below (s₁.setTop (mkF m 19 #[.val (.int p0), .val (.int p1), .val (.int p2), .val (.int p3), .val (.int (p0 &&& (3 : Int32))), .val (.int ((p1).toInt8.toInt32)), .val (.int ((p2).toInt8.toInt32)), .val (.int ((p3).toInt8.toInt32)), .unset, .unset, .unset, .unset, .unset] [(.int (p0 &&& (3 : Int32)))])) zt → Steps p.tables e below (s₁.setTop (entryFrame m #[(.int p0), (.int p1), (.int p2), (.int p3)] maxLocals)) zt := by
    intro zt zk
    refine R0 zt ?_
    show Steps p.tables e below (s₁.setTop (mkF m 0 #[.val (.int p0), .val (.int p1), .val (.int p2), .val (.int p3), .unset, .unset, .unset, .unset, .unset, .unset, .unset, .unset, .unset] [])) _
    refine XS.iloadN X0.here hx rfl (hb hby at_0) rfl ?_
    show Steps p.tables e below (s₁.setTop (mkF m 1 #[.val (.int p0), .val (.int p1), .val (.int p2), .val (.int p3), .unset, .unset, .unset, .unset, .unset, .unset, .unset, .unset, .unset] [(.int p0)])) _
    refine XS.iconst X0.here hx rfl (hb hby at_1) ?_
    show Steps p.tables e below (s₁.setTop (mkF m 2 #[.val (.int p0), .val (.int p1), .val (.int p2), .val (.int p3), .unset, .unset, .unset, .unset, .unset, .unset, .unset, .unset, .unset] [(.int (3 : Int32)), (.int p0)])) _
    refine XS.iand X0.here hx rfl (hb hby at_2) rfl ?_
    show Steps p.tables e below (s₁.setTop (mkF m 3 #[.val (.int p0), .val (.int p1), .val (.int p2), .val (.int p3), .unset, .unset, .unset, .unset, .unset, .unset, .unset, .unset, .unset] [(.int (p0 &&& (3 : Int32)))])) _
    refine XS.istore X0.here hx rfl (hb hby at_3) rfl (l' := #[.val (.int p0), .val (.int p1), .val (.int p2), .val (.int p3), .val (.int (p0 &&& (3 : Int32))), .unset, .unset, .unset, .unset, .unset, .unset, .unset, .unset]) rfl ?_
    show Steps p.tables e below (s₁.setTop (mkF m 5 #[.val (.int p0), .val (.int p1), .val (.int p2), .val (.int p3), .val (.int (p0 &&& (3 : Int32))), .unset, .unset, .unset, .unset, .unset, .unset, .unset, .unset] [])) _
    refine XS.iloadN X0.here hx rfl (hb hby at_5) rfl ?_
    show Steps p.tables e below (s₁.setTop (mkF m 6 #[.val (.int p0), .val (.int p1), .val (.int p2), .val (.int p3), .val (.int (p0 &&& (3 : Int32))), .unset, .unset, .unset, .unset, .unset, .unset, .unset, .unset] [(.int p1)])) _
    refine XS.i2b X0.here hx rfl (hb hby at_6) rfl ?_
    show Steps p.tables e below (s₁.setTop (mkF m 7 #[.val (.int p0), .val (.int p1), .val (.int p2), .val (.int p3), .val (.int (p0 &&& (3 : Int32))), .unset, .unset, .unset, .unset, .unset, .unset, .unset, .unset] [(.int ((p1).toInt8.toInt32))])) _
    refine XS.istore X0.here hx rfl (hb hby at_7) rfl (l' := #[.val (.int p0), .val (.int p1), .val (.int p2), .val (.int p3), .val (.int (p0 &&& (3 : Int32))), .val (.int ((p1).toInt8.toInt32)), .unset, .unset, .unset, .unset, .unset, .unset, .unset]) rfl ?_
    show Steps p.tables e below (s₁.setTop (mkF m 9 #[.val (.int p0), .val (.int p1), .val (.int p2), .val (.int p3), .val (.int (p0 &&& (3 : Int32))), .val (.int ((p1).toInt8.toInt32)), .unset, .unset, .unset, .unset, .unset, .unset, .unset] [])) _
    refine XS.iloadN X0.here hx rfl (hb hby at_9) rfl ?_
    show Steps p.tables e below (s₁.setTop (mkF m 10 #[.val (.int p0), .val (.int p1), .val (.int p2), .val (.int p3), .val (.int (p0 &&& (3 : Int32))), .val (.int ((p1).toInt8.toInt32)), .unset, .unset, .unset, .unset, .unset, .unset, .unset] [(.int p2)])) _
    refine XS.i2b X0.here hx rfl (hb hby at_10) rfl ?_
    show Steps p.tables e below (s₁.setTop (mkF m 11 #[.val (.int p0), .val (.int p1), .val (.int p2), .val (.int p3), .val (.int (p0 &&& (3 : Int32))), .val (.int ((p1).toInt8.toInt32)), .unset, .unset, .unset, .unset, .unset, .unset, .unset] [(.int ((p2).toInt8.toInt32))])) _
    refine XS.istore X0.here hx rfl (hb hby at_11) rfl (l' := #[.val (.int p0), .val (.int p1), .val (.int p2), .val (.int p3), .val (.int (p0 &&& (3 : Int32))), .val (.int ((p1).toInt8.toInt32)), .val (.int ((p2).toInt8.toInt32)), .unset, .unset, .unset, .unset, .unset, .unset]) rfl ?_
    show Steps p.tables e below (s₁.setTop (mkF m 13 #[.val (.int p0), .val (.int p1), .val (.int p2), .val (.int p3), .val (.int (p0 &&& (3 : Int32))), .val (.int ((p1).toInt8.toInt32)), .val (.int ((p2).toInt8.toInt32)), .unset, .unset, .unset, .unset, .unset, .unset] [])) _
    refine XS.iloadN X0.here hx rfl (hb hby at_13) rfl ?_
    show Steps p.tables e below (s₁.setTop (mkF m 14 #[.val (.int p0), .val (.int p1), .val (.int p2), .val (.int p3), .val (.int (p0 &&& (3 : Int32))), .val (.int ((p1).toInt8.toInt32)), .val (.int ((p2).toInt8.toInt32)), .unset, .unset, .unset, .unset, .unset, .unset] [(.int p3)])) _
    refine XS.i2b X0.here hx rfl (hb hby at_14) rfl ?_
    show Steps p.tables e below (s₁.setTop (mkF m 15 #[.val (.int p0), .val (.int p1), .val (.int p2), .val (.int p3), .val (.int (p0 &&& (3 : Int32))), .val (.int ((p1).toInt8.toInt32)), .val (.int ((p2).toInt8.toInt32)), .unset, .unset, .unset, .unset, .unset, .unset] [(.int ((p3).toInt8.toInt32))])) _
    refine XS.istore X0.here hx rfl (hb hby at_15) rfl (l' := #[.val (.int p0), .val (.int p1), .val (.int p2), .val (.int p3), .val (.int (p0 &&& (3 : Int32))), .val (.int ((p1).toInt8.toInt32)), .val (.int ((p2).toInt8.toInt32)), .val (.int ((p3).toInt8.toInt32)), .unset, .unset, .unset, .unset, .unset]) rfl ?_
    show Steps p.tables e below (s₁.setTop (mkF m 17 #[.val (.int p0), .val (.int p1), .val (.int p2), .val (.int p3), .val (.int (p0 &&& (3 : Int32))), .val (.int ((p1).toInt8.toInt32)), .val (.int ((p2).toInt8.toInt32)), .val (.int ((p3).toInt8.toInt32)), .unset, .unset, .unset, .unset, .unset] [])) _
    refine XS.iload X0.here hx rfl (hb hby at_17) rfl ?_
    exact zk
  rcases (own_m3 p0) with hv2 | hv2 | hv2 | hv2
  ·
    rw [hv2] at R1
    obtain ⟨T3, h3, k3, X3, e3, E3, A3, AE3, st3⟩ := newPE X0 hx hZ (hw _ (List.mem_of_getElem? (i := 0) rfl)) e0 (g := (mkF m 19 #[.val (.int p0), .val (.int p1), .val (.int p2), .val (.int p3), .val (.int (0 : Int32)), .val (.int ((p1).toInt8.toInt32)), .val (.int ((p2).toInt8.toInt32)), .val (.int ((p3).toInt8.toInt32)), .unset, .unset, .unset, .unset, .unset] [(.int (0 : Int32))])) rfl (hb hby at_19) rfl (by decide) (cap := 0) (by decide) (by decide) (by decide) (by decide) (ad := "[B") (by decide)
    obtain ⟨r, g3⟩ : ∃ z, z = h0.size := ⟨_, rfl⟩
    rw [← g3] at A3 st3 AE3
    have ge_r : n0 ≤ r := by rw [g3]; exact Z0
    have Sz3 := Nat.le_trans Z0 E3.1
    have V_r : Arv Z h3 r k3 .byte (0 : Int32) [] (.int (0 : Int32)) := (Arv.new A3 (by decide)).pad (pad_rep [] (.int (0 : Int32)) 0)
    have E_r := AE3
    have R4 : ∀ zt, Steps p.tables e below (T3.setTop (mkF m 60 #[.val (.int p0), .val (.int p1), .val (.int p2), .val (.int p3), .val (.int (0 : Int32)), .val (.int ((p1).toInt8.toInt32)), .val (.int ((p2).toInt8.toInt32)), .val (.int ((p3).toInt8.toInt32)), .val (.ref r), .unset, .unset, .unset, .unset] [(.ref r)])) zt → Steps p.tables e below (s₁.setTop (entryFrame m #[(.int p0), (.int p1), (.int p2), (.int p3)] maxLocals)) zt := by
      intro zt zk
      refine R1 zt ?_
      show Steps p.tables e below (s₁.setTop (mkF m 19 #[.val (.int p0), .val (.int p1), .val (.int p2), .val (.int p3), .val (.int (0 : Int32)), .val (.int ((p1).toInt8.toInt32)), .val (.int ((p2).toInt8.toInt32)), .val (.int ((p3).toInt8.toInt32)), .unset, .unset, .unset, .unset, .unset] [(.int (0 : Int32))])) _
      refine st3 _ ?_
      show Steps p.tables e below (T3.setTop (mkF m 21 #[.val (.int p0), .val (.int p1), .val (.int p2), .val (.int p3), .val (.int (0 : Int32)), .val (.int ((p1).toInt8.toInt32)), .val (.int ((p2).toInt8.toInt32)), .val (.int ((p3).toInt8.toInt32)), .unset, .unset, .unset, .unset, .unset] [(.ref r)])) _
      refine XS.astore X3.here hx rfl (hb hby at_21) rfl rfl (l' := #[.val (.int p0), .val (.int p1), .val (.int p2), .val (.int p3), .val (.int (0 : Int32)), .val (.int ((p1).toInt8.toInt32)), .val (.int ((p2).toInt8.toInt32)), .val (.int ((p3).toInt8.toInt32)), .val (.ref r), .unset, .unset, .unset, .unset]) rfl ?_
      show Steps p.tables e below (T3.setTop (mkF m 23 #[.val (.int p0), .val (.int p1), .val (.int p2), .val (.int p3), .val (.int (0 : Int32)), .val (.int ((p1).toInt8.toInt32)), .val (.int ((p2).toInt8.toInt32)), .val (.int ((p3).toInt8.toInt32)), .val (.ref r), .unset, .unset, .unset, .unset] [])) _
      refine XS.iload X3.here hx rfl (hb hby at_23) rfl ?_
      show Steps p.tables e below (T3.setTop (mkF m 25 #[.val (.int p0), .val (.int p1), .val (.int p2), .val (.int p3), .val (.int (0 : Int32)), .val (.int ((p1).toInt8.toInt32)), .val (.int ((p2).toInt8.toInt32)), .val (.int ((p3).toInt8.toInt32)), .val (.ref r), .unset, .unset, .unset, .unset] [(.int (0 : Int32))])) _
      refine XS.ifYes X3.here hx rfl (pc0 := 25) (pc' := 34) rfl (hb hby at_25) rfl ((if0 _ _).trans (flt (by decide)).2.2.2) (by decide) (by decide) ?_
      show Steps p.tables e below (T3.setTop (mkF m 34 #[.val (.int p0), .val (.int p1), .val (.int p2), .val (.int p3), .val (.int (0 : Int32)), .val (.int ((p1).toInt8.toInt32)), .val (.int ((p2).toInt8.toInt32)), .val (.int ((p3).toInt8.toInt32)), .val (.ref r), .unset, .unset, .unset, .unset] [])) _
      refine XS.iload X3.here hx rfl (hb hby at_34) rfl ?_
      show Steps p.tables e below (T3.setTop (mkF m 36 #[.val (.int p0), .val (.int p1), .val (.int p2), .val (.int p3), .val (.int (0 : Int32)), .val (.int ((p1).toInt8.toInt32)), .val (.int ((p2).toInt8.toInt32)), .val (.int ((p3).toInt8.toInt32)), .val (.ref r), .unset, .unset, .unset, .unset] [(.int (0 : Int32))])) _
      refine XS.iconst X3.here hx rfl (hb hby at_36) ?_
      show Steps p.tables e below (T3.setTop (mkF m 37 #[.val (.int p0), .val (.int p1), .val (.int p2), .val (.int p3), .val (.int (0 : Int32)), .val (.int ((p1).toInt8.toInt32)), .val (.int ((p2).toInt8.toInt32)), .val (.int ((p3).toInt8.toInt32)), .val (.ref r), .unset, .unset, .unset, .unset] [(.int (1 : Int32)), (.int (0 : Int32))])) _
      refine XS.icmpYes X3.here hx rfl (pc0 := 37) (pc' := 46) rfl (hb hby at_37) rfl (flt (by decide)).2.2.2 (by decide) (by decide) ?_
      show Steps p.tables e below (T3.setTop (mkF m 46 #[.val (.int p0), .val (.int p1), .val (.int p2), .val (.int p3), .val (.int (0 : Int32)), .val (.int ((p1).toInt8.toInt32)), .val (.int ((p2).toInt8.toInt32)), .val (.int ((p3).toInt8.toInt32)), .val (.ref r), .unset, .unset, .unset, .unset] [])) _
      refine XS.iload X3.here hx rfl (hb hby at_46) rfl ?_
      show Steps p.tables e below (T3.setTop (mkF m 48 #[.val (.int p0), .val (.int p1), .val (.int p2), .val (.int p3), .val (.int (0 : Int32)), .val (.int ((p1).toInt8.toInt32)), .val (.int ((p2).toInt8.toInt32)), .val (.int ((p3).toInt8.toInt32)), .val (.ref r), .unset, .unset, .unset, .unset] [(.int (0 : Int32))])) _
      refine XS.iconst X3.here hx rfl (hb hby at_48) ?_
      show Steps p.tables e below (T3.setTop (mkF m 49 #[.val (.int p0), .val (.int p1), .val (.int p2), .val (.int p3), .val (.int (0 : Int32)), .val (.int ((p1).toInt8.toInt32)), .val (.int ((p2).toInt8.toInt32)), .val (.int ((p3).toInt8.toInt32)), .val (.ref r), .unset, .unset, .unset, .unset] [(.int (2 : Int32)), (.int (0 : Int32))])) _
      refine XS.icmpYes X3.here hx rfl (pc0 := 49) (pc' := 58) rfl (hb hby at_49) rfl (flt (by decide)).2.2.2 (by decide) (by decide) ?_
      show Steps p.tables e below (T3.setTop (mkF m 58 #[.val (.int p0), .val (.int p1), .val (.int p2), .val (.int p3), .val (.int (0 : Int32)), .val (.int ((p1).toInt8.toInt32)), .val (.int ((p2).toInt8.toInt32)), .val (.int ((p3).toInt8.toInt32)), .val (.ref r), .unset, .unset, .unset, .unset] [])) _
      refine XS.aload X3.here hx rfl (hb hby at_58) rfl rfl ?_
      exact zk
    have lt_r := V_r.lt
    obtain ⟨_, _, ⟨T5, L5, k5, n5⟩, -, X5, Sc5, gr5, ⟨Lc5, hQ5, l5, y5, z5⟩, st5⟩ := callSS X3 hx (y := (⟨"com/example/key_ranges/keyranges/ByteString", "copyOf", "([B)Lcom/example/key_ranges/keyranges/ByteString;"⟩ : MethodName)) hown (mvT hZ (hw _ (List.mem_of_getElem? (i := 1) rfl))) (mvT hZ (hw _ (List.mem_of_getElem? (i := 2) rfl))) (mvT hZ (hw _ (List.mem_of_getElem? (i := 3) rfl))) (mvT hZ (hw _ (List.mem_of_getElem? (i := 4) rfl))) (by decide) (backOfS (W := 0) (rm1 l Z a0 hw [] r k3 (0 : Int32) [] h3 n0 Sz3 V_r E_r (by decide)) hZ (hw _ (List.mem_of_getElem? (i := 4) rfl)) (hw _ (List.mem_of_getElem? (i := 3) rfl)) (by decide) (by decide)) (g := (mkF m 60 #[.val (.int p0), .val (.int p1), .val (.int p2), .val (.int p3), .val (.int (0 : Int32)), .val (.int ((p1).toInt8.toInt32)), .val (.int ((p2).toInt8.toInt32)), .val (.int ((p3).toInt8.toInt32)), .val (.ref r), .unset, .unset, .unset, .unset] [(.ref r)])) rfl (by rw [hml]; rfl) (argsL := [(.ref r)]) (rest := []) (lenOf pd_2 rfl) rfl (by show 2 * 0 + _ ≤ _; exact Nat.le_of_eq rfl) (hb hby at_60) (fun _ _ => ⟨rfl, e3, (by decide : 1 + 4 ≤ _), (by decide : 0 + 28 ≤ _)⟩)
    dsimp only [Pt.U, Pt.locs, Pt.cells, Pt.slots] at X5 l5 y5 z5 st5 hQ5 Sc5 gr5
    rw [y5, z5] at X5
    have X5 : Stand p l e room_1 (s.setVm T5.vm) m #[(.int p0), (.int p1), (.int p2), (.int p3)] below meth c T5 L5 5 28 := X5
    obtain ⟨rfl, Nq5, ⟨q, qsz, qne, K5, E_w, F_bytes_w, V_q, E_q⟩⟩ := hQ5
    have N5 : Fr n0 L5 := by rw [l5]; exact Fr.app N0 Nq5
    clear l5 y5 z5
    have hZ : Z.Warmed39 (s.setVm T5.vm).vm := State.Warmed39.trans hZ Sc5.1
    have hown : (s.setVm T5.vm).vm.findClass "com/example/key_ranges/keyranges/ByteStringCopyOfPinLaw" = some m.cls := (Sc5.1.alike.findClass _ _).trans hown
    have GS : T5.heap.size ≤ T5.heap.size := Nat.le_refl _
    have Sz5 := Nat.le_trans Sz3 K5.1
    have V_r := V_r.keep K5 nin0
    have E_r := E_r.keep K5
    obtain ⟨w, gw⟩ : ∃ z, z = h3.size := ⟨_, rfl⟩
    rw [← gw] at E_w F_bytes_w qne qsz st5
    have ne_r_w : r ≠ w := Nat.ne_of_lt (gw ▸ lt_r)
    have ne_r_q : r ≠ q := Nat.ne_of_lt (Nat.lt_of_lt_of_le (gw ▸ lt_r) qsz)
    have R6 : ∀ zt, Steps p.tables e below (T5.setTop (mkF m 111 #[.val (.int p0), .val (.int p1), .val (.int p2), .val (.int p3), .val (.int (0 : Int32)), .val (.int ((p1).toInt8.toInt32)), .val (.int ((p2).toInt8.toInt32)), .val (.int ((p3).toInt8.toInt32)), .val (.ref r), .val (.ref w), .unset, .unset, .unset] [(.ref w)])) zt → Steps p.tables e below (s₁.setTop (entryFrame m #[(.int p0), (.int p1), (.int p2), (.int p3)] maxLocals)) zt := by
      intro zt zk
      refine R4 zt ?_
      show Steps p.tables e below (T3.setTop (mkF m 60 #[.val (.int p0), .val (.int p1), .val (.int p2), .val (.int p3), .val (.int (0 : Int32)), .val (.int ((p1).toInt8.toInt32)), .val (.int ((p2).toInt8.toInt32)), .val (.int ((p3).toInt8.toInt32)), .val (.ref r), .unset, .unset, .unset, .unset] [(.ref r)])) _
      refine st5.trans ?_
      show Steps p.tables e below (T5.setTop (mkF m 63 #[.val (.int p0), .val (.int p1), .val (.int p2), .val (.int p3), .val (.int (0 : Int32)), .val (.int ((p1).toInt8.toInt32)), .val (.int ((p2).toInt8.toInt32)), .val (.int ((p3).toInt8.toInt32)), .val (.ref r), .unset, .unset, .unset, .unset] [(.ref w)])) _
      refine XS.astore X5.here hx rfl (hb hby at_63) rfl rfl (l' := #[.val (.int p0), .val (.int p1), .val (.int p2), .val (.int p3), .val (.int (0 : Int32)), .val (.int ((p1).toInt8.toInt32)), .val (.int ((p2).toInt8.toInt32)), .val (.int ((p3).toInt8.toInt32)), .val (.ref r), .val (.ref w), .unset, .unset, .unset]) rfl ?_
      show Steps p.tables e below (T5.setTop (mkF m 65 #[.val (.int p0), .val (.int p1), .val (.int p2), .val (.int p3), .val (.int (0 : Int32)), .val (.int ((p1).toInt8.toInt32)), .val (.int ((p2).toInt8.toInt32)), .val (.int ((p3).toInt8.toInt32)), .val (.ref r), .val (.ref w), .unset, .unset, .unset] [])) _
      refine XS.iload X5.here hx rfl (hb hby at_65) rfl ?_
      show Steps p.tables e below (T5.setTop (mkF m 67 #[.val (.int p0), .val (.int p1), .val (.int p2), .val (.int p3), .val (.int (0 : Int32)), .val (.int ((p1).toInt8.toInt32)), .val (.int ((p2).toInt8.toInt32)), .val (.int ((p3).toInt8.toInt32)), .val (.ref r), .val (.ref w), .unset, .unset, .unset] [(.int (0 : Int32))])) _
      refine XS.ifYes X5.here hx rfl (pc0 := 67) (pc' := 79) rfl (hb hby at_67) rfl ((if0 _ _).trans (flt (by decide)).2.2.2) (by decide) (by decide) ?_
      show Steps p.tables e below (T5.setTop (mkF m 79 #[.val (.int p0), .val (.int p1), .val (.int p2), .val (.int p3), .val (.int (0 : Int32)), .val (.int ((p1).toInt8.toInt32)), .val (.int ((p2).toInt8.toInt32)), .val (.int ((p3).toInt8.toInt32)), .val (.ref r), .val (.ref w), .unset, .unset, .unset] [])) _
      refine XS.iload X5.here hx rfl (hb hby at_79) rfl ?_
      show Steps p.tables e below (T5.setTop (mkF m 81 #[.val (.int p0), .val (.int p1), .val (.int p2), .val (.int p3), .val (.int (0 : Int32)), .val (.int ((p1).toInt8.toInt32)), .val (.int ((p2).toInt8.toInt32)), .val (.int ((p3).toInt8.toInt32)), .val (.ref r), .val (.ref w), .unset, .unset, .unset] [(.int (0 : Int32))])) _
      refine XS.iconst X5.here hx rfl (hb hby at_81) ?_
      show Steps p.tables e below (T5.setTop (mkF m 82 #[.val (.int p0), .val (.int p1), .val (.int p2), .val (.int p3), .val (.int (0 : Int32)), .val (.int ((p1).toInt8.toInt32)), .val (.int ((p2).toInt8.toInt32)), .val (.int ((p3).toInt8.toInt32)), .val (.ref r), .val (.ref w), .unset, .unset, .unset] [(.int (1 : Int32)), (.int (0 : Int32))])) _
      refine XS.icmpYes X5.here hx rfl (pc0 := 82) (pc' := 94) rfl (hb hby at_82) rfl (flt (by decide)).2.2.2 (by decide) (by decide) ?_
      show Steps p.tables e below (T5.setTop (mkF m 94 #[.val (.int p0), .val (.int p1), .val (.int p2), .val (.int p3), .val (.int (0 : Int32)), .val (.int ((p1).toInt8.toInt32)), .val (.int ((p2).toInt8.toInt32)), .val (.int ((p3).toInt8.toInt32)), .val (.ref r), .val (.ref w), .unset, .unset, .unset] [])) _
      refine XS.iload X5.here hx rfl (hb hby at_94) rfl ?_
      show Steps p.tables e below (T5.setTop (mkF m 96 #[.val (.int p0), .val (.int p1), .val (.int p2), .val (.int p3), .val (.int (0 : Int32)), .val (.int ((p1).toInt8.toInt32)), .val (.int ((p2).toInt8.toInt32)), .val (.int ((p3).toInt8.toInt32)), .val (.ref r), .val (.ref w), .unset, .unset, .unset] [(.int (0 : Int32))])) _
      refine XS.iconst X5.here hx rfl (hb hby at_96) ?_
      show Steps p.tables e below (T5.setTop (mkF m 97 #[.val (.int p0), .val (.int p1), .val (.int p2), .val (.int p3), .val (.int (0 : Int32)), .val (.int ((p1).toInt8.toInt32)), .val (.int ((p2).toInt8.toInt32)), .val (.int ((p3).toInt8.toInt32)), .val (.ref r), .val (.ref w), .unset, .unset, .unset] [(.int (2 : Int32)), (.int (0 : Int32))])) _
      refine XS.icmpYes X5.here hx rfl (pc0 := 97) (pc' := 109) rfl (hb hby at_97) rfl (flt (by decide)).2.2.2 (by decide) (by decide) ?_
      show Steps p.tables e below (T5.setTop (mkF m 109 #[.val (.int p0), .val (.int p1), .val (.int p2), .val (.int p3), .val (.int (0 : Int32)), .val (.int ((p1).toInt8.toInt32)), .val (.int ((p2).toInt8.toInt32)), .val (.int ((p3).toInt8.toInt32)), .val (.ref r), .val (.ref w), .unset, .unset, .unset] [])) _
      refine XS.aload X5.here hx rfl (hb hby at_109) rfl rfl ?_
      exact zk
    obtain ⟨cq7, kq7, q7a, q7b, q7c⟩ := isOf hZ rfl E_w
    obtain ⟨_, _, ⟨T7, L7, k7, n7⟩, -, X7, ⟨Lc7, hQ7, l7, y7, z7⟩, st7⟩ := X5.virtualBack hx (y := (⟨"com/example/key_ranges/keyranges/ByteString", "size", "()I"⟩ : MethodName)) (z := (⟨"com/example/key_ranges/keyranges/ByteString", "size", "()I"⟩ : MethodName)) hown (mvT hZ (hw _ (List.mem_of_getElem? (i := 35) rfl))) (mvT hZ (hw _ (List.mem_of_getElem? (i := 36) rfl))) (notFace_of_selects (args := #[]) (mvT hZ (hw _ (List.mem_of_getElem? (i := 38) rfl)))) (mvT hZ (hw _ (List.mem_of_getElem? (i := 38) rfl))) (mvT hZ (hw _ (List.mem_of_getElem? (i := 37) rfl))) (by decide) (backOf (W := 0) (rm5 l Z a0 hw [] w q k3 (0 : Int32) [] T5.heap n0 Sz5 F_bytes_w V_q) hZ (hw _ (List.mem_of_getElem? (i := 39) rfl)) (hw _ (List.mem_of_getElem? (i := 3) rfl)) (by decide) (by decide)) q7a q7c (g := (mkF m 111 #[.val (.int p0), .val (.int p1), .val (.int p2), .val (.int p3), .val (.int (0 : Int32)), .val (.int ((p1).toInt8.toInt32)), .val (.int ((p2).toInt8.toInt32)), .val (.int ((p3).toInt8.toInt32)), .val (.ref r), .val (.ref w), .unset, .unset, .unset] [(.ref w)])) rfl (by rw [hml]; rfl) (Steps.refl _) (argsL := []) (rest := []) (lenOf pd_3 rfl) rfl (by show 2 * 0 + _ ≤ _; exact Nat.le_of_eq rfl) (hb hby at_111) (fun _ _ => ⟨rfl, rfl, (by decide : 5 + 0 ≤ _), (by decide : 28 + 0 ≤ _)⟩)
    dsimp only [Pt.U, Pt.locs, Pt.cells, Pt.slots] at X7 l7 y7 z7 st7 hQ7
    rw [y7, z7] at X7
    have X7 : Stand p l e room_1 (s.setVm T5.vm) m #[(.int p0), (.int p1), (.int p2), (.int p3)] below meth c T7 L7 5 28 := X7
    obtain ⟨rfl, Nq7, eq7⟩ := hQ7
    have N7 : Fr n0 L7 := by rw [l7]; exact Fr.app N5 Nq7
    clear l7 y7 z7
    have e7 : T7.heap = T5.heap := eq7
    have R8 : ∀ zt, Steps p.tables e below (T7.setTop (mkF m 118 #[.val (.int p0), .val (.int p1), .val (.int p2), .val (.int p3), .val (.int (0 : Int32)), .val (.int ((p1).toInt8.toInt32)), .val (.int ((p2).toInt8.toInt32)), .val (.int ((p3).toInt8.toInt32)), .val (.ref r), .val (.ref w), .val (.int (0 : Int32)), .unset, .unset] [(.ref w)])) zt → Steps p.tables e below (s₁.setTop (entryFrame m #[(.int p0), (.int p1), (.int p2), (.int p3)] maxLocals)) zt := by
      intro zt zk
      refine R6 zt ?_
      show Steps p.tables e below (T5.setTop (mkF m 111 #[.val (.int p0), .val (.int p1), .val (.int p2), .val (.int p3), .val (.int (0 : Int32)), .val (.int ((p1).toInt8.toInt32)), .val (.int ((p2).toInt8.toInt32)), .val (.int ((p3).toInt8.toInt32)), .val (.ref r), .val (.ref w), .unset, .unset, .unset] [(.ref w)])) _
      refine st7.trans ?_
      show Steps p.tables e below (T7.setTop (mkF m 114 #[.val (.int p0), .val (.int p1), .val (.int p2), .val (.int p3), .val (.int (0 : Int32)), .val (.int ((p1).toInt8.toInt32)), .val (.int ((p2).toInt8.toInt32)), .val (.int ((p3).toInt8.toInt32)), .val (.ref r), .val (.ref w), .unset, .unset, .unset] [(.int (0 : Int32))])) _
      refine XS.istore X7.here hx rfl (hb hby at_114) rfl (l' := #[.val (.int p0), .val (.int p1), .val (.int p2), .val (.int p3), .val (.int (0 : Int32)), .val (.int ((p1).toInt8.toInt32)), .val (.int ((p2).toInt8.toInt32)), .val (.int ((p3).toInt8.toInt32)), .val (.ref r), .val (.ref w), .val (.int (0 : Int32)), .unset, .unset]) rfl ?_
      show Steps p.tables e below (T7.setTop (mkF m 116 #[.val (.int p0), .val (.int p1), .val (.int p2), .val (.int p3), .val (.int (0 : Int32)), .val (.int ((p1).toInt8.toInt32)), .val (.int ((p2).toInt8.toInt32)), .val (.int ((p3).toInt8.toInt32)), .val (.ref r), .val (.ref w), .val (.int (0 : Int32)), .unset, .unset] [])) _
      refine XS.aload X7.here hx rfl (hb hby at_116) rfl rfl ?_
      exact zk
    obtain ⟨cq9, kq9, q9a, q9b, q9c⟩ := isOf hZ e7 E_w
    obtain ⟨_, _, ⟨T9, L9, k9, n9⟩, -, X9, ⟨Lc9, hQ9, l9, y9, z9⟩, st9⟩ := X7.virtualBack hx (y := (⟨"com/example/key_ranges/keyranges/ByteString", "toByteArray", "()[B"⟩ : MethodName)) (z := (⟨"com/example/key_ranges/keyranges/ByteString", "toByteArray", "()[B"⟩ : MethodName)) hown (mvT hZ (hw _ (List.mem_of_getElem? (i := 40) rfl))) (mvT hZ (hw _ (List.mem_of_getElem? (i := 41) rfl))) (notFace_of_selects (args := #[]) (mvT hZ (hw _ (List.mem_of_getElem? (i := 43) rfl)))) (mvT hZ (hw _ (List.mem_of_getElem? (i := 43) rfl))) (mvT hZ (hw _ (List.mem_of_getElem? (i := 42) rfl))) (by decide) (backOf (W := 0) (rm6 l Z a0 hw [] w q k3 (0 : Int32) [] T5.heap n0 Sz5 F_bytes_w V_q E_q (by decide)) hZ (hw _ (List.mem_of_getElem? (i := 44) rfl)) (hw _ (List.mem_of_getElem? (i := 3) rfl)) (by decide) (by decide)) q9a q9c (g := (mkF m 118 #[.val (.int p0), .val (.int p1), .val (.int p2), .val (.int p3), .val (.int (0 : Int32)), .val (.int ((p1).toInt8.toInt32)), .val (.int ((p2).toInt8.toInt32)), .val (.int ((p3).toInt8.toInt32)), .val (.ref r), .val (.ref w), .val (.int (0 : Int32)), .unset, .unset] [(.ref w)])) rfl (by rw [hml]; rfl) (Steps.refl _) (argsL := []) (rest := []) (lenOf pd_4 rfl) rfl (by show 2 * 0 + _ ≤ _; exact Nat.le_of_eq rfl) (hb hby at_118) (fun _ _ => ⟨rfl, e7, (by decide : 5 + 1 ≤ _), (by decide : 28 + 3 ≤ _)⟩)
    dsimp only [Pt.U, Pt.locs, Pt.cells, Pt.slots] at X9 l9 y9 z9 st9 hQ9
    rw [y9, z9] at X9
    have X9 : Stand p l e room_1 (s.setVm T5.vm) m #[(.int p0), (.int p1), (.int p2), (.int p3)] below meth c T9 L9 6 31 := X9
    obtain ⟨rfl, Nq9, K9, V_o⟩ := hQ9
    have N9 : Fr n0 L9 := by rw [l9]; exact Fr.app N7 Nq9
    clear l9 y9 z9
    have Sz9 := Nat.le_trans Sz5 K9.1
    have V_r := V_r.keep K9 nin0
    have E_r := E_r.keep K9
    have GS := Nat.le_trans GS K9.1
    have E_w := E_w.keep K9
    have F_bytes_w := F_bytes_w.keep K9 nin0
    have V_q := V_q.keep K9 nin0
    have E_q := E_q.keep K9
    obtain ⟨o, go⟩ : ∃ z, z = T5.heap.size := ⟨_, rfl⟩
    rw [← go] at V_o st9
    have R10 : ∀ zt, Steps p.tables e below (T9.setTop (mkF m 132 #[.val (.int p0), .val (.int p1), .val (.int p2), .val (.int p3), .val (.int (0 : Int32)), .val (.int ((p1).toInt8.toInt32)), .val (.int ((p2).toInt8.toInt32)), .val (.int ((p3).toInt8.toInt32)), .val (.ref r), .val (.ref w), .val (.int (0 : Int32)), .val (.ref o), .unset] [(.ref o)])) zt → Steps p.tables e below (s₁.setTop (entryFrame m #[(.int p0), (.int p1), (.int p2), (.int p3)] maxLocals)) zt := by
      intro zt zk
      refine R8 zt ?_
      show Steps p.tables e below (T7.setTop (mkF m 118 #[.val (.int p0), .val (.int p1), .val (.int p2), .val (.int p3), .val (.int (0 : Int32)), .val (.int ((p1).toInt8.toInt32)), .val (.int ((p2).toInt8.toInt32)), .val (.int ((p3).toInt8.toInt32)), .val (.ref r), .val (.ref w), .val (.int (0 : Int32)), .unset, .unset] [(.ref w)])) _
      refine st9.trans ?_
      show Steps p.tables e below (T9.setTop (mkF m 121 #[.val (.int p0), .val (.int p1), .val (.int p2), .val (.int p3), .val (.int (0 : Int32)), .val (.int ((p1).toInt8.toInt32)), .val (.int ((p2).toInt8.toInt32)), .val (.int ((p3).toInt8.toInt32)), .val (.ref r), .val (.ref w), .val (.int (0 : Int32)), .unset, .unset] [(.ref o)])) _
      refine XS.astore X9.here hx rfl (hb hby at_121) rfl rfl (l' := #[.val (.int p0), .val (.int p1), .val (.int p2), .val (.int p3), .val (.int (0 : Int32)), .val (.int ((p1).toInt8.toInt32)), .val (.int ((p2).toInt8.toInt32)), .val (.int ((p3).toInt8.toInt32)), .val (.ref r), .val (.ref w), .val (.int (0 : Int32)), .val (.ref o), .unset]) rfl ?_
      show Steps p.tables e below (T9.setTop (mkF m 123 #[.val (.int p0), .val (.int p1), .val (.int p2), .val (.int p3), .val (.int (0 : Int32)), .val (.int ((p1).toInt8.toInt32)), .val (.int ((p2).toInt8.toInt32)), .val (.int ((p3).toInt8.toInt32)), .val (.ref r), .val (.ref w), .val (.int (0 : Int32)), .val (.ref o), .unset] [])) _
      refine XS.iload X9.here hx rfl (hb hby at_123) rfl ?_
      show Steps p.tables e below (T9.setTop (mkF m 125 #[.val (.int p0), .val (.int p1), .val (.int p2), .val (.int p3), .val (.int (0 : Int32)), .val (.int ((p1).toInt8.toInt32)), .val (.int ((p2).toInt8.toInt32)), .val (.int ((p3).toInt8.toInt32)), .val (.ref r), .val (.ref w), .val (.int (0 : Int32)), .val (.ref o), .unset] [(.int (0 : Int32))])) _
      refine XS.iload X9.here hx rfl (hb hby at_125) rfl ?_
      show Steps p.tables e below (T9.setTop (mkF m 127 #[.val (.int p0), .val (.int p1), .val (.int p2), .val (.int p3), .val (.int (0 : Int32)), .val (.int ((p1).toInt8.toInt32)), .val (.int ((p2).toInt8.toInt32)), .val (.int ((p3).toInt8.toInt32)), .val (.ref r), .val (.ref w), .val (.int (0 : Int32)), .val (.ref o), .unset] [(.int (0 : Int32)), (.int (0 : Int32))])) _
      refine XS.icmpNo X9.here hx rfl (hb hby at_127) rfl (teq (rfl : (0 : Int32) = (0 : Int32))).2 ?_
      show Steps p.tables e below (T9.setTop (mkF m 130 #[.val (.int p0), .val (.int p1), .val (.int p2), .val (.int p3), .val (.int (0 : Int32)), .val (.int ((p1).toInt8.toInt32)), .val (.int ((p2).toInt8.toInt32)), .val (.int ((p3).toInt8.toInt32)), .val (.ref r), .val (.ref w), .val (.int (0 : Int32)), .val (.ref o), .unset] [])) _
      refine XS.aload X9.here hx rfl (hb hby at_130) rfl rfl ?_
      exact zk
    obtain ⟨cl11, Ar11, Aq11, As11, An11, Ah11, Ag11⟩ := id V_o
    have R12 : ∀ zt, Steps p.tables e below (T9.setTop (mkF m 225 #[.val (.int p0), .val (.int p1), .val (.int p2), .val (.int p3), .val (.int (0 : Int32)), .val (.int ((p1).toInt8.toInt32)), .val (.int ((p2).toInt8.toInt32)), .val (.int ((p3).toInt8.toInt32)), .val (.ref r), .val (.ref w), .val (.int (0 : Int32)), .val (.ref o), .val (.int (1 : Int32))] [(.int (1 : Int32))])) zt → Steps p.tables e below (s₁.setTop (entryFrame m #[(.int p0), (.int p1), (.int p2), (.int p3)] maxLocals)) zt := by
      intro zt zk
      refine R10 zt ?_
      show Steps p.tables e below (T9.setTop (mkF m 132 #[.val (.int p0), .val (.int p1), .val (.int p2), .val (.int p3), .val (.int (0 : Int32)), .val (.int ((p1).toInt8.toInt32)), .val (.int ((p2).toInt8.toInt32)), .val (.int ((p3).toInt8.toInt32)), .val (.ref r), .val (.ref w), .val (.int (0 : Int32)), .val (.ref o), .unset] [(.ref o)])) _
      refine X9.arraylength hx Ar11.1 (State.isArrayOf_alike hZ.alike Ar11.2.1) (g := (mkF m 132 #[.val (.int p0), .val (.int p1), .val (.int p2), .val (.int p3), .val (.int (0 : Int32)), .val (.int ((p1).toInt8.toInt32)), .val (.int ((p2).toInt8.toInt32)), .val (.int ((p3).toInt8.toInt32)), .val (.ref r), .val (.ref w), .val (.int (0 : Int32)), .val (.ref o), .unset] [(.ref o)])) rfl rfl (hb hby at_132) _ ?_
      rw [len_of As11 An11]
      show Steps p.tables e below (T9.setTop (mkF m 133 #[.val (.int p0), .val (.int p1), .val (.int p2), .val (.int p3), .val (.int (0 : Int32)), .val (.int ((p1).toInt8.toInt32)), .val (.int ((p2).toInt8.toInt32)), .val (.int ((p3).toInt8.toInt32)), .val (.ref r), .val (.ref w), .val (.int (0 : Int32)), .val (.ref o), .unset] [(.int (0 : Int32))])) _
      refine XS.iload X9.here hx rfl (hb hby at_133) rfl ?_
      show Steps p.tables e below (T9.setTop (mkF m 135 #[.val (.int p0), .val (.int p1), .val (.int p2), .val (.int p3), .val (.int (0 : Int32)), .val (.int ((p1).toInt8.toInt32)), .val (.int ((p2).toInt8.toInt32)), .val (.int ((p3).toInt8.toInt32)), .val (.ref r), .val (.ref w), .val (.int (0 : Int32)), .val (.ref o), .unset] [(.int (0 : Int32)), (.int (0 : Int32))])) _
      refine XS.icmpYes X9.here hx rfl (pc0 := 135) (pc' := 140) rfl (hb hby at_135) rfl (teq (rfl : (0 : Int32) = (0 : Int32))).1 (by decide) (by decide) ?_
      show Steps p.tables e below (T9.setTop (mkF m 140 #[.val (.int p0), .val (.int p1), .val (.int p2), .val (.int p3), .val (.int (0 : Int32)), .val (.int ((p1).toInt8.toInt32)), .val (.int ((p2).toInt8.toInt32)), .val (.int ((p3).toInt8.toInt32)), .val (.ref r), .val (.ref w), .val (.int (0 : Int32)), .val (.ref o), .unset] [])) _
      refine XS.iconst X9.here hx rfl (hb hby at_140) ?_
      show Steps p.tables e below (T9.setTop (mkF m 141 #[.val (.int p0), .val (.int p1), .val (.int p2), .val (.int p3), .val (.int (0 : Int32)), .val (.int ((p1).toInt8.toInt32)), .val (.int ((p2).toInt8.toInt32)), .val (.int ((p3).toInt8.toInt32)), .val (.ref r), .val (.ref w), .val (.int (0 : Int32)), .val (.ref o), .unset] [(.int (1 : Int32))])) _
      refine XS.istore X9.here hx rfl (hb hby at_141) rfl (l' := #[.val (.int p0), .val (.int p1), .val (.int p2), .val (.int p3), .val (.int (0 : Int32)), .val (.int ((p1).toInt8.toInt32)), .val (.int ((p2).toInt8.toInt32)), .val (.int ((p3).toInt8.toInt32)), .val (.ref r), .val (.ref w), .val (.int (0 : Int32)), .val (.ref o), .val (.int (1 : Int32))]) rfl ?_
      show Steps p.tables e below (T9.setTop (mkF m 143 #[.val (.int p0), .val (.int p1), .val (.int p2), .val (.int p3), .val (.int (0 : Int32)), .val (.int ((p1).toInt8.toInt32)), .val (.int ((p2).toInt8.toInt32)), .val (.int ((p3).toInt8.toInt32)), .val (.ref r), .val (.ref w), .val (.int (0 : Int32)), .val (.ref o), .val (.int (1 : Int32))] [])) _
      refine XS.iload X9.here hx rfl (hb hby at_143) rfl ?_
      show Steps p.tables e below (T9.setTop (mkF m 145 #[.val (.int p0), .val (.int p1), .val (.int p2), .val (.int p3), .val (.int (0 : Int32)), .val (.int ((p1).toInt8.toInt32)), .val (.int ((p2).toInt8.toInt32)), .val (.int ((p3).toInt8.toInt32)), .val (.ref r), .val (.ref w), .val (.int (0 : Int32)), .val (.ref o), .val (.int (1 : Int32))] [(.int (0 : Int32))])) _
      refine XS.ifYes X9.here hx rfl (pc0 := 145) (pc' := 169) rfl (hb hby at_145) rfl ((if0 _ _).trans (flt (by decide)).2.2.2) (by decide) (by decide) ?_
      show Steps p.tables e below (T9.setTop (mkF m 169 #[.val (.int p0), .val (.int p1), .val (.int p2), .val (.int p3), .val (.int (0 : Int32)), .val (.int ((p1).toInt8.toInt32)), .val (.int ((p2).toInt8.toInt32)), .val (.int ((p3).toInt8.toInt32)), .val (.ref r), .val (.ref w), .val (.int (0 : Int32)), .val (.ref o), .val (.int (1 : Int32))] [])) _
      refine XS.iload X9.here hx rfl (hb hby at_169) rfl ?_
      show Steps p.tables e below (T9.setTop (mkF m 171 #[.val (.int p0), .val (.int p1), .val (.int p2), .val (.int p3), .val (.int (0 : Int32)), .val (.int ((p1).toInt8.toInt32)), .val (.int ((p2).toInt8.toInt32)), .val (.int ((p3).toInt8.toInt32)), .val (.ref r), .val (.ref w), .val (.int (0 : Int32)), .val (.ref o), .val (.int (1 : Int32))] [(.int (0 : Int32))])) _
      refine XS.iconst X9.here hx rfl (hb hby at_171) ?_
      show Steps p.tables e below (T9.setTop (mkF m 172 #[.val (.int p0), .val (.int p1), .val (.int p2), .val (.int p3), .val (.int (0 : Int32)), .val (.int ((p1).toInt8.toInt32)), .val (.int ((p2).toInt8.toInt32)), .val (.int ((p3).toInt8.toInt32)), .val (.ref r), .val (.ref w), .val (.int (0 : Int32)), .val (.ref o), .val (.int (1 : Int32))] [(.int (1 : Int32)), (.int (0 : Int32))])) _
      refine XS.icmpYes X9.here hx rfl (pc0 := 172) (pc' := 196) rfl (hb hby at_172) rfl (flt (by decide)).2.2.2 (by decide) (by decide) ?_
      show Steps p.tables e below (T9.setTop (mkF m 196 #[.val (.int p0), .val (.int p1), .val (.int p2), .val (.int p3), .val (.int (0 : Int32)), .val (.int ((p1).toInt8.toInt32)), .val (.int ((p2).toInt8.toInt32)), .val (.int ((p3).toInt8.toInt32)), .val (.ref r), .val (.ref w), .val (.int (0 : Int32)), .val (.ref o), .val (.int (1 : Int32))] [])) _
      refine XS.iload X9.here hx rfl (hb hby at_196) rfl ?_
      show Steps p.tables e below (T9.setTop (mkF m 198 #[.val (.int p0), .val (.int p1), .val (.int p2), .val (.int p3), .val (.int (0 : Int32)), .val (.int ((p1).toInt8.toInt32)), .val (.int ((p2).toInt8.toInt32)), .val (.int ((p3).toInt8.toInt32)), .val (.ref r), .val (.ref w), .val (.int (0 : Int32)), .val (.ref o), .val (.int (1 : Int32))] [(.int (0 : Int32))])) _
      refine XS.iconst X9.here hx rfl (hb hby at_198) ?_
      show Steps p.tables e below (T9.setTop (mkF m 199 #[.val (.int p0), .val (.int p1), .val (.int p2), .val (.int p3), .val (.int (0 : Int32)), .val (.int ((p1).toInt8.toInt32)), .val (.int ((p2).toInt8.toInt32)), .val (.int ((p3).toInt8.toInt32)), .val (.ref r), .val (.ref w), .val (.int (0 : Int32)), .val (.ref o), .val (.int (1 : Int32))] [(.int (2 : Int32)), (.int (0 : Int32))])) _
      refine XS.icmpYes X9.here hx rfl (pc0 := 199) (pc' := 223) rfl (hb hby at_199) rfl (flt (by decide)).2.2.2 (by decide) (by decide) ?_
      show Steps p.tables e below (T9.setTop (mkF m 223 #[.val (.int p0), .val (.int p1), .val (.int p2), .val (.int p3), .val (.int (0 : Int32)), .val (.int ((p1).toInt8.toInt32)), .val (.int ((p2).toInt8.toInt32)), .val (.int ((p3).toInt8.toInt32)), .val (.ref r), .val (.ref w), .val (.int (0 : Int32)), .val (.ref o), .val (.int (1 : Int32))] [])) _
      refine XS.iload X9.here hx rfl (hb hby at_223) rfl ?_
      exact zk
    obtain ⟨fs, hr, hrun, hended, hRE⟩ := Jvm.Stand.leaveW (s := s) (vm₁ := T5.vm) X9 Sc5 GS (v := some (.int (1 : Int32))) (fun h => by rw [Bd.returns] at h; cases h)
    refine ⟨_, _, R12 _ ?_, hrun, hended, _, _, rfl, ?_, hRE.1, hRE.2.1, hRE.2.2.1, hRE.2.2.2.mono (by decide) (by decide)⟩
    · exact retN X9 hx (t := .boolean) Bd.returns (by simp) (hb hby at_225) hr
    · show Q0 Z p0 p1 p2 p3 h0 n0 _ T9.heap _
      exact ⟨rfl, N9⟩
  ·
    rw [hv2] at R1
    obtain ⟨T13, h13, k13, X13, e13, E13, A13, AE13, st13⟩ := newPE X0 hx hZ (hw _ (List.mem_of_getElem? (i := 0) rfl)) e0 (g := (mkF m 19 #[.val (.int p0), .val (.int p1), .val (.int p2), .val (.int p3), .val (.int (1 : Int32)), .val (.int ((p1).toInt8.toInt32)), .val (.int ((p2).toInt8.toInt32)), .val (.int ((p3).toInt8.toInt32)), .unset, .unset, .unset, .unset, .unset] [(.int (1 : Int32))])) rfl (hb hby at_19) rfl (by decide) (cap := 1) (by decide) (by decide) (by decide) (by decide) (ad := "[B") (by decide)
    obtain ⟨r, g13⟩ : ∃ z, z = h0.size := ⟨_, rfl⟩
    rw [← g13] at A13 st13 AE13
    have ge_r : n0 ≤ r := by rw [g13]; exact Z0
    have Sz13 := Nat.le_trans Z0 E13.1
    have V_r : Arv Z h13 r k13 .byte (1 : Int32) [(.int (0 : Int32))] (.int (0 : Int32)) := (Arv.new A13 (by decide)).pad (pad_rep [] (.int (0 : Int32)) 1)
    have E_r := AE13
    have R14 : ∀ zt, Steps p.tables e below (T13.setTop (mkF m 33 #[.val (.int p0), .val (.int p1), .val (.int p2), .val (.int p3), .val (.int (1 : Int32)), .val (.int ((p1).toInt8.toInt32)), .val (.int ((p2).toInt8.toInt32)), .val (.int ((p3).toInt8.toInt32)), .val (.ref r), .unset, .unset, .unset, .unset] [(.int ((p1).toInt8.toInt32)), (.int (0 : Int32)), (.ref r)])) zt → Steps p.tables e below (s₁.setTop (entryFrame m #[(.int p0), (.int p1), (.int p2), (.int p3)] maxLocals)) zt := by
      intro zt zk
      refine R1 zt ?_
      show Steps p.tables e below (s₁.setTop (mkF m 19 #[.val (.int p0), .val (.int p1), .val (.int p2), .val (.int p3), .val (.int (1 : Int32)), .val (.int ((p1).toInt8.toInt32)), .val (.int ((p2).toInt8.toInt32)), .val (.int ((p3).toInt8.toInt32)), .unset, .unset, .unset, .unset, .unset] [(.int (1 : Int32))])) _
      refine st13 _ ?_
      show Steps p.tables e below (T13.setTop (mkF m 21 #[.val (.int p0), .val (.int p1), .val (.int p2), .val (.int p3), .val (.int (1 : Int32)), .val (.int ((p1).toInt8.toInt32)), .val (.int ((p2).toInt8.toInt32)), .val (.int ((p3).toInt8.toInt32)), .unset, .unset, .unset, .unset, .unset] [(.ref r)])) _
      refine XS.astore X13.here hx rfl (hb hby at_21) rfl rfl (l' := #[.val (.int p0), .val (.int p1), .val (.int p2), .val (.int p3), .val (.int (1 : Int32)), .val (.int ((p1).toInt8.toInt32)), .val (.int ((p2).toInt8.toInt32)), .val (.int ((p3).toInt8.toInt32)), .val (.ref r), .unset, .unset, .unset, .unset]) rfl ?_
      show Steps p.tables e below (T13.setTop (mkF m 23 #[.val (.int p0), .val (.int p1), .val (.int p2), .val (.int p3), .val (.int (1 : Int32)), .val (.int ((p1).toInt8.toInt32)), .val (.int ((p2).toInt8.toInt32)), .val (.int ((p3).toInt8.toInt32)), .val (.ref r), .unset, .unset, .unset, .unset] [])) _
      refine XS.iload X13.here hx rfl (hb hby at_23) rfl ?_
      show Steps p.tables e below (T13.setTop (mkF m 25 #[.val (.int p0), .val (.int p1), .val (.int p2), .val (.int p3), .val (.int (1 : Int32)), .val (.int ((p1).toInt8.toInt32)), .val (.int ((p2).toInt8.toInt32)), .val (.int ((p3).toInt8.toInt32)), .val (.ref r), .unset, .unset, .unset, .unset] [(.int (1 : Int32))])) _
      refine XS.ifNo X13.here hx rfl (hb hby at_25) rfl ((if0 _ _).trans (tlt (by decide)).2.2.2) ?_
      show Steps p.tables e below (T13.setTop (mkF m 28 #[.val (.int p0), .val (.int p1), .val (.int p2), .val (.int p3), .val (.int (1 : Int32)), .val (.int ((p1).toInt8.toInt32)), .val (.int ((p2).toInt8.toInt32)), .val (.int ((p3).toInt8.toInt32)), .val (.ref r), .unset, .unset, .unset, .unset] [])) _
      refine XS.aload X13.here hx rfl (hb hby at_28) rfl rfl ?_
      show Steps p.tables e below (T13.setTop (mkF m 30 #[.val (.int p0), .val (.int p1), .val (.int p2), .val (.int p3), .val (.int (1 : Int32)), .val (.int ((p1).toInt8.toInt32)), .val (.int ((p2).toInt8.toInt32)), .val (.int ((p3).toInt8.toInt32)), .val (.ref r), .unset, .unset, .unset, .unset] [(.ref r)])) _
      refine XS.iconst X13.here hx rfl (hb hby at_30) ?_
      show Steps p.tables e below (T13.setTop (mkF m 31 #[.val (.int p0), .val (.int p1), .val (.int p2), .val (.int p3), .val (.int (1 : Int32)), .val (.int ((p1).toInt8.toInt32)), .val (.int ((p2).toInt8.toInt32)), .val (.int ((p3).toInt8.toInt32)), .val (.ref r), .unset, .unset, .unset, .unset] [(.int (0 : Int32)), (.ref r)])) _
      refine XS.iload X13.here hx rfl (hb hby at_31) rfl ?_
      exact zk
    obtain ⟨cl15, Ar15, Aq15, As15, An15, Ah15, Ag15⟩ := id V_r
    have hin15 : ¬ ((0 : Int32) < 0 ∨ cl15.slots.size ≤ ((0 : Int32)).toNatClampNeg) := inb_of As15 ⟨by decide, by decide⟩
    obtain ⟨T16, h16, X16, e16, W16, st16⟩ := stB X13 hx hZ e13 Ar15 (j := (0 : Int32)) hin15 (g := (mkF m 33 #[.val (.int p0), .val (.int p1), .val (.int p2), .val (.int p3), .val (.int (1 : Int32)), .val (.int ((p1).toInt8.toInt32)), .val (.int ((p2).toInt8.toInt32)), .val (.int ((p3).toInt8.toInt32)), .val (.ref r), .unset, .unset, .unset, .unset] [(.int ((p1).toInt8.toInt32)), (.int (0 : Int32)), (.ref r)])) rfl rfl (hb hby at_33)
    have N16 := Fr.snoc X16 N0 ge_r
    have Sz16 := Nat.le_trans Sz13 (Keep.of_wr W16).1
    have E_r := E_r.wr W16
    have V_r : Arv Z h16 r k13 .byte (1 : Int32) [(.int (nar .byte ((p1).toInt8.toInt32)))] (.int (0 : Int32)) := Arv.set Ar15 Aq15 As15 An15 Ah15 Ag15 (fits_nar_byte _) W16 0 rfl (Nat.le_of_ble_eq_true rfl)
    have R17 : ∀ zt, Steps p.tables e below (T16.setTop (mkF m 60 #[.val (.int p0), .val (.int p1), .val (.int p2), .val (.int p3), .val (.int (1 : Int32)), .val (.int ((p1).toInt8.toInt32)), .val (.int ((p2).toInt8.toInt32)), .val (.int ((p3).toInt8.toInt32)), .val (.ref r), .unset, .unset, .unset, .unset] [(.ref r)])) zt → Steps p.tables e below (s₁.setTop (entryFrame m #[(.int p0), (.int p1), (.int p2), (.int p3)] maxLocals)) zt := by
      intro zt zk
      refine R14 zt ?_
      show Steps p.tables e below (T13.setTop (mkF m 33 #[.val (.int p0), .val (.int p1), .val (.int p2), .val (.int p3), .val (.int (1 : Int32)), .val (.int ((p1).toInt8.toInt32)), .val (.int ((p2).toInt8.toInt32)), .val (.int ((p3).toInt8.toInt32)), .val (.ref r), .unset, .unset, .unset, .unset] [(.int ((p1).toInt8.toInt32)), (.int (0 : Int32)), (.ref r)])) _
      refine st16 _ ?_
      show Steps p.tables e below (T16.setTop (mkF m 34 #[.val (.int p0), .val (.int p1), .val (.int p2), .val (.int p3), .val (.int (1 : Int32)), .val (.int ((p1).toInt8.toInt32)), .val (.int ((p2).toInt8.toInt32)), .val (.int ((p3).toInt8.toInt32)), .val (.ref r), .unset, .unset, .unset, .unset] [])) _
      refine XS.iload X16.here hx rfl (hb hby at_34) rfl ?_
      show Steps p.tables e below (T16.setTop (mkF m 36 #[.val (.int p0), .val (.int p1), .val (.int p2), .val (.int p3), .val (.int (1 : Int32)), .val (.int ((p1).toInt8.toInt32)), .val (.int ((p2).toInt8.toInt32)), .val (.int ((p3).toInt8.toInt32)), .val (.ref r), .unset, .unset, .unset, .unset] [(.int (1 : Int32))])) _
      refine XS.iconst X16.here hx rfl (hb hby at_36) ?_
      show Steps p.tables e below (T16.setTop (mkF m 37 #[.val (.int p0), .val (.int p1), .val (.int p2), .val (.int p3), .val (.int (1 : Int32)), .val (.int ((p1).toInt8.toInt32)), .val (.int ((p2).toInt8.toInt32)), .val (.int ((p3).toInt8.toInt32)), .val (.ref r), .unset, .unset, .unset, .unset] [(.int (1 : Int32)), (.int (1 : Int32))])) _
      refine XS.icmpYes X16.here hx rfl (pc0 := 37) (pc' := 46) rfl (hb hby at_37) rfl (flt (by decide)).2.2.2 (by decide) (by decide) ?_
      show Steps p.tables e below (T16.setTop (mkF m 46 #[.val (.int p0), .val (.int p1), .val (.int p2), .val (.int p3), .val (.int (1 : Int32)), .val (.int ((p1).toInt8.toInt32)), .val (.int ((p2).toInt8.toInt32)), .val (.int ((p3).toInt8.toInt32)), .val (.ref r), .unset, .unset, .unset, .unset] [])) _
      refine XS.iload X16.here hx rfl (hb hby at_46) rfl ?_
      show Steps p.tables e below (T16.setTop (mkF m 48 #[.val (.int p0), .val (.int p1), .val (.int p2), .val (.int p3), .val (.int (1 : Int32)), .val (.int ((p1).toInt8.toInt32)), .val (.int ((p2).toInt8.toInt32)), .val (.int ((p3).toInt8.toInt32)), .val (.ref r), .unset, .unset, .unset, .unset] [(.int (1 : Int32))])) _
      refine XS.iconst X16.here hx rfl (hb hby at_48) ?_
      show Steps p.tables e below (T16.setTop (mkF m 49 #[.val (.int p0), .val (.int p1), .val (.int p2), .val (.int p3), .val (.int (1 : Int32)), .val (.int ((p1).toInt8.toInt32)), .val (.int ((p2).toInt8.toInt32)), .val (.int ((p3).toInt8.toInt32)), .val (.ref r), .unset, .unset, .unset, .unset] [(.int (2 : Int32)), (.int (1 : Int32))])) _
      refine XS.icmpYes X16.here hx rfl (pc0 := 49) (pc' := 58) rfl (hb hby at_49) rfl (flt (by decide)).2.2.2 (by decide) (by decide) ?_
      show Steps p.tables e below (T16.setTop (mkF m 58 #[.val (.int p0), .val (.int p1), .val (.int p2), .val (.int p3), .val (.int (1 : Int32)), .val (.int ((p1).toInt8.toInt32)), .val (.int ((p2).toInt8.toInt32)), .val (.int ((p3).toInt8.toInt32)), .val (.ref r), .unset, .unset, .unset, .unset] [])) _
      refine XS.aload X16.here hx rfl (hb hby at_58) rfl rfl ?_
      exact zk
    have lt_r := V_r.lt
    obtain ⟨_, _, ⟨T18, L18, k18, n18⟩, -, X18, Sc18, gr18, ⟨Lc18, hQ18, l18, y18, z18⟩, st18⟩ := callSS X16 hx (y := (⟨"com/example/key_ranges/keyranges/ByteString", "copyOf", "([B)Lcom/example/key_ranges/keyranges/ByteString;"⟩ : MethodName)) hown (mvT hZ (hw _ (List.mem_of_getElem? (i := 1) rfl))) (mvT hZ (hw _ (List.mem_of_getElem? (i := 2) rfl))) (mvT hZ (hw _ (List.mem_of_getElem? (i := 3) rfl))) (mvT hZ (hw _ (List.mem_of_getElem? (i := 4) rfl))) (by decide) (backOfS (W := 0) (rm1 l Z a0 hw [] r k13 (1 : Int32) [(.int (nar .byte ((p1).toInt8.toInt32)))] h16 n0 Sz16 V_r E_r (by decide)) hZ (hw _ (List.mem_of_getElem? (i := 4) rfl)) (hw _ (List.mem_of_getElem? (i := 3) rfl)) (by decide) (by decide)) (g := (mkF m 60 #[.val (.int p0), .val (.int p1), .val (.int p2), .val (.int p3), .val (.int (1 : Int32)), .val (.int ((p1).toInt8.toInt32)), .val (.int ((p2).toInt8.toInt32)), .val (.int ((p3).toInt8.toInt32)), .val (.ref r), .unset, .unset, .unset, .unset] [(.ref r)])) rfl (by rw [hml]; rfl) (argsL := [(.ref r)]) (rest := []) (lenOf pd_2 rfl) rfl (by show 2 * 0 + _ ≤ _; exact Nat.le_of_eq rfl) (hb hby at_60) (fun _ _ => ⟨rfl, e16, (by decide : 1 + 4 ≤ _), (by decide : 1 + 28 ≤ _)⟩)
    dsimp only [Pt.U, Pt.locs, Pt.cells, Pt.slots] at X18 l18 y18 z18 st18 hQ18 Sc18 gr18
    rw [y18, z18] at X18
    have X18 : Stand p l e room_1 (s.setVm T18.vm) m #[(.int p0), (.int p1), (.int p2), (.int p3)] below meth c T18 L18 5 29 := X18
    obtain ⟨rfl, Nq18, ⟨q, qsz, qne, K18, E_w, F_bytes_w, V_q, E_q⟩⟩ := hQ18
    have N18 : Fr n0 L18 := by rw [l18]; exact Fr.app N16 Nq18
    clear l18 y18 z18
    have hZ : Z.Warmed39 (s.setVm T18.vm).vm := State.Warmed39.trans hZ Sc18.1
    have hown : (s.setVm T18.vm).vm.findClass "com/example/key_ranges/keyranges/ByteStringCopyOfPinLaw" = some m.cls := (Sc18.1.alike.findClass _ _).trans hown
    have GS : T18.heap.size ≤ T18.heap.size := Nat.le_refl _
    have Sz18 := Nat.le_trans Sz16 K18.1
    have V_r := V_r.keep K18 nin0
    have E_r := E_r.keep K18
    obtain ⟨w, gw⟩ : ∃ z, z = h16.size := ⟨_, rfl⟩
    rw [← gw] at E_w F_bytes_w qne qsz st18
    have ne_r_w : r ≠ w := Nat.ne_of_lt (gw ▸ lt_r)
    have ne_r_q : r ≠ q := Nat.ne_of_lt (Nat.lt_of_lt_of_le (gw ▸ lt_r) qsz)
    have R19 : ∀ zt, Steps p.tables e below (T18.setTop (mkF m 78 #[.val (.int p0), .val (.int p1), .val (.int p2), .val (.int p3), .val (.int (1 : Int32)), .val (.int ((p1).toInt8.toInt32)), .val (.int ((p2).toInt8.toInt32)), .val (.int ((p3).toInt8.toInt32)), .val (.ref r), .val (.ref w), .unset, .unset, .unset] [(.int (((((p1).toInt8.toInt32) ^^^ (-1 : Int32))).toInt8.toInt32)), (.int (0 : Int32)), (.ref r)])) zt → Steps p.tables e below (s₁.setTop (entryFrame m #[(.int p0), (.int p1), (.int p2), (.int p3)] maxLocals)) zt := by
      intro zt zk
      refine R17 zt ?_
      show Steps p.tables e below (T16.setTop (mkF m 60 #[.val (.int p0), .val (.int p1), .val (.int p2), .val (.int p3), .val (.int (1 : Int32)), .val (.int ((p1).toInt8.toInt32)), .val (.int ((p2).toInt8.toInt32)), .val (.int ((p3).toInt8.toInt32)), .val (.ref r), .unset, .unset, .unset, .unset] [(.ref r)])) _
      refine st18.trans ?_
      show Steps p.tables e below (T18.setTop (mkF m 63 #[.val (.int p0), .val (.int p1), .val (.int p2), .val (.int p3), .val (.int (1 : Int32)), .val (.int ((p1).toInt8.toInt32)), .val (.int ((p2).toInt8.toInt32)), .val (.int ((p3).toInt8.toInt32)), .val (.ref r), .unset, .unset, .unset, .unset] [(.ref w)])) _
      refine XS.astore X18.here hx rfl (hb hby at_63) rfl rfl (l' := #[.val (.int p0), .val (.int p1), .val (.int p2), .val (.int p3), .val (.int (1 : Int32)), .val (.int ((p1).toInt8.toInt32)), .val (.int ((p2).toInt8.toInt32)), .val (.int ((p3).toInt8.toInt32)), .val (.ref r), .val (.ref w), .unset, .unset, .unset]) rfl ?_
      show Steps p.tables e below (T18.setTop (mkF m 65 #[.val (.int p0), .val (.int p1), .val (.int p2), .val (.int p3), .val (.int (1 : Int32)), .val (.int ((p1).toInt8.toInt32)), .val (.int ((p2).toInt8.toInt32)), .val (.int ((p3).toInt8.toInt32)), .val (.ref r), .val (.ref w), .unset, .unset, .unset] [])) _
      refine XS.iload X18.here hx rfl (hb hby at_65) rfl ?_
      show Steps p.tables e below (T18.setTop (mkF m 67 #[.val (.int p0), .val (.int p1), .val (.int p2), .val (.int p3), .val (.int (1 : Int32)), .val (.int ((p1).toInt8.toInt32)), .val (.int ((p2).toInt8.toInt32)), .val (.int ((p3).toInt8.toInt32)), .val (.ref r), .val (.ref w), .unset, .unset, .unset] [(.int (1 : Int32))])) _
      refine XS.ifNo X18.here hx rfl (hb hby at_67) rfl ((if0 _ _).trans (tlt (by decide)).2.2.2) ?_
      show Steps p.tables e below (T18.setTop (mkF m 70 #[.val (.int p0), .val (.int p1), .val (.int p2), .val (.int p3), .val (.int (1 : Int32)), .val (.int ((p1).toInt8.toInt32)), .val (.int ((p2).toInt8.toInt32)), .val (.int ((p3).toInt8.toInt32)), .val (.ref r), .val (.ref w), .unset, .unset, .unset] [])) _
      refine XS.aload X18.here hx rfl (hb hby at_70) rfl rfl ?_
      show Steps p.tables e below (T18.setTop (mkF m 72 #[.val (.int p0), .val (.int p1), .val (.int p2), .val (.int p3), .val (.int (1 : Int32)), .val (.int ((p1).toInt8.toInt32)), .val (.int ((p2).toInt8.toInt32)), .val (.int ((p3).toInt8.toInt32)), .val (.ref r), .val (.ref w), .unset, .unset, .unset] [(.ref r)])) _
      refine XS.iconst X18.here hx rfl (hb hby at_72) ?_
      show Steps p.tables e below (T18.setTop (mkF m 73 #[.val (.int p0), .val (.int p1), .val (.int p2), .val (.int p3), .val (.int (1 : Int32)), .val (.int ((p1).toInt8.toInt32)), .val (.int ((p2).toInt8.toInt32)), .val (.int ((p3).toInt8.toInt32)), .val (.ref r), .val (.ref w), .unset, .unset, .unset] [(.int (0 : Int32)), (.ref r)])) _
      refine XS.iload X18.here hx rfl (hb hby at_73) rfl ?_
      show Steps p.tables e below (T18.setTop (mkF m 75 #[.val (.int p0), .val (.int p1), .val (.int p2), .val (.int p3), .val (.int (1 : Int32)), .val (.int ((p1).toInt8.toInt32)), .val (.int ((p2).toInt8.toInt32)), .val (.int ((p3).toInt8.toInt32)), .val (.ref r), .val (.ref w), .unset, .unset, .unset] [(.int ((p1).toInt8.toInt32)), (.int (0 : Int32)), (.ref r)])) _
      refine XS.iconst X18.here hx rfl (hb hby at_75) ?_
      show Steps p.tables e below (T18.setTop (mkF m 76 #[.val (.int p0), .val (.int p1), .val (.int p2), .val (.int p3), .val (.int (1 : Int32)), .val (.int ((p1).toInt8.toInt32)), .val (.int ((p2).toInt8.toInt32)), .val (.int ((p3).toInt8.toInt32)), .val (.ref r), .val (.ref w), .unset, .unset, .unset] [(.int (-1 : Int32)), (.int ((p1).toInt8.toInt32)), (.int (0 : Int32)), (.ref r)])) _
      refine XS.ixor X18.here hx rfl (hb hby at_76) rfl ?_
      show Steps p.tables e below (T18.setTop (mkF m 77 #[.val (.int p0), .val (.int p1), .val (.int p2), .val (.int p3), .val (.int (1 : Int32)), .val (.int ((p1).toInt8.toInt32)), .val (.int ((p2).toInt8.toInt32)), .val (.int ((p3).toInt8.toInt32)), .val (.ref r), .val (.ref w), .unset, .unset, .unset] [(.int (((p1).toInt8.toInt32) ^^^ (-1 : Int32))), (.int (0 : Int32)), (.ref r)])) _
      refine XS.i2b X18.here hx rfl (hb hby at_77) rfl ?_
      exact zk
    obtain ⟨cl20, Ar20, Aq20, As20, An20, Ah20, Ag20⟩ := id V_r
    have hin20 : ¬ ((0 : Int32) < 0 ∨ cl20.slots.size ≤ ((0 : Int32)).toNatClampNeg) := inb_of As20 ⟨by decide, by decide⟩
    obtain ⟨T21, h21, X21, e21, W21, st21⟩ := stB X18 hx hZ rfl Ar20 (j := (0 : Int32)) hin20 (g := (mkF m 78 #[.val (.int p0), .val (.int p1), .val (.int p2), .val (.int p3), .val (.int (1 : Int32)), .val (.int ((p1).toInt8.toInt32)), .val (.int ((p2).toInt8.toInt32)), .val (.int ((p3).toInt8.toInt32)), .val (.ref r), .val (.ref w), .unset, .unset, .unset] [(.int (((((p1).toInt8.toInt32) ^^^ (-1 : Int32))).toInt8.toInt32)), (.int (0 : Int32)), (.ref r)])) rfl rfl (hb hby at_78)
    have N21 := Fr.snoc X21 N18 ge_r
    have Sz21 := Nat.le_trans Sz18 (Keep.of_wr W21).1
    have E_r := E_r.wr W21
    have GS := Nat.le_trans GS (Keep.of_wr W21).1
    have E_w := E_w.wr W21
    have F_bytes_w := F_bytes_w.other W21 (Or.inl ne_r_w.symm)
    have V_q := V_q.other W21 ne_r_q.symm
    have E_q := E_q.wr W21
    have V_r : Arv Z h21 r k13 .byte (1 : Int32) [(.int (nar .byte (((((p1).toInt8.toInt32) ^^^ (-1 : Int32))).toInt8.toInt32)))] (.int (0 : Int32)) := Arv.set Ar20 Aq20 As20 An20 Ah20 Ag20 (fits_nar_byte _) W21 0 rfl (Nat.le_of_ble_eq_true rfl)
    have R22 : ∀ zt, Steps p.tables e below (T21.setTop (mkF m 111 #[.val (.int p0), .val (.int p1), .val (.int p2), .val (.int p3), .val (.int (1 : Int32)), .val (.int ((p1).toInt8.toInt32)), .val (.int ((p2).toInt8.toInt32)), .val (.int ((p3).toInt8.toInt32)), .val (.ref r), .val (.ref w), .unset, .unset, .unset] [(.ref w)])) zt → Steps p.tables e below (s₁.setTop (entryFrame m #[(.int p0), (.int p1), (.int p2), (.int p3)] maxLocals)) zt := by
      intro zt zk
      refine R19 zt ?_
      show Steps p.tables e below (T18.setTop (mkF m 78 #[.val (.int p0), .val (.int p1), .val (.int p2), .val (.int p3), .val (.int (1 : Int32)), .val (.int ((p1).toInt8.toInt32)), .val (.int ((p2).toInt8.toInt32)), .val (.int ((p3).toInt8.toInt32)), .val (.ref r), .val (.ref w), .unset, .unset, .unset] [(.int (((((p1).toInt8.toInt32) ^^^ (-1 : Int32))).toInt8.toInt32)), (.int (0 : Int32)), (.ref r)])) _
      refine st21 _ ?_
      show Steps p.tables e below (T21.setTop (mkF m 79 #[.val (.int p0), .val (.int p1), .val (.int p2), .val (.int p3), .val (.int (1 : Int32)), .val (.int ((p1).toInt8.toInt32)), .val (.int ((p2).toInt8.toInt32)), .val (.int ((p3).toInt8.toInt32)), .val (.ref r), .val (.ref w), .unset, .unset, .unset] [])) _
      refine XS.iload X21.here hx rfl (hb hby at_79) rfl ?_
      show Steps p.tables e below (T21.setTop (mkF m 81 #[.val (.int p0), .val (.int p1), .val (.int p2), .val (.int p3), .val (.int (1 : Int32)), .val (.int ((p1).toInt8.toInt32)), .val (.int ((p2).toInt8.toInt32)), .val (.int ((p3).toInt8.toInt32)), .val (.ref r), .val (.ref w), .unset, .unset, .unset] [(.int (1 : Int32))])) _
      refine XS.iconst X21.here hx rfl (hb hby at_81) ?_
      show Steps p.tables e below (T21.setTop (mkF m 82 #[.val (.int p0), .val (.int p1), .val (.int p2), .val (.int p3), .val (.int (1 : Int32)), .val (.int ((p1).toInt8.toInt32)), .val (.int ((p2).toInt8.toInt32)), .val (.int ((p3).toInt8.toInt32)), .val (.ref r), .val (.ref w), .unset, .unset, .unset] [(.int (1 : Int32)), (.int (1 : Int32))])) _
      refine XS.icmpYes X21.here hx rfl (pc0 := 82) (pc' := 94) rfl (hb hby at_82) rfl (flt (by decide)).2.2.2 (by decide) (by decide) ?_
      show Steps p.tables e below (T21.setTop (mkF m 94 #[.val (.int p0), .val (.int p1), .val (.int p2), .val (.int p3), .val (.int (1 : Int32)), .val (.int ((p1).toInt8.toInt32)), .val (.int ((p2).toInt8.toInt32)), .val (.int ((p3).toInt8.toInt32)), .val (.ref r), .val (.ref w), .unset, .unset, .unset] [])) _
      refine XS.iload X21.here hx rfl (hb hby at_94) rfl ?_
      show Steps p.tables e below (T21.setTop (mkF m 96 #[.val (.int p0), .val (.int p1), .val (.int p2), .val (.int p3), .val (.int (1 : Int32)), .val (.int ((p1).toInt8.toInt32)), .val (.int ((p2).toInt8.toInt32)), .val (.int ((p3).toInt8.toInt32)), .val (.ref r), .val (.ref w), .unset, .unset, .unset] [(.int (1 : Int32))])) _
      refine XS.iconst X21.here hx rfl (hb hby at_96) ?_
      show Steps p.tables e below (T21.setTop (mkF m 97 #[.val (.int p0), .val (.int p1), .val (.int p2), .val (.int p3), .val (.int (1 : Int32)), .val (.int ((p1).toInt8.toInt32)), .val (.int ((p2).toInt8.toInt32)), .val (.int ((p3).toInt8.toInt32)), .val (.ref r), .val (.ref w), .unset, .unset, .unset] [(.int (2 : Int32)), (.int (1 : Int32))])) _
      refine XS.icmpYes X21.here hx rfl (pc0 := 97) (pc' := 109) rfl (hb hby at_97) rfl (flt (by decide)).2.2.2 (by decide) (by decide) ?_
      show Steps p.tables e below (T21.setTop (mkF m 109 #[.val (.int p0), .val (.int p1), .val (.int p2), .val (.int p3), .val (.int (1 : Int32)), .val (.int ((p1).toInt8.toInt32)), .val (.int ((p2).toInt8.toInt32)), .val (.int ((p3).toInt8.toInt32)), .val (.ref r), .val (.ref w), .unset, .unset, .unset] [])) _
      refine XS.aload X21.here hx rfl (hb hby at_109) rfl rfl ?_
      exact zk
    obtain ⟨cq23, kq23, q23a, q23b, q23c⟩ := isOf hZ e21 E_w
    obtain ⟨_, _, ⟨T23, L23, k23, n23⟩, -, X23, ⟨Lc23, hQ23, l23, y23, z23⟩, st23⟩ := X21.virtualBack hx (y := (⟨"com/example/key_ranges/keyranges/ByteString", "size", "()I"⟩ : MethodName)) (z := (⟨"com/example/key_ranges/keyranges/ByteString", "size", "()I"⟩ : MethodName)) hown (mvT hZ (hw _ (List.mem_of_getElem? (i := 35) rfl))) (mvT hZ (hw _ (List.mem_of_getElem? (i := 36) rfl))) (notFace_of_selects (args := #[]) (mvT hZ (hw _ (List.mem_of_getElem? (i := 38) rfl)))) (mvT hZ (hw _ (List.mem_of_getElem? (i := 38) rfl))) (mvT hZ (hw _ (List.mem_of_getElem? (i := 37) rfl))) (by decide) (backOf (W := 0) (rm5 l Z a0 hw [] w q k13 (1 : Int32) [(.int (nar .byte ((p1).toInt8.toInt32)))] h21 n0 Sz21 F_bytes_w V_q) hZ (hw _ (List.mem_of_getElem? (i := 39) rfl)) (hw _ (List.mem_of_getElem? (i := 3) rfl)) (by decide) (by decide)) q23a q23c (g := (mkF m 111 #[.val (.int p0), .val (.int p1), .val (.int p2), .val (.int p3), .val (.int (1 : Int32)), .val (.int ((p1).toInt8.toInt32)), .val (.int ((p2).toInt8.toInt32)), .val (.int ((p3).toInt8.toInt32)), .val (.ref r), .val (.ref w), .unset, .unset, .unset] [(.ref w)])) rfl (by rw [hml]; rfl) (Steps.refl _) (argsL := []) (rest := []) (lenOf pd_3 rfl) rfl (by show 2 * 0 + _ ≤ _; exact Nat.le_of_eq rfl) (hb hby at_111) (fun _ _ => ⟨rfl, e21, (by decide : 5 + 0 ≤ _), (by decide : 29 + 0 ≤ _)⟩)
    dsimp only [Pt.U, Pt.locs, Pt.cells, Pt.slots] at X23 l23 y23 z23 st23 hQ23
    rw [y23, z23] at X23
    have X23 : Stand p l e room_1 (s.setVm T18.vm) m #[(.int p0), (.int p1), (.int p2), (.int p3)] below meth c T23 L23 5 29 := X23
    obtain ⟨rfl, Nq23, eq23⟩ := hQ23
    have N23 : Fr n0 L23 := by rw [l23]; exact Fr.app N21 Nq23
    clear l23 y23 z23
    have e23 : T23.heap = h21 := eq23
    have R24 : ∀ zt, Steps p.tables e below (T23.setTop (mkF m 118 #[.val (.int p0), .val (.int p1), .val (.int p2), .val (.int p3), .val (.int (1 : Int32)), .val (.int ((p1).toInt8.toInt32)), .val (.int ((p2).toInt8.toInt32)), .val (.int ((p3).toInt8.toInt32)), .val (.ref r), .val (.ref w), .val (.int (1 : Int32)), .unset, .unset] [(.ref w)])) zt → Steps p.tables e below (s₁.setTop (entryFrame m #[(.int p0), (.int p1), (.int p2), (.int p3)] maxLocals)) zt := by
      intro zt zk
      refine R22 zt ?_
      show Steps p.tables e below (T21.setTop (mkF m 111 #[.val (.int p0), .val (.int p1), .val (.int p2), .val (.int p3), .val (.int (1 : Int32)), .val (.int ((p1).toInt8.toInt32)), .val (.int ((p2).toInt8.toInt32)), .val (.int ((p3).toInt8.toInt32)), .val (.ref r), .val (.ref w), .unset, .unset, .unset] [(.ref w)])) _
      refine st23.trans ?_
      show Steps p.tables e below (T23.setTop (mkF m 114 #[.val (.int p0), .val (.int p1), .val (.int p2), .val (.int p3), .val (.int (1 : Int32)), .val (.int ((p1).toInt8.toInt32)), .val (.int ((p2).toInt8.toInt32)), .val (.int ((p3).toInt8.toInt32)), .val (.ref r), .val (.ref w), .unset, .unset, .unset] [(.int (1 : Int32))])) _
      refine XS.istore X23.here hx rfl (hb hby at_114) rfl (l' := #[.val (.int p0), .val (.int p1), .val (.int p2), .val (.int p3), .val (.int (1 : Int32)), .val (.int ((p1).toInt8.toInt32)), .val (.int ((p2).toInt8.toInt32)), .val (.int ((p3).toInt8.toInt32)), .val (.ref r), .val (.ref w), .val (.int (1 : Int32)), .unset, .unset]) rfl ?_
      show Steps p.tables e below (T23.setTop (mkF m 116 #[.val (.int p0), .val (.int p1), .val (.int p2), .val (.int p3), .val (.int (1 : Int32)), .val (.int ((p1).toInt8.toInt32)), .val (.int ((p2).toInt8.toInt32)), .val (.int ((p3).toInt8.toInt32)), .val (.ref r), .val (.ref w), .val (.int (1 : Int32)), .unset, .unset] [])) _
      refine XS.aload X23.here hx rfl (hb hby at_116) rfl rfl ?_
      exact zk
    obtain ⟨cq25, kq25, q25a, q25b, q25c⟩ := isOf hZ e23 E_w
    obtain ⟨_, _, ⟨T25, L25, k25, n25⟩, -, X25, ⟨Lc25, hQ25, l25, y25, z25⟩, st25⟩ := X23.virtualBack hx (y := (⟨"com/example/key_ranges/keyranges/ByteString", "toByteArray", "()[B"⟩ : MethodName)) (z := (⟨"com/example/key_ranges/keyranges/ByteString", "toByteArray", "()[B"⟩ : MethodName)) hown (mvT hZ (hw _ (List.mem_of_getElem? (i := 40) rfl))) (mvT hZ (hw _ (List.mem_of_getElem? (i := 41) rfl))) (notFace_of_selects (args := #[]) (mvT hZ (hw _ (List.mem_of_getElem? (i := 43) rfl)))) (mvT hZ (hw _ (List.mem_of_getElem? (i := 43) rfl))) (mvT hZ (hw _ (List.mem_of_getElem? (i := 42) rfl))) (by decide) (backOf (W := 0) (rm6 l Z a0 hw [] w q k13 (1 : Int32) [(.int (nar .byte ((p1).toInt8.toInt32)))] h21 n0 Sz21 F_bytes_w V_q E_q (by decide)) hZ (hw _ (List.mem_of_getElem? (i := 44) rfl)) (hw _ (List.mem_of_getElem? (i := 3) rfl)) (by decide) (by decide)) q25a q25c (g := (mkF m 118 #[.val (.int p0), .val (.int p1), .val (.int p2), .val (.int p3), .val (.int (1 : Int32)), .val (.int ((p1).toInt8.toInt32)), .val (.int ((p2).toInt8.toInt32)), .val (.int ((p3).toInt8.toInt32)), .val (.ref r), .val (.ref w), .val (.int (1 : Int32)), .unset, .unset] [(.ref w)])) rfl (by rw [hml]; rfl) (Steps.refl _) (argsL := []) (rest := []) (lenOf pd_4 rfl) rfl (by show 2 * 0 + _ ≤ _; exact Nat.le_of_eq rfl) (hb hby at_118) (fun _ _ => ⟨rfl, e23, (by decide : 5 + 1 ≤ _), (by decide : 29 + 3 ≤ _)⟩)
    dsimp only [Pt.U, Pt.locs, Pt.cells, Pt.slots] at X25 l25 y25 z25 st25 hQ25
    rw [y25, z25] at X25
    have X25 : Stand p l e room_1 (s.setVm T18.vm) m #[(.int p0), (.int p1), (.int p2), (.int p3)] below meth c T25 L25 6 32 := X25
    obtain ⟨rfl, Nq25, K25, V_o⟩ := hQ25
    have N25 : Fr n0 L25 := by rw [l25]; exact Fr.app N23 Nq25
    clear l25 y25 z25
    have Sz25 := Nat.le_trans Sz21 K25.1
    have V_r := V_r.keep K25 nin0
    have E_r := E_r.keep K25
    have GS := Nat.le_trans GS K25.1
    have E_w := E_w.keep K25
    have F_bytes_w := F_bytes_w.keep K25 nin0
    have V_q := V_q.keep K25 nin0
    have E_q := E_q.keep K25
    obtain ⟨o, go⟩ : ∃ z, z = h21.size := ⟨_, rfl⟩
    rw [← go] at V_o st25
    have R26 : ∀ zt, Steps p.tables e below (T25.setTop (mkF m 132 #[.val (.int p0), .val (.int p1), .val (.int p2), .val (.int p3), .val (.int (1 : Int32)), .val (.int ((p1).toInt8.toInt32)), .val (.int ((p2).toInt8.toInt32)), .val (.int ((p3).toInt8.toInt32)), .val (.ref r), .val (.ref w), .val (.int (1 : Int32)), .val (.ref o), .unset] [(.ref o)])) zt → Steps p.tables e below (s₁.setTop (entryFrame m #[(.int p0), (.int p1), (.int p2), (.int p3)] maxLocals)) zt := by
      intro zt zk
      refine R24 zt ?_
      show Steps p.tables e below (T23.setTop (mkF m 118 #[.val (.int p0), .val (.int p1), .val (.int p2), .val (.int p3), .val (.int (1 : Int32)), .val (.int ((p1).toInt8.toInt32)), .val (.int ((p2).toInt8.toInt32)), .val (.int ((p3).toInt8.toInt32)), .val (.ref r), .val (.ref w), .val (.int (1 : Int32)), .unset, .unset] [(.ref w)])) _
      refine st25.trans ?_
      show Steps p.tables e below (T25.setTop (mkF m 121 #[.val (.int p0), .val (.int p1), .val (.int p2), .val (.int p3), .val (.int (1 : Int32)), .val (.int ((p1).toInt8.toInt32)), .val (.int ((p2).toInt8.toInt32)), .val (.int ((p3).toInt8.toInt32)), .val (.ref r), .val (.ref w), .val (.int (1 : Int32)), .unset, .unset] [(.ref o)])) _
      refine XS.astore X25.here hx rfl (hb hby at_121) rfl rfl (l' := #[.val (.int p0), .val (.int p1), .val (.int p2), .val (.int p3), .val (.int (1 : Int32)), .val (.int ((p1).toInt8.toInt32)), .val (.int ((p2).toInt8.toInt32)), .val (.int ((p3).toInt8.toInt32)), .val (.ref r), .val (.ref w), .val (.int (1 : Int32)), .val (.ref o), .unset]) rfl ?_
      show Steps p.tables e below (T25.setTop (mkF m 123 #[.val (.int p0), .val (.int p1), .val (.int p2), .val (.int p3), .val (.int (1 : Int32)), .val (.int ((p1).toInt8.toInt32)), .val (.int ((p2).toInt8.toInt32)), .val (.int ((p3).toInt8.toInt32)), .val (.ref r), .val (.ref w), .val (.int (1 : Int32)), .val (.ref o), .unset] [])) _
      refine XS.iload X25.here hx rfl (hb hby at_123) rfl ?_
      show Steps p.tables e below (T25.setTop (mkF m 125 #[.val (.int p0), .val (.int p1), .val (.int p2), .val (.int p3), .val (.int (1 : Int32)), .val (.int ((p1).toInt8.toInt32)), .val (.int ((p2).toInt8.toInt32)), .val (.int ((p3).toInt8.toInt32)), .val (.ref r), .val (.ref w), .val (.int (1 : Int32)), .val (.ref o), .unset] [(.int (1 : Int32))])) _
      refine XS.iload X25.here hx rfl (hb hby at_125) rfl ?_
      show Steps p.tables e below (T25.setTop (mkF m 127 #[.val (.int p0), .val (.int p1), .val (.int p2), .val (.int p3), .val (.int (1 : Int32)), .val (.int ((p1).toInt8.toInt32)), .val (.int ((p2).toInt8.toInt32)), .val (.int ((p3).toInt8.toInt32)), .val (.ref r), .val (.ref w), .val (.int (1 : Int32)), .val (.ref o), .unset] [(.int (1 : Int32)), (.int (1 : Int32))])) _
      refine XS.icmpNo X25.here hx rfl (hb hby at_127) rfl (teq (rfl : (1 : Int32) = (1 : Int32))).2 ?_
      show Steps p.tables e below (T25.setTop (mkF m 130 #[.val (.int p0), .val (.int p1), .val (.int p2), .val (.int p3), .val (.int (1 : Int32)), .val (.int ((p1).toInt8.toInt32)), .val (.int ((p2).toInt8.toInt32)), .val (.int ((p3).toInt8.toInt32)), .val (.ref r), .val (.ref w), .val (.int (1 : Int32)), .val (.ref o), .unset] [])) _
      refine XS.aload X25.here hx rfl (hb hby at_130) rfl rfl ?_
      exact zk
    obtain ⟨cl27, Ar27, Aq27, As27, An27, Ah27, Ag27⟩ := id V_o
    have R28 : ∀ zt, Steps p.tables e below (T25.setTop (mkF m 156 #[.val (.int p0), .val (.int p1), .val (.int p2), .val (.int p3), .val (.int (1 : Int32)), .val (.int ((p1).toInt8.toInt32)), .val (.int ((p2).toInt8.toInt32)), .val (.int ((p3).toInt8.toInt32)), .val (.ref r), .val (.ref w), .val (.int (1 : Int32)), .val (.ref o), .val (.int (1 : Int32))] [(.int (0 : Int32)), (.ref o)])) zt → Steps p.tables e below (s₁.setTop (entryFrame m #[(.int p0), (.int p1), (.int p2), (.int p3)] maxLocals)) zt := by
      intro zt zk
      refine R26 zt ?_
      show Steps p.tables e below (T25.setTop (mkF m 132 #[.val (.int p0), .val (.int p1), .val (.int p2), .val (.int p3), .val (.int (1 : Int32)), .val (.int ((p1).toInt8.toInt32)), .val (.int ((p2).toInt8.toInt32)), .val (.int ((p3).toInt8.toInt32)), .val (.ref r), .val (.ref w), .val (.int (1 : Int32)), .val (.ref o), .unset] [(.ref o)])) _
      refine X25.arraylength hx Ar27.1 (State.isArrayOf_alike hZ.alike Ar27.2.1) (g := (mkF m 132 #[.val (.int p0), .val (.int p1), .val (.int p2), .val (.int p3), .val (.int (1 : Int32)), .val (.int ((p1).toInt8.toInt32)), .val (.int ((p2).toInt8.toInt32)), .val (.int ((p3).toInt8.toInt32)), .val (.ref r), .val (.ref w), .val (.int (1 : Int32)), .val (.ref o), .unset] [(.ref o)])) rfl rfl (hb hby at_132) _ ?_
      rw [len_of As27 An27]
      show Steps p.tables e below (T25.setTop (mkF m 133 #[.val (.int p0), .val (.int p1), .val (.int p2), .val (.int p3), .val (.int (1 : Int32)), .val (.int ((p1).toInt8.toInt32)), .val (.int ((p2).toInt8.toInt32)), .val (.int ((p3).toInt8.toInt32)), .val (.ref r), .val (.ref w), .val (.int (1 : Int32)), .val (.ref o), .unset] [(.int (1 : Int32))])) _
      refine XS.iload X25.here hx rfl (hb hby at_133) rfl ?_
      show Steps p.tables e below (T25.setTop (mkF m 135 #[.val (.int p0), .val (.int p1), .val (.int p2), .val (.int p3), .val (.int (1 : Int32)), .val (.int ((p1).toInt8.toInt32)), .val (.int ((p2).toInt8.toInt32)), .val (.int ((p3).toInt8.toInt32)), .val (.ref r), .val (.ref w), .val (.int (1 : Int32)), .val (.ref o), .unset] [(.int (1 : Int32)), (.int (1 : Int32))])) _
      refine XS.icmpYes X25.here hx rfl (pc0 := 135) (pc' := 140) rfl (hb hby at_135) rfl (teq (rfl : (1 : Int32) = (1 : Int32))).1 (by decide) (by decide) ?_
      show Steps p.tables e below (T25.setTop (mkF m 140 #[.val (.int p0), .val (.int p1), .val (.int p2), .val (.int p3), .val (.int (1 : Int32)), .val (.int ((p1).toInt8.toInt32)), .val (.int ((p2).toInt8.toInt32)), .val (.int ((p3).toInt8.toInt32)), .val (.ref r), .val (.ref w), .val (.int (1 : Int32)), .val (.ref o), .unset] [])) _
      refine XS.iconst X25.here hx rfl (hb hby at_140) ?_
      show Steps p.tables e below (T25.setTop (mkF m 141 #[.val (.int p0), .val (.int p1), .val (.int p2), .val (.int p3), .val (.int (1 : Int32)), .val (.int ((p1).toInt8.toInt32)), .val (.int ((p2).toInt8.toInt32)), .val (.int ((p3).toInt8.toInt32)), .val (.ref r), .val (.ref w), .val (.int (1 : Int32)), .val (.ref o), .unset] [(.int (1 : Int32))])) _
      refine XS.istore X25.here hx rfl (hb hby at_141) rfl (l' := #[.val (.int p0), .val (.int p1), .val (.int p2), .val (.int p3), .val (.int (1 : Int32)), .val (.int ((p1).toInt8.toInt32)), .val (.int ((p2).toInt8.toInt32)), .val (.int ((p3).toInt8.toInt32)), .val (.ref r), .val (.ref w), .val (.int (1 : Int32)), .val (.ref o), .val (.int (1 : Int32))]) rfl ?_
      show Steps p.tables e below (T25.setTop (mkF m 143 #[.val (.int p0), .val (.int p1), .val (.int p2), .val (.int p3), .val (.int (1 : Int32)), .val (.int ((p1).toInt8.toInt32)), .val (.int ((p2).toInt8.toInt32)), .val (.int ((p3).toInt8.toInt32)), .val (.ref r), .val (.ref w), .val (.int (1 : Int32)), .val (.ref o), .val (.int (1 : Int32))] [])) _
      refine XS.iload X25.here hx rfl (hb hby at_143) rfl ?_
      show Steps p.tables e below (T25.setTop (mkF m 145 #[.val (.int p0), .val (.int p1), .val (.int p2), .val (.int p3), .val (.int (1 : Int32)), .val (.int ((p1).toInt8.toInt32)), .val (.int ((p2).toInt8.toInt32)), .val (.int ((p3).toInt8.toInt32)), .val (.ref r), .val (.ref w), .val (.int (1 : Int32)), .val (.ref o), .val (.int (1 : Int32))] [(.int (1 : Int32))])) _
      refine XS.ifNo X25.here hx rfl (hb hby at_145) rfl ((if0 _ _).trans (tlt (by decide)).2.2.2) ?_
      show Steps p.tables e below (T25.setTop (mkF m 148 #[.val (.int p0), .val (.int p1), .val (.int p2), .val (.int p3), .val (.int (1 : Int32)), .val (.int ((p1).toInt8.toInt32)), .val (.int ((p2).toInt8.toInt32)), .val (.int ((p3).toInt8.toInt32)), .val (.ref r), .val (.ref w), .val (.int (1 : Int32)), .val (.ref o), .val (.int (1 : Int32))] [])) _
      refine XS.iload X25.here hx rfl (hb hby at_148) rfl ?_
      show Steps p.tables e below (T25.setTop (mkF m 150 #[.val (.int p0), .val (.int p1), .val (.int p2), .val (.int p3), .val (.int (1 : Int32)), .val (.int ((p1).toInt8.toInt32)), .val (.int ((p2).toInt8.toInt32)), .val (.int ((p3).toInt8.toInt32)), .val (.ref r), .val (.ref w), .val (.int (1 : Int32)), .val (.ref o), .val (.int (1 : Int32))] [(.int (1 : Int32))])) _
      refine XS.ifNo X25.here hx rfl (hb hby at_150) rfl ((if0 _ _).trans (feq (by decide)).1) ?_
      show Steps p.tables e below (T25.setTop (mkF m 153 #[.val (.int p0), .val (.int p1), .val (.int p2), .val (.int p3), .val (.int (1 : Int32)), .val (.int ((p1).toInt8.toInt32)), .val (.int ((p2).toInt8.toInt32)), .val (.int ((p3).toInt8.toInt32)), .val (.ref r), .val (.ref w), .val (.int (1 : Int32)), .val (.ref o), .val (.int (1 : Int32))] [])) _
      refine XS.aload X25.here hx rfl (hb hby at_153) rfl rfl ?_
      show Steps p.tables e below (T25.setTop (mkF m 155 #[.val (.int p0), .val (.int p1), .val (.int p2), .val (.int p3), .val (.int (1 : Int32)), .val (.int ((p1).toInt8.toInt32)), .val (.int ((p2).toInt8.toInt32)), .val (.int ((p3).toInt8.toInt32)), .val (.ref r), .val (.ref w), .val (.int (1 : Int32)), .val (.ref o), .val (.int (1 : Int32))] [(.ref o)])) _
      refine XS.iconst X25.here hx rfl (hb hby at_155) ?_
      exact zk
    obtain ⟨cl29, Ar29, Aq29, As29, An29, Ah29, Ag29⟩ := id V_o
    have hin29 : ¬ ((0 : Int32) < 0 ∨ cl29.slots.size ≤ ((0 : Int32)).toNatClampNeg) := inb_of As29 ⟨by decide, by decide⟩
    have hat29 : cl29.slots[((0 : Int32)).toNatClampNeg]? = some (.int (nar .byte ((p1).toInt8.toInt32))) := Has.at Ah29 hin29 rfl
    have R30 : ∀ zt, Steps p.tables e below (T25.setTop (mkF m 225 #[.val (.int p0), .val (.int p1), .val (.int p2), .val (.int p3), .val (.int (1 : Int32)), .val (.int ((p1).toInt8.toInt32)), .val (.int ((p2).toInt8.toInt32)), .val (.int ((p3).toInt8.toInt32)), .val (.ref r), .val (.ref w), .val (.int (1 : Int32)), .val (.ref o), .val (.int (1 : Int32))] [(.int (1 : Int32))])) zt → Steps p.tables e below (s₁.setTop (entryFrame m #[(.int p0), (.int p1), (.int p2), (.int p3)] maxLocals)) zt := by
      intro zt zk
      refine R28 zt ?_
      show Steps p.tables e below (T25.setTop (mkF m 156 #[.val (.int p0), .val (.int p1), .val (.int p2), .val (.int p3), .val (.int (1 : Int32)), .val (.int ((p1).toInt8.toInt32)), .val (.int ((p2).toInt8.toInt32)), .val (.int ((p3).toInt8.toInt32)), .val (.ref r), .val (.ref w), .val (.int (1 : Int32)), .val (.ref o), .val (.int (1 : Int32))] [(.int (0 : Int32)), (.ref o)])) _
      refine X25.baloadBytes hx (j := (0 : Int32)) (v := (.int (nar .byte ((p1).toInt8.toInt32)))) Ar29.1 (State.isArrayOf_alike hZ.alike Ar29.2.1) Ar29.2.2 hin29 hat29 (g := (mkF m 156 #[.val (.int p0), .val (.int p1), .val (.int p2), .val (.int p3), .val (.int (1 : Int32)), .val (.int ((p1).toInt8.toInt32)), .val (.int ((p2).toInt8.toInt32)), .val (.int ((p3).toInt8.toInt32)), .val (.ref r), .val (.ref w), .val (.int (1 : Int32)), .val (.ref o), .val (.int (1 : Int32))] [(.int (0 : Int32)), (.ref o)])) rfl rfl (hb hby at_156) _ ?_
      show Steps p.tables e below (T25.setTop (mkF m 157 #[.val (.int p0), .val (.int p1), .val (.int p2), .val (.int p3), .val (.int (1 : Int32)), .val (.int ((p1).toInt8.toInt32)), .val (.int ((p2).toInt8.toInt32)), .val (.int ((p3).toInt8.toInt32)), .val (.ref r), .val (.ref w), .val (.int (1 : Int32)), .val (.ref o), .val (.int (1 : Int32))] [(.int (nar .byte ((p1).toInt8.toInt32)))])) _
      refine XS.iload X25.here hx rfl (hb hby at_157) rfl ?_
      show Steps p.tables e below (T25.setTop (mkF m 159 #[.val (.int p0), .val (.int p1), .val (.int p2), .val (.int p3), .val (.int (1 : Int32)), .val (.int ((p1).toInt8.toInt32)), .val (.int ((p2).toInt8.toInt32)), .val (.int ((p3).toInt8.toInt32)), .val (.ref r), .val (.ref w), .val (.int (1 : Int32)), .val (.ref o), .val (.int (1 : Int32))] [(.int ((p1).toInt8.toInt32)), (.int (nar .byte ((p1).toInt8.toInt32)))])) _
      refine XS.icmpNo X25.here hx rfl (hb hby at_159) rfl (teq (own_b8 _)).2 ?_
      show Steps p.tables e below (T25.setTop (mkF m 162 #[.val (.int p0), .val (.int p1), .val (.int p2), .val (.int p3), .val (.int (1 : Int32)), .val (.int ((p1).toInt8.toInt32)), .val (.int ((p2).toInt8.toInt32)), .val (.int ((p3).toInt8.toInt32)), .val (.ref r), .val (.ref w), .val (.int (1 : Int32)), .val (.ref o), .val (.int (1 : Int32))] [])) _
      refine XS.iconst X25.here hx rfl (hb hby at_162) ?_
      show Steps p.tables e below (T25.setTop (mkF m 163 #[.val (.int p0), .val (.int p1), .val (.int p2), .val (.int p3), .val (.int (1 : Int32)), .val (.int ((p1).toInt8.toInt32)), .val (.int ((p2).toInt8.toInt32)), .val (.int ((p3).toInt8.toInt32)), .val (.ref r), .val (.ref w), .val (.int (1 : Int32)), .val (.ref o), .val (.int (1 : Int32))] [(.int (1 : Int32))])) _
      refine XS.goto X25.here hx rfl (pc0 := 163) (pc' := 167) rfl (hb hby at_163) (by decide) (by decide) ?_
      show Steps p.tables e below (T25.setTop (mkF m 167 #[.val (.int p0), .val (.int p1), .val (.int p2), .val (.int p3), .val (.int (1 : Int32)), .val (.int ((p1).toInt8.toInt32)), .val (.int ((p2).toInt8.toInt32)), .val (.int ((p3).toInt8.toInt32)), .val (.ref r), .val (.ref w), .val (.int (1 : Int32)), .val (.ref o), .val (.int (1 : Int32))] [(.int (1 : Int32))])) _
      refine XS.istore X25.here hx rfl (hb hby at_167) rfl (l' := #[.val (.int p0), .val (.int p1), .val (.int p2), .val (.int p3), .val (.int (1 : Int32)), .val (.int ((p1).toInt8.toInt32)), .val (.int ((p2).toInt8.toInt32)), .val (.int ((p3).toInt8.toInt32)), .val (.ref r), .val (.ref w), .val (.int (1 : Int32)), .val (.ref o), .val (.int (1 : Int32))]) rfl ?_
      show Steps p.tables e below (T25.setTop (mkF m 169 #[.val (.int p0), .val (.int p1), .val (.int p2), .val (.int p3), .val (.int (1 : Int32)), .val (.int ((p1).toInt8.toInt32)), .val (.int ((p2).toInt8.toInt32)), .val (.int ((p3).toInt8.toInt32)), .val (.ref r), .val (.ref w), .val (.int (1 : Int32)), .val (.ref o), .val (.int (1 : Int32))] [])) _
      refine XS.iload X25.here hx rfl (hb hby at_169) rfl ?_
      show Steps p.tables e below (T25.setTop (mkF m 171 #[.val (.int p0), .val (.int p1), .val (.int p2), .val (.int p3), .val (.int (1 : Int32)), .val (.int ((p1).toInt8.toInt32)), .val (.int ((p2).toInt8.toInt32)), .val (.int ((p3).toInt8.toInt32)), .val (.ref r), .val (.ref w), .val (.int (1 : Int32)), .val (.ref o), .val (.int (1 : Int32))] [(.int (1 : Int32))])) _
      refine XS.iconst X25.here hx rfl (hb hby at_171) ?_
      show Steps p.tables e below (T25.setTop (mkF m 172 #[.val (.int p0), .val (.int p1), .val (.int p2), .val (.int p3), .val (.int (1 : Int32)), .val (.int ((p1).toInt8.toInt32)), .val (.int ((p2).toInt8.toInt32)), .val (.int ((p3).toInt8.toInt32)), .val (.ref r), .val (.ref w), .val (.int (1 : Int32)), .val (.ref o), .val (.int (1 : Int32))] [(.int (1 : Int32)), (.int (1 : Int32))])) _
      refine XS.icmpYes X25.here hx rfl (pc0 := 172) (pc' := 196) rfl (hb hby at_172) rfl (flt (by decide)).2.2.2 (by decide) (by decide) ?_
      show Steps p.tables e below (T25.setTop (mkF m 196 #[.val (.int p0), .val (.int p1), .val (.int p2), .val (.int p3), .val (.int (1 : Int32)), .val (.int ((p1).toInt8.toInt32)), .val (.int ((p2).toInt8.toInt32)), .val (.int ((p3).toInt8.toInt32)), .val (.ref r), .val (.ref w), .val (.int (1 : Int32)), .val (.ref o), .val (.int (1 : Int32))] [])) _
      refine XS.iload X25.here hx rfl (hb hby at_196) rfl ?_
      show Steps p.tables e below (T25.setTop (mkF m 198 #[.val (.int p0), .val (.int p1), .val (.int p2), .val (.int p3), .val (.int (1 : Int32)), .val (.int ((p1).toInt8.toInt32)), .val (.int ((p2).toInt8.toInt32)), .val (.int ((p3).toInt8.toInt32)), .val (.ref r), .val (.ref w), .val (.int (1 : Int32)), .val (.ref o), .val (.int (1 : Int32))] [(.int (1 : Int32))])) _
      refine XS.iconst X25.here hx rfl (hb hby at_198) ?_
      show Steps p.tables e below (T25.setTop (mkF m 199 #[.val (.int p0), .val (.int p1), .val (.int p2), .val (.int p3), .val (.int (1 : Int32)), .val (.int ((p1).toInt8.toInt32)), .val (.int ((p2).toInt8.toInt32)), .val (.int ((p3).toInt8.toInt32)), .val (.ref r), .val (.ref w), .val (.int (1 : Int32)), .val (.ref o), .val (.int (1 : Int32))] [(.int (2 : Int32)), (.int (1 : Int32))])) _
      refine XS.icmpYes X25.here hx rfl (pc0 := 199) (pc' := 223) rfl (hb hby at_199) rfl (flt (by decide)).2.2.2 (by decide) (by decide) ?_
      show Steps p.tables e below (T25.setTop (mkF m 223 #[.val (.int p0), .val (.int p1), .val (.int p2), .val (.int p3), .val (.int (1 : Int32)), .val (.int ((p1).toInt8.toInt32)), .val (.int ((p2).toInt8.toInt32)), .val (.int ((p3).toInt8.toInt32)), .val (.ref r), .val (.ref w), .val (.int (1 : Int32)), .val (.ref o), .val (.int (1 : Int32))] [])) _
      refine XS.iload X25.here hx rfl (hb hby at_223) rfl ?_
      exact zk
    obtain ⟨fs, hr, hrun, hended, hRE⟩ := Jvm.Stand.leaveW (s := s) (vm₁ := T18.vm) X25 Sc18 GS (v := some (.int (1 : Int32))) (fun h => by rw [Bd.returns] at h; cases h)
    refine ⟨_, _, R30 _ ?_, hrun, hended, _, _, rfl, ?_, hRE.1, hRE.2.1, hRE.2.2.1, hRE.2.2.2.mono (by decide) (by decide)⟩
    · exact retN X25 hx (t := .boolean) Bd.returns (by simp) (hb hby at_225) hr
    · show Q0 Z p0 p1 p2 p3 h0 n0 _ T25.heap _
      exact ⟨rfl, N25⟩
  ·
    rw [hv2] at R1
    obtain ⟨T31, h31, k31, X31, e31, E31, A31, AE31, st31⟩ := newPE X0 hx hZ (hw _ (List.mem_of_getElem? (i := 0) rfl)) e0 (g := (mkF m 19 #[.val (.int p0), .val (.int p1), .val (.int p2), .val (.int p3), .val (.int (2 : Int32)), .val (.int ((p1).toInt8.toInt32)), .val (.int ((p2).toInt8.toInt32)), .val (.int ((p3).toInt8.toInt32)), .unset, .unset, .unset, .unset, .unset] [(.int (2 : Int32))])) rfl (hb hby at_19) rfl (by decide) (cap := 2) (by decide) (by decide) (by decide) (by decide) (ad := "[B") (by decide)
    obtain ⟨r, g31⟩ : ∃ z, z = h0.size := ⟨_, rfl⟩
    rw [← g31] at A31 st31 AE31
    have ge_r : n0 ≤ r := by rw [g31]; exact Z0
    have Sz31 := Nat.le_trans Z0 E31.1
    have V_r : Arv Z h31 r k31 .byte (2 : Int32) [(.int (0 : Int32)), (.int (0 : Int32))] (.int (0 : Int32)) := (Arv.new A31 (by decide)).pad (pad_rep [] (.int (0 : Int32)) 2)
    have E_r := AE31
    have R32 : ∀ zt, Steps p.tables e below (T31.setTop (mkF m 33 #[.val (.int p0), .val (.int p1), .val (.int p2), .val (.int p3), .val (.int (2 : Int32)), .val (.int ((p1).toInt8.toInt32)), .val (.int ((p2).toInt8.toInt32)), .val (.int ((p3).toInt8.toInt32)), .val (.ref r), .unset, .unset, .unset, .unset] [(.int ((p1).toInt8.toInt32)), (.int (0 : Int32)), (.ref r)])) zt → Steps p.tables e below (s₁.setTop (entryFrame m #[(.int p0), (.int p1), (.int p2), (.int p3)] maxLocals)) zt := by
      intro zt zk
      refine R1 zt ?_
      show Steps p.tables e below (s₁.setTop (mkF m 19 #[.val (.int p0), .val (.int p1), .val (.int p2), .val (.int p3), .val (.int (2 : Int32)), .val (.int ((p1).toInt8.toInt32)), .val (.int ((p2).toInt8.toInt32)), .val (.int ((p3).toInt8.toInt32)), .unset, .unset, .unset, .unset, .unset] [(.int (2 : Int32))])) _
      refine st31 _ ?_
      show Steps p.tables e below (T31.setTop (mkF m 21 #[.val (.int p0), .val (.int p1), .val (.int p2), .val (.int p3), .val (.int (2 : Int32)), .val (.int ((p1).toInt8.toInt32)), .val (.int ((p2).toInt8.toInt32)), .val (.int ((p3).toInt8.toInt32)), .unset, .unset, .unset, .unset, .unset] [(.ref r)])) _
      refine XS.astore X31.here hx rfl (hb hby at_21) rfl rfl (l' := #[.val (.int p0), .val (.int p1), .val (.int p2), .val (.int p3), .val (.int (2 : Int32)), .val (.int ((p1).toInt8.toInt32)), .val (.int ((p2).toInt8.toInt32)), .val (.int ((p3).toInt8.toInt32)), .val (.ref r), .unset, .unset, .unset, .unset]) rfl ?_
      show Steps p.tables e below (T31.setTop (mkF m 23 #[.val (.int p0), .val (.int p1), .val (.int p2), .val (.int p3), .val (.int (2 : Int32)), .val (.int ((p1).toInt8.toInt32)), .val (.int ((p2).toInt8.toInt32)), .val (.int ((p3).toInt8.toInt32)), .val (.ref r), .unset, .unset, .unset, .unset] [])) _
      refine XS.iload X31.here hx rfl (hb hby at_23) rfl ?_
      show Steps p.tables e below (T31.setTop (mkF m 25 #[.val (.int p0), .val (.int p1), .val (.int p2), .val (.int p3), .val (.int (2 : Int32)), .val (.int ((p1).toInt8.toInt32)), .val (.int ((p2).toInt8.toInt32)), .val (.int ((p3).toInt8.toInt32)), .val (.ref r), .unset, .unset, .unset, .unset] [(.int (2 : Int32))])) _
      refine XS.ifNo X31.here hx rfl (hb hby at_25) rfl ((if0 _ _).trans (tlt (by decide)).2.2.2) ?_
      show Steps p.tables e below (T31.setTop (mkF m 28 #[.val (.int p0), .val (.int p1), .val (.int p2), .val (.int p3), .val (.int (2 : Int32)), .val (.int ((p1).toInt8.toInt32)), .val (.int ((p2).toInt8.toInt32)), .val (.int ((p3).toInt8.toInt32)), .val (.ref r), .unset, .unset, .unset, .unset] [])) _
      refine XS.aload X31.here hx rfl (hb hby at_28) rfl rfl ?_
      show Steps p.tables e below (T31.setTop (mkF m 30 #[.val (.int p0), .val (.int p1), .val (.int p2), .val (.int p3), .val (.int (2 : Int32)), .val (.int ((p1).toInt8.toInt32)), .val (.int ((p2).toInt8.toInt32)), .val (.int ((p3).toInt8.toInt32)), .val (.ref r), .unset, .unset, .unset, .unset] [(.ref r)])) _
      refine XS.iconst X31.here hx rfl (hb hby at_30) ?_
      show Steps p.tables e below (T31.setTop (mkF m 31 #[.val (.int p0), .val (.int p1), .val (.int p2), .val (.int p3), .val (.int (2 : Int32)), .val (.int ((p1).toInt8.toInt32)), .val (.int ((p2).toInt8.toInt32)), .val (.int ((p3).toInt8.toInt32)), .val (.ref r), .unset, .unset, .unset, .unset] [(.int (0 : Int32)), (.ref r)])) _
      refine XS.iload X31.here hx rfl (hb hby at_31) rfl ?_
      exact zk
    obtain ⟨cl33, Ar33, Aq33, As33, An33, Ah33, Ag33⟩ := id V_r
    have hin33 : ¬ ((0 : Int32) < 0 ∨ cl33.slots.size ≤ ((0 : Int32)).toNatClampNeg) := inb_of As33 ⟨by decide, by decide⟩
    obtain ⟨T34, h34, X34, e34, W34, st34⟩ := stB X31 hx hZ e31 Ar33 (j := (0 : Int32)) hin33 (g := (mkF m 33 #[.val (.int p0), .val (.int p1), .val (.int p2), .val (.int p3), .val (.int (2 : Int32)), .val (.int ((p1).toInt8.toInt32)), .val (.int ((p2).toInt8.toInt32)), .val (.int ((p3).toInt8.toInt32)), .val (.ref r), .unset, .unset, .unset, .unset] [(.int ((p1).toInt8.toInt32)), (.int (0 : Int32)), (.ref r)])) rfl rfl (hb hby at_33)
    have N34 := Fr.snoc X34 N0 ge_r
    have Sz34 := Nat.le_trans Sz31 (Keep.of_wr W34).1
    have E_r := E_r.wr W34
    have V_r : Arv Z h34 r k31 .byte (2 : Int32) [(.int (nar .byte ((p1).toInt8.toInt32))), (.int (0 : Int32))] (.int (0 : Int32)) := Arv.set Ar33 Aq33 As33 An33 Ah33 Ag33 (fits_nar_byte _) W34 0 rfl (Nat.le_of_ble_eq_true rfl)
    have R35 : ∀ zt, Steps p.tables e below (T34.setTop (mkF m 45 #[.val (.int p0), .val (.int p1), .val (.int p2), .val (.int p3), .val (.int (2 : Int32)), .val (.int ((p1).toInt8.toInt32)), .val (.int ((p2).toInt8.toInt32)), .val (.int ((p3).toInt8.toInt32)), .val (.ref r), .unset, .unset, .unset, .unset] [(.int ((p2).toInt8.toInt32)), (.int (1 : Int32)), (.ref r)])) zt → Steps p.tables e below (s₁.setTop (entryFrame m #[(.int p0), (.int p1), (.int p2), (.int p3)] maxLocals)) zt := by
      intro zt zk
      refine R32 zt ?_
      show Steps p.tables e below (T31.setTop (mkF m 33 #[.val (.int p0), .val (.int p1), .val (.int p2), .val (.int p3), .val (.int (2 : Int32)), .val (.int ((p1).toInt8.toInt32)), .val (.int ((p2).toInt8.toInt32)), .val (.int ((p3).toInt8.toInt32)), .val (.ref r), .unset, .unset, .unset, .unset] [(.int ((p1).toInt8.toInt32)), (.int (0 : Int32)), (.ref r)])) _
      refine st34 _ ?_
      show Steps p.tables e below (T34.setTop (mkF m 34 #[.val (.int p0), .val (.int p1), .val (.int p2), .val (.int p3), .val (.int (2 : Int32)), .val (.int ((p1).toInt8.toInt32)), .val (.int ((p2).toInt8.toInt32)), .val (.int ((p3).toInt8.toInt32)), .val (.ref r), .unset, .unset, .unset, .unset] [])) _
      refine XS.iload X34.here hx rfl (hb hby at_34) rfl ?_
      show Steps p.tables e below (T34.setTop (mkF m 36 #[.val (.int p0), .val (.int p1), .val (.int p2), .val (.int p3), .val (.int (2 : Int32)), .val (.int ((p1).toInt8.toInt32)), .val (.int ((p2).toInt8.toInt32)), .val (.int ((p3).toInt8.toInt32)), .val (.ref r), .unset, .unset, .unset, .unset] [(.int (2 : Int32))])) _
      refine XS.iconst X34.here hx rfl (hb hby at_36) ?_
      show Steps p.tables e below (T34.setTop (mkF m 37 #[.val (.int p0), .val (.int p1), .val (.int p2), .val (.int p3), .val (.int (2 : Int32)), .val (.int ((p1).toInt8.toInt32)), .val (.int ((p2).toInt8.toInt32)), .val (.int ((p3).toInt8.toInt32)), .val (.ref r), .unset, .unset, .unset, .unset] [(.int (1 : Int32)), (.int (2 : Int32))])) _
      refine XS.icmpNo X34.here hx rfl (hb hby at_37) rfl (tlt (by decide)).2.2.2 ?_
      show Steps p.tables e below (T34.setTop (mkF m 40 #[.val (.int p0), .val (.int p1), .val (.int p2), .val (.int p3), .val (.int (2 : Int32)), .val (.int ((p1).toInt8.toInt32)), .val (.int ((p2).toInt8.toInt32)), .val (.int ((p3).toInt8.toInt32)), .val (.ref r), .unset, .unset, .unset, .unset] [])) _
      refine XS.aload X34.here hx rfl (hb hby at_40) rfl rfl ?_
      show Steps p.tables e below (T34.setTop (mkF m 42 #[.val (.int p0), .val (.int p1), .val (.int p2), .val (.int p3), .val (.int (2 : Int32)), .val (.int ((p1).toInt8.toInt32)), .val (.int ((p2).toInt8.toInt32)), .val (.int ((p3).toInt8.toInt32)), .val (.ref r), .unset, .unset, .unset, .unset] [(.ref r)])) _
      refine XS.iconst X34.here hx rfl (hb hby at_42) ?_
      show Steps p.tables e below (T34.setTop (mkF m 43 #[.val (.int p0), .val (.int p1), .val (.int p2), .val (.int p3), .val (.int (2 : Int32)), .val (.int ((p1).toInt8.toInt32)), .val (.int ((p2).toInt8.toInt32)), .val (.int ((p3).toInt8.toInt32)), .val (.ref r), .unset, .unset, .unset, .unset] [(.int (1 : Int32)), (.ref r)])) _
      refine XS.iload X34.here hx rfl (hb hby at_43) rfl ?_
      exact zk
    obtain ⟨cl36, Ar36, Aq36, As36, An36, Ah36, Ag36⟩ := id V_r
    have hin36 : ¬ ((1 : Int32) < 0 ∨ cl36.slots.size ≤ ((1 : Int32)).toNatClampNeg) := inb_of As36 ⟨by decide, by decide⟩
    obtain ⟨T37, h37, X37, e37, W37, st37⟩ := stB X34 hx hZ e34 Ar36 (j := (1 : Int32)) hin36 (g := (mkF m 45 #[.val (.int p0), .val (.int p1), .val (.int p2), .val (.int p3), .val (.int (2 : Int32)), .val (.int ((p1).toInt8.toInt32)), .val (.int ((p2).toInt8.toInt32)), .val (.int ((p3).toInt8.toInt32)), .val (.ref r), .unset, .unset, .unset, .unset] [(.int ((p2).toInt8.toInt32)), (.int (1 : Int32)), (.ref r)])) rfl rfl (hb hby at_45)
    have N37 := Fr.snoc X37 N34 ge_r
    have Sz37 := Nat.le_trans Sz34 (Keep.of_wr W37).1
    have E_r := E_r.wr W37
    have V_r : Arv Z h37 r k31 .byte (2 : Int32) [(.int (nar .byte ((p1).toInt8.toInt32))), (.int (nar .byte ((p2).toInt8.toInt32)))] (.int (0 : Int32)) := Arv.set Ar36 Aq36 As36 An36 Ah36 Ag36 (fits_nar_byte _) W37 1 rfl (Nat.le_of_ble_eq_true rfl)
    have R38 : ∀ zt, Steps p.tables e below (T37.setTop (mkF m 60 #[.val (.int p0), .val (.int p1), .val (.int p2), .val (.int p3), .val (.int (2 : Int32)), .val (.int ((p1).toInt8.toInt32)), .val (.int ((p2).toInt8.toInt32)), .val (.int ((p3).toInt8.toInt32)), .val (.ref r), .unset, .unset, .unset, .unset] [(.ref r)])) zt → Steps p.tables e below (s₁.setTop (entryFrame m #[(.int p0), (.int p1), (.int p2), (.int p3)] maxLocals)) zt := by
      intro zt zk
      refine R35 zt ?_
      show Steps p.tables e below (T34.setTop (mkF m 45 #[.val (.int p0), .val (.int p1), .val (.int p2), .val (.int p3), .val (.int (2 : Int32)), .val (.int ((p1).toInt8.toInt32)), .val (.int ((p2).toInt8.toInt32)), .val (.int ((p3).toInt8.toInt32)), .val (.ref r), .unset, .unset, .unset, .unset] [(.int ((p2).toInt8.toInt32)), (.int (1 : Int32)), (.ref r)])) _
      refine st37 _ ?_
      show Steps p.tables e below (T37.setTop (mkF m 46 #[.val (.int p0), .val (.int p1), .val (.int p2), .val (.int p3), .val (.int (2 : Int32)), .val (.int ((p1).toInt8.toInt32)), .val (.int ((p2).toInt8.toInt32)), .val (.int ((p3).toInt8.toInt32)), .val (.ref r), .unset, .unset, .unset, .unset] [])) _
      refine XS.iload X37.here hx rfl (hb hby at_46) rfl ?_
      show Steps p.tables e below (T37.setTop (mkF m 48 #[.val (.int p0), .val (.int p1), .val (.int p2), .val (.int p3), .val (.int (2 : Int32)), .val (.int ((p1).toInt8.toInt32)), .val (.int ((p2).toInt8.toInt32)), .val (.int ((p3).toInt8.toInt32)), .val (.ref r), .unset, .unset, .unset, .unset] [(.int (2 : Int32))])) _
      refine XS.iconst X37.here hx rfl (hb hby at_48) ?_
      show Steps p.tables e below (T37.setTop (mkF m 49 #[.val (.int p0), .val (.int p1), .val (.int p2), .val (.int p3), .val (.int (2 : Int32)), .val (.int ((p1).toInt8.toInt32)), .val (.int ((p2).toInt8.toInt32)), .val (.int ((p3).toInt8.toInt32)), .val (.ref r), .unset, .unset, .unset, .unset] [(.int (2 : Int32)), (.int (2 : Int32))])) _
      refine XS.icmpYes X37.here hx rfl (pc0 := 49) (pc' := 58) rfl (hb hby at_49) rfl (flt (by decide)).2.2.2 (by decide) (by decide) ?_
      show Steps p.tables e below (T37.setTop (mkF m 58 #[.val (.int p0), .val (.int p1), .val (.int p2), .val (.int p3), .val (.int (2 : Int32)), .val (.int ((p1).toInt8.toInt32)), .val (.int ((p2).toInt8.toInt32)), .val (.int ((p3).toInt8.toInt32)), .val (.ref r), .unset, .unset, .unset, .unset] [])) _
      refine XS.aload X37.here hx rfl (hb hby at_58) rfl rfl ?_
      exact zk
    have lt_r := V_r.lt
    obtain ⟨_, _, ⟨T39, L39, k39, n39⟩, -, X39, Sc39, gr39, ⟨Lc39, hQ39, l39, y39, z39⟩, st39⟩ := callSS X37 hx (y := (⟨"com/example/key_ranges/keyranges/ByteString", "copyOf", "([B)Lcom/example/key_ranges/keyranges/ByteString;"⟩ : MethodName)) hown (mvT hZ (hw _ (List.mem_of_getElem? (i := 1) rfl))) (mvT hZ (hw _ (List.mem_of_getElem? (i := 2) rfl))) (mvT hZ (hw _ (List.mem_of_getElem? (i := 3) rfl))) (mvT hZ (hw _ (List.mem_of_getElem? (i := 4) rfl))) (by decide) (backOfS (W := 0) (rm1 l Z a0 hw [] r k31 (2 : Int32) [(.int (nar .byte ((p1).toInt8.toInt32))), (.int (nar .byte ((p2).toInt8.toInt32)))] h37 n0 Sz37 V_r E_r (by decide)) hZ (hw _ (List.mem_of_getElem? (i := 4) rfl)) (hw _ (List.mem_of_getElem? (i := 3) rfl)) (by decide) (by decide)) (g := (mkF m 60 #[.val (.int p0), .val (.int p1), .val (.int p2), .val (.int p3), .val (.int (2 : Int32)), .val (.int ((p1).toInt8.toInt32)), .val (.int ((p2).toInt8.toInt32)), .val (.int ((p3).toInt8.toInt32)), .val (.ref r), .unset, .unset, .unset, .unset] [(.ref r)])) rfl (by rw [hml]; rfl) (argsL := [(.ref r)]) (rest := []) (lenOf pd_2 rfl) rfl (by show 2 * 0 + _ ≤ _; exact Nat.le_of_eq rfl) (hb hby at_60) (fun _ _ => ⟨rfl, e37, (by decide : 1 + 4 ≤ _), (by decide : 2 + 28 ≤ _)⟩)
    dsimp only [Pt.U, Pt.locs, Pt.cells, Pt.slots] at X39 l39 y39 z39 st39 hQ39 Sc39 gr39
    rw [y39, z39] at X39
    have X39 : Stand p l e room_1 (s.setVm T39.vm) m #[(.int p0), (.int p1), (.int p2), (.int p3)] below meth c T39 L39 5 30 := X39
    obtain ⟨rfl, Nq39, ⟨q, qsz, qne, K39, E_w, F_bytes_w, V_q, E_q⟩⟩ := hQ39
    have N39 : Fr n0 L39 := by rw [l39]; exact Fr.app N37 Nq39
    clear l39 y39 z39
    have hZ : Z.Warmed39 (s.setVm T39.vm).vm := State.Warmed39.trans hZ Sc39.1
    have hown : (s.setVm T39.vm).vm.findClass "com/example/key_ranges/keyranges/ByteStringCopyOfPinLaw" = some m.cls := (Sc39.1.alike.findClass _ _).trans hown
    have GS : T39.heap.size ≤ T39.heap.size := Nat.le_refl _
    have Sz39 := Nat.le_trans Sz37 K39.1
    have V_r := V_r.keep K39 nin0
    have E_r := E_r.keep K39
    obtain ⟨w, gw⟩ : ∃ z, z = h37.size := ⟨_, rfl⟩
    rw [← gw] at E_w F_bytes_w qne qsz st39
    have ne_r_w : r ≠ w := Nat.ne_of_lt (gw ▸ lt_r)
    have ne_r_q : r ≠ q := Nat.ne_of_lt (Nat.lt_of_lt_of_le (gw ▸ lt_r) qsz)
    have R40 : ∀ zt, Steps p.tables e below (T39.setTop (mkF m 78 #[.val (.int p0), .val (.int p1), .val (.int p2), .val (.int p3), .val (.int (2 : Int32)), .val (.int ((p1).toInt8.toInt32)), .val (.int ((p2).toInt8.toInt32)), .val (.int ((p3).toInt8.toInt32)), .val (.ref r), .val (.ref w), .unset, .unset, .unset] [(.int (((((p1).toInt8.toInt32) ^^^ (-1 : Int32))).toInt8.toInt32)), (.int (0 : Int32)), (.ref r)])) zt → Steps p.tables e below (s₁.setTop (entryFrame m #[(.int p0), (.int p1), (.int p2), (.int p3)] maxLocals)) zt := by
      intro zt zk
      refine R38 zt ?_
      show Steps p.tables e below (T37.setTop (mkF m 60 #[.val (.int p0), .val (.int p1), .val (.int p2), .val (.int p3), .val (.int (2 : Int32)), .val (.int ((p1).toInt8.toInt32)), .val (.int ((p2).toInt8.toInt32)), .val (.int ((p3).toInt8.toInt32)), .val (.ref r), .unset, .unset, .unset, .unset] [(.ref r)])) _
      refine st39.trans ?_
      show Steps p.tables e below (T39.setTop (mkF m 63 #[.val (.int p0), .val (.int p1), .val (.int p2), .val (.int p3), .val (.int (2 : Int32)), .val (.int ((p1).toInt8.toInt32)), .val (.int ((p2).toInt8.toInt32)), .val (.int ((p3).toInt8.toInt32)), .val (.ref r), .unset, .unset, .unset, .unset] [(.ref w)])) _
      refine XS.astore X39.here hx rfl (hb hby at_63) rfl rfl (l' := #[.val (.int p0), .val (.int p1), .val (.int p2), .val (.int p3), .val (.int (2 : Int32)), .val (.int ((p1).toInt8.toInt32)), .val (.int ((p2).toInt8.toInt32)), .val (.int ((p3).toInt8.toInt32)), .val (.ref r), .val (.ref w), .unset, .unset, .unset]) rfl ?_
      show Steps p.tables e below (T39.setTop (mkF m 65 #[.val (.int p0), .val (.int p1), .val (.int p2), .val (.int p3), .val (.int (2 : Int32)), .val (.int ((p1).toInt8.toInt32)), .val (.int ((p2).toInt8.toInt32)), .val (.int ((p3).toInt8.toInt32)), .val (.ref r), .val (.ref w), .unset, .unset, .unset] [])) _
      refine XS.iload X39.here hx rfl (hb hby at_65) rfl ?_
      show Steps p.tables e below (T39.setTop (mkF m 67 #[.val (.int p0), .val (.int p1), .val (.int p2), .val (.int p3), .val (.int (2 : Int32)), .val (.int ((p1).toInt8.toInt32)), .val (.int ((p2).toInt8.toInt32)), .val (.int ((p3).toInt8.toInt32)), .val (.ref r), .val (.ref w), .unset, .unset, .unset] [(.int (2 : Int32))])) _
      refine XS.ifNo X39.here hx rfl (hb hby at_67) rfl ((if0 _ _).trans (tlt (by decide)).2.2.2) ?_
      show Steps p.tables e below (T39.setTop (mkF m 70 #[.val (.int p0), .val (.int p1), .val (.int p2), .val (.int p3), .val (.int (2 : Int32)), .val (.int ((p1).toInt8.toInt32)), .val (.int ((p2).toInt8.toInt32)), .val (.int ((p3).toInt8.toInt32)), .val (.ref r), .val (.ref w), .unset, .unset, .unset] [])) _
      refine XS.aload X39.here hx rfl (hb hby at_70) rfl rfl ?_
      show Steps p.tables e below (T39.setTop (mkF m 72 #[.val (.int p0), .val (.int p1), .val (.int p2), .val (.int p3), .val (.int (2 : Int32)), .val (.int ((p1).toInt8.toInt32)), .val (.int ((p2).toInt8.toInt32)), .val (.int ((p3).toInt8.toInt32)), .val (.ref r), .val (.ref w), .unset, .unset, .unset] [(.ref r)])) _
      refine XS.iconst X39.here hx rfl (hb hby at_72) ?_
      show Steps p.tables e below (T39.setTop (mkF m 73 #[.val (.int p0), .val (.int p1), .val (.int p2), .val (.int p3), .val (.int (2 : Int32)), .val (.int ((p1).toInt8.toInt32)), .val (.int ((p2).toInt8.toInt32)), .val (.int ((p3).toInt8.toInt32)), .val (.ref r), .val (.ref w), .unset, .unset, .unset] [(.int (0 : Int32)), (.ref r)])) _
      refine XS.iload X39.here hx rfl (hb hby at_73) rfl ?_
      show Steps p.tables e below (T39.setTop (mkF m 75 #[.val (.int p0), .val (.int p1), .val (.int p2), .val (.int p3), .val (.int (2 : Int32)), .val (.int ((p1).toInt8.toInt32)), .val (.int ((p2).toInt8.toInt32)), .val (.int ((p3).toInt8.toInt32)), .val (.ref r), .val (.ref w), .unset, .unset, .unset] [(.int ((p1).toInt8.toInt32)), (.int (0 : Int32)), (.ref r)])) _
      refine XS.iconst X39.here hx rfl (hb hby at_75) ?_
      show Steps p.tables e below (T39.setTop (mkF m 76 #[.val (.int p0), .val (.int p1), .val (.int p2), .val (.int p3), .val (.int (2 : Int32)), .val (.int ((p1).toInt8.toInt32)), .val (.int ((p2).toInt8.toInt32)), .val (.int ((p3).toInt8.toInt32)), .val (.ref r), .val (.ref w), .unset, .unset, .unset] [(.int (-1 : Int32)), (.int ((p1).toInt8.toInt32)), (.int (0 : Int32)), (.ref r)])) _
      refine XS.ixor X39.here hx rfl (hb hby at_76) rfl ?_
      show Steps p.tables e below (T39.setTop (mkF m 77 #[.val (.int p0), .val (.int p1), .val (.int p2), .val (.int p3), .val (.int (2 : Int32)), .val (.int ((p1).toInt8.toInt32)), .val (.int ((p2).toInt8.toInt32)), .val (.int ((p3).toInt8.toInt32)), .val (.ref r), .val (.ref w), .unset, .unset, .unset] [(.int (((p1).toInt8.toInt32) ^^^ (-1 : Int32))), (.int (0 : Int32)), (.ref r)])) _
      refine XS.i2b X39.here hx rfl (hb hby at_77) rfl ?_
      exact zk
    obtain ⟨cl41, Ar41, Aq41, As41, An41, Ah41, Ag41⟩ := id V_r
    have hin41 : ¬ ((0 : Int32) < 0 ∨ cl41.slots.size ≤ ((0 : Int32)).toNatClampNeg) := inb_of As41 ⟨by decide, by decide⟩
    obtain ⟨T42, h42, X42, e42, W42, st42⟩ := stB X39 hx hZ rfl Ar41 (j := (0 : Int32)) hin41 (g := (mkF m 78 #[.val (.int p0), .val (.int p1), .val (.int p2), .val (.int p3), .val (.int (2 : Int32)), .val (.int ((p1).toInt8.toInt32)), .val (.int ((p2).toInt8.toInt32)), .val (.int ((p3).toInt8.toInt32)), .val (.ref r), .val (.ref w), .unset, .unset, .unset] [(.int (((((p1).toInt8.toInt32) ^^^ (-1 : Int32))).toInt8.toInt32)), (.int (0 : Int32)), (.ref r)])) rfl rfl (hb hby at_78)
    have N42 := Fr.snoc X42 N39 ge_r
    have Sz42 := Nat.le_trans Sz39 (Keep.of_wr W42).1
    have E_r := E_r.wr W42
    have GS := Nat.le_trans GS (Keep.of_wr W42).1
    have E_w := E_w.wr W42
    have F_bytes_w := F_bytes_w.other W42 (Or.inl ne_r_w.symm)
    have V_q := V_q.other W42 ne_r_q.symm
    have E_q := E_q.wr W42
    have V_r : Arv Z h42 r k31 .byte (2 : Int32) [(.int (nar .byte (((((p1).toInt8.toInt32) ^^^ (-1 : Int32))).toInt8.toInt32))), (.int (nar .byte ((p2).toInt8.toInt32)))] (.int (0 : Int32)) := Arv.set Ar41 Aq41 As41 An41 Ah41 Ag41 (fits_nar_byte _) W42 0 rfl (Nat.le_of_ble_eq_true rfl)
    have R43 : ∀ zt, Steps p.tables e below (T42.setTop (mkF m 93 #[.val (.int p0), .val (.int p1), .val (.int p2), .val (.int p3), .val (.int (2 : Int32)), .val (.int ((p1).toInt8.toInt32)), .val (.int ((p2).toInt8.toInt32)), .val (.int ((p3).toInt8.toInt32)), .val (.ref r), .val (.ref w), .unset, .unset, .unset] [(.int (((((p2).toInt8.toInt32) ^^^ (-1 : Int32))).toInt8.toInt32)), (.int (1 : Int32)), (.ref r)])) zt → Steps p.tables e below (s₁.setTop (entryFrame m #[(.int p0), (.int p1), (.int p2), (.int p3)] maxLocals)) zt := by
      intro zt zk
      refine R40 zt ?_
      show Steps p.tables e below (T39.setTop (mkF m 78 #[.val (.int p0), .val (.int p1), .val (.int p2), .val (.int p3), .val (.int (2 : Int32)), .val (.int ((p1).toInt8.toInt32)), .val (.int ((p2).toInt8.toInt32)), .val (.int ((p3).toInt8.toInt32)), .val (.ref r), .val (.ref w), .unset, .unset, .unset] [(.int (((((p1).toInt8.toInt32) ^^^ (-1 : Int32))).toInt8.toInt32)), (.int (0 : Int32)), (.ref r)])) _
      refine st42 _ ?_
      show Steps p.tables e below (T42.setTop (mkF m 79 #[.val (.int p0), .val (.int p1), .val (.int p2), .val (.int p3), .val (.int (2 : Int32)), .val (.int ((p1).toInt8.toInt32)), .val (.int ((p2).toInt8.toInt32)), .val (.int ((p3).toInt8.toInt32)), .val (.ref r), .val (.ref w), .unset, .unset, .unset] [])) _
      refine XS.iload X42.here hx rfl (hb hby at_79) rfl ?_
      show Steps p.tables e below (T42.setTop (mkF m 81 #[.val (.int p0), .val (.int p1), .val (.int p2), .val (.int p3), .val (.int (2 : Int32)), .val (.int ((p1).toInt8.toInt32)), .val (.int ((p2).toInt8.toInt32)), .val (.int ((p3).toInt8.toInt32)), .val (.ref r), .val (.ref w), .unset, .unset, .unset] [(.int (2 : Int32))])) _
      refine XS.iconst X42.here hx rfl (hb hby at_81) ?_
      show Steps p.tables e below (T42.setTop (mkF m 82 #[.val (.int p0), .val (.int p1), .val (.int p2), .val (.int p3), .val (.int (2 : Int32)), .val (.int ((p1).toInt8.toInt32)), .val (.int ((p2).toInt8.toInt32)), .val (.int ((p3).toInt8.toInt32)), .val (.ref r), .val (.ref w), .unset, .unset, .unset] [(.int (1 : Int32)), (.int (2 : Int32))])) _
      refine XS.icmpNo X42.here hx rfl (hb hby at_82) rfl (tlt (by decide)).2.2.2 ?_
      show Steps p.tables e below (T42.setTop (mkF m 85 #[.val (.int p0), .val (.int p1), .val (.int p2), .val (.int p3), .val (.int (2 : Int32)), .val (.int ((p1).toInt8.toInt32)), .val (.int ((p2).toInt8.toInt32)), .val (.int ((p3).toInt8.toInt32)), .val (.ref r), .val (.ref w), .unset, .unset, .unset] [])) _
      refine XS.aload X42.here hx rfl (hb hby at_85) rfl rfl ?_
      show Steps p.tables e below (T42.setTop (mkF m 87 #[.val (.int p0), .val (.int p1), .val (.int p2), .val (.int p3), .val (.int (2 : Int32)), .val (.int ((p1).toInt8.toInt32)), .val (.int ((p2).toInt8.toInt32)), .val (.int ((p3).toInt8.toInt32)), .val (.ref r), .val (.ref w), .unset, .unset, .unset] [(.ref r)])) _
      refine XS.iconst X42.here hx rfl (hb hby at_87) ?_
      show Steps p.tables e below (T42.setTop (mkF m 88 #[.val (.int p0), .val (.int p1), .val (.int p2), .val (.int p3), .val (.int (2 : Int32)), .val (.int ((p1).toInt8.toInt32)), .val (.int ((p2).toInt8.toInt32)), .val (.int ((p3).toInt8.toInt32)), .val (.ref r), .val (.ref w), .unset, .unset, .unset] [(.int (1 : Int32)), (.ref r)])) _
      refine XS.iload X42.here hx rfl (hb hby at_88) rfl ?_
      show Steps p.tables e below (T42.setTop (mkF m 90 #[.val (.int p0), .val (.int p1), .val (.int p2), .val (.int p3), .val (.int (2 : Int32)), .val (.int ((p1).toInt8.toInt32)), .val (.int ((p2).toInt8.toInt32)), .val (.int ((p3).toInt8.toInt32)), .val (.ref r), .val (.ref w), .unset, .unset, .unset] [(.int ((p2).toInt8.toInt32)), (.int (1 : Int32)), (.ref r)])) _
      refine XS.iconst X42.here hx rfl (hb hby at_90) ?_
      show Steps p.tables e below (T42.setTop (mkF m 91 #[.val (.int p0), .val (.int p1), .val (.int p2), .val (.int p3), .val (.int (2 : Int32)), .val (.int ((p1).toInt8.toInt32)), .val (.int ((p2).toInt8.toInt32)), .val (.int ((p3).toInt8.toInt32)), .val (.ref r), .val (.ref w), .unset, .unset, .unset] [(.int (-1 : Int32)), (.int ((p2).toInt8.toInt32)), (.int (1 : Int32)), (.ref r)])) _
      refine XS.ixor X42.here hx rfl (hb hby at_91) rfl ?_
      show Steps p.tables e below (T42.setTop (mkF m 92 #[.val (.int p0), .val (.int p1), .val (.int p2), .val (.int p3), .val (.int (2 : Int32)), .val (.int ((p1).toInt8.toInt32)), .val (.int ((p2).toInt8.toInt32)), .val (.int ((p3).toInt8.toInt32)), .val (.ref r), .val (.ref w), .unset, .unset, .unset] [(.int (((p2).toInt8.toInt32) ^^^ (-1 : Int32))), (.int (1 : Int32)), (.ref r)])) _
      refine XS.i2b X42.here hx rfl (hb hby at_92) rfl ?_
      exact zk
    obtain ⟨cl44, Ar44, Aq44, As44, An44, Ah44, Ag44⟩ := id V_r
    have hin44 : ¬ ((1 : Int32) < 0 ∨ cl44.slots.size ≤ ((1 : Int32)).toNatClampNeg) := inb_of As44 ⟨by decide, by decide⟩
    obtain ⟨T45, h45, X45, e45, W45, st45⟩ := stB X42 hx hZ e42 Ar44 (j := (1 : Int32)) hin44 (g := (mkF m 93 #[.val (.int p0), .val (.int p1), .val (.int p2), .val (.int p3), .val (.int (2 : Int32)), .val (.int ((p1).toInt8.toInt32)), .val (.int ((p2).toInt8.toInt32)), .val (.int ((p3).toInt8.toInt32)), .val (.ref r), .val (.ref w), .unset, .unset, .unset] [(.int (((((p2).toInt8.toInt32) ^^^ (-1 : Int32))).toInt8.toInt32)), (.int (1 : Int32)), (.ref r)])) rfl rfl (hb hby at_93)
    have N45 := Fr.snoc X45 N42 ge_r
    have Sz45 := Nat.le_trans Sz42 (Keep.of_wr W45).1
    have E_r := E_r.wr W45
    have GS := Nat.le_trans GS (Keep.of_wr W45).1
    have E_w := E_w.wr W45
    have F_bytes_w := F_bytes_w.other W45 (Or.inl ne_r_w.symm)
    have V_q := V_q.other W45 ne_r_q.symm
    have E_q := E_q.wr W45
    have V_r : Arv Z h45 r k31 .byte (2 : Int32) [(.int (nar .byte (((((p1).toInt8.toInt32) ^^^ (-1 : Int32))).toInt8.toInt32))), (.int (nar .byte (((((p2).toInt8.toInt32) ^^^ (-1 : Int32))).toInt8.toInt32)))] (.int (0 : Int32)) := Arv.set Ar44 Aq44 As44 An44 Ah44 Ag44 (fits_nar_byte _) W45 1 rfl (Nat.le_of_ble_eq_true rfl)
    have R46 : ∀ zt, Steps p.tables e below (T45.setTop (mkF m 111 #[.val (.int p0), .val (.int p1), .val (.int p2), .val (.int p3), .val (.int (2 : Int32)), .val (.int ((p1).toInt8.toInt32)), .val (.int ((p2).toInt8.toInt32)), .val (.int ((p3).toInt8.toInt32)), .val (.ref r), .val (.ref w), .unset, .unset, .unset] [(.ref w)])) zt → Steps p.tables e below (s₁.setTop (entryFrame m #[(.int p0), (.int p1), (.int p2), (.int p3)] maxLocals)) zt := by
      intro zt zk
      refine R43 zt ?_
      show Steps p.tables e below (T42.setTop (mkF m 93 #[.val (.int p0), .val (.int p1), .val (.int p2), .val (.int p3), .val (.int (2 : Int32)), .val (.int ((p1).toInt8.toInt32)), .val (.int ((p2).toInt8.toInt32)), .val (.int ((p3).toInt8.toInt32)), .val (.ref r), .val (.ref w), .unset, .unset, .unset] [(.int (((((p2).toInt8.toInt32) ^^^ (-1 : Int32))).toInt8.toInt32)), (.int (1 : Int32)), (.ref r)])) _
      refine st45 _ ?_
      show Steps p.tables e below (T45.setTop (mkF m 94 #[.val (.int p0), .val (.int p1), .val (.int p2), .val (.int p3), .val (.int (2 : Int32)), .val (.int ((p1).toInt8.toInt32)), .val (.int ((p2).toInt8.toInt32)), .val (.int ((p3).toInt8.toInt32)), .val (.ref r), .val (.ref w), .unset, .unset, .unset] [])) _
      refine XS.iload X45.here hx rfl (hb hby at_94) rfl ?_
      show Steps p.tables e below (T45.setTop (mkF m 96 #[.val (.int p0), .val (.int p1), .val (.int p2), .val (.int p3), .val (.int (2 : Int32)), .val (.int ((p1).toInt8.toInt32)), .val (.int ((p2).toInt8.toInt32)), .val (.int ((p3).toInt8.toInt32)), .val (.ref r), .val (.ref w), .unset, .unset, .unset] [(.int (2 : Int32))])) _
      refine XS.iconst X45.here hx rfl (hb hby at_96) ?_
      show Steps p.tables e below (T45.setTop (mkF m 97 #[.val (.int p0), .val (.int p1), .val (.int p2), .val (.int p3), .val (.int (2 : Int32)), .val (.int ((p1).toInt8.toInt32)), .val (.int ((p2).toInt8.toInt32)), .val (.int ((p3).toInt8.toInt32)), .val (.ref r), .val (.ref w), .unset, .unset, .unset] [(.int (2 : Int32)), (.int (2 : Int32))])) _
      refine XS.icmpYes X45.here hx rfl (pc0 := 97) (pc' := 109) rfl (hb hby at_97) rfl (flt (by decide)).2.2.2 (by decide) (by decide) ?_
      show Steps p.tables e below (T45.setTop (mkF m 109 #[.val (.int p0), .val (.int p1), .val (.int p2), .val (.int p3), .val (.int (2 : Int32)), .val (.int ((p1).toInt8.toInt32)), .val (.int ((p2).toInt8.toInt32)), .val (.int ((p3).toInt8.toInt32)), .val (.ref r), .val (.ref w), .unset, .unset, .unset] [])) _
      refine XS.aload X45.here hx rfl (hb hby at_109) rfl rfl ?_
      exact zk
    obtain ⟨cq47, kq47, q47a, q47b, q47c⟩ := isOf hZ e45 E_w
    obtain ⟨_, _, ⟨T47, L47, k47, n47⟩, -, X47, ⟨Lc47, hQ47, l47, y47, z47⟩, st47⟩ := X45.virtualBack hx (y := (⟨"com/example/key_ranges/keyranges/ByteString", "size", "()I"⟩ : MethodName)) (z := (⟨"com/example/key_ranges/keyranges/ByteString", "size", "()I"⟩ : MethodName)) hown (mvT hZ (hw _ (List.mem_of_getElem? (i := 35) rfl))) (mvT hZ (hw _ (List.mem_of_getElem? (i := 36) rfl))) (notFace_of_selects (args := #[]) (mvT hZ (hw _ (List.mem_of_getElem? (i := 38) rfl)))) (mvT hZ (hw _ (List.mem_of_getElem? (i := 38) rfl))) (mvT hZ (hw _ (List.mem_of_getElem? (i := 37) rfl))) (by decide) (backOf (W := 0) (rm5 l Z a0 hw [] w q k31 (2 : Int32) [(.int (nar .byte ((p1).toInt8.toInt32))), (.int (nar .byte ((p2).toInt8.toInt32)))] h45 n0 Sz45 F_bytes_w V_q) hZ (hw _ (List.mem_of_getElem? (i := 39) rfl)) (hw _ (List.mem_of_getElem? (i := 3) rfl)) (by decide) (by decide)) q47a q47c (g := (mkF m 111 #[.val (.int p0), .val (.int p1), .val (.int p2), .val (.int p3), .val (.int (2 : Int32)), .val (.int ((p1).toInt8.toInt32)), .val (.int ((p2).toInt8.toInt32)), .val (.int ((p3).toInt8.toInt32)), .val (.ref r), .val (.ref w), .unset, .unset, .unset] [(.ref w)])) rfl (by rw [hml]; rfl) (Steps.refl _) (argsL := []) (rest := []) (lenOf pd_3 rfl) rfl (by show 2 * 0 + _ ≤ _; exact Nat.le_of_eq rfl) (hb hby at_111) (fun _ _ => ⟨rfl, e45, (by decide : 5 + 0 ≤ _), (by decide : 30 + 0 ≤ _)⟩)
    dsimp only [Pt.U, Pt.locs, Pt.cells, Pt.slots] at X47 l47 y47 z47 st47 hQ47
    rw [y47, z47] at X47
    have X47 : Stand p l e room_1 (s.setVm T39.vm) m #[(.int p0), (.int p1), (.int p2), (.int p3)] below meth c T47 L47 5 30 := X47
    obtain ⟨rfl, Nq47, eq47⟩ := hQ47
    have N47 : Fr n0 L47 := by rw [l47]; exact Fr.app N45 Nq47
    clear l47 y47 z47
    have e47 : T47.heap = h45 := eq47
    have R48 : ∀ zt, Steps p.tables e below (T47.setTop (mkF m 118 #[.val (.int p0), .val (.int p1), .val (.int p2), .val (.int p3), .val (.int (2 : Int32)), .val (.int ((p1).toInt8.toInt32)), .val (.int ((p2).toInt8.toInt32)), .val (.int ((p3).toInt8.toInt32)), .val (.ref r), .val (.ref w), .val (.int (2 : Int32)), .unset, .unset] [(.ref w)])) zt → Steps p.tables e below (s₁.setTop (entryFrame m #[(.int p0), (.int p1), (.int p2), (.int p3)] maxLocals)) zt := by
      intro zt zk
      refine R46 zt ?_
      show Steps p.tables e below (T45.setTop (mkF m 111 #[.val (.int p0), .val (.int p1), .val (.int p2), .val (.int p3), .val (.int (2 : Int32)), .val (.int ((p1).toInt8.toInt32)), .val (.int ((p2).toInt8.toInt32)), .val (.int ((p3).toInt8.toInt32)), .val (.ref r), .val (.ref w), .unset, .unset, .unset] [(.ref w)])) _
      refine st47.trans ?_
      show Steps p.tables e below (T47.setTop (mkF m 114 #[.val (.int p0), .val (.int p1), .val (.int p2), .val (.int p3), .val (.int (2 : Int32)), .val (.int ((p1).toInt8.toInt32)), .val (.int ((p2).toInt8.toInt32)), .val (.int ((p3).toInt8.toInt32)), .val (.ref r), .val (.ref w), .unset, .unset, .unset] [(.int (2 : Int32))])) _
      refine XS.istore X47.here hx rfl (hb hby at_114) rfl (l' := #[.val (.int p0), .val (.int p1), .val (.int p2), .val (.int p3), .val (.int (2 : Int32)), .val (.int ((p1).toInt8.toInt32)), .val (.int ((p2).toInt8.toInt32)), .val (.int ((p3).toInt8.toInt32)), .val (.ref r), .val (.ref w), .val (.int (2 : Int32)), .unset, .unset]) rfl ?_
      show Steps p.tables e below (T47.setTop (mkF m 116 #[.val (.int p0), .val (.int p1), .val (.int p2), .val (.int p3), .val (.int (2 : Int32)), .val (.int ((p1).toInt8.toInt32)), .val (.int ((p2).toInt8.toInt32)), .val (.int ((p3).toInt8.toInt32)), .val (.ref r), .val (.ref w), .val (.int (2 : Int32)), .unset, .unset] [])) _
      refine XS.aload X47.here hx rfl (hb hby at_116) rfl rfl ?_
      exact zk
    obtain ⟨cq49, kq49, q49a, q49b, q49c⟩ := isOf hZ e47 E_w
    obtain ⟨_, _, ⟨T49, L49, k49, n49⟩, -, X49, ⟨Lc49, hQ49, l49, y49, z49⟩, st49⟩ := X47.virtualBack hx (y := (⟨"com/example/key_ranges/keyranges/ByteString", "toByteArray", "()[B"⟩ : MethodName)) (z := (⟨"com/example/key_ranges/keyranges/ByteString", "toByteArray", "()[B"⟩ : MethodName)) hown (mvT hZ (hw _ (List.mem_of_getElem? (i := 40) rfl))) (mvT hZ (hw _ (List.mem_of_getElem? (i := 41) rfl))) (notFace_of_selects (args := #[]) (mvT hZ (hw _ (List.mem_of_getElem? (i := 43) rfl)))) (mvT hZ (hw _ (List.mem_of_getElem? (i := 43) rfl))) (mvT hZ (hw _ (List.mem_of_getElem? (i := 42) rfl))) (by decide) (backOf (W := 0) (rm6 l Z a0 hw [] w q k31 (2 : Int32) [(.int (nar .byte ((p1).toInt8.toInt32))), (.int (nar .byte ((p2).toInt8.toInt32)))] h45 n0 Sz45 F_bytes_w V_q E_q (by decide)) hZ (hw _ (List.mem_of_getElem? (i := 44) rfl)) (hw _ (List.mem_of_getElem? (i := 3) rfl)) (by decide) (by decide)) q49a q49c (g := (mkF m 118 #[.val (.int p0), .val (.int p1), .val (.int p2), .val (.int p3), .val (.int (2 : Int32)), .val (.int ((p1).toInt8.toInt32)), .val (.int ((p2).toInt8.toInt32)), .val (.int ((p3).toInt8.toInt32)), .val (.ref r), .val (.ref w), .val (.int (2 : Int32)), .unset, .unset] [(.ref w)])) rfl (by rw [hml]; rfl) (Steps.refl _) (argsL := []) (rest := []) (lenOf pd_4 rfl) rfl (by show 2 * 0 + _ ≤ _; exact Nat.le_of_eq rfl) (hb hby at_118) (fun _ _ => ⟨rfl, e47, (by decide : 5 + 1 ≤ _), (by decide : 30 + 3 ≤ _)⟩)
    dsimp only [Pt.U, Pt.locs, Pt.cells, Pt.slots] at X49 l49 y49 z49 st49 hQ49
    rw [y49, z49] at X49
    have X49 : Stand p l e room_1 (s.setVm T39.vm) m #[(.int p0), (.int p1), (.int p2), (.int p3)] below meth c T49 L49 6 33 := X49
    obtain ⟨rfl, Nq49, K49, V_o⟩ := hQ49
    have N49 : Fr n0 L49 := by rw [l49]; exact Fr.app N47 Nq49
    clear l49 y49 z49
    have Sz49 := Nat.le_trans Sz45 K49.1
    have V_r := V_r.keep K49 nin0
    have E_r := E_r.keep K49
    have GS := Nat.le_trans GS K49.1
    have E_w := E_w.keep K49
    have F_bytes_w := F_bytes_w.keep K49 nin0
    have V_q := V_q.keep K49 nin0
    have E_q := E_q.keep K49
    obtain ⟨o, go⟩ : ∃ z, z = h45.size := ⟨_, rfl⟩
    rw [← go] at V_o st49
    have R50 : ∀ zt, Steps p.tables e below (T49.setTop (mkF m 132 #[.val (.int p0), .val (.int p1), .val (.int p2), .val (.int p3), .val (.int (2 : Int32)), .val (.int ((p1).toInt8.toInt32)), .val (.int ((p2).toInt8.toInt32)), .val (.int ((p3).toInt8.toInt32)), .val (.ref r), .val (.ref w), .val (.int (2 : Int32)), .val (.ref o), .unset] [(.ref o)])) zt → Steps p.tables e below (s₁.setTop (entryFrame m #[(.int p0), (.int p1), (.int p2), (.int p3)] maxLocals)) zt := by
      intro zt zk
      refine R48 zt ?_
      show Steps p.tables e below (T47.setTop (mkF m 118 #[.val (.int p0), .val (.int p1), .val (.int p2), .val (.int p3), .val (.int (2 : Int32)), .val (.int ((p1).toInt8.toInt32)), .val (.int ((p2).toInt8.toInt32)), .val (.int ((p3).toInt8.toInt32)), .val (.ref r), .val (.ref w), .val (.int (2 : Int32)), .unset, .unset] [(.ref w)])) _
      refine st49.trans ?_
      show Steps p.tables e below (T49.setTop (mkF m 121 #[.val (.int p0), .val (.int p1), .val (.int p2), .val (.int p3), .val (.int (2 : Int32)), .val (.int ((p1).toInt8.toInt32)), .val (.int ((p2).toInt8.toInt32)), .val (.int ((p3).toInt8.toInt32)), .val (.ref r), .val (.ref w), .val (.int (2 : Int32)), .unset, .unset] [(.ref o)])) _
      refine XS.astore X49.here hx rfl (hb hby at_121) rfl rfl (l' := #[.val (.int p0), .val (.int p1), .val (.int p2), .val (.int p3), .val (.int (2 : Int32)), .val (.int ((p1).toInt8.toInt32)), .val (.int ((p2).toInt8.toInt32)), .val (.int ((p3).toInt8.toInt32)), .val (.ref r), .val (.ref w), .val (.int (2 : Int32)), .val (.ref o), .unset]) rfl ?_
      show Steps p.tables e below (T49.setTop (mkF m 123 #[.val (.int p0), .val (.int p1), .val (.int p2), .val (.int p3), .val (.int (2 : Int32)), .val (.int ((p1).toInt8.toInt32)), .val (.int ((p2).toInt8.toInt32)), .val (.int ((p3).toInt8.toInt32)), .val (.ref r), .val (.ref w), .val (.int (2 : Int32)), .val (.ref o), .unset] [])) _
      refine XS.iload X49.here hx rfl (hb hby at_123) rfl ?_
      show Steps p.tables e below (T49.setTop (mkF m 125 #[.val (.int p0), .val (.int p1), .val (.int p2), .val (.int p3), .val (.int (2 : Int32)), .val (.int ((p1).toInt8.toInt32)), .val (.int ((p2).toInt8.toInt32)), .val (.int ((p3).toInt8.toInt32)), .val (.ref r), .val (.ref w), .val (.int (2 : Int32)), .val (.ref o), .unset] [(.int (2 : Int32))])) _
      refine XS.iload X49.here hx rfl (hb hby at_125) rfl ?_
      show Steps p.tables e below (T49.setTop (mkF m 127 #[.val (.int p0), .val (.int p1), .val (.int p2), .val (.int p3), .val (.int (2 : Int32)), .val (.int ((p1).toInt8.toInt32)), .val (.int ((p2).toInt8.toInt32)), .val (.int ((p3).toInt8.toInt32)), .val (.ref r), .val (.ref w), .val (.int (2 : Int32)), .val (.ref o), .unset] [(.int (2 : Int32)), (.int (2 : Int32))])) _
      refine XS.icmpNo X49.here hx rfl (hb hby at_127) rfl (teq (rfl : (2 : Int32) = (2 : Int32))).2 ?_
      show Steps p.tables e below (T49.setTop (mkF m 130 #[.val (.int p0), .val (.int p1), .val (.int p2), .val (.int p3), .val (.int (2 : Int32)), .val (.int ((p1).toInt8.toInt32)), .val (.int ((p2).toInt8.toInt32)), .val (.int ((p3).toInt8.toInt32)), .val (.ref r), .val (.ref w), .val (.int (2 : Int32)), .val (.ref o), .unset] [])) _
      refine XS.aload X49.here hx rfl (hb hby at_130) rfl rfl ?_
      exact zk
    obtain ⟨cl51, Ar51, Aq51, As51, An51, Ah51, Ag51⟩ := id V_o
    have R52 : ∀ zt, Steps p.tables e below (T49.setTop (mkF m 156 #[.val (.int p0), .val (.int p1), .val (.int p2), .val (.int p3), .val (.int (2 : Int32)), .val (.int ((p1).toInt8.toInt32)), .val (.int ((p2).toInt8.toInt32)), .val (.int ((p3).toInt8.toInt32)), .val (.ref r), .val (.ref w), .val (.int (2 : Int32)), .val (.ref o), .val (.int (1 : Int32))] [(.int (0 : Int32)), (.ref o)])) zt → Steps p.tables e below (s₁.setTop (entryFrame m #[(.int p0), (.int p1), (.int p2), (.int p3)] maxLocals)) zt := by
      intro zt zk
      refine R50 zt ?_
      show Steps p.tables e below (T49.setTop (mkF m 132 #[.val (.int p0), .val (.int p1), .val (.int p2), .val (.int p3), .val (.int (2 : Int32)), .val (.int ((p1).toInt8.toInt32)), .val (.int ((p2).toInt8.toInt32)), .val (.int ((p3).toInt8.toInt32)), .val (.ref r), .val (.ref w), .val (.int (2 : Int32)), .val (.ref o), .unset] [(.ref o)])) _
      refine X49.arraylength hx Ar51.1 (State.isArrayOf_alike hZ.alike Ar51.2.1) (g := (mkF m 132 #[.val (.int p0), .val (.int p1), .val (.int p2), .val (.int p3), .val (.int (2 : Int32)), .val (.int ((p1).toInt8.toInt32)), .val (.int ((p2).toInt8.toInt32)), .val (.int ((p3).toInt8.toInt32)), .val (.ref r), .val (.ref w), .val (.int (2 : Int32)), .val (.ref o), .unset] [(.ref o)])) rfl rfl (hb hby at_132) _ ?_
      rw [len_of As51 An51]
      show Steps p.tables e below (T49.setTop (mkF m 133 #[.val (.int p0), .val (.int p1), .val (.int p2), .val (.int p3), .val (.int (2 : Int32)), .val (.int ((p1).toInt8.toInt32)), .val (.int ((p2).toInt8.toInt32)), .val (.int ((p3).toInt8.toInt32)), .val (.ref r), .val (.ref w), .val (.int (2 : Int32)), .val (.ref o), .unset] [(.int (2 : Int32))])) _
      refine XS.iload X49.here hx rfl (hb hby at_133) rfl ?_
      show Steps p.tables e below (T49.setTop (mkF m 135 #[.val (.int p0), .val (.int p1), .val (.int p2), .val (.int p3), .val (.int (2 : Int32)), .val (.int ((p1).toInt8.toInt32)), .val (.int ((p2).toInt8.toInt32)), .val (.int ((p3).toInt8.toInt32)), .val (.ref r), .val (.ref w), .val (.int (2 : Int32)), .val (.ref o), .unset] [(.int (2 : Int32)), (.int (2 : Int32))])) _
      refine XS.icmpYes X49.here hx rfl (pc0 := 135) (pc' := 140) rfl (hb hby at_135) rfl (teq (rfl : (2 : Int32) = (2 : Int32))).1 (by decide) (by decide) ?_
      show Steps p.tables e below (T49.setTop (mkF m 140 #[.val (.int p0), .val (.int p1), .val (.int p2), .val (.int p3), .val (.int (2 : Int32)), .val (.int ((p1).toInt8.toInt32)), .val (.int ((p2).toInt8.toInt32)), .val (.int ((p3).toInt8.toInt32)), .val (.ref r), .val (.ref w), .val (.int (2 : Int32)), .val (.ref o), .unset] [])) _
      refine XS.iconst X49.here hx rfl (hb hby at_140) ?_
      show Steps p.tables e below (T49.setTop (mkF m 141 #[.val (.int p0), .val (.int p1), .val (.int p2), .val (.int p3), .val (.int (2 : Int32)), .val (.int ((p1).toInt8.toInt32)), .val (.int ((p2).toInt8.toInt32)), .val (.int ((p3).toInt8.toInt32)), .val (.ref r), .val (.ref w), .val (.int (2 : Int32)), .val (.ref o), .unset] [(.int (1 : Int32))])) _
      refine XS.istore X49.here hx rfl (hb hby at_141) rfl (l' := #[.val (.int p0), .val (.int p1), .val (.int p2), .val (.int p3), .val (.int (2 : Int32)), .val (.int ((p1).toInt8.toInt32)), .val (.int ((p2).toInt8.toInt32)), .val (.int ((p3).toInt8.toInt32)), .val (.ref r), .val (.ref w), .val (.int (2 : Int32)), .val (.ref o), .val (.int (1 : Int32))]) rfl ?_
      show Steps p.tables e below (T49.setTop (mkF m 143 #[.val (.int p0), .val (.int p1), .val (.int p2), .val (.int p3), .val (.int (2 : Int32)), .val (.int ((p1).toInt8.toInt32)), .val (.int ((p2).toInt8.toInt32)), .val (.int ((p3).toInt8.toInt32)), .val (.ref r), .val (.ref w), .val (.int (2 : Int32)), .val (.ref o), .val (.int (1 : Int32))] [])) _
      refine XS.iload X49.here hx rfl (hb hby at_143) rfl ?_
      show Steps p.tables e below (T49.setTop (mkF m 145 #[.val (.int p0), .val (.int p1), .val (.int p2), .val (.int p3), .val (.int (2 : Int32)), .val (.int ((p1).toInt8.toInt32)), .val (.int ((p2).toInt8.toInt32)), .val (.int ((p3).toInt8.toInt32)), .val (.ref r), .val (.ref w), .val (.int (2 : Int32)), .val (.ref o), .val (.int (1 : Int32))] [(.int (2 : Int32))])) _
      refine XS.ifNo X49.here hx rfl (hb hby at_145) rfl ((if0 _ _).trans (tlt (by decide)).2.2.2) ?_
      show Steps p.tables e below (T49.setTop (mkF m 148 #[.val (.int p0), .val (.int p1), .val (.int p2), .val (.int p3), .val (.int (2 : Int32)), .val (.int ((p1).toInt8.toInt32)), .val (.int ((p2).toInt8.toInt32)), .val (.int ((p3).toInt8.toInt32)), .val (.ref r), .val (.ref w), .val (.int (2 : Int32)), .val (.ref o), .val (.int (1 : Int32))] [])) _
      refine XS.iload X49.here hx rfl (hb hby at_148) rfl ?_
      show Steps p.tables e below (T49.setTop (mkF m 150 #[.val (.int p0), .val (.int p1), .val (.int p2), .val (.int p3), .val (.int (2 : Int32)), .val (.int ((p1).toInt8.toInt32)), .val (.int ((p2).toInt8.toInt32)), .val (.int ((p3).toInt8.toInt32)), .val (.ref r), .val (.ref w), .val (.int (2 : Int32)), .val (.ref o), .val (.int (1 : Int32))] [(.int (1 : Int32))])) _
      refine XS.ifNo X49.here hx rfl (hb hby at_150) rfl ((if0 _ _).trans (feq (by decide)).1) ?_
      show Steps p.tables e below (T49.setTop (mkF m 153 #[.val (.int p0), .val (.int p1), .val (.int p2), .val (.int p3), .val (.int (2 : Int32)), .val (.int ((p1).toInt8.toInt32)), .val (.int ((p2).toInt8.toInt32)), .val (.int ((p3).toInt8.toInt32)), .val (.ref r), .val (.ref w), .val (.int (2 : Int32)), .val (.ref o), .val (.int (1 : Int32))] [])) _
      refine XS.aload X49.here hx rfl (hb hby at_153) rfl rfl ?_
      show Steps p.tables e below (T49.setTop (mkF m 155 #[.val (.int p0), .val (.int p1), .val (.int p2), .val (.int p3), .val (.int (2 : Int32)), .val (.int ((p1).toInt8.toInt32)), .val (.int ((p2).toInt8.toInt32)), .val (.int ((p3).toInt8.toInt32)), .val (.ref r), .val (.ref w), .val (.int (2 : Int32)), .val (.ref o), .val (.int (1 : Int32))] [(.ref o)])) _
      refine XS.iconst X49.here hx rfl (hb hby at_155) ?_
      exact zk
    obtain ⟨cl53, Ar53, Aq53, As53, An53, Ah53, Ag53⟩ := id V_o
    have hin53 : ¬ ((0 : Int32) < 0 ∨ cl53.slots.size ≤ ((0 : Int32)).toNatClampNeg) := inb_of As53 ⟨by decide, by decide⟩
    have hat53 : cl53.slots[((0 : Int32)).toNatClampNeg]? = some (.int (nar .byte ((p1).toInt8.toInt32))) := Has.at Ah53 hin53 rfl
    have R54 : ∀ zt, Steps p.tables e below (T49.setTop (mkF m 183 #[.val (.int p0), .val (.int p1), .val (.int p2), .val (.int p3), .val (.int (2 : Int32)), .val (.int ((p1).toInt8.toInt32)), .val (.int ((p2).toInt8.toInt32)), .val (.int ((p3).toInt8.toInt32)), .val (.ref r), .val (.ref w), .val (.int (2 : Int32)), .val (.ref o), .val (.int (1 : Int32))] [(.int (1 : Int32)), (.ref o)])) zt → Steps p.tables e below (s₁.setTop (entryFrame m #[(.int p0), (.int p1), (.int p2), (.int p3)] maxLocals)) zt := by
      intro zt zk
      refine R52 zt ?_
      show Steps p.tables e below (T49.setTop (mkF m 156 #[.val (.int p0), .val (.int p1), .val (.int p2), .val (.int p3), .val (.int (2 : Int32)), .val (.int ((p1).toInt8.toInt32)), .val (.int ((p2).toInt8.toInt32)), .val (.int ((p3).toInt8.toInt32)), .val (.ref r), .val (.ref w), .val (.int (2 : Int32)), .val (.ref o), .val (.int (1 : Int32))] [(.int (0 : Int32)), (.ref o)])) _
      refine X49.baloadBytes hx (j := (0 : Int32)) (v := (.int (nar .byte ((p1).toInt8.toInt32)))) Ar53.1 (State.isArrayOf_alike hZ.alike Ar53.2.1) Ar53.2.2 hin53 hat53 (g := (mkF m 156 #[.val (.int p0), .val (.int p1), .val (.int p2), .val (.int p3), .val (.int (2 : Int32)), .val (.int ((p1).toInt8.toInt32)), .val (.int ((p2).toInt8.toInt32)), .val (.int ((p3).toInt8.toInt32)), .val (.ref r), .val (.ref w), .val (.int (2 : Int32)), .val (.ref o), .val (.int (1 : Int32))] [(.int (0 : Int32)), (.ref o)])) rfl rfl (hb hby at_156) _ ?_
      show Steps p.tables e below (T49.setTop (mkF m 157 #[.val (.int p0), .val (.int p1), .val (.int p2), .val (.int p3), .val (.int (2 : Int32)), .val (.int ((p1).toInt8.toInt32)), .val (.int ((p2).toInt8.toInt32)), .val (.int ((p3).toInt8.toInt32)), .val (.ref r), .val (.ref w), .val (.int (2 : Int32)), .val (.ref o), .val (.int (1 : Int32))] [(.int (nar .byte ((p1).toInt8.toInt32)))])) _
      refine XS.iload X49.here hx rfl (hb hby at_157) rfl ?_
      show Steps p.tables e below (T49.setTop (mkF m 159 #[.val (.int p0), .val (.int p1), .val (.int p2), .val (.int p3), .val (.int (2 : Int32)), .val (.int ((p1).toInt8.toInt32)), .val (.int ((p2).toInt8.toInt32)), .val (.int ((p3).toInt8.toInt32)), .val (.ref r), .val (.ref w), .val (.int (2 : Int32)), .val (.ref o), .val (.int (1 : Int32))] [(.int ((p1).toInt8.toInt32)), (.int (nar .byte ((p1).toInt8.toInt32)))])) _
      refine XS.icmpNo X49.here hx rfl (hb hby at_159) rfl (teq (own_b8 _)).2 ?_
      show Steps p.tables e below (T49.setTop (mkF m 162 #[.val (.int p0), .val (.int p1), .val (.int p2), .val (.int p3), .val (.int (2 : Int32)), .val (.int ((p1).toInt8.toInt32)), .val (.int ((p2).toInt8.toInt32)), .val (.int ((p3).toInt8.toInt32)), .val (.ref r), .val (.ref w), .val (.int (2 : Int32)), .val (.ref o), .val (.int (1 : Int32))] [])) _
      refine XS.iconst X49.here hx rfl (hb hby at_162) ?_
      show Steps p.tables e below (T49.setTop (mkF m 163 #[.val (.int p0), .val (.int p1), .val (.int p2), .val (.int p3), .val (.int (2 : Int32)), .val (.int ((p1).toInt8.toInt32)), .val (.int ((p2).toInt8.toInt32)), .val (.int ((p3).toInt8.toInt32)), .val (.ref r), .val (.ref w), .val (.int (2 : Int32)), .val (.ref o), .val (.int (1 : Int32))] [(.int (1 : Int32))])) _
      refine XS.goto X49.here hx rfl (pc0 := 163) (pc' := 167) rfl (hb hby at_163) (by decide) (by decide) ?_
      show Steps p.tables e below (T49.setTop (mkF m 167 #[.val (.int p0), .val (.int p1), .val (.int p2), .val (.int p3), .val (.int (2 : Int32)), .val (.int ((p1).toInt8.toInt32)), .val (.int ((p2).toInt8.toInt32)), .val (.int ((p3).toInt8.toInt32)), .val (.ref r), .val (.ref w), .val (.int (2 : Int32)), .val (.ref o), .val (.int (1 : Int32))] [(.int (1 : Int32))])) _
      refine XS.istore X49.here hx rfl (hb hby at_167) rfl (l' := #[.val (.int p0), .val (.int p1), .val (.int p2), .val (.int p3), .val (.int (2 : Int32)), .val (.int ((p1).toInt8.toInt32)), .val (.int ((p2).toInt8.toInt32)), .val (.int ((p3).toInt8.toInt32)), .val (.ref r), .val (.ref w), .val (.int (2 : Int32)), .val (.ref o), .val (.int (1 : Int32))]) rfl ?_
      show Steps p.tables e below (T49.setTop (mkF m 169 #[.val (.int p0), .val (.int p1), .val (.int p2), .val (.int p3), .val (.int (2 : Int32)), .val (.int ((p1).toInt8.toInt32)), .val (.int ((p2).toInt8.toInt32)), .val (.int ((p3).toInt8.toInt32)), .val (.ref r), .val (.ref w), .val (.int (2 : Int32)), .val (.ref o), .val (.int (1 : Int32))] [])) _
      refine XS.iload X49.here hx rfl (hb hby at_169) rfl ?_
      show Steps p.tables e below (T49.setTop (mkF m 171 #[.val (.int p0), .val (.int p1), .val (.int p2), .val (.int p3), .val (.int (2 : Int32)), .val (.int ((p1).toInt8.toInt32)), .val (.int ((p2).toInt8.toInt32)), .val (.int ((p3).toInt8.toInt32)), .val (.ref r), .val (.ref w), .val (.int (2 : Int32)), .val (.ref o), .val (.int (1 : Int32))] [(.int (2 : Int32))])) _
      refine XS.iconst X49.here hx rfl (hb hby at_171) ?_
      show Steps p.tables e below (T49.setTop (mkF m 172 #[.val (.int p0), .val (.int p1), .val (.int p2), .val (.int p3), .val (.int (2 : Int32)), .val (.int ((p1).toInt8.toInt32)), .val (.int ((p2).toInt8.toInt32)), .val (.int ((p3).toInt8.toInt32)), .val (.ref r), .val (.ref w), .val (.int (2 : Int32)), .val (.ref o), .val (.int (1 : Int32))] [(.int (1 : Int32)), (.int (2 : Int32))])) _
      refine XS.icmpNo X49.here hx rfl (hb hby at_172) rfl (tlt (by decide)).2.2.2 ?_
      show Steps p.tables e below (T49.setTop (mkF m 175 #[.val (.int p0), .val (.int p1), .val (.int p2), .val (.int p3), .val (.int (2 : Int32)), .val (.int ((p1).toInt8.toInt32)), .val (.int ((p2).toInt8.toInt32)), .val (.int ((p3).toInt8.toInt32)), .val (.ref r), .val (.ref w), .val (.int (2 : Int32)), .val (.ref o), .val (.int (1 : Int32))] [])) _
      refine XS.iload X49.here hx rfl (hb hby at_175) rfl ?_
      show Steps p.tables e below (T49.setTop (mkF m 177 #[.val (.int p0), .val (.int p1), .val (.int p2), .val (.int p3), .val (.int (2 : Int32)), .val (.int ((p1).toInt8.toInt32)), .val (.int ((p2).toInt8.toInt32)), .val (.int ((p3).toInt8.toInt32)), .val (.ref r), .val (.ref w), .val (.int (2 : Int32)), .val (.ref o), .val (.int (1 : Int32))] [(.int (1 : Int32))])) _
      refine XS.ifNo X49.here hx rfl (hb hby at_177) rfl ((if0 _ _).trans (feq (by decide)).1) ?_
      show Steps p.tables e below (T49.setTop (mkF m 180 #[.val (.int p0), .val (.int p1), .val (.int p2), .val (.int p3), .val (.int (2 : Int32)), .val (.int ((p1).toInt8.toInt32)), .val (.int ((p2).toInt8.toInt32)), .val (.int ((p3).toInt8.toInt32)), .val (.ref r), .val (.ref w), .val (.int (2 : Int32)), .val (.ref o), .val (.int (1 : Int32))] [])) _
      refine XS.aload X49.here hx rfl (hb hby at_180) rfl rfl ?_
      show Steps p.tables e below (T49.setTop (mkF m 182 #[.val (.int p0), .val (.int p1), .val (.int p2), .val (.int p3), .val (.int (2 : Int32)), .val (.int ((p1).toInt8.toInt32)), .val (.int ((p2).toInt8.toInt32)), .val (.int ((p3).toInt8.toInt32)), .val (.ref r), .val (.ref w), .val (.int (2 : Int32)), .val (.ref o), .val (.int (1 : Int32))] [(.ref o)])) _
      refine XS.iconst X49.here hx rfl (hb hby at_182) ?_
      exact zk
    obtain ⟨cl55, Ar55, Aq55, As55, An55, Ah55, Ag55⟩ := id V_o
    have hin55 : ¬ ((1 : Int32) < 0 ∨ cl55.slots.size ≤ ((1 : Int32)).toNatClampNeg) := inb_of As55 ⟨by decide, by decide⟩
    have hat55 : cl55.slots[((1 : Int32)).toNatClampNeg]? = some (.int (nar .byte ((p2).toInt8.toInt32))) := Has.at Ah55 hin55 rfl
    have R56 : ∀ zt, Steps p.tables e below (T49.setTop (mkF m 225 #[.val (.int p0), .val (.int p1), .val (.int p2), .val (.int p3), .val (.int (2 : Int32)), .val (.int ((p1).toInt8.toInt32)), .val (.int ((p2).toInt8.toInt32)), .val (.int ((p3).toInt8.toInt32)), .val (.ref r), .val (.ref w), .val (.int (2 : Int32)), .val (.ref o), .val (.int (1 : Int32))] [(.int (1 : Int32))])) zt → Steps p.tables e below (s₁.setTop (entryFrame m #[(.int p0), (.int p1), (.int p2), (.int p3)] maxLocals)) zt := by
      intro zt zk
      refine R54 zt ?_
      show Steps p.tables e below (T49.setTop (mkF m 183 #[.val (.int p0), .val (.int p1), .val (.int p2), .val (.int p3), .val (.int (2 : Int32)), .val (.int ((p1).toInt8.toInt32)), .val (.int ((p2).toInt8.toInt32)), .val (.int ((p3).toInt8.toInt32)), .val (.ref r), .val (.ref w), .val (.int (2 : Int32)), .val (.ref o), .val (.int (1 : Int32))] [(.int (1 : Int32)), (.ref o)])) _
      refine X49.baloadBytes hx (j := (1 : Int32)) (v := (.int (nar .byte ((p2).toInt8.toInt32)))) Ar55.1 (State.isArrayOf_alike hZ.alike Ar55.2.1) Ar55.2.2 hin55 hat55 (g := (mkF m 183 #[.val (.int p0), .val (.int p1), .val (.int p2), .val (.int p3), .val (.int (2 : Int32)), .val (.int ((p1).toInt8.toInt32)), .val (.int ((p2).toInt8.toInt32)), .val (.int ((p3).toInt8.toInt32)), .val (.ref r), .val (.ref w), .val (.int (2 : Int32)), .val (.ref o), .val (.int (1 : Int32))] [(.int (1 : Int32)), (.ref o)])) rfl rfl (hb hby at_183) _ ?_
      show Steps p.tables e below (T49.setTop (mkF m 184 #[.val (.int p0), .val (.int p1), .val (.int p2), .val (.int p3), .val (.int (2 : Int32)), .val (.int ((p1).toInt8.toInt32)), .val (.int ((p2).toInt8.toInt32)), .val (.int ((p3).toInt8.toInt32)), .val (.ref r), .val (.ref w), .val (.int (2 : Int32)), .val (.ref o), .val (.int (1 : Int32))] [(.int (nar .byte ((p2).toInt8.toInt32)))])) _
      refine XS.iload X49.here hx rfl (hb hby at_184) rfl ?_
      show Steps p.tables e below (T49.setTop (mkF m 186 #[.val (.int p0), .val (.int p1), .val (.int p2), .val (.int p3), .val (.int (2 : Int32)), .val (.int ((p1).toInt8.toInt32)), .val (.int ((p2).toInt8.toInt32)), .val (.int ((p3).toInt8.toInt32)), .val (.ref r), .val (.ref w), .val (.int (2 : Int32)), .val (.ref o), .val (.int (1 : Int32))] [(.int ((p2).toInt8.toInt32)), (.int (nar .byte ((p2).toInt8.toInt32)))])) _
      refine XS.icmpNo X49.here hx rfl (hb hby at_186) rfl (teq (own_b8 _)).2 ?_
      show Steps p.tables e below (T49.setTop (mkF m 189 #[.val (.int p0), .val (.int p1), .val (.int p2), .val (.int p3), .val (.int (2 : Int32)), .val (.int ((p1).toInt8.toInt32)), .val (.int ((p2).toInt8.toInt32)), .val (.int ((p3).toInt8.toInt32)), .val (.ref r), .val (.ref w), .val (.int (2 : Int32)), .val (.ref o), .val (.int (1 : Int32))] [])) _
      refine XS.iconst X49.here hx rfl (hb hby at_189) ?_
      show Steps p.tables e below (T49.setTop (mkF m 190 #[.val (.int p0), .val (.int p1), .val (.int p2), .val (.int p3), .val (.int (2 : Int32)), .val (.int ((p1).toInt8.toInt32)), .val (.int ((p2).toInt8.toInt32)), .val (.int ((p3).toInt8.toInt32)), .val (.ref r), .val (.ref w), .val (.int (2 : Int32)), .val (.ref o), .val (.int (1 : Int32))] [(.int (1 : Int32))])) _
      refine XS.goto X49.here hx rfl (pc0 := 190) (pc' := 194) rfl (hb hby at_190) (by decide) (by decide) ?_
      show Steps p.tables e below (T49.setTop (mkF m 194 #[.val (.int p0), .val (.int p1), .val (.int p2), .val (.int p3), .val (.int (2 : Int32)), .val (.int ((p1).toInt8.toInt32)), .val (.int ((p2).toInt8.toInt32)), .val (.int ((p3).toInt8.toInt32)), .val (.ref r), .val (.ref w), .val (.int (2 : Int32)), .val (.ref o), .val (.int (1 : Int32))] [(.int (1 : Int32))])) _
      refine XS.istore X49.here hx rfl (hb hby at_194) rfl (l' := #[.val (.int p0), .val (.int p1), .val (.int p2), .val (.int p3), .val (.int (2 : Int32)), .val (.int ((p1).toInt8.toInt32)), .val (.int ((p2).toInt8.toInt32)), .val (.int ((p3).toInt8.toInt32)), .val (.ref r), .val (.ref w), .val (.int (2 : Int32)), .val (.ref o), .val (.int (1 : Int32))]) rfl ?_
      show Steps p.tables e below (T49.setTop (mkF m 196 #[.val (.int p0), .val (.int p1), .val (.int p2), .val (.int p3), .val (.int (2 : Int32)), .val (.int ((p1).toInt8.toInt32)), .val (.int ((p2).toInt8.toInt32)), .val (.int ((p3).toInt8.toInt32)), .val (.ref r), .val (.ref w), .val (.int (2 : Int32)), .val (.ref o), .val (.int (1 : Int32))] [])) _
      refine XS.iload X49.here hx rfl (hb hby at_196) rfl ?_
      show Steps p.tables e below (T49.setTop (mkF m 198 #[.val (.int p0), .val (.int p1), .val (.int p2), .val (.int p3), .val (.int (2 : Int32)), .val (.int ((p1).toInt8.toInt32)), .val (.int ((p2).toInt8.toInt32)), .val (.int ((p3).toInt8.toInt32)), .val (.ref r), .val (.ref w), .val (.int (2 : Int32)), .val (.ref o), .val (.int (1 : Int32))] [(.int (2 : Int32))])) _
      refine XS.iconst X49.here hx rfl (hb hby at_198) ?_
      show Steps p.tables e below (T49.setTop (mkF m 199 #[.val (.int p0), .val (.int p1), .val (.int p2), .val (.int p3), .val (.int (2 : Int32)), .val (.int ((p1).toInt8.toInt32)), .val (.int ((p2).toInt8.toInt32)), .val (.int ((p3).toInt8.toInt32)), .val (.ref r), .val (.ref w), .val (.int (2 : Int32)), .val (.ref o), .val (.int (1 : Int32))] [(.int (2 : Int32)), (.int (2 : Int32))])) _
      refine XS.icmpYes X49.here hx rfl (pc0 := 199) (pc' := 223) rfl (hb hby at_199) rfl (flt (by decide)).2.2.2 (by decide) (by decide) ?_
      show Steps p.tables e below (T49.setTop (mkF m 223 #[.val (.int p0), .val (.int p1), .val (.int p2), .val (.int p3), .val (.int (2 : Int32)), .val (.int ((p1).toInt8.toInt32)), .val (.int ((p2).toInt8.toInt32)), .val (.int ((p3).toInt8.toInt32)), .val (.ref r), .val (.ref w), .val (.int (2 : Int32)), .val (.ref o), .val (.int (1 : Int32))] [])) _
      refine XS.iload X49.here hx rfl (hb hby at_223) rfl ?_
      exact zk
    obtain ⟨fs, hr, hrun, hended, hRE⟩ := Jvm.Stand.leaveW (s := s) (vm₁ := T39.vm) X49 Sc39 GS (v := some (.int (1 : Int32))) (fun h => by rw [Bd.returns] at h; cases h)
    refine ⟨_, _, R56 _ ?_, hrun, hended, _, _, rfl, ?_, hRE.1, hRE.2.1, hRE.2.2.1, hRE.2.2.2.mono (by decide) (by decide)⟩
    · exact retN X49 hx (t := .boolean) Bd.returns (by simp) (hb hby at_225) hr
    · show Q0 Z p0 p1 p2 p3 h0 n0 _ T49.heap _
      exact ⟨rfl, N49⟩
  ·
    rw [hv2] at R1
    obtain ⟨T57, h57, k57, X57, e57, E57, A57, AE57, st57⟩ := newPE X0 hx hZ (hw _ (List.mem_of_getElem? (i := 0) rfl)) e0 (g := (mkF m 19 #[.val (.int p0), .val (.int p1), .val (.int p2), .val (.int p3), .val (.int (3 : Int32)), .val (.int ((p1).toInt8.toInt32)), .val (.int ((p2).toInt8.toInt32)), .val (.int ((p3).toInt8.toInt32)), .unset, .unset, .unset, .unset, .unset] [(.int (3 : Int32))])) rfl (hb hby at_19) rfl (by decide) (cap := 3) (by decide) (by decide) (by decide) (by decide) (ad := "[B") (by decide)
    obtain ⟨r, g57⟩ : ∃ z, z = h0.size := ⟨_, rfl⟩
    rw [← g57] at A57 st57 AE57
    have ge_r : n0 ≤ r := by rw [g57]; exact Z0
    have Sz57 := Nat.le_trans Z0 E57.1
    have V_r : Arv Z h57 r k57 .byte (3 : Int32) [(.int (0 : Int32)), (.int (0 : Int32)), (.int (0 : Int32))] (.int (0 : Int32)) := (Arv.new A57 (by decide)).pad (pad_rep [] (.int (0 : Int32)) 3)
    have E_r := AE57
    have R58 : ∀ zt, Steps p.tables e below (T57.setTop (mkF m 33 #[.val (.int p0), .val (.int p1), .val (.int p2), .val (.int p3), .val (.int (3 : Int32)), .val (.int ((p1).toInt8.toInt32)), .val (.int ((p2).toInt8.toInt32)), .val (.int ((p3).toInt8.toInt32)), .val (.ref r), .unset, .unset, .unset, .unset] [(.int ((p1).toInt8.toInt32)), (.int (0 : Int32)), (.ref r)])) zt → Steps p.tables e below (s₁.setTop (entryFrame m #[(.int p0), (.int p1), (.int p2), (.int p3)] maxLocals)) zt := by
      intro zt zk
      refine R1 zt ?_
      show Steps p.tables e below (s₁.setTop (mkF m 19 #[.val (.int p0), .val (.int p1), .val (.int p2), .val (.int p3), .val (.int (3 : Int32)), .val (.int ((p1).toInt8.toInt32)), .val (.int ((p2).toInt8.toInt32)), .val (.int ((p3).toInt8.toInt32)), .unset, .unset, .unset, .unset, .unset] [(.int (3 : Int32))])) _
      refine st57 _ ?_
      show Steps p.tables e below (T57.setTop (mkF m 21 #[.val (.int p0), .val (.int p1), .val (.int p2), .val (.int p3), .val (.int (3 : Int32)), .val (.int ((p1).toInt8.toInt32)), .val (.int ((p2).toInt8.toInt32)), .val (.int ((p3).toInt8.toInt32)), .unset, .unset, .unset, .unset, .unset] [(.ref r)])) _
      refine XS.astore X57.here hx rfl (hb hby at_21) rfl rfl (l' := #[.val (.int p0), .val (.int p1), .val (.int p2), .val (.int p3), .val (.int (3 : Int32)), .val (.int ((p1).toInt8.toInt32)), .val (.int ((p2).toInt8.toInt32)), .val (.int ((p3).toInt8.toInt32)), .val (.ref r), .unset, .unset, .unset, .unset]) rfl ?_
      show Steps p.tables e below (T57.setTop (mkF m 23 #[.val (.int p0), .val (.int p1), .val (.int p2), .val (.int p3), .val (.int (3 : Int32)), .val (.int ((p1).toInt8.toInt32)), .val (.int ((p2).toInt8.toInt32)), .val (.int ((p3).toInt8.toInt32)), .val (.ref r), .unset, .unset, .unset, .unset] [])) _
      refine XS.iload X57.here hx rfl (hb hby at_23) rfl ?_
      show Steps p.tables e below (T57.setTop (mkF m 25 #[.val (.int p0), .val (.int p1), .val (.int p2), .val (.int p3), .val (.int (3 : Int32)), .val (.int ((p1).toInt8.toInt32)), .val (.int ((p2).toInt8.toInt32)), .val (.int ((p3).toInt8.toInt32)), .val (.ref r), .unset, .unset, .unset, .unset] [(.int (3 : Int32))])) _
      refine XS.ifNo X57.here hx rfl (hb hby at_25) rfl ((if0 _ _).trans (tlt (by decide)).2.2.2) ?_
      show Steps p.tables e below (T57.setTop (mkF m 28 #[.val (.int p0), .val (.int p1), .val (.int p2), .val (.int p3), .val (.int (3 : Int32)), .val (.int ((p1).toInt8.toInt32)), .val (.int ((p2).toInt8.toInt32)), .val (.int ((p3).toInt8.toInt32)), .val (.ref r), .unset, .unset, .unset, .unset] [])) _
      refine XS.aload X57.here hx rfl (hb hby at_28) rfl rfl ?_
      show Steps p.tables e below (T57.setTop (mkF m 30 #[.val (.int p0), .val (.int p1), .val (.int p2), .val (.int p3), .val (.int (3 : Int32)), .val (.int ((p1).toInt8.toInt32)), .val (.int ((p2).toInt8.toInt32)), .val (.int ((p3).toInt8.toInt32)), .val (.ref r), .unset, .unset, .unset, .unset] [(.ref r)])) _
      refine XS.iconst X57.here hx rfl (hb hby at_30) ?_
      show Steps p.tables e below (T57.setTop (mkF m 31 #[.val (.int p0), .val (.int p1), .val (.int p2), .val (.int p3), .val (.int (3 : Int32)), .val (.int ((p1).toInt8.toInt32)), .val (.int ((p2).toInt8.toInt32)), .val (.int ((p3).toInt8.toInt32)), .val (.ref r), .unset, .unset, .unset, .unset] [(.int (0 : Int32)), (.ref r)])) _
      refine XS.iload X57.here hx rfl (hb hby at_31) rfl ?_
      exact zk
    obtain ⟨cl59, Ar59, Aq59, As59, An59, Ah59, Ag59⟩ := id V_r
    have hin59 : ¬ ((0 : Int32) < 0 ∨ cl59.slots.size ≤ ((0 : Int32)).toNatClampNeg) := inb_of As59 ⟨by decide, by decide⟩
    obtain ⟨T60, h60, X60, e60, W60, st60⟩ := stB X57 hx hZ e57 Ar59 (j := (0 : Int32)) hin59 (g := (mkF m 33 #[.val (.int p0), .val (.int p1), .val (.int p2), .val (.int p3), .val (.int (3 : Int32)), .val (.int ((p1).toInt8.toInt32)), .val (.int ((p2).toInt8.toInt32)), .val (.int ((p3).toInt8.toInt32)), .val (.ref r), .unset, .unset, .unset, .unset] [(.int ((p1).toInt8.toInt32)), (.int (0 : Int32)), (.ref r)])) rfl rfl (hb hby at_33)
    have N60 := Fr.snoc X60 N0 ge_r
    have Sz60 := Nat.le_trans Sz57 (Keep.of_wr W60).1
    have E_r := E_r.wr W60
    have V_r : Arv Z h60 r k57 .byte (3 : Int32) [(.int (nar .byte ((p1).toInt8.toInt32))), (.int (0 : Int32)), (.int (0 : Int32))] (.int (0 : Int32)) := Arv.set Ar59 Aq59 As59 An59 Ah59 Ag59 (fits_nar_byte _) W60 0 rfl (Nat.le_of_ble_eq_true rfl)
    have R61 : ∀ zt, Steps p.tables e below (T60.setTop (mkF m 45 #[.val (.int p0), .val (.int p1), .val (.int p2), .val (.int p3), .val (.int (3 : Int32)), .val (.int ((p1).toInt8.toInt32)), .val (.int ((p2).toInt8.toInt32)), .val (.int ((p3).toInt8.toInt32)), .val (.ref r), .unset, .unset, .unset, .unset] [(.int ((p2).toInt8.toInt32)), (.int (1 : Int32)), (.ref r)])) zt → Steps p.tables e below (s₁.setTop (entryFrame m #[(.int p0), (.int p1), (.int p2), (.int p3)] maxLocals)) zt := by
      intro zt zk
      refine R58 zt ?_
      show Steps p.tables e below (T57.setTop (mkF m 33 #[.val (.int p0), .val (.int p1), .val (.int p2), .val (.int p3), .val (.int (3 : Int32)), .val (.int ((p1).toInt8.toInt32)), .val (.int ((p2).toInt8.toInt32)), .val (.int ((p3).toInt8.toInt32)), .val (.ref r), .unset, .unset, .unset, .unset] [(.int ((p1).toInt8.toInt32)), (.int (0 : Int32)), (.ref r)])) _
      refine st60 _ ?_
      show Steps p.tables e below (T60.setTop (mkF m 34 #[.val (.int p0), .val (.int p1), .val (.int p2), .val (.int p3), .val (.int (3 : Int32)), .val (.int ((p1).toInt8.toInt32)), .val (.int ((p2).toInt8.toInt32)), .val (.int ((p3).toInt8.toInt32)), .val (.ref r), .unset, .unset, .unset, .unset] [])) _
      refine XS.iload X60.here hx rfl (hb hby at_34) rfl ?_
      show Steps p.tables e below (T60.setTop (mkF m 36 #[.val (.int p0), .val (.int p1), .val (.int p2), .val (.int p3), .val (.int (3 : Int32)), .val (.int ((p1).toInt8.toInt32)), .val (.int ((p2).toInt8.toInt32)), .val (.int ((p3).toInt8.toInt32)), .val (.ref r), .unset, .unset, .unset, .unset] [(.int (3 : Int32))])) _
      refine XS.iconst X60.here hx rfl (hb hby at_36) ?_
      show Steps p.tables e below (T60.setTop (mkF m 37 #[.val (.int p0), .val (.int p1), .val (.int p2), .val (.int p3), .val (.int (3 : Int32)), .val (.int ((p1).toInt8.toInt32)), .val (.int ((p2).toInt8.toInt32)), .val (.int ((p3).toInt8.toInt32)), .val (.ref r), .unset, .unset, .unset, .unset] [(.int (1 : Int32)), (.int (3 : Int32))])) _
      refine XS.icmpNo X60.here hx rfl (hb hby at_37) rfl (tlt (by decide)).2.2.2 ?_
      show Steps p.tables e below (T60.setTop (mkF m 40 #[.val (.int p0), .val (.int p1), .val (.int p2), .val (.int p3), .val (.int (3 : Int32)), .val (.int ((p1).toInt8.toInt32)), .val (.int ((p2).toInt8.toInt32)), .val (.int ((p3).toInt8.toInt32)), .val (.ref r), .unset, .unset, .unset, .unset] [])) _
      refine XS.aload X60.here hx rfl (hb hby at_40) rfl rfl ?_
      show Steps p.tables e below (T60.setTop (mkF m 42 #[.val (.int p0), .val (.int p1), .val (.int p2), .val (.int p3), .val (.int (3 : Int32)), .val (.int ((p1).toInt8.toInt32)), .val (.int ((p2).toInt8.toInt32)), .val (.int ((p3).toInt8.toInt32)), .val (.ref r), .unset, .unset, .unset, .unset] [(.ref r)])) _
      refine XS.iconst X60.here hx rfl (hb hby at_42) ?_
      show Steps p.tables e below (T60.setTop (mkF m 43 #[.val (.int p0), .val (.int p1), .val (.int p2), .val (.int p3), .val (.int (3 : Int32)), .val (.int ((p1).toInt8.toInt32)), .val (.int ((p2).toInt8.toInt32)), .val (.int ((p3).toInt8.toInt32)), .val (.ref r), .unset, .unset, .unset, .unset] [(.int (1 : Int32)), (.ref r)])) _
      refine XS.iload X60.here hx rfl (hb hby at_43) rfl ?_
      exact zk
    obtain ⟨cl62, Ar62, Aq62, As62, An62, Ah62, Ag62⟩ := id V_r
    have hin62 : ¬ ((1 : Int32) < 0 ∨ cl62.slots.size ≤ ((1 : Int32)).toNatClampNeg) := inb_of As62 ⟨by decide, by decide⟩
    obtain ⟨T63, h63, X63, e63, W63, st63⟩ := stB X60 hx hZ e60 Ar62 (j := (1 : Int32)) hin62 (g := (mkF m 45 #[.val (.int p0), .val (.int p1), .val (.int p2), .val (.int p3), .val (.int (3 : Int32)), .val (.int ((p1).toInt8.toInt32)), .val (.int ((p2).toInt8.toInt32)), .val (.int ((p3).toInt8.toInt32)), .val (.ref r), .unset, .unset, .unset, .unset] [(.int ((p2).toInt8.toInt32)), (.int (1 : Int32)), (.ref r)])) rfl rfl (hb hby at_45)
    have N63 := Fr.snoc X63 N60 ge_r
    have Sz63 := Nat.le_trans Sz60 (Keep.of_wr W63).1
    have E_r := E_r.wr W63
    have V_r : Arv Z h63 r k57 .byte (3 : Int32) [(.int (nar .byte ((p1).toInt8.toInt32))), (.int (nar .byte ((p2).toInt8.toInt32))), (.int (0 : Int32))] (.int (0 : Int32)) := Arv.set Ar62 Aq62 As62 An62 Ah62 Ag62 (fits_nar_byte _) W63 1 rfl (Nat.le_of_ble_eq_true rfl)
    have R64 : ∀ zt, Steps p.tables e below (T63.setTop (mkF m 57 #[.val (.int p0), .val (.int p1), .val (.int p2), .val (.int p3), .val (.int (3 : Int32)), .val (.int ((p1).toInt8.toInt32)), .val (.int ((p2).toInt8.toInt32)), .val (.int ((p3).toInt8.toInt32)), .val (.ref r), .unset, .unset, .unset, .unset] [(.int ((p3).toInt8.toInt32)), (.int (2 : Int32)), (.ref r)])) zt → Steps p.tables e below (s₁.setTop (entryFrame m #[(.int p0), (.int p1), (.int p2), (.int p3)] maxLocals)) zt := by
      intro zt zk
      refine R61 zt ?_
      show Steps p.tables e below (T60.setTop (mkF m 45 #[.val (.int p0), .val (.int p1), .val (.int p2), .val (.int p3), .val (.int (3 : Int32)), .val (.int ((p1).toInt8.toInt32)), .val (.int ((p2).toInt8.toInt32)), .val (.int ((p3).toInt8.toInt32)), .val (.ref r), .unset, .unset, .unset, .unset] [(.int ((p2).toInt8.toInt32)), (.int (1 : Int32)), (.ref r)])) _
      refine st63 _ ?_
      show Steps p.tables e below (T63.setTop (mkF m 46 #[.val (.int p0), .val (.int p1), .val (.int p2), .val (.int p3), .val (.int (3 : Int32)), .val (.int ((p1).toInt8.toInt32)), .val (.int ((p2).toInt8.toInt32)), .val (.int ((p3).toInt8.toInt32)), .val (.ref r), .unset, .unset, .unset, .unset] [])) _
      refine XS.iload X63.here hx rfl (hb hby at_46) rfl ?_
      show Steps p.tables e below (T63.setTop (mkF m 48 #[.val (.int p0), .val (.int p1), .val (.int p2), .val (.int p3), .val (.int (3 : Int32)), .val (.int ((p1).toInt8.toInt32)), .val (.int ((p2).toInt8.toInt32)), .val (.int ((p3).toInt8.toInt32)), .val (.ref r), .unset, .unset, .unset, .unset] [(.int (3 : Int32))])) _
      refine XS.iconst X63.here hx rfl (hb hby at_48) ?_
      show Steps p.tables e below (T63.setTop (mkF m 49 #[.val (.int p0), .val (.int p1), .val (.int p2), .val (.int p3), .val (.int (3 : Int32)), .val (.int ((p1).toInt8.toInt32)), .val (.int ((p2).toInt8.toInt32)), .val (.int ((p3).toInt8.toInt32)), .val (.ref r), .unset, .unset, .unset, .unset] [(.int (2 : Int32)), (.int (3 : Int32))])) _
      refine XS.icmpNo X63.here hx rfl (hb hby at_49) rfl (tlt (by decide)).2.2.2 ?_
      show Steps p.tables e below (T63.setTop (mkF m 52 #[.val (.int p0), .val (.int p1), .val (.int p2), .val (.int p3), .val (.int (3 : Int32)), .val (.int ((p1).toInt8.toInt32)), .val (.int ((p2).toInt8.toInt32)), .val (.int ((p3).toInt8.toInt32)), .val (.ref r), .unset, .unset, .unset, .unset] [])) _
      refine XS.aload X63.here hx rfl (hb hby at_52) rfl rfl ?_
      show Steps p.tables e below (T63.setTop (mkF m 54 #[.val (.int p0), .val (.int p1), .val (.int p2), .val (.int p3), .val (.int (3 : Int32)), .val (.int ((p1).toInt8.toInt32)), .val (.int ((p2).toInt8.toInt32)), .val (.int ((p3).toInt8.toInt32)), .val (.ref r), .unset, .unset, .unset, .unset] [(.ref r)])) _
      refine XS.iconst X63.here hx rfl (hb hby at_54) ?_
      show Steps p.tables e below (T63.setTop (mkF m 55 #[.val (.int p0), .val (.int p1), .val (.int p2), .val (.int p3), .val (.int (3 : Int32)), .val (.int ((p1).toInt8.toInt32)), .val (.int ((p2).toInt8.toInt32)), .val (.int ((p3).toInt8.toInt32)), .val (.ref r), .unset, .unset, .unset, .unset] [(.int (2 : Int32)), (.ref r)])) _
      refine XS.iload X63.here hx rfl (hb hby at_55) rfl ?_
      exact zk
    obtain ⟨cl65, Ar65, Aq65, As65, An65, Ah65, Ag65⟩ := id V_r
    have hin65 : ¬ ((2 : Int32) < 0 ∨ cl65.slots.size ≤ ((2 : Int32)).toNatClampNeg) := inb_of As65 ⟨by decide, by decide⟩
    obtain ⟨T66, h66, X66, e66, W66, st66⟩ := stB X63 hx hZ e63 Ar65 (j := (2 : Int32)) hin65 (g := (mkF m 57 #[.val (.int p0), .val (.int p1), .val (.int p2), .val (.int p3), .val (.int (3 : Int32)), .val (.int ((p1).toInt8.toInt32)), .val (.int ((p2).toInt8.toInt32)), .val (.int ((p3).toInt8.toInt32)), .val (.ref r), .unset, .unset, .unset, .unset] [(.int ((p3).toInt8.toInt32)), (.int (2 : Int32)), (.ref r)])) rfl rfl (hb hby at_57)
    have N66 := Fr.snoc X66 N63 ge_r
    have Sz66 := Nat.le_trans Sz63 (Keep.of_wr W66).1
    have E_r := E_r.wr W66
    have V_r : Arv Z h66 r k57 .byte (3 : Int32) [(.int (nar .byte ((p1).toInt8.toInt32))), (.int (nar .byte ((p2).toInt8.toInt32))), (.int (nar .byte ((p3).toInt8.toInt32)))] (.int (0 : Int32)) := Arv.set Ar65 Aq65 As65 An65 Ah65 Ag65 (fits_nar_byte _) W66 2 rfl (Nat.le_of_ble_eq_true rfl)
    have R67 : ∀ zt, Steps p.tables e below (T66.setTop (mkF m 60 #[.val (.int p0), .val (.int p1), .val (.int p2), .val (.int p3), .val (.int (3 : Int32)), .val (.int ((p1).toInt8.toInt32)), .val (.int ((p2).toInt8.toInt32)), .val (.int ((p3).toInt8.toInt32)), .val (.ref r), .unset, .unset, .unset, .unset] [(.ref r)])) zt → Steps p.tables e below (s₁.setTop (entryFrame m #[(.int p0), (.int p1), (.int p2), (.int p3)] maxLocals)) zt := by
      intro zt zk
      refine R64 zt ?_
      show Steps p.tables e below (T63.setTop (mkF m 57 #[.val (.int p0), .val (.int p1), .val (.int p2), .val (.int p3), .val (.int (3 : Int32)), .val (.int ((p1).toInt8.toInt32)), .val (.int ((p2).toInt8.toInt32)), .val (.int ((p3).toInt8.toInt32)), .val (.ref r), .unset, .unset, .unset, .unset] [(.int ((p3).toInt8.toInt32)), (.int (2 : Int32)), (.ref r)])) _
      refine st66 _ ?_
      show Steps p.tables e below (T66.setTop (mkF m 58 #[.val (.int p0), .val (.int p1), .val (.int p2), .val (.int p3), .val (.int (3 : Int32)), .val (.int ((p1).toInt8.toInt32)), .val (.int ((p2).toInt8.toInt32)), .val (.int ((p3).toInt8.toInt32)), .val (.ref r), .unset, .unset, .unset, .unset] [])) _
      refine XS.aload X66.here hx rfl (hb hby at_58) rfl rfl ?_
      exact zk
    have lt_r := V_r.lt
    obtain ⟨_, _, ⟨T68, L68, k68, n68⟩, -, X68, Sc68, gr68, ⟨Lc68, hQ68, l68, y68, z68⟩, st68⟩ := callSS X66 hx (y := (⟨"com/example/key_ranges/keyranges/ByteString", "copyOf", "([B)Lcom/example/key_ranges/keyranges/ByteString;"⟩ : MethodName)) hown (mvT hZ (hw _ (List.mem_of_getElem? (i := 1) rfl))) (mvT hZ (hw _ (List.mem_of_getElem? (i := 2) rfl))) (mvT hZ (hw _ (List.mem_of_getElem? (i := 3) rfl))) (mvT hZ (hw _ (List.mem_of_getElem? (i := 4) rfl))) (by decide) (backOfS (W := 0) (rm1 l Z a0 hw [] r k57 (3 : Int32) [(.int (nar .byte ((p1).toInt8.toInt32))), (.int (nar .byte ((p2).toInt8.toInt32))), (.int (nar .byte ((p3).toInt8.toInt32)))] h66 n0 Sz66 V_r E_r (by decide)) hZ (hw _ (List.mem_of_getElem? (i := 4) rfl)) (hw _ (List.mem_of_getElem? (i := 3) rfl)) (by decide) (by decide)) (g := (mkF m 60 #[.val (.int p0), .val (.int p1), .val (.int p2), .val (.int p3), .val (.int (3 : Int32)), .val (.int ((p1).toInt8.toInt32)), .val (.int ((p2).toInt8.toInt32)), .val (.int ((p3).toInt8.toInt32)), .val (.ref r), .unset, .unset, .unset, .unset] [(.ref r)])) rfl (by rw [hml]; rfl) (argsL := [(.ref r)]) (rest := []) (lenOf pd_2 rfl) rfl (by show 2 * 0 + _ ≤ _; exact Nat.le_of_eq rfl) (hb hby at_60) (fun _ _ => ⟨rfl, e66, (by decide : 1 + 4 ≤ _), (by decide : 3 + 28 ≤ _)⟩)
    dsimp only [Pt.U, Pt.locs, Pt.cells, Pt.slots] at X68 l68 y68 z68 st68 hQ68 Sc68 gr68
    rw [y68, z68] at X68
    have X68 : Stand p l e room_1 (s.setVm T68.vm) m #[(.int p0), (.int p1), (.int p2), (.int p3)] below meth c T68 L68 5 31 := X68
    obtain ⟨rfl, Nq68, ⟨q, qsz, qne, K68, E_w, F_bytes_w, V_q, E_q⟩⟩ := hQ68
    have N68 : Fr n0 L68 := by rw [l68]; exact Fr.app N66 Nq68
    clear l68 y68 z68
    have hZ : Z.Warmed39 (s.setVm T68.vm).vm := State.Warmed39.trans hZ Sc68.1
    have hown : (s.setVm T68.vm).vm.findClass "com/example/key_ranges/keyranges/ByteStringCopyOfPinLaw" = some m.cls := (Sc68.1.alike.findClass _ _).trans hown
    have GS : T68.heap.size ≤ T68.heap.size := Nat.le_refl _
    have Sz68 := Nat.le_trans Sz66 K68.1
    have V_r := V_r.keep K68 nin0
    have E_r := E_r.keep K68
    obtain ⟨w, gw⟩ : ∃ z, z = h66.size := ⟨_, rfl⟩
    rw [← gw] at E_w F_bytes_w qne qsz st68
    have ne_r_w : r ≠ w := Nat.ne_of_lt (gw ▸ lt_r)
    have ne_r_q : r ≠ q := Nat.ne_of_lt (Nat.lt_of_lt_of_le (gw ▸ lt_r) qsz)
    have R69 : ∀ zt, Steps p.tables e below (T68.setTop (mkF m 78 #[.val (.int p0), .val (.int p1), .val (.int p2), .val (.int p3), .val (.int (3 : Int32)), .val (.int ((p1).toInt8.toInt32)), .val (.int ((p2).toInt8.toInt32)), .val (.int ((p3).toInt8.toInt32)), .val (.ref r), .val (.ref w), .unset, .unset, .unset] [(.int (((((p1).toInt8.toInt32) ^^^ (-1 : Int32))).toInt8.toInt32)), (.int (0 : Int32)), (.ref r)])) zt → Steps p.tables e below (s₁.setTop (entryFrame m #[(.int p0), (.int p1), (.int p2), (.int p3)] maxLocals)) zt := by
      intro zt zk
      refine R67 zt ?_
      show Steps p.tables e below (T66.setTop (mkF m 60 #[.val (.int p0), .val (.int p1), .val (.int p2), .val (.int p3), .val (.int (3 : Int32)), .val (.int ((p1).toInt8.toInt32)), .val (.int ((p2).toInt8.toInt32)), .val (.int ((p3).toInt8.toInt32)), .val (.ref r), .unset, .unset, .unset, .unset] [(.ref r)])) _
      refine st68.trans ?_
      show Steps p.tables e below (T68.setTop (mkF m 63 #[.val (.int p0), .val (.int p1), .val (.int p2), .val (.int p3), .val (.int (3 : Int32)), .val (.int ((p1).toInt8.toInt32)), .val (.int ((p2).toInt8.toInt32)), .val (.int ((p3).toInt8.toInt32)), .val (.ref r), .unset, .unset, .unset, .unset] [(.ref w)])) _
      refine XS.astore X68.here hx rfl (hb hby at_63) rfl rfl (l' := #[.val (.int p0), .val (.int p1), .val (.int p2), .val (.int p3), .val (.int (3 : Int32)), .val (.int ((p1).toInt8.toInt32)), .val (.int ((p2).toInt8.toInt32)), .val (.int ((p3).toInt8.toInt32)), .val (.ref r), .val (.ref w), .unset, .unset, .unset]) rfl ?_
      show Steps p.tables e below (T68.setTop (mkF m 65 #[.val (.int p0), .val (.int p1), .val (.int p2), .val (.int p3), .val (.int (3 : Int32)), .val (.int ((p1).toInt8.toInt32)), .val (.int ((p2).toInt8.toInt32)), .val (.int ((p3).toInt8.toInt32)), .val (.ref r), .val (.ref w), .unset, .unset, .unset] [])) _
      refine XS.iload X68.here hx rfl (hb hby at_65) rfl ?_
      show Steps p.tables e below (T68.setTop (mkF m 67 #[.val (.int p0), .val (.int p1), .val (.int p2), .val (.int p3), .val (.int (3 : Int32)), .val (.int ((p1).toInt8.toInt32)), .val (.int ((p2).toInt8.toInt32)), .val (.int ((p3).toInt8.toInt32)), .val (.ref r), .val (.ref w), .unset, .unset, .unset] [(.int (3 : Int32))])) _
      refine XS.ifNo X68.here hx rfl (hb hby at_67) rfl ((if0 _ _).trans (tlt (by decide)).2.2.2) ?_
      show Steps p.tables e below (T68.setTop (mkF m 70 #[.val (.int p0), .val (.int p1), .val (.int p2), .val (.int p3), .val (.int (3 : Int32)), .val (.int ((p1).toInt8.toInt32)), .val (.int ((p2).toInt8.toInt32)), .val (.int ((p3).toInt8.toInt32)), .val (.ref r), .val (.ref w), .unset, .unset, .unset] [])) _
      refine XS.aload X68.here hx rfl (hb hby at_70) rfl rfl ?_
      show Steps p.tables e below (T68.setTop (mkF m 72 #[.val (.int p0), .val (.int p1), .val (.int p2), .val (.int p3), .val (.int (3 : Int32)), .val (.int ((p1).toInt8.toInt32)), .val (.int ((p2).toInt8.toInt32)), .val (.int ((p3).toInt8.toInt32)), .val (.ref r), .val (.ref w), .unset, .unset, .unset] [(.ref r)])) _
      refine XS.iconst X68.here hx rfl (hb hby at_72) ?_
      show Steps p.tables e below (T68.setTop (mkF m 73 #[.val (.int p0), .val (.int p1), .val (.int p2), .val (.int p3), .val (.int (3 : Int32)), .val (.int ((p1).toInt8.toInt32)), .val (.int ((p2).toInt8.toInt32)), .val (.int ((p3).toInt8.toInt32)), .val (.ref r), .val (.ref w), .unset, .unset, .unset] [(.int (0 : Int32)), (.ref r)])) _
      refine XS.iload X68.here hx rfl (hb hby at_73) rfl ?_
      show Steps p.tables e below (T68.setTop (mkF m 75 #[.val (.int p0), .val (.int p1), .val (.int p2), .val (.int p3), .val (.int (3 : Int32)), .val (.int ((p1).toInt8.toInt32)), .val (.int ((p2).toInt8.toInt32)), .val (.int ((p3).toInt8.toInt32)), .val (.ref r), .val (.ref w), .unset, .unset, .unset] [(.int ((p1).toInt8.toInt32)), (.int (0 : Int32)), (.ref r)])) _
      refine XS.iconst X68.here hx rfl (hb hby at_75) ?_
      show Steps p.tables e below (T68.setTop (mkF m 76 #[.val (.int p0), .val (.int p1), .val (.int p2), .val (.int p3), .val (.int (3 : Int32)), .val (.int ((p1).toInt8.toInt32)), .val (.int ((p2).toInt8.toInt32)), .val (.int ((p3).toInt8.toInt32)), .val (.ref r), .val (.ref w), .unset, .unset, .unset] [(.int (-1 : Int32)), (.int ((p1).toInt8.toInt32)), (.int (0 : Int32)), (.ref r)])) _
      refine XS.ixor X68.here hx rfl (hb hby at_76) rfl ?_
      show Steps p.tables e below (T68.setTop (mkF m 77 #[.val (.int p0), .val (.int p1), .val (.int p2), .val (.int p3), .val (.int (3 : Int32)), .val (.int ((p1).toInt8.toInt32)), .val (.int ((p2).toInt8.toInt32)), .val (.int ((p3).toInt8.toInt32)), .val (.ref r), .val (.ref w), .unset, .unset, .unset] [(.int (((p1).toInt8.toInt32) ^^^ (-1 : Int32))), (.int (0 : Int32)), (.ref r)])) _
      refine XS.i2b X68.here hx rfl (hb hby at_77) rfl ?_
      exact zk
    obtain ⟨cl70, Ar70, Aq70, As70, An70, Ah70, Ag70⟩ := id V_r
    have hin70 : ¬ ((0 : Int32) < 0 ∨ cl70.slots.size ≤ ((0 : Int32)).toNatClampNeg) := inb_of As70 ⟨by decide, by decide⟩
    obtain ⟨T71, h71, X71, e71, W71, st71⟩ := stB X68 hx hZ rfl Ar70 (j := (0 : Int32)) hin70 (g := (mkF m 78 #[.val (.int p0), .val (.int p1), .val (.int p2), .val (.int p3), .val (.int (3 : Int32)), .val (.int ((p1).toInt8.toInt32)), .val (.int ((p2).toInt8.toInt32)), .val (.int ((p3).toInt8.toInt32)), .val (.ref r), .val (.ref w), .unset, .unset, .unset] [(.int (((((p1).toInt8.toInt32) ^^^ (-1 : Int32))).toInt8.toInt32)), (.int (0 : Int32)), (.ref r)])) rfl rfl (hb hby at_78)
    have N71 := Fr.snoc X71 N68 ge_r
    have Sz71 := Nat.le_trans Sz68 (Keep.of_wr W71).1
    have E_r := E_r.wr W71
    have GS := Nat.le_trans GS (Keep.of_wr W71).1
    have E_w := E_w.wr W71
    have F_bytes_w := F_bytes_w.other W71 (Or.inl ne_r_w.symm)
    have V_q := V_q.other W71 ne_r_q.symm
    have E_q := E_q.wr W71
    have V_r : Arv Z h71 r k57 .byte (3 : Int32) [(.int (nar .byte (((((p1).toInt8.toInt32) ^^^ (-1 : Int32))).toInt8.toInt32))), (.int (nar .byte ((p2).toInt8.toInt32))), (.int (nar .byte ((p3).toInt8.toInt32)))] (.int (0 : Int32)) := Arv.set Ar70 Aq70 As70 An70 Ah70 Ag70 (fits_nar_byte _) W71 0 rfl (Nat.le_of_ble_eq_true rfl)
    have R72 : ∀ zt, Steps p.tables e below (T71.setTop (mkF m 93 #[.val (.int p0), .val (.int p1), .val (.int p2), .val (.int p3), .val (.int (3 : Int32)), .val (.int ((p1).toInt8.toInt32)), .val (.int ((p2).toInt8.toInt32)), .val (.int ((p3).toInt8.toInt32)), .val (.ref r), .val (.ref w), .unset, .unset, .unset] [(.int (((((p2).toInt8.toInt32) ^^^ (-1 : Int32))).toInt8.toInt32)), (.int (1 : Int32)), (.ref r)])) zt → Steps p.tables e below (s₁.setTop (entryFrame m #[(.int p0), (.int p1), (.int p2), (.int p3)] maxLocals)) zt := by
      intro zt zk
      refine R69 zt ?_
      show Steps p.tables e below (T68.setTop (mkF m 78 #[.val (.int p0), .val (.int p1), .val (.int p2), .val (.int p3), .val (.int (3 : Int32)), .val (.int ((p1).toInt8.toInt32)), .val (.int ((p2).toInt8.toInt32)), .val (.int ((p3).toInt8.toInt32)), .val (.ref r), .val (.ref w), .unset, .unset, .unset] [(.int (((((p1).toInt8.toInt32) ^^^ (-1 : Int32))).toInt8.toInt32)), (.int (0 : Int32)), (.ref r)])) _
      refine st71 _ ?_
      show Steps p.tables e below (T71.setTop (mkF m 79 #[.val (.int p0), .val (.int p1), .val (.int p2), .val (.int p3), .val (.int (3 : Int32)), .val (.int ((p1).toInt8.toInt32)), .val (.int ((p2).toInt8.toInt32)), .val (.int ((p3).toInt8.toInt32)), .val (.ref r), .val (.ref w), .unset, .unset, .unset] [])) _
      refine XS.iload X71.here hx rfl (hb hby at_79) rfl ?_
      show Steps p.tables e below (T71.setTop (mkF m 81 #[.val (.int p0), .val (.int p1), .val (.int p2), .val (.int p3), .val (.int (3 : Int32)), .val (.int ((p1).toInt8.toInt32)), .val (.int ((p2).toInt8.toInt32)), .val (.int ((p3).toInt8.toInt32)), .val (.ref r), .val (.ref w), .unset, .unset, .unset] [(.int (3 : Int32))])) _
      refine XS.iconst X71.here hx rfl (hb hby at_81) ?_
      show Steps p.tables e below (T71.setTop (mkF m 82 #[.val (.int p0), .val (.int p1), .val (.int p2), .val (.int p3), .val (.int (3 : Int32)), .val (.int ((p1).toInt8.toInt32)), .val (.int ((p2).toInt8.toInt32)), .val (.int ((p3).toInt8.toInt32)), .val (.ref r), .val (.ref w), .unset, .unset, .unset] [(.int (1 : Int32)), (.int (3 : Int32))])) _
      refine XS.icmpNo X71.here hx rfl (hb hby at_82) rfl (tlt (by decide)).2.2.2 ?_
      show Steps p.tables e below (T71.setTop (mkF m 85 #[.val (.int p0), .val (.int p1), .val (.int p2), .val (.int p3), .val (.int (3 : Int32)), .val (.int ((p1).toInt8.toInt32)), .val (.int ((p2).toInt8.toInt32)), .val (.int ((p3).toInt8.toInt32)), .val (.ref r), .val (.ref w), .unset, .unset, .unset] [])) _
      refine XS.aload X71.here hx rfl (hb hby at_85) rfl rfl ?_
      show Steps p.tables e below (T71.setTop (mkF m 87 #[.val (.int p0), .val (.int p1), .val (.int p2), .val (.int p3), .val (.int (3 : Int32)), .val (.int ((p1).toInt8.toInt32)), .val (.int ((p2).toInt8.toInt32)), .val (.int ((p3).toInt8.toInt32)), .val (.ref r), .val (.ref w), .unset, .unset, .unset] [(.ref r)])) _
      refine XS.iconst X71.here hx rfl (hb hby at_87) ?_
      show Steps p.tables e below (T71.setTop (mkF m 88 #[.val (.int p0), .val (.int p1), .val (.int p2), .val (.int p3), .val (.int (3 : Int32)), .val (.int ((p1).toInt8.toInt32)), .val (.int ((p2).toInt8.toInt32)), .val (.int ((p3).toInt8.toInt32)), .val (.ref r), .val (.ref w), .unset, .unset, .unset] [(.int (1 : Int32)), (.ref r)])) _
      refine XS.iload X71.here hx rfl (hb hby at_88) rfl ?_
      show Steps p.tables e below (T71.setTop (mkF m 90 #[.val (.int p0), .val (.int p1), .val (.int p2), .val (.int p3), .val (.int (3 : Int32)), .val (.int ((p1).toInt8.toInt32)), .val (.int ((p2).toInt8.toInt32)), .val (.int ((p3).toInt8.toInt32)), .val (.ref r), .val (.ref w), .unset, .unset, .unset] [(.int ((p2).toInt8.toInt32)), (.int (1 : Int32)), (.ref r)])) _
      refine XS.iconst X71.here hx rfl (hb hby at_90) ?_
      show Steps p.tables e below (T71.setTop (mkF m 91 #[.val (.int p0), .val (.int p1), .val (.int p2), .val (.int p3), .val (.int (3 : Int32)), .val (.int ((p1).toInt8.toInt32)), .val (.int ((p2).toInt8.toInt32)), .val (.int ((p3).toInt8.toInt32)), .val (.ref r), .val (.ref w), .unset, .unset, .unset] [(.int (-1 : Int32)), (.int ((p2).toInt8.toInt32)), (.int (1 : Int32)), (.ref r)])) _
      refine XS.ixor X71.here hx rfl (hb hby at_91) rfl ?_
      show Steps p.tables e below (T71.setTop (mkF m 92 #[.val (.int p0), .val (.int p1), .val (.int p2), .val (.int p3), .val (.int (3 : Int32)), .val (.int ((p1).toInt8.toInt32)), .val (.int ((p2).toInt8.toInt32)), .val (.int ((p3).toInt8.toInt32)), .val (.ref r), .val (.ref w), .unset, .unset, .unset] [(.int (((p2).toInt8.toInt32) ^^^ (-1 : Int32))), (.int (1 : Int32)), (.ref r)])) _
      refine XS.i2b X71.here hx rfl (hb hby at_92) rfl ?_
      exact zk
    obtain ⟨cl73, Ar73, Aq73, As73, An73, Ah73, Ag73⟩ := id V_r
    have hin73 : ¬ ((1 : Int32) < 0 ∨ cl73.slots.size ≤ ((1 : Int32)).toNatClampNeg) := inb_of As73 ⟨by decide, by decide⟩
    obtain ⟨T74, h74, X74, e74, W74, st74⟩ := stB X71 hx hZ e71 Ar73 (j := (1 : Int32)) hin73 (g := (mkF m 93 #[.val (.int p0), .val (.int p1), .val (.int p2), .val (.int p3), .val (.int (3 : Int32)), .val (.int ((p1).toInt8.toInt32)), .val (.int ((p2).toInt8.toInt32)), .val (.int ((p3).toInt8.toInt32)), .val (.ref r), .val (.ref w), .unset, .unset, .unset] [(.int (((((p2).toInt8.toInt32) ^^^ (-1 : Int32))).toInt8.toInt32)), (.int (1 : Int32)), (.ref r)])) rfl rfl (hb hby at_93)
    have N74 := Fr.snoc X74 N71 ge_r
    have Sz74 := Nat.le_trans Sz71 (Keep.of_wr W74).1
    have E_r := E_r.wr W74
    have GS := Nat.le_trans GS (Keep.of_wr W74).1
    have E_w := E_w.wr W74
    have F_bytes_w := F_bytes_w.other W74 (Or.inl ne_r_w.symm)
    have V_q := V_q.other W74 ne_r_q.symm
    have E_q := E_q.wr W74
    have V_r : Arv Z h74 r k57 .byte (3 : Int32) [(.int (nar .byte (((((p1).toInt8.toInt32) ^^^ (-1 : Int32))).toInt8.toInt32))), (.int (nar .byte (((((p2).toInt8.toInt32) ^^^ (-1 : Int32))).toInt8.toInt32))), (.int (nar .byte ((p3).toInt8.toInt32)))] (.int (0 : Int32)) := Arv.set Ar73 Aq73 As73 An73 Ah73 Ag73 (fits_nar_byte _) W74 1 rfl (Nat.le_of_ble_eq_true rfl)
    have R75 : ∀ zt, Steps p.tables e below (T74.setTop (mkF m 108 #[.val (.int p0), .val (.int p1), .val (.int p2), .val (.int p3), .val (.int (3 : Int32)), .val (.int ((p1).toInt8.toInt32)), .val (.int ((p2).toInt8.toInt32)), .val (.int ((p3).toInt8.toInt32)), .val (.ref r), .val (.ref w), .unset, .unset, .unset] [(.int (((((p3).toInt8.toInt32) ^^^ (-1 : Int32))).toInt8.toInt32)), (.int (2 : Int32)), (.ref r)])) zt → Steps p.tables e below (s₁.setTop (entryFrame m #[(.int p0), (.int p1), (.int p2), (.int p3)] maxLocals)) zt := by
      intro zt zk
      refine R72 zt ?_
      show Steps p.tables e below (T71.setTop (mkF m 93 #[.val (.int p0), .val (.int p1), .val (.int p2), .val (.int p3), .val (.int (3 : Int32)), .val (.int ((p1).toInt8.toInt32)), .val (.int ((p2).toInt8.toInt32)), .val (.int ((p3).toInt8.toInt32)), .val (.ref r), .val (.ref w), .unset, .unset, .unset] [(.int (((((p2).toInt8.toInt32) ^^^ (-1 : Int32))).toInt8.toInt32)), (.int (1 : Int32)), (.ref r)])) _
      refine st74 _ ?_
      show Steps p.tables e below (T74.setTop (mkF m 94 #[.val (.int p0), .val (.int p1), .val (.int p2), .val (.int p3), .val (.int (3 : Int32)), .val (.int ((p1).toInt8.toInt32)), .val (.int ((p2).toInt8.toInt32)), .val (.int ((p3).toInt8.toInt32)), .val (.ref r), .val (.ref w), .unset, .unset, .unset] [])) _
      refine XS.iload X74.here hx rfl (hb hby at_94) rfl ?_
      show Steps p.tables e below (T74.setTop (mkF m 96 #[.val (.int p0), .val (.int p1), .val (.int p2), .val (.int p3), .val (.int (3 : Int32)), .val (.int ((p1).toInt8.toInt32)), .val (.int ((p2).toInt8.toInt32)), .val (.int ((p3).toInt8.toInt32)), .val (.ref r), .val (.ref w), .unset, .unset, .unset] [(.int (3 : Int32))])) _
      refine XS.iconst X74.here hx rfl (hb hby at_96) ?_
      show Steps p.tables e below (T74.setTop (mkF m 97 #[.val (.int p0), .val (.int p1), .val (.int p2), .val (.int p3), .val (.int (3 : Int32)), .val (.int ((p1).toInt8.toInt32)), .val (.int ((p2).toInt8.toInt32)), .val (.int ((p3).toInt8.toInt32)), .val (.ref r), .val (.ref w), .unset, .unset, .unset] [(.int (2 : Int32)), (.int (3 : Int32))])) _
      refine XS.icmpNo X74.here hx rfl (hb hby at_97) rfl (tlt (by decide)).2.2.2 ?_
      show Steps p.tables e below (T74.setTop (mkF m 100 #[.val (.int p0), .val (.int p1), .val (.int p2), .val (.int p3), .val (.int (3 : Int32)), .val (.int ((p1).toInt8.toInt32)), .val (.int ((p2).toInt8.toInt32)), .val (.int ((p3).toInt8.toInt32)), .val (.ref r), .val (.ref w), .unset, .unset, .unset] [])) _
      refine XS.aload X74.here hx rfl (hb hby at_100) rfl rfl ?_
      show Steps p.tables e below (T74.setTop (mkF m 102 #[.val (.int p0), .val (.int p1), .val (.int p2), .val (.int p3), .val (.int (3 : Int32)), .val (.int ((p1).toInt8.toInt32)), .val (.int ((p2).toInt8.toInt32)), .val (.int ((p3).toInt8.toInt32)), .val (.ref r), .val (.ref w), .unset, .unset, .unset] [(.ref r)])) _
      refine XS.iconst X74.here hx rfl (hb hby at_102) ?_
      show Steps p.tables e below (T74.setTop (mkF m 103 #[.val (.int p0), .val (.int p1), .val (.int p2), .val (.int p3), .val (.int (3 : Int32)), .val (.int ((p1).toInt8.toInt32)), .val (.int ((p2).toInt8.toInt32)), .val (.int ((p3).toInt8.toInt32)), .val (.ref r), .val (.ref w), .unset, .unset, .unset] [(.int (2 : Int32)), (.ref r)])) _
      refine XS.iload X74.here hx rfl (hb hby at_103) rfl ?_
      show Steps p.tables e below (T74.setTop (mkF m 105 #[.val (.int p0), .val (.int p1), .val (.int p2), .val (.int p3), .val (.int (3 : Int32)), .val (.int ((p1).toInt8.toInt32)), .val (.int ((p2).toInt8.toInt32)), .val (.int ((p3).toInt8.toInt32)), .val (.ref r), .val (.ref w), .unset, .unset, .unset] [(.int ((p3).toInt8.toInt32)), (.int (2 : Int32)), (.ref r)])) _
      refine XS.iconst X74.here hx rfl (hb hby at_105) ?_
      show Steps p.tables e below (T74.setTop (mkF m 106 #[.val (.int p0), .val (.int p1), .val (.int p2), .val (.int p3), .val (.int (3 : Int32)), .val (.int ((p1).toInt8.toInt32)), .val (.int ((p2).toInt8.toInt32)), .val (.int ((p3).toInt8.toInt32)), .val (.ref r), .val (.ref w), .unset, .unset, .unset] [(.int (-1 : Int32)), (.int ((p3).toInt8.toInt32)), (.int (2 : Int32)), (.ref r)])) _
      refine XS.ixor X74.here hx rfl (hb hby at_106) rfl ?_
      show Steps p.tables e below (T74.setTop (mkF m 107 #[.val (.int p0), .val (.int p1), .val (.int p2), .val (.int p3), .val (.int (3 : Int32)), .val (.int ((p1).toInt8.toInt32)), .val (.int ((p2).toInt8.toInt32)), .val (.int ((p3).toInt8.toInt32)), .val (.ref r), .val (.ref w), .unset, .unset, .unset] [(.int (((p3).toInt8.toInt32) ^^^ (-1 : Int32))), (.int (2 : Int32)), (.ref r)])) _
      refine XS.i2b X74.here hx rfl (hb hby at_107) rfl ?_
      exact zk
    obtain ⟨cl76, Ar76, Aq76, As76, An76, Ah76, Ag76⟩ := id V_r
    have hin76 : ¬ ((2 : Int32) < 0 ∨ cl76.slots.size ≤ ((2 : Int32)).toNatClampNeg) := inb_of As76 ⟨by decide, by decide⟩
    obtain ⟨T77, h77, X77, e77, W77, st77⟩ := stB X74 hx hZ e74 Ar76 (j := (2 : Int32)) hin76 (g := (mkF m 108 #[.val (.int p0), .val (.int p1), .val (.int p2), .val (.int p3), .val (.int (3 : Int32)), .val (.int ((p1).toInt8.toInt32)), .val (.int ((p2).toInt8.toInt32)), .val (.int ((p3).toInt8.toInt32)), .val (.ref r), .val (.ref w), .unset, .unset, .unset] [(.int (((((p3).toInt8.toInt32) ^^^ (-1 : Int32))).toInt8.toInt32)), (.int (2 : Int32)), (.ref r)])) rfl rfl (hb hby at_108)
    have N77 := Fr.snoc X77 N74 ge_r
    have Sz77 := Nat.le_trans Sz74 (Keep.of_wr W77).1
    have E_r := E_r.wr W77
    have GS := Nat.le_trans GS (Keep.of_wr W77).1
    have E_w := E_w.wr W77
    have F_bytes_w := F_bytes_w.other W77 (Or.inl ne_r_w.symm)
    have V_q := V_q.other W77 ne_r_q.symm
    have E_q := E_q.wr W77
    have V_r : Arv Z h77 r k57 .byte (3 : Int32) [(.int (nar .byte (((((p1).toInt8.toInt32) ^^^ (-1 : Int32))).toInt8.toInt32))), (.int (nar .byte (((((p2).toInt8.toInt32) ^^^ (-1 : Int32))).toInt8.toInt32))), (.int (nar .byte (((((p3).toInt8.toInt32) ^^^ (-1 : Int32))).toInt8.toInt32)))] (.int (0 : Int32)) := Arv.set Ar76 Aq76 As76 An76 Ah76 Ag76 (fits_nar_byte _) W77 2 rfl (Nat.le_of_ble_eq_true rfl)
    have R78 : ∀ zt, Steps p.tables e below (T77.setTop (mkF m 111 #[.val (.int p0), .val (.int p1), .val (.int p2), .val (.int p3), .val (.int (3 : Int32)), .val (.int ((p1).toInt8.toInt32)), .val (.int ((p2).toInt8.toInt32)), .val (.int ((p3).toInt8.toInt32)), .val (.ref r), .val (.ref w), .unset, .unset, .unset] [(.ref w)])) zt → Steps p.tables e below (s₁.setTop (entryFrame m #[(.int p0), (.int p1), (.int p2), (.int p3)] maxLocals)) zt := by
      intro zt zk
      refine R75 zt ?_
      show Steps p.tables e below (T74.setTop (mkF m 108 #[.val (.int p0), .val (.int p1), .val (.int p2), .val (.int p3), .val (.int (3 : Int32)), .val (.int ((p1).toInt8.toInt32)), .val (.int ((p2).toInt8.toInt32)), .val (.int ((p3).toInt8.toInt32)), .val (.ref r), .val (.ref w), .unset, .unset, .unset] [(.int (((((p3).toInt8.toInt32) ^^^ (-1 : Int32))).toInt8.toInt32)), (.int (2 : Int32)), (.ref r)])) _
      refine st77 _ ?_
      show Steps p.tables e below (T77.setTop (mkF m 109 #[.val (.int p0), .val (.int p1), .val (.int p2), .val (.int p3), .val (.int (3 : Int32)), .val (.int ((p1).toInt8.toInt32)), .val (.int ((p2).toInt8.toInt32)), .val (.int ((p3).toInt8.toInt32)), .val (.ref r), .val (.ref w), .unset, .unset, .unset] [])) _
      refine XS.aload X77.here hx rfl (hb hby at_109) rfl rfl ?_
      exact zk
    obtain ⟨cq79, kq79, q79a, q79b, q79c⟩ := isOf hZ e77 E_w
    obtain ⟨_, _, ⟨T79, L79, k79, n79⟩, -, X79, ⟨Lc79, hQ79, l79, y79, z79⟩, st79⟩ := X77.virtualBack hx (y := (⟨"com/example/key_ranges/keyranges/ByteString", "size", "()I"⟩ : MethodName)) (z := (⟨"com/example/key_ranges/keyranges/ByteString", "size", "()I"⟩ : MethodName)) hown (mvT hZ (hw _ (List.mem_of_getElem? (i := 35) rfl))) (mvT hZ (hw _ (List.mem_of_getElem? (i := 36) rfl))) (notFace_of_selects (args := #[]) (mvT hZ (hw _ (List.mem_of_getElem? (i := 38) rfl)))) (mvT hZ (hw _ (List.mem_of_getElem? (i := 38) rfl))) (mvT hZ (hw _ (List.mem_of_getElem? (i := 37) rfl))) (by decide) (backOf (W := 0) (rm5 l Z a0 hw [] w q k57 (3 : Int32) [(.int (nar .byte ((p1).toInt8.toInt32))), (.int (nar .byte ((p2).toInt8.toInt32))), (.int (nar .byte ((p3).toInt8.toInt32)))] h77 n0 Sz77 F_bytes_w V_q) hZ (hw _ (List.mem_of_getElem? (i := 39) rfl)) (hw _ (List.mem_of_getElem? (i := 3) rfl)) (by decide) (by decide)) q79a q79c (g := (mkF m 111 #[.val (.int p0), .val (.int p1), .val (.int p2), .val (.int p3), .val (.int (3 : Int32)), .val (.int ((p1).toInt8.toInt32)), .val (.int ((p2).toInt8.toInt32)), .val (.int ((p3).toInt8.toInt32)), .val (.ref r), .val (.ref w), .unset, .unset, .unset] [(.ref w)])) rfl (by rw [hml]; rfl) (Steps.refl _) (argsL := []) (rest := []) (lenOf pd_3 rfl) rfl (by show 2 * 0 + _ ≤ _; exact Nat.le_of_eq rfl) (hb hby at_111) (fun _ _ => ⟨rfl, e77, (by decide : 5 + 0 ≤ _), (by decide : 31 + 0 ≤ _)⟩)
    dsimp only [Pt.U, Pt.locs, Pt.cells, Pt.slots] at X79 l79 y79 z79 st79 hQ79
    rw [y79, z79] at X79
    have X79 : Stand p l e room_1 (s.setVm T68.vm) m #[(.int p0), (.int p1), (.int p2), (.int p3)] below meth c T79 L79 5 31 := X79
    obtain ⟨rfl, Nq79, eq79⟩ := hQ79
    have N79 : Fr n0 L79 := by rw [l79]; exact Fr.app N77 Nq79
    clear l79 y79 z79
    have e79 : T79.heap = h77 := eq79
    have R80 : ∀ zt, Steps p.tables e below (T79.setTop (mkF m 118 #[.val (.int p0), .val (.int p1), .val (.int p2), .val (.int p3), .val (.int (3 : Int32)), .val (.int ((p1).toInt8.toInt32)), .val (.int ((p2).toInt8.toInt32)), .val (.int ((p3).toInt8.toInt32)), .val (.ref r), .val (.ref w), .val (.int (3 : Int32)), .unset, .unset] [(.ref w)])) zt → Steps p.tables e below (s₁.setTop (entryFrame m #[(.int p0), (.int p1), (.int p2), (.int p3)] maxLocals)) zt := by
      intro zt zk
      refine R78 zt ?_
      show Steps p.tables e below (T77.setTop (mkF m 111 #[.val (.int p0), .val (.int p1), .val (.int p2), .val (.int p3), .val (.int (3 : Int32)), .val (.int ((p1).toInt8.toInt32)), .val (.int ((p2).toInt8.toInt32)), .val (.int ((p3).toInt8.toInt32)), .val (.ref r), .val (.ref w), .unset, .unset, .unset] [(.ref w)])) _
      refine st79.trans ?_
      show Steps p.tables e below (T79.setTop (mkF m 114 #[.val (.int p0), .val (.int p1), .val (.int p2), .val (.int p3), .val (.int (3 : Int32)), .val (.int ((p1).toInt8.toInt32)), .val (.int ((p2).toInt8.toInt32)), .val (.int ((p3).toInt8.toInt32)), .val (.ref r), .val (.ref w), .unset, .unset, .unset] [(.int (3 : Int32))])) _
      refine XS.istore X79.here hx rfl (hb hby at_114) rfl (l' := #[.val (.int p0), .val (.int p1), .val (.int p2), .val (.int p3), .val (.int (3 : Int32)), .val (.int ((p1).toInt8.toInt32)), .val (.int ((p2).toInt8.toInt32)), .val (.int ((p3).toInt8.toInt32)), .val (.ref r), .val (.ref w), .val (.int (3 : Int32)), .unset, .unset]) rfl ?_
      show Steps p.tables e below (T79.setTop (mkF m 116 #[.val (.int p0), .val (.int p1), .val (.int p2), .val (.int p3), .val (.int (3 : Int32)), .val (.int ((p1).toInt8.toInt32)), .val (.int ((p2).toInt8.toInt32)), .val (.int ((p3).toInt8.toInt32)), .val (.ref r), .val (.ref w), .val (.int (3 : Int32)), .unset, .unset] [])) _
      refine XS.aload X79.here hx rfl (hb hby at_116) rfl rfl ?_
      exact zk
    obtain ⟨cq81, kq81, q81a, q81b, q81c⟩ := isOf hZ e79 E_w
    obtain ⟨_, _, ⟨T81, L81, k81, n81⟩, -, X81, ⟨Lc81, hQ81, l81, y81, z81⟩, st81⟩ := X79.virtualBack hx (y := (⟨"com/example/key_ranges/keyranges/ByteString", "toByteArray", "()[B"⟩ : MethodName)) (z := (⟨"com/example/key_ranges/keyranges/ByteString", "toByteArray", "()[B"⟩ : MethodName)) hown (mvT hZ (hw _ (List.mem_of_getElem? (i := 40) rfl))) (mvT hZ (hw _ (List.mem_of_getElem? (i := 41) rfl))) (notFace_of_selects (args := #[]) (mvT hZ (hw _ (List.mem_of_getElem? (i := 43) rfl)))) (mvT hZ (hw _ (List.mem_of_getElem? (i := 43) rfl))) (mvT hZ (hw _ (List.mem_of_getElem? (i := 42) rfl))) (by decide) (backOf (W := 0) (rm6 l Z a0 hw [] w q k57 (3 : Int32) [(.int (nar .byte ((p1).toInt8.toInt32))), (.int (nar .byte ((p2).toInt8.toInt32))), (.int (nar .byte ((p3).toInt8.toInt32)))] h77 n0 Sz77 F_bytes_w V_q E_q (by decide)) hZ (hw _ (List.mem_of_getElem? (i := 44) rfl)) (hw _ (List.mem_of_getElem? (i := 3) rfl)) (by decide) (by decide)) q81a q81c (g := (mkF m 118 #[.val (.int p0), .val (.int p1), .val (.int p2), .val (.int p3), .val (.int (3 : Int32)), .val (.int ((p1).toInt8.toInt32)), .val (.int ((p2).toInt8.toInt32)), .val (.int ((p3).toInt8.toInt32)), .val (.ref r), .val (.ref w), .val (.int (3 : Int32)), .unset, .unset] [(.ref w)])) rfl (by rw [hml]; rfl) (Steps.refl _) (argsL := []) (rest := []) (lenOf pd_4 rfl) rfl (by show 2 * 0 + _ ≤ _; exact Nat.le_of_eq rfl) (hb hby at_118) (fun _ _ => ⟨rfl, e79, (by decide : 5 + 1 ≤ _), (by decide : 31 + 3 ≤ _)⟩)
    dsimp only [Pt.U, Pt.locs, Pt.cells, Pt.slots] at X81 l81 y81 z81 st81 hQ81
    rw [y81, z81] at X81
    have X81 : Stand p l e room_1 (s.setVm T68.vm) m #[(.int p0), (.int p1), (.int p2), (.int p3)] below meth c T81 L81 6 34 := X81
    obtain ⟨rfl, Nq81, K81, V_o⟩ := hQ81
    have N81 : Fr n0 L81 := by rw [l81]; exact Fr.app N79 Nq81
    clear l81 y81 z81
    have Sz81 := Nat.le_trans Sz77 K81.1
    have V_r := V_r.keep K81 nin0
    have E_r := E_r.keep K81
    have GS := Nat.le_trans GS K81.1
    have E_w := E_w.keep K81
    have F_bytes_w := F_bytes_w.keep K81 nin0
    have V_q := V_q.keep K81 nin0
    have E_q := E_q.keep K81
    obtain ⟨o, go⟩ : ∃ z, z = h77.size := ⟨_, rfl⟩
    rw [← go] at V_o st81
    have R82 : ∀ zt, Steps p.tables e below (T81.setTop (mkF m 132 #[.val (.int p0), .val (.int p1), .val (.int p2), .val (.int p3), .val (.int (3 : Int32)), .val (.int ((p1).toInt8.toInt32)), .val (.int ((p2).toInt8.toInt32)), .val (.int ((p3).toInt8.toInt32)), .val (.ref r), .val (.ref w), .val (.int (3 : Int32)), .val (.ref o), .unset] [(.ref o)])) zt → Steps p.tables e below (s₁.setTop (entryFrame m #[(.int p0), (.int p1), (.int p2), (.int p3)] maxLocals)) zt := by
      intro zt zk
      refine R80 zt ?_
      show Steps p.tables e below (T79.setTop (mkF m 118 #[.val (.int p0), .val (.int p1), .val (.int p2), .val (.int p3), .val (.int (3 : Int32)), .val (.int ((p1).toInt8.toInt32)), .val (.int ((p2).toInt8.toInt32)), .val (.int ((p3).toInt8.toInt32)), .val (.ref r), .val (.ref w), .val (.int (3 : Int32)), .unset, .unset] [(.ref w)])) _
      refine st81.trans ?_
      show Steps p.tables e below (T81.setTop (mkF m 121 #[.val (.int p0), .val (.int p1), .val (.int p2), .val (.int p3), .val (.int (3 : Int32)), .val (.int ((p1).toInt8.toInt32)), .val (.int ((p2).toInt8.toInt32)), .val (.int ((p3).toInt8.toInt32)), .val (.ref r), .val (.ref w), .val (.int (3 : Int32)), .unset, .unset] [(.ref o)])) _
      refine XS.astore X81.here hx rfl (hb hby at_121) rfl rfl (l' := #[.val (.int p0), .val (.int p1), .val (.int p2), .val (.int p3), .val (.int (3 : Int32)), .val (.int ((p1).toInt8.toInt32)), .val (.int ((p2).toInt8.toInt32)), .val (.int ((p3).toInt8.toInt32)), .val (.ref r), .val (.ref w), .val (.int (3 : Int32)), .val (.ref o), .unset]) rfl ?_
      show Steps p.tables e below (T81.setTop (mkF m 123 #[.val (.int p0), .val (.int p1), .val (.int p2), .val (.int p3), .val (.int (3 : Int32)), .val (.int ((p1).toInt8.toInt32)), .val (.int ((p2).toInt8.toInt32)), .val (.int ((p3).toInt8.toInt32)), .val (.ref r), .val (.ref w), .val (.int (3 : Int32)), .val (.ref o), .unset] [])) _
      refine XS.iload X81.here hx rfl (hb hby at_123) rfl ?_
      show Steps p.tables e below (T81.setTop (mkF m 125 #[.val (.int p0), .val (.int p1), .val (.int p2), .val (.int p3), .val (.int (3 : Int32)), .val (.int ((p1).toInt8.toInt32)), .val (.int ((p2).toInt8.toInt32)), .val (.int ((p3).toInt8.toInt32)), .val (.ref r), .val (.ref w), .val (.int (3 : Int32)), .val (.ref o), .unset] [(.int (3 : Int32))])) _
      refine XS.iload X81.here hx rfl (hb hby at_125) rfl ?_
      show Steps p.tables e below (T81.setTop (mkF m 127 #[.val (.int p0), .val (.int p1), .val (.int p2), .val (.int p3), .val (.int (3 : Int32)), .val (.int ((p1).toInt8.toInt32)), .val (.int ((p2).toInt8.toInt32)), .val (.int ((p3).toInt8.toInt32)), .val (.ref r), .val (.ref w), .val (.int (3 : Int32)), .val (.ref o), .unset] [(.int (3 : Int32)), (.int (3 : Int32))])) _
      refine XS.icmpNo X81.here hx rfl (hb hby at_127) rfl (teq (rfl : (3 : Int32) = (3 : Int32))).2 ?_
      show Steps p.tables e below (T81.setTop (mkF m 130 #[.val (.int p0), .val (.int p1), .val (.int p2), .val (.int p3), .val (.int (3 : Int32)), .val (.int ((p1).toInt8.toInt32)), .val (.int ((p2).toInt8.toInt32)), .val (.int ((p3).toInt8.toInt32)), .val (.ref r), .val (.ref w), .val (.int (3 : Int32)), .val (.ref o), .unset] [])) _
      refine XS.aload X81.here hx rfl (hb hby at_130) rfl rfl ?_
      exact zk
    obtain ⟨cl83, Ar83, Aq83, As83, An83, Ah83, Ag83⟩ := id V_o
    have R84 : ∀ zt, Steps p.tables e below (T81.setTop (mkF m 156 #[.val (.int p0), .val (.int p1), .val (.int p2), .val (.int p3), .val (.int (3 : Int32)), .val (.int ((p1).toInt8.toInt32)), .val (.int ((p2).toInt8.toInt32)), .val (.int ((p3).toInt8.toInt32)), .val (.ref r), .val (.ref w), .val (.int (3 : Int32)), .val (.ref o), .val (.int (1 : Int32))] [(.int (0 : Int32)), (.ref o)])) zt → Steps p.tables e below (s₁.setTop (entryFrame m #[(.int p0), (.int p1), (.int p2), (.int p3)] maxLocals)) zt := by
      intro zt zk
      refine R82 zt ?_
      show Steps p.tables e below (T81.setTop (mkF m 132 #[.val (.int p0), .val (.int p1), .val (.int p2), .val (.int p3), .val (.int (3 : Int32)), .val (.int ((p1).toInt8.toInt32)), .val (.int ((p2).toInt8.toInt32)), .val (.int ((p3).toInt8.toInt32)), .val (.ref r), .val (.ref w), .val (.int (3 : Int32)), .val (.ref o), .unset] [(.ref o)])) _
      refine X81.arraylength hx Ar83.1 (State.isArrayOf_alike hZ.alike Ar83.2.1) (g := (mkF m 132 #[.val (.int p0), .val (.int p1), .val (.int p2), .val (.int p3), .val (.int (3 : Int32)), .val (.int ((p1).toInt8.toInt32)), .val (.int ((p2).toInt8.toInt32)), .val (.int ((p3).toInt8.toInt32)), .val (.ref r), .val (.ref w), .val (.int (3 : Int32)), .val (.ref o), .unset] [(.ref o)])) rfl rfl (hb hby at_132) _ ?_
      rw [len_of As83 An83]
      show Steps p.tables e below (T81.setTop (mkF m 133 #[.val (.int p0), .val (.int p1), .val (.int p2), .val (.int p3), .val (.int (3 : Int32)), .val (.int ((p1).toInt8.toInt32)), .val (.int ((p2).toInt8.toInt32)), .val (.int ((p3).toInt8.toInt32)), .val (.ref r), .val (.ref w), .val (.int (3 : Int32)), .val (.ref o), .unset] [(.int (3 : Int32))])) _
      refine XS.iload X81.here hx rfl (hb hby at_133) rfl ?_
      show Steps p.tables e below (T81.setTop (mkF m 135 #[.val (.int p0), .val (.int p1), .val (.int p2), .val (.int p3), .val (.int (3 : Int32)), .val (.int ((p1).toInt8.toInt32)), .val (.int ((p2).toInt8.toInt32)), .val (.int ((p3).toInt8.toInt32)), .val (.ref r), .val (.ref w), .val (.int (3 : Int32)), .val (.ref o), .unset] [(.int (3 : Int32)), (.int (3 : Int32))])) _
      refine XS.icmpYes X81.here hx rfl (pc0 := 135) (pc' := 140) rfl (hb hby at_135) rfl (teq (rfl : (3 : Int32) = (3 : Int32))).1 (by decide) (by decide) ?_
      show Steps p.tables e below (T81.setTop (mkF m 140 #[.val (.int p0), .val (.int p1), .val (.int p2), .val (.int p3), .val (.int (3 : Int32)), .val (.int ((p1).toInt8.toInt32)), .val (.int ((p2).toInt8.toInt32)), .val (.int ((p3).toInt8.toInt32)), .val (.ref r), .val (.ref w), .val (.int (3 : Int32)), .val (.ref o), .unset] [])) _
      refine XS.iconst X81.here hx rfl (hb hby at_140) ?_
      show Steps p.tables e below (T81.setTop (mkF m 141 #[.val (.int p0), .val (.int p1), .val (.int p2), .val (.int p3), .val (.int (3 : Int32)), .val (.int ((p1).toInt8.toInt32)), .val (.int ((p2).toInt8.toInt32)), .val (.int ((p3).toInt8.toInt32)), .val (.ref r), .val (.ref w), .val (.int (3 : Int32)), .val (.ref o), .unset] [(.int (1 : Int32))])) _
      refine XS.istore X81.here hx rfl (hb hby at_141) rfl (l' := #[.val (.int p0), .val (.int p1), .val (.int p2), .val (.int p3), .val (.int (3 : Int32)), .val (.int ((p1).toInt8.toInt32)), .val (.int ((p2).toInt8.toInt32)), .val (.int ((p3).toInt8.toInt32)), .val (.ref r), .val (.ref w), .val (.int (3 : Int32)), .val (.ref o), .val (.int (1 : Int32))]) rfl ?_
      show Steps p.tables e below (T81.setTop (mkF m 143 #[.val (.int p0), .val (.int p1), .val (.int p2), .val (.int p3), .val (.int (3 : Int32)), .val (.int ((p1).toInt8.toInt32)), .val (.int ((p2).toInt8.toInt32)), .val (.int ((p3).toInt8.toInt32)), .val (.ref r), .val (.ref w), .val (.int (3 : Int32)), .val (.ref o), .val (.int (1 : Int32))] [])) _
      refine XS.iload X81.here hx rfl (hb hby at_143) rfl ?_
      show Steps p.tables e below (T81.setTop (mkF m 145 #[.val (.int p0), .val (.int p1), .val (.int p2), .val (.int p3), .val (.int (3 : Int32)), .val (.int ((p1).toInt8.toInt32)), .val (.int ((p2).toInt8.toInt32)), .val (.int ((p3).toInt8.toInt32)), .val (.ref r), .val (.ref w), .val (.int (3 : Int32)), .val (.ref o), .val (.int (1 : Int32))] [(.int (3 : Int32))])) _
      refine XS.ifNo X81.here hx rfl (hb hby at_145) rfl ((if0 _ _).trans (tlt (by decide)).2.2.2) ?_
      show Steps p.tables e below (T81.setTop (mkF m 148 #[.val (.int p0), .val (.int p1), .val (.int p2), .val (.int p3), .val (.int (3 : Int32)), .val (.int ((p1).toInt8.toInt32)), .val (.int ((p2).toInt8.toInt32)), .val (.int ((p3).toInt8.toInt32)), .val (.ref r), .val (.ref w), .val (.int (3 : Int32)), .val (.ref o), .val (.int (1 : Int32))] [])) _
      refine XS.iload X81.here hx rfl (hb hby at_148) rfl ?_
      show Steps p.tables e below (T81.setTop (mkF m 150 #[.val (.int p0), .val (.int p1), .val (.int p2), .val (.int p3), .val (.int (3 : Int32)), .val (.int ((p1).toInt8.toInt32)), .val (.int ((p2).toInt8.toInt32)), .val (.int ((p3).toInt8.toInt32)), .val (.ref r), .val (.ref w), .val (.int (3 : Int32)), .val (.ref o), .val (.int (1 : Int32))] [(.int (1 : Int32))])) _
      refine XS.ifNo X81.here hx rfl (hb hby at_150) rfl ((if0 _ _).trans (feq (by decide)).1) ?_
      show Steps p.tables e below (T81.setTop (mkF m 153 #[.val (.int p0), .val (.int p1), .val (.int p2), .val (.int p3), .val (.int (3 : Int32)), .val (.int ((p1).toInt8.toInt32)), .val (.int ((p2).toInt8.toInt32)), .val (.int ((p3).toInt8.toInt32)), .val (.ref r), .val (.ref w), .val (.int (3 : Int32)), .val (.ref o), .val (.int (1 : Int32))] [])) _
      refine XS.aload X81.here hx rfl (hb hby at_153) rfl rfl ?_
      show Steps p.tables e below (T81.setTop (mkF m 155 #[.val (.int p0), .val (.int p1), .val (.int p2), .val (.int p3), .val (.int (3 : Int32)), .val (.int ((p1).toInt8.toInt32)), .val (.int ((p2).toInt8.toInt32)), .val (.int ((p3).toInt8.toInt32)), .val (.ref r), .val (.ref w), .val (.int (3 : Int32)), .val (.ref o), .val (.int (1 : Int32))] [(.ref o)])) _
      refine XS.iconst X81.here hx rfl (hb hby at_155) ?_
      exact zk
    obtain ⟨cl85, Ar85, Aq85, As85, An85, Ah85, Ag85⟩ := id V_o
    have hin85 : ¬ ((0 : Int32) < 0 ∨ cl85.slots.size ≤ ((0 : Int32)).toNatClampNeg) := inb_of As85 ⟨by decide, by decide⟩
    have hat85 : cl85.slots[((0 : Int32)).toNatClampNeg]? = some (.int (nar .byte ((p1).toInt8.toInt32))) := Has.at Ah85 hin85 rfl
    have R86 : ∀ zt, Steps p.tables e below (T81.setTop (mkF m 183 #[.val (.int p0), .val (.int p1), .val (.int p2), .val (.int p3), .val (.int (3 : Int32)), .val (.int ((p1).toInt8.toInt32)), .val (.int ((p2).toInt8.toInt32)), .val (.int ((p3).toInt8.toInt32)), .val (.ref r), .val (.ref w), .val (.int (3 : Int32)), .val (.ref o), .val (.int (1 : Int32))] [(.int (1 : Int32)), (.ref o)])) zt → Steps p.tables e below (s₁.setTop (entryFrame m #[(.int p0), (.int p1), (.int p2), (.int p3)] maxLocals)) zt := by
      intro zt zk
      refine R84 zt ?_
      show Steps p.tables e below (T81.setTop (mkF m 156 #[.val (.int p0), .val (.int p1), .val (.int p2), .val (.int p3), .val (.int (3 : Int32)), .val (.int ((p1).toInt8.toInt32)), .val (.int ((p2).toInt8.toInt32)), .val (.int ((p3).toInt8.toInt32)), .val (.ref r), .val (.ref w), .val (.int (3 : Int32)), .val (.ref o), .val (.int (1 : Int32))] [(.int (0 : Int32)), (.ref o)])) _
      refine X81.baloadBytes hx (j := (0 : Int32)) (v := (.int (nar .byte ((p1).toInt8.toInt32)))) Ar85.1 (State.isArrayOf_alike hZ.alike Ar85.2.1) Ar85.2.2 hin85 hat85 (g := (mkF m 156 #[.val (.int p0), .val (.int p1), .val (.int p2), .val (.int p3), .val (.int (3 : Int32)), .val (.int ((p1).toInt8.toInt32)), .val (.int ((p2).toInt8.toInt32)), .val (.int ((p3).toInt8.toInt32)), .val (.ref r), .val (.ref w), .val (.int (3 : Int32)), .val (.ref o), .val (.int (1 : Int32))] [(.int (0 : Int32)), (.ref o)])) rfl rfl (hb hby at_156) _ ?_
      show Steps p.tables e below (T81.setTop (mkF m 157 #[.val (.int p0), .val (.int p1), .val (.int p2), .val (.int p3), .val (.int (3 : Int32)), .val (.int ((p1).toInt8.toInt32)), .val (.int ((p2).toInt8.toInt32)), .val (.int ((p3).toInt8.toInt32)), .val (.ref r), .val (.ref w), .val (.int (3 : Int32)), .val (.ref o), .val (.int (1 : Int32))] [(.int (nar .byte ((p1).toInt8.toInt32)))])) _
      refine XS.iload X81.here hx rfl (hb hby at_157) rfl ?_
      show Steps p.tables e below (T81.setTop (mkF m 159 #[.val (.int p0), .val (.int p1), .val (.int p2), .val (.int p3), .val (.int (3 : Int32)), .val (.int ((p1).toInt8.toInt32)), .val (.int ((p2).toInt8.toInt32)), .val (.int ((p3).toInt8.toInt32)), .val (.ref r), .val (.ref w), .val (.int (3 : Int32)), .val (.ref o), .val (.int (1 : Int32))] [(.int ((p1).toInt8.toInt32)), (.int (nar .byte ((p1).toInt8.toInt32)))])) _
      refine XS.icmpNo X81.here hx rfl (hb hby at_159) rfl (teq (own_b8 _)).2 ?_
      show Steps p.tables e below (T81.setTop (mkF m 162 #[.val (.int p0), .val (.int p1), .val (.int p2), .val (.int p3), .val (.int (3 : Int32)), .val (.int ((p1).toInt8.toInt32)), .val (.int ((p2).toInt8.toInt32)), .val (.int ((p3).toInt8.toInt32)), .val (.ref r), .val (.ref w), .val (.int (3 : Int32)), .val (.ref o), .val (.int (1 : Int32))] [])) _
      refine XS.iconst X81.here hx rfl (hb hby at_162) ?_
      show Steps p.tables e below (T81.setTop (mkF m 163 #[.val (.int p0), .val (.int p1), .val (.int p2), .val (.int p3), .val (.int (3 : Int32)), .val (.int ((p1).toInt8.toInt32)), .val (.int ((p2).toInt8.toInt32)), .val (.int ((p3).toInt8.toInt32)), .val (.ref r), .val (.ref w), .val (.int (3 : Int32)), .val (.ref o), .val (.int (1 : Int32))] [(.int (1 : Int32))])) _
      refine XS.goto X81.here hx rfl (pc0 := 163) (pc' := 167) rfl (hb hby at_163) (by decide) (by decide) ?_
      show Steps p.tables e below (T81.setTop (mkF m 167 #[.val (.int p0), .val (.int p1), .val (.int p2), .val (.int p3), .val (.int (3 : Int32)), .val (.int ((p1).toInt8.toInt32)), .val (.int ((p2).toInt8.toInt32)), .val (.int ((p3).toInt8.toInt32)), .val (.ref r), .val (.ref w), .val (.int (3 : Int32)), .val (.ref o), .val (.int (1 : Int32))] [(.int (1 : Int32))])) _
      refine XS.istore X81.here hx rfl (hb hby at_167) rfl (l' := #[.val (.int p0), .val (.int p1), .val (.int p2), .val (.int p3), .val (.int (3 : Int32)), .val (.int ((p1).toInt8.toInt32)), .val (.int ((p2).toInt8.toInt32)), .val (.int ((p3).toInt8.toInt32)), .val (.ref r), .val (.ref w), .val (.int (3 : Int32)), .val (.ref o), .val (.int (1 : Int32))]) rfl ?_
      show Steps p.tables e below (T81.setTop (mkF m 169 #[.val (.int p0), .val (.int p1), .val (.int p2), .val (.int p3), .val (.int (3 : Int32)), .val (.int ((p1).toInt8.toInt32)), .val (.int ((p2).toInt8.toInt32)), .val (.int ((p3).toInt8.toInt32)), .val (.ref r), .val (.ref w), .val (.int (3 : Int32)), .val (.ref o), .val (.int (1 : Int32))] [])) _
      refine XS.iload X81.here hx rfl (hb hby at_169) rfl ?_
      show Steps p.tables e below (T81.setTop (mkF m 171 #[.val (.int p0), .val (.int p1), .val (.int p2), .val (.int p3), .val (.int (3 : Int32)), .val (.int ((p1).toInt8.toInt32)), .val (.int ((p2).toInt8.toInt32)), .val (.int ((p3).toInt8.toInt32)), .val (.ref r), .val (.ref w), .val (.int (3 : Int32)), .val (.ref o), .val (.int (1 : Int32))] [(.int (3 : Int32))])) _
      refine XS.iconst X81.here hx rfl (hb hby at_171) ?_
      show Steps p.tables e below (T81.setTop (mkF m 172 #[.val (.int p0), .val (.int p1), .val (.int p2), .val (.int p3), .val (.int (3 : Int32)), .val (.int ((p1).toInt8.toInt32)), .val (.int ((p2).toInt8.toInt32)), .val (.int ((p3).toInt8.toInt32)), .val (.ref r), .val (.ref w), .val (.int (3 : Int32)), .val (.ref o), .val (.int (1 : Int32))] [(.int (1 : Int32)), (.int (3 : Int32))])) _
      refine XS.icmpNo X81.here hx rfl (hb hby at_172) rfl (tlt (by decide)).2.2.2 ?_
      show Steps p.tables e below (T81.setTop (mkF m 175 #[.val (.int p0), .val (.int p1), .val (.int p2), .val (.int p3), .val (.int (3 : Int32)), .val (.int ((p1).toInt8.toInt32)), .val (.int ((p2).toInt8.toInt32)), .val (.int ((p3).toInt8.toInt32)), .val (.ref r), .val (.ref w), .val (.int (3 : Int32)), .val (.ref o), .val (.int (1 : Int32))] [])) _
      refine XS.iload X81.here hx rfl (hb hby at_175) rfl ?_
      show Steps p.tables e below (T81.setTop (mkF m 177 #[.val (.int p0), .val (.int p1), .val (.int p2), .val (.int p3), .val (.int (3 : Int32)), .val (.int ((p1).toInt8.toInt32)), .val (.int ((p2).toInt8.toInt32)), .val (.int ((p3).toInt8.toInt32)), .val (.ref r), .val (.ref w), .val (.int (3 : Int32)), .val (.ref o), .val (.int (1 : Int32))] [(.int (1 : Int32))])) _
      refine XS.ifNo X81.here hx rfl (hb hby at_177) rfl ((if0 _ _).trans (feq (by decide)).1) ?_
      show Steps p.tables e below (T81.setTop (mkF m 180 #[.val (.int p0), .val (.int p1), .val (.int p2), .val (.int p3), .val (.int (3 : Int32)), .val (.int ((p1).toInt8.toInt32)), .val (.int ((p2).toInt8.toInt32)), .val (.int ((p3).toInt8.toInt32)), .val (.ref r), .val (.ref w), .val (.int (3 : Int32)), .val (.ref o), .val (.int (1 : Int32))] [])) _
      refine XS.aload X81.here hx rfl (hb hby at_180) rfl rfl ?_
      show Steps p.tables e below (T81.setTop (mkF m 182 #[.val (.int p0), .val (.int p1), .val (.int p2), .val (.int p3), .val (.int (3 : Int32)), .val (.int ((p1).toInt8.toInt32)), .val (.int ((p2).toInt8.toInt32)), .val (.int ((p3).toInt8.toInt32)), .val (.ref r), .val (.ref w), .val (.int (3 : Int32)), .val (.ref o), .val (.int (1 : Int32))] [(.ref o)])) _
      refine XS.iconst X81.here hx rfl (hb hby at_182) ?_
      exact zk
    obtain ⟨cl87, Ar87, Aq87, As87, An87, Ah87, Ag87⟩ := id V_o
    have hin87 : ¬ ((1 : Int32) < 0 ∨ cl87.slots.size ≤ ((1 : Int32)).toNatClampNeg) := inb_of As87 ⟨by decide, by decide⟩
    have hat87 : cl87.slots[((1 : Int32)).toNatClampNeg]? = some (.int (nar .byte ((p2).toInt8.toInt32))) := Has.at Ah87 hin87 rfl
    have R88 : ∀ zt, Steps p.tables e below (T81.setTop (mkF m 210 #[.val (.int p0), .val (.int p1), .val (.int p2), .val (.int p3), .val (.int (3 : Int32)), .val (.int ((p1).toInt8.toInt32)), .val (.int ((p2).toInt8.toInt32)), .val (.int ((p3).toInt8.toInt32)), .val (.ref r), .val (.ref w), .val (.int (3 : Int32)), .val (.ref o), .val (.int (1 : Int32))] [(.int (2 : Int32)), (.ref o)])) zt → Steps p.tables e below (s₁.setTop (entryFrame m #[(.int p0), (.int p1), (.int p2), (.int p3)] maxLocals)) zt := by
      intro zt zk
      refine R86 zt ?_
      show Steps p.tables e below (T81.setTop (mkF m 183 #[.val (.int p0), .val (.int p1), .val (.int p2), .val (.int p3), .val (.int (3 : Int32)), .val (.int ((p1).toInt8.toInt32)), .val (.int ((p2).toInt8.toInt32)), .val (.int ((p3).toInt8.toInt32)), .val (.ref r), .val (.ref w), .val (.int (3 : Int32)), .val (.ref o), .val (.int (1 : Int32))] [(.int (1 : Int32)), (.ref o)])) _
      refine X81.baloadBytes hx (j := (1 : Int32)) (v := (.int (nar .byte ((p2).toInt8.toInt32)))) Ar87.1 (State.isArrayOf_alike hZ.alike Ar87.2.1) Ar87.2.2 hin87 hat87 (g := (mkF m 183 #[.val (.int p0), .val (.int p1), .val (.int p2), .val (.int p3), .val (.int (3 : Int32)), .val (.int ((p1).toInt8.toInt32)), .val (.int ((p2).toInt8.toInt32)), .val (.int ((p3).toInt8.toInt32)), .val (.ref r), .val (.ref w), .val (.int (3 : Int32)), .val (.ref o), .val (.int (1 : Int32))] [(.int (1 : Int32)), (.ref o)])) rfl rfl (hb hby at_183) _ ?_
      show Steps p.tables e below (T81.setTop (mkF m 184 #[.val (.int p0), .val (.int p1), .val (.int p2), .val (.int p3), .val (.int (3 : Int32)), .val (.int ((p1).toInt8.toInt32)), .val (.int ((p2).toInt8.toInt32)), .val (.int ((p3).toInt8.toInt32)), .val (.ref r), .val (.ref w), .val (.int (3 : Int32)), .val (.ref o), .val (.int (1 : Int32))] [(.int (nar .byte ((p2).toInt8.toInt32)))])) _
      refine XS.iload X81.here hx rfl (hb hby at_184) rfl ?_
      show Steps p.tables e below (T81.setTop (mkF m 186 #[.val (.int p0), .val (.int p1), .val (.int p2), .val (.int p3), .val (.int (3 : Int32)), .val (.int ((p1).toInt8.toInt32)), .val (.int ((p2).toInt8.toInt32)), .val (.int ((p3).toInt8.toInt32)), .val (.ref r), .val (.ref w), .val (.int (3 : Int32)), .val (.ref o), .val (.int (1 : Int32))] [(.int ((p2).toInt8.toInt32)), (.int (nar .byte ((p2).toInt8.toInt32)))])) _
      refine XS.icmpNo X81.here hx rfl (hb hby at_186) rfl (teq (own_b8 _)).2 ?_
      show Steps p.tables e below (T81.setTop (mkF m 189 #[.val (.int p0), .val (.int p1), .val (.int p2), .val (.int p3), .val (.int (3 : Int32)), .val (.int ((p1).toInt8.toInt32)), .val (.int ((p2).toInt8.toInt32)), .val (.int ((p3).toInt8.toInt32)), .val (.ref r), .val (.ref w), .val (.int (3 : Int32)), .val (.ref o), .val (.int (1 : Int32))] [])) _
      refine XS.iconst X81.here hx rfl (hb hby at_189) ?_
      show Steps p.tables e below (T81.setTop (mkF m 190 #[.val (.int p0), .val (.int p1), .val (.int p2), .val (.int p3), .val (.int (3 : Int32)), .val (.int ((p1).toInt8.toInt32)), .val (.int ((p2).toInt8.toInt32)), .val (.int ((p3).toInt8.toInt32)), .val (.ref r), .val (.ref w), .val (.int (3 : Int32)), .val (.ref o), .val (.int (1 : Int32))] [(.int (1 : Int32))])) _
      refine XS.goto X81.here hx rfl (pc0 := 190) (pc' := 194) rfl (hb hby at_190) (by decide) (by decide) ?_
      show Steps p.tables e below (T81.setTop (mkF m 194 #[.val (.int p0), .val (.int p1), .val (.int p2), .val (.int p3), .val (.int (3 : Int32)), .val (.int ((p1).toInt8.toInt32)), .val (.int ((p2).toInt8.toInt32)), .val (.int ((p3).toInt8.toInt32)), .val (.ref r), .val (.ref w), .val (.int (3 : Int32)), .val (.ref o), .val (.int (1 : Int32))] [(.int (1 : Int32))])) _
      refine XS.istore X81.here hx rfl (hb hby at_194) rfl (l' := #[.val (.int p0), .val (.int p1), .val (.int p2), .val (.int p3), .val (.int (3 : Int32)), .val (.int ((p1).toInt8.toInt32)), .val (.int ((p2).toInt8.toInt32)), .val (.int ((p3).toInt8.toInt32)), .val (.ref r), .val (.ref w), .val (.int (3 : Int32)), .val (.ref o), .val (.int (1 : Int32))]) rfl ?_
      show Steps p.tables e below (T81.setTop (mkF m 196 #[.val (.int p0), .val (.int p1), .val (.int p2), .val (.int p3), .val (.int (3 : Int32)), .val (.int ((p1).toInt8.toInt32)), .val (.int ((p2).toInt8.toInt32)), .val (.int ((p3).toInt8.toInt32)), .val (.ref r), .val (.ref w), .val (.int (3 : Int32)), .val (.ref o), .val (.int (1 : Int32))] [])) _
      refine XS.iload X81.here hx rfl (hb hby at_196) rfl ?_
      show Steps p.tables e below (T81.setTop (mkF m 198 #[.val (.int p0), .val (.int p1), .val (.int p2), .val (.int p3), .val (.int (3 : Int32)), .val (.int ((p1).toInt8.toInt32)), .val (.int ((p2).toInt8.toInt32)), .val (.int ((p3).toInt8.toInt32)), .val (.ref r), .val (.ref w), .val (.int (3 : Int32)), .val (.ref o), .val (.int (1 : Int32))] [(.int (3 : Int32))])) _
      refine XS.iconst X81.here hx rfl (hb hby at_198) ?_
      show Steps p.tables e below (T81.setTop (mkF m 199 #[.val (.int p0), .val (.int p1), .val (.int p2), .val (.int p3), .val (.int (3 : Int32)), .val (.int ((p1).toInt8.toInt32)), .val (.int ((p2).toInt8.toInt32)), .val (.int ((p3).toInt8.toInt32)), .val (.ref r), .val (.ref w), .val (.int (3 : Int32)), .val (.ref o), .val (.int (1 : Int32))] [(.int (2 : Int32)), (.int (3 : Int32))])) _
      refine XS.icmpNo X81.here hx rfl (hb hby at_199) rfl (tlt (by decide)).2.2.2 ?_
      show Steps p.tables e below (T81.setTop (mkF m 202 #[.val (.int p0), .val (.int p1), .val (.int p2), .val (.int p3), .val (.int (3 : Int32)), .val (.int ((p1).toInt8.toInt32)), .val (.int ((p2).toInt8.toInt32)), .val (.int ((p3).toInt8.toInt32)), .val (.ref r), .val (.ref w), .val (.int (3 : Int32)), .val (.ref o), .val (.int (1 : Int32))] [])) _
      refine XS.iload X81.here hx rfl (hb hby at_202) rfl ?_
      show Steps p.tables e below (T81.setTop (mkF m 204 #[.val (.int p0), .val (.int p1), .val (.int p2), .val (.int p3), .val (.int (3 : Int32)), .val (.int ((p1).toInt8.toInt32)), .val (.int ((p2).toInt8.toInt32)), .val (.int ((p3).toInt8.toInt32)), .val (.ref r), .val (.ref w), .val (.int (3 : Int32)), .val (.ref o), .val (.int (1 : Int32))] [(.int (1 : Int32))])) _
      refine XS.ifNo X81.here hx rfl (hb hby at_204) rfl ((if0 _ _).trans (feq (by decide)).1) ?_
      show Steps p.tables e below (T81.setTop (mkF m 207 #[.val (.int p0), .val (.int p1), .val (.int p2), .val (.int p3), .val (.int (3 : Int32)), .val (.int ((p1).toInt8.toInt32)), .val (.int ((p2).toInt8.toInt32)), .val (.int ((p3).toInt8.toInt32)), .val (.ref r), .val (.ref w), .val (.int (3 : Int32)), .val (.ref o), .val (.int (1 : Int32))] [])) _
      refine XS.aload X81.here hx rfl (hb hby at_207) rfl rfl ?_
      show Steps p.tables e below (T81.setTop (mkF m 209 #[.val (.int p0), .val (.int p1), .val (.int p2), .val (.int p3), .val (.int (3 : Int32)), .val (.int ((p1).toInt8.toInt32)), .val (.int ((p2).toInt8.toInt32)), .val (.int ((p3).toInt8.toInt32)), .val (.ref r), .val (.ref w), .val (.int (3 : Int32)), .val (.ref o), .val (.int (1 : Int32))] [(.ref o)])) _
      refine XS.iconst X81.here hx rfl (hb hby at_209) ?_
      exact zk
    obtain ⟨cl89, Ar89, Aq89, As89, An89, Ah89, Ag89⟩ := id V_o
    have hin89 : ¬ ((2 : Int32) < 0 ∨ cl89.slots.size ≤ ((2 : Int32)).toNatClampNeg) := inb_of As89 ⟨by decide, by decide⟩
    have hat89 : cl89.slots[((2 : Int32)).toNatClampNeg]? = some (.int (nar .byte ((p3).toInt8.toInt32))) := Has.at Ah89 hin89 rfl
    have R90 : ∀ zt, Steps p.tables e below (T81.setTop (mkF m 225 #[.val (.int p0), .val (.int p1), .val (.int p2), .val (.int p3), .val (.int (3 : Int32)), .val (.int ((p1).toInt8.toInt32)), .val (.int ((p2).toInt8.toInt32)), .val (.int ((p3).toInt8.toInt32)), .val (.ref r), .val (.ref w), .val (.int (3 : Int32)), .val (.ref o), .val (.int (1 : Int32))] [(.int (1 : Int32))])) zt → Steps p.tables e below (s₁.setTop (entryFrame m #[(.int p0), (.int p1), (.int p2), (.int p3)] maxLocals)) zt := by
      intro zt zk
      refine R88 zt ?_
      show Steps p.tables e below (T81.setTop (mkF m 210 #[.val (.int p0), .val (.int p1), .val (.int p2), .val (.int p3), .val (.int (3 : Int32)), .val (.int ((p1).toInt8.toInt32)), .val (.int ((p2).toInt8.toInt32)), .val (.int ((p3).toInt8.toInt32)), .val (.ref r), .val (.ref w), .val (.int (3 : Int32)), .val (.ref o), .val (.int (1 : Int32))] [(.int (2 : Int32)), (.ref o)])) _
      refine X81.baloadBytes hx (j := (2 : Int32)) (v := (.int (nar .byte ((p3).toInt8.toInt32)))) Ar89.1 (State.isArrayOf_alike hZ.alike Ar89.2.1) Ar89.2.2 hin89 hat89 (g := (mkF m 210 #[.val (.int p0), .val (.int p1), .val (.int p2), .val (.int p3), .val (.int (3 : Int32)), .val (.int ((p1).toInt8.toInt32)), .val (.int ((p2).toInt8.toInt32)), .val (.int ((p3).toInt8.toInt32)), .val (.ref r), .val (.ref w), .val (.int (3 : Int32)), .val (.ref o), .val (.int (1 : Int32))] [(.int (2 : Int32)), (.ref o)])) rfl rfl (hb hby at_210) _ ?_
      show Steps p.tables e below (T81.setTop (mkF m 211 #[.val (.int p0), .val (.int p1), .val (.int p2), .val (.int p3), .val (.int (3 : Int32)), .val (.int ((p1).toInt8.toInt32)), .val (.int ((p2).toInt8.toInt32)), .val (.int ((p3).toInt8.toInt32)), .val (.ref r), .val (.ref w), .val (.int (3 : Int32)), .val (.ref o), .val (.int (1 : Int32))] [(.int (nar .byte ((p3).toInt8.toInt32)))])) _
      refine XS.iload X81.here hx rfl (hb hby at_211) rfl ?_
      show Steps p.tables e below (T81.setTop (mkF m 213 #[.val (.int p0), .val (.int p1), .val (.int p2), .val (.int p3), .val (.int (3 : Int32)), .val (.int ((p1).toInt8.toInt32)), .val (.int ((p2).toInt8.toInt32)), .val (.int ((p3).toInt8.toInt32)), .val (.ref r), .val (.ref w), .val (.int (3 : Int32)), .val (.ref o), .val (.int (1 : Int32))] [(.int ((p3).toInt8.toInt32)), (.int (nar .byte ((p3).toInt8.toInt32)))])) _
      refine XS.icmpNo X81.here hx rfl (hb hby at_213) rfl (teq (own_b8 _)).2 ?_
      show Steps p.tables e below (T81.setTop (mkF m 216 #[.val (.int p0), .val (.int p1), .val (.int p2), .val (.int p3), .val (.int (3 : Int32)), .val (.int ((p1).toInt8.toInt32)), .val (.int ((p2).toInt8.toInt32)), .val (.int ((p3).toInt8.toInt32)), .val (.ref r), .val (.ref w), .val (.int (3 : Int32)), .val (.ref o), .val (.int (1 : Int32))] [])) _
      refine XS.iconst X81.here hx rfl (hb hby at_216) ?_
      show Steps p.tables e below (T81.setTop (mkF m 217 #[.val (.int p0), .val (.int p1), .val (.int p2), .val (.int p3), .val (.int (3 : Int32)), .val (.int ((p1).toInt8.toInt32)), .val (.int ((p2).toInt8.toInt32)), .val (.int ((p3).toInt8.toInt32)), .val (.ref r), .val (.ref w), .val (.int (3 : Int32)), .val (.ref o), .val (.int (1 : Int32))] [(.int (1 : Int32))])) _
      refine XS.goto X81.here hx rfl (pc0 := 217) (pc' := 221) rfl (hb hby at_217) (by decide) (by decide) ?_
      show Steps p.tables e below (T81.setTop (mkF m 221 #[.val (.int p0), .val (.int p1), .val (.int p2), .val (.int p3), .val (.int (3 : Int32)), .val (.int ((p1).toInt8.toInt32)), .val (.int ((p2).toInt8.toInt32)), .val (.int ((p3).toInt8.toInt32)), .val (.ref r), .val (.ref w), .val (.int (3 : Int32)), .val (.ref o), .val (.int (1 : Int32))] [(.int (1 : Int32))])) _
      refine XS.istore X81.here hx rfl (hb hby at_221) rfl (l' := #[.val (.int p0), .val (.int p1), .val (.int p2), .val (.int p3), .val (.int (3 : Int32)), .val (.int ((p1).toInt8.toInt32)), .val (.int ((p2).toInt8.toInt32)), .val (.int ((p3).toInt8.toInt32)), .val (.ref r), .val (.ref w), .val (.int (3 : Int32)), .val (.ref o), .val (.int (1 : Int32))]) rfl ?_
      show Steps p.tables e below (T81.setTop (mkF m 223 #[.val (.int p0), .val (.int p1), .val (.int p2), .val (.int p3), .val (.int (3 : Int32)), .val (.int ((p1).toInt8.toInt32)), .val (.int ((p2).toInt8.toInt32)), .val (.int ((p3).toInt8.toInt32)), .val (.ref r), .val (.ref w), .val (.int (3 : Int32)), .val (.ref o), .val (.int (1 : Int32))] [])) _
      refine XS.iload X81.here hx rfl (hb hby at_223) rfl ?_
      exact zk
    obtain ⟨fs, hr, hrun, hended, hRE⟩ := Jvm.Stand.leaveW (s := s) (vm₁ := T68.vm) X81 Sc68 GS (v := some (.int (1 : Int32))) (fun h => by rw [Bd.returns] at h; cases h)
    refine ⟨_, _, R90 _ ?_, hrun, hended, _, _, rfl, ?_, hRE.1, hRE.2.1, hRE.2.2.1, hRE.2.2.2.mono (by decide) (by decide)⟩
    · exact retN X81 hx (t := .boolean) Bd.returns (by simp) (hb hby at_225) hr
    · show Q0 Z p0 p1 p2 p3 h0 n0 _ T81.heap _
      exact ⟨rfl, N81⟩
set_option maxRecDepth 65536 in
set_option maxHeartbeats 40000000 in
theorem comes_1 {Post : Tables → Env → Array Value → State → Outcome → State → Prop} (hpost : ∀ tb e args s v u, (limb_1_1.after args s (.returned v) u = true ∧ limb_1_2.after args s (.returned v) u = true ∧ True) → ReturnedEndW s (.returned v) u (Jvm.fieldLocs frame_1_writes args s ++ Jvm.arrayLocs frame_1_arrays args s ++ Jvm.staticLocs frame_1_statics s) 24 1152 → Post tb e args s (.returned v) u) :
    ArmFor flags0 classFile x code maxLocals ret World_1 tables_1 room_1 Calls_1 rest_1 Pre_1 Post := by
  intro l hfl _ _ p e ha hc hk s m args below hf hA hF happ hP
  obtain ⟨hcalls, hrest, hpre⟩ := hP
  obtain ⟨-, -, -, hnamed, -, -, -, hat⟩ := (Spec.applies_iff hf).mp happ
  obtain ⟨hg, hn⟩ := and_e (Cond.before_iff.mp (show (Jvm.Cond.and given_1 narrow_1).before args s = true from hpre))
  obtain ⟨hcount, hg0⟩ := and_e hg
  obtain ⟨hi0, hg1⟩ := and_e hg0
  obtain ⟨hi1, hg2⟩ := and_e hg1
  obtain ⟨hi2, hg3⟩ := and_e hg2
  have hi3 := hg3
  obtain ⟨w0, w1, w2, w3, rfl⟩ : ∃ w0 w1 w2 w3 : Value, args = #[w0, w1, w2, w3] := by
    have hs : args.size = 4 := by simpa [Cond.value, given_1] using hcount
    obtain ⟨L⟩ := args
    match L, hs with
    | [w0, w1, w2, w3], _ => exact ⟨w0, w1, w2, w3, rfl⟩
  have hw := fun d (hd : d ∈ tables_1) => atoms_spec (ws := Jvm.Cond.code x code maxLocals ret :: tables_1) hat d (List.mem_cons_of_mem _ hd)
  have hfit : Fit s := fun {y c} hc i hi => by
    obtain ⟨ha, rfl⟩ := Array.getElem?_eq_some_iff.mp hc
    have q := List.all_eq_true.mp ((Array.all_eq_true_iff_forall_mem.mp hF) _ (Array.getElem_mem ha)) i (List.mem_range.mpr hi)
    simpa [Array.getElem?_eq_getElem hi] using q
  obtain ⟨i0, ei0⟩ := is_v hi0
  obtain rfl : w0 = (.int i0) := Option.some.inj ei0
  obtain ⟨i1, ei1⟩ := is_v hi1
  obtain rfl : w1 = (.int i1) := Option.some.inj ei1
  obtain ⟨i2, ei2⟩ := is_v hi2
  obtain rfl : w2 = (.int i2) := Option.some.inj ei2
  obtain ⟨i3, ei3⟩ := is_v hi3
  obtain rfl : w3 = (.int i3) := Option.some.inj ei3
  obtain ⟨n, o, h1, h2, h3, _, L, rfl, ⟨rfl, N⟩, hq⟩ := rm0 l s _ hw tables_1 i0 i1 i2 i3 s.heap s.heap.size (Nat.le_refl _) p e ha hc hk s m _ below hf ((Spec.applies_iff_loose hf).mp happ).1 ⟨rfl, State.Warmed39.refl s, rfl⟩ trivial
  refine ⟨n, _, h1, h2, h3, hpost _ _ _ _ _ _ ⟨Cond.after_iff.mpr rfl, Cond.after_iff.mpr (eq_i res_at (Term.int_eval (1)) rfl), trivial⟩ ⟨hq.1, hq.2.1, hq.2.2.1, (hq.2.2.2.sift fun y hy => Or.inr (N y hy)).mono (by decide) (by decide)⟩⟩
theorem main_1_1 : Claimed_1_1 := comes_1 fun _ _ _ _ _ _ h hF => ⟨h.1, hF⟩
theorem main_1_2 : Claimed_1_2 := comes_1 fun _ _ _ _ _ _ h hF => ⟨h.2.1, hF⟩
end Jvm.Pilot.@@N@@
namespace Jvm.Pilot.@@N@@
open Jvm Jvm.ClassFile Sem Op Lib Jvm.Free Jvm.Stand Jvm.Pilot.@@N@@.Jvm.D
/-! MADE BY PROGRAM (witnessworld.py) out of the Statement's table words and the real class files: 15 classes; the members and pool entries that the words name. The judged class is class 1, her method 1. -/
namespace start1
open Jvm.ClassFile
def u (s : String) : CpInfo := .utf8 (stringToUtf16 s)
/-- a pool by its gaps: so many unusable entries, then the entry; so many at the end -/
def gap : Nat → List CpInfo → List CpInfo
  | 0, r => r
  | n + 1, r => .unusable :: gap n r
def poolList (es : List (Nat × CpInfo)) (last : Nat) : List CpInfo := es.foldr (fun e r => gap e.1 (e.2 :: r)) (gap last [])
def pool (es : List (Nat × CpInfo)) (last : Nat) : Array CpInfo := ⟨poolList es last⟩
def fileOf (pool : Array CpInfo) (this : Nat) (attrs : Array Attribute := #[]) (ms : Array MethodInfo := #[]) (fl : Nat := 33) (sup : Nat := 0) (ifs : Array Nat := #[]) (fds : Array FieldInfo := #[]) : ClassFile where
  minorVersion := 0
  majorVersion := 65
  constantPool := pool
  accessFlags := fl
  thisClass := this
  superClass := sup
  interfaces := ifs
  fields := fds
  methods := ms
  attributes := attrs
def plain (name : String) (sup : Option ClassId) : Class where
  name := name
  kind := .ordinary
  loader := none
  accessFlags := 33
  super := sup
  interfaces := #[]
  cf := none
  fields := #[]
  methods := #[]
  instanceTypes := #[]
  staticTypes := #[]
  resolved := #[]
  callSites := []
  init := .initialized
  statics := none
  mirror := none

def pool0 : Array CpInfo := pool [(5, u "<init>"), (0, u "()V"), (1, .class_ 10), (1, u "java/lang/Object"), (85, u "clone"), (0, u "()Ljava/lang/Object;")] 26

def k0c0 : Code := { maxStack := 0, maxLocals := 1, code := object_method_1_code, exceptionTable := #[], attributes := #[] }
def k0m0 : Method := { name := "<init>", desc := "()V", sig := { parameters := [], returnType := none }, accessFlags := 1, code := some k0c0 }
def k0m1 : Method := { name := "clone", desc := "()Ljava/lang/Object;", sig := { parameters := [], returnType := some (.object "java/lang/Object") }, accessFlags := 260, code := none }
/-- java/lang/Object -/
def k0 : Class := { plain "java/lang/Object" none with
  accessFlags := 33
  interfaces := #[]
  cf := some (fileOf pool0 8 #[] #[{ accessFlags := 1, nameIndex := 5, descriptorIndex := 6, attributes := #[] }, { accessFlags := 260, nameIndex := 96, descriptorIndex := 97, attributes := #[] }] 33 0 #[] #[])
  fields := #[]
  methods := #[k0m0, k0m1]
  instanceTypes := #[]
  staticTypes := #[]
  resolved := Array.replicate 124 none
  statics := none }

def pool1 : Array CpInfo := pool [(2, .class_ 4), (1, u "java/lang/Object"), (0, u "<init>"), (0, u "()V"), (0, .methodref 8 9), (0, .class_ 10), (0, .nameAndType 11 12), (0, u "com/example/key_ranges/keyranges/ByteString"), (0, u "copyOf"), (0, u "([B)Lcom/example/key_ranges/keyranges/ByteString;"), (0, .methodref 8 14), (0, .nameAndType 15 16), (0, u "size"), (0, u "()I"), (0, .methodref 8 18), (0, .nameAndType 19 20), (0, u "toByteArray"), (0, u "()[B"), (0, .class_ 22), (0, u "com/example/key_ranges/keyranges/ByteStringCopyOfPinLaw"), (2, u "law"), (0, u "(IIII)Z")] 5

def k1m0 : Method := { name := "<init>", desc := "()V", sig := { parameters := [], returnType := none }, accessFlags := 1, code := none }
def k1c1 : Code := { maxStack := 4, maxLocals := 13, code := code, exceptionTable := #[], attributes := #[] }
def k1m1 : Method := { name := "law", desc := "(IIII)Z", sig := { parameters := [.int, .int, .int, .int], returnType := some .boolean }, accessFlags := 9, code := some k1c1 }
/-- com/example/key_ranges/keyranges/ByteStringCopyOfPinLaw -/
def k1 : Class := { plain "com/example/key_ranges/keyranges/ByteStringCopyOfPinLaw" (some 0) with
  accessFlags := 49
  interfaces := #[]
  cf := some (fileOf pool1 21 #[] #[{ accessFlags := 1, nameIndex := 5, descriptorIndex := 6, attributes := #[] }, { accessFlags := 9, nameIndex := 25, descriptorIndex := 26, attributes := #[] }] 49 2 #[] #[])
  fields := #[]
  methods := #[k1m0, k1m1]
  instanceTypes := #[]
  staticTypes := #[]
  resolved := Array.replicate 32 none
  statics := none }

def pool2 : Array CpInfo := pool [(1, .methodref 2 3), (0, .class_ 4), (0, .nameAndType 5 6), (0, u "java/lang/Object"), (0, u "<init>"), (0, u "()V"), (0, .fieldref 8 9), (0, .class_ 10), (0, .nameAndType 11 12), (0, u "com/example/key_ranges/keyranges/ByteString"), (0, u "bytes"), (0, u "[B"), (0, .string 11), (0, .methodref 15 16), (0, .class_ 17), (0, .nameAndType 18 19), (0, u "java/util/Objects"), (0, u "requireNonNull"), (0, u "(Ljava/lang/Object;Ljava/lang/String;)Ljava/lang/Object;"), (0, .class_ 12), (0, .methodref 20 22), (0, .nameAndType 23 24), (0, u "clone"), (0, u "()Ljava/lang/Object;"), (0, .methodref 8 26), (0, .nameAndType 5 27), (0, u "([B)V"), (26, u "copyOf"), (0, u "([B)Lcom/example/key_ranges/keyranges/ByteString;"), (1, u "toByteArray"), (0, u "()[B"), (0, u "size"), (0, u "()I")] 6

def k2c0 : Code := { maxStack := 2, maxLocals := 2, code := prog_5_method_1_code, exceptionTable := #[], attributes := #[] }
def k2m0 : Method := { name := "<init>", desc := "([B)V", sig := { parameters := [(.array .byte)], returnType := none }, accessFlags := 2, code := some k2c0 }
def k2c1 : Code := { maxStack := 4, maxLocals := 1, code := prog_5_method_2_code, exceptionTable := #[], attributes := #[] }
def k2m1 : Method := { name := "copyOf", desc := "([B)Lcom/example/key_ranges/keyranges/ByteString;", sig := { parameters := [(.array .byte)], returnType := some (.object "com/example/key_ranges/keyranges/ByteString") }, accessFlags := 9, code := some k2c1 }
def k2c2 : Code := { maxStack := 1, maxLocals := 1, code := prog_5_method_4_code, exceptionTable := #[], attributes := #[] }
def k2m2 : Method := { name := "toByteArray", desc := "()[B", sig := { parameters := [], returnType := some (.array .byte) }, accessFlags := 1, code := some k2c2 }
def k2c3 : Code := { maxStack := 1, maxLocals := 1, code := prog_5_method_5_code, exceptionTable := #[], attributes := #[] }
def k2m3 : Method := { name := "size", desc := "()I", sig := { parameters := [], returnType := some .int }, accessFlags := 1, code := some k2c3 }
/-- com/example/key_ranges/keyranges/ByteString -/
def k2 : Class := { plain "com/example/key_ranges/keyranges/ByteString" (some 0) with
  accessFlags := 33
  interfaces := #[]
  cf := some (fileOf pool2 8 #[] #[{ accessFlags := 2, nameIndex := 5, descriptorIndex := 27, attributes := #[] }, { accessFlags := 9, nameIndex := 54, descriptorIndex := 55, attributes := #[] }, { accessFlags := 1, nameIndex := 57, descriptorIndex := 58, attributes := #[] }, { accessFlags := 1, nameIndex := 59, descriptorIndex := 60, attributes := #[] }] 33 2 #[] #[{ accessFlags := 18, nameIndex := 11, descriptorIndex := 12, attributes := #[] }])
  fields := #[{ name := "bytes", type := (.array .byte), accessFlags := 18, slot := 0, constantValue := 0 }]
  methods := #[k2m0, k2m1, k2m2, k2m3]
  instanceTypes := #[(.array .byte)]
  staticTypes := #[]
  resolved := Array.replicate 67 none
  statics := none }

def pool3 : Array CpInfo := pool [(1, .class_ 2), (0, u "java/io/Serializable"), (0, .class_ 4), (0, u "java/lang/Object")] 2

/-- java/io/Serializable -/
def k3 : Class := { plain "java/io/Serializable" (some 0) with
  accessFlags := 1537
  interfaces := #[]
  cf := some (fileOf pool3 1 #[] #[] 1537 3 #[] #[])
  fields := #[]
  methods := #[]
  instanceTypes := #[]
  staticTypes := #[]
  resolved := Array.replicate 7 none
  statics := none }

def pool4 : Array CpInfo := pool [(1, .class_ 2), (0, u "java/lang/Comparable"), (0, .class_ 4), (0, u "java/lang/Object")] 7

/-- java/lang/Comparable -/
def k4 : Class := { plain "java/lang/Comparable" (some 0) with
  accessFlags := 1537
  interfaces := #[]
  cf := some (fileOf pool4 1 #[] #[] 1537 3 #[] #[])
  fields := #[]
  methods := #[]
  instanceTypes := #[]
  staticTypes := #[]
  resolved := Array.replicate 12 none
  statics := none }

def pool5 : Array CpInfo := pool [(2, .class_ 4), (1, u "java/lang/CharSequence"), (42, .class_ 48), (0, u "java/lang/CharSequence$1CodePointIterator"), (10, .class_ 60), (0, u "java/lang/CharSequence$1CharIterator"), (5, .class_ 67), (0, u "java/lang/Object")] 63

/-- java/lang/CharSequence -/
def k5 : Class := { plain "java/lang/CharSequence" (some 0) with
  accessFlags := 1537
  interfaces := #[]
  cf := some (fileOf pool5 2 #[.nestMembers #[47, 59]] #[] 1537 66 #[] #[])
  fields := #[]
  methods := #[]
  instanceTypes := #[]
  staticTypes := #[]
  resolved := Array.replicate 131 none
  statics := none }

def pool6 : Array CpInfo := pool [(1, .class_ 2), (0, u "java/lang/constant/Constable"), (0, .class_ 4), (0, u "java/lang/Object")] 6

/-- java/lang/constant/Constable -/
def k6 : Class := { plain "java/lang/constant/Constable" (some 0) with
  accessFlags := 1537
  interfaces := #[]
  cf := some (fileOf pool6 1 #[] #[] 1537 3 #[] #[])
  fields := #[]
  methods := #[]
  instanceTypes := #[]
  staticTypes := #[]
  resolved := Array.replicate 11 none
  statics := none }

def pool7 : Array CpInfo := pool [(1, .class_ 2), (0, u "java/lang/constant/ConstantDesc"), (0, .class_ 4), (0, u "java/lang/Object")] 32

/-- java/lang/constant/ConstantDesc -/
def k7 : Class := { plain "java/lang/constant/ConstantDesc" (some 0) with
  accessFlags := 1537
  interfaces := #[]
  cf := some (fileOf pool7 1 #[] #[] 1537 3 #[] #[])
  fields := #[]
  methods := #[]
  instanceTypes := #[]
  staticTypes := #[]
  resolved := Array.replicate 37 none
  statics := none }

def pool8 : Array CpInfo := pool [(2, .class_ 4), (1, u "java/lang/Object"), (0, u "<init>"), (0, u "()V"), (3, .class_ 12), (1, u "java/lang/String"), (0, u "value"), (0, u "[B"), (2, u "coder"), (0, u "B"), (2, u "hash"), (0, u "I"), (2, u "hashIsZero"), (0, u "Z"), (13, u "COMPACT_STRINGS"), (534, .class_ 576), (0, u "java/lang/CharSequence"), (22, u "CASE_INSENSITIVE_ORDER"), (0, u "Ljava/util/Comparator;"), (500, u "serialPersistentFields"), (0, u "[Ljava/io/ObjectStreamField;"), (0, .class_ 1104), (0, u "java/lang/String$CaseInsensitiveComparator"), (1, .class_ 1107), (0, u "java/io/Serializable"), (0, .class_ 1109), (0, u "java/lang/Comparable"), (0, .class_ 1111), (0, u "java/lang/constant/Constable"), (0, .class_ 1113), (0, u "java/lang/constant/ConstantDesc"), (2, u "serialVersionUID"), (0, u "J"), (3, u "REPL"), (0, u "C"), (2, u "LATIN1"), (1, u "UTF16")] 323

def k8m0 : Method := { name := "<init>", desc := "()V", sig := { parameters := [], returnType := none }, accessFlags := 1, code := none }
/-- java/lang/String -/
def k8 : Class := { plain "java/lang/String" (some 0) with
  accessFlags := 49
  interfaces := #[3, 4, 5, 6, 7]
  cf := some (fileOf pool8 10 #[.nestMembers #[1103]] #[{ accessFlags := 1, nameIndex := 5, descriptorIndex := 6, attributes := #[] }] 49 2 #[1106, 1108, 575, 1110, 1112] #[{ accessFlags := 18, nameIndex := 13, descriptorIndex := 14, attributes := #[] }, { accessFlags := 18, nameIndex := 17, descriptorIndex := 18, attributes := #[] }, { accessFlags := 2, nameIndex := 21, descriptorIndex := 22, attributes := #[] }, { accessFlags := 2, nameIndex := 25, descriptorIndex := 26, attributes := #[] }, { accessFlags := 26, nameIndex := 1116, descriptorIndex := 1117, attributes := #[] }, { accessFlags := 24, nameIndex := 40, descriptorIndex := 26, attributes := #[] }, { accessFlags := 26, nameIndex := 1101, descriptorIndex := 1102, attributes := #[] }, { accessFlags := 26, nameIndex := 1121, descriptorIndex := 1122, attributes := #[] }, { accessFlags := 25, nameIndex := 599, descriptorIndex := 600, attributes := #[] }, { accessFlags := 24, nameIndex := 1125, descriptorIndex := 18, attributes := #[] }, { accessFlags := 24, nameIndex := 1127, descriptorIndex := 18, attributes := #[] }])
  fields := #[{ name := "value", type := (.array .byte), accessFlags := 18, slot := 0, constantValue := 0 }, { name := "coder", type := .byte, accessFlags := 18, slot := 1, constantValue := 0 }, { name := "hash", type := .int, accessFlags := 2, slot := 2, constantValue := 0 }, { name := "hashIsZero", type := .boolean, accessFlags := 2, slot := 3, constantValue := 0 }, { name := "serialVersionUID", type := .long, accessFlags := 26, slot := 0, constantValue := 0 }, { name := "COMPACT_STRINGS", type := .boolean, accessFlags := 24, slot := 1, constantValue := 0 }, { name := "serialPersistentFields", type := (.array (.object "java/io/ObjectStreamField")), accessFlags := 26, slot := 2, constantValue := 0 }, { name := "REPL", type := .char, accessFlags := 26, slot := 3, constantValue := 0 }, { name := "CASE_INSENSITIVE_ORDER", type := (.object "java/util/Comparator"), accessFlags := 25, slot := 4, constantValue := 0 }, { name := "LATIN1", type := .byte, accessFlags := 24, slot := 5, constantValue := 0 }, { name := "UTF16", type := .byte, accessFlags := 24, slot := 6, constantValue := 0 }]
  methods := #[k8m0]
  instanceTypes := #[(.array .byte), .byte, .int, .boolean]
  staticTypes := #[.long, .boolean, (.array (.object "java/io/ObjectStreamField")), .char, (.object "java/util/Comparator"), .byte, .byte]
  resolved := Array.replicate 1451 none
  statics := none }

def pool9 : Array CpInfo := pool [(2, .class_ 4), (1, u "java/lang/Object"), (0, u "<init>"), (0, u "()V"), (35, .class_ 44), (1, u "java/util/Objects"), (0, u "requireNonNull"), (48, u "(Ljava/lang/Object;Ljava/lang/String;)Ljava/lang/Object;")] 89

def k9m0 : Method := { name := "<init>", desc := "()V", sig := { parameters := [], returnType := none }, accessFlags := 2, code := none }
def k9c1 : Code := { maxStack := 3, maxLocals := 2, code := jdk_31_method_11_code, exceptionTable := #[], attributes := #[] }
def k9m1 : Method := { name := "requireNonNull", desc := "(Ljava/lang/Object;Ljava/lang/String;)Ljava/lang/Object;", sig := { parameters := [(.object "java/lang/Object"), (.object "java/lang/String")], returnType := some (.object "java/lang/Object") }, accessFlags := 9, code := some k9c1 }
/-- java/util/Objects -/
def k9 : Class := { plain "java/util/Objects" (some 0) with
  accessFlags := 49
  interfaces := #[]
  cf := some (fileOf pool9 42 #[] #[{ accessFlags := 2, nameIndex := 5, descriptorIndex := 6, attributes := #[] }, { accessFlags := 9, nameIndex := 45, descriptorIndex := 94, attributes := #[] }] 49 2 #[] #[])
  fields := #[]
  methods := #[k9m0, k9m1]
  instanceTypes := #[]
  staticTypes := #[]
  resolved := Array.replicate 184 none
  statics := none }

def pool10 : Array CpInfo := pool [(1, .class_ 2), (0, u "java/lang/Cloneable"), (0, .class_ 4), (0, u "java/lang/Object")] 2

/-- java/lang/Cloneable -/
def k10 : Class := { plain "java/lang/Cloneable" (some 0) with
  accessFlags := 1537
  interfaces := #[]
  cf := some (fileOf pool10 1 #[] #[] 1537 3 #[] #[])
  fields := #[]
  methods := #[]
  instanceTypes := #[]
  staticTypes := #[]
  resolved := Array.replicate 7 none
  statics := none }

/-- the primitive byte -/
def k11 : Class := { plain "byte" none with kind := .primitive 'B', accessFlags := 0x411 }
/-- [B -/
def k12 : Class := { plain "[B" (some 0) with kind := .array 11 .byte, interfaces := #[10, 3], accessFlags := 1041 }

/-- the primitive int -/
def k13 : Class := { plain "int" none with kind := .primitive 'I', accessFlags := 0x411 }
/-- [I -/
def k14 : Class := { plain "[I" (some 0) with kind := .array 13 .int, interfaces := #[10, 3], accessFlags := 1041 }

def heap : Heap := #[]
def classes : Array Class := #[k0, k1, k2, k3, k4, k5, k6, k7, k8, k9, k10, k11, k12, k13, k14]
def interned : List (Array UInt16 × Addr) := []
def slotsUsed : Nat := 0
def theMethod : MethodId := ⟨1, 1⟩
def args0 : Array Value := #[.int 5, .int 2, .int 3, .int 4]
def aboutOver (below : List Frame) : State where
  vm := { classes := classes, interned := interned.toArray }
  heap := heap
  slotsUsed := slotsUsed
  threads := #[{ frames := .invoking theMethod args0 :: below }]
def below0 : List Frame := [.native { method := ⟨0, 0⟩, args := #[] }]
def about1 : State := aboutOver below0
def p0 : Program := .bare "" "" ""
def e0 : Env := launch0.env 0 0 0
theorem w_frames : about1.frames = Frame.invoking theMethod args0 :: below0 := rfl
set_option maxRecDepth 65536 in
theorem w_args : argsFit about1.vm theMethod args0 = true := by decide +kernel
set_option maxRecDepth 65536 in
theorem w_heap : heapFits about1 = true := by decide +kernel
set_option maxRecDepth 65536 in
theorem w_runnable : about1.curStatus? = some .runnable := by decide +kernel
set_option maxRecDepth 65536 in
theorem w_alone : about1.alone = true := by decide +kernel
set_option maxRecDepth 65536 in
theorem w_named : about1.methodNamed? x = some theMethod := by decide +kernel
set_option maxRecDepth 65536 in
theorem w_hears : about1.hears theMethod below0 = true := by decide +kernel
set_option maxRecDepth 65536 in
theorem w_ripe : about1.ripe theMethod args0 below0 = true := by decide +kernel
theorem w_running : about1.status = .running := rfl
set_option maxRecDepth 65536 in
theorem w_room : about1.hasRoom e0.platform room_1 = true :=
  launch0.hasRoom_least _ room_1 (by decide +kernel) (by decide +kernel) (by decide +kernel) (by decide +kernel) (by decide +kernel) (by decide +kernel)
theorem allAtoms_all (ts : List Jvm.Cond) (a : Array Jvm.Value) (st : Jvm.State) : (allAtoms ts).before a st = ts.all (fun c => c.before a st) := by
  induction ts with
  | nil => rfl
  | cons c t ih =>
    show (Jvm.Cond.and c (allAtoms t)).before a st = _
    rw [Jvm.Cond.before_and, ih, List.all_cons]
def words1 : List Jvm.Cond := Jvm.Cond.code x code maxLocals ret :: tables_1
/-- a 'code' word, met by the world's own term for the bytes: nothing is compared byte by byte -/
theorem code_word {y : MethodName} {bytes : ByteArray} {mx : Nat} {rt : Option FieldType} {a : Array Value} {s : State} {m : MethodId} {meth : Method} {c : Code} (h1 : s.methodNamed? y = some m) (h2 : s.vm.method? m = some meth) (h3 : meth.code = some c) (h4 : c.code = bytes)
    (h5 : (c.maxLocals == mx && c.exceptionTable.isEmpty && decide (c.maxStack ≤ mostOperands) && decide (meth.sig.returnType = rt) && !meth.locks && decide (parseMethodDescriptor y.desc = some meth.sig)) = true) : (Jvm.Cond.code y bytes mx rt).before a s = true := by
  simp only [Bool.and_eq_true, beq_iff_eq, Bool.not_eq_true', decide_eq_true_eq] at h5
  obtain ⟨⟨⟨⟨⟨g1, g2⟩, g3⟩, g4⟩, g5⟩, g6⟩ := h5
  simp [Cond.before, Cond.holds, Cond.value, h1, h2, h3, h4, g1, g2, g3, g4, g5, g6]
def isCode : Jvm.Cond → Bool
  | .code _ _ _ _ => true
  | _ => false
theorem all_split {L : List Jvm.Cond} {P : Jvm.Cond → Bool} (h1 : L.all (fun c => isCode c || P c) = true) (h2 : ∀ c ∈ L.filter isCode, P c = true) : L.all P = true := by
  refine List.all_eq_true.mpr fun c hc => ?_
  have h := List.all_eq_true.mp h1 c hc
  rcases Bool.eq_false_or_eq_true (isCode c) with hi | hi
  · exact h2 c (List.mem_filter.mpr ⟨hc, hi⟩)
  · simpa [hi] using h
set_option maxRecDepth 65536 in
theorem w_c0 : (Jvm.Cond.code x code maxLocals ret).before args0 about1 = true := code_word (m := ⟨1, 1⟩) (meth := k1m1) (c := k1c1) (by decide +kernel) rfl rfl rfl (by decide +kernel)
set_option maxRecDepth 65536 in
theorem w_c1 : (Jvm.Cond.code ({ cls := "com/example/key_ranges/keyranges/ByteString", name := "copyOf", desc := "([B)Lcom/example/key_ranges/keyranges/ByteString;" } : Jvm.MethodName) prog_5_method_2_code (1 : Nat) (Option.some (Jvm.ClassFile.FieldType.object "com/example/key_ranges/keyranges/ByteString"))).before args0 about1 = true := code_word (m := ⟨2, 1⟩) (meth := k2m1) (c := k2c1) (by decide +kernel) rfl rfl rfl (by decide +kernel)
set_option maxRecDepth 65536 in
theorem w_c2 : (Jvm.Cond.code ({ cls := "java/util/Objects", name := "requireNonNull", desc := "(Ljava/lang/Object;Ljava/lang/String;)Ljava/lang/Object;" } : Jvm.MethodName) jdk_31_method_11_code (2 : Nat) (Option.some (Jvm.ClassFile.FieldType.object "java/lang/Object"))).before args0 about1 = true := code_word (m := ⟨9, 1⟩) (meth := k9m1) (c := k9c1) (by decide +kernel) rfl rfl rfl (by decide +kernel)
set_option maxRecDepth 65536 in
theorem w_c3 : (Jvm.Cond.code ({ cls := "com/example/key_ranges/keyranges/ByteString", name := "<init>", desc := "([B)V" } : Jvm.MethodName) prog_5_method_1_code (2 : Nat) (Option.none : Option Jvm.ClassFile.FieldType)).before args0 about1 = true := code_word (m := ⟨2, 0⟩) (meth := k2m0) (c := k2c0) (by decide +kernel) rfl rfl rfl (by decide +kernel)
set_option maxRecDepth 65536 in
theorem w_c4 : (Jvm.Cond.code ({ cls := "java/lang/Object", name := "<init>", desc := "()V" } : Jvm.MethodName) object_method_1_code (1 : Nat) (Option.none : Option Jvm.ClassFile.FieldType)).before args0 about1 = true := code_word (m := ⟨0, 0⟩) (meth := k0m0) (c := k0c0) (by decide +kernel) rfl rfl rfl (by decide +kernel)
set_option maxRecDepth 65536 in
theorem w_c5 : (Jvm.Cond.code ({ cls := "com/example/key_ranges/keyranges/ByteString", name := "size", desc := "()I" } : Jvm.MethodName) prog_5_method_5_code (1 : Nat) (Option.some Jvm.ClassFile.FieldType.int)).before args0 about1 = true := code_word (m := ⟨2, 3⟩) (meth := k2m3) (c := k2c3) (by decide +kernel) rfl rfl rfl (by decide +kernel)
set_option maxRecDepth 65536 in
theorem w_c6 : (Jvm.Cond.code ({ cls := "com/example/key_ranges/keyranges/ByteString", name := "toByteArray", desc := "()[B" } : Jvm.MethodName) prog_5_method_4_code (1 : Nat) (Option.some (Jvm.ClassFile.FieldType.array Jvm.ClassFile.FieldType.byte))).before args0 about1 = true := code_word (m := ⟨2, 2⟩) (meth := k2m2) (c := k2c2) (by decide +kernel) rfl rfl rfl (by decide +kernel)
def codes1 : List Jvm.Cond := [Jvm.Cond.code x code maxLocals ret, Jvm.Cond.code ({ cls := "com/example/key_ranges/keyranges/ByteString", name := "copyOf", desc := "([B)Lcom/example/key_ranges/keyranges/ByteString;" } : Jvm.MethodName) prog_5_method_2_code (1 : Nat) (Option.some (Jvm.ClassFile.FieldType.object "com/example/key_ranges/keyranges/ByteString")), Jvm.Cond.code ({ cls := "java/util/Objects", name := "requireNonNull", desc := "(Ljava/lang/Object;Ljava/lang/String;)Ljava/lang/Object;" } : Jvm.MethodName) jdk_31_method_11_code (2 : Nat) (Option.some (Jvm.ClassFile.FieldType.object "java/lang/Object")), Jvm.Cond.code ({ cls := "com/example/key_ranges/keyranges/ByteString", name := "<init>", desc := "([B)V" } : Jvm.MethodName) prog_5_method_1_code (2 : Nat) (Option.none : Option Jvm.ClassFile.FieldType), Jvm.Cond.code ({ cls := "java/lang/Object", name := "<init>", desc := "()V" } : Jvm.MethodName) object_method_1_code (1 : Nat) (Option.none : Option Jvm.ClassFile.FieldType), Jvm.Cond.code ({ cls := "com/example/key_ranges/keyranges/ByteString", name := "size", desc := "()I" } : Jvm.MethodName) prog_5_method_5_code (1 : Nat) (Option.some Jvm.ClassFile.FieldType.int), Jvm.Cond.code ({ cls := "com/example/key_ranges/keyranges/ByteString", name := "toByteArray", desc := "()[B" } : Jvm.MethodName) prog_5_method_4_code (1 : Nat) (Option.some (Jvm.ClassFile.FieldType.array Jvm.ClassFile.FieldType.byte))]
set_option maxRecDepth 65536 in
theorem codes_eq : words1.filter isCode = codes1 := rfl
theorem w_codes : ∀ c ∈ words1.filter isCode, c.before args0 about1 = true := by
  rw [codes_eq]
  intro c hc
  simp only [codes1, List.mem_cons, List.not_mem_nil, or_false] at hc
  rcases hc with rfl | rfl | rfl | rfl | rfl | rfl | rfl
  · exact w_c0
  · exact w_c1
  · exact w_c2
  · exact w_c3
  · exact w_c4
  · exact w_c5
  · exact w_c6
set_option maxRecDepth 65536 in
theorem w_t1 : (words1.take 24).all (fun c => isCode c || c.before args0 about1) = true := by decide +kernel
set_option maxRecDepth 65536 in
theorem w_t2 : (words1.drop 24).all (fun c => isCode c || c.before args0 about1) = true := by decide +kernel
theorem w_tables : (allAtoms (Jvm.Cond.code x code maxLocals ret :: tables_1)).before args0 about1 = true := by
  rw [allAtoms_all]
  show words1.all (fun c => c.before args0 about1) = true
  refine all_split ?_ w_codes
  rw [← List.take_append_drop 24 words1, List.all_append, w_t1, w_t2]
  rfl
set_option maxRecDepth 65536 in
theorem w_case : (Jvm.Cond.and given_1 narrow_1).before args0 about1 = true := by decide +kernel
theorem w_applies : (headSpec (Jvm.Cond.code x code maxLocals ret :: tables_1) room_1).applies x e0.platform about1 = true :=
  (Spec.applies_iff w_frames).mpr ⟨w_running, w_runnable, w_alone, w_named, w_hears, w_ripe, w_room, w_tables⟩
theorem atStart : AtStart classFile x code maxLocals ret World_1 tables_1 room_1 Calls_1 rest_1 Pre_1 launch0 p0 e0 about1 theMethod args0 below0 :=
  ⟨lists_1, trivial, launch0.admits_env _ _ _, launch0.least_env, fairChoices_fair.cas, fairChoices_fair.clock, w_frames, w_args, w_heap, w_applies, trivial, trivial, w_case⟩
end start1
theorem witness_1 : WitnessClaimed_1 := ⟨start1.p0, start1.e0, start1.about1, start1.theMethod, start1.args0, start1.below0, start1.atStart⟩
end Jvm.Pilot.@@N@@
