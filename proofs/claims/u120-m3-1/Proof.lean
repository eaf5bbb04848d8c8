import JvmDerived
import JvmDerived.Pilot.@@N@@Statement
import JvmDerived.Pilot.@@N@@Code
set_option linter.unusedVariables false
set_option linter.unusedSimpArgs false
namespace Jvm.RoadKit
open Sem ClassFile Op Lib Jvm.Stand Jvm.Free Jvm.LawKit
section New
variable {p : Program} {l : Launch} {e : Env} {R : Room} {s : State} {m : MethodId} {args : Array Value} {below : List Frame} {meth : Method} {c : Code} {T : State} {locs : List Loc} {cells slots : Nat}
theorem retI (X : Stand p l e R s m args below meth c T locs cells slots) (hx : p.tables.exec = Jvm.exec) {pc : Nat} {Ls : Array Slot} {z : Int32} {rest : List Value} (hret : meth.sig.returnType = some .int) (hd : decode c.code pc = .ok (.ireturn, 1)) {fs : List Frame}
    (hl : ∀ (f : JFrame) (acts : List Action), f.method = m → f.locked = none → f.entered = [] → (doReturn e (T.setTop f) acts (some (.int z))).1 = T.setFrames fs) : Steps p.tables e below (T.setTop (mkF m pc Ls (.int z :: rest))) (T.setFrames fs) := by
  have hm' : T.vm.method? m = some meth := X.method'
  have hn : narrow .int (.int z) = .int z := rfl
  show Steps p.tables e below (T.setTop { method := m, pc := pc, locals := Ls, stack := _ :: rest, locked := none }) _
  jvm_step X.here [X.here.top, hx, hd, hm', hret, hn]
  first | (intro acts; rw [hl _ acts rfl rfl rfl]) | rw [hl _ _ rfl rfl rfl]
  exact Steps.refl _
end New
end Jvm.RoadKit
namespace Jvm.Pilot.@@N@@
open Jvm Jvm.ClassFile Sem Op Lib Jvm.Free Jvm.Stand Jvm.LawKit Jvm.RoadKit Bundle Jvm.Pilot.@@N@@.Jvm.D
theorem own_eqI {args : Array Value} {first s : State} {o : Option Outcome} {idx : List Nat} {t : Term} {k : Int32} (h : (Jvm.Cond.eq t (Term.int k)).value args first o s idx = some true) : t.eval args first o idx s = some (.int k) := by
  simp only [Cond.value, Term.eval] at h
  cases ht : t.eval args first o idx s with
  | none => simp [ht] at h
  | some x => cases x <;> simp [ht] at h ⊢; exact h
theorem own_b0 (v : Int32) : (nar .byte (v.toInt8.toInt32)) &&& (255 : Int32) = v &&& (255 : Int32) := by
  show v.toInt8.toInt32.toInt8.toInt32 &&& (255 : Int32) = v &&& (255 : Int32)
  rw [Int8.toInt8_toInt32]
  have e1 := c_mask v.toInt8.toInt32 255 8 (by decide) (by decide)
  have e2 := c_mask v 255 8 (by decide) (by decide)
  have e3 := (c_i2b v).1
  apply Int32.toInt_inj.mp
  rw [e1, e2]; omega
theorem own_m3 (v : Int32) : (v &&& (3 : Int32)) = (0 : Int32) ∨ (v &&& (3 : Int32)) = (1 : Int32) ∨ (v &&& (3 : Int32)) = (2 : Int32) ∨ (v &&& (3 : Int32)) = (3 : Int32) := by
  have e := c_mask v 3 2 (by decide) (by decide)
  have h0 : (0 : Int32).toInt = 0 := rfl
  have h1 : (1 : Int32).toInt = 1 := rfl
  have h2 : (2 : Int32).toInt = 2 := rfl
  have h3 : (3 : Int32).toInt = 3 := rfl
  simp only [← Int32.toInt_inj, h0, h1, h2, h3]
  omega
theorem ef1n0 (m : MethodId) (x0 : Addr) (x1 : Addr) : entryFrame m #[(.ref x0), (.ref x1)] 2 = mkF m 0 #[.val (.ref x0), .val (.ref x1)] [] := by first | (simp [entryFrame, mkF, argsToLocals, Value.category]; done) | rfl
theorem pn_0 : plainName "com/example/tapline/reader/Kernel" = true := by first | (simp [plainName, overriddenIn]; done) | decide +kernel
theorem d1_0 : decode prog_116_method_5_code 0 = .ok (.aload_n 1, 1) := by decide +kernel
theorem d1_1 : decode prog_116_method_5_code 1 = .ok (.arraylength, 1) := by decide +kernel
theorem d1_2 : decode prog_116_method_5_code 2 = .ok (.ifCond .eq 17, 3) := by decide +kernel
theorem d1_19 : decode prog_116_method_5_code 19 = .ok (.iconst 1, 1) := by decide +kernel
theorem d1_20 : decode prog_116_method_5_code 20 = .ok (.goto 4, 3) := by decide +kernel
theorem d1_24 : decode prog_116_method_5_code 24 = .ok (.ireturn, 1) := by decide +kernel
def Q1n0 (Z : State) (a : Addr) (r : Addr) (kc : ClassId) (idv : Int32) (h0 : Heap) (n0 : Nat) (v : Option Value) (h : Heap) (L : List Loc) : Prop := v = some (.int (1 : Int32)) ∧ Fr n0 L ∧ h = h0
set_option maxRecDepth 65536 in
set_option maxHeartbeats 40000000 in
theorem rm1n0 (l : Launch) (Z : State) (a0 : Array Value) (hw : ∀ d ∈ tables_1, d.before a0 Z = true) (ws : List Jvm.Cond) (a : Addr) (r : Addr) (kc : ClassId) (idv : Int32) (h0 : Heap) (n0 : Nat) (Z0 : n0 ≤ h0.size) (F_identifier_a : Fld Z h0 a "com/example/tapline/reader/Kernel" "identifier" "I" (.int idv)) (V_r : Arv Z h0 r kc .byte (0 : Int32) [] (.int (0 : Int32))) :
    MetFree l (⟨"com/example/tapline/reader/Kernel", "isRequestedBy", "([B)Z"⟩ : MethodName) (head1 (Jvm.Cond.code (⟨"com/example/tapline/reader/Kernel", "isRequestedBy", "([B)Z"⟩ : MethodName) prog_116_method_5_code 2 (some .boolean) :: ws) ({ frames := 0, cells := 0, slots := 0, locals := 0 } : Room)) (fun zza zzU => zza = #[(.ref a), (.ref r)] ∧ Z.Warmed39 zzU.vm ∧ zzU.heap = h0) (fun _ _ _ _ _ => True) (fun _ zzU zzo zzV => ∃ zzv zzL, zzo = .returned zzv ∧ Q1n0 Z a r kc idv h0 n0 zzv zzV.heap zzL ∧ FrameEnd zzU zzo zzV zzL ({ frames := 0, cells := 0, slots := 0, locals := 0 } : Room).cells ({ frames := 0, cells := 0, slots := 0, locals := 0 } : Room).slots) := by
  refine MetFree.of_bodySF (plainFor_of_name pn_0) hisR ?_
  intro p e s m args below meth c s₁ Bd hml0 hP hK
  obtain ⟨rfl, hZ, hh⟩ := hP
  have hx := Bd.exec
  have hby := Bd.bytes
  have hml : c.maxLocals = 2 := hml0
  have hown : s.vm.findClass "com/example/tapline/reader/Kernel" = some m.cls := findClass_of_methodNamed Bd.named
  have hnm := (name_of_methodNamed Bd.named Bd.method).1
  have X0 : Stand p l e ({ frames := 0, cells := 0, slots := 0, locals := 0 } : Room) s m #[(.ref a), (.ref r)] below meth c s₁ [] 0 0 := Stand.of_body Bd
  have e0 : s₁.heap = h0 := by rw [← hh, Bd.state]; rfl
  have N0 := Fr.nil n0
  have R0 : ∀ t, Steps p.tables e below (s₁.setTop (mkF m 0 #[.val (.ref a), .val (.ref r)] [])) t → Steps p.tables e below (s₁.setTop (entryFrame m #[(.ref a), (.ref r)] 2)) t := fun t k => castTop (ef1n0 m a r) k
  have R1 : ∀ t, Steps p.tables e below (s₁.setTop (mkF m 1 #[.val (.ref a), .val (.ref r)] [(.ref r)])) t → Steps p.tables e below (s₁.setTop (entryFrame m #[(.ref a), (.ref r)] 2)) t := by
    intro t k
    refine R0 t ?_
    show Steps p.tables e below (s₁.setTop (mkF m 0 #[.val (.ref a), .val (.ref r)] [])) _
    refine XS.aloadN X0.here hx rfl (hb hby d1_0) rfl rfl ?_
    exact k
  obtain ⟨cl2, Ar2, Aq2, As2, An2, Ah2, Ag2⟩ := id V_r
  have R3 : ∀ t, Steps p.tables e below (s₁.setTop (mkF m 24 #[.val (.ref a), .val (.ref r)] [(.int (1 : Int32))])) t → Steps p.tables e below (s₁.setTop (entryFrame m #[(.ref a), (.ref r)] 2)) t := by
    intro t k
    refine R1 t ?_
    show Steps p.tables e below (s₁.setTop (mkF m 1 #[.val (.ref a), .val (.ref r)] [(.ref r)])) _
    refine X0.arraylength hx (by rw [e0]; exact Ar2.1) (State.isArrayOf_alike hZ.alike Ar2.2.1) (g := (mkF m 1 #[.val (.ref a), .val (.ref r)] [(.ref r)])) rfl rfl (hb hby d1_1) _ ?_
    rw [len_of As2 An2]
    show Steps p.tables e below (s₁.setTop (mkF m 2 #[.val (.ref a), .val (.ref r)] [(.int (0 : Int32))])) _
    refine XS.ifYes X0.here hx rfl (pc0 := 2) (pc' := 19) rfl (hb hby d1_2) rfl ((if0 _ _).trans (teq (by decide)).1) (by decide) (by decide) ?_
    show Steps p.tables e below (s₁.setTop (mkF m 19 #[.val (.ref a), .val (.ref r)] [])) _
    refine XS.iconst X0.here hx rfl (hb hby d1_19) ?_
    show Steps p.tables e below (s₁.setTop (mkF m 20 #[.val (.ref a), .val (.ref r)] [(.int (1 : Int32))])) _
    refine XS.goto X0.here hx rfl (pc0 := 20) (pc' := 24) rfl (hb hby d1_20) (by decide) (by decide) ?_
    exact k
  obtain ⟨fs, hr, hrun, hended, hW, hsame⟩ := X0.leave (v := some (.int (1 : Int32))) (fun h => by rw [Bd.returns] at h; cases h)
  refine ⟨_, _, R3 _ ?_, hrun, hended, _, _, rfl, ?_, ⟨_, rfl⟩, hW, hsame.mono (by decide) (by decide)⟩
  · exact retN X0 hx (t := .boolean) Bd.returns (by simp) (hb hby d1_24) hr
  · show Q1n0 Z a r kc idv h0 n0 _ s₁.heap _
    rw [e0]
    exact ⟨rfl, N0, rfl⟩
theorem ef1n1 (m : MethodId) (x0 : Addr) (x1 : Addr) : entryFrame m #[(.ref x0), (.ref x1)] 2 = mkF m 0 #[.val (.ref x0), .val (.ref x1)] [] := by first | (simp [entryFrame, mkF, argsToLocals, Value.category]; done) | rfl
theorem d1_5 : decode prog_116_method_5_code 5 = .ok (.aload_n 1, 1) := by decide +kernel
theorem d1_6 : decode prog_116_method_5_code 6 = .ok (.iconst 0, 1) := by decide +kernel
theorem d1_7 : decode prog_116_method_5_code 7 = .ok (.baload, 1) := by decide +kernel
theorem d1_8 : decode prog_116_method_5_code 8 = .ok (.sipush 255, 3) := by decide +kernel
theorem d1_11 : decode prog_116_method_5_code 11 = .ok (.iand, 1) := by decide +kernel
theorem d1_12 : decode prog_116_method_5_code 12 = .ok (.aload_n 0, 1) := by decide +kernel
theorem d1_13 : decode prog_116_method_5_code 13 = .ok (.getfield 33, 3) := by decide +kernel
theorem d1_16 : decode prog_116_method_5_code 16 = .ok (.if_icmp .ne 7, 3) := by decide +kernel
theorem d1_23 : decode prog_116_method_5_code 23 = .ok (.iconst 0, 1) := by decide +kernel
def Q1n1 (Z : State) (a : Addr) (r : Addr) (kc : ClassId) (idv : Int32) (u0 : Int32) (h0 : Heap) (n0 : Nat) (v : Option Value) (h : Heap) (L : List Loc) : Prop := v = some (.int (if (u0 &&& (255 : Int32)) = idv then (1 : Int32) else (0 : Int32))) ∧ Fr n0 L ∧ h = h0
set_option maxRecDepth 65536 in
set_option maxHeartbeats 40000000 in
theorem rm1n1 (l : Launch) (Z : State) (a0 : Array Value) (hw : ∀ d ∈ tables_1, d.before a0 Z = true) (ws : List Jvm.Cond) (a : Addr) (r : Addr) (kc : ClassId) (idv : Int32) (u0 : Int32) (h0 : Heap) (n0 : Nat) (Z0 : n0 ≤ h0.size) (F_identifier_a : Fld Z h0 a "com/example/tapline/reader/Kernel" "identifier" "I" (.int idv)) (V_r : Arv Z h0 r kc .byte (1 : Int32) [(.int u0)] (.int (0 : Int32))) :
    MetFree l (⟨"com/example/tapline/reader/Kernel", "isRequestedBy", "([B)Z"⟩ : MethodName) (head1 (Jvm.Cond.code (⟨"com/example/tapline/reader/Kernel", "isRequestedBy", "([B)Z"⟩ : MethodName) prog_116_method_5_code 2 (some .boolean) :: ws) ({ frames := 0, cells := 0, slots := 0, locals := 0 } : Room)) (fun zza zzU => zza = #[(.ref a), (.ref r)] ∧ Z.Warmed39 zzU.vm ∧ zzU.heap = h0) (fun _ _ _ _ _ => True) (fun _ zzU zzo zzV => ∃ zzv zzL, zzo = .returned zzv ∧ Q1n1 Z a r kc idv u0 h0 n0 zzv zzV.heap zzL ∧ FrameEnd zzU zzo zzV zzL ({ frames := 0, cells := 0, slots := 0, locals := 0 } : Room).cells ({ frames := 0, cells := 0, slots := 0, locals := 0 } : Room).slots) := by
  refine MetFree.of_bodySF (plainFor_of_name pn_0) hisR ?_
  intro p e s m args below meth c s₁ Bd hml0 hP hK
  obtain ⟨rfl, hZ, hh⟩ := hP
  have hx := Bd.exec
  have hby := Bd.bytes
  have hml : c.maxLocals = 2 := hml0
  have hown : s.vm.findClass "com/example/tapline/reader/Kernel" = some m.cls := findClass_of_methodNamed Bd.named
  have hnm := (name_of_methodNamed Bd.named Bd.method).1
  have X0 : Stand p l e ({ frames := 0, cells := 0, slots := 0, locals := 0 } : Room) s m #[(.ref a), (.ref r)] below meth c s₁ [] 0 0 := Stand.of_body Bd
  have e0 : s₁.heap = h0 := by rw [← hh, Bd.state]; rfl
  have N0 := Fr.nil n0
  have R0 : ∀ t, Steps p.tables e below (s₁.setTop (mkF m 0 #[.val (.ref a), .val (.ref r)] [])) t → Steps p.tables e below (s₁.setTop (entryFrame m #[(.ref a), (.ref r)] 2)) t := fun t k => castTop (ef1n1 m a r) k
  have R1 : ∀ t, Steps p.tables e below (s₁.setTop (mkF m 1 #[.val (.ref a), .val (.ref r)] [(.ref r)])) t → Steps p.tables e below (s₁.setTop (entryFrame m #[(.ref a), (.ref r)] 2)) t := by
    intro t k
    refine R0 t ?_
    show Steps p.tables e below (s₁.setTop (mkF m 0 #[.val (.ref a), .val (.ref r)] [])) _
    refine XS.aloadN X0.here hx rfl (hb hby d1_0) rfl rfl ?_
    exact k
  obtain ⟨cl2, Ar2, Aq2, As2, An2, Ah2, Ag2⟩ := id V_r
  have R3 : ∀ t, Steps p.tables e below (s₁.setTop (mkF m 7 #[.val (.ref a), .val (.ref r)] [(.int (0 : Int32)), (.ref r)])) t → Steps p.tables e below (s₁.setTop (entryFrame m #[(.ref a), (.ref r)] 2)) t := by
    intro t k
    refine R1 t ?_
    show Steps p.tables e below (s₁.setTop (mkF m 1 #[.val (.ref a), .val (.ref r)] [(.ref r)])) _
    refine X0.arraylength hx (by rw [e0]; exact Ar2.1) (State.isArrayOf_alike hZ.alike Ar2.2.1) (g := (mkF m 1 #[.val (.ref a), .val (.ref r)] [(.ref r)])) rfl rfl (hb hby d1_1) _ ?_
    rw [len_of As2 An2]
    show Steps p.tables e below (s₁.setTop (mkF m 2 #[.val (.ref a), .val (.ref r)] [(.int (1 : Int32))])) _
    refine XS.ifNo X0.here hx rfl (hb hby d1_2) rfl ((if0 _ _).trans (feq (by decide)).1) ?_
    show Steps p.tables e below (s₁.setTop (mkF m 5 #[.val (.ref a), .val (.ref r)] [])) _
    refine XS.aloadN X0.here hx rfl (hb hby d1_5) rfl rfl ?_
    show Steps p.tables e below (s₁.setTop (mkF m 6 #[.val (.ref a), .val (.ref r)] [(.ref r)])) _
    refine XS.iconst X0.here hx rfl (hb hby d1_6) ?_
    exact k
  obtain ⟨cl4, Ar4, Aq4, As4, An4, Ah4, Ag4⟩ := id V_r
  have hin4 : ¬ ((0 : Int32) < 0 ∨ cl4.slots.size ≤ ((0 : Int32)).toNatClampNeg) := inb_of As4 ⟨by decide, by decide⟩
  have hat4 : cl4.slots[((0 : Int32)).toNatClampNeg]? = some (.int u0) := Has.at Ah4 hin4 rfl
  have R5 : ∀ t, Steps p.tables e below (s₁.setTop (mkF m 13 #[.val (.ref a), .val (.ref r)] [(.ref a), (.int (u0 &&& (255 : Int32)))])) t → Steps p.tables e below (s₁.setTop (entryFrame m #[(.ref a), (.ref r)] 2)) t := by
    intro t k
    refine R3 t ?_
    show Steps p.tables e below (s₁.setTop (mkF m 7 #[.val (.ref a), .val (.ref r)] [(.int (0 : Int32)), (.ref r)])) _
    refine X0.baloadBytes hx (j := (0 : Int32)) (v := (.int u0)) (by rw [e0]; exact Ar4.1) (State.isArrayOf_alike hZ.alike Ar4.2.1) Ar4.2.2 hin4 hat4 (g := (mkF m 7 #[.val (.ref a), .val (.ref r)] [(.int (0 : Int32)), (.ref r)])) rfl rfl (hb hby d1_7) _ ?_
    show Steps p.tables e below (s₁.setTop (mkF m 8 #[.val (.ref a), .val (.ref r)] [(.int u0)])) _
    refine XS.sipush X0.here hx rfl (hb hby d1_8) ?_
    show Steps p.tables e below (s₁.setTop (mkF m 11 #[.val (.ref a), .val (.ref r)] [(.int (255 : Int32)), (.int u0)])) _
    refine XS.iand X0.here hx rfl (hb hby d1_11) rfl ?_
    show Steps p.tables e below (s₁.setTop (mkF m 12 #[.val (.ref a), .val (.ref r)] [(.int (u0 &&& (255 : Int32)))])) _
    refine XS.aloadN X0.here hx rfl (hb hby d1_12) rfl rfl ?_
    exact k
  obtain ⟨T6, X6, e6, st6⟩ := getF X0 hx hZ hown (host := "") (Or.inl (hw _ (List.mem_of_getElem? (i := 9) rfl))) Via.refl e0 F_identifier_a (g := (mkF m 13 #[.val (.ref a), .val (.ref r)] [(.ref a), (.int (u0 &&& (255 : Int32)))])) rfl rfl (hb hby d1_13)
  have R7 : ∀ t, Steps p.tables e below (T6.setTop (mkF m 16 #[.val (.ref a), .val (.ref r)] [(.int idv), (.int (u0 &&& (255 : Int32)))])) t → Steps p.tables e below (s₁.setTop (entryFrame m #[(.ref a), (.ref r)] 2)) t := by
    intro t k
    refine R5 t ?_
    show Steps p.tables e below (s₁.setTop (mkF m 13 #[.val (.ref a), .val (.ref r)] [(.ref a), (.int (u0 &&& (255 : Int32)))])) _
    refine st6 _ ?_
    exact k
  by_cases hc8 : (u0 &&& (255 : Int32)) = idv
  ·
    skip
    have R9 : ∀ t, Steps p.tables e below (T6.setTop (mkF m 24 #[.val (.ref a), .val (.ref r)] [(.int (1 : Int32))])) t → Steps p.tables e below (s₁.setTop (entryFrame m #[(.ref a), (.ref r)] 2)) t := by
      intro t k
      refine R7 t ?_
      show Steps p.tables e below (T6.setTop (mkF m 16 #[.val (.ref a), .val (.ref r)] [(.int idv), (.int (u0 &&& (255 : Int32)))])) _
      refine XS.icmpNo X6.here hx rfl (hb hby d1_16) rfl (teq hc8).2 ?_
      show Steps p.tables e below (T6.setTop (mkF m 19 #[.val (.ref a), .val (.ref r)] [])) _
      refine XS.iconst X6.here hx rfl (hb hby d1_19) ?_
      show Steps p.tables e below (T6.setTop (mkF m 20 #[.val (.ref a), .val (.ref r)] [(.int (1 : Int32))])) _
      refine XS.goto X6.here hx rfl (pc0 := 20) (pc' := 24) rfl (hb hby d1_20) (by decide) (by decide) ?_
      exact k
    obtain ⟨fs, hr, hrun, hended, hW, hsame⟩ := X6.leave (v := some (.int (1 : Int32))) (fun h => by rw [Bd.returns] at h; cases h)
    refine ⟨_, _, R9 _ ?_, hrun, hended, _, _, rfl, ?_, ⟨_, rfl⟩, hW, hsame.mono (by decide) (by decide)⟩
    · exact retN X6 hx (t := .boolean) Bd.returns (by simp) (hb hby d1_24) hr
    · show Q1n1 Z a r kc idv u0 h0 n0 _ T6.heap _
      rw [e6]
      exact ⟨(by rw [if_pos hc8]), N0, rfl⟩
  ·
    skip
    have R10 : ∀ t, Steps p.tables e below (T6.setTop (mkF m 24 #[.val (.ref a), .val (.ref r)] [(.int (0 : Int32))])) t → Steps p.tables e below (s₁.setTop (entryFrame m #[(.ref a), (.ref r)] 2)) t := by
      intro t k
      refine R7 t ?_
      show Steps p.tables e below (T6.setTop (mkF m 16 #[.val (.ref a), .val (.ref r)] [(.int idv), (.int (u0 &&& (255 : Int32)))])) _
      refine XS.icmpYes X6.here hx rfl (pc0 := 16) (pc' := 23) rfl (hb hby d1_16) rfl (feq hc8).2 (by decide) (by decide) ?_
      show Steps p.tables e below (T6.setTop (mkF m 23 #[.val (.ref a), .val (.ref r)] [])) _
      refine XS.iconst X6.here hx rfl (hb hby d1_23) ?_
      exact k
    obtain ⟨fs, hr, hrun, hended, hW, hsame⟩ := X6.leave (v := some (.int (0 : Int32))) (fun h => by rw [Bd.returns] at h; cases h)
    refine ⟨_, _, R10 _ ?_, hrun, hended, _, _, rfl, ?_, ⟨_, rfl⟩, hW, hsame.mono (by decide) (by decide)⟩
    · exact retN X6 hx (t := .boolean) Bd.returns (by simp) (hb hby d1_24) hr
    · show Q1n1 Z a r kc idv u0 h0 n0 _ T6.heap _
      rw [e6]
      exact ⟨(by rw [if_neg hc8]), N0, rfl⟩
theorem ef1n2 (m : MethodId) (x0 : Addr) (x1 : Addr) : entryFrame m #[(.ref x0), (.ref x1)] 2 = mkF m 0 #[.val (.ref x0), .val (.ref x1)] [] := by first | (simp [entryFrame, mkF, argsToLocals, Value.category]; done) | rfl
def Q1n2 (Z : State) (a : Addr) (r : Addr) (kc : ClassId) (idv : Int32) (u0 : Int32) (u1 : Int32) (h0 : Heap) (n0 : Nat) (v : Option Value) (h : Heap) (L : List Loc) : Prop := v = some (.int (if (u0 &&& (255 : Int32)) = idv then (1 : Int32) else (0 : Int32))) ∧ Fr n0 L ∧ h = h0
set_option maxRecDepth 65536 in
set_option maxHeartbeats 40000000 in
theorem rm1n2 (l : Launch) (Z : State) (a0 : Array Value) (hw : ∀ d ∈ tables_1, d.before a0 Z = true) (ws : List Jvm.Cond) (a : Addr) (r : Addr) (kc : ClassId) (idv : Int32) (u0 : Int32) (u1 : Int32) (h0 : Heap) (n0 : Nat) (Z0 : n0 ≤ h0.size) (F_identifier_a : Fld Z h0 a "com/example/tapline/reader/Kernel" "identifier" "I" (.int idv)) (V_r : Arv Z h0 r kc .byte (2 : Int32) [(.int u0), (.int u1)] (.int (0 : Int32))) :
    MetFree l (⟨"com/example/tapline/reader/Kernel", "isRequestedBy", "([B)Z"⟩ : MethodName) (head1 (Jvm.Cond.code (⟨"com/example/tapline/reader/Kernel", "isRequestedBy", "([B)Z"⟩ : MethodName) prog_116_method_5_code 2 (some .boolean) :: ws) ({ frames := 0, cells := 0, slots := 0, locals := 0 } : Room)) (fun zza zzU => zza = #[(.ref a), (.ref r)] ∧ Z.Warmed39 zzU.vm ∧ zzU.heap = h0) (fun _ _ _ _ _ => True) (fun _ zzU zzo zzV => ∃ zzv zzL, zzo = .returned zzv ∧ Q1n2 Z a r kc idv u0 u1 h0 n0 zzv zzV.heap zzL ∧ FrameEnd zzU zzo zzV zzL ({ frames := 0, cells := 0, slots := 0, locals := 0 } : Room).cells ({ frames := 0, cells := 0, slots := 0, locals := 0 } : Room).slots) := by
  refine MetFree.of_bodySF (plainFor_of_name pn_0) hisR ?_
  intro p e s m args below meth c s₁ Bd hml0 hP hK
  obtain ⟨rfl, hZ, hh⟩ := hP
  have hx := Bd.exec
  have hby := Bd.bytes
  have hml : c.maxLocals = 2 := hml0
  have hown : s.vm.findClass "com/example/tapline/reader/Kernel" = some m.cls := findClass_of_methodNamed Bd.named
  have hnm := (name_of_methodNamed Bd.named Bd.method).1
  have X0 : Stand p l e ({ frames := 0, cells := 0, slots := 0, locals := 0 } : Room) s m #[(.ref a), (.ref r)] below meth c s₁ [] 0 0 := Stand.of_body Bd
  have e0 : s₁.heap = h0 := by rw [← hh, Bd.state]; rfl
  have N0 := Fr.nil n0
  have R0 : ∀ t, Steps p.tables e below (s₁.setTop (mkF m 0 #[.val (.ref a), .val (.ref r)] [])) t → Steps p.tables e below (s₁.setTop (entryFrame m #[(.ref a), (.ref r)] 2)) t := fun t k => castTop (ef1n2 m a r) k
  have R1 : ∀ t, Steps p.tables e below (s₁.setTop (mkF m 1 #[.val (.ref a), .val (.ref r)] [(.ref r)])) t → Steps p.tables e below (s₁.setTop (entryFrame m #[(.ref a), (.ref r)] 2)) t := by
    intro t k
    refine R0 t ?_
    show Steps p.tables e below (s₁.setTop (mkF m 0 #[.val (.ref a), .val (.ref r)] [])) _
    refine XS.aloadN X0.here hx rfl (hb hby d1_0) rfl rfl ?_
    exact k
  obtain ⟨cl2, Ar2, Aq2, As2, An2, Ah2, Ag2⟩ := id V_r
  have R3 : ∀ t, Steps p.tables e below (s₁.setTop (mkF m 7 #[.val (.ref a), .val (.ref r)] [(.int (0 : Int32)), (.ref r)])) t → Steps p.tables e below (s₁.setTop (entryFrame m #[(.ref a), (.ref r)] 2)) t := by
    intro t k
    refine R1 t ?_
    show Steps p.tables e below (s₁.setTop (mkF m 1 #[.val (.ref a), .val (.ref r)] [(.ref r)])) _
    refine X0.arraylength hx (by rw [e0]; exact Ar2.1) (State.isArrayOf_alike hZ.alike Ar2.2.1) (g := (mkF m 1 #[.val (.ref a), .val (.ref r)] [(.ref r)])) rfl rfl (hb hby d1_1) _ ?_
    rw [len_of As2 An2]
    show Steps p.tables e below (s₁.setTop (mkF m 2 #[.val (.ref a), .val (.ref r)] [(.int (2 : Int32))])) _
    refine XS.ifNo X0.here hx rfl (hb hby d1_2) rfl ((if0 _ _).trans (feq (by decide)).1) ?_
    show Steps p.tables e below (s₁.setTop (mkF m 5 #[.val (.ref a), .val (.ref r)] [])) _
    refine XS.aloadN X0.here hx rfl (hb hby d1_5) rfl rfl ?_
    show Steps p.tables e below (s₁.setTop (mkF m 6 #[.val (.ref a), .val (.ref r)] [(.ref r)])) _
    refine XS.iconst X0.here hx rfl (hb hby d1_6) ?_
    exact k
  obtain ⟨cl4, Ar4, Aq4, As4, An4, Ah4, Ag4⟩ := id V_r
  have hin4 : ¬ ((0 : Int32) < 0 ∨ cl4.slots.size ≤ ((0 : Int32)).toNatClampNeg) := inb_of As4 ⟨by decide, by decide⟩
  have hat4 : cl4.slots[((0 : Int32)).toNatClampNeg]? = some (.int u0) := Has.at Ah4 hin4 rfl
  have R5 : ∀ t, Steps p.tables e below (s₁.setTop (mkF m 13 #[.val (.ref a), .val (.ref r)] [(.ref a), (.int (u0 &&& (255 : Int32)))])) t → Steps p.tables e below (s₁.setTop (entryFrame m #[(.ref a), (.ref r)] 2)) t := by
    intro t k
    refine R3 t ?_
    show Steps p.tables e below (s₁.setTop (mkF m 7 #[.val (.ref a), .val (.ref r)] [(.int (0 : Int32)), (.ref r)])) _
    refine X0.baloadBytes hx (j := (0 : Int32)) (v := (.int u0)) (by rw [e0]; exact Ar4.1) (State.isArrayOf_alike hZ.alike Ar4.2.1) Ar4.2.2 hin4 hat4 (g := (mkF m 7 #[.val (.ref a), .val (.ref r)] [(.int (0 : Int32)), (.ref r)])) rfl rfl (hb hby d1_7) _ ?_
    show Steps p.tables e below (s₁.setTop (mkF m 8 #[.val (.ref a), .val (.ref r)] [(.int u0)])) _
    refine XS.sipush X0.here hx rfl (hb hby d1_8) ?_
    show Steps p.tables e below (s₁.setTop (mkF m 11 #[.val (.ref a), .val (.ref r)] [(.int (255 : Int32)), (.int u0)])) _
    refine XS.iand X0.here hx rfl (hb hby d1_11) rfl ?_
    show Steps p.tables e below (s₁.setTop (mkF m 12 #[.val (.ref a), .val (.ref r)] [(.int (u0 &&& (255 : Int32)))])) _
    refine XS.aloadN X0.here hx rfl (hb hby d1_12) rfl rfl ?_
    exact k
  obtain ⟨T6, X6, e6, st6⟩ := getF X0 hx hZ hown (host := "") (Or.inl (hw _ (List.mem_of_getElem? (i := 9) rfl))) Via.refl e0 F_identifier_a (g := (mkF m 13 #[.val (.ref a), .val (.ref r)] [(.ref a), (.int (u0 &&& (255 : Int32)))])) rfl rfl (hb hby d1_13)
  have R7 : ∀ t, Steps p.tables e below (T6.setTop (mkF m 16 #[.val (.ref a), .val (.ref r)] [(.int idv), (.int (u0 &&& (255 : Int32)))])) t → Steps p.tables e below (s₁.setTop (entryFrame m #[(.ref a), (.ref r)] 2)) t := by
    intro t k
    refine R5 t ?_
    show Steps p.tables e below (s₁.setTop (mkF m 13 #[.val (.ref a), .val (.ref r)] [(.ref a), (.int (u0 &&& (255 : Int32)))])) _
    refine st6 _ ?_
    exact k
  by_cases hc8 : (u0 &&& (255 : Int32)) = idv
  ·
    skip
    have R9 : ∀ t, Steps p.tables e below (T6.setTop (mkF m 24 #[.val (.ref a), .val (.ref r)] [(.int (1 : Int32))])) t → Steps p.tables e below (s₁.setTop (entryFrame m #[(.ref a), (.ref r)] 2)) t := by
      intro t k
      refine R7 t ?_
      show Steps p.tables e below (T6.setTop (mkF m 16 #[.val (.ref a), .val (.ref r)] [(.int idv), (.int (u0 &&& (255 : Int32)))])) _
      refine XS.icmpNo X6.here hx rfl (hb hby d1_16) rfl (teq hc8).2 ?_
      show Steps p.tables e below (T6.setTop (mkF m 19 #[.val (.ref a), .val (.ref r)] [])) _
      refine XS.iconst X6.here hx rfl (hb hby d1_19) ?_
      show Steps p.tables e below (T6.setTop (mkF m 20 #[.val (.ref a), .val (.ref r)] [(.int (1 : Int32))])) _
      refine XS.goto X6.here hx rfl (pc0 := 20) (pc' := 24) rfl (hb hby d1_20) (by decide) (by decide) ?_
      exact k
    obtain ⟨fs, hr, hrun, hended, hW, hsame⟩ := X6.leave (v := some (.int (1 : Int32))) (fun h => by rw [Bd.returns] at h; cases h)
    refine ⟨_, _, R9 _ ?_, hrun, hended, _, _, rfl, ?_, ⟨_, rfl⟩, hW, hsame.mono (by decide) (by decide)⟩
    · exact retN X6 hx (t := .boolean) Bd.returns (by simp) (hb hby d1_24) hr
    · show Q1n2 Z a r kc idv u0 u1 h0 n0 _ T6.heap _
      rw [e6]
      exact ⟨(by rw [if_pos hc8]), N0, rfl⟩
  ·
    skip
    have R10 : ∀ t, Steps p.tables e below (T6.setTop (mkF m 24 #[.val (.ref a), .val (.ref r)] [(.int (0 : Int32))])) t → Steps p.tables e below (s₁.setTop (entryFrame m #[(.ref a), (.ref r)] 2)) t := by
      intro t k
      refine R7 t ?_
      show Steps p.tables e below (T6.setTop (mkF m 16 #[.val (.ref a), .val (.ref r)] [(.int idv), (.int (u0 &&& (255 : Int32)))])) _
      refine XS.icmpYes X6.here hx rfl (pc0 := 16) (pc' := 23) rfl (hb hby d1_16) rfl (feq hc8).2 (by decide) (by decide) ?_
      show Steps p.tables e below (T6.setTop (mkF m 23 #[.val (.ref a), .val (.ref r)] [])) _
      refine XS.iconst X6.here hx rfl (hb hby d1_23) ?_
      exact k
    obtain ⟨fs, hr, hrun, hended, hW, hsame⟩ := X6.leave (v := some (.int (0 : Int32))) (fun h => by rw [Bd.returns] at h; cases h)
    refine ⟨_, _, R10 _ ?_, hrun, hended, _, _, rfl, ?_, ⟨_, rfl⟩, hW, hsame.mono (by decide) (by decide)⟩
    · exact retN X6 hx (t := .boolean) Bd.returns (by simp) (hb hby d1_24) hr
    · show Q1n2 Z a r kc idv u0 u1 h0 n0 _ T6.heap _
      rw [e6]
      exact ⟨(by rw [if_neg hc8]), N0, rfl⟩
theorem ef1n3 (m : MethodId) (x0 : Addr) (x1 : Addr) : entryFrame m #[(.ref x0), (.ref x1)] 2 = mkF m 0 #[.val (.ref x0), .val (.ref x1)] [] := by first | (simp [entryFrame, mkF, argsToLocals, Value.category]; done) | rfl
def Q1n3 (Z : State) (a : Addr) (r : Addr) (kc : ClassId) (idv : Int32) (u0 : Int32) (u1 : Int32) (u2 : Int32) (h0 : Heap) (n0 : Nat) (v : Option Value) (h : Heap) (L : List Loc) : Prop := v = some (.int (if (u0 &&& (255 : Int32)) = idv then (1 : Int32) else (0 : Int32))) ∧ Fr n0 L ∧ h = h0
set_option maxRecDepth 65536 in
set_option maxHeartbeats 40000000 in
theorem rm1n3 (l : Launch) (Z : State) (a0 : Array Value) (hw : ∀ d ∈ tables_1, d.before a0 Z = true) (ws : List Jvm.Cond) (a : Addr) (r : Addr) (kc : ClassId) (idv : Int32) (u0 : Int32) (u1 : Int32) (u2 : Int32) (h0 : Heap) (n0 : Nat) (Z0 : n0 ≤ h0.size) (F_identifier_a : Fld Z h0 a "com/example/tapline/reader/Kernel" "identifier" "I" (.int idv)) (V_r : Arv Z h0 r kc .byte (3 : Int32) [(.int u0), (.int u1), (.int u2)] (.int (0 : Int32))) :
    MetFree l (⟨"com/example/tapline/reader/Kernel", "isRequestedBy", "([B)Z"⟩ : MethodName) (head1 (Jvm.Cond.code (⟨"com/example/tapline/reader/Kernel", "isRequestedBy", "([B)Z"⟩ : MethodName) prog_116_method_5_code 2 (some .boolean) :: ws) ({ frames := 0, cells := 0, slots := 0, locals := 0 } : Room)) (fun zza zzU => zza = #[(.ref a), (.ref r)] ∧ Z.Warmed39 zzU.vm ∧ zzU.heap = h0) (fun _ _ _ _ _ => True) (fun _ zzU zzo zzV => ∃ zzv zzL, zzo = .returned zzv ∧ Q1n3 Z a r kc idv u0 u1 u2 h0 n0 zzv zzV.heap zzL ∧ FrameEnd zzU zzo zzV zzL ({ frames := 0, cells := 0, slots := 0, locals := 0 } : Room).cells ({ frames := 0, cells := 0, slots := 0, locals := 0 } : Room).slots) := by
  refine MetFree.of_bodySF (plainFor_of_name pn_0) hisR ?_
  intro p e s m args below meth c s₁ Bd hml0 hP hK
  obtain ⟨rfl, hZ, hh⟩ := hP
  have hx := Bd.exec
  have hby := Bd.bytes
  have hml : c.maxLocals = 2 := hml0
  have hown : s.vm.findClass "com/example/tapline/reader/Kernel" = some m.cls := findClass_of_methodNamed Bd.named
  have hnm := (name_of_methodNamed Bd.named Bd.method).1
  have X0 : Stand p l e ({ frames := 0, cells := 0, slots := 0, locals := 0 } : Room) s m #[(.ref a), (.ref r)] below meth c s₁ [] 0 0 := Stand.of_body Bd
  have e0 : s₁.heap = h0 := by rw [← hh, Bd.state]; rfl
  have N0 := Fr.nil n0
  have R0 : ∀ t, Steps p.tables e below (s₁.setTop (mkF m 0 #[.val (.ref a), .val (.ref r)] [])) t → Steps p.tables e below (s₁.setTop (entryFrame m #[(.ref a), (.ref r)] 2)) t := fun t k => castTop (ef1n3 m a r) k
  have R1 : ∀ t, Steps p.tables e below (s₁.setTop (mkF m 1 #[.val (.ref a), .val (.ref r)] [(.ref r)])) t → Steps p.tables e below (s₁.setTop (entryFrame m #[(.ref a), (.ref r)] 2)) t := by
    intro t k
    refine R0 t ?_
    show Steps p.tables e below (s₁.setTop (mkF m 0 #[.val (.ref a), .val (.ref r)] [])) _
    refine XS.aloadN X0.here hx rfl (hb hby d1_0) rfl rfl ?_
    exact k
  obtain ⟨cl2, Ar2, Aq2, As2, An2, Ah2, Ag2⟩ := id V_r
  have R3 : ∀ t, Steps p.tables e below (s₁.setTop (mkF m 7 #[.val (.ref a), .val (.ref r)] [(.int (0 : Int32)), (.ref r)])) t → Steps p.tables e below (s₁.setTop (entryFrame m #[(.ref a), (.ref r)] 2)) t := by
    intro t k
    refine R1 t ?_
    show Steps p.tables e below (s₁.setTop (mkF m 1 #[.val (.ref a), .val (.ref r)] [(.ref r)])) _
    refine X0.arraylength hx (by rw [e0]; exact Ar2.1) (State.isArrayOf_alike hZ.alike Ar2.2.1) (g := (mkF m 1 #[.val (.ref a), .val (.ref r)] [(.ref r)])) rfl rfl (hb hby d1_1) _ ?_
    rw [len_of As2 An2]
    show Steps p.tables e below (s₁.setTop (mkF m 2 #[.val (.ref a), .val (.ref r)] [(.int (3 : Int32))])) _
    refine XS.ifNo X0.here hx rfl (hb hby d1_2) rfl ((if0 _ _).trans (feq (by decide)).1) ?_
    show Steps p.tables e below (s₁.setTop (mkF m 5 #[.val (.ref a), .val (.ref r)] [])) _
    refine XS.aloadN X0.here hx rfl (hb hby d1_5) rfl rfl ?_
    show Steps p.tables e below (s₁.setTop (mkF m 6 #[.val (.ref a), .val (.ref r)] [(.ref r)])) _
    refine XS.iconst X0.here hx rfl (hb hby d1_6) ?_
    exact k
  obtain ⟨cl4, Ar4, Aq4, As4, An4, Ah4, Ag4⟩ := id V_r
  have hin4 : ¬ ((0 : Int32) < 0 ∨ cl4.slots.size ≤ ((0 : Int32)).toNatClampNeg) := inb_of As4 ⟨by decide, by decide⟩
  have hat4 : cl4.slots[((0 : Int32)).toNatClampNeg]? = some (.int u0) := Has.at Ah4 hin4 rfl
  have R5 : ∀ t, Steps p.tables e below (s₁.setTop (mkF m 13 #[.val (.ref a), .val (.ref r)] [(.ref a), (.int (u0 &&& (255 : Int32)))])) t → Steps p.tables e below (s₁.setTop (entryFrame m #[(.ref a), (.ref r)] 2)) t := by
    intro t k
    refine R3 t ?_
    show Steps p.tables e below (s₁.setTop (mkF m 7 #[.val (.ref a), .val (.ref r)] [(.int (0 : Int32)), (.ref r)])) _
    refine X0.baloadBytes hx (j := (0 : Int32)) (v := (.int u0)) (by rw [e0]; exact Ar4.1) (State.isArrayOf_alike hZ.alike Ar4.2.1) Ar4.2.2 hin4 hat4 (g := (mkF m 7 #[.val (.ref a), .val (.ref r)] [(.int (0 : Int32)), (.ref r)])) rfl rfl (hb hby d1_7) _ ?_
    show Steps p.tables e below (s₁.setTop (mkF m 8 #[.val (.ref a), .val (.ref r)] [(.int u0)])) _
    refine XS.sipush X0.here hx rfl (hb hby d1_8) ?_
    show Steps p.tables e below (s₁.setTop (mkF m 11 #[.val (.ref a), .val (.ref r)] [(.int (255 : Int32)), (.int u0)])) _
    refine XS.iand X0.here hx rfl (hb hby d1_11) rfl ?_
    show Steps p.tables e below (s₁.setTop (mkF m 12 #[.val (.ref a), .val (.ref r)] [(.int (u0 &&& (255 : Int32)))])) _
    refine XS.aloadN X0.here hx rfl (hb hby d1_12) rfl rfl ?_
    exact k
  obtain ⟨T6, X6, e6, st6⟩ := getF X0 hx hZ hown (host := "") (Or.inl (hw _ (List.mem_of_getElem? (i := 9) rfl))) Via.refl e0 F_identifier_a (g := (mkF m 13 #[.val (.ref a), .val (.ref r)] [(.ref a), (.int (u0 &&& (255 : Int32)))])) rfl rfl (hb hby d1_13)
  have R7 : ∀ t, Steps p.tables e below (T6.setTop (mkF m 16 #[.val (.ref a), .val (.ref r)] [(.int idv), (.int (u0 &&& (255 : Int32)))])) t → Steps p.tables e below (s₁.setTop (entryFrame m #[(.ref a), (.ref r)] 2)) t := by
    intro t k
    refine R5 t ?_
    show Steps p.tables e below (s₁.setTop (mkF m 13 #[.val (.ref a), .val (.ref r)] [(.ref a), (.int (u0 &&& (255 : Int32)))])) _
    refine st6 _ ?_
    exact k
  by_cases hc8 : (u0 &&& (255 : Int32)) = idv
  ·
    skip
    have R9 : ∀ t, Steps p.tables e below (T6.setTop (mkF m 24 #[.val (.ref a), .val (.ref r)] [(.int (1 : Int32))])) t → Steps p.tables e below (s₁.setTop (entryFrame m #[(.ref a), (.ref r)] 2)) t := by
      intro t k
      refine R7 t ?_
      show Steps p.tables e below (T6.setTop (mkF m 16 #[.val (.ref a), .val (.ref r)] [(.int idv), (.int (u0 &&& (255 : Int32)))])) _
      refine XS.icmpNo X6.here hx rfl (hb hby d1_16) rfl (teq hc8).2 ?_
      show Steps p.tables e below (T6.setTop (mkF m 19 #[.val (.ref a), .val (.ref r)] [])) _
      refine XS.iconst X6.here hx rfl (hb hby d1_19) ?_
      show Steps p.tables e below (T6.setTop (mkF m 20 #[.val (.ref a), .val (.ref r)] [(.int (1 : Int32))])) _
      refine XS.goto X6.here hx rfl (pc0 := 20) (pc' := 24) rfl (hb hby d1_20) (by decide) (by decide) ?_
      exact k
    obtain ⟨fs, hr, hrun, hended, hW, hsame⟩ := X6.leave (v := some (.int (1 : Int32))) (fun h => by rw [Bd.returns] at h; cases h)
    refine ⟨_, _, R9 _ ?_, hrun, hended, _, _, rfl, ?_, ⟨_, rfl⟩, hW, hsame.mono (by decide) (by decide)⟩
    · exact retN X6 hx (t := .boolean) Bd.returns (by simp) (hb hby d1_24) hr
    · show Q1n3 Z a r kc idv u0 u1 u2 h0 n0 _ T6.heap _
      rw [e6]
      exact ⟨(by rw [if_pos hc8]), N0, rfl⟩
  ·
    skip
    have R10 : ∀ t, Steps p.tables e below (T6.setTop (mkF m 24 #[.val (.ref a), .val (.ref r)] [(.int (0 : Int32))])) t → Steps p.tables e below (s₁.setTop (entryFrame m #[(.ref a), (.ref r)] 2)) t := by
      intro t k
      refine R7 t ?_
      show Steps p.tables e below (T6.setTop (mkF m 16 #[.val (.ref a), .val (.ref r)] [(.int idv), (.int (u0 &&& (255 : Int32)))])) _
      refine XS.icmpYes X6.here hx rfl (pc0 := 16) (pc' := 23) rfl (hb hby d1_16) rfl (feq hc8).2 (by decide) (by decide) ?_
      show Steps p.tables e below (T6.setTop (mkF m 23 #[.val (.ref a), .val (.ref r)] [])) _
      refine XS.iconst X6.here hx rfl (hb hby d1_23) ?_
      exact k
    obtain ⟨fs, hr, hrun, hended, hW, hsame⟩ := X6.leave (v := some (.int (0 : Int32))) (fun h => by rw [Bd.returns] at h; cases h)
    refine ⟨_, _, R10 _ ?_, hrun, hended, _, _, rfl, ?_, ⟨_, rfl⟩, hW, hsame.mono (by decide) (by decide)⟩
    · exact retN X6 hx (t := .boolean) Bd.returns (by simp) (hb hby d1_24) hr
    · show Q1n3 Z a r kc idv u0 u1 u2 h0 n0 _ T6.heap _
      rw [e6]
      exact ⟨(by rw [if_neg hc8]), N0, rfl⟩
theorem ef0 (m : MethodId) (x0 : Int32) (x1 : Int32) (x2 : Int32) (x3 : Int32) (x4 : Int32) : entryFrame m #[(.int x0), (.int x1), (.int x2), (.int x3), (.int x4)] maxLocals = mkF m 0 #[.val (.int x0), .val (.int x1), .val (.int x2), .val (.int x3), .val (.int x4), .unset, .unset, .unset, .unset, .unset, .unset] [] := by first | (simp [entryFrame, mkF, argsToLocals, Value.category, maxLocals]; done) | rfl
theorem pn_1 : plainName "com/example/tapline/reader/KernelIsRequestedByPinLaw" = true := by first | (simp [plainName, overriddenIn]; done) | decide +kernel
theorem pd_0 : parseMethodDescriptor "([B)Z" = some ⟨[(.array .byte)], some .boolean⟩ := by decide +kernel
def Q0 (Z : State) (p0 : Int32) (p1 : Int32) (p2 : Int32) (p3 : Int32) (p4 : Int32) (ap : Addr) (av : Addr) (h0 : Heap) (n0 : Nat) (v : Option Value) (h : Heap) (L : List Loc) : Prop := v = some (.int (1 : Int32)) ∧ Fr n0 L
set_option maxRecDepth 65536 in
set_option maxHeartbeats 40000000 in
theorem rm0 (l : Launch) (Z : State) (a0 : Array Value) (hw : ∀ d ∈ tables_1, d.before a0 Z = true) (ws : List Jvm.Cond) (p0 : Int32) (p1 : Int32) (p2 : Int32) (p3 : Int32) (p4 : Int32) (ap : Addr) (av : Addr) (h0 : Heap) (n0 : Nat) (Z0 : n0 ≤ h0.size) (Sap : Sta Z h0 "com/example/tapline/reader/Kernel" "PAYPASS" "Lcom/example/tapline/reader/Kernel;" (.ref ap)) (Sav : Sta Z h0 "com/example/tapline/reader/Kernel" "VISA" "Lcom/example/tapline/reader/Kernel;" (.ref av)) (E_ap : Exa Z h0 ap "com/example/tapline/reader/Kernel") (F_identifier_ap : Fld Z h0 ap "com/example/tapline/reader/Kernel" "identifier" "I" (.int (2 : Int32))) (E_av : Exa Z h0 av "com/example/tapline/reader/Kernel") (F_identifier_av : Fld Z h0 av "com/example/tapline/reader/Kernel" "identifier" "I" (.int (3 : Int32))) :
    MetFree l x (head1 (Jvm.Cond.code x code maxLocals ret :: ws) room_1) (fun zza zzU => zza = #[(.int p0), (.int p1), (.int p2), (.int p3), (.int p4)] ∧ Z.Warmed39 zzU.vm ∧ zzU.heap = h0) (fun _ _ _ _ _ => True) (fun _ zzU zzo zzV => ∃ zzv zzL, zzo = .returned zzv ∧ Q0 Z p0 p1 p2 p3 p4 ap av h0 n0 zzv zzV.heap zzL ∧ FrameEnd zzU zzo zzV zzL 16 128) := by
  refine MetFree.of_bodySF (plainFor_of_name pn_1) hisR ?_
  intro p e s m args below meth c s₁ Bd hml0 hP hK
  obtain ⟨rfl, hZ, hh⟩ := hP
  have hx := Bd.exec
  have hby := Bd.bytes
  have hml : c.maxLocals = 11 := hml0
  have hown : s.vm.findClass "com/example/tapline/reader/KernelIsRequestedByPinLaw" = some m.cls := findClass_of_methodNamed Bd.named
  have hnm := (name_of_methodNamed Bd.named Bd.method).1
  have X0 : Stand p l e room_1 s m #[(.int p0), (.int p1), (.int p2), (.int p3), (.int p4)] below meth c s₁ [] 0 0 := Stand.of_body Bd
  have e0 : s₁.heap = h0 := by rw [← hh, Bd.state]; rfl
  have N0 := Fr.nil n0
  have R0 : ∀ t, Steps p.tables e below (s₁.setTop (mkF m 0 #[.val (.int p0), .val (.int p1), .val (.int p2), .val (.int p3), .val (.int p4), .unset, .unset, .unset, .unset, .unset, .unset] [])) t → Steps p.tables e below (s₁.setTop (entryFrame m #[(.int p0), (.int p1), (.int p2), (.int p3), (.int p4)] maxLocals)) t := fun t k => castTop (ef0 m p0 p1 p2 p3 p4) k
  have R1 : ∀ t, Steps p.tables e below (s₁.setTop (mkF m 3 #[.val (.int p0), .val (.int p1), .val (.int p2), .val (.int p3), .val (.int p4), .unset, .unset, .unset, .unset, .unset, .unset] [(.int (p0 &&& (1 : Int32)))])) t → Steps p.tables e below (s₁.setTop (entryFrame m #[(.int p0), (.int p1), (.int p2), (.int p3), (.int p4)] maxLocals)) t := by
    intro t k
    refine R0 t ?_
    show Steps p.tables e below (s₁.setTop (mkF m 0 #[.val (.int p0), .val (.int p1), .val (.int p2), .val (.int p3), .val (.int p4), .unset, .unset, .unset, .unset, .unset, .unset] [])) _
    refine XS.iloadN X0.here hx rfl (hb hby at_0) rfl ?_
    show Steps p.tables e below (s₁.setTop (mkF m 1 #[.val (.int p0), .val (.int p1), .val (.int p2), .val (.int p3), .val (.int p4), .unset, .unset, .unset, .unset, .unset, .unset] [(.int p0)])) _
    refine XS.iconst X0.here hx rfl (hb hby at_1) ?_
    show Steps p.tables e below (s₁.setTop (mkF m 2 #[.val (.int p0), .val (.int p1), .val (.int p2), .val (.int p3), .val (.int p4), .unset, .unset, .unset, .unset, .unset, .unset] [(.int (1 : Int32)), (.int p0)])) _
    refine XS.iand X0.here hx rfl (hb hby at_2) rfl ?_
    exact k
  by_cases hc2 : (p0 &&& (1 : Int32)) = (0 : Int32)
  ·
    skip
    have R3 : ∀ t, Steps p.tables e below (s₁.setTop (mkF m 18 #[.val (.int p0), .val (.int p1), .val (.int p2), .val (.int p3), .val (.int p4), .val (.int (1 : Int32)), .unset, .unset, .unset, .unset, .unset] [])) t → Steps p.tables e below (s₁.setTop (entryFrame m #[(.int p0), (.int p1), (.int p2), (.int p3), (.int p4)] maxLocals)) t := by
      intro t k
      refine R1 t ?_
      show Steps p.tables e below (s₁.setTop (mkF m 3 #[.val (.int p0), .val (.int p1), .val (.int p2), .val (.int p3), .val (.int p4), .unset, .unset, .unset, .unset, .unset, .unset] [(.int (p0 &&& (1 : Int32)))])) _
      refine XS.ifNo X0.here hx rfl (hb hby at_3) rfl ((if0 _ _).trans (teq hc2).2) ?_
      show Steps p.tables e below (s₁.setTop (mkF m 6 #[.val (.int p0), .val (.int p1), .val (.int p2), .val (.int p3), .val (.int p4), .unset, .unset, .unset, .unset, .unset, .unset] [])) _
      refine XS.iconst X0.here hx rfl (hb hby at_6) ?_
      show Steps p.tables e below (s₁.setTop (mkF m 7 #[.val (.int p0), .val (.int p1), .val (.int p2), .val (.int p3), .val (.int p4), .unset, .unset, .unset, .unset, .unset, .unset] [(.int (1 : Int32))])) _
      refine XS.goto X0.here hx rfl (pc0 := 7) (pc' := 11) rfl (hb hby at_7) (by decide) (by decide) ?_
      show Steps p.tables e below (s₁.setTop (mkF m 11 #[.val (.int p0), .val (.int p1), .val (.int p2), .val (.int p3), .val (.int p4), .unset, .unset, .unset, .unset, .unset, .unset] [(.int (1 : Int32))])) _
      refine XS.istore X0.here hx rfl (hb hby at_11) rfl (l' := #[.val (.int p0), .val (.int p1), .val (.int p2), .val (.int p3), .val (.int p4), .val (.int (1 : Int32)), .unset, .unset, .unset, .unset, .unset]) rfl ?_
      show Steps p.tables e below (s₁.setTop (mkF m 13 #[.val (.int p0), .val (.int p1), .val (.int p2), .val (.int p3), .val (.int p4), .val (.int (1 : Int32)), .unset, .unset, .unset, .unset, .unset] [])) _
      refine XS.iload X0.here hx rfl (hb hby at_13) rfl ?_
      show Steps p.tables e below (s₁.setTop (mkF m 15 #[.val (.int p0), .val (.int p1), .val (.int p2), .val (.int p3), .val (.int p4), .val (.int (1 : Int32)), .unset, .unset, .unset, .unset, .unset] [(.int (1 : Int32))])) _
      refine XS.ifNo X0.here hx rfl (hb hby at_15) rfl ((if0 _ _).trans (feq (by decide)).1) ?_
      exact k
    obtain ⟨T4, X4, e4, st4⟩ := getS2 X0 hx hZ hown (host := "") (Or.inl (hw _ (List.mem_of_getElem? (i := 0) rfl))) Via.refl e0 Sap (g := (mkF m 18 #[.val (.int p0), .val (.int p1), .val (.int p2), .val (.int p3), .val (.int p4), .val (.int (1 : Int32)), .unset, .unset, .unset, .unset, .unset] [])) rfl (hb hby at_18)
    have R5 : ∀ t, Steps p.tables e below (T4.setTop (mkF m 36 #[.val (.int p0), .val (.int p1), .val (.int p2), .val (.int p3), .val (.int p4), .val (.int (1 : Int32)), .val (.ref ap), .val (.int (p1 &&& (3 : Int32))), .unset, .unset, .unset] [(.int (p1 &&& (3 : Int32)))])) t → Steps p.tables e below (s₁.setTop (entryFrame m #[(.int p0), (.int p1), (.int p2), (.int p3), (.int p4)] maxLocals)) t := by
      intro t k
      refine R3 t ?_
      show Steps p.tables e below (s₁.setTop (mkF m 18 #[.val (.int p0), .val (.int p1), .val (.int p2), .val (.int p3), .val (.int p4), .val (.int (1 : Int32)), .unset, .unset, .unset, .unset, .unset] [])) _
      refine st4 _ ?_
      show Steps p.tables e below (T4.setTop (mkF m 21 #[.val (.int p0), .val (.int p1), .val (.int p2), .val (.int p3), .val (.int p4), .val (.int (1 : Int32)), .unset, .unset, .unset, .unset, .unset] [(.ref ap)])) _
      refine XS.goto X4.here hx rfl (pc0 := 21) (pc' := 27) rfl (hb hby at_21) (by decide) (by decide) ?_
      show Steps p.tables e below (T4.setTop (mkF m 27 #[.val (.int p0), .val (.int p1), .val (.int p2), .val (.int p3), .val (.int p4), .val (.int (1 : Int32)), .unset, .unset, .unset, .unset, .unset] [(.ref ap)])) _
      refine XS.astore X4.here hx rfl (hb hby at_27) rfl rfl (l' := #[.val (.int p0), .val (.int p1), .val (.int p2), .val (.int p3), .val (.int p4), .val (.int (1 : Int32)), .val (.ref ap), .unset, .unset, .unset, .unset]) rfl ?_
      show Steps p.tables e below (T4.setTop (mkF m 29 #[.val (.int p0), .val (.int p1), .val (.int p2), .val (.int p3), .val (.int p4), .val (.int (1 : Int32)), .val (.ref ap), .unset, .unset, .unset, .unset] [])) _
      refine XS.iloadN X4.here hx rfl (hb hby at_29) rfl ?_
      show Steps p.tables e below (T4.setTop (mkF m 30 #[.val (.int p0), .val (.int p1), .val (.int p2), .val (.int p3), .val (.int p4), .val (.int (1 : Int32)), .val (.ref ap), .unset, .unset, .unset, .unset] [(.int p1)])) _
      refine XS.iconst X4.here hx rfl (hb hby at_30) ?_
      show Steps p.tables e below (T4.setTop (mkF m 31 #[.val (.int p0), .val (.int p1), .val (.int p2), .val (.int p3), .val (.int p4), .val (.int (1 : Int32)), .val (.ref ap), .unset, .unset, .unset, .unset] [(.int (3 : Int32)), (.int p1)])) _
      refine XS.iand X4.here hx rfl (hb hby at_31) rfl ?_
      show Steps p.tables e below (T4.setTop (mkF m 32 #[.val (.int p0), .val (.int p1), .val (.int p2), .val (.int p3), .val (.int p4), .val (.int (1 : Int32)), .val (.ref ap), .unset, .unset, .unset, .unset] [(.int (p1 &&& (3 : Int32)))])) _
      refine XS.istore X4.here hx rfl (hb hby at_32) rfl (l' := #[.val (.int p0), .val (.int p1), .val (.int p2), .val (.int p3), .val (.int p4), .val (.int (1 : Int32)), .val (.ref ap), .val (.int (p1 &&& (3 : Int32))), .unset, .unset, .unset]) rfl ?_
      show Steps p.tables e below (T4.setTop (mkF m 34 #[.val (.int p0), .val (.int p1), .val (.int p2), .val (.int p3), .val (.int p4), .val (.int (1 : Int32)), .val (.ref ap), .val (.int (p1 &&& (3 : Int32))), .unset, .unset, .unset] [])) _
      refine XS.iload X4.here hx rfl (hb hby at_34) rfl ?_
      exact k
    rcases (own_m3 p1) with hv6 | hv6 | hv6 | hv6
    ·
      rw [hv6] at R5
      obtain ⟨T7, h7, k7, X7, e7, E7, A7, st7⟩ := newP X4 hx hZ (hw _ (List.mem_of_getElem? (i := 3) rfl)) e4 (g := (mkF m 36 #[.val (.int p0), .val (.int p1), .val (.int p2), .val (.int p3), .val (.int p4), .val (.int (1 : Int32)), .val (.ref ap), .val (.int (0 : Int32)), .unset, .unset, .unset] [(.int (0 : Int32))])) rfl (hb hby at_36) rfl (by decide) (cap := 0) (by decide) (by decide) (by decide) (by decide)
      obtain ⟨r, g7⟩ : ∃ z, z = h0.size := ⟨_, rfl⟩
      rw [← g7] at A7 st7
      have ge_r : n0 ≤ r := by rw [g7]; exact Z0
      have Sz7 := Nat.le_trans Z0 E7.1
      have ne_ap_r : ap ≠ r := Nat.ne_of_lt (Nat.lt_of_lt_of_le E_ap.lt (Nat.le_of_eq g7.symm))
      have E_ap := E_ap.ext E7
      have F_identifier_ap := F_identifier_ap.ext E7
      have V_r : Arv Z h7 r k7 .byte (0 : Int32) [] (.int (0 : Int32)) := (Arv.new A7 (by decide)).pad (pad_rep [] (.int (0 : Int32)) 0)
      have R8 : ∀ t, Steps p.tables e below (T7.setTop (mkF m 146 #[.val (.int p0), .val (.int p1), .val (.int p2), .val (.int p3), .val (.int p4), .val (.int (1 : Int32)), .val (.ref ap), .val (.int (0 : Int32)), .val (.ref r), .val (.int (1 : Int32)), .unset] [(.ref r), (.ref ap)])) t → Steps p.tables e below (s₁.setTop (entryFrame m #[(.int p0), (.int p1), (.int p2), (.int p3), (.int p4)] maxLocals)) t := by
        intro t k
        refine R5 t ?_
        show Steps p.tables e below (T4.setTop (mkF m 36 #[.val (.int p0), .val (.int p1), .val (.int p2), .val (.int p3), .val (.int p4), .val (.int (1 : Int32)), .val (.ref ap), .val (.int (0 : Int32)), .unset, .unset, .unset] [(.int (0 : Int32))])) _
        refine st7 _ ?_
        show Steps p.tables e below (T7.setTop (mkF m 38 #[.val (.int p0), .val (.int p1), .val (.int p2), .val (.int p3), .val (.int p4), .val (.int (1 : Int32)), .val (.ref ap), .val (.int (0 : Int32)), .unset, .unset, .unset] [(.ref r)])) _
        refine XS.astore X7.here hx rfl (hb hby at_38) rfl rfl (l' := #[.val (.int p0), .val (.int p1), .val (.int p2), .val (.int p3), .val (.int p4), .val (.int (1 : Int32)), .val (.ref ap), .val (.int (0 : Int32)), .val (.ref r), .unset, .unset]) rfl ?_
        show Steps p.tables e below (T7.setTop (mkF m 40 #[.val (.int p0), .val (.int p1), .val (.int p2), .val (.int p3), .val (.int p4), .val (.int (1 : Int32)), .val (.ref ap), .val (.int (0 : Int32)), .val (.ref r), .unset, .unset] [])) _
        refine XS.iload X7.here hx rfl (hb hby at_40) rfl ?_
        show Steps p.tables e below (T7.setTop (mkF m 42 #[.val (.int p0), .val (.int p1), .val (.int p2), .val (.int p3), .val (.int p4), .val (.int (1 : Int32)), .val (.ref ap), .val (.int (0 : Int32)), .val (.ref r), .unset, .unset] [(.int (0 : Int32))])) _
        refine XS.ifYes X7.here hx rfl (pc0 := 42) (pc' := 51) rfl (hb hby at_42) rfl ((if0 _ _).trans (flt (by decide)).2.2.2) (by decide) (by decide) ?_
        show Steps p.tables e below (T7.setTop (mkF m 51 #[.val (.int p0), .val (.int p1), .val (.int p2), .val (.int p3), .val (.int p4), .val (.int (1 : Int32)), .val (.ref ap), .val (.int (0 : Int32)), .val (.ref r), .unset, .unset] [])) _
        refine XS.iload X7.here hx rfl (hb hby at_51) rfl ?_
        show Steps p.tables e below (T7.setTop (mkF m 53 #[.val (.int p0), .val (.int p1), .val (.int p2), .val (.int p3), .val (.int p4), .val (.int (1 : Int32)), .val (.ref ap), .val (.int (0 : Int32)), .val (.ref r), .unset, .unset] [(.int (0 : Int32))])) _
        refine XS.iconst X7.here hx rfl (hb hby at_53) ?_
        show Steps p.tables e below (T7.setTop (mkF m 54 #[.val (.int p0), .val (.int p1), .val (.int p2), .val (.int p3), .val (.int p4), .val (.int (1 : Int32)), .val (.ref ap), .val (.int (0 : Int32)), .val (.ref r), .unset, .unset] [(.int (1 : Int32)), (.int (0 : Int32))])) _
        refine XS.icmpYes X7.here hx rfl (pc0 := 54) (pc' := 63) rfl (hb hby at_54) rfl (flt (by decide)).2.2.2 (by decide) (by decide) ?_
        show Steps p.tables e below (T7.setTop (mkF m 63 #[.val (.int p0), .val (.int p1), .val (.int p2), .val (.int p3), .val (.int p4), .val (.int (1 : Int32)), .val (.ref ap), .val (.int (0 : Int32)), .val (.ref r), .unset, .unset] [])) _
        refine XS.iload X7.here hx rfl (hb hby at_63) rfl ?_
        show Steps p.tables e below (T7.setTop (mkF m 65 #[.val (.int p0), .val (.int p1), .val (.int p2), .val (.int p3), .val (.int p4), .val (.int (1 : Int32)), .val (.ref ap), .val (.int (0 : Int32)), .val (.ref r), .unset, .unset] [(.int (0 : Int32))])) _
        refine XS.iconst X7.here hx rfl (hb hby at_65) ?_
        show Steps p.tables e below (T7.setTop (mkF m 66 #[.val (.int p0), .val (.int p1), .val (.int p2), .val (.int p3), .val (.int p4), .val (.int (1 : Int32)), .val (.ref ap), .val (.int (0 : Int32)), .val (.ref r), .unset, .unset] [(.int (2 : Int32)), (.int (0 : Int32))])) _
        refine XS.icmpYes X7.here hx rfl (pc0 := 66) (pc' := 76) rfl (hb hby at_66) rfl (flt (by decide)).2.2.2 (by decide) (by decide) ?_
        show Steps p.tables e below (T7.setTop (mkF m 76 #[.val (.int p0), .val (.int p1), .val (.int p2), .val (.int p3), .val (.int p4), .val (.int (1 : Int32)), .val (.ref ap), .val (.int (0 : Int32)), .val (.ref r), .unset, .unset] [])) _
        refine XS.iload X7.here hx rfl (hb hby at_76) rfl ?_
        show Steps p.tables e below (T7.setTop (mkF m 78 #[.val (.int p0), .val (.int p1), .val (.int p2), .val (.int p3), .val (.int p4), .val (.int (1 : Int32)), .val (.ref ap), .val (.int (0 : Int32)), .val (.ref r), .unset, .unset] [(.int (0 : Int32))])) _
        refine XS.ifNo X7.here hx rfl (hb hby at_78) rfl ((if0 _ _).trans (teq (by decide)).2) ?_
        show Steps p.tables e below (T7.setTop (mkF m 81 #[.val (.int p0), .val (.int p1), .val (.int p2), .val (.int p3), .val (.int p4), .val (.int (1 : Int32)), .val (.ref ap), .val (.int (0 : Int32)), .val (.ref r), .unset, .unset] [])) _
        refine XS.iconst X7.here hx rfl (hb hby at_81) ?_
        show Steps p.tables e below (T7.setTop (mkF m 82 #[.val (.int p0), .val (.int p1), .val (.int p2), .val (.int p3), .val (.int p4), .val (.int (1 : Int32)), .val (.ref ap), .val (.int (0 : Int32)), .val (.ref r), .unset, .unset] [(.int (1 : Int32))])) _
        refine XS.istore X7.here hx rfl (hb hby at_82) rfl (l' := #[.val (.int p0), .val (.int p1), .val (.int p2), .val (.int p3), .val (.int p4), .val (.int (1 : Int32)), .val (.ref ap), .val (.int (0 : Int32)), .val (.ref r), .val (.int (1 : Int32)), .unset]) rfl ?_
        show Steps p.tables e below (T7.setTop (mkF m 84 #[.val (.int p0), .val (.int p1), .val (.int p2), .val (.int p3), .val (.int p4), .val (.int (1 : Int32)), .val (.ref ap), .val (.int (0 : Int32)), .val (.ref r), .val (.int (1 : Int32)), .unset] [])) _
        refine XS.goto X7.here hx rfl (pc0 := 84) (pc' := 142) rfl (hb hby at_84) (by decide) (by decide) ?_
        show Steps p.tables e below (T7.setTop (mkF m 142 #[.val (.int p0), .val (.int p1), .val (.int p2), .val (.int p3), .val (.int p4), .val (.int (1 : Int32)), .val (.ref ap), .val (.int (0 : Int32)), .val (.ref r), .val (.int (1 : Int32)), .unset] [])) _
        refine XS.aload X7.here hx rfl (hb hby at_142) rfl rfl ?_
        show Steps p.tables e below (T7.setTop (mkF m 144 #[.val (.int p0), .val (.int p1), .val (.int p2), .val (.int p3), .val (.int p4), .val (.int (1 : Int32)), .val (.ref ap), .val (.int (0 : Int32)), .val (.ref r), .val (.int (1 : Int32)), .unset] [(.ref ap)])) _
        refine XS.aload X7.here hx rfl (hb hby at_144) rfl rfl ?_
        exact k
      obtain ⟨cq9, kq9, q9a, q9b, q9c⟩ := isOf hZ e7 E_ap
      obtain ⟨_, _, ⟨T9, L9, k9, n9⟩, -, X9, ⟨Lc9, hQ9, l9, y9, z9⟩, st9⟩ := X7.virtualBack hx (y := (⟨"com/example/tapline/reader/Kernel", "isRequestedBy", "([B)Z"⟩ : MethodName)) (z := (⟨"com/example/tapline/reader/Kernel", "isRequestedBy", "([B)Z"⟩ : MethodName)) hown (mvT hZ (hw _ (List.mem_of_getElem? (i := 4) rfl))) (mvT hZ (hw _ (List.mem_of_getElem? (i := 5) rfl))) (notFace_of_selects (args := #[]) (mvT hZ (hw _ (List.mem_of_getElem? (i := 7) rfl)))) (mvT hZ (hw _ (List.mem_of_getElem? (i := 7) rfl))) (mvT hZ (hw _ (List.mem_of_getElem? (i := 6) rfl))) (by decide) (backOf (W := 0) (rm1n0 l Z a0 hw [] ap r k7 (2 : Int32)  h7 n0 Sz7 F_identifier_ap V_r) hZ (hw _ (List.mem_of_getElem? (i := 8) rfl)) (hw _ (List.mem_of_getElem? (i := 1) rfl)) (by decide) (by decide)) q9a q9c (g := (mkF m 146 #[.val (.int p0), .val (.int p1), .val (.int p2), .val (.int p3), .val (.int p4), .val (.int (1 : Int32)), .val (.ref ap), .val (.int (0 : Int32)), .val (.ref r), .val (.int (1 : Int32)), .unset] [(.ref r), (.ref ap)])) rfl (by rw [hml]; rfl) (Steps.refl _) (argsL := [(.ref r)]) (rest := []) (lenOf pd_0 rfl) rfl (by show 2 * 0 + _ ≤ _; exact Nat.le_of_eq rfl) (hb hby at_146) (fun _ _ => ⟨rfl, e7, (by decide : 1 + 0 ≤ _), (by decide : 0 + 0 ≤ _)⟩)
      dsimp only [Pt.U, Pt.locs, Pt.cells, Pt.slots] at X9 l9 y9 z9 st9 hQ9
      subst l9 y9 z9
      obtain ⟨rfl, Nq9, eq9⟩ := hQ9
      have N9 := Fr.app N0 Nq9
      have e9 : T9.heap = h7 := eq9
      have R10 : ∀ t, Steps p.tables e below (T9.setTop (mkF m 151 #[.val (.int p0), .val (.int p1), .val (.int p2), .val (.int p3), .val (.int p4), .val (.int (1 : Int32)), .val (.ref ap), .val (.int (0 : Int32)), .val (.ref r), .val (.int (1 : Int32)), .unset] [(.int (1 : Int32)), (.int (1 : Int32))])) t → Steps p.tables e below (s₁.setTop (entryFrame m #[(.int p0), (.int p1), (.int p2), (.int p3), (.int p4)] maxLocals)) t := by
        intro t k
        refine R8 t ?_
        show Steps p.tables e below (T7.setTop (mkF m 146 #[.val (.int p0), .val (.int p1), .val (.int p2), .val (.int p3), .val (.int p4), .val (.int (1 : Int32)), .val (.ref ap), .val (.int (0 : Int32)), .val (.ref r), .val (.int (1 : Int32)), .unset] [(.ref r), (.ref ap)])) _
        refine st9.trans ?_
        show Steps p.tables e below (T9.setTop (mkF m 149 #[.val (.int p0), .val (.int p1), .val (.int p2), .val (.int p3), .val (.int p4), .val (.int (1 : Int32)), .val (.ref ap), .val (.int (0 : Int32)), .val (.ref r), .val (.int (1 : Int32)), .unset] [(.int (1 : Int32))])) _
        refine XS.iload X9.here hx rfl (hb hby at_149) rfl ?_
        exact k
      have R11 : ∀ t, Steps p.tables e below (T9.setTop (mkF m 159 #[.val (.int p0), .val (.int p1), .val (.int p2), .val (.int p3), .val (.int p4), .val (.int (1 : Int32)), .val (.ref ap), .val (.int (0 : Int32)), .val (.ref r), .val (.int (1 : Int32)), .unset] [(.int (1 : Int32))])) t → Steps p.tables e below (s₁.setTop (entryFrame m #[(.int p0), (.int p1), (.int p2), (.int p3), (.int p4)] maxLocals)) t := by
        intro t k
        refine R10 t ?_
        show Steps p.tables e below (T9.setTop (mkF m 151 #[.val (.int p0), .val (.int p1), .val (.int p2), .val (.int p3), .val (.int p4), .val (.int (1 : Int32)), .val (.ref ap), .val (.int (0 : Int32)), .val (.ref r), .val (.int (1 : Int32)), .unset] [(.int (1 : Int32)), (.int (1 : Int32))])) _
        refine XS.icmpNo X9.here hx rfl (hb hby at_151) rfl (teq (rfl : (1 : Int32) = 1)).2 ?_
        show Steps p.tables e below (T9.setTop (mkF m 154 #[.val (.int p0), .val (.int p1), .val (.int p2), .val (.int p3), .val (.int p4), .val (.int (1 : Int32)), .val (.ref ap), .val (.int (0 : Int32)), .val (.ref r), .val (.int (1 : Int32)), .unset] [])) _
        refine XS.iconst X9.here hx rfl (hb hby at_154) ?_
        show Steps p.tables e below (T9.setTop (mkF m 155 #[.val (.int p0), .val (.int p1), .val (.int p2), .val (.int p3), .val (.int p4), .val (.int (1 : Int32)), .val (.ref ap), .val (.int (0 : Int32)), .val (.ref r), .val (.int (1 : Int32)), .unset] [(.int (1 : Int32))])) _
        refine XS.goto X9.here hx rfl (pc0 := 155) (pc' := 159) rfl (hb hby at_155) (by decide) (by decide) ?_
        exact k
      obtain ⟨fs, hr, hrun, hended, hW, hsame⟩ := X9.leave (v := some (.int (1 : Int32))) (fun h => by rw [Bd.returns] at h; cases h)
      refine ⟨_, _, R11 _ ?_, hrun, hended, _, _, rfl, ?_, ⟨_, rfl⟩, hW, hsame.mono (by decide) (by decide)⟩
      · exact retN X9 hx (t := .boolean) Bd.returns (by simp) (hb hby at_159) hr
      · show Q0 Z p0 p1 p2 p3 p4 ap av h0 n0 _ T9.heap _
        rw [e9]
        exact ⟨rfl, N9⟩
    ·
      rw [hv6] at R5
      obtain ⟨T12, h12, k12, X12, e12, E12, A12, st12⟩ := newP X4 hx hZ (hw _ (List.mem_of_getElem? (i := 3) rfl)) e4 (g := (mkF m 36 #[.val (.int p0), .val (.int p1), .val (.int p2), .val (.int p3), .val (.int p4), .val (.int (1 : Int32)), .val (.ref ap), .val (.int (1 : Int32)), .unset, .unset, .unset] [(.int (1 : Int32))])) rfl (hb hby at_36) rfl (by decide) (cap := 1) (by decide) (by decide) (by decide) (by decide)
      obtain ⟨r, g12⟩ : ∃ z, z = h0.size := ⟨_, rfl⟩
      rw [← g12] at A12 st12
      have ge_r : n0 ≤ r := by rw [g12]; exact Z0
      have Sz12 := Nat.le_trans Z0 E12.1
      have ne_ap_r : ap ≠ r := Nat.ne_of_lt (Nat.lt_of_lt_of_le E_ap.lt (Nat.le_of_eq g12.symm))
      have E_ap := E_ap.ext E12
      have F_identifier_ap := F_identifier_ap.ext E12
      have V_r : Arv Z h12 r k12 .byte (1 : Int32) [(.int (0 : Int32))] (.int (0 : Int32)) := (Arv.new A12 (by decide)).pad (pad_rep [] (.int (0 : Int32)) 1)
      have R13 : ∀ t, Steps p.tables e below (T12.setTop (mkF m 50 #[.val (.int p0), .val (.int p1), .val (.int p2), .val (.int p3), .val (.int p4), .val (.int (1 : Int32)), .val (.ref ap), .val (.int (1 : Int32)), .val (.ref r), .unset, .unset] [(.int ((p2).toInt8.toInt32)), (.int (0 : Int32)), (.ref r)])) t → Steps p.tables e below (s₁.setTop (entryFrame m #[(.int p0), (.int p1), (.int p2), (.int p3), (.int p4)] maxLocals)) t := by
        intro t k
        refine R5 t ?_
        show Steps p.tables e below (T4.setTop (mkF m 36 #[.val (.int p0), .val (.int p1), .val (.int p2), .val (.int p3), .val (.int p4), .val (.int (1 : Int32)), .val (.ref ap), .val (.int (1 : Int32)), .unset, .unset, .unset] [(.int (1 : Int32))])) _
        refine st12 _ ?_
        show Steps p.tables e below (T12.setTop (mkF m 38 #[.val (.int p0), .val (.int p1), .val (.int p2), .val (.int p3), .val (.int p4), .val (.int (1 : Int32)), .val (.ref ap), .val (.int (1 : Int32)), .unset, .unset, .unset] [(.ref r)])) _
        refine XS.astore X12.here hx rfl (hb hby at_38) rfl rfl (l' := #[.val (.int p0), .val (.int p1), .val (.int p2), .val (.int p3), .val (.int p4), .val (.int (1 : Int32)), .val (.ref ap), .val (.int (1 : Int32)), .val (.ref r), .unset, .unset]) rfl ?_
        show Steps p.tables e below (T12.setTop (mkF m 40 #[.val (.int p0), .val (.int p1), .val (.int p2), .val (.int p3), .val (.int p4), .val (.int (1 : Int32)), .val (.ref ap), .val (.int (1 : Int32)), .val (.ref r), .unset, .unset] [])) _
        refine XS.iload X12.here hx rfl (hb hby at_40) rfl ?_
        show Steps p.tables e below (T12.setTop (mkF m 42 #[.val (.int p0), .val (.int p1), .val (.int p2), .val (.int p3), .val (.int p4), .val (.int (1 : Int32)), .val (.ref ap), .val (.int (1 : Int32)), .val (.ref r), .unset, .unset] [(.int (1 : Int32))])) _
        refine XS.ifNo X12.here hx rfl (hb hby at_42) rfl ((if0 _ _).trans (tlt (by decide)).2.2.2) ?_
        show Steps p.tables e below (T12.setTop (mkF m 45 #[.val (.int p0), .val (.int p1), .val (.int p2), .val (.int p3), .val (.int p4), .val (.int (1 : Int32)), .val (.ref ap), .val (.int (1 : Int32)), .val (.ref r), .unset, .unset] [])) _
        refine XS.aload X12.here hx rfl (hb hby at_45) rfl rfl ?_
        show Steps p.tables e below (T12.setTop (mkF m 47 #[.val (.int p0), .val (.int p1), .val (.int p2), .val (.int p3), .val (.int p4), .val (.int (1 : Int32)), .val (.ref ap), .val (.int (1 : Int32)), .val (.ref r), .unset, .unset] [(.ref r)])) _
        refine XS.iconst X12.here hx rfl (hb hby at_47) ?_
        show Steps p.tables e below (T12.setTop (mkF m 48 #[.val (.int p0), .val (.int p1), .val (.int p2), .val (.int p3), .val (.int p4), .val (.int (1 : Int32)), .val (.ref ap), .val (.int (1 : Int32)), .val (.ref r), .unset, .unset] [(.int (0 : Int32)), (.ref r)])) _
        refine XS.iloadN X12.here hx rfl (hb hby at_48) rfl ?_
        show Steps p.tables e below (T12.setTop (mkF m 49 #[.val (.int p0), .val (.int p1), .val (.int p2), .val (.int p3), .val (.int p4), .val (.int (1 : Int32)), .val (.ref ap), .val (.int (1 : Int32)), .val (.ref r), .unset, .unset] [(.int p2), (.int (0 : Int32)), (.ref r)])) _
        refine XS.i2b X12.here hx rfl (hb hby at_49) rfl ?_
        exact k
      obtain ⟨cl14, Ar14, Aq14, As14, An14, Ah14, Ag14⟩ := id V_r
      have hin14 : ¬ ((0 : Int32) < 0 ∨ cl14.slots.size ≤ ((0 : Int32)).toNatClampNeg) := inb_of As14 ⟨by decide, by decide⟩
      obtain ⟨T15, h15, X15, e15, W15, st15⟩ := stB X12 hx hZ e12 Ar14 (j := (0 : Int32)) hin14 (g := (mkF m 50 #[.val (.int p0), .val (.int p1), .val (.int p2), .val (.int p3), .val (.int p4), .val (.int (1 : Int32)), .val (.ref ap), .val (.int (1 : Int32)), .val (.ref r), .unset, .unset] [(.int ((p2).toInt8.toInt32)), (.int (0 : Int32)), (.ref r)])) rfl rfl (hb hby at_50)
      have N15 := Fr.snoc X15 N0 ge_r
      have Sz15 := Nat.le_trans Sz12 (Keep.of_wr W15).1
      have E_ap := E_ap.wr W15
      have F_identifier_ap := F_identifier_ap.other W15 (Or.inl ne_ap_r)
      have V_r : Arv Z h15 r k12 .byte (1 : Int32) [(.int (nar .byte ((p2).toInt8.toInt32)))] (.int (0 : Int32)) := Arv.set Ar14 Aq14 As14 An14 Ah14 Ag14 (fits_nar_byte _) W15 0 rfl (Nat.le_of_ble_eq_true rfl)
      have R16 : ∀ t, Steps p.tables e below (T15.setTop (mkF m 99 #[.val (.int p0), .val (.int p1), .val (.int p2), .val (.int p3), .val (.int p4), .val (.int (1 : Int32)), .val (.ref ap), .val (.int (1 : Int32)), .val (.ref r), .unset, .val (.int (p2 &&& (255 : Int32)))] [(.int (128 : Int32)), (.int (p2 &&& (255 : Int32)))])) t → Steps p.tables e below (s₁.setTop (entryFrame m #[(.int p0), (.int p1), (.int p2), (.int p3), (.int p4)] maxLocals)) t := by
        intro t k
        refine R13 t ?_
        show Steps p.tables e below (T12.setTop (mkF m 50 #[.val (.int p0), .val (.int p1), .val (.int p2), .val (.int p3), .val (.int p4), .val (.int (1 : Int32)), .val (.ref ap), .val (.int (1 : Int32)), .val (.ref r), .unset, .unset] [(.int ((p2).toInt8.toInt32)), (.int (0 : Int32)), (.ref r)])) _
        refine st15 _ ?_
        show Steps p.tables e below (T15.setTop (mkF m 51 #[.val (.int p0), .val (.int p1), .val (.int p2), .val (.int p3), .val (.int p4), .val (.int (1 : Int32)), .val (.ref ap), .val (.int (1 : Int32)), .val (.ref r), .unset, .unset] [])) _
        refine XS.iload X15.here hx rfl (hb hby at_51) rfl ?_
        show Steps p.tables e below (T15.setTop (mkF m 53 #[.val (.int p0), .val (.int p1), .val (.int p2), .val (.int p3), .val (.int p4), .val (.int (1 : Int32)), .val (.ref ap), .val (.int (1 : Int32)), .val (.ref r), .unset, .unset] [(.int (1 : Int32))])) _
        refine XS.iconst X15.here hx rfl (hb hby at_53) ?_
        show Steps p.tables e below (T15.setTop (mkF m 54 #[.val (.int p0), .val (.int p1), .val (.int p2), .val (.int p3), .val (.int p4), .val (.int (1 : Int32)), .val (.ref ap), .val (.int (1 : Int32)), .val (.ref r), .unset, .unset] [(.int (1 : Int32)), (.int (1 : Int32))])) _
        refine XS.icmpYes X15.here hx rfl (pc0 := 54) (pc' := 63) rfl (hb hby at_54) rfl (flt (by decide)).2.2.2 (by decide) (by decide) ?_
        show Steps p.tables e below (T15.setTop (mkF m 63 #[.val (.int p0), .val (.int p1), .val (.int p2), .val (.int p3), .val (.int p4), .val (.int (1 : Int32)), .val (.ref ap), .val (.int (1 : Int32)), .val (.ref r), .unset, .unset] [])) _
        refine XS.iload X15.here hx rfl (hb hby at_63) rfl ?_
        show Steps p.tables e below (T15.setTop (mkF m 65 #[.val (.int p0), .val (.int p1), .val (.int p2), .val (.int p3), .val (.int p4), .val (.int (1 : Int32)), .val (.ref ap), .val (.int (1 : Int32)), .val (.ref r), .unset, .unset] [(.int (1 : Int32))])) _
        refine XS.iconst X15.here hx rfl (hb hby at_65) ?_
        show Steps p.tables e below (T15.setTop (mkF m 66 #[.val (.int p0), .val (.int p1), .val (.int p2), .val (.int p3), .val (.int p4), .val (.int (1 : Int32)), .val (.ref ap), .val (.int (1 : Int32)), .val (.ref r), .unset, .unset] [(.int (2 : Int32)), (.int (1 : Int32))])) _
        refine XS.icmpYes X15.here hx rfl (pc0 := 66) (pc' := 76) rfl (hb hby at_66) rfl (flt (by decide)).2.2.2 (by decide) (by decide) ?_
        show Steps p.tables e below (T15.setTop (mkF m 76 #[.val (.int p0), .val (.int p1), .val (.int p2), .val (.int p3), .val (.int p4), .val (.int (1 : Int32)), .val (.ref ap), .val (.int (1 : Int32)), .val (.ref r), .unset, .unset] [])) _
        refine XS.iload X15.here hx rfl (hb hby at_76) rfl ?_
        show Steps p.tables e below (T15.setTop (mkF m 78 #[.val (.int p0), .val (.int p1), .val (.int p2), .val (.int p3), .val (.int p4), .val (.int (1 : Int32)), .val (.ref ap), .val (.int (1 : Int32)), .val (.ref r), .unset, .unset] [(.int (1 : Int32))])) _
        refine XS.ifYes X15.here hx rfl (pc0 := 78) (pc' := 87) rfl (hb hby at_78) rfl ((if0 _ _).trans (feq (by decide)).2) (by decide) (by decide) ?_
        show Steps p.tables e below (T15.setTop (mkF m 87 #[.val (.int p0), .val (.int p1), .val (.int p2), .val (.int p3), .val (.int p4), .val (.int (1 : Int32)), .val (.ref ap), .val (.int (1 : Int32)), .val (.ref r), .unset, .unset] [])) _
        refine XS.iloadN X15.here hx rfl (hb hby at_87) rfl ?_
        show Steps p.tables e below (T15.setTop (mkF m 88 #[.val (.int p0), .val (.int p1), .val (.int p2), .val (.int p3), .val (.int p4), .val (.int (1 : Int32)), .val (.ref ap), .val (.int (1 : Int32)), .val (.ref r), .unset, .unset] [(.int p2)])) _
        refine XS.sipush X15.here hx rfl (hb hby at_88) ?_
        show Steps p.tables e below (T15.setTop (mkF m 91 #[.val (.int p0), .val (.int p1), .val (.int p2), .val (.int p3), .val (.int p4), .val (.int (1 : Int32)), .val (.ref ap), .val (.int (1 : Int32)), .val (.ref r), .unset, .unset] [(.int (255 : Int32)), (.int p2)])) _
        refine XS.iand X15.here hx rfl (hb hby at_91) rfl ?_
        show Steps p.tables e below (T15.setTop (mkF m 92 #[.val (.int p0), .val (.int p1), .val (.int p2), .val (.int p3), .val (.int p4), .val (.int (1 : Int32)), .val (.ref ap), .val (.int (1 : Int32)), .val (.ref r), .unset, .unset] [(.int (p2 &&& (255 : Int32)))])) _
        refine XS.istore X15.here hx rfl (hb hby at_92) rfl (l' := #[.val (.int p0), .val (.int p1), .val (.int p2), .val (.int p3), .val (.int p4), .val (.int (1 : Int32)), .val (.ref ap), .val (.int (1 : Int32)), .val (.ref r), .unset, .val (.int (p2 &&& (255 : Int32)))]) rfl ?_
        show Steps p.tables e below (T15.setTop (mkF m 94 #[.val (.int p0), .val (.int p1), .val (.int p2), .val (.int p3), .val (.int p4), .val (.int (1 : Int32)), .val (.ref ap), .val (.int (1 : Int32)), .val (.ref r), .unset, .val (.int (p2 &&& (255 : Int32)))] [])) _
        refine XS.iload X15.here hx rfl (hb hby at_94) rfl ?_
        show Steps p.tables e below (T15.setTop (mkF m 96 #[.val (.int p0), .val (.int p1), .val (.int p2), .val (.int p3), .val (.int p4), .val (.int (1 : Int32)), .val (.ref ap), .val (.int (1 : Int32)), .val (.ref r), .unset, .val (.int (p2 &&& (255 : Int32)))] [(.int (p2 &&& (255 : Int32)))])) _
        refine XS.sipush X15.here hx rfl (hb hby at_96) ?_
        exact k
      by_cases hc17 : (p2 &&& (255 : Int32)) < (128 : Int32)
      ·
        skip
        have R18 : ∀ t, Steps p.tables e below (T15.setTop (mkF m 116 #[.val (.int p0), .val (.int p1), .val (.int p2), .val (.int p3), .val (.int p4), .val (.int (1 : Int32)), .val (.ref ap), .val (.int (1 : Int32)), .val (.ref r), .unset, .val (.int (p2 &&& (255 : Int32)))] [(.int (2 : Int32)), (.int (p2 &&& (255 : Int32)))])) t → Steps p.tables e below (s₁.setTop (entryFrame m #[(.int p0), (.int p1), (.int p2), (.int p3), (.int p4)] maxLocals)) t := by
          intro t k
          refine R16 t ?_
          show Steps p.tables e below (T15.setTop (mkF m 99 #[.val (.int p0), .val (.int p1), .val (.int p2), .val (.int p3), .val (.int p4), .val (.int (1 : Int32)), .val (.ref ap), .val (.int (1 : Int32)), .val (.ref r), .unset, .val (.int (p2 &&& (255 : Int32)))] [(.int (128 : Int32)), (.int (p2 &&& (255 : Int32)))])) _
          refine XS.icmpYes X15.here hx rfl (pc0 := 99) (pc' := 108) rfl (hb hby at_99) rfl (tlt hc17).1 (by decide) (by decide) ?_
          show Steps p.tables e below (T15.setTop (mkF m 108 #[.val (.int p0), .val (.int p1), .val (.int p2), .val (.int p3), .val (.int p4), .val (.int (1 : Int32)), .val (.ref ap), .val (.int (1 : Int32)), .val (.ref r), .unset, .val (.int (p2 &&& (255 : Int32)))] [])) _
          refine XS.iload X15.here hx rfl (hb hby at_108) rfl ?_
          show Steps p.tables e below (T15.setTop (mkF m 110 #[.val (.int p0), .val (.int p1), .val (.int p2), .val (.int p3), .val (.int p4), .val (.int (1 : Int32)), .val (.ref ap), .val (.int (1 : Int32)), .val (.ref r), .unset, .val (.int (p2 &&& (255 : Int32)))] [(.int (1 : Int32))])) _
          refine XS.ifNo X15.here hx rfl (hb hby at_110) rfl ((if0 _ _).trans (feq (by decide)).1) ?_
          show Steps p.tables e below (T15.setTop (mkF m 113 #[.val (.int p0), .val (.int p1), .val (.int p2), .val (.int p3), .val (.int p4), .val (.int (1 : Int32)), .val (.ref ap), .val (.int (1 : Int32)), .val (.ref r), .unset, .val (.int (p2 &&& (255 : Int32)))] [])) _
          refine XS.iload X15.here hx rfl (hb hby at_113) rfl ?_
          show Steps p.tables e below (T15.setTop (mkF m 115 #[.val (.int p0), .val (.int p1), .val (.int p2), .val (.int p3), .val (.int p4), .val (.int (1 : Int32)), .val (.ref ap), .val (.int (1 : Int32)), .val (.ref r), .unset, .val (.int (p2 &&& (255 : Int32)))] [(.int (p2 &&& (255 : Int32)))])) _
          refine XS.iconst X15.here hx rfl (hb hby at_115) ?_
          exact k
        by_cases hc19 : (p2 &&& (255 : Int32)) = (2 : Int32)
        ·
          skip
          have R20 : ∀ t, Steps p.tables e below (T15.setTop (mkF m 146 #[.val (.int p0), .val (.int p1), .val (.int p2), .val (.int p3), .val (.int p4), .val (.int (1 : Int32)), .val (.ref ap), .val (.int (1 : Int32)), .val (.ref r), .val (.int (1 : Int32)), .val (.int (p2 &&& (255 : Int32)))] [(.ref r), (.ref ap)])) t → Steps p.tables e below (s₁.setTop (entryFrame m #[(.int p0), (.int p1), (.int p2), (.int p3), (.int p4)] maxLocals)) t := by
            intro t k
            refine R18 t ?_
            show Steps p.tables e below (T15.setTop (mkF m 116 #[.val (.int p0), .val (.int p1), .val (.int p2), .val (.int p3), .val (.int p4), .val (.int (1 : Int32)), .val (.ref ap), .val (.int (1 : Int32)), .val (.ref r), .unset, .val (.int (p2 &&& (255 : Int32)))] [(.int (2 : Int32)), (.int (p2 &&& (255 : Int32)))])) _
            refine XS.icmpNo X15.here hx rfl (hb hby at_116) rfl (teq hc19).2 ?_
            show Steps p.tables e below (T15.setTop (mkF m 119 #[.val (.int p0), .val (.int p1), .val (.int p2), .val (.int p3), .val (.int p4), .val (.int (1 : Int32)), .val (.ref ap), .val (.int (1 : Int32)), .val (.ref r), .unset, .val (.int (p2 &&& (255 : Int32)))] [])) _
            refine XS.iconst X15.here hx rfl (hb hby at_119) ?_
            show Steps p.tables e below (T15.setTop (mkF m 120 #[.val (.int p0), .val (.int p1), .val (.int p2), .val (.int p3), .val (.int p4), .val (.int (1 : Int32)), .val (.ref ap), .val (.int (1 : Int32)), .val (.ref r), .unset, .val (.int (p2 &&& (255 : Int32)))] [(.int (1 : Int32))])) _
            refine XS.goto X15.here hx rfl (pc0 := 120) (pc' := 124) rfl (hb hby at_120) (by decide) (by decide) ?_
            show Steps p.tables e below (T15.setTop (mkF m 124 #[.val (.int p0), .val (.int p1), .val (.int p2), .val (.int p3), .val (.int p4), .val (.int (1 : Int32)), .val (.ref ap), .val (.int (1 : Int32)), .val (.ref r), .unset, .val (.int (p2 &&& (255 : Int32)))] [(.int (1 : Int32))])) _
            refine XS.istore X15.here hx rfl (hb hby at_124) rfl (l' := #[.val (.int p0), .val (.int p1), .val (.int p2), .val (.int p3), .val (.int p4), .val (.int (1 : Int32)), .val (.ref ap), .val (.int (1 : Int32)), .val (.ref r), .val (.int (1 : Int32)), .val (.int (p2 &&& (255 : Int32)))]) rfl ?_
            show Steps p.tables e below (T15.setTop (mkF m 126 #[.val (.int p0), .val (.int p1), .val (.int p2), .val (.int p3), .val (.int p4), .val (.int (1 : Int32)), .val (.ref ap), .val (.int (1 : Int32)), .val (.ref r), .val (.int (1 : Int32)), .val (.int (p2 &&& (255 : Int32)))] [])) _
            refine XS.goto X15.here hx rfl (pc0 := 126) (pc' := 142) rfl (hb hby at_126) (by decide) (by decide) ?_
            show Steps p.tables e below (T15.setTop (mkF m 142 #[.val (.int p0), .val (.int p1), .val (.int p2), .val (.int p3), .val (.int p4), .val (.int (1 : Int32)), .val (.ref ap), .val (.int (1 : Int32)), .val (.ref r), .val (.int (1 : Int32)), .val (.int (p2 &&& (255 : Int32)))] [])) _
            refine XS.aload X15.here hx rfl (hb hby at_142) rfl rfl ?_
            show Steps p.tables e below (T15.setTop (mkF m 144 #[.val (.int p0), .val (.int p1), .val (.int p2), .val (.int p3), .val (.int p4), .val (.int (1 : Int32)), .val (.ref ap), .val (.int (1 : Int32)), .val (.ref r), .val (.int (1 : Int32)), .val (.int (p2 &&& (255 : Int32)))] [(.ref ap)])) _
            refine XS.aload X15.here hx rfl (hb hby at_144) rfl rfl ?_
            exact k
          obtain ⟨cq21, kq21, q21a, q21b, q21c⟩ := isOf hZ e15 E_ap
          obtain ⟨_, _, ⟨T21, L21, k21, n21⟩, -, X21, ⟨Lc21, hQ21, l21, y21, z21⟩, st21⟩ := X15.virtualBack hx (y := (⟨"com/example/tapline/reader/Kernel", "isRequestedBy", "([B)Z"⟩ : MethodName)) (z := (⟨"com/example/tapline/reader/Kernel", "isRequestedBy", "([B)Z"⟩ : MethodName)) hown (mvT hZ (hw _ (List.mem_of_getElem? (i := 4) rfl))) (mvT hZ (hw _ (List.mem_of_getElem? (i := 5) rfl))) (notFace_of_selects (args := #[]) (mvT hZ (hw _ (List.mem_of_getElem? (i := 7) rfl)))) (mvT hZ (hw _ (List.mem_of_getElem? (i := 7) rfl))) (mvT hZ (hw _ (List.mem_of_getElem? (i := 6) rfl))) (by decide) (backOf (W := 0) (rm1n1 l Z a0 hw [] ap r k12 (2 : Int32) (nar .byte ((p2).toInt8.toInt32)) h15 n0 Sz15 F_identifier_ap V_r) hZ (hw _ (List.mem_of_getElem? (i := 8) rfl)) (hw _ (List.mem_of_getElem? (i := 1) rfl)) (by decide) (by decide)) q21a q21c (g := (mkF m 146 #[.val (.int p0), .val (.int p1), .val (.int p2), .val (.int p3), .val (.int p4), .val (.int (1 : Int32)), .val (.ref ap), .val (.int (1 : Int32)), .val (.ref r), .val (.int (1 : Int32)), .val (.int (p2 &&& (255 : Int32)))] [(.ref r), (.ref ap)])) rfl (by rw [hml]; rfl) (Steps.refl _) (argsL := [(.ref r)]) (rest := []) (lenOf pd_0 rfl) rfl (by show 2 * 0 + _ ≤ _; exact Nat.le_of_eq rfl) (hb hby at_146) (fun _ _ => ⟨rfl, e15, (by decide : 1 + 0 ≤ _), (by decide : 1 + 0 ≤ _)⟩)
          dsimp only [Pt.U, Pt.locs, Pt.cells, Pt.slots] at X21 l21 y21 z21 st21 hQ21
          subst l21 y21 z21
          obtain ⟨rfl, Nq21, eq21⟩ := hQ21
          have N21 := Fr.app N15 Nq21
          have e21 : T21.heap = h15 := eq21
          have R22 : ∀ t, Steps p.tables e below (T21.setTop (mkF m 151 #[.val (.int p0), .val (.int p1), .val (.int p2), .val (.int p3), .val (.int p4), .val (.int (1 : Int32)), .val (.ref ap), .val (.int (1 : Int32)), .val (.ref r), .val (.int (1 : Int32)), .val (.int (p2 &&& (255 : Int32)))] [(.int (1 : Int32)), (.int (if ((nar .byte ((p2).toInt8.toInt32)) &&& (255 : Int32)) = (2 : Int32) then (1 : Int32) else (0 : Int32)))])) t → Steps p.tables e below (s₁.setTop (entryFrame m #[(.int p0), (.int p1), (.int p2), (.int p3), (.int p4)] maxLocals)) t := by
            intro t k
            refine R20 t ?_
            show Steps p.tables e below (T15.setTop (mkF m 146 #[.val (.int p0), .val (.int p1), .val (.int p2), .val (.int p3), .val (.int p4), .val (.int (1 : Int32)), .val (.ref ap), .val (.int (1 : Int32)), .val (.ref r), .val (.int (1 : Int32)), .val (.int (p2 &&& (255 : Int32)))] [(.ref r), (.ref ap)])) _
            refine st21.trans ?_
            show Steps p.tables e below (T21.setTop (mkF m 149 #[.val (.int p0), .val (.int p1), .val (.int p2), .val (.int p3), .val (.int p4), .val (.int (1 : Int32)), .val (.ref ap), .val (.int (1 : Int32)), .val (.ref r), .val (.int (1 : Int32)), .val (.int (p2 &&& (255 : Int32)))] [(.int (if ((nar .byte ((p2).toInt8.toInt32)) &&& (255 : Int32)) = (2 : Int32) then (1 : Int32) else (0 : Int32)))])) _
            refine XS.iload X21.here hx rfl (hb hby at_149) rfl ?_
            exact k
          rw [own_b0] at R22
          have R23 : ∀ t, Steps p.tables e below (T21.setTop (mkF m 159 #[.val (.int p0), .val (.int p1), .val (.int p2), .val (.int p3), .val (.int p4), .val (.int (1 : Int32)), .val (.ref ap), .val (.int (1 : Int32)), .val (.ref r), .val (.int (1 : Int32)), .val (.int (p2 &&& (255 : Int32)))] [(.int (1 : Int32))])) t → Steps p.tables e below (s₁.setTop (entryFrame m #[(.int p0), (.int p1), (.int p2), (.int p3), (.int p4)] maxLocals)) t := by
            intro t k
            refine R22 t ?_
            show Steps p.tables e below (T21.setTop (mkF m 151 #[.val (.int p0), .val (.int p1), .val (.int p2), .val (.int p3), .val (.int p4), .val (.int (1 : Int32)), .val (.ref ap), .val (.int (1 : Int32)), .val (.ref r), .val (.int (1 : Int32)), .val (.int (p2 &&& (255 : Int32)))] [(.int (1 : Int32)), (.int (if (p2 &&& (255 : Int32)) = (2 : Int32) then (1 : Int32) else (0 : Int32)))])) _
            refine XS.icmpNo X21.here hx rfl (hb hby at_151) rfl (teq (if_pos hc19)).2 ?_
            show Steps p.tables e below (T21.setTop (mkF m 154 #[.val (.int p0), .val (.int p1), .val (.int p2), .val (.int p3), .val (.int p4), .val (.int (1 : Int32)), .val (.ref ap), .val (.int (1 : Int32)), .val (.ref r), .val (.int (1 : Int32)), .val (.int (p2 &&& (255 : Int32)))] [])) _
            refine XS.iconst X21.here hx rfl (hb hby at_154) ?_
            show Steps p.tables e below (T21.setTop (mkF m 155 #[.val (.int p0), .val (.int p1), .val (.int p2), .val (.int p3), .val (.int p4), .val (.int (1 : Int32)), .val (.ref ap), .val (.int (1 : Int32)), .val (.ref r), .val (.int (1 : Int32)), .val (.int (p2 &&& (255 : Int32)))] [(.int (1 : Int32))])) _
            refine XS.goto X21.here hx rfl (pc0 := 155) (pc' := 159) rfl (hb hby at_155) (by decide) (by decide) ?_
            exact k
          obtain ⟨fs, hr, hrun, hended, hW, hsame⟩ := X21.leave (v := some (.int (1 : Int32))) (fun h => by rw [Bd.returns] at h; cases h)
          refine ⟨_, _, R23 _ ?_, hrun, hended, _, _, rfl, ?_, ⟨_, rfl⟩, hW, hsame.mono (by decide) (by decide)⟩
          · exact retN X21 hx (t := .boolean) Bd.returns (by simp) (hb hby at_159) hr
          · show Q0 Z p0 p1 p2 p3 p4 ap av h0 n0 _ T21.heap _
            rw [e21]
            exact ⟨rfl, N21⟩
        ·
          skip
          have R24 : ∀ t, Steps p.tables e below (T15.setTop (mkF m 146 #[.val (.int p0), .val (.int p1), .val (.int p2), .val (.int p3), .val (.int p4), .val (.int (1 : Int32)), .val (.ref ap), .val (.int (1 : Int32)), .val (.ref r), .val (.int (0 : Int32)), .val (.int (p2 &&& (255 : Int32)))] [(.ref r), (.ref ap)])) t → Steps p.tables e below (s₁.setTop (entryFrame m #[(.int p0), (.int p1), (.int p2), (.int p3), (.int p4)] maxLocals)) t := by
            intro t k
            refine R18 t ?_
            show Steps p.tables e below (T15.setTop (mkF m 116 #[.val (.int p0), .val (.int p1), .val (.int p2), .val (.int p3), .val (.int p4), .val (.int (1 : Int32)), .val (.ref ap), .val (.int (1 : Int32)), .val (.ref r), .unset, .val (.int (p2 &&& (255 : Int32)))] [(.int (2 : Int32)), (.int (p2 &&& (255 : Int32)))])) _
            refine XS.icmpYes X15.here hx rfl (pc0 := 116) (pc' := 123) rfl (hb hby at_116) rfl (feq hc19).2 (by decide) (by decide) ?_
            show Steps p.tables e below (T15.setTop (mkF m 123 #[.val (.int p0), .val (.int p1), .val (.int p2), .val (.int p3), .val (.int p4), .val (.int (1 : Int32)), .val (.ref ap), .val (.int (1 : Int32)), .val (.ref r), .unset, .val (.int (p2 &&& (255 : Int32)))] [])) _
            refine XS.iconst X15.here hx rfl (hb hby at_123) ?_
            show Steps p.tables e below (T15.setTop (mkF m 124 #[.val (.int p0), .val (.int p1), .val (.int p2), .val (.int p3), .val (.int p4), .val (.int (1 : Int32)), .val (.ref ap), .val (.int (1 : Int32)), .val (.ref r), .unset, .val (.int (p2 &&& (255 : Int32)))] [(.int (0 : Int32))])) _
            refine XS.istore X15.here hx rfl (hb hby at_124) rfl (l' := #[.val (.int p0), .val (.int p1), .val (.int p2), .val (.int p3), .val (.int p4), .val (.int (1 : Int32)), .val (.ref ap), .val (.int (1 : Int32)), .val (.ref r), .val (.int (0 : Int32)), .val (.int (p2 &&& (255 : Int32)))]) rfl ?_
            show Steps p.tables e below (T15.setTop (mkF m 126 #[.val (.int p0), .val (.int p1), .val (.int p2), .val (.int p3), .val (.int p4), .val (.int (1 : Int32)), .val (.ref ap), .val (.int (1 : Int32)), .val (.ref r), .val (.int (0 : Int32)), .val (.int (p2 &&& (255 : Int32)))] [])) _
            refine XS.goto X15.here hx rfl (pc0 := 126) (pc' := 142) rfl (hb hby at_126) (by decide) (by decide) ?_
            show Steps p.tables e below (T15.setTop (mkF m 142 #[.val (.int p0), .val (.int p1), .val (.int p2), .val (.int p3), .val (.int p4), .val (.int (1 : Int32)), .val (.ref ap), .val (.int (1 : Int32)), .val (.ref r), .val (.int (0 : Int32)), .val (.int (p2 &&& (255 : Int32)))] [])) _
            refine XS.aload X15.here hx rfl (hb hby at_142) rfl rfl ?_
            show Steps p.tables e below (T15.setTop (mkF m 144 #[.val (.int p0), .val (.int p1), .val (.int p2), .val (.int p3), .val (.int p4), .val (.int (1 : Int32)), .val (.ref ap), .val (.int (1 : Int32)), .val (.ref r), .val (.int (0 : Int32)), .val (.int (p2 &&& (255 : Int32)))] [(.ref ap)])) _
            refine XS.aload X15.here hx rfl (hb hby at_144) rfl rfl ?_
            exact k
          obtain ⟨cq25, kq25, q25a, q25b, q25c⟩ := isOf hZ e15 E_ap
          obtain ⟨_, _, ⟨T25, L25, k25, n25⟩, -, X25, ⟨Lc25, hQ25, l25, y25, z25⟩, st25⟩ := X15.virtualBack hx (y := (⟨"com/example/tapline/reader/Kernel", "isRequestedBy", "([B)Z"⟩ : MethodName)) (z := (⟨"com/example/tapline/reader/Kernel", "isRequestedBy", "([B)Z"⟩ : MethodName)) hown (mvT hZ (hw _ (List.mem_of_getElem? (i := 4) rfl))) (mvT hZ (hw _ (List.mem_of_getElem? (i := 5) rfl))) (notFace_of_selects (args := #[]) (mvT hZ (hw _ (List.mem_of_getElem? (i := 7) rfl)))) (mvT hZ (hw _ (List.mem_of_getElem? (i := 7) rfl))) (mvT hZ (hw _ (List.mem_of_getElem? (i := 6) rfl))) (by decide) (backOf (W := 0) (rm1n1 l Z a0 hw [] ap r k12 (2 : Int32) (nar .byte ((p2).toInt8.toInt32)) h15 n0 Sz15 F_identifier_ap V_r) hZ (hw _ (List.mem_of_getElem? (i := 8) rfl)) (hw _ (List.mem_of_getElem? (i := 1) rfl)) (by decide) (by decide)) q25a q25c (g := (mkF m 146 #[.val (.int p0), .val (.int p1), .val (.int p2), .val (.int p3), .val (.int p4), .val (.int (1 : Int32)), .val (.ref ap), .val (.int (1 : Int32)), .val (.ref r), .val (.int (0 : Int32)), .val (.int (p2 &&& (255 : Int32)))] [(.ref r), (.ref ap)])) rfl (by rw [hml]; rfl) (Steps.refl _) (argsL := [(.ref r)]) (rest := []) (lenOf pd_0 rfl) rfl (by show 2 * 0 + _ ≤ _; exact Nat.le_of_eq rfl) (hb hby at_146) (fun _ _ => ⟨rfl, e15, (by decide : 1 + 0 ≤ _), (by decide : 1 + 0 ≤ _)⟩)
          dsimp only [Pt.U, Pt.locs, Pt.cells, Pt.slots] at X25 l25 y25 z25 st25 hQ25
          subst l25 y25 z25
          obtain ⟨rfl, Nq25, eq25⟩ := hQ25
          have N25 := Fr.app N15 Nq25
          have e25 : T25.heap = h15 := eq25
          have R26 : ∀ t, Steps p.tables e below (T25.setTop (mkF m 151 #[.val (.int p0), .val (.int p1), .val (.int p2), .val (.int p3), .val (.int p4), .val (.int (1 : Int32)), .val (.ref ap), .val (.int (1 : Int32)), .val (.ref r), .val (.int (0 : Int32)), .val (.int (p2 &&& (255 : Int32)))] [(.int (0 : Int32)), (.int (if ((nar .byte ((p2).toInt8.toInt32)) &&& (255 : Int32)) = (2 : Int32) then (1 : Int32) else (0 : Int32)))])) t → Steps p.tables e below (s₁.setTop (entryFrame m #[(.int p0), (.int p1), (.int p2), (.int p3), (.int p4)] maxLocals)) t := by
            intro t k
            refine R24 t ?_
            show Steps p.tables e below (T15.setTop (mkF m 146 #[.val (.int p0), .val (.int p1), .val (.int p2), .val (.int p3), .val (.int p4), .val (.int (1 : Int32)), .val (.ref ap), .val (.int (1 : Int32)), .val (.ref r), .val (.int (0 : Int32)), .val (.int (p2 &&& (255 : Int32)))] [(.ref r), (.ref ap)])) _
            refine st25.trans ?_
            show Steps p.tables e below (T25.setTop (mkF m 149 #[.val (.int p0), .val (.int p1), .val (.int p2), .val (.int p3), .val (.int p4), .val (.int (1 : Int32)), .val (.ref ap), .val (.int (1 : Int32)), .val (.ref r), .val (.int (0 : Int32)), .val (.int (p2 &&& (255 : Int32)))] [(.int (if ((nar .byte ((p2).toInt8.toInt32)) &&& (255 : Int32)) = (2 : Int32) then (1 : Int32) else (0 : Int32)))])) _
            refine XS.iload X25.here hx rfl (hb hby at_149) rfl ?_
            exact k
          rw [own_b0] at R26
          have R27 : ∀ t, Steps p.tables e below (T25.setTop (mkF m 159 #[.val (.int p0), .val (.int p1), .val (.int p2), .val (.int p3), .val (.int p4), .val (.int (1 : Int32)), .val (.ref ap), .val (.int (1 : Int32)), .val (.ref r), .val (.int (0 : Int32)), .val (.int (p2 &&& (255 : Int32)))] [(.int (1 : Int32))])) t → Steps p.tables e below (s₁.setTop (entryFrame m #[(.int p0), (.int p1), (.int p2), (.int p3), (.int p4)] maxLocals)) t := by
            intro t k
            refine R26 t ?_
            show Steps p.tables e below (T25.setTop (mkF m 151 #[.val (.int p0), .val (.int p1), .val (.int p2), .val (.int p3), .val (.int p4), .val (.int (1 : Int32)), .val (.ref ap), .val (.int (1 : Int32)), .val (.ref r), .val (.int (0 : Int32)), .val (.int (p2 &&& (255 : Int32)))] [(.int (0 : Int32)), (.int (if (p2 &&& (255 : Int32)) = (2 : Int32) then (1 : Int32) else (0 : Int32)))])) _
            refine XS.icmpNo X25.here hx rfl (hb hby at_151) rfl (teq (if_neg hc19)).2 ?_
            show Steps p.tables e below (T25.setTop (mkF m 154 #[.val (.int p0), .val (.int p1), .val (.int p2), .val (.int p3), .val (.int p4), .val (.int (1 : Int32)), .val (.ref ap), .val (.int (1 : Int32)), .val (.ref r), .val (.int (0 : Int32)), .val (.int (p2 &&& (255 : Int32)))] [])) _
            refine XS.iconst X25.here hx rfl (hb hby at_154) ?_
            show Steps p.tables e below (T25.setTop (mkF m 155 #[.val (.int p0), .val (.int p1), .val (.int p2), .val (.int p3), .val (.int p4), .val (.int (1 : Int32)), .val (.ref ap), .val (.int (1 : Int32)), .val (.ref r), .val (.int (0 : Int32)), .val (.int (p2 &&& (255 : Int32)))] [(.int (1 : Int32))])) _
            refine XS.goto X25.here hx rfl (pc0 := 155) (pc' := 159) rfl (hb hby at_155) (by decide) (by decide) ?_
            exact k
          obtain ⟨fs, hr, hrun, hended, hW, hsame⟩ := X25.leave (v := some (.int (1 : Int32))) (fun h => by rw [Bd.returns] at h; cases h)
          refine ⟨_, _, R27 _ ?_, hrun, hended, _, _, rfl, ?_, ⟨_, rfl⟩, hW, hsame.mono (by decide) (by decide)⟩
          · exact retN X25 hx (t := .boolean) Bd.returns (by simp) (hb hby at_159) hr
          · show Q0 Z p0 p1 p2 p3 p4 ap av h0 n0 _ T25.heap _
            rw [e25]
            exact ⟨rfl, N25⟩
      ·
        skip
        have R28 : ∀ t, Steps p.tables e below (T15.setTop (mkF m 146 #[.val (.int p0), .val (.int p1), .val (.int p2), .val (.int p3), .val (.int p4), .val (.int (1 : Int32)), .val (.ref ap), .val (.int (1 : Int32)), .val (.ref r), .val (.int (0 : Int32)), .val (.int (p2 &&& (255 : Int32)))] [(.ref r), (.ref ap)])) t → Steps p.tables e below (s₁.setTop (entryFrame m #[(.int p0), (.int p1), (.int p2), (.int p3), (.int p4)] maxLocals)) t := by
          intro t k
          refine R16 t ?_
          show Steps p.tables e below (T15.setTop (mkF m 99 #[.val (.int p0), .val (.int p1), .val (.int p2), .val (.int p3), .val (.int p4), .val (.int (1 : Int32)), .val (.ref ap), .val (.int (1 : Int32)), .val (.ref r), .unset, .val (.int (p2 &&& (255 : Int32)))] [(.int (128 : Int32)), (.int (p2 &&& (255 : Int32)))])) _
          refine XS.icmpNo X15.here hx rfl (hb hby at_99) rfl (flt hc17).1 ?_
          show Steps p.tables e below (T15.setTop (mkF m 102 #[.val (.int p0), .val (.int p1), .val (.int p2), .val (.int p3), .val (.int p4), .val (.int (1 : Int32)), .val (.ref ap), .val (.int (1 : Int32)), .val (.ref r), .unset, .val (.int (p2 &&& (255 : Int32)))] [])) _
          refine XS.iconst X15.here hx rfl (hb hby at_102) ?_
          show Steps p.tables e below (T15.setTop (mkF m 103 #[.val (.int p0), .val (.int p1), .val (.int p2), .val (.int p3), .val (.int p4), .val (.int (1 : Int32)), .val (.ref ap), .val (.int (1 : Int32)), .val (.ref r), .unset, .val (.int (p2 &&& (255 : Int32)))] [(.int (0 : Int32))])) _
          refine XS.istore X15.here hx rfl (hb hby at_103) rfl (l' := #[.val (.int p0), .val (.int p1), .val (.int p2), .val (.int p3), .val (.int p4), .val (.int (1 : Int32)), .val (.ref ap), .val (.int (1 : Int32)), .val (.ref r), .val (.int (0 : Int32)), .val (.int (p2 &&& (255 : Int32)))]) rfl ?_
          show Steps p.tables e below (T15.setTop (mkF m 105 #[.val (.int p0), .val (.int p1), .val (.int p2), .val (.int p3), .val (.int p4), .val (.int (1 : Int32)), .val (.ref ap), .val (.int (1 : Int32)), .val (.ref r), .val (.int (0 : Int32)), .val (.int (p2 &&& (255 : Int32)))] [])) _
          refine XS.goto X15.here hx rfl (pc0 := 105) (pc' := 142) rfl (hb hby at_105) (by decide) (by decide) ?_
          show Steps p.tables e below (T15.setTop (mkF m 142 #[.val (.int p0), .val (.int p1), .val (.int p2), .val (.int p3), .val (.int p4), .val (.int (1 : Int32)), .val (.ref ap), .val (.int (1 : Int32)), .val (.ref r), .val (.int (0 : Int32)), .val (.int (p2 &&& (255 : Int32)))] [])) _
          refine XS.aload X15.here hx rfl (hb hby at_142) rfl rfl ?_
          show Steps p.tables e below (T15.setTop (mkF m 144 #[.val (.int p0), .val (.int p1), .val (.int p2), .val (.int p3), .val (.int p4), .val (.int (1 : Int32)), .val (.ref ap), .val (.int (1 : Int32)), .val (.ref r), .val (.int (0 : Int32)), .val (.int (p2 &&& (255 : Int32)))] [(.ref ap)])) _
          refine XS.aload X15.here hx rfl (hb hby at_144) rfl rfl ?_
          exact k
        obtain ⟨cq29, kq29, q29a, q29b, q29c⟩ := isOf hZ e15 E_ap
        obtain ⟨_, _, ⟨T29, L29, k29, n29⟩, -, X29, ⟨Lc29, hQ29, l29, y29, z29⟩, st29⟩ := X15.virtualBack hx (y := (⟨"com/example/tapline/reader/Kernel", "isRequestedBy", "([B)Z"⟩ : MethodName)) (z := (⟨"com/example/tapline/reader/Kernel", "isRequestedBy", "([B)Z"⟩ : MethodName)) hown (mvT hZ (hw _ (List.mem_of_getElem? (i := 4) rfl))) (mvT hZ (hw _ (List.mem_of_getElem? (i := 5) rfl))) (notFace_of_selects (args := #[]) (mvT hZ (hw _ (List.mem_of_getElem? (i := 7) rfl)))) (mvT hZ (hw _ (List.mem_of_getElem? (i := 7) rfl))) (mvT hZ (hw _ (List.mem_of_getElem? (i := 6) rfl))) (by decide) (backOf (W := 0) (rm1n1 l Z a0 hw [] ap r k12 (2 : Int32) (nar .byte ((p2).toInt8.toInt32)) h15 n0 Sz15 F_identifier_ap V_r) hZ (hw _ (List.mem_of_getElem? (i := 8) rfl)) (hw _ (List.mem_of_getElem? (i := 1) rfl)) (by decide) (by decide)) q29a q29c (g := (mkF m 146 #[.val (.int p0), .val (.int p1), .val (.int p2), .val (.int p3), .val (.int p4), .val (.int (1 : Int32)), .val (.ref ap), .val (.int (1 : Int32)), .val (.ref r), .val (.int (0 : Int32)), .val (.int (p2 &&& (255 : Int32)))] [(.ref r), (.ref ap)])) rfl (by rw [hml]; rfl) (Steps.refl _) (argsL := [(.ref r)]) (rest := []) (lenOf pd_0 rfl) rfl (by show 2 * 0 + _ ≤ _; exact Nat.le_of_eq rfl) (hb hby at_146) (fun _ _ => ⟨rfl, e15, (by decide : 1 + 0 ≤ _), (by decide : 1 + 0 ≤ _)⟩)
        dsimp only [Pt.U, Pt.locs, Pt.cells, Pt.slots] at X29 l29 y29 z29 st29 hQ29
        subst l29 y29 z29
        obtain ⟨rfl, Nq29, eq29⟩ := hQ29
        have N29 := Fr.app N15 Nq29
        have e29 : T29.heap = h15 := eq29
        have R30 : ∀ t, Steps p.tables e below (T29.setTop (mkF m 151 #[.val (.int p0), .val (.int p1), .val (.int p2), .val (.int p3), .val (.int p4), .val (.int (1 : Int32)), .val (.ref ap), .val (.int (1 : Int32)), .val (.ref r), .val (.int (0 : Int32)), .val (.int (p2 &&& (255 : Int32)))] [(.int (0 : Int32)), (.int (if ((nar .byte ((p2).toInt8.toInt32)) &&& (255 : Int32)) = (2 : Int32) then (1 : Int32) else (0 : Int32)))])) t → Steps p.tables e below (s₁.setTop (entryFrame m #[(.int p0), (.int p1), (.int p2), (.int p3), (.int p4)] maxLocals)) t := by
          intro t k
          refine R28 t ?_
          show Steps p.tables e below (T15.setTop (mkF m 146 #[.val (.int p0), .val (.int p1), .val (.int p2), .val (.int p3), .val (.int p4), .val (.int (1 : Int32)), .val (.ref ap), .val (.int (1 : Int32)), .val (.ref r), .val (.int (0 : Int32)), .val (.int (p2 &&& (255 : Int32)))] [(.ref r), (.ref ap)])) _
          refine st29.trans ?_
          show Steps p.tables e below (T29.setTop (mkF m 149 #[.val (.int p0), .val (.int p1), .val (.int p2), .val (.int p3), .val (.int p4), .val (.int (1 : Int32)), .val (.ref ap), .val (.int (1 : Int32)), .val (.ref r), .val (.int (0 : Int32)), .val (.int (p2 &&& (255 : Int32)))] [(.int (if ((nar .byte ((p2).toInt8.toInt32)) &&& (255 : Int32)) = (2 : Int32) then (1 : Int32) else (0 : Int32)))])) _
          refine XS.iload X29.here hx rfl (hb hby at_149) rfl ?_
          exact k
        rw [own_b0] at R30
        have R31 : ∀ t, Steps p.tables e below (T29.setTop (mkF m 159 #[.val (.int p0), .val (.int p1), .val (.int p2), .val (.int p3), .val (.int p4), .val (.int (1 : Int32)), .val (.ref ap), .val (.int (1 : Int32)), .val (.ref r), .val (.int (0 : Int32)), .val (.int (p2 &&& (255 : Int32)))] [(.int (1 : Int32))])) t → Steps p.tables e below (s₁.setTop (entryFrame m #[(.int p0), (.int p1), (.int p2), (.int p3), (.int p4)] maxLocals)) t := by
          intro t k
          refine R30 t ?_
          show Steps p.tables e below (T29.setTop (mkF m 151 #[.val (.int p0), .val (.int p1), .val (.int p2), .val (.int p3), .val (.int p4), .val (.int (1 : Int32)), .val (.ref ap), .val (.int (1 : Int32)), .val (.ref r), .val (.int (0 : Int32)), .val (.int (p2 &&& (255 : Int32)))] [(.int (0 : Int32)), (.int (if (p2 &&& (255 : Int32)) = (2 : Int32) then (1 : Int32) else (0 : Int32)))])) _
          refine XS.icmpNo X29.here hx rfl (hb hby at_151) rfl (teq (if_neg (fun q : (p2 &&& (255 : Int32)) = (2 : Int32) => hc17 (by rw [q]; decide)))).2 ?_
          show Steps p.tables e below (T29.setTop (mkF m 154 #[.val (.int p0), .val (.int p1), .val (.int p2), .val (.int p3), .val (.int p4), .val (.int (1 : Int32)), .val (.ref ap), .val (.int (1 : Int32)), .val (.ref r), .val (.int (0 : Int32)), .val (.int (p2 &&& (255 : Int32)))] [])) _
          refine XS.iconst X29.here hx rfl (hb hby at_154) ?_
          show Steps p.tables e below (T29.setTop (mkF m 155 #[.val (.int p0), .val (.int p1), .val (.int p2), .val (.int p3), .val (.int p4), .val (.int (1 : Int32)), .val (.ref ap), .val (.int (1 : Int32)), .val (.ref r), .val (.int (0 : Int32)), .val (.int (p2 &&& (255 : Int32)))] [(.int (1 : Int32))])) _
          refine XS.goto X29.here hx rfl (pc0 := 155) (pc' := 159) rfl (hb hby at_155) (by decide) (by decide) ?_
          exact k
        obtain ⟨fs, hr, hrun, hended, hW, hsame⟩ := X29.leave (v := some (.int (1 : Int32))) (fun h => by rw [Bd.returns] at h; cases h)
        refine ⟨_, _, R31 _ ?_, hrun, hended, _, _, rfl, ?_, ⟨_, rfl⟩, hW, hsame.mono (by decide) (by decide)⟩
        · exact retN X29 hx (t := .boolean) Bd.returns (by simp) (hb hby at_159) hr
        · show Q0 Z p0 p1 p2 p3 p4 ap av h0 n0 _ T29.heap _
          rw [e29]
          exact ⟨rfl, N29⟩
    ·
      rw [hv6] at R5
      obtain ⟨T32, h32, k32, X32, e32, E32, A32, st32⟩ := newP X4 hx hZ (hw _ (List.mem_of_getElem? (i := 3) rfl)) e4 (g := (mkF m 36 #[.val (.int p0), .val (.int p1), .val (.int p2), .val (.int p3), .val (.int p4), .val (.int (1 : Int32)), .val (.ref ap), .val (.int (2 : Int32)), .unset, .unset, .unset] [(.int (2 : Int32))])) rfl (hb hby at_36) rfl (by decide) (cap := 2) (by decide) (by decide) (by decide) (by decide)
      obtain ⟨r, g32⟩ : ∃ z, z = h0.size := ⟨_, rfl⟩
      rw [← g32] at A32 st32
      have ge_r : n0 ≤ r := by rw [g32]; exact Z0
      have Sz32 := Nat.le_trans Z0 E32.1
      have ne_ap_r : ap ≠ r := Nat.ne_of_lt (Nat.lt_of_lt_of_le E_ap.lt (Nat.le_of_eq g32.symm))
      have E_ap := E_ap.ext E32
      have F_identifier_ap := F_identifier_ap.ext E32
      have V_r : Arv Z h32 r k32 .byte (2 : Int32) [(.int (0 : Int32)), (.int (0 : Int32))] (.int (0 : Int32)) := (Arv.new A32 (by decide)).pad (pad_rep [] (.int (0 : Int32)) 2)
      have R33 : ∀ t, Steps p.tables e below (T32.setTop (mkF m 50 #[.val (.int p0), .val (.int p1), .val (.int p2), .val (.int p3), .val (.int p4), .val (.int (1 : Int32)), .val (.ref ap), .val (.int (2 : Int32)), .val (.ref r), .unset, .unset] [(.int ((p2).toInt8.toInt32)), (.int (0 : Int32)), (.ref r)])) t → Steps p.tables e below (s₁.setTop (entryFrame m #[(.int p0), (.int p1), (.int p2), (.int p3), (.int p4)] maxLocals)) t := by
        intro t k
        refine R5 t ?_
        show Steps p.tables e below (T4.setTop (mkF m 36 #[.val (.int p0), .val (.int p1), .val (.int p2), .val (.int p3), .val (.int p4), .val (.int (1 : Int32)), .val (.ref ap), .val (.int (2 : Int32)), .unset, .unset, .unset] [(.int (2 : Int32))])) _
        refine st32 _ ?_
        show Steps p.tables e below (T32.setTop (mkF m 38 #[.val (.int p0), .val (.int p1), .val (.int p2), .val (.int p3), .val (.int p4), .val (.int (1 : Int32)), .val (.ref ap), .val (.int (2 : Int32)), .unset, .unset, .unset] [(.ref r)])) _
        refine XS.astore X32.here hx rfl (hb hby at_38) rfl rfl (l' := #[.val (.int p0), .val (.int p1), .val (.int p2), .val (.int p3), .val (.int p4), .val (.int (1 : Int32)), .val (.ref ap), .val (.int (2 : Int32)), .val (.ref r), .unset, .unset]) rfl ?_
        show Steps p.tables e below (T32.setTop (mkF m 40 #[.val (.int p0), .val (.int p1), .val (.int p2), .val (.int p3), .val (.int p4), .val (.int (1 : Int32)), .val (.ref ap), .val (.int (2 : Int32)), .val (.ref r), .unset, .unset] [])) _
        refine XS.iload X32.here hx rfl (hb hby at_40) rfl ?_
        show Steps p.tables e below (T32.setTop (mkF m 42 #[.val (.int p0), .val (.int p1), .val (.int p2), .val (.int p3), .val (.int p4), .val (.int (1 : Int32)), .val (.ref ap), .val (.int (2 : Int32)), .val (.ref r), .unset, .unset] [(.int (2 : Int32))])) _
        refine XS.ifNo X32.here hx rfl (hb hby at_42) rfl ((if0 _ _).trans (tlt (by decide)).2.2.2) ?_
        show Steps p.tables e below (T32.setTop (mkF m 45 #[.val (.int p0), .val (.int p1), .val (.int p2), .val (.int p3), .val (.int p4), .val (.int (1 : Int32)), .val (.ref ap), .val (.int (2 : Int32)), .val (.ref r), .unset, .unset] [])) _
        refine XS.aload X32.here hx rfl (hb hby at_45) rfl rfl ?_
        show Steps p.tables e below (T32.setTop (mkF m 47 #[.val (.int p0), .val (.int p1), .val (.int p2), .val (.int p3), .val (.int p4), .val (.int (1 : Int32)), .val (.ref ap), .val (.int (2 : Int32)), .val (.ref r), .unset, .unset] [(.ref r)])) _
        refine XS.iconst X32.here hx rfl (hb hby at_47) ?_
        show Steps p.tables e below (T32.setTop (mkF m 48 #[.val (.int p0), .val (.int p1), .val (.int p2), .val (.int p3), .val (.int p4), .val (.int (1 : Int32)), .val (.ref ap), .val (.int (2 : Int32)), .val (.ref r), .unset, .unset] [(.int (0 : Int32)), (.ref r)])) _
        refine XS.iloadN X32.here hx rfl (hb hby at_48) rfl ?_
        show Steps p.tables e below (T32.setTop (mkF m 49 #[.val (.int p0), .val (.int p1), .val (.int p2), .val (.int p3), .val (.int p4), .val (.int (1 : Int32)), .val (.ref ap), .val (.int (2 : Int32)), .val (.ref r), .unset, .unset] [(.int p2), (.int (0 : Int32)), (.ref r)])) _
        refine XS.i2b X32.here hx rfl (hb hby at_49) rfl ?_
        exact k
      obtain ⟨cl34, Ar34, Aq34, As34, An34, Ah34, Ag34⟩ := id V_r
      have hin34 : ¬ ((0 : Int32) < 0 ∨ cl34.slots.size ≤ ((0 : Int32)).toNatClampNeg) := inb_of As34 ⟨by decide, by decide⟩
      obtain ⟨T35, h35, X35, e35, W35, st35⟩ := stB X32 hx hZ e32 Ar34 (j := (0 : Int32)) hin34 (g := (mkF m 50 #[.val (.int p0), .val (.int p1), .val (.int p2), .val (.int p3), .val (.int p4), .val (.int (1 : Int32)), .val (.ref ap), .val (.int (2 : Int32)), .val (.ref r), .unset, .unset] [(.int ((p2).toInt8.toInt32)), (.int (0 : Int32)), (.ref r)])) rfl rfl (hb hby at_50)
      have N35 := Fr.snoc X35 N0 ge_r
      have Sz35 := Nat.le_trans Sz32 (Keep.of_wr W35).1
      have E_ap := E_ap.wr W35
      have F_identifier_ap := F_identifier_ap.other W35 (Or.inl ne_ap_r)
      have V_r : Arv Z h35 r k32 .byte (2 : Int32) [(.int (nar .byte ((p2).toInt8.toInt32))), (.int (0 : Int32))] (.int (0 : Int32)) := Arv.set Ar34 Aq34 As34 An34 Ah34 Ag34 (fits_nar_byte _) W35 0 rfl (Nat.le_of_ble_eq_true rfl)
      have R36 : ∀ t, Steps p.tables e below (T35.setTop (mkF m 62 #[.val (.int p0), .val (.int p1), .val (.int p2), .val (.int p3), .val (.int p4), .val (.int (1 : Int32)), .val (.ref ap), .val (.int (2 : Int32)), .val (.ref r), .unset, .unset] [(.int ((p3).toInt8.toInt32)), (.int (1 : Int32)), (.ref r)])) t → Steps p.tables e below (s₁.setTop (entryFrame m #[(.int p0), (.int p1), (.int p2), (.int p3), (.int p4)] maxLocals)) t := by
        intro t k
        refine R33 t ?_
        show Steps p.tables e below (T32.setTop (mkF m 50 #[.val (.int p0), .val (.int p1), .val (.int p2), .val (.int p3), .val (.int p4), .val (.int (1 : Int32)), .val (.ref ap), .val (.int (2 : Int32)), .val (.ref r), .unset, .unset] [(.int ((p2).toInt8.toInt32)), (.int (0 : Int32)), (.ref r)])) _
        refine st35 _ ?_
        show Steps p.tables e below (T35.setTop (mkF m 51 #[.val (.int p0), .val (.int p1), .val (.int p2), .val (.int p3), .val (.int p4), .val (.int (1 : Int32)), .val (.ref ap), .val (.int (2 : Int32)), .val (.ref r), .unset, .unset] [])) _
        refine XS.iload X35.here hx rfl (hb hby at_51) rfl ?_
        show Steps p.tables e below (T35.setTop (mkF m 53 #[.val (.int p0), .val (.int p1), .val (.int p2), .val (.int p3), .val (.int p4), .val (.int (1 : Int32)), .val (.ref ap), .val (.int (2 : Int32)), .val (.ref r), .unset, .unset] [(.int (2 : Int32))])) _
        refine XS.iconst X35.here hx rfl (hb hby at_53) ?_
        show Steps p.tables e below (T35.setTop (mkF m 54 #[.val (.int p0), .val (.int p1), .val (.int p2), .val (.int p3), .val (.int p4), .val (.int (1 : Int32)), .val (.ref ap), .val (.int (2 : Int32)), .val (.ref r), .unset, .unset] [(.int (1 : Int32)), (.int (2 : Int32))])) _
        refine XS.icmpNo X35.here hx rfl (hb hby at_54) rfl (tlt (by decide)).2.2.2 ?_
        show Steps p.tables e below (T35.setTop (mkF m 57 #[.val (.int p0), .val (.int p1), .val (.int p2), .val (.int p3), .val (.int p4), .val (.int (1 : Int32)), .val (.ref ap), .val (.int (2 : Int32)), .val (.ref r), .unset, .unset] [])) _
        refine XS.aload X35.here hx rfl (hb hby at_57) rfl rfl ?_
        show Steps p.tables e below (T35.setTop (mkF m 59 #[.val (.int p0), .val (.int p1), .val (.int p2), .val (.int p3), .val (.int p4), .val (.int (1 : Int32)), .val (.ref ap), .val (.int (2 : Int32)), .val (.ref r), .unset, .unset] [(.ref r)])) _
        refine XS.iconst X35.here hx rfl (hb hby at_59) ?_
        show Steps p.tables e below (T35.setTop (mkF m 60 #[.val (.int p0), .val (.int p1), .val (.int p2), .val (.int p3), .val (.int p4), .val (.int (1 : Int32)), .val (.ref ap), .val (.int (2 : Int32)), .val (.ref r), .unset, .unset] [(.int (1 : Int32)), (.ref r)])) _
        refine XS.iloadN X35.here hx rfl (hb hby at_60) rfl ?_
        show Steps p.tables e below (T35.setTop (mkF m 61 #[.val (.int p0), .val (.int p1), .val (.int p2), .val (.int p3), .val (.int p4), .val (.int (1 : Int32)), .val (.ref ap), .val (.int (2 : Int32)), .val (.ref r), .unset, .unset] [(.int p3), (.int (1 : Int32)), (.ref r)])) _
        refine XS.i2b X35.here hx rfl (hb hby at_61) rfl ?_
        exact k
      obtain ⟨cl37, Ar37, Aq37, As37, An37, Ah37, Ag37⟩ := id V_r
      have hin37 : ¬ ((1 : Int32) < 0 ∨ cl37.slots.size ≤ ((1 : Int32)).toNatClampNeg) := inb_of As37 ⟨by decide, by decide⟩
      obtain ⟨T38, h38, X38, e38, W38, st38⟩ := stB X35 hx hZ e35 Ar37 (j := (1 : Int32)) hin37 (g := (mkF m 62 #[.val (.int p0), .val (.int p1), .val (.int p2), .val (.int p3), .val (.int p4), .val (.int (1 : Int32)), .val (.ref ap), .val (.int (2 : Int32)), .val (.ref r), .unset, .unset] [(.int ((p3).toInt8.toInt32)), (.int (1 : Int32)), (.ref r)])) rfl rfl (hb hby at_62)
      have N38 := Fr.snoc X38 N35 ge_r
      have Sz38 := Nat.le_trans Sz35 (Keep.of_wr W38).1
      have E_ap := E_ap.wr W38
      have F_identifier_ap := F_identifier_ap.other W38 (Or.inl ne_ap_r)
      have V_r : Arv Z h38 r k32 .byte (2 : Int32) [(.int (nar .byte ((p2).toInt8.toInt32))), (.int (nar .byte ((p3).toInt8.toInt32)))] (.int (0 : Int32)) := Arv.set Ar37 Aq37 As37 An37 Ah37 Ag37 (fits_nar_byte _) W38 1 rfl (Nat.le_of_ble_eq_true rfl)
      have R39 : ∀ t, Steps p.tables e below (T38.setTop (mkF m 99 #[.val (.int p0), .val (.int p1), .val (.int p2), .val (.int p3), .val (.int p4), .val (.int (1 : Int32)), .val (.ref ap), .val (.int (2 : Int32)), .val (.ref r), .unset, .val (.int (p2 &&& (255 : Int32)))] [(.int (128 : Int32)), (.int (p2 &&& (255 : Int32)))])) t → Steps p.tables e below (s₁.setTop (entryFrame m #[(.int p0), (.int p1), (.int p2), (.int p3), (.int p4)] maxLocals)) t := by
        intro t k
        refine R36 t ?_
        show Steps p.tables e below (T35.setTop (mkF m 62 #[.val (.int p0), .val (.int p1), .val (.int p2), .val (.int p3), .val (.int p4), .val (.int (1 : Int32)), .val (.ref ap), .val (.int (2 : Int32)), .val (.ref r), .unset, .unset] [(.int ((p3).toInt8.toInt32)), (.int (1 : Int32)), (.ref r)])) _
        refine st38 _ ?_
        show Steps p.tables e below (T38.setTop (mkF m 63 #[.val (.int p0), .val (.int p1), .val (.int p2), .val (.int p3), .val (.int p4), .val (.int (1 : Int32)), .val (.ref ap), .val (.int (2 : Int32)), .val (.ref r), .unset, .unset] [])) _
        refine XS.iload X38.here hx rfl (hb hby at_63) rfl ?_
        show Steps p.tables e below (T38.setTop (mkF m 65 #[.val (.int p0), .val (.int p1), .val (.int p2), .val (.int p3), .val (.int p4), .val (.int (1 : Int32)), .val (.ref ap), .val (.int (2 : Int32)), .val (.ref r), .unset, .unset] [(.int (2 : Int32))])) _
        refine XS.iconst X38.here hx rfl (hb hby at_65) ?_
        show Steps p.tables e below (T38.setTop (mkF m 66 #[.val (.int p0), .val (.int p1), .val (.int p2), .val (.int p3), .val (.int p4), .val (.int (1 : Int32)), .val (.ref ap), .val (.int (2 : Int32)), .val (.ref r), .unset, .unset] [(.int (2 : Int32)), (.int (2 : Int32))])) _
        refine XS.icmpYes X38.here hx rfl (pc0 := 66) (pc' := 76) rfl (hb hby at_66) rfl (flt (by decide)).2.2.2 (by decide) (by decide) ?_
        show Steps p.tables e below (T38.setTop (mkF m 76 #[.val (.int p0), .val (.int p1), .val (.int p2), .val (.int p3), .val (.int p4), .val (.int (1 : Int32)), .val (.ref ap), .val (.int (2 : Int32)), .val (.ref r), .unset, .unset] [])) _
        refine XS.iload X38.here hx rfl (hb hby at_76) rfl ?_
        show Steps p.tables e below (T38.setTop (mkF m 78 #[.val (.int p0), .val (.int p1), .val (.int p2), .val (.int p3), .val (.int p4), .val (.int (1 : Int32)), .val (.ref ap), .val (.int (2 : Int32)), .val (.ref r), .unset, .unset] [(.int (2 : Int32))])) _
        refine XS.ifYes X38.here hx rfl (pc0 := 78) (pc' := 87) rfl (hb hby at_78) rfl ((if0 _ _).trans (feq (by decide)).2) (by decide) (by decide) ?_
        show Steps p.tables e below (T38.setTop (mkF m 87 #[.val (.int p0), .val (.int p1), .val (.int p2), .val (.int p3), .val (.int p4), .val (.int (1 : Int32)), .val (.ref ap), .val (.int (2 : Int32)), .val (.ref r), .unset, .unset] [])) _
        refine XS.iloadN X38.here hx rfl (hb hby at_87) rfl ?_
        show Steps p.tables e below (T38.setTop (mkF m 88 #[.val (.int p0), .val (.int p1), .val (.int p2), .val (.int p3), .val (.int p4), .val (.int (1 : Int32)), .val (.ref ap), .val (.int (2 : Int32)), .val (.ref r), .unset, .unset] [(.int p2)])) _
        refine XS.sipush X38.here hx rfl (hb hby at_88) ?_
        show Steps p.tables e below (T38.setTop (mkF m 91 #[.val (.int p0), .val (.int p1), .val (.int p2), .val (.int p3), .val (.int p4), .val (.int (1 : Int32)), .val (.ref ap), .val (.int (2 : Int32)), .val (.ref r), .unset, .unset] [(.int (255 : Int32)), (.int p2)])) _
        refine XS.iand X38.here hx rfl (hb hby at_91) rfl ?_
        show Steps p.tables e below (T38.setTop (mkF m 92 #[.val (.int p0), .val (.int p1), .val (.int p2), .val (.int p3), .val (.int p4), .val (.int (1 : Int32)), .val (.ref ap), .val (.int (2 : Int32)), .val (.ref r), .unset, .unset] [(.int (p2 &&& (255 : Int32)))])) _
        refine XS.istore X38.here hx rfl (hb hby at_92) rfl (l' := #[.val (.int p0), .val (.int p1), .val (.int p2), .val (.int p3), .val (.int p4), .val (.int (1 : Int32)), .val (.ref ap), .val (.int (2 : Int32)), .val (.ref r), .unset, .val (.int (p2 &&& (255 : Int32)))]) rfl ?_
        show Steps p.tables e below (T38.setTop (mkF m 94 #[.val (.int p0), .val (.int p1), .val (.int p2), .val (.int p3), .val (.int p4), .val (.int (1 : Int32)), .val (.ref ap), .val (.int (2 : Int32)), .val (.ref r), .unset, .val (.int (p2 &&& (255 : Int32)))] [])) _
        refine XS.iload X38.here hx rfl (hb hby at_94) rfl ?_
        show Steps p.tables e below (T38.setTop (mkF m 96 #[.val (.int p0), .val (.int p1), .val (.int p2), .val (.int p3), .val (.int p4), .val (.int (1 : Int32)), .val (.ref ap), .val (.int (2 : Int32)), .val (.ref r), .unset, .val (.int (p2 &&& (255 : Int32)))] [(.int (p2 &&& (255 : Int32)))])) _
        refine XS.sipush X38.here hx rfl (hb hby at_96) ?_
        exact k
      by_cases hc40 : (p2 &&& (255 : Int32)) < (128 : Int32)
      ·
        skip
        have R41 : ∀ t, Steps p.tables e below (T38.setTop (mkF m 116 #[.val (.int p0), .val (.int p1), .val (.int p2), .val (.int p3), .val (.int p4), .val (.int (1 : Int32)), .val (.ref ap), .val (.int (2 : Int32)), .val (.ref r), .unset, .val (.int (p2 &&& (255 : Int32)))] [(.int (2 : Int32)), (.int (p2 &&& (255 : Int32)))])) t → Steps p.tables e below (s₁.setTop (entryFrame m #[(.int p0), (.int p1), (.int p2), (.int p3), (.int p4)] maxLocals)) t := by
          intro t k
          refine R39 t ?_
          show Steps p.tables e below (T38.setTop (mkF m 99 #[.val (.int p0), .val (.int p1), .val (.int p2), .val (.int p3), .val (.int p4), .val (.int (1 : Int32)), .val (.ref ap), .val (.int (2 : Int32)), .val (.ref r), .unset, .val (.int (p2 &&& (255 : Int32)))] [(.int (128 : Int32)), (.int (p2 &&& (255 : Int32)))])) _
          refine XS.icmpYes X38.here hx rfl (pc0 := 99) (pc' := 108) rfl (hb hby at_99) rfl (tlt hc40).1 (by decide) (by decide) ?_
          show Steps p.tables e below (T38.setTop (mkF m 108 #[.val (.int p0), .val (.int p1), .val (.int p2), .val (.int p3), .val (.int p4), .val (.int (1 : Int32)), .val (.ref ap), .val (.int (2 : Int32)), .val (.ref r), .unset, .val (.int (p2 &&& (255 : Int32)))] [])) _
          refine XS.iload X38.here hx rfl (hb hby at_108) rfl ?_
          show Steps p.tables e below (T38.setTop (mkF m 110 #[.val (.int p0), .val (.int p1), .val (.int p2), .val (.int p3), .val (.int p4), .val (.int (1 : Int32)), .val (.ref ap), .val (.int (2 : Int32)), .val (.ref r), .unset, .val (.int (p2 &&& (255 : Int32)))] [(.int (1 : Int32))])) _
          refine XS.ifNo X38.here hx rfl (hb hby at_110) rfl ((if0 _ _).trans (feq (by decide)).1) ?_
          show Steps p.tables e below (T38.setTop (mkF m 113 #[.val (.int p0), .val (.int p1), .val (.int p2), .val (.int p3), .val (.int p4), .val (.int (1 : Int32)), .val (.ref ap), .val (.int (2 : Int32)), .val (.ref r), .unset, .val (.int (p2 &&& (255 : Int32)))] [])) _
          refine XS.iload X38.here hx rfl (hb hby at_113) rfl ?_
          show Steps p.tables e below (T38.setTop (mkF m 115 #[.val (.int p0), .val (.int p1), .val (.int p2), .val (.int p3), .val (.int p4), .val (.int (1 : Int32)), .val (.ref ap), .val (.int (2 : Int32)), .val (.ref r), .unset, .val (.int (p2 &&& (255 : Int32)))] [(.int (p2 &&& (255 : Int32)))])) _
          refine XS.iconst X38.here hx rfl (hb hby at_115) ?_
          exact k
        by_cases hc42 : (p2 &&& (255 : Int32)) = (2 : Int32)
        ·
          skip
          have R43 : ∀ t, Steps p.tables e below (T38.setTop (mkF m 146 #[.val (.int p0), .val (.int p1), .val (.int p2), .val (.int p3), .val (.int p4), .val (.int (1 : Int32)), .val (.ref ap), .val (.int (2 : Int32)), .val (.ref r), .val (.int (1 : Int32)), .val (.int (p2 &&& (255 : Int32)))] [(.ref r), (.ref ap)])) t → Steps p.tables e below (s₁.setTop (entryFrame m #[(.int p0), (.int p1), (.int p2), (.int p3), (.int p4)] maxLocals)) t := by
            intro t k
            refine R41 t ?_
            show Steps p.tables e below (T38.setTop (mkF m 116 #[.val (.int p0), .val (.int p1), .val (.int p2), .val (.int p3), .val (.int p4), .val (.int (1 : Int32)), .val (.ref ap), .val (.int (2 : Int32)), .val (.ref r), .unset, .val (.int (p2 &&& (255 : Int32)))] [(.int (2 : Int32)), (.int (p2 &&& (255 : Int32)))])) _
            refine XS.icmpNo X38.here hx rfl (hb hby at_116) rfl (teq hc42).2 ?_
            show Steps p.tables e below (T38.setTop (mkF m 119 #[.val (.int p0), .val (.int p1), .val (.int p2), .val (.int p3), .val (.int p4), .val (.int (1 : Int32)), .val (.ref ap), .val (.int (2 : Int32)), .val (.ref r), .unset, .val (.int (p2 &&& (255 : Int32)))] [])) _
            refine XS.iconst X38.here hx rfl (hb hby at_119) ?_
            show Steps p.tables e below (T38.setTop (mkF m 120 #[.val (.int p0), .val (.int p1), .val (.int p2), .val (.int p3), .val (.int p4), .val (.int (1 : Int32)), .val (.ref ap), .val (.int (2 : Int32)), .val (.ref r), .unset, .val (.int (p2 &&& (255 : Int32)))] [(.int (1 : Int32))])) _
            refine XS.goto X38.here hx rfl (pc0 := 120) (pc' := 124) rfl (hb hby at_120) (by decide) (by decide) ?_
            show Steps p.tables e below (T38.setTop (mkF m 124 #[.val (.int p0), .val (.int p1), .val (.int p2), .val (.int p3), .val (.int p4), .val (.int (1 : Int32)), .val (.ref ap), .val (.int (2 : Int32)), .val (.ref r), .unset, .val (.int (p2 &&& (255 : Int32)))] [(.int (1 : Int32))])) _
            refine XS.istore X38.here hx rfl (hb hby at_124) rfl (l' := #[.val (.int p0), .val (.int p1), .val (.int p2), .val (.int p3), .val (.int p4), .val (.int (1 : Int32)), .val (.ref ap), .val (.int (2 : Int32)), .val (.ref r), .val (.int (1 : Int32)), .val (.int (p2 &&& (255 : Int32)))]) rfl ?_
            show Steps p.tables e below (T38.setTop (mkF m 126 #[.val (.int p0), .val (.int p1), .val (.int p2), .val (.int p3), .val (.int p4), .val (.int (1 : Int32)), .val (.ref ap), .val (.int (2 : Int32)), .val (.ref r), .val (.int (1 : Int32)), .val (.int (p2 &&& (255 : Int32)))] [])) _
            refine XS.goto X38.here hx rfl (pc0 := 126) (pc' := 142) rfl (hb hby at_126) (by decide) (by decide) ?_
            show Steps p.tables e below (T38.setTop (mkF m 142 #[.val (.int p0), .val (.int p1), .val (.int p2), .val (.int p3), .val (.int p4), .val (.int (1 : Int32)), .val (.ref ap), .val (.int (2 : Int32)), .val (.ref r), .val (.int (1 : Int32)), .val (.int (p2 &&& (255 : Int32)))] [])) _
            refine XS.aload X38.here hx rfl (hb hby at_142) rfl rfl ?_
            show Steps p.tables e below (T38.setTop (mkF m 144 #[.val (.int p0), .val (.int p1), .val (.int p2), .val (.int p3), .val (.int p4), .val (.int (1 : Int32)), .val (.ref ap), .val (.int (2 : Int32)), .val (.ref r), .val (.int (1 : Int32)), .val (.int (p2 &&& (255 : Int32)))] [(.ref ap)])) _
            refine XS.aload X38.here hx rfl (hb hby at_144) rfl rfl ?_
            exact k
          obtain ⟨cq44, kq44, q44a, q44b, q44c⟩ := isOf hZ e38 E_ap
          obtain ⟨_, _, ⟨T44, L44, k44, n44⟩, -, X44, ⟨Lc44, hQ44, l44, y44, z44⟩, st44⟩ := X38.virtualBack hx (y := (⟨"com/example/tapline/reader/Kernel", "isRequestedBy", "([B)Z"⟩ : MethodName)) (z := (⟨"com/example/tapline/reader/Kernel", "isRequestedBy", "([B)Z"⟩ : MethodName)) hown (mvT hZ (hw _ (List.mem_of_getElem? (i := 4) rfl))) (mvT hZ (hw _ (List.mem_of_getElem? (i := 5) rfl))) (notFace_of_selects (args := #[]) (mvT hZ (hw _ (List.mem_of_getElem? (i := 7) rfl)))) (mvT hZ (hw _ (List.mem_of_getElem? (i := 7) rfl))) (mvT hZ (hw _ (List.mem_of_getElem? (i := 6) rfl))) (by decide) (backOf (W := 0) (rm1n2 l Z a0 hw [] ap r k32 (2 : Int32) (nar .byte ((p2).toInt8.toInt32)) (nar .byte ((p3).toInt8.toInt32)) h38 n0 Sz38 F_identifier_ap V_r) hZ (hw _ (List.mem_of_getElem? (i := 8) rfl)) (hw _ (List.mem_of_getElem? (i := 1) rfl)) (by decide) (by decide)) q44a q44c (g := (mkF m 146 #[.val (.int p0), .val (.int p1), .val (.int p2), .val (.int p3), .val (.int p4), .val (.int (1 : Int32)), .val (.ref ap), .val (.int (2 : Int32)), .val (.ref r), .val (.int (1 : Int32)), .val (.int (p2 &&& (255 : Int32)))] [(.ref r), (.ref ap)])) rfl (by rw [hml]; rfl) (Steps.refl _) (argsL := [(.ref r)]) (rest := []) (lenOf pd_0 rfl) rfl (by show 2 * 0 + _ ≤ _; exact Nat.le_of_eq rfl) (hb hby at_146) (fun _ _ => ⟨rfl, e38, (by decide : 1 + 0 ≤ _), (by decide : 2 + 0 ≤ _)⟩)
          dsimp only [Pt.U, Pt.locs, Pt.cells, Pt.slots] at X44 l44 y44 z44 st44 hQ44
          subst l44 y44 z44
          obtain ⟨rfl, Nq44, eq44⟩ := hQ44
          have N44 := Fr.app N38 Nq44
          have e44 : T44.heap = h38 := eq44
          have R45 : ∀ t, Steps p.tables e below (T44.setTop (mkF m 151 #[.val (.int p0), .val (.int p1), .val (.int p2), .val (.int p3), .val (.int p4), .val (.int (1 : Int32)), .val (.ref ap), .val (.int (2 : Int32)), .val (.ref r), .val (.int (1 : Int32)), .val (.int (p2 &&& (255 : Int32)))] [(.int (1 : Int32)), (.int (if ((nar .byte ((p2).toInt8.toInt32)) &&& (255 : Int32)) = (2 : Int32) then (1 : Int32) else (0 : Int32)))])) t → Steps p.tables e below (s₁.setTop (entryFrame m #[(.int p0), (.int p1), (.int p2), (.int p3), (.int p4)] maxLocals)) t := by
            intro t k
            refine R43 t ?_
            show Steps p.tables e below (T38.setTop (mkF m 146 #[.val (.int p0), .val (.int p1), .val (.int p2), .val (.int p3), .val (.int p4), .val (.int (1 : Int32)), .val (.ref ap), .val (.int (2 : Int32)), .val (.ref r), .val (.int (1 : Int32)), .val (.int (p2 &&& (255 : Int32)))] [(.ref r), (.ref ap)])) _
            refine st44.trans ?_
            show Steps p.tables e below (T44.setTop (mkF m 149 #[.val (.int p0), .val (.int p1), .val (.int p2), .val (.int p3), .val (.int p4), .val (.int (1 : Int32)), .val (.ref ap), .val (.int (2 : Int32)), .val (.ref r), .val (.int (1 : Int32)), .val (.int (p2 &&& (255 : Int32)))] [(.int (if ((nar .byte ((p2).toInt8.toInt32)) &&& (255 : Int32)) = (2 : Int32) then (1 : Int32) else (0 : Int32)))])) _
            refine XS.iload X44.here hx rfl (hb hby at_149) rfl ?_
            exact k
          rw [own_b0] at R45
          have R46 : ∀ t, Steps p.tables e below (T44.setTop (mkF m 159 #[.val (.int p0), .val (.int p1), .val (.int p2), .val (.int p3), .val (.int p4), .val (.int (1 : Int32)), .val (.ref ap), .val (.int (2 : Int32)), .val (.ref r), .val (.int (1 : Int32)), .val (.int (p2 &&& (255 : Int32)))] [(.int (1 : Int32))])) t → Steps p.tables e below (s₁.setTop (entryFrame m #[(.int p0), (.int p1), (.int p2), (.int p3), (.int p4)] maxLocals)) t := by
            intro t k
            refine R45 t ?_
            show Steps p.tables e below (T44.setTop (mkF m 151 #[.val (.int p0), .val (.int p1), .val (.int p2), .val (.int p3), .val (.int p4), .val (.int (1 : Int32)), .val (.ref ap), .val (.int (2 : Int32)), .val (.ref r), .val (.int (1 : Int32)), .val (.int (p2 &&& (255 : Int32)))] [(.int (1 : Int32)), (.int (if (p2 &&& (255 : Int32)) = (2 : Int32) then (1 : Int32) else (0 : Int32)))])) _
            refine XS.icmpNo X44.here hx rfl (hb hby at_151) rfl (teq (if_pos hc42)).2 ?_
            show Steps p.tables e below (T44.setTop (mkF m 154 #[.val (.int p0), .val (.int p1), .val (.int p2), .val (.int p3), .val (.int p4), .val (.int (1 : Int32)), .val (.ref ap), .val (.int (2 : Int32)), .val (.ref r), .val (.int (1 : Int32)), .val (.int (p2 &&& (255 : Int32)))] [])) _
            refine XS.iconst X44.here hx rfl (hb hby at_154) ?_
            show Steps p.tables e below (T44.setTop (mkF m 155 #[.val (.int p0), .val (.int p1), .val (.int p2), .val (.int p3), .val (.int p4), .val (.int (1 : Int32)), .val (.ref ap), .val (.int (2 : Int32)), .val (.ref r), .val (.int (1 : Int32)), .val (.int (p2 &&& (255 : Int32)))] [(.int (1 : Int32))])) _
            refine XS.goto X44.here hx rfl (pc0 := 155) (pc' := 159) rfl (hb hby at_155) (by decide) (by decide) ?_
            exact k
          obtain ⟨fs, hr, hrun, hended, hW, hsame⟩ := X44.leave (v := some (.int (1 : Int32))) (fun h => by rw [Bd.returns] at h; cases h)
          refine ⟨_, _, R46 _ ?_, hrun, hended, _, _, rfl, ?_, ⟨_, rfl⟩, hW, hsame.mono (by decide) (by decide)⟩
          · exact retN X44 hx (t := .boolean) Bd.returns (by simp) (hb hby at_159) hr
          · show Q0 Z p0 p1 p2 p3 p4 ap av h0 n0 _ T44.heap _
            rw [e44]
            exact ⟨rfl, N44⟩
        ·
          skip
          have R47 : ∀ t, Steps p.tables e below (T38.setTop (mkF m 146 #[.val (.int p0), .val (.int p1), .val (.int p2), .val (.int p3), .val (.int p4), .val (.int (1 : Int32)), .val (.ref ap), .val (.int (2 : Int32)), .val (.ref r), .val (.int (0 : Int32)), .val (.int (p2 &&& (255 : Int32)))] [(.ref r), (.ref ap)])) t → Steps p.tables e below (s₁.setTop (entryFrame m #[(.int p0), (.int p1), (.int p2), (.int p3), (.int p4)] maxLocals)) t := by
            intro t k
            refine R41 t ?_
            show Steps p.tables e below (T38.setTop (mkF m 116 #[.val (.int p0), .val (.int p1), .val (.int p2), .val (.int p3), .val (.int p4), .val (.int (1 : Int32)), .val (.ref ap), .val (.int (2 : Int32)), .val (.ref r), .unset, .val (.int (p2 &&& (255 : Int32)))] [(.int (2 : Int32)), (.int (p2 &&& (255 : Int32)))])) _
            refine XS.icmpYes X38.here hx rfl (pc0 := 116) (pc' := 123) rfl (hb hby at_116) rfl (feq hc42).2 (by decide) (by decide) ?_
            show Steps p.tables e below (T38.setTop (mkF m 123 #[.val (.int p0), .val (.int p1), .val (.int p2), .val (.int p3), .val (.int p4), .val (.int (1 : Int32)), .val (.ref ap), .val (.int (2 : Int32)), .val (.ref r), .unset, .val (.int (p2 &&& (255 : Int32)))] [])) _
            refine XS.iconst X38.here hx rfl (hb hby at_123) ?_
            show Steps p.tables e below (T38.setTop (mkF m 124 #[.val (.int p0), .val (.int p1), .val (.int p2), .val (.int p3), .val (.int p4), .val (.int (1 : Int32)), .val (.ref ap), .val (.int (2 : Int32)), .val (.ref r), .unset, .val (.int (p2 &&& (255 : Int32)))] [(.int (0 : Int32))])) _
            refine XS.istore X38.here hx rfl (hb hby at_124) rfl (l' := #[.val (.int p0), .val (.int p1), .val (.int p2), .val (.int p3), .val (.int p4), .val (.int (1 : Int32)), .val (.ref ap), .val (.int (2 : Int32)), .val (.ref r), .val (.int (0 : Int32)), .val (.int (p2 &&& (255 : Int32)))]) rfl ?_
            show Steps p.tables e below (T38.setTop (mkF m 126 #[.val (.int p0), .val (.int p1), .val (.int p2), .val (.int p3), .val (.int p4), .val (.int (1 : Int32)), .val (.ref ap), .val (.int (2 : Int32)), .val (.ref r), .val (.int (0 : Int32)), .val (.int (p2 &&& (255 : Int32)))] [])) _
            refine XS.goto X38.here hx rfl (pc0 := 126) (pc' := 142) rfl (hb hby at_126) (by decide) (by decide) ?_
            show Steps p.tables e below (T38.setTop (mkF m 142 #[.val (.int p0), .val (.int p1), .val (.int p2), .val (.int p3), .val (.int p4), .val (.int (1 : Int32)), .val (.ref ap), .val (.int (2 : Int32)), .val (.ref r), .val (.int (0 : Int32)), .val (.int (p2 &&& (255 : Int32)))] [])) _
            refine XS.aload X38.here hx rfl (hb hby at_142) rfl rfl ?_
            show Steps p.tables e below (T38.setTop (mkF m 144 #[.val (.int p0), .val (.int p1), .val (.int p2), .val (.int p3), .val (.int p4), .val (.int (1 : Int32)), .val (.ref ap), .val (.int (2 : Int32)), .val (.ref r), .val (.int (0 : Int32)), .val (.int (p2 &&& (255 : Int32)))] [(.ref ap)])) _
            refine XS.aload X38.here hx rfl (hb hby at_144) rfl rfl ?_
            exact k
          obtain ⟨cq48, kq48, q48a, q48b, q48c⟩ := isOf hZ e38 E_ap
          obtain ⟨_, _, ⟨T48, L48, k48, n48⟩, -, X48, ⟨Lc48, hQ48, l48, y48, z48⟩, st48⟩ := X38.virtualBack hx (y := (⟨"com/example/tapline/reader/Kernel", "isRequestedBy", "([B)Z"⟩ : MethodName)) (z := (⟨"com/example/tapline/reader/Kernel", "isRequestedBy", "([B)Z"⟩ : MethodName)) hown (mvT hZ (hw _ (List.mem_of_getElem? (i := 4) rfl))) (mvT hZ (hw _ (List.mem_of_getElem? (i := 5) rfl))) (notFace_of_selects (args := #[]) (mvT hZ (hw _ (List.mem_of_getElem? (i := 7) rfl)))) (mvT hZ (hw _ (List.mem_of_getElem? (i := 7) rfl))) (mvT hZ (hw _ (List.mem_of_getElem? (i := 6) rfl))) (by decide) (backOf (W := 0) (rm1n2 l Z a0 hw [] ap r k32 (2 : Int32) (nar .byte ((p2).toInt8.toInt32)) (nar .byte ((p3).toInt8.toInt32)) h38 n0 Sz38 F_identifier_ap V_r) hZ (hw _ (List.mem_of_getElem? (i := 8) rfl)) (hw _ (List.mem_of_getElem? (i := 1) rfl)) (by decide) (by decide)) q48a q48c (g := (mkF m 146 #[.val (.int p0), .val (.int p1), .val (.int p2), .val (.int p3), .val (.int p4), .val (.int (1 : Int32)), .val (.ref ap), .val (.int (2 : Int32)), .val (.ref r), .val (.int (0 : Int32)), .val (.int (p2 &&& (255 : Int32)))] [(.ref r), (.ref ap)])) rfl (by rw [hml]; rfl) (Steps.refl _) (argsL := [(.ref r)]) (rest := []) (lenOf pd_0 rfl) rfl (by show 2 * 0 + _ ≤ _; exact Nat.le_of_eq rfl) (hb hby at_146) (fun _ _ => ⟨rfl, e38, (by decide : 1 + 0 ≤ _), (by decide : 2 + 0 ≤ _)⟩)
          dsimp only [Pt.U, Pt.locs, Pt.cells, Pt.slots] at X48 l48 y48 z48 st48 hQ48
          subst l48 y48 z48
          obtain ⟨rfl, Nq48, eq48⟩ := hQ48
          have N48 := Fr.app N38 Nq48
          have e48 : T48.heap = h38 := eq48
          have R49 : ∀ t, Steps p.tables e below (T48.setTop (mkF m 151 #[.val (.int p0), .val (.int p1), .val (.int p2), .val (.int p3), .val (.int p4), .val (.int (1 : Int32)), .val (.ref ap), .val (.int (2 : Int32)), .val (.ref r), .val (.int (0 : Int32)), .val (.int (p2 &&& (255 : Int32)))] [(.int (0 : Int32)), (.int (if ((nar .byte ((p2).toInt8.toInt32)) &&& (255 : Int32)) = (2 : Int32) then (1 : Int32) else (0 : Int32)))])) t → Steps p.tables e below (s₁.setTop (entryFrame m #[(.int p0), (.int p1), (.int p2), (.int p3), (.int p4)] maxLocals)) t := by
            intro t k
            refine R47 t ?_
            show Steps p.tables e below (T38.setTop (mkF m 146 #[.val (.int p0), .val (.int p1), .val (.int p2), .val (.int p3), .val (.int p4), .val (.int (1 : Int32)), .val (.ref ap), .val (.int (2 : Int32)), .val (.ref r), .val (.int (0 : Int32)), .val (.int (p2 &&& (255 : Int32)))] [(.ref r), (.ref ap)])) _
            refine st48.trans ?_
            show Steps p.tables e below (T48.setTop (mkF m 149 #[.val (.int p0), .val (.int p1), .val (.int p2), .val (.int p3), .val (.int p4), .val (.int (1 : Int32)), .val (.ref ap), .val (.int (2 : Int32)), .val (.ref r), .val (.int (0 : Int32)), .val (.int (p2 &&& (255 : Int32)))] [(.int (if ((nar .byte ((p2).toInt8.toInt32)) &&& (255 : Int32)) = (2 : Int32) then (1 : Int32) else (0 : Int32)))])) _
            refine XS.iload X48.here hx rfl (hb hby at_149) rfl ?_
            exact k
          rw [own_b0] at R49
          have R50 : ∀ t, Steps p.tables e below (T48.setTop (mkF m 159 #[.val (.int p0), .val (.int p1), .val (.int p2), .val (.int p3), .val (.int p4), .val (.int (1 : Int32)), .val (.ref ap), .val (.int (2 : Int32)), .val (.ref r), .val (.int (0 : Int32)), .val (.int (p2 &&& (255 : Int32)))] [(.int (1 : Int32))])) t → Steps p.tables e below (s₁.setTop (entryFrame m #[(.int p0), (.int p1), (.int p2), (.int p3), (.int p4)] maxLocals)) t := by
            intro t k
            refine R49 t ?_
            show Steps p.tables e below (T48.setTop (mkF m 151 #[.val (.int p0), .val (.int p1), .val (.int p2), .val (.int p3), .val (.int p4), .val (.int (1 : Int32)), .val (.ref ap), .val (.int (2 : Int32)), .val (.ref r), .val (.int (0 : Int32)), .val (.int (p2 &&& (255 : Int32)))] [(.int (0 : Int32)), (.int (if (p2 &&& (255 : Int32)) = (2 : Int32) then (1 : Int32) else (0 : Int32)))])) _
            refine XS.icmpNo X48.here hx rfl (hb hby at_151) rfl (teq (if_neg hc42)).2 ?_
            show Steps p.tables e below (T48.setTop (mkF m 154 #[.val (.int p0), .val (.int p1), .val (.int p2), .val (.int p3), .val (.int p4), .val (.int (1 : Int32)), .val (.ref ap), .val (.int (2 : Int32)), .val (.ref r), .val (.int (0 : Int32)), .val (.int (p2 &&& (255 : Int32)))] [])) _
            refine XS.iconst X48.here hx rfl (hb hby at_154) ?_
            show Steps p.tables e below (T48.setTop (mkF m 155 #[.val (.int p0), .val (.int p1), .val (.int p2), .val (.int p3), .val (.int p4), .val (.int (1 : Int32)), .val (.ref ap), .val (.int (2 : Int32)), .val (.ref r), .val (.int (0 : Int32)), .val (.int (p2 &&& (255 : Int32)))] [(.int (1 : Int32))])) _
            refine XS.goto X48.here hx rfl (pc0 := 155) (pc' := 159) rfl (hb hby at_155) (by decide) (by decide) ?_
            exact k
          obtain ⟨fs, hr, hrun, hended, hW, hsame⟩ := X48.leave (v := some (.int (1 : Int32))) (fun h => by rw [Bd.returns] at h; cases h)
          refine ⟨_, _, R50 _ ?_, hrun, hended, _, _, rfl, ?_, ⟨_, rfl⟩, hW, hsame.mono (by decide) (by decide)⟩
          · exact retN X48 hx (t := .boolean) Bd.returns (by simp) (hb hby at_159) hr
          · show Q0 Z p0 p1 p2 p3 p4 ap av h0 n0 _ T48.heap _
            rw [e48]
            exact ⟨rfl, N48⟩
      ·
        skip
        have R51 : ∀ t, Steps p.tables e below (T38.setTop (mkF m 146 #[.val (.int p0), .val (.int p1), .val (.int p2), .val (.int p3), .val (.int p4), .val (.int (1 : Int32)), .val (.ref ap), .val (.int (2 : Int32)), .val (.ref r), .val (.int (0 : Int32)), .val (.int (p2 &&& (255 : Int32)))] [(.ref r), (.ref ap)])) t → Steps p.tables e below (s₁.setTop (entryFrame m #[(.int p0), (.int p1), (.int p2), (.int p3), (.int p4)] maxLocals)) t := by
          intro t k
          refine R39 t ?_
          show Steps p.tables e below (T38.setTop (mkF m 99 #[.val (.int p0), .val (.int p1), .val (.int p2), .val (.int p3), .val (.int p4), .val (.int (1 : Int32)), .val (.ref ap), .val (.int (2 : Int32)), .val (.ref r), .unset, .val (.int (p2 &&& (255 : Int32)))] [(.int (128 : Int32)), (.int (p2 &&& (255 : Int32)))])) _
          refine XS.icmpNo X38.here hx rfl (hb hby at_99) rfl (flt hc40).1 ?_
          show Steps p.tables e below (T38.setTop (mkF m 102 #[.val (.int p0), .val (.int p1), .val (.int p2), .val (.int p3), .val (.int p4), .val (.int (1 : Int32)), .val (.ref ap), .val (.int (2 : Int32)), .val (.ref r), .unset, .val (.int (p2 &&& (255 : Int32)))] [])) _
          refine XS.iconst X38.here hx rfl (hb hby at_102) ?_
          show Steps p.tables e below (T38.setTop (mkF m 103 #[.val (.int p0), .val (.int p1), .val (.int p2), .val (.int p3), .val (.int p4), .val (.int (1 : Int32)), .val (.ref ap), .val (.int (2 : Int32)), .val (.ref r), .unset, .val (.int (p2 &&& (255 : Int32)))] [(.int (0 : Int32))])) _
          refine XS.istore X38.here hx rfl (hb hby at_103) rfl (l' := #[.val (.int p0), .val (.int p1), .val (.int p2), .val (.int p3), .val (.int p4), .val (.int (1 : Int32)), .val (.ref ap), .val (.int (2 : Int32)), .val (.ref r), .val (.int (0 : Int32)), .val (.int (p2 &&& (255 : Int32)))]) rfl ?_
          show Steps p.tables e below (T38.setTop (mkF m 105 #[.val (.int p0), .val (.int p1), .val (.int p2), .val (.int p3), .val (.int p4), .val (.int (1 : Int32)), .val (.ref ap), .val (.int (2 : Int32)), .val (.ref r), .val (.int (0 : Int32)), .val (.int (p2 &&& (255 : Int32)))] [])) _
          refine XS.goto X38.here hx rfl (pc0 := 105) (pc' := 142) rfl (hb hby at_105) (by decide) (by decide) ?_
          show Steps p.tables e below (T38.setTop (mkF m 142 #[.val (.int p0), .val (.int p1), .val (.int p2), .val (.int p3), .val (.int p4), .val (.int (1 : Int32)), .val (.ref ap), .val (.int (2 : Int32)), .val (.ref r), .val (.int (0 : Int32)), .val (.int (p2 &&& (255 : Int32)))] [])) _
          refine XS.aload X38.here hx rfl (hb hby at_142) rfl rfl ?_
          show Steps p.tables e below (T38.setTop (mkF m 144 #[.val (.int p0), .val (.int p1), .val (.int p2), .val (.int p3), .val (.int p4), .val (.int (1 : Int32)), .val (.ref ap), .val (.int (2 : Int32)), .val (.ref r), .val (.int (0 : Int32)), .val (.int (p2 &&& (255 : Int32)))] [(.ref ap)])) _
          refine XS.aload X38.here hx rfl (hb hby at_144) rfl rfl ?_
          exact k
        obtain ⟨cq52, kq52, q52a, q52b, q52c⟩ := isOf hZ e38 E_ap
        obtain ⟨_, _, ⟨T52, L52, k52, n52⟩, -, X52, ⟨Lc52, hQ52, l52, y52, z52⟩, st52⟩ := X38.virtualBack hx (y := (⟨"com/example/tapline/reader/Kernel", "isRequestedBy", "([B)Z"⟩ : MethodName)) (z := (⟨"com/example/tapline/reader/Kernel", "isRequestedBy", "([B)Z"⟩ : MethodName)) hown (mvT hZ (hw _ (List.mem_of_getElem? (i := 4) rfl))) (mvT hZ (hw _ (List.mem_of_getElem? (i := 5) rfl))) (notFace_of_selects (args := #[]) (mvT hZ (hw _ (List.mem_of_getElem? (i := 7) rfl)))) (mvT hZ (hw _ (List.mem_of_getElem? (i := 7) rfl))) (mvT hZ (hw _ (List.mem_of_getElem? (i := 6) rfl))) (by decide) (backOf (W := 0) (rm1n2 l Z a0 hw [] ap r k32 (2 : Int32) (nar .byte ((p2).toInt8.toInt32)) (nar .byte ((p3).toInt8.toInt32)) h38 n0 Sz38 F_identifier_ap V_r) hZ (hw _ (List.mem_of_getElem? (i := 8) rfl)) (hw _ (List.mem_of_getElem? (i := 1) rfl)) (by decide) (by decide)) q52a q52c (g := (mkF m 146 #[.val (.int p0), .val (.int p1), .val (.int p2), .val (.int p3), .val (.int p4), .val (.int (1 : Int32)), .val (.ref ap), .val (.int (2 : Int32)), .val (.ref r), .val (.int (0 : Int32)), .val (.int (p2 &&& (255 : Int32)))] [(.ref r), (.ref ap)])) rfl (by rw [hml]; rfl) (Steps.refl _) (argsL := [(.ref r)]) (rest := []) (lenOf pd_0 rfl) rfl (by show 2 * 0 + _ ≤ _; exact Nat.le_of_eq rfl) (hb hby at_146) (fun _ _ => ⟨rfl, e38, (by decide : 1 + 0 ≤ _), (by decide : 2 + 0 ≤ _)⟩)
        dsimp only [Pt.U, Pt.locs, Pt.cells, Pt.slots] at X52 l52 y52 z52 st52 hQ52
        subst l52 y52 z52
        obtain ⟨rfl, Nq52, eq52⟩ := hQ52
        have N52 := Fr.app N38 Nq52
        have e52 : T52.heap = h38 := eq52
        have R53 : ∀ t, Steps p.tables e below (T52.setTop (mkF m 151 #[.val (.int p0), .val (.int p1), .val (.int p2), .val (.int p3), .val (.int p4), .val (.int (1 : Int32)), .val (.ref ap), .val (.int (2 : Int32)), .val (.ref r), .val (.int (0 : Int32)), .val (.int (p2 &&& (255 : Int32)))] [(.int (0 : Int32)), (.int (if ((nar .byte ((p2).toInt8.toInt32)) &&& (255 : Int32)) = (2 : Int32) then (1 : Int32) else (0 : Int32)))])) t → Steps p.tables e below (s₁.setTop (entryFrame m #[(.int p0), (.int p1), (.int p2), (.int p3), (.int p4)] maxLocals)) t := by
          intro t k
          refine R51 t ?_
          show Steps p.tables e below (T38.setTop (mkF m 146 #[.val (.int p0), .val (.int p1), .val (.int p2), .val (.int p3), .val (.int p4), .val (.int (1 : Int32)), .val (.ref ap), .val (.int (2 : Int32)), .val (.ref r), .val (.int (0 : Int32)), .val (.int (p2 &&& (255 : Int32)))] [(.ref r), (.ref ap)])) _
          refine st52.trans ?_
          show Steps p.tables e below (T52.setTop (mkF m 149 #[.val (.int p0), .val (.int p1), .val (.int p2), .val (.int p3), .val (.int p4), .val (.int (1 : Int32)), .val (.ref ap), .val (.int (2 : Int32)), .val (.ref r), .val (.int (0 : Int32)), .val (.int (p2 &&& (255 : Int32)))] [(.int (if ((nar .byte ((p2).toInt8.toInt32)) &&& (255 : Int32)) = (2 : Int32) then (1 : Int32) else (0 : Int32)))])) _
          refine XS.iload X52.here hx rfl (hb hby at_149) rfl ?_
          exact k
        rw [own_b0] at R53
        have R54 : ∀ t, Steps p.tables e below (T52.setTop (mkF m 159 #[.val (.int p0), .val (.int p1), .val (.int p2), .val (.int p3), .val (.int p4), .val (.int (1 : Int32)), .val (.ref ap), .val (.int (2 : Int32)), .val (.ref r), .val (.int (0 : Int32)), .val (.int (p2 &&& (255 : Int32)))] [(.int (1 : Int32))])) t → Steps p.tables e below (s₁.setTop (entryFrame m #[(.int p0), (.int p1), (.int p2), (.int p3), (.int p4)] maxLocals)) t := by
          intro t k
          refine R53 t ?_
          show Steps p.tables e below (T52.setTop (mkF m 151 #[.val (.int p0), .val (.int p1), .val (.int p2), .val (.int p3), .val (.int p4), .val (.int (1 : Int32)), .val (.ref ap), .val (.int (2 : Int32)), .val (.ref r), .val (.int (0 : Int32)), .val (.int (p2 &&& (255 : Int32)))] [(.int (0 : Int32)), (.int (if (p2 &&& (255 : Int32)) = (2 : Int32) then (1 : Int32) else (0 : Int32)))])) _
          refine XS.icmpNo X52.here hx rfl (hb hby at_151) rfl (teq (if_neg (fun q : (p2 &&& (255 : Int32)) = (2 : Int32) => hc40 (by rw [q]; decide)))).2 ?_
          show Steps p.tables e below (T52.setTop (mkF m 154 #[.val (.int p0), .val (.int p1), .val (.int p2), .val (.int p3), .val (.int p4), .val (.int (1 : Int32)), .val (.ref ap), .val (.int (2 : Int32)), .val (.ref r), .val (.int (0 : Int32)), .val (.int (p2 &&& (255 : Int32)))] [])) _
          refine XS.iconst X52.here hx rfl (hb hby at_154) ?_
          show Steps p.tables e below (T52.setTop (mkF m 155 #[.val (.int p0), .val (.int p1), .val (.int p2), .val (.int p3), .val (.int p4), .val (.int (1 : Int32)), .val (.ref ap), .val (.int (2 : Int32)), .val (.ref r), .val (.int (0 : Int32)), .val (.int (p2 &&& (255 : Int32)))] [(.int (1 : Int32))])) _
          refine XS.goto X52.here hx rfl (pc0 := 155) (pc' := 159) rfl (hb hby at_155) (by decide) (by decide) ?_
          exact k
        obtain ⟨fs, hr, hrun, hended, hW, hsame⟩ := X52.leave (v := some (.int (1 : Int32))) (fun h => by rw [Bd.returns] at h; cases h)
        refine ⟨_, _, R54 _ ?_, hrun, hended, _, _, rfl, ?_, ⟨_, rfl⟩, hW, hsame.mono (by decide) (by decide)⟩
        · exact retN X52 hx (t := .boolean) Bd.returns (by simp) (hb hby at_159) hr
        · show Q0 Z p0 p1 p2 p3 p4 ap av h0 n0 _ T52.heap _
          rw [e52]
          exact ⟨rfl, N52⟩
    ·
      rw [hv6] at R5
      obtain ⟨T55, h55, k55, X55, e55, E55, A55, st55⟩ := newP X4 hx hZ (hw _ (List.mem_of_getElem? (i := 3) rfl)) e4 (g := (mkF m 36 #[.val (.int p0), .val (.int p1), .val (.int p2), .val (.int p3), .val (.int p4), .val (.int (1 : Int32)), .val (.ref ap), .val (.int (3 : Int32)), .unset, .unset, .unset] [(.int (3 : Int32))])) rfl (hb hby at_36) rfl (by decide) (cap := 3) (by decide) (by decide) (by decide) (by decide)
      obtain ⟨r, g55⟩ : ∃ z, z = h0.size := ⟨_, rfl⟩
      rw [← g55] at A55 st55
      have ge_r : n0 ≤ r := by rw [g55]; exact Z0
      have Sz55 := Nat.le_trans Z0 E55.1
      have ne_ap_r : ap ≠ r := Nat.ne_of_lt (Nat.lt_of_lt_of_le E_ap.lt (Nat.le_of_eq g55.symm))
      have E_ap := E_ap.ext E55
      have F_identifier_ap := F_identifier_ap.ext E55
      have V_r : Arv Z h55 r k55 .byte (3 : Int32) [(.int (0 : Int32)), (.int (0 : Int32)), (.int (0 : Int32))] (.int (0 : Int32)) := (Arv.new A55 (by decide)).pad (pad_rep [] (.int (0 : Int32)) 3)
      have R56 : ∀ t, Steps p.tables e below (T55.setTop (mkF m 50 #[.val (.int p0), .val (.int p1), .val (.int p2), .val (.int p3), .val (.int p4), .val (.int (1 : Int32)), .val (.ref ap), .val (.int (3 : Int32)), .val (.ref r), .unset, .unset] [(.int ((p2).toInt8.toInt32)), (.int (0 : Int32)), (.ref r)])) t → Steps p.tables e below (s₁.setTop (entryFrame m #[(.int p0), (.int p1), (.int p2), (.int p3), (.int p4)] maxLocals)) t := by
        intro t k
        refine R5 t ?_
        show Steps p.tables e below (T4.setTop (mkF m 36 #[.val (.int p0), .val (.int p1), .val (.int p2), .val (.int p3), .val (.int p4), .val (.int (1 : Int32)), .val (.ref ap), .val (.int (3 : Int32)), .unset, .unset, .unset] [(.int (3 : Int32))])) _
        refine st55 _ ?_
        show Steps p.tables e below (T55.setTop (mkF m 38 #[.val (.int p0), .val (.int p1), .val (.int p2), .val (.int p3), .val (.int p4), .val (.int (1 : Int32)), .val (.ref ap), .val (.int (3 : Int32)), .unset, .unset, .unset] [(.ref r)])) _
        refine XS.astore X55.here hx rfl (hb hby at_38) rfl rfl (l' := #[.val (.int p0), .val (.int p1), .val (.int p2), .val (.int p3), .val (.int p4), .val (.int (1 : Int32)), .val (.ref ap), .val (.int (3 : Int32)), .val (.ref r), .unset, .unset]) rfl ?_
        show Steps p.tables e below (T55.setTop (mkF m 40 #[.val (.int p0), .val (.int p1), .val (.int p2), .val (.int p3), .val (.int p4), .val (.int (1 : Int32)), .val (.ref ap), .val (.int (3 : Int32)), .val (.ref r), .unset, .unset] [])) _
        refine XS.iload X55.here hx rfl (hb hby at_40) rfl ?_
        show Steps p.tables e below (T55.setTop (mkF m 42 #[.val (.int p0), .val (.int p1), .val (.int p2), .val (.int p3), .val (.int p4), .val (.int (1 : Int32)), .val (.ref ap), .val (.int (3 : Int32)), .val (.ref r), .unset, .unset] [(.int (3 : Int32))])) _
        refine XS.ifNo X55.here hx rfl (hb hby at_42) rfl ((if0 _ _).trans (tlt (by decide)).2.2.2) ?_
        show Steps p.tables e below (T55.setTop (mkF m 45 #[.val (.int p0), .val (.int p1), .val (.int p2), .val (.int p3), .val (.int p4), .val (.int (1 : Int32)), .val (.ref ap), .val (.int (3 : Int32)), .val (.ref r), .unset, .unset] [])) _
        refine XS.aload X55.here hx rfl (hb hby at_45) rfl rfl ?_
        show Steps p.tables e below (T55.setTop (mkF m 47 #[.val (.int p0), .val (.int p1), .val (.int p2), .val (.int p3), .val (.int p4), .val (.int (1 : Int32)), .val (.ref ap), .val (.int (3 : Int32)), .val (.ref r), .unset, .unset] [(.ref r)])) _
        refine XS.iconst X55.here hx rfl (hb hby at_47) ?_
        show Steps p.tables e below (T55.setTop (mkF m 48 #[.val (.int p0), .val (.int p1), .val (.int p2), .val (.int p3), .val (.int p4), .val (.int (1 : Int32)), .val (.ref ap), .val (.int (3 : Int32)), .val (.ref r), .unset, .unset] [(.int (0 : Int32)), (.ref r)])) _
        refine XS.iloadN X55.here hx rfl (hb hby at_48) rfl ?_
        show Steps p.tables e below (T55.setTop (mkF m 49 #[.val (.int p0), .val (.int p1), .val (.int p2), .val (.int p3), .val (.int p4), .val (.int (1 : Int32)), .val (.ref ap), .val (.int (3 : Int32)), .val (.ref r), .unset, .unset] [(.int p2), (.int (0 : Int32)), (.ref r)])) _
        refine XS.i2b X55.here hx rfl (hb hby at_49) rfl ?_
        exact k
      obtain ⟨cl57, Ar57, Aq57, As57, An57, Ah57, Ag57⟩ := id V_r
      have hin57 : ¬ ((0 : Int32) < 0 ∨ cl57.slots.size ≤ ((0 : Int32)).toNatClampNeg) := inb_of As57 ⟨by decide, by decide⟩
      obtain ⟨T58, h58, X58, e58, W58, st58⟩ := stB X55 hx hZ e55 Ar57 (j := (0 : Int32)) hin57 (g := (mkF m 50 #[.val (.int p0), .val (.int p1), .val (.int p2), .val (.int p3), .val (.int p4), .val (.int (1 : Int32)), .val (.ref ap), .val (.int (3 : Int32)), .val (.ref r), .unset, .unset] [(.int ((p2).toInt8.toInt32)), (.int (0 : Int32)), (.ref r)])) rfl rfl (hb hby at_50)
      have N58 := Fr.snoc X58 N0 ge_r
      have Sz58 := Nat.le_trans Sz55 (Keep.of_wr W58).1
      have E_ap := E_ap.wr W58
      have F_identifier_ap := F_identifier_ap.other W58 (Or.inl ne_ap_r)
      have V_r : Arv Z h58 r k55 .byte (3 : Int32) [(.int (nar .byte ((p2).toInt8.toInt32))), (.int (0 : Int32)), (.int (0 : Int32))] (.int (0 : Int32)) := Arv.set Ar57 Aq57 As57 An57 Ah57 Ag57 (fits_nar_byte _) W58 0 rfl (Nat.le_of_ble_eq_true rfl)
      have R59 : ∀ t, Steps p.tables e below (T58.setTop (mkF m 62 #[.val (.int p0), .val (.int p1), .val (.int p2), .val (.int p3), .val (.int p4), .val (.int (1 : Int32)), .val (.ref ap), .val (.int (3 : Int32)), .val (.ref r), .unset, .unset] [(.int ((p3).toInt8.toInt32)), (.int (1 : Int32)), (.ref r)])) t → Steps p.tables e below (s₁.setTop (entryFrame m #[(.int p0), (.int p1), (.int p2), (.int p3), (.int p4)] maxLocals)) t := by
        intro t k
        refine R56 t ?_
        show Steps p.tables e below (T55.setTop (mkF m 50 #[.val (.int p0), .val (.int p1), .val (.int p2), .val (.int p3), .val (.int p4), .val (.int (1 : Int32)), .val (.ref ap), .val (.int (3 : Int32)), .val (.ref r), .unset, .unset] [(.int ((p2).toInt8.toInt32)), (.int (0 : Int32)), (.ref r)])) _
        refine st58 _ ?_
        show Steps p.tables e below (T58.setTop (mkF m 51 #[.val (.int p0), .val (.int p1), .val (.int p2), .val (.int p3), .val (.int p4), .val (.int (1 : Int32)), .val (.ref ap), .val (.int (3 : Int32)), .val (.ref r), .unset, .unset] [])) _
        refine XS.iload X58.here hx rfl (hb hby at_51) rfl ?_
        show Steps p.tables e below (T58.setTop (mkF m 53 #[.val (.int p0), .val (.int p1), .val (.int p2), .val (.int p3), .val (.int p4), .val (.int (1 : Int32)), .val (.ref ap), .val (.int (3 : Int32)), .val (.ref r), .unset, .unset] [(.int (3 : Int32))])) _
        refine XS.iconst X58.here hx rfl (hb hby at_53) ?_
        show Steps p.tables e below (T58.setTop (mkF m 54 #[.val (.int p0), .val (.int p1), .val (.int p2), .val (.int p3), .val (.int p4), .val (.int (1 : Int32)), .val (.ref ap), .val (.int (3 : Int32)), .val (.ref r), .unset, .unset] [(.int (1 : Int32)), (.int (3 : Int32))])) _
        refine XS.icmpNo X58.here hx rfl (hb hby at_54) rfl (tlt (by decide)).2.2.2 ?_
        show Steps p.tables e below (T58.setTop (mkF m 57 #[.val (.int p0), .val (.int p1), .val (.int p2), .val (.int p3), .val (.int p4), .val (.int (1 : Int32)), .val (.ref ap), .val (.int (3 : Int32)), .val (.ref r), .unset, .unset] [])) _
        refine XS.aload X58.here hx rfl (hb hby at_57) rfl rfl ?_
        show Steps p.tables e below (T58.setTop (mkF m 59 #[.val (.int p0), .val (.int p1), .val (.int p2), .val (.int p3), .val (.int p4), .val (.int (1 : Int32)), .val (.ref ap), .val (.int (3 : Int32)), .val (.ref r), .unset, .unset] [(.ref r)])) _
        refine XS.iconst X58.here hx rfl (hb hby at_59) ?_
        show Steps p.tables e below (T58.setTop (mkF m 60 #[.val (.int p0), .val (.int p1), .val (.int p2), .val (.int p3), .val (.int p4), .val (.int (1 : Int32)), .val (.ref ap), .val (.int (3 : Int32)), .val (.ref r), .unset, .unset] [(.int (1 : Int32)), (.ref r)])) _
        refine XS.iloadN X58.here hx rfl (hb hby at_60) rfl ?_
        show Steps p.tables e below (T58.setTop (mkF m 61 #[.val (.int p0), .val (.int p1), .val (.int p2), .val (.int p3), .val (.int p4), .val (.int (1 : Int32)), .val (.ref ap), .val (.int (3 : Int32)), .val (.ref r), .unset, .unset] [(.int p3), (.int (1 : Int32)), (.ref r)])) _
        refine XS.i2b X58.here hx rfl (hb hby at_61) rfl ?_
        exact k
      obtain ⟨cl60, Ar60, Aq60, As60, An60, Ah60, Ag60⟩ := id V_r
      have hin60 : ¬ ((1 : Int32) < 0 ∨ cl60.slots.size ≤ ((1 : Int32)).toNatClampNeg) := inb_of As60 ⟨by decide, by decide⟩
      obtain ⟨T61, h61, X61, e61, W61, st61⟩ := stB X58 hx hZ e58 Ar60 (j := (1 : Int32)) hin60 (g := (mkF m 62 #[.val (.int p0), .val (.int p1), .val (.int p2), .val (.int p3), .val (.int p4), .val (.int (1 : Int32)), .val (.ref ap), .val (.int (3 : Int32)), .val (.ref r), .unset, .unset] [(.int ((p3).toInt8.toInt32)), (.int (1 : Int32)), (.ref r)])) rfl rfl (hb hby at_62)
      have N61 := Fr.snoc X61 N58 ge_r
      have Sz61 := Nat.le_trans Sz58 (Keep.of_wr W61).1
      have E_ap := E_ap.wr W61
      have F_identifier_ap := F_identifier_ap.other W61 (Or.inl ne_ap_r)
      have V_r : Arv Z h61 r k55 .byte (3 : Int32) [(.int (nar .byte ((p2).toInt8.toInt32))), (.int (nar .byte ((p3).toInt8.toInt32))), (.int (0 : Int32))] (.int (0 : Int32)) := Arv.set Ar60 Aq60 As60 An60 Ah60 Ag60 (fits_nar_byte _) W61 1 rfl (Nat.le_of_ble_eq_true rfl)
      have R62 : ∀ t, Steps p.tables e below (T61.setTop (mkF m 75 #[.val (.int p0), .val (.int p1), .val (.int p2), .val (.int p3), .val (.int p4), .val (.int (1 : Int32)), .val (.ref ap), .val (.int (3 : Int32)), .val (.ref r), .unset, .unset] [(.int ((p4).toInt8.toInt32)), (.int (2 : Int32)), (.ref r)])) t → Steps p.tables e below (s₁.setTop (entryFrame m #[(.int p0), (.int p1), (.int p2), (.int p3), (.int p4)] maxLocals)) t := by
        intro t k
        refine R59 t ?_
        show Steps p.tables e below (T58.setTop (mkF m 62 #[.val (.int p0), .val (.int p1), .val (.int p2), .val (.int p3), .val (.int p4), .val (.int (1 : Int32)), .val (.ref ap), .val (.int (3 : Int32)), .val (.ref r), .unset, .unset] [(.int ((p3).toInt8.toInt32)), (.int (1 : Int32)), (.ref r)])) _
        refine st61 _ ?_
        show Steps p.tables e below (T61.setTop (mkF m 63 #[.val (.int p0), .val (.int p1), .val (.int p2), .val (.int p3), .val (.int p4), .val (.int (1 : Int32)), .val (.ref ap), .val (.int (3 : Int32)), .val (.ref r), .unset, .unset] [])) _
        refine XS.iload X61.here hx rfl (hb hby at_63) rfl ?_
        show Steps p.tables e below (T61.setTop (mkF m 65 #[.val (.int p0), .val (.int p1), .val (.int p2), .val (.int p3), .val (.int p4), .val (.int (1 : Int32)), .val (.ref ap), .val (.int (3 : Int32)), .val (.ref r), .unset, .unset] [(.int (3 : Int32))])) _
        refine XS.iconst X61.here hx rfl (hb hby at_65) ?_
        show Steps p.tables e below (T61.setTop (mkF m 66 #[.val (.int p0), .val (.int p1), .val (.int p2), .val (.int p3), .val (.int p4), .val (.int (1 : Int32)), .val (.ref ap), .val (.int (3 : Int32)), .val (.ref r), .unset, .unset] [(.int (2 : Int32)), (.int (3 : Int32))])) _
        refine XS.icmpNo X61.here hx rfl (hb hby at_66) rfl (tlt (by decide)).2.2.2 ?_
        show Steps p.tables e below (T61.setTop (mkF m 69 #[.val (.int p0), .val (.int p1), .val (.int p2), .val (.int p3), .val (.int p4), .val (.int (1 : Int32)), .val (.ref ap), .val (.int (3 : Int32)), .val (.ref r), .unset, .unset] [])) _
        refine XS.aload X61.here hx rfl (hb hby at_69) rfl rfl ?_
        show Steps p.tables e below (T61.setTop (mkF m 71 #[.val (.int p0), .val (.int p1), .val (.int p2), .val (.int p3), .val (.int p4), .val (.int (1 : Int32)), .val (.ref ap), .val (.int (3 : Int32)), .val (.ref r), .unset, .unset] [(.ref r)])) _
        refine XS.iconst X61.here hx rfl (hb hby at_71) ?_
        show Steps p.tables e below (T61.setTop (mkF m 72 #[.val (.int p0), .val (.int p1), .val (.int p2), .val (.int p3), .val (.int p4), .val (.int (1 : Int32)), .val (.ref ap), .val (.int (3 : Int32)), .val (.ref r), .unset, .unset] [(.int (2 : Int32)), (.ref r)])) _
        refine XS.iload X61.here hx rfl (hb hby at_72) rfl ?_
        show Steps p.tables e below (T61.setTop (mkF m 74 #[.val (.int p0), .val (.int p1), .val (.int p2), .val (.int p3), .val (.int p4), .val (.int (1 : Int32)), .val (.ref ap), .val (.int (3 : Int32)), .val (.ref r), .unset, .unset] [(.int p4), (.int (2 : Int32)), (.ref r)])) _
        refine XS.i2b X61.here hx rfl (hb hby at_74) rfl ?_
        exact k
      obtain ⟨cl63, Ar63, Aq63, As63, An63, Ah63, Ag63⟩ := id V_r
      have hin63 : ¬ ((2 : Int32) < 0 ∨ cl63.slots.size ≤ ((2 : Int32)).toNatClampNeg) := inb_of As63 ⟨by decide, by decide⟩
      obtain ⟨T64, h64, X64, e64, W64, st64⟩ := stB X61 hx hZ e61 Ar63 (j := (2 : Int32)) hin63 (g := (mkF m 75 #[.val (.int p0), .val (.int p1), .val (.int p2), .val (.int p3), .val (.int p4), .val (.int (1 : Int32)), .val (.ref ap), .val (.int (3 : Int32)), .val (.ref r), .unset, .unset] [(.int ((p4).toInt8.toInt32)), (.int (2 : Int32)), (.ref r)])) rfl rfl (hb hby at_75)
      have N64 := Fr.snoc X64 N61 ge_r
      have Sz64 := Nat.le_trans Sz61 (Keep.of_wr W64).1
      have E_ap := E_ap.wr W64
      have F_identifier_ap := F_identifier_ap.other W64 (Or.inl ne_ap_r)
      have V_r : Arv Z h64 r k55 .byte (3 : Int32) [(.int (nar .byte ((p2).toInt8.toInt32))), (.int (nar .byte ((p3).toInt8.toInt32))), (.int (nar .byte ((p4).toInt8.toInt32)))] (.int (0 : Int32)) := Arv.set Ar63 Aq63 As63 An63 Ah63 Ag63 (fits_nar_byte _) W64 2 rfl (Nat.le_of_ble_eq_true rfl)
      have R65 : ∀ t, Steps p.tables e below (T64.setTop (mkF m 99 #[.val (.int p0), .val (.int p1), .val (.int p2), .val (.int p3), .val (.int p4), .val (.int (1 : Int32)), .val (.ref ap), .val (.int (3 : Int32)), .val (.ref r), .unset, .val (.int (p2 &&& (255 : Int32)))] [(.int (128 : Int32)), (.int (p2 &&& (255 : Int32)))])) t → Steps p.tables e below (s₁.setTop (entryFrame m #[(.int p0), (.int p1), (.int p2), (.int p3), (.int p4)] maxLocals)) t := by
        intro t k
        refine R62 t ?_
        show Steps p.tables e below (T61.setTop (mkF m 75 #[.val (.int p0), .val (.int p1), .val (.int p2), .val (.int p3), .val (.int p4), .val (.int (1 : Int32)), .val (.ref ap), .val (.int (3 : Int32)), .val (.ref r), .unset, .unset] [(.int ((p4).toInt8.toInt32)), (.int (2 : Int32)), (.ref r)])) _
        refine st64 _ ?_
        show Steps p.tables e below (T64.setTop (mkF m 76 #[.val (.int p0), .val (.int p1), .val (.int p2), .val (.int p3), .val (.int p4), .val (.int (1 : Int32)), .val (.ref ap), .val (.int (3 : Int32)), .val (.ref r), .unset, .unset] [])) _
        refine XS.iload X64.here hx rfl (hb hby at_76) rfl ?_
        show Steps p.tables e below (T64.setTop (mkF m 78 #[.val (.int p0), .val (.int p1), .val (.int p2), .val (.int p3), .val (.int p4), .val (.int (1 : Int32)), .val (.ref ap), .val (.int (3 : Int32)), .val (.ref r), .unset, .unset] [(.int (3 : Int32))])) _
        refine XS.ifYes X64.here hx rfl (pc0 := 78) (pc' := 87) rfl (hb hby at_78) rfl ((if0 _ _).trans (feq (by decide)).2) (by decide) (by decide) ?_
        show Steps p.tables e below (T64.setTop (mkF m 87 #[.val (.int p0), .val (.int p1), .val (.int p2), .val (.int p3), .val (.int p4), .val (.int (1 : Int32)), .val (.ref ap), .val (.int (3 : Int32)), .val (.ref r), .unset, .unset] [])) _
        refine XS.iloadN X64.here hx rfl (hb hby at_87) rfl ?_
        show Steps p.tables e below (T64.setTop (mkF m 88 #[.val (.int p0), .val (.int p1), .val (.int p2), .val (.int p3), .val (.int p4), .val (.int (1 : Int32)), .val (.ref ap), .val (.int (3 : Int32)), .val (.ref r), .unset, .unset] [(.int p2)])) _
        refine XS.sipush X64.here hx rfl (hb hby at_88) ?_
        show Steps p.tables e below (T64.setTop (mkF m 91 #[.val (.int p0), .val (.int p1), .val (.int p2), .val (.int p3), .val (.int p4), .val (.int (1 : Int32)), .val (.ref ap), .val (.int (3 : Int32)), .val (.ref r), .unset, .unset] [(.int (255 : Int32)), (.int p2)])) _
        refine XS.iand X64.here hx rfl (hb hby at_91) rfl ?_
        show Steps p.tables e below (T64.setTop (mkF m 92 #[.val (.int p0), .val (.int p1), .val (.int p2), .val (.int p3), .val (.int p4), .val (.int (1 : Int32)), .val (.ref ap), .val (.int (3 : Int32)), .val (.ref r), .unset, .unset] [(.int (p2 &&& (255 : Int32)))])) _
        refine XS.istore X64.here hx rfl (hb hby at_92) rfl (l' := #[.val (.int p0), .val (.int p1), .val (.int p2), .val (.int p3), .val (.int p4), .val (.int (1 : Int32)), .val (.ref ap), .val (.int (3 : Int32)), .val (.ref r), .unset, .val (.int (p2 &&& (255 : Int32)))]) rfl ?_
        show Steps p.tables e below (T64.setTop (mkF m 94 #[.val (.int p0), .val (.int p1), .val (.int p2), .val (.int p3), .val (.int p4), .val (.int (1 : Int32)), .val (.ref ap), .val (.int (3 : Int32)), .val (.ref r), .unset, .val (.int (p2 &&& (255 : Int32)))] [])) _
        refine XS.iload X64.here hx rfl (hb hby at_94) rfl ?_
        show Steps p.tables e below (T64.setTop (mkF m 96 #[.val (.int p0), .val (.int p1), .val (.int p2), .val (.int p3), .val (.int p4), .val (.int (1 : Int32)), .val (.ref ap), .val (.int (3 : Int32)), .val (.ref r), .unset, .val (.int (p2 &&& (255 : Int32)))] [(.int (p2 &&& (255 : Int32)))])) _
        refine XS.sipush X64.here hx rfl (hb hby at_96) ?_
        exact k
      by_cases hc66 : (p2 &&& (255 : Int32)) < (128 : Int32)
      ·
        skip
        have R67 : ∀ t, Steps p.tables e below (T64.setTop (mkF m 116 #[.val (.int p0), .val (.int p1), .val (.int p2), .val (.int p3), .val (.int p4), .val (.int (1 : Int32)), .val (.ref ap), .val (.int (3 : Int32)), .val (.ref r), .unset, .val (.int (p2 &&& (255 : Int32)))] [(.int (2 : Int32)), (.int (p2 &&& (255 : Int32)))])) t → Steps p.tables e below (s₁.setTop (entryFrame m #[(.int p0), (.int p1), (.int p2), (.int p3), (.int p4)] maxLocals)) t := by
          intro t k
          refine R65 t ?_
          show Steps p.tables e below (T64.setTop (mkF m 99 #[.val (.int p0), .val (.int p1), .val (.int p2), .val (.int p3), .val (.int p4), .val (.int (1 : Int32)), .val (.ref ap), .val (.int (3 : Int32)), .val (.ref r), .unset, .val (.int (p2 &&& (255 : Int32)))] [(.int (128 : Int32)), (.int (p2 &&& (255 : Int32)))])) _
          refine XS.icmpYes X64.here hx rfl (pc0 := 99) (pc' := 108) rfl (hb hby at_99) rfl (tlt hc66).1 (by decide) (by decide) ?_
          show Steps p.tables e below (T64.setTop (mkF m 108 #[.val (.int p0), .val (.int p1), .val (.int p2), .val (.int p3), .val (.int p4), .val (.int (1 : Int32)), .val (.ref ap), .val (.int (3 : Int32)), .val (.ref r), .unset, .val (.int (p2 &&& (255 : Int32)))] [])) _
          refine XS.iload X64.here hx rfl (hb hby at_108) rfl ?_
          show Steps p.tables e below (T64.setTop (mkF m 110 #[.val (.int p0), .val (.int p1), .val (.int p2), .val (.int p3), .val (.int p4), .val (.int (1 : Int32)), .val (.ref ap), .val (.int (3 : Int32)), .val (.ref r), .unset, .val (.int (p2 &&& (255 : Int32)))] [(.int (1 : Int32))])) _
          refine XS.ifNo X64.here hx rfl (hb hby at_110) rfl ((if0 _ _).trans (feq (by decide)).1) ?_
          show Steps p.tables e below (T64.setTop (mkF m 113 #[.val (.int p0), .val (.int p1), .val (.int p2), .val (.int p3), .val (.int p4), .val (.int (1 : Int32)), .val (.ref ap), .val (.int (3 : Int32)), .val (.ref r), .unset, .val (.int (p2 &&& (255 : Int32)))] [])) _
          refine XS.iload X64.here hx rfl (hb hby at_113) rfl ?_
          show Steps p.tables e below (T64.setTop (mkF m 115 #[.val (.int p0), .val (.int p1), .val (.int p2), .val (.int p3), .val (.int p4), .val (.int (1 : Int32)), .val (.ref ap), .val (.int (3 : Int32)), .val (.ref r), .unset, .val (.int (p2 &&& (255 : Int32)))] [(.int (p2 &&& (255 : Int32)))])) _
          refine XS.iconst X64.here hx rfl (hb hby at_115) ?_
          exact k
        by_cases hc68 : (p2 &&& (255 : Int32)) = (2 : Int32)
        ·
          skip
          have R69 : ∀ t, Steps p.tables e below (T64.setTop (mkF m 146 #[.val (.int p0), .val (.int p1), .val (.int p2), .val (.int p3), .val (.int p4), .val (.int (1 : Int32)), .val (.ref ap), .val (.int (3 : Int32)), .val (.ref r), .val (.int (1 : Int32)), .val (.int (p2 &&& (255 : Int32)))] [(.ref r), (.ref ap)])) t → Steps p.tables e below (s₁.setTop (entryFrame m #[(.int p0), (.int p1), (.int p2), (.int p3), (.int p4)] maxLocals)) t := by
            intro t k
            refine R67 t ?_
            show Steps p.tables e below (T64.setTop (mkF m 116 #[.val (.int p0), .val (.int p1), .val (.int p2), .val (.int p3), .val (.int p4), .val (.int (1 : Int32)), .val (.ref ap), .val (.int (3 : Int32)), .val (.ref r), .unset, .val (.int (p2 &&& (255 : Int32)))] [(.int (2 : Int32)), (.int (p2 &&& (255 : Int32)))])) _
            refine XS.icmpNo X64.here hx rfl (hb hby at_116) rfl (teq hc68).2 ?_
            show Steps p.tables e below (T64.setTop (mkF m 119 #[.val (.int p0), .val (.int p1), .val (.int p2), .val (.int p3), .val (.int p4), .val (.int (1 : Int32)), .val (.ref ap), .val (.int (3 : Int32)), .val (.ref r), .unset, .val (.int (p2 &&& (255 : Int32)))] [])) _
            refine XS.iconst X64.here hx rfl (hb hby at_119) ?_
            show Steps p.tables e below (T64.setTop (mkF m 120 #[.val (.int p0), .val (.int p1), .val (.int p2), .val (.int p3), .val (.int p4), .val (.int (1 : Int32)), .val (.ref ap), .val (.int (3 : Int32)), .val (.ref r), .unset, .val (.int (p2 &&& (255 : Int32)))] [(.int (1 : Int32))])) _
            refine XS.goto X64.here hx rfl (pc0 := 120) (pc' := 124) rfl (hb hby at_120) (by decide) (by decide) ?_
            show Steps p.tables e below (T64.setTop (mkF m 124 #[.val (.int p0), .val (.int p1), .val (.int p2), .val (.int p3), .val (.int p4), .val (.int (1 : Int32)), .val (.ref ap), .val (.int (3 : Int32)), .val (.ref r), .unset, .val (.int (p2 &&& (255 : Int32)))] [(.int (1 : Int32))])) _
            refine XS.istore X64.here hx rfl (hb hby at_124) rfl (l' := #[.val (.int p0), .val (.int p1), .val (.int p2), .val (.int p3), .val (.int p4), .val (.int (1 : Int32)), .val (.ref ap), .val (.int (3 : Int32)), .val (.ref r), .val (.int (1 : Int32)), .val (.int (p2 &&& (255 : Int32)))]) rfl ?_
            show Steps p.tables e below (T64.setTop (mkF m 126 #[.val (.int p0), .val (.int p1), .val (.int p2), .val (.int p3), .val (.int p4), .val (.int (1 : Int32)), .val (.ref ap), .val (.int (3 : Int32)), .val (.ref r), .val (.int (1 : Int32)), .val (.int (p2 &&& (255 : Int32)))] [])) _
            refine XS.goto X64.here hx rfl (pc0 := 126) (pc' := 142) rfl (hb hby at_126) (by decide) (by decide) ?_
            show Steps p.tables e below (T64.setTop (mkF m 142 #[.val (.int p0), .val (.int p1), .val (.int p2), .val (.int p3), .val (.int p4), .val (.int (1 : Int32)), .val (.ref ap), .val (.int (3 : Int32)), .val (.ref r), .val (.int (1 : Int32)), .val (.int (p2 &&& (255 : Int32)))] [])) _
            refine XS.aload X64.here hx rfl (hb hby at_142) rfl rfl ?_
            show Steps p.tables e below (T64.setTop (mkF m 144 #[.val (.int p0), .val (.int p1), .val (.int p2), .val (.int p3), .val (.int p4), .val (.int (1 : Int32)), .val (.ref ap), .val (.int (3 : Int32)), .val (.ref r), .val (.int (1 : Int32)), .val (.int (p2 &&& (255 : Int32)))] [(.ref ap)])) _
            refine XS.aload X64.here hx rfl (hb hby at_144) rfl rfl ?_
            exact k
          obtain ⟨cq70, kq70, q70a, q70b, q70c⟩ := isOf hZ e64 E_ap
          obtain ⟨_, _, ⟨T70, L70, k70, n70⟩, -, X70, ⟨Lc70, hQ70, l70, y70, z70⟩, st70⟩ := X64.virtualBack hx (y := (⟨"com/example/tapline/reader/Kernel", "isRequestedBy", "([B)Z"⟩ : MethodName)) (z := (⟨"com/example/tapline/reader/Kernel", "isRequestedBy", "([B)Z"⟩ : MethodName)) hown (mvT hZ (hw _ (List.mem_of_getElem? (i := 4) rfl))) (mvT hZ (hw _ (List.mem_of_getElem? (i := 5) rfl))) (notFace_of_selects (args := #[]) (mvT hZ (hw _ (List.mem_of_getElem? (i := 7) rfl)))) (mvT hZ (hw _ (List.mem_of_getElem? (i := 7) rfl))) (mvT hZ (hw _ (List.mem_of_getElem? (i := 6) rfl))) (by decide) (backOf (W := 0) (rm1n3 l Z a0 hw [] ap r k55 (2 : Int32) (nar .byte ((p2).toInt8.toInt32)) (nar .byte ((p3).toInt8.toInt32)) (nar .byte ((p4).toInt8.toInt32)) h64 n0 Sz64 F_identifier_ap V_r) hZ (hw _ (List.mem_of_getElem? (i := 8) rfl)) (hw _ (List.mem_of_getElem? (i := 1) rfl)) (by decide) (by decide)) q70a q70c (g := (mkF m 146 #[.val (.int p0), .val (.int p1), .val (.int p2), .val (.int p3), .val (.int p4), .val (.int (1 : Int32)), .val (.ref ap), .val (.int (3 : Int32)), .val (.ref r), .val (.int (1 : Int32)), .val (.int (p2 &&& (255 : Int32)))] [(.ref r), (.ref ap)])) rfl (by rw [hml]; rfl) (Steps.refl _) (argsL := [(.ref r)]) (rest := []) (lenOf pd_0 rfl) rfl (by show 2 * 0 + _ ≤ _; exact Nat.le_of_eq rfl) (hb hby at_146) (fun _ _ => ⟨rfl, e64, (by decide : 1 + 0 ≤ _), (by decide : 3 + 0 ≤ _)⟩)
          dsimp only [Pt.U, Pt.locs, Pt.cells, Pt.slots] at X70 l70 y70 z70 st70 hQ70
          subst l70 y70 z70
          obtain ⟨rfl, Nq70, eq70⟩ := hQ70
          have N70 := Fr.app N64 Nq70
          have e70 : T70.heap = h64 := eq70
          have R71 : ∀ t, Steps p.tables e below (T70.setTop (mkF m 151 #[.val (.int p0), .val (.int p1), .val (.int p2), .val (.int p3), .val (.int p4), .val (.int (1 : Int32)), .val (.ref ap), .val (.int (3 : Int32)), .val (.ref r), .val (.int (1 : Int32)), .val (.int (p2 &&& (255 : Int32)))] [(.int (1 : Int32)), (.int (if ((nar .byte ((p2).toInt8.toInt32)) &&& (255 : Int32)) = (2 : Int32) then (1 : Int32) else (0 : Int32)))])) t → Steps p.tables e below (s₁.setTop (entryFrame m #[(.int p0), (.int p1), (.int p2), (.int p3), (.int p4)] maxLocals)) t := by
            intro t k
            refine R69 t ?_
            show Steps p.tables e below (T64.setTop (mkF m 146 #[.val (.int p0), .val (.int p1), .val (.int p2), .val (.int p3), .val (.int p4), .val (.int (1 : Int32)), .val (.ref ap), .val (.int (3 : Int32)), .val (.ref r), .val (.int (1 : Int32)), .val (.int (p2 &&& (255 : Int32)))] [(.ref r), (.ref ap)])) _
            refine st70.trans ?_
            show Steps p.tables e below (T70.setTop (mkF m 149 #[.val (.int p0), .val (.int p1), .val (.int p2), .val (.int p3), .val (.int p4), .val (.int (1 : Int32)), .val (.ref ap), .val (.int (3 : Int32)), .val (.ref r), .val (.int (1 : Int32)), .val (.int (p2 &&& (255 : Int32)))] [(.int (if ((nar .byte ((p2).toInt8.toInt32)) &&& (255 : Int32)) = (2 : Int32) then (1 : Int32) else (0 : Int32)))])) _
            refine XS.iload X70.here hx rfl (hb hby at_149) rfl ?_
            exact k
          rw [own_b0] at R71
          have R72 : ∀ t, Steps p.tables e below (T70.setTop (mkF m 159 #[.val (.int p0), .val (.int p1), .val (.int p2), .val (.int p3), .val (.int p4), .val (.int (1 : Int32)), .val (.ref ap), .val (.int (3 : Int32)), .val (.ref r), .val (.int (1 : Int32)), .val (.int (p2 &&& (255 : Int32)))] [(.int (1 : Int32))])) t → Steps p.tables e below (s₁.setTop (entryFrame m #[(.int p0), (.int p1), (.int p2), (.int p3), (.int p4)] maxLocals)) t := by
            intro t k
            refine R71 t ?_
            show Steps p.tables e below (T70.setTop (mkF m 151 #[.val (.int p0), .val (.int p1), .val (.int p2), .val (.int p3), .val (.int p4), .val (.int (1 : Int32)), .val (.ref ap), .val (.int (3 : Int32)), .val (.ref r), .val (.int (1 : Int32)), .val (.int (p2 &&& (255 : Int32)))] [(.int (1 : Int32)), (.int (if (p2 &&& (255 : Int32)) = (2 : Int32) then (1 : Int32) else (0 : Int32)))])) _
            refine XS.icmpNo X70.here hx rfl (hb hby at_151) rfl (teq (if_pos hc68)).2 ?_
            show Steps p.tables e below (T70.setTop (mkF m 154 #[.val (.int p0), .val (.int p1), .val (.int p2), .val (.int p3), .val (.int p4), .val (.int (1 : Int32)), .val (.ref ap), .val (.int (3 : Int32)), .val (.ref r), .val (.int (1 : Int32)), .val (.int (p2 &&& (255 : Int32)))] [])) _
            refine XS.iconst X70.here hx rfl (hb hby at_154) ?_
            show Steps p.tables e below (T70.setTop (mkF m 155 #[.val (.int p0), .val (.int p1), .val (.int p2), .val (.int p3), .val (.int p4), .val (.int (1 : Int32)), .val (.ref ap), .val (.int (3 : Int32)), .val (.ref r), .val (.int (1 : Int32)), .val (.int (p2 &&& (255 : Int32)))] [(.int (1 : Int32))])) _
            refine XS.goto X70.here hx rfl (pc0 := 155) (pc' := 159) rfl (hb hby at_155) (by decide) (by decide) ?_
            exact k
          obtain ⟨fs, hr, hrun, hended, hW, hsame⟩ := X70.leave (v := some (.int (1 : Int32))) (fun h => by rw [Bd.returns] at h; cases h)
          refine ⟨_, _, R72 _ ?_, hrun, hended, _, _, rfl, ?_, ⟨_, rfl⟩, hW, hsame.mono (by decide) (by decide)⟩
          · exact retN X70 hx (t := .boolean) Bd.returns (by simp) (hb hby at_159) hr
          · show Q0 Z p0 p1 p2 p3 p4 ap av h0 n0 _ T70.heap _
            rw [e70]
            exact ⟨rfl, N70⟩
        ·
          skip
          have R73 : ∀ t, Steps p.tables e below (T64.setTop (mkF m 146 #[.val (.int p0), .val (.int p1), .val (.int p2), .val (.int p3), .val (.int p4), .val (.int (1 : Int32)), .val (.ref ap), .val (.int (3 : Int32)), .val (.ref r), .val (.int (0 : Int32)), .val (.int (p2 &&& (255 : Int32)))] [(.ref r), (.ref ap)])) t → Steps p.tables e below (s₁.setTop (entryFrame m #[(.int p0), (.int p1), (.int p2), (.int p3), (.int p4)] maxLocals)) t := by
            intro t k
            refine R67 t ?_
            show Steps p.tables e below (T64.setTop (mkF m 116 #[.val (.int p0), .val (.int p1), .val (.int p2), .val (.int p3), .val (.int p4), .val (.int (1 : Int32)), .val (.ref ap), .val (.int (3 : Int32)), .val (.ref r), .unset, .val (.int (p2 &&& (255 : Int32)))] [(.int (2 : Int32)), (.int (p2 &&& (255 : Int32)))])) _
            refine XS.icmpYes X64.here hx rfl (pc0 := 116) (pc' := 123) rfl (hb hby at_116) rfl (feq hc68).2 (by decide) (by decide) ?_
            show Steps p.tables e below (T64.setTop (mkF m 123 #[.val (.int p0), .val (.int p1), .val (.int p2), .val (.int p3), .val (.int p4), .val (.int (1 : Int32)), .val (.ref ap), .val (.int (3 : Int32)), .val (.ref r), .unset, .val (.int (p2 &&& (255 : Int32)))] [])) _
            refine XS.iconst X64.here hx rfl (hb hby at_123) ?_
            show Steps p.tables e below (T64.setTop (mkF m 124 #[.val (.int p0), .val (.int p1), .val (.int p2), .val (.int p3), .val (.int p4), .val (.int (1 : Int32)), .val (.ref ap), .val (.int (3 : Int32)), .val (.ref r), .unset, .val (.int (p2 &&& (255 : Int32)))] [(.int (0 : Int32))])) _
            refine XS.istore X64.here hx rfl (hb hby at_124) rfl (l' := #[.val (.int p0), .val (.int p1), .val (.int p2), .val (.int p3), .val (.int p4), .val (.int (1 : Int32)), .val (.ref ap), .val (.int (3 : Int32)), .val (.ref r), .val (.int (0 : Int32)), .val (.int (p2 &&& (255 : Int32)))]) rfl ?_
            show Steps p.tables e below (T64.setTop (mkF m 126 #[.val (.int p0), .val (.int p1), .val (.int p2), .val (.int p3), .val (.int p4), .val (.int (1 : Int32)), .val (.ref ap), .val (.int (3 : Int32)), .val (.ref r), .val (.int (0 : Int32)), .val (.int (p2 &&& (255 : Int32)))] [])) _
            refine XS.goto X64.here hx rfl (pc0 := 126) (pc' := 142) rfl (hb hby at_126) (by decide) (by decide) ?_
            show Steps p.tables e below (T64.setTop (mkF m 142 #[.val (.int p0), .val (.int p1), .val (.int p2), .val (.int p3), .val (.int p4), .val (.int (1 : Int32)), .val (.ref ap), .val (.int (3 : Int32)), .val (.ref r), .val (.int (0 : Int32)), .val (.int (p2 &&& (255 : Int32)))] [])) _
            refine XS.aload X64.here hx rfl (hb hby at_142) rfl rfl ?_
            show Steps p.tables e below (T64.setTop (mkF m 144 #[.val (.int p0), .val (.int p1), .val (.int p2), .val (.int p3), .val (.int p4), .val (.int (1 : Int32)), .val (.ref ap), .val (.int (3 : Int32)), .val (.ref r), .val (.int (0 : Int32)), .val (.int (p2 &&& (255 : Int32)))] [(.ref ap)])) _
            refine XS.aload X64.here hx rfl (hb hby at_144) rfl rfl ?_
            exact k
          obtain ⟨cq74, kq74, q74a, q74b, q74c⟩ := isOf hZ e64 E_ap
          obtain ⟨_, _, ⟨T74, L74, k74, n74⟩, -, X74, ⟨Lc74, hQ74, l74, y74, z74⟩, st74⟩ := X64.virtualBack hx (y := (⟨"com/example/tapline/reader/Kernel", "isRequestedBy", "([B)Z"⟩ : MethodName)) (z := (⟨"com/example/tapline/reader/Kernel", "isRequestedBy", "([B)Z"⟩ : MethodName)) hown (mvT hZ (hw _ (List.mem_of_getElem? (i := 4) rfl))) (mvT hZ (hw _ (List.mem_of_getElem? (i := 5) rfl))) (notFace_of_selects (args := #[]) (mvT hZ (hw _ (List.mem_of_getElem? (i := 7) rfl)))) (mvT hZ (hw _ (List.mem_of_getElem? (i := 7) rfl))) (mvT hZ (hw _ (List.mem_of_getElem? (i := 6) rfl))) (by decide) (backOf (W := 0) (rm1n3 l Z a0 hw [] ap r k55 (2 : Int32) (nar .byte ((p2).toInt8.toInt32)) (nar .byte ((p3).toInt8.toInt32)) (nar .byte ((p4).toInt8.toInt32)) h64 n0 Sz64 F_identifier_ap V_r) hZ (hw _ (List.mem_of_getElem? (i := 8) rfl)) (hw _ (List.mem_of_getElem? (i := 1) rfl)) (by decide) (by decide)) q74a q74c (g := (mkF m 146 #[.val (.int p0), .val (.int p1), .val (.int p2), .val (.int p3), .val (.int p4), .val (.int (1 : Int32)), .val (.ref ap), .val (.int (3 : Int32)), .val (.ref r), .val (.int (0 : Int32)), .val (.int (p2 &&& (255 : Int32)))] [(.ref r), (.ref ap)])) rfl (by rw [hml]; rfl) (Steps.refl _) (argsL := [(.ref r)]) (rest := []) (lenOf pd_0 rfl) rfl (by show 2 * 0 + _ ≤ _; exact Nat.le_of_eq rfl) (hb hby at_146) (fun _ _ => ⟨rfl, e64, (by decide : 1 + 0 ≤ _), (by decide : 3 + 0 ≤ _)⟩)
          dsimp only [Pt.U, Pt.locs, Pt.cells, Pt.slots] at X74 l74 y74 z74 st74 hQ74
          subst l74 y74 z74
          obtain ⟨rfl, Nq74, eq74⟩ := hQ74
          have N74 := Fr.app N64 Nq74
          have e74 : T74.heap = h64 := eq74
          have R75 : ∀ t, Steps p.tables e below (T74.setTop (mkF m 151 #[.val (.int p0), .val (.int p1), .val (.int p2), .val (.int p3), .val (.int p4), .val (.int (1 : Int32)), .val (.ref ap), .val (.int (3 : Int32)), .val (.ref r), .val (.int (0 : Int32)), .val (.int (p2 &&& (255 : Int32)))] [(.int (0 : Int32)), (.int (if ((nar .byte ((p2).toInt8.toInt32)) &&& (255 : Int32)) = (2 : Int32) then (1 : Int32) else (0 : Int32)))])) t → Steps p.tables e below (s₁.setTop (entryFrame m #[(.int p0), (.int p1), (.int p2), (.int p3), (.int p4)] maxLocals)) t := by
            intro t k
            refine R73 t ?_
            show Steps p.tables e below (T64.setTop (mkF m 146 #[.val (.int p0), .val (.int p1), .val (.int p2), .val (.int p3), .val (.int p4), .val (.int (1 : Int32)), .val (.ref ap), .val (.int (3 : Int32)), .val (.ref r), .val (.int (0 : Int32)), .val (.int (p2 &&& (255 : Int32)))] [(.ref r), (.ref ap)])) _
            refine st74.trans ?_
            show Steps p.tables e below (T74.setTop (mkF m 149 #[.val (.int p0), .val (.int p1), .val (.int p2), .val (.int p3), .val (.int p4), .val (.int (1 : Int32)), .val (.ref ap), .val (.int (3 : Int32)), .val (.ref r), .val (.int (0 : Int32)), .val (.int (p2 &&& (255 : Int32)))] [(.int (if ((nar .byte ((p2).toInt8.toInt32)) &&& (255 : Int32)) = (2 : Int32) then (1 : Int32) else (0 : Int32)))])) _
            refine XS.iload X74.here hx rfl (hb hby at_149) rfl ?_
            exact k
          rw [own_b0] at R75
          have R76 : ∀ t, Steps p.tables e below (T74.setTop (mkF m 159 #[.val (.int p0), .val (.int p1), .val (.int p2), .val (.int p3), .val (.int p4), .val (.int (1 : Int32)), .val (.ref ap), .val (.int (3 : Int32)), .val (.ref r), .val (.int (0 : Int32)), .val (.int (p2 &&& (255 : Int32)))] [(.int (1 : Int32))])) t → Steps p.tables e below (s₁.setTop (entryFrame m #[(.int p0), (.int p1), (.int p2), (.int p3), (.int p4)] maxLocals)) t := by
            intro t k
            refine R75 t ?_
            show Steps p.tables e below (T74.setTop (mkF m 151 #[.val (.int p0), .val (.int p1), .val (.int p2), .val (.int p3), .val (.int p4), .val (.int (1 : Int32)), .val (.ref ap), .val (.int (3 : Int32)), .val (.ref r), .val (.int (0 : Int32)), .val (.int (p2 &&& (255 : Int32)))] [(.int (0 : Int32)), (.int (if (p2 &&& (255 : Int32)) = (2 : Int32) then (1 : Int32) else (0 : Int32)))])) _
            refine XS.icmpNo X74.here hx rfl (hb hby at_151) rfl (teq (if_neg hc68)).2 ?_
            show Steps p.tables e below (T74.setTop (mkF m 154 #[.val (.int p0), .val (.int p1), .val (.int p2), .val (.int p3), .val (.int p4), .val (.int (1 : Int32)), .val (.ref ap), .val (.int (3 : Int32)), .val (.ref r), .val (.int (0 : Int32)), .val (.int (p2 &&& (255 : Int32)))] [])) _
            refine XS.iconst X74.here hx rfl (hb hby at_154) ?_
            show Steps p.tables e below (T74.setTop (mkF m 155 #[.val (.int p0), .val (.int p1), .val (.int p2), .val (.int p3), .val (.int p4), .val (.int (1 : Int32)), .val (.ref ap), .val (.int (3 : Int32)), .val (.ref r), .val (.int (0 : Int32)), .val (.int (p2 &&& (255 : Int32)))] [(.int (1 : Int32))])) _
            refine XS.goto X74.here hx rfl (pc0 := 155) (pc' := 159) rfl (hb hby at_155) (by decide) (by decide) ?_
            exact k
          obtain ⟨fs, hr, hrun, hended, hW, hsame⟩ := X74.leave (v := some (.int (1 : Int32))) (fun h => by rw [Bd.returns] at h; cases h)
          refine ⟨_, _, R76 _ ?_, hrun, hended, _, _, rfl, ?_, ⟨_, rfl⟩, hW, hsame.mono (by decide) (by decide)⟩
          · exact retN X74 hx (t := .boolean) Bd.returns (by simp) (hb hby at_159) hr
          · show Q0 Z p0 p1 p2 p3 p4 ap av h0 n0 _ T74.heap _
            rw [e74]
            exact ⟨rfl, N74⟩
      ·
        skip
        have R77 : ∀ t, Steps p.tables e below (T64.setTop (mkF m 146 #[.val (.int p0), .val (.int p1), .val (.int p2), .val (.int p3), .val (.int p4), .val (.int (1 : Int32)), .val (.ref ap), .val (.int (3 : Int32)), .val (.ref r), .val (.int (0 : Int32)), .val (.int (p2 &&& (255 : Int32)))] [(.ref r), (.ref ap)])) t → Steps p.tables e below (s₁.setTop (entryFrame m #[(.int p0), (.int p1), (.int p2), (.int p3), (.int p4)] maxLocals)) t := by
          intro t k
          refine R65 t ?_
          show Steps p.tables e below (T64.setTop (mkF m 99 #[.val (.int p0), .val (.int p1), .val (.int p2), .val (.int p3), .val (.int p4), .val (.int (1 : Int32)), .val (.ref ap), .val (.int (3 : Int32)), .val (.ref r), .unset, .val (.int (p2 &&& (255 : Int32)))] [(.int (128 : Int32)), (.int (p2 &&& (255 : Int32)))])) _
          refine XS.icmpNo X64.here hx rfl (hb hby at_99) rfl (flt hc66).1 ?_
          show Steps p.tables e below (T64.setTop (mkF m 102 #[.val (.int p0), .val (.int p1), .val (.int p2), .val (.int p3), .val (.int p4), .val (.int (1 : Int32)), .val (.ref ap), .val (.int (3 : Int32)), .val (.ref r), .unset, .val (.int (p2 &&& (255 : Int32)))] [])) _
          refine XS.iconst X64.here hx rfl (hb hby at_102) ?_
          show Steps p.tables e below (T64.setTop (mkF m 103 #[.val (.int p0), .val (.int p1), .val (.int p2), .val (.int p3), .val (.int p4), .val (.int (1 : Int32)), .val (.ref ap), .val (.int (3 : Int32)), .val (.ref r), .unset, .val (.int (p2 &&& (255 : Int32)))] [(.int (0 : Int32))])) _
          refine XS.istore X64.here hx rfl (hb hby at_103) rfl (l' := #[.val (.int p0), .val (.int p1), .val (.int p2), .val (.int p3), .val (.int p4), .val (.int (1 : Int32)), .val (.ref ap), .val (.int (3 : Int32)), .val (.ref r), .val (.int (0 : Int32)), .val (.int (p2 &&& (255 : Int32)))]) rfl ?_
          show Steps p.tables e below (T64.setTop (mkF m 105 #[.val (.int p0), .val (.int p1), .val (.int p2), .val (.int p3), .val (.int p4), .val (.int (1 : Int32)), .val (.ref ap), .val (.int (3 : Int32)), .val (.ref r), .val (.int (0 : Int32)), .val (.int (p2 &&& (255 : Int32)))] [])) _
          refine XS.goto X64.here hx rfl (pc0 := 105) (pc' := 142) rfl (hb hby at_105) (by decide) (by decide) ?_
          show Steps p.tables e below (T64.setTop (mkF m 142 #[.val (.int p0), .val (.int p1), .val (.int p2), .val (.int p3), .val (.int p4), .val (.int (1 : Int32)), .val (.ref ap), .val (.int (3 : Int32)), .val (.ref r), .val (.int (0 : Int32)), .val (.int (p2 &&& (255 : Int32)))] [])) _
          refine XS.aload X64.here hx rfl (hb hby at_142) rfl rfl ?_
          show Steps p.tables e below (T64.setTop (mkF m 144 #[.val (.int p0), .val (.int p1), .val (.int p2), .val (.int p3), .val (.int p4), .val (.int (1 : Int32)), .val (.ref ap), .val (.int (3 : Int32)), .val (.ref r), .val (.int (0 : Int32)), .val (.int (p2 &&& (255 : Int32)))] [(.ref ap)])) _
          refine XS.aload X64.here hx rfl (hb hby at_144) rfl rfl ?_
          exact k
        obtain ⟨cq78, kq78, q78a, q78b, q78c⟩ := isOf hZ e64 E_ap
        obtain ⟨_, _, ⟨T78, L78, k78, n78⟩, -, X78, ⟨Lc78, hQ78, l78, y78, z78⟩, st78⟩ := X64.virtualBack hx (y := (⟨"com/example/tapline/reader/Kernel", "isRequestedBy", "([B)Z"⟩ : MethodName)) (z := (⟨"com/example/tapline/reader/Kernel", "isRequestedBy", "([B)Z"⟩ : MethodName)) hown (mvT hZ (hw _ (List.mem_of_getElem? (i := 4) rfl))) (mvT hZ (hw _ (List.mem_of_getElem? (i := 5) rfl))) (notFace_of_selects (args := #[]) (mvT hZ (hw _ (List.mem_of_getElem? (i := 7) rfl)))) (mvT hZ (hw _ (List.mem_of_getElem? (i := 7) rfl))) (mvT hZ (hw _ (List.mem_of_getElem? (i := 6) rfl))) (by decide) (backOf (W := 0) (rm1n3 l Z a0 hw [] ap r k55 (2 : Int32) (nar .byte ((p2).toInt8.toInt32)) (nar .byte ((p3).toInt8.toInt32)) (nar .byte ((p4).toInt8.toInt32)) h64 n0 Sz64 F_identifier_ap V_r) hZ (hw _ (List.mem_of_getElem? (i := 8) rfl)) (hw _ (List.mem_of_getElem? (i := 1) rfl)) (by decide) (by decide)) q78a q78c (g := (mkF m 146 #[.val (.int p0), .val (.int p1), .val (.int p2), .val (.int p3), .val (.int p4), .val (.int (1 : Int32)), .val (.ref ap), .val (.int (3 : Int32)), .val (.ref r), .val (.int (0 : Int32)), .val (.int (p2 &&& (255 : Int32)))] [(.ref r), (.ref ap)])) rfl (by rw [hml]; rfl) (Steps.refl _) (argsL := [(.ref r)]) (rest := []) (lenOf pd_0 rfl) rfl (by show 2 * 0 + _ ≤ _; exact Nat.le_of_eq rfl) (hb hby at_146) (fun _ _ => ⟨rfl, e64, (by decide : 1 + 0 ≤ _), (by decide : 3 + 0 ≤ _)⟩)
        dsimp only [Pt.U, Pt.locs, Pt.cells, Pt.slots] at X78 l78 y78 z78 st78 hQ78
        subst l78 y78 z78
        obtain ⟨rfl, Nq78, eq78⟩ := hQ78
        have N78 := Fr.app N64 Nq78
        have e78 : T78.heap = h64 := eq78
        have R79 : ∀ t, Steps p.tables e below (T78.setTop (mkF m 151 #[.val (.int p0), .val (.int p1), .val (.int p2), .val (.int p3), .val (.int p4), .val (.int (1 : Int32)), .val (.ref ap), .val (.int (3 : Int32)), .val (.ref r), .val (.int (0 : Int32)), .val (.int (p2 &&& (255 : Int32)))] [(.int (0 : Int32)), (.int (if ((nar .byte ((p2).toInt8.toInt32)) &&& (255 : Int32)) = (2 : Int32) then (1 : Int32) else (0 : Int32)))])) t → Steps p.tables e below (s₁.setTop (entryFrame m #[(.int p0), (.int p1), (.int p2), (.int p3), (.int p4)] maxLocals)) t := by
          intro t k
          refine R77 t ?_
          show Steps p.tables e below (T64.setTop (mkF m 146 #[.val (.int p0), .val (.int p1), .val (.int p2), .val (.int p3), .val (.int p4), .val (.int (1 : Int32)), .val (.ref ap), .val (.int (3 : Int32)), .val (.ref r), .val (.int (0 : Int32)), .val (.int (p2 &&& (255 : Int32)))] [(.ref r), (.ref ap)])) _
          refine st78.trans ?_
          show Steps p.tables e below (T78.setTop (mkF m 149 #[.val (.int p0), .val (.int p1), .val (.int p2), .val (.int p3), .val (.int p4), .val (.int (1 : Int32)), .val (.ref ap), .val (.int (3 : Int32)), .val (.ref r), .val (.int (0 : Int32)), .val (.int (p2 &&& (255 : Int32)))] [(.int (if ((nar .byte ((p2).toInt8.toInt32)) &&& (255 : Int32)) = (2 : Int32) then (1 : Int32) else (0 : Int32)))])) _
          refine XS.iload X78.here hx rfl (hb hby at_149) rfl ?_
          exact k
        rw [own_b0] at R79
        have R80 : ∀ t, Steps p.tables e below (T78.setTop (mkF m 159 #[.val (.int p0), .val (.int p1), .val (.int p2), .val (.int p3), .val (.int p4), .val (.int (1 : Int32)), .val (.ref ap), .val (.int (3 : Int32)), .val (.ref r), .val (.int (0 : Int32)), .val (.int (p2 &&& (255 : Int32)))] [(.int (1 : Int32))])) t → Steps p.tables e below (s₁.setTop (entryFrame m #[(.int p0), (.int p1), (.int p2), (.int p3), (.int p4)] maxLocals)) t := by
          intro t k
          refine R79 t ?_
          show Steps p.tables e below (T78.setTop (mkF m 151 #[.val (.int p0), .val (.int p1), .val (.int p2), .val (.int p3), .val (.int p4), .val (.int (1 : Int32)), .val (.ref ap), .val (.int (3 : Int32)), .val (.ref r), .val (.int (0 : Int32)), .val (.int (p2 &&& (255 : Int32)))] [(.int (0 : Int32)), (.int (if (p2 &&& (255 : Int32)) = (2 : Int32) then (1 : Int32) else (0 : Int32)))])) _
          refine XS.icmpNo X78.here hx rfl (hb hby at_151) rfl (teq (if_neg (fun q : (p2 &&& (255 : Int32)) = (2 : Int32) => hc66 (by rw [q]; decide)))).2 ?_
          show Steps p.tables e below (T78.setTop (mkF m 154 #[.val (.int p0), .val (.int p1), .val (.int p2), .val (.int p3), .val (.int p4), .val (.int (1 : Int32)), .val (.ref ap), .val (.int (3 : Int32)), .val (.ref r), .val (.int (0 : Int32)), .val (.int (p2 &&& (255 : Int32)))] [])) _
          refine XS.iconst X78.here hx rfl (hb hby at_154) ?_
          show Steps p.tables e below (T78.setTop (mkF m 155 #[.val (.int p0), .val (.int p1), .val (.int p2), .val (.int p3), .val (.int p4), .val (.int (1 : Int32)), .val (.ref ap), .val (.int (3 : Int32)), .val (.ref r), .val (.int (0 : Int32)), .val (.int (p2 &&& (255 : Int32)))] [(.int (1 : Int32))])) _
          refine XS.goto X78.here hx rfl (pc0 := 155) (pc' := 159) rfl (hb hby at_155) (by decide) (by decide) ?_
          exact k
        obtain ⟨fs, hr, hrun, hended, hW, hsame⟩ := X78.leave (v := some (.int (1 : Int32))) (fun h => by rw [Bd.returns] at h; cases h)
        refine ⟨_, _, R80 _ ?_, hrun, hended, _, _, rfl, ?_, ⟨_, rfl⟩, hW, hsame.mono (by decide) (by decide)⟩
        · exact retN X78 hx (t := .boolean) Bd.returns (by simp) (hb hby at_159) hr
        · show Q0 Z p0 p1 p2 p3 p4 ap av h0 n0 _ T78.heap _
          rw [e78]
          exact ⟨rfl, N78⟩
  ·
    skip
    have R81 : ∀ t, Steps p.tables e below (s₁.setTop (mkF m 24 #[.val (.int p0), .val (.int p1), .val (.int p2), .val (.int p3), .val (.int p4), .val (.int (0 : Int32)), .unset, .unset, .unset, .unset, .unset] [])) t → Steps p.tables e below (s₁.setTop (entryFrame m #[(.int p0), (.int p1), (.int p2), (.int p3), (.int p4)] maxLocals)) t := by
      intro t k
      refine R1 t ?_
      show Steps p.tables e below (s₁.setTop (mkF m 3 #[.val (.int p0), .val (.int p1), .val (.int p2), .val (.int p3), .val (.int p4), .unset, .unset, .unset, .unset, .unset, .unset] [(.int (p0 &&& (1 : Int32)))])) _
      refine XS.ifYes X0.here hx rfl (pc0 := 3) (pc' := 10) rfl (hb hby at_3) rfl ((if0 _ _).trans (feq hc2).2) (by decide) (by decide) ?_
      show Steps p.tables e below (s₁.setTop (mkF m 10 #[.val (.int p0), .val (.int p1), .val (.int p2), .val (.int p3), .val (.int p4), .unset, .unset, .unset, .unset, .unset, .unset] [])) _
      refine XS.iconst X0.here hx rfl (hb hby at_10) ?_
      show Steps p.tables e below (s₁.setTop (mkF m 11 #[.val (.int p0), .val (.int p1), .val (.int p2), .val (.int p3), .val (.int p4), .unset, .unset, .unset, .unset, .unset, .unset] [(.int (0 : Int32))])) _
      refine XS.istore X0.here hx rfl (hb hby at_11) rfl (l' := #[.val (.int p0), .val (.int p1), .val (.int p2), .val (.int p3), .val (.int p4), .val (.int (0 : Int32)), .unset, .unset, .unset, .unset, .unset]) rfl ?_
      show Steps p.tables e below (s₁.setTop (mkF m 13 #[.val (.int p0), .val (.int p1), .val (.int p2), .val (.int p3), .val (.int p4), .val (.int (0 : Int32)), .unset, .unset, .unset, .unset, .unset] [])) _
      refine XS.iload X0.here hx rfl (hb hby at_13) rfl ?_
      show Steps p.tables e below (s₁.setTop (mkF m 15 #[.val (.int p0), .val (.int p1), .val (.int p2), .val (.int p3), .val (.int p4), .val (.int (0 : Int32)), .unset, .unset, .unset, .unset, .unset] [(.int (0 : Int32))])) _
      refine XS.ifYes X0.here hx rfl (pc0 := 15) (pc' := 24) rfl (hb hby at_15) rfl ((if0 _ _).trans (teq (by decide)).1) (by decide) (by decide) ?_
      exact k
    obtain ⟨T82, X82, e82, st82⟩ := getS2 X0 hx hZ hown (host := "") (Or.inl (hw _ (List.mem_of_getElem? (i := 11) rfl))) Via.refl e0 Sav (g := (mkF m 24 #[.val (.int p0), .val (.int p1), .val (.int p2), .val (.int p3), .val (.int p4), .val (.int (0 : Int32)), .unset, .unset, .unset, .unset, .unset] [])) rfl (hb hby at_24)
    have R83 : ∀ t, Steps p.tables e below (T82.setTop (mkF m 36 #[.val (.int p0), .val (.int p1), .val (.int p2), .val (.int p3), .val (.int p4), .val (.int (0 : Int32)), .val (.ref av), .val (.int (p1 &&& (3 : Int32))), .unset, .unset, .unset] [(.int (p1 &&& (3 : Int32)))])) t → Steps p.tables e below (s₁.setTop (entryFrame m #[(.int p0), (.int p1), (.int p2), (.int p3), (.int p4)] maxLocals)) t := by
      intro t k
      refine R81 t ?_
      show Steps p.tables e below (s₁.setTop (mkF m 24 #[.val (.int p0), .val (.int p1), .val (.int p2), .val (.int p3), .val (.int p4), .val (.int (0 : Int32)), .unset, .unset, .unset, .unset, .unset] [])) _
      refine st82 _ ?_
      show Steps p.tables e below (T82.setTop (mkF m 27 #[.val (.int p0), .val (.int p1), .val (.int p2), .val (.int p3), .val (.int p4), .val (.int (0 : Int32)), .unset, .unset, .unset, .unset, .unset] [(.ref av)])) _
      refine XS.astore X82.here hx rfl (hb hby at_27) rfl rfl (l' := #[.val (.int p0), .val (.int p1), .val (.int p2), .val (.int p3), .val (.int p4), .val (.int (0 : Int32)), .val (.ref av), .unset, .unset, .unset, .unset]) rfl ?_
      show Steps p.tables e below (T82.setTop (mkF m 29 #[.val (.int p0), .val (.int p1), .val (.int p2), .val (.int p3), .val (.int p4), .val (.int (0 : Int32)), .val (.ref av), .unset, .unset, .unset, .unset] [])) _
      refine XS.iloadN X82.here hx rfl (hb hby at_29) rfl ?_
      show Steps p.tables e below (T82.setTop (mkF m 30 #[.val (.int p0), .val (.int p1), .val (.int p2), .val (.int p3), .val (.int p4), .val (.int (0 : Int32)), .val (.ref av), .unset, .unset, .unset, .unset] [(.int p1)])) _
      refine XS.iconst X82.here hx rfl (hb hby at_30) ?_
      show Steps p.tables e below (T82.setTop (mkF m 31 #[.val (.int p0), .val (.int p1), .val (.int p2), .val (.int p3), .val (.int p4), .val (.int (0 : Int32)), .val (.ref av), .unset, .unset, .unset, .unset] [(.int (3 : Int32)), (.int p1)])) _
      refine XS.iand X82.here hx rfl (hb hby at_31) rfl ?_
      show Steps p.tables e below (T82.setTop (mkF m 32 #[.val (.int p0), .val (.int p1), .val (.int p2), .val (.int p3), .val (.int p4), .val (.int (0 : Int32)), .val (.ref av), .unset, .unset, .unset, .unset] [(.int (p1 &&& (3 : Int32)))])) _
      refine XS.istore X82.here hx rfl (hb hby at_32) rfl (l' := #[.val (.int p0), .val (.int p1), .val (.int p2), .val (.int p3), .val (.int p4), .val (.int (0 : Int32)), .val (.ref av), .val (.int (p1 &&& (3 : Int32))), .unset, .unset, .unset]) rfl ?_
      show Steps p.tables e below (T82.setTop (mkF m 34 #[.val (.int p0), .val (.int p1), .val (.int p2), .val (.int p3), .val (.int p4), .val (.int (0 : Int32)), .val (.ref av), .val (.int (p1 &&& (3 : Int32))), .unset, .unset, .unset] [])) _
      refine XS.iload X82.here hx rfl (hb hby at_34) rfl ?_
      exact k
    rcases (own_m3 p1) with hv84 | hv84 | hv84 | hv84
    ·
      rw [hv84] at R83
      obtain ⟨T85, h85, k85, X85, e85, E85, A85, st85⟩ := newP X82 hx hZ (hw _ (List.mem_of_getElem? (i := 3) rfl)) e82 (g := (mkF m 36 #[.val (.int p0), .val (.int p1), .val (.int p2), .val (.int p3), .val (.int p4), .val (.int (0 : Int32)), .val (.ref av), .val (.int (0 : Int32)), .unset, .unset, .unset] [(.int (0 : Int32))])) rfl (hb hby at_36) rfl (by decide) (cap := 0) (by decide) (by decide) (by decide) (by decide)
      obtain ⟨r, g85⟩ : ∃ z, z = h0.size := ⟨_, rfl⟩
      rw [← g85] at A85 st85
      have ge_r : n0 ≤ r := by rw [g85]; exact Z0
      have Sz85 := Nat.le_trans Z0 E85.1
      have ne_av_r : av ≠ r := Nat.ne_of_lt (Nat.lt_of_lt_of_le E_av.lt (Nat.le_of_eq g85.symm))
      have E_av := E_av.ext E85
      have F_identifier_av := F_identifier_av.ext E85
      have V_r : Arv Z h85 r k85 .byte (0 : Int32) [] (.int (0 : Int32)) := (Arv.new A85 (by decide)).pad (pad_rep [] (.int (0 : Int32)) 0)
      have R86 : ∀ t, Steps p.tables e below (T85.setTop (mkF m 146 #[.val (.int p0), .val (.int p1), .val (.int p2), .val (.int p3), .val (.int p4), .val (.int (0 : Int32)), .val (.ref av), .val (.int (0 : Int32)), .val (.ref r), .val (.int (1 : Int32)), .unset] [(.ref r), (.ref av)])) t → Steps p.tables e below (s₁.setTop (entryFrame m #[(.int p0), (.int p1), (.int p2), (.int p3), (.int p4)] maxLocals)) t := by
        intro t k
        refine R83 t ?_
        show Steps p.tables e below (T82.setTop (mkF m 36 #[.val (.int p0), .val (.int p1), .val (.int p2), .val (.int p3), .val (.int p4), .val (.int (0 : Int32)), .val (.ref av), .val (.int (0 : Int32)), .unset, .unset, .unset] [(.int (0 : Int32))])) _
        refine st85 _ ?_
        show Steps p.tables e below (T85.setTop (mkF m 38 #[.val (.int p0), .val (.int p1), .val (.int p2), .val (.int p3), .val (.int p4), .val (.int (0 : Int32)), .val (.ref av), .val (.int (0 : Int32)), .unset, .unset, .unset] [(.ref r)])) _
        refine XS.astore X85.here hx rfl (hb hby at_38) rfl rfl (l' := #[.val (.int p0), .val (.int p1), .val (.int p2), .val (.int p3), .val (.int p4), .val (.int (0 : Int32)), .val (.ref av), .val (.int (0 : Int32)), .val (.ref r), .unset, .unset]) rfl ?_
        show Steps p.tables e below (T85.setTop (mkF m 40 #[.val (.int p0), .val (.int p1), .val (.int p2), .val (.int p3), .val (.int p4), .val (.int (0 : Int32)), .val (.ref av), .val (.int (0 : Int32)), .val (.ref r), .unset, .unset] [])) _
        refine XS.iload X85.here hx rfl (hb hby at_40) rfl ?_
        show Steps p.tables e below (T85.setTop (mkF m 42 #[.val (.int p0), .val (.int p1), .val (.int p2), .val (.int p3), .val (.int p4), .val (.int (0 : Int32)), .val (.ref av), .val (.int (0 : Int32)), .val (.ref r), .unset, .unset] [(.int (0 : Int32))])) _
        refine XS.ifYes X85.here hx rfl (pc0 := 42) (pc' := 51) rfl (hb hby at_42) rfl ((if0 _ _).trans (flt (by decide)).2.2.2) (by decide) (by decide) ?_
        show Steps p.tables e below (T85.setTop (mkF m 51 #[.val (.int p0), .val (.int p1), .val (.int p2), .val (.int p3), .val (.int p4), .val (.int (0 : Int32)), .val (.ref av), .val (.int (0 : Int32)), .val (.ref r), .unset, .unset] [])) _
        refine XS.iload X85.here hx rfl (hb hby at_51) rfl ?_
        show Steps p.tables e below (T85.setTop (mkF m 53 #[.val (.int p0), .val (.int p1), .val (.int p2), .val (.int p3), .val (.int p4), .val (.int (0 : Int32)), .val (.ref av), .val (.int (0 : Int32)), .val (.ref r), .unset, .unset] [(.int (0 : Int32))])) _
        refine XS.iconst X85.here hx rfl (hb hby at_53) ?_
        show Steps p.tables e below (T85.setTop (mkF m 54 #[.val (.int p0), .val (.int p1), .val (.int p2), .val (.int p3), .val (.int p4), .val (.int (0 : Int32)), .val (.ref av), .val (.int (0 : Int32)), .val (.ref r), .unset, .unset] [(.int (1 : Int32)), (.int (0 : Int32))])) _
        refine XS.icmpYes X85.here hx rfl (pc0 := 54) (pc' := 63) rfl (hb hby at_54) rfl (flt (by decide)).2.2.2 (by decide) (by decide) ?_
        show Steps p.tables e below (T85.setTop (mkF m 63 #[.val (.int p0), .val (.int p1), .val (.int p2), .val (.int p3), .val (.int p4), .val (.int (0 : Int32)), .val (.ref av), .val (.int (0 : Int32)), .val (.ref r), .unset, .unset] [])) _
        refine XS.iload X85.here hx rfl (hb hby at_63) rfl ?_
        show Steps p.tables e below (T85.setTop (mkF m 65 #[.val (.int p0), .val (.int p1), .val (.int p2), .val (.int p3), .val (.int p4), .val (.int (0 : Int32)), .val (.ref av), .val (.int (0 : Int32)), .val (.ref r), .unset, .unset] [(.int (0 : Int32))])) _
        refine XS.iconst X85.here hx rfl (hb hby at_65) ?_
        show Steps p.tables e below (T85.setTop (mkF m 66 #[.val (.int p0), .val (.int p1), .val (.int p2), .val (.int p3), .val (.int p4), .val (.int (0 : Int32)), .val (.ref av), .val (.int (0 : Int32)), .val (.ref r), .unset, .unset] [(.int (2 : Int32)), (.int (0 : Int32))])) _
        refine XS.icmpYes X85.here hx rfl (pc0 := 66) (pc' := 76) rfl (hb hby at_66) rfl (flt (by decide)).2.2.2 (by decide) (by decide) ?_
        show Steps p.tables e below (T85.setTop (mkF m 76 #[.val (.int p0), .val (.int p1), .val (.int p2), .val (.int p3), .val (.int p4), .val (.int (0 : Int32)), .val (.ref av), .val (.int (0 : Int32)), .val (.ref r), .unset, .unset] [])) _
        refine XS.iload X85.here hx rfl (hb hby at_76) rfl ?_
        show Steps p.tables e below (T85.setTop (mkF m 78 #[.val (.int p0), .val (.int p1), .val (.int p2), .val (.int p3), .val (.int p4), .val (.int (0 : Int32)), .val (.ref av), .val (.int (0 : Int32)), .val (.ref r), .unset, .unset] [(.int (0 : Int32))])) _
        refine XS.ifNo X85.here hx rfl (hb hby at_78) rfl ((if0 _ _).trans (teq (by decide)).2) ?_
        show Steps p.tables e below (T85.setTop (mkF m 81 #[.val (.int p0), .val (.int p1), .val (.int p2), .val (.int p3), .val (.int p4), .val (.int (0 : Int32)), .val (.ref av), .val (.int (0 : Int32)), .val (.ref r), .unset, .unset] [])) _
        refine XS.iconst X85.here hx rfl (hb hby at_81) ?_
        show Steps p.tables e below (T85.setTop (mkF m 82 #[.val (.int p0), .val (.int p1), .val (.int p2), .val (.int p3), .val (.int p4), .val (.int (0 : Int32)), .val (.ref av), .val (.int (0 : Int32)), .val (.ref r), .unset, .unset] [(.int (1 : Int32))])) _
        refine XS.istore X85.here hx rfl (hb hby at_82) rfl (l' := #[.val (.int p0), .val (.int p1), .val (.int p2), .val (.int p3), .val (.int p4), .val (.int (0 : Int32)), .val (.ref av), .val (.int (0 : Int32)), .val (.ref r), .val (.int (1 : Int32)), .unset]) rfl ?_
        show Steps p.tables e below (T85.setTop (mkF m 84 #[.val (.int p0), .val (.int p1), .val (.int p2), .val (.int p3), .val (.int p4), .val (.int (0 : Int32)), .val (.ref av), .val (.int (0 : Int32)), .val (.ref r), .val (.int (1 : Int32)), .unset] [])) _
        refine XS.goto X85.here hx rfl (pc0 := 84) (pc' := 142) rfl (hb hby at_84) (by decide) (by decide) ?_
        show Steps p.tables e below (T85.setTop (mkF m 142 #[.val (.int p0), .val (.int p1), .val (.int p2), .val (.int p3), .val (.int p4), .val (.int (0 : Int32)), .val (.ref av), .val (.int (0 : Int32)), .val (.ref r), .val (.int (1 : Int32)), .unset] [])) _
        refine XS.aload X85.here hx rfl (hb hby at_142) rfl rfl ?_
        show Steps p.tables e below (T85.setTop (mkF m 144 #[.val (.int p0), .val (.int p1), .val (.int p2), .val (.int p3), .val (.int p4), .val (.int (0 : Int32)), .val (.ref av), .val (.int (0 : Int32)), .val (.ref r), .val (.int (1 : Int32)), .unset] [(.ref av)])) _
        refine XS.aload X85.here hx rfl (hb hby at_144) rfl rfl ?_
        exact k
      obtain ⟨cq87, kq87, q87a, q87b, q87c⟩ := isOf hZ e85 E_av
      obtain ⟨_, _, ⟨T87, L87, k87, n87⟩, -, X87, ⟨Lc87, hQ87, l87, y87, z87⟩, st87⟩ := X85.virtualBack hx (y := (⟨"com/example/tapline/reader/Kernel", "isRequestedBy", "([B)Z"⟩ : MethodName)) (z := (⟨"com/example/tapline/reader/Kernel", "isRequestedBy", "([B)Z"⟩ : MethodName)) hown (mvT hZ (hw _ (List.mem_of_getElem? (i := 4) rfl))) (mvT hZ (hw _ (List.mem_of_getElem? (i := 5) rfl))) (notFace_of_selects (args := #[]) (mvT hZ (hw _ (List.mem_of_getElem? (i := 7) rfl)))) (mvT hZ (hw _ (List.mem_of_getElem? (i := 7) rfl))) (mvT hZ (hw _ (List.mem_of_getElem? (i := 6) rfl))) (by decide) (backOf (W := 0) (rm1n0 l Z a0 hw [] av r k85 (3 : Int32)  h85 n0 Sz85 F_identifier_av V_r) hZ (hw _ (List.mem_of_getElem? (i := 8) rfl)) (hw _ (List.mem_of_getElem? (i := 1) rfl)) (by decide) (by decide)) q87a q87c (g := (mkF m 146 #[.val (.int p0), .val (.int p1), .val (.int p2), .val (.int p3), .val (.int p4), .val (.int (0 : Int32)), .val (.ref av), .val (.int (0 : Int32)), .val (.ref r), .val (.int (1 : Int32)), .unset] [(.ref r), (.ref av)])) rfl (by rw [hml]; rfl) (Steps.refl _) (argsL := [(.ref r)]) (rest := []) (lenOf pd_0 rfl) rfl (by show 2 * 0 + _ ≤ _; exact Nat.le_of_eq rfl) (hb hby at_146) (fun _ _ => ⟨rfl, e85, (by decide : 1 + 0 ≤ _), (by decide : 0 + 0 ≤ _)⟩)
      dsimp only [Pt.U, Pt.locs, Pt.cells, Pt.slots] at X87 l87 y87 z87 st87 hQ87
      subst l87 y87 z87
      obtain ⟨rfl, Nq87, eq87⟩ := hQ87
      have N87 := Fr.app N0 Nq87
      have e87 : T87.heap = h85 := eq87
      have R88 : ∀ t, Steps p.tables e below (T87.setTop (mkF m 151 #[.val (.int p0), .val (.int p1), .val (.int p2), .val (.int p3), .val (.int p4), .val (.int (0 : Int32)), .val (.ref av), .val (.int (0 : Int32)), .val (.ref r), .val (.int (1 : Int32)), .unset] [(.int (1 : Int32)), (.int (1 : Int32))])) t → Steps p.tables e below (s₁.setTop (entryFrame m #[(.int p0), (.int p1), (.int p2), (.int p3), (.int p4)] maxLocals)) t := by
        intro t k
        refine R86 t ?_
        show Steps p.tables e below (T85.setTop (mkF m 146 #[.val (.int p0), .val (.int p1), .val (.int p2), .val (.int p3), .val (.int p4), .val (.int (0 : Int32)), .val (.ref av), .val (.int (0 : Int32)), .val (.ref r), .val (.int (1 : Int32)), .unset] [(.ref r), (.ref av)])) _
        refine st87.trans ?_
        show Steps p.tables e below (T87.setTop (mkF m 149 #[.val (.int p0), .val (.int p1), .val (.int p2), .val (.int p3), .val (.int p4), .val (.int (0 : Int32)), .val (.ref av), .val (.int (0 : Int32)), .val (.ref r), .val (.int (1 : Int32)), .unset] [(.int (1 : Int32))])) _
        refine XS.iload X87.here hx rfl (hb hby at_149) rfl ?_
        exact k
      have R89 : ∀ t, Steps p.tables e below (T87.setTop (mkF m 159 #[.val (.int p0), .val (.int p1), .val (.int p2), .val (.int p3), .val (.int p4), .val (.int (0 : Int32)), .val (.ref av), .val (.int (0 : Int32)), .val (.ref r), .val (.int (1 : Int32)), .unset] [(.int (1 : Int32))])) t → Steps p.tables e below (s₁.setTop (entryFrame m #[(.int p0), (.int p1), (.int p2), (.int p3), (.int p4)] maxLocals)) t := by
        intro t k
        refine R88 t ?_
        show Steps p.tables e below (T87.setTop (mkF m 151 #[.val (.int p0), .val (.int p1), .val (.int p2), .val (.int p3), .val (.int p4), .val (.int (0 : Int32)), .val (.ref av), .val (.int (0 : Int32)), .val (.ref r), .val (.int (1 : Int32)), .unset] [(.int (1 : Int32)), (.int (1 : Int32))])) _
        refine XS.icmpNo X87.here hx rfl (hb hby at_151) rfl (teq (rfl : (1 : Int32) = 1)).2 ?_
        show Steps p.tables e below (T87.setTop (mkF m 154 #[.val (.int p0), .val (.int p1), .val (.int p2), .val (.int p3), .val (.int p4), .val (.int (0 : Int32)), .val (.ref av), .val (.int (0 : Int32)), .val (.ref r), .val (.int (1 : Int32)), .unset] [])) _
        refine XS.iconst X87.here hx rfl (hb hby at_154) ?_
        show Steps p.tables e below (T87.setTop (mkF m 155 #[.val (.int p0), .val (.int p1), .val (.int p2), .val (.int p3), .val (.int p4), .val (.int (0 : Int32)), .val (.ref av), .val (.int (0 : Int32)), .val (.ref r), .val (.int (1 : Int32)), .unset] [(.int (1 : Int32))])) _
        refine XS.goto X87.here hx rfl (pc0 := 155) (pc' := 159) rfl (hb hby at_155) (by decide) (by decide) ?_
        exact k
      obtain ⟨fs, hr, hrun, hended, hW, hsame⟩ := X87.leave (v := some (.int (1 : Int32))) (fun h => by rw [Bd.returns] at h; cases h)
      refine ⟨_, _, R89 _ ?_, hrun, hended, _, _, rfl, ?_, ⟨_, rfl⟩, hW, hsame.mono (by decide) (by decide)⟩
      · exact retN X87 hx (t := .boolean) Bd.returns (by simp) (hb hby at_159) hr
      · show Q0 Z p0 p1 p2 p3 p4 ap av h0 n0 _ T87.heap _
        rw [e87]
        exact ⟨rfl, N87⟩
    ·
      rw [hv84] at R83
      obtain ⟨T90, h90, k90, X90, e90, E90, A90, st90⟩ := newP X82 hx hZ (hw _ (List.mem_of_getElem? (i := 3) rfl)) e82 (g := (mkF m 36 #[.val (.int p0), .val (.int p1), .val (.int p2), .val (.int p3), .val (.int p4), .val (.int (0 : Int32)), .val (.ref av), .val (.int (1 : Int32)), .unset, .unset, .unset] [(.int (1 : Int32))])) rfl (hb hby at_36) rfl (by decide) (cap := 1) (by decide) (by decide) (by decide) (by decide)
      obtain ⟨r, g90⟩ : ∃ z, z = h0.size := ⟨_, rfl⟩
      rw [← g90] at A90 st90
      have ge_r : n0 ≤ r := by rw [g90]; exact Z0
      have Sz90 := Nat.le_trans Z0 E90.1
      have ne_av_r : av ≠ r := Nat.ne_of_lt (Nat.lt_of_lt_of_le E_av.lt (Nat.le_of_eq g90.symm))
      have E_av := E_av.ext E90
      have F_identifier_av := F_identifier_av.ext E90
      have V_r : Arv Z h90 r k90 .byte (1 : Int32) [(.int (0 : Int32))] (.int (0 : Int32)) := (Arv.new A90 (by decide)).pad (pad_rep [] (.int (0 : Int32)) 1)
      have R91 : ∀ t, Steps p.tables e below (T90.setTop (mkF m 50 #[.val (.int p0), .val (.int p1), .val (.int p2), .val (.int p3), .val (.int p4), .val (.int (0 : Int32)), .val (.ref av), .val (.int (1 : Int32)), .val (.ref r), .unset, .unset] [(.int ((p2).toInt8.toInt32)), (.int (0 : Int32)), (.ref r)])) t → Steps p.tables e below (s₁.setTop (entryFrame m #[(.int p0), (.int p1), (.int p2), (.int p3), (.int p4)] maxLocals)) t := by
        intro t k
        refine R83 t ?_
        show Steps p.tables e below (T82.setTop (mkF m 36 #[.val (.int p0), .val (.int p1), .val (.int p2), .val (.int p3), .val (.int p4), .val (.int (0 : Int32)), .val (.ref av), .val (.int (1 : Int32)), .unset, .unset, .unset] [(.int (1 : Int32))])) _
        refine st90 _ ?_
        show Steps p.tables e below (T90.setTop (mkF m 38 #[.val (.int p0), .val (.int p1), .val (.int p2), .val (.int p3), .val (.int p4), .val (.int (0 : Int32)), .val (.ref av), .val (.int (1 : Int32)), .unset, .unset, .unset] [(.ref r)])) _
        refine XS.astore X90.here hx rfl (hb hby at_38) rfl rfl (l' := #[.val (.int p0), .val (.int p1), .val (.int p2), .val (.int p3), .val (.int p4), .val (.int (0 : Int32)), .val (.ref av), .val (.int (1 : Int32)), .val (.ref r), .unset, .unset]) rfl ?_
        show Steps p.tables e below (T90.setTop (mkF m 40 #[.val (.int p0), .val (.int p1), .val (.int p2), .val (.int p3), .val (.int p4), .val (.int (0 : Int32)), .val (.ref av), .val (.int (1 : Int32)), .val (.ref r), .unset, .unset] [])) _
        refine XS.iload X90.here hx rfl (hb hby at_40) rfl ?_
        show Steps p.tables e below (T90.setTop (mkF m 42 #[.val (.int p0), .val (.int p1), .val (.int p2), .val (.int p3), .val (.int p4), .val (.int (0 : Int32)), .val (.ref av), .val (.int (1 : Int32)), .val (.ref r), .unset, .unset] [(.int (1 : Int32))])) _
        refine XS.ifNo X90.here hx rfl (hb hby at_42) rfl ((if0 _ _).trans (tlt (by decide)).2.2.2) ?_
        show Steps p.tables e below (T90.setTop (mkF m 45 #[.val (.int p0), .val (.int p1), .val (.int p2), .val (.int p3), .val (.int p4), .val (.int (0 : Int32)), .val (.ref av), .val (.int (1 : Int32)), .val (.ref r), .unset, .unset] [])) _
        refine XS.aload X90.here hx rfl (hb hby at_45) rfl rfl ?_
        show Steps p.tables e below (T90.setTop (mkF m 47 #[.val (.int p0), .val (.int p1), .val (.int p2), .val (.int p3), .val (.int p4), .val (.int (0 : Int32)), .val (.ref av), .val (.int (1 : Int32)), .val (.ref r), .unset, .unset] [(.ref r)])) _
        refine XS.iconst X90.here hx rfl (hb hby at_47) ?_
        show Steps p.tables e below (T90.setTop (mkF m 48 #[.val (.int p0), .val (.int p1), .val (.int p2), .val (.int p3), .val (.int p4), .val (.int (0 : Int32)), .val (.ref av), .val (.int (1 : Int32)), .val (.ref r), .unset, .unset] [(.int (0 : Int32)), (.ref r)])) _
        refine XS.iloadN X90.here hx rfl (hb hby at_48) rfl ?_
        show Steps p.tables e below (T90.setTop (mkF m 49 #[.val (.int p0), .val (.int p1), .val (.int p2), .val (.int p3), .val (.int p4), .val (.int (0 : Int32)), .val (.ref av), .val (.int (1 : Int32)), .val (.ref r), .unset, .unset] [(.int p2), (.int (0 : Int32)), (.ref r)])) _
        refine XS.i2b X90.here hx rfl (hb hby at_49) rfl ?_
        exact k
      obtain ⟨cl92, Ar92, Aq92, As92, An92, Ah92, Ag92⟩ := id V_r
      have hin92 : ¬ ((0 : Int32) < 0 ∨ cl92.slots.size ≤ ((0 : Int32)).toNatClampNeg) := inb_of As92 ⟨by decide, by decide⟩
      obtain ⟨T93, h93, X93, e93, W93, st93⟩ := stB X90 hx hZ e90 Ar92 (j := (0 : Int32)) hin92 (g := (mkF m 50 #[.val (.int p0), .val (.int p1), .val (.int p2), .val (.int p3), .val (.int p4), .val (.int (0 : Int32)), .val (.ref av), .val (.int (1 : Int32)), .val (.ref r), .unset, .unset] [(.int ((p2).toInt8.toInt32)), (.int (0 : Int32)), (.ref r)])) rfl rfl (hb hby at_50)
      have N93 := Fr.snoc X93 N0 ge_r
      have Sz93 := Nat.le_trans Sz90 (Keep.of_wr W93).1
      have E_av := E_av.wr W93
      have F_identifier_av := F_identifier_av.other W93 (Or.inl ne_av_r)
      have V_r : Arv Z h93 r k90 .byte (1 : Int32) [(.int (nar .byte ((p2).toInt8.toInt32)))] (.int (0 : Int32)) := Arv.set Ar92 Aq92 As92 An92 Ah92 Ag92 (fits_nar_byte _) W93 0 rfl (Nat.le_of_ble_eq_true rfl)
      have R94 : ∀ t, Steps p.tables e below (T93.setTop (mkF m 99 #[.val (.int p0), .val (.int p1), .val (.int p2), .val (.int p3), .val (.int p4), .val (.int (0 : Int32)), .val (.ref av), .val (.int (1 : Int32)), .val (.ref r), .unset, .val (.int (p2 &&& (255 : Int32)))] [(.int (128 : Int32)), (.int (p2 &&& (255 : Int32)))])) t → Steps p.tables e below (s₁.setTop (entryFrame m #[(.int p0), (.int p1), (.int p2), (.int p3), (.int p4)] maxLocals)) t := by
        intro t k
        refine R91 t ?_
        show Steps p.tables e below (T90.setTop (mkF m 50 #[.val (.int p0), .val (.int p1), .val (.int p2), .val (.int p3), .val (.int p4), .val (.int (0 : Int32)), .val (.ref av), .val (.int (1 : Int32)), .val (.ref r), .unset, .unset] [(.int ((p2).toInt8.toInt32)), (.int (0 : Int32)), (.ref r)])) _
        refine st93 _ ?_
        show Steps p.tables e below (T93.setTop (mkF m 51 #[.val (.int p0), .val (.int p1), .val (.int p2), .val (.int p3), .val (.int p4), .val (.int (0 : Int32)), .val (.ref av), .val (.int (1 : Int32)), .val (.ref r), .unset, .unset] [])) _
        refine XS.iload X93.here hx rfl (hb hby at_51) rfl ?_
        show Steps p.tables e below (T93.setTop (mkF m 53 #[.val (.int p0), .val (.int p1), .val (.int p2), .val (.int p3), .val (.int p4), .val (.int (0 : Int32)), .val (.ref av), .val (.int (1 : Int32)), .val (.ref r), .unset, .unset] [(.int (1 : Int32))])) _
        refine XS.iconst X93.here hx rfl (hb hby at_53) ?_
        show Steps p.tables e below (T93.setTop (mkF m 54 #[.val (.int p0), .val (.int p1), .val (.int p2), .val (.int p3), .val (.int p4), .val (.int (0 : Int32)), .val (.ref av), .val (.int (1 : Int32)), .val (.ref r), .unset, .unset] [(.int (1 : Int32)), (.int (1 : Int32))])) _
        refine XS.icmpYes X93.here hx rfl (pc0 := 54) (pc' := 63) rfl (hb hby at_54) rfl (flt (by decide)).2.2.2 (by decide) (by decide) ?_
        show Steps p.tables e below (T93.setTop (mkF m 63 #[.val (.int p0), .val (.int p1), .val (.int p2), .val (.int p3), .val (.int p4), .val (.int (0 : Int32)), .val (.ref av), .val (.int (1 : Int32)), .val (.ref r), .unset, .unset] [])) _
        refine XS.iload X93.here hx rfl (hb hby at_63) rfl ?_
        show Steps p.tables e below (T93.setTop (mkF m 65 #[.val (.int p0), .val (.int p1), .val (.int p2), .val (.int p3), .val (.int p4), .val (.int (0 : Int32)), .val (.ref av), .val (.int (1 : Int32)), .val (.ref r), .unset, .unset] [(.int (1 : Int32))])) _
        refine XS.iconst X93.here hx rfl (hb hby at_65) ?_
        show Steps p.tables e below (T93.setTop (mkF m 66 #[.val (.int p0), .val (.int p1), .val (.int p2), .val (.int p3), .val (.int p4), .val (.int (0 : Int32)), .val (.ref av), .val (.int (1 : Int32)), .val (.ref r), .unset, .unset] [(.int (2 : Int32)), (.int (1 : Int32))])) _
        refine XS.icmpYes X93.here hx rfl (pc0 := 66) (pc' := 76) rfl (hb hby at_66) rfl (flt (by decide)).2.2.2 (by decide) (by decide) ?_
        show Steps p.tables e below (T93.setTop (mkF m 76 #[.val (.int p0), .val (.int p1), .val (.int p2), .val (.int p3), .val (.int p4), .val (.int (0 : Int32)), .val (.ref av), .val (.int (1 : Int32)), .val (.ref r), .unset, .unset] [])) _
        refine XS.iload X93.here hx rfl (hb hby at_76) rfl ?_
        show Steps p.tables e below (T93.setTop (mkF m 78 #[.val (.int p0), .val (.int p1), .val (.int p2), .val (.int p3), .val (.int p4), .val (.int (0 : Int32)), .val (.ref av), .val (.int (1 : Int32)), .val (.ref r), .unset, .unset] [(.int (1 : Int32))])) _
        refine XS.ifYes X93.here hx rfl (pc0 := 78) (pc' := 87) rfl (hb hby at_78) rfl ((if0 _ _).trans (feq (by decide)).2) (by decide) (by decide) ?_
        show Steps p.tables e below (T93.setTop (mkF m 87 #[.val (.int p0), .val (.int p1), .val (.int p2), .val (.int p3), .val (.int p4), .val (.int (0 : Int32)), .val (.ref av), .val (.int (1 : Int32)), .val (.ref r), .unset, .unset] [])) _
        refine XS.iloadN X93.here hx rfl (hb hby at_87) rfl ?_
        show Steps p.tables e below (T93.setTop (mkF m 88 #[.val (.int p0), .val (.int p1), .val (.int p2), .val (.int p3), .val (.int p4), .val (.int (0 : Int32)), .val (.ref av), .val (.int (1 : Int32)), .val (.ref r), .unset, .unset] [(.int p2)])) _
        refine XS.sipush X93.here hx rfl (hb hby at_88) ?_
        show Steps p.tables e below (T93.setTop (mkF m 91 #[.val (.int p0), .val (.int p1), .val (.int p2), .val (.int p3), .val (.int p4), .val (.int (0 : Int32)), .val (.ref av), .val (.int (1 : Int32)), .val (.ref r), .unset, .unset] [(.int (255 : Int32)), (.int p2)])) _
        refine XS.iand X93.here hx rfl (hb hby at_91) rfl ?_
        show Steps p.tables e below (T93.setTop (mkF m 92 #[.val (.int p0), .val (.int p1), .val (.int p2), .val (.int p3), .val (.int p4), .val (.int (0 : Int32)), .val (.ref av), .val (.int (1 : Int32)), .val (.ref r), .unset, .unset] [(.int (p2 &&& (255 : Int32)))])) _
        refine XS.istore X93.here hx rfl (hb hby at_92) rfl (l' := #[.val (.int p0), .val (.int p1), .val (.int p2), .val (.int p3), .val (.int p4), .val (.int (0 : Int32)), .val (.ref av), .val (.int (1 : Int32)), .val (.ref r), .unset, .val (.int (p2 &&& (255 : Int32)))]) rfl ?_
        show Steps p.tables e below (T93.setTop (mkF m 94 #[.val (.int p0), .val (.int p1), .val (.int p2), .val (.int p3), .val (.int p4), .val (.int (0 : Int32)), .val (.ref av), .val (.int (1 : Int32)), .val (.ref r), .unset, .val (.int (p2 &&& (255 : Int32)))] [])) _
        refine XS.iload X93.here hx rfl (hb hby at_94) rfl ?_
        show Steps p.tables e below (T93.setTop (mkF m 96 #[.val (.int p0), .val (.int p1), .val (.int p2), .val (.int p3), .val (.int p4), .val (.int (0 : Int32)), .val (.ref av), .val (.int (1 : Int32)), .val (.ref r), .unset, .val (.int (p2 &&& (255 : Int32)))] [(.int (p2 &&& (255 : Int32)))])) _
        refine XS.sipush X93.here hx rfl (hb hby at_96) ?_
        exact k
      by_cases hc95 : (p2 &&& (255 : Int32)) < (128 : Int32)
      ·
        skip
        have R96 : ∀ t, Steps p.tables e below (T93.setTop (mkF m 132 #[.val (.int p0), .val (.int p1), .val (.int p2), .val (.int p3), .val (.int p4), .val (.int (0 : Int32)), .val (.ref av), .val (.int (1 : Int32)), .val (.ref r), .unset, .val (.int (p2 &&& (255 : Int32)))] [(.int (3 : Int32)), (.int (p2 &&& (255 : Int32)))])) t → Steps p.tables e below (s₁.setTop (entryFrame m #[(.int p0), (.int p1), (.int p2), (.int p3), (.int p4)] maxLocals)) t := by
          intro t k
          refine R94 t ?_
          show Steps p.tables e below (T93.setTop (mkF m 99 #[.val (.int p0), .val (.int p1), .val (.int p2), .val (.int p3), .val (.int p4), .val (.int (0 : Int32)), .val (.ref av), .val (.int (1 : Int32)), .val (.ref r), .unset, .val (.int (p2 &&& (255 : Int32)))] [(.int (128 : Int32)), (.int (p2 &&& (255 : Int32)))])) _
          refine XS.icmpYes X93.here hx rfl (pc0 := 99) (pc' := 108) rfl (hb hby at_99) rfl (tlt hc95).1 (by decide) (by decide) ?_
          show Steps p.tables e below (T93.setTop (mkF m 108 #[.val (.int p0), .val (.int p1), .val (.int p2), .val (.int p3), .val (.int p4), .val (.int (0 : Int32)), .val (.ref av), .val (.int (1 : Int32)), .val (.ref r), .unset, .val (.int (p2 &&& (255 : Int32)))] [])) _
          refine XS.iload X93.here hx rfl (hb hby at_108) rfl ?_
          show Steps p.tables e below (T93.setTop (mkF m 110 #[.val (.int p0), .val (.int p1), .val (.int p2), .val (.int p3), .val (.int p4), .val (.int (0 : Int32)), .val (.ref av), .val (.int (1 : Int32)), .val (.ref r), .unset, .val (.int (p2 &&& (255 : Int32)))] [(.int (0 : Int32))])) _
          refine XS.ifYes X93.here hx rfl (pc0 := 110) (pc' := 129) rfl (hb hby at_110) rfl ((if0 _ _).trans (teq (by decide)).1) (by decide) (by decide) ?_
          show Steps p.tables e below (T93.setTop (mkF m 129 #[.val (.int p0), .val (.int p1), .val (.int p2), .val (.int p3), .val (.int p4), .val (.int (0 : Int32)), .val (.ref av), .val (.int (1 : Int32)), .val (.ref r), .unset, .val (.int (p2 &&& (255 : Int32)))] [])) _
          refine XS.iload X93.here hx rfl (hb hby at_129) rfl ?_
          show Steps p.tables e below (T93.setTop (mkF m 131 #[.val (.int p0), .val (.int p1), .val (.int p2), .val (.int p3), .val (.int p4), .val (.int (0 : Int32)), .val (.ref av), .val (.int (1 : Int32)), .val (.ref r), .unset, .val (.int (p2 &&& (255 : Int32)))] [(.int (p2 &&& (255 : Int32)))])) _
          refine XS.iconst X93.here hx rfl (hb hby at_131) ?_
          exact k
        by_cases hc97 : (p2 &&& (255 : Int32)) = (3 : Int32)
        ·
          skip
          have R98 : ∀ t, Steps p.tables e below (T93.setTop (mkF m 146 #[.val (.int p0), .val (.int p1), .val (.int p2), .val (.int p3), .val (.int p4), .val (.int (0 : Int32)), .val (.ref av), .val (.int (1 : Int32)), .val (.ref r), .val (.int (1 : Int32)), .val (.int (p2 &&& (255 : Int32)))] [(.ref r), (.ref av)])) t → Steps p.tables e below (s₁.setTop (entryFrame m #[(.int p0), (.int p1), (.int p2), (.int p3), (.int p4)] maxLocals)) t := by
            intro t k
            refine R96 t ?_
            show Steps p.tables e below (T93.setTop (mkF m 132 #[.val (.int p0), .val (.int p1), .val (.int p2), .val (.int p3), .val (.int p4), .val (.int (0 : Int32)), .val (.ref av), .val (.int (1 : Int32)), .val (.ref r), .unset, .val (.int (p2 &&& (255 : Int32)))] [(.int (3 : Int32)), (.int (p2 &&& (255 : Int32)))])) _
            refine XS.icmpNo X93.here hx rfl (hb hby at_132) rfl (teq hc97).2 ?_
            show Steps p.tables e below (T93.setTop (mkF m 135 #[.val (.int p0), .val (.int p1), .val (.int p2), .val (.int p3), .val (.int p4), .val (.int (0 : Int32)), .val (.ref av), .val (.int (1 : Int32)), .val (.ref r), .unset, .val (.int (p2 &&& (255 : Int32)))] [])) _
            refine XS.iconst X93.here hx rfl (hb hby at_135) ?_
            show Steps p.tables e below (T93.setTop (mkF m 136 #[.val (.int p0), .val (.int p1), .val (.int p2), .val (.int p3), .val (.int p4), .val (.int (0 : Int32)), .val (.ref av), .val (.int (1 : Int32)), .val (.ref r), .unset, .val (.int (p2 &&& (255 : Int32)))] [(.int (1 : Int32))])) _
            refine XS.goto X93.here hx rfl (pc0 := 136) (pc' := 140) rfl (hb hby at_136) (by decide) (by decide) ?_
            show Steps p.tables e below (T93.setTop (mkF m 140 #[.val (.int p0), .val (.int p1), .val (.int p2), .val (.int p3), .val (.int p4), .val (.int (0 : Int32)), .val (.ref av), .val (.int (1 : Int32)), .val (.ref r), .unset, .val (.int (p2 &&& (255 : Int32)))] [(.int (1 : Int32))])) _
            refine XS.istore X93.here hx rfl (hb hby at_140) rfl (l' := #[.val (.int p0), .val (.int p1), .val (.int p2), .val (.int p3), .val (.int p4), .val (.int (0 : Int32)), .val (.ref av), .val (.int (1 : Int32)), .val (.ref r), .val (.int (1 : Int32)), .val (.int (p2 &&& (255 : Int32)))]) rfl ?_
            show Steps p.tables e below (T93.setTop (mkF m 142 #[.val (.int p0), .val (.int p1), .val (.int p2), .val (.int p3), .val (.int p4), .val (.int (0 : Int32)), .val (.ref av), .val (.int (1 : Int32)), .val (.ref r), .val (.int (1 : Int32)), .val (.int (p2 &&& (255 : Int32)))] [])) _
            refine XS.aload X93.here hx rfl (hb hby at_142) rfl rfl ?_
            show Steps p.tables e below (T93.setTop (mkF m 144 #[.val (.int p0), .val (.int p1), .val (.int p2), .val (.int p3), .val (.int p4), .val (.int (0 : Int32)), .val (.ref av), .val (.int (1 : Int32)), .val (.ref r), .val (.int (1 : Int32)), .val (.int (p2 &&& (255 : Int32)))] [(.ref av)])) _
            refine XS.aload X93.here hx rfl (hb hby at_144) rfl rfl ?_
            exact k
          obtain ⟨cq99, kq99, q99a, q99b, q99c⟩ := isOf hZ e93 E_av
          obtain ⟨_, _, ⟨T99, L99, k99, n99⟩, -, X99, ⟨Lc99, hQ99, l99, y99, z99⟩, st99⟩ := X93.virtualBack hx (y := (⟨"com/example/tapline/reader/Kernel", "isRequestedBy", "([B)Z"⟩ : MethodName)) (z := (⟨"com/example/tapline/reader/Kernel", "isRequestedBy", "([B)Z"⟩ : MethodName)) hown (mvT hZ (hw _ (List.mem_of_getElem? (i := 4) rfl))) (mvT hZ (hw _ (List.mem_of_getElem? (i := 5) rfl))) (notFace_of_selects (args := #[]) (mvT hZ (hw _ (List.mem_of_getElem? (i := 7) rfl)))) (mvT hZ (hw _ (List.mem_of_getElem? (i := 7) rfl))) (mvT hZ (hw _ (List.mem_of_getElem? (i := 6) rfl))) (by decide) (backOf (W := 0) (rm1n1 l Z a0 hw [] av r k90 (3 : Int32) (nar .byte ((p2).toInt8.toInt32)) h93 n0 Sz93 F_identifier_av V_r) hZ (hw _ (List.mem_of_getElem? (i := 8) rfl)) (hw _ (List.mem_of_getElem? (i := 1) rfl)) (by decide) (by decide)) q99a q99c (g := (mkF m 146 #[.val (.int p0), .val (.int p1), .val (.int p2), .val (.int p3), .val (.int p4), .val (.int (0 : Int32)), .val (.ref av), .val (.int (1 : Int32)), .val (.ref r), .val (.int (1 : Int32)), .val (.int (p2 &&& (255 : Int32)))] [(.ref r), (.ref av)])) rfl (by rw [hml]; rfl) (Steps.refl _) (argsL := [(.ref r)]) (rest := []) (lenOf pd_0 rfl) rfl (by show 2 * 0 + _ ≤ _; exact Nat.le_of_eq rfl) (hb hby at_146) (fun _ _ => ⟨rfl, e93, (by decide : 1 + 0 ≤ _), (by decide : 1 + 0 ≤ _)⟩)
          dsimp only [Pt.U, Pt.locs, Pt.cells, Pt.slots] at X99 l99 y99 z99 st99 hQ99
          subst l99 y99 z99
          obtain ⟨rfl, Nq99, eq99⟩ := hQ99
          have N99 := Fr.app N93 Nq99
          have e99 : T99.heap = h93 := eq99
          have R100 : ∀ t, Steps p.tables e below (T99.setTop (mkF m 151 #[.val (.int p0), .val (.int p1), .val (.int p2), .val (.int p3), .val (.int p4), .val (.int (0 : Int32)), .val (.ref av), .val (.int (1 : Int32)), .val (.ref r), .val (.int (1 : Int32)), .val (.int (p2 &&& (255 : Int32)))] [(.int (1 : Int32)), (.int (if ((nar .byte ((p2).toInt8.toInt32)) &&& (255 : Int32)) = (3 : Int32) then (1 : Int32) else (0 : Int32)))])) t → Steps p.tables e below (s₁.setTop (entryFrame m #[(.int p0), (.int p1), (.int p2), (.int p3), (.int p4)] maxLocals)) t := by
            intro t k
            refine R98 t ?_
            show Steps p.tables e below (T93.setTop (mkF m 146 #[.val (.int p0), .val (.int p1), .val (.int p2), .val (.int p3), .val (.int p4), .val (.int (0 : Int32)), .val (.ref av), .val (.int (1 : Int32)), .val (.ref r), .val (.int (1 : Int32)), .val (.int (p2 &&& (255 : Int32)))] [(.ref r), (.ref av)])) _
            refine st99.trans ?_
            show Steps p.tables e below (T99.setTop (mkF m 149 #[.val (.int p0), .val (.int p1), .val (.int p2), .val (.int p3), .val (.int p4), .val (.int (0 : Int32)), .val (.ref av), .val (.int (1 : Int32)), .val (.ref r), .val (.int (1 : Int32)), .val (.int (p2 &&& (255 : Int32)))] [(.int (if ((nar .byte ((p2).toInt8.toInt32)) &&& (255 : Int32)) = (3 : Int32) then (1 : Int32) else (0 : Int32)))])) _
            refine XS.iload X99.here hx rfl (hb hby at_149) rfl ?_
            exact k
          rw [own_b0] at R100
          have R101 : ∀ t, Steps p.tables e below (T99.setTop (mkF m 159 #[.val (.int p0), .val (.int p1), .val (.int p2), .val (.int p3), .val (.int p4), .val (.int (0 : Int32)), .val (.ref av), .val (.int (1 : Int32)), .val (.ref r), .val (.int (1 : Int32)), .val (.int (p2 &&& (255 : Int32)))] [(.int (1 : Int32))])) t → Steps p.tables e below (s₁.setTop (entryFrame m #[(.int p0), (.int p1), (.int p2), (.int p3), (.int p4)] maxLocals)) t := by
            intro t k
            refine R100 t ?_
            show Steps p.tables e below (T99.setTop (mkF m 151 #[.val (.int p0), .val (.int p1), .val (.int p2), .val (.int p3), .val (.int p4), .val (.int (0 : Int32)), .val (.ref av), .val (.int (1 : Int32)), .val (.ref r), .val (.int (1 : Int32)), .val (.int (p2 &&& (255 : Int32)))] [(.int (1 : Int32)), (.int (if (p2 &&& (255 : Int32)) = (3 : Int32) then (1 : Int32) else (0 : Int32)))])) _
            refine XS.icmpNo X99.here hx rfl (hb hby at_151) rfl (teq (if_pos hc97)).2 ?_
            show Steps p.tables e below (T99.setTop (mkF m 154 #[.val (.int p0), .val (.int p1), .val (.int p2), .val (.int p3), .val (.int p4), .val (.int (0 : Int32)), .val (.ref av), .val (.int (1 : Int32)), .val (.ref r), .val (.int (1 : Int32)), .val (.int (p2 &&& (255 : Int32)))] [])) _
            refine XS.iconst X99.here hx rfl (hb hby at_154) ?_
            show Steps p.tables e below (T99.setTop (mkF m 155 #[.val (.int p0), .val (.int p1), .val (.int p2), .val (.int p3), .val (.int p4), .val (.int (0 : Int32)), .val (.ref av), .val (.int (1 : Int32)), .val (.ref r), .val (.int (1 : Int32)), .val (.int (p2 &&& (255 : Int32)))] [(.int (1 : Int32))])) _
            refine XS.goto X99.here hx rfl (pc0 := 155) (pc' := 159) rfl (hb hby at_155) (by decide) (by decide) ?_
            exact k
          obtain ⟨fs, hr, hrun, hended, hW, hsame⟩ := X99.leave (v := some (.int (1 : Int32))) (fun h => by rw [Bd.returns] at h; cases h)
          refine ⟨_, _, R101 _ ?_, hrun, hended, _, _, rfl, ?_, ⟨_, rfl⟩, hW, hsame.mono (by decide) (by decide)⟩
          · exact retN X99 hx (t := .boolean) Bd.returns (by simp) (hb hby at_159) hr
          · show Q0 Z p0 p1 p2 p3 p4 ap av h0 n0 _ T99.heap _
            rw [e99]
            exact ⟨rfl, N99⟩
        ·
          skip
          have R102 : ∀ t, Steps p.tables e below (T93.setTop (mkF m 146 #[.val (.int p0), .val (.int p1), .val (.int p2), .val (.int p3), .val (.int p4), .val (.int (0 : Int32)), .val (.ref av), .val (.int (1 : Int32)), .val (.ref r), .val (.int (0 : Int32)), .val (.int (p2 &&& (255 : Int32)))] [(.ref r), (.ref av)])) t → Steps p.tables e below (s₁.setTop (entryFrame m #[(.int p0), (.int p1), (.int p2), (.int p3), (.int p4)] maxLocals)) t := by
            intro t k
            refine R96 t ?_
            show Steps p.tables e below (T93.setTop (mkF m 132 #[.val (.int p0), .val (.int p1), .val (.int p2), .val (.int p3), .val (.int p4), .val (.int (0 : Int32)), .val (.ref av), .val (.int (1 : Int32)), .val (.ref r), .unset, .val (.int (p2 &&& (255 : Int32)))] [(.int (3 : Int32)), (.int (p2 &&& (255 : Int32)))])) _
            refine XS.icmpYes X93.here hx rfl (pc0 := 132) (pc' := 139) rfl (hb hby at_132) rfl (feq hc97).2 (by decide) (by decide) ?_
            show Steps p.tables e below (T93.setTop (mkF m 139 #[.val (.int p0), .val (.int p1), .val (.int p2), .val (.int p3), .val (.int p4), .val (.int (0 : Int32)), .val (.ref av), .val (.int (1 : Int32)), .val (.ref r), .unset, .val (.int (p2 &&& (255 : Int32)))] [])) _
            refine XS.iconst X93.here hx rfl (hb hby at_139) ?_
            show Steps p.tables e below (T93.setTop (mkF m 140 #[.val (.int p0), .val (.int p1), .val (.int p2), .val (.int p3), .val (.int p4), .val (.int (0 : Int32)), .val (.ref av), .val (.int (1 : Int32)), .val (.ref r), .unset, .val (.int (p2 &&& (255 : Int32)))] [(.int (0 : Int32))])) _
            refine XS.istore X93.here hx rfl (hb hby at_140) rfl (l' := #[.val (.int p0), .val (.int p1), .val (.int p2), .val (.int p3), .val (.int p4), .val (.int (0 : Int32)), .val (.ref av), .val (.int (1 : Int32)), .val (.ref r), .val (.int (0 : Int32)), .val (.int (p2 &&& (255 : Int32)))]) rfl ?_
            show Steps p.tables e below (T93.setTop (mkF m 142 #[.val (.int p0), .val (.int p1), .val (.int p2), .val (.int p3), .val (.int p4), .val (.int (0 : Int32)), .val (.ref av), .val (.int (1 : Int32)), .val (.ref r), .val (.int (0 : Int32)), .val (.int (p2 &&& (255 : Int32)))] [])) _
            refine XS.aload X93.here hx rfl (hb hby at_142) rfl rfl ?_
            show Steps p.tables e below (T93.setTop (mkF m 144 #[.val (.int p0), .val (.int p1), .val (.int p2), .val (.int p3), .val (.int p4), .val (.int (0 : Int32)), .val (.ref av), .val (.int (1 : Int32)), .val (.ref r), .val (.int (0 : Int32)), .val (.int (p2 &&& (255 : Int32)))] [(.ref av)])) _
            refine XS.aload X93.here hx rfl (hb hby at_144) rfl rfl ?_
            exact k
          obtain ⟨cq103, kq103, q103a, q103b, q103c⟩ := isOf hZ e93 E_av
          obtain ⟨_, _, ⟨T103, L103, k103, n103⟩, -, X103, ⟨Lc103, hQ103, l103, y103, z103⟩, st103⟩ := X93.virtualBack hx (y := (⟨"com/example/tapline/reader/Kernel", "isRequestedBy", "([B)Z"⟩ : MethodName)) (z := (⟨"com/example/tapline/reader/Kernel", "isRequestedBy", "([B)Z"⟩ : MethodName)) hown (mvT hZ (hw _ (List.mem_of_getElem? (i := 4) rfl))) (mvT hZ (hw _ (List.mem_of_getElem? (i := 5) rfl))) (notFace_of_selects (args := #[]) (mvT hZ (hw _ (List.mem_of_getElem? (i := 7) rfl)))) (mvT hZ (hw _ (List.mem_of_getElem? (i := 7) rfl))) (mvT hZ (hw _ (List.mem_of_getElem? (i := 6) rfl))) (by decide) (backOf (W := 0) (rm1n1 l Z a0 hw [] av r k90 (3 : Int32) (nar .byte ((p2).toInt8.toInt32)) h93 n0 Sz93 F_identifier_av V_r) hZ (hw _ (List.mem_of_getElem? (i := 8) rfl)) (hw _ (List.mem_of_getElem? (i := 1) rfl)) (by decide) (by decide)) q103a q103c (g := (mkF m 146 #[.val (.int p0), .val (.int p1), .val (.int p2), .val (.int p3), .val (.int p4), .val (.int (0 : Int32)), .val (.ref av), .val (.int (1 : Int32)), .val (.ref r), .val (.int (0 : Int32)), .val (.int (p2 &&& (255 : Int32)))] [(.ref r), (.ref av)])) rfl (by rw [hml]; rfl) (Steps.refl _) (argsL := [(.ref r)]) (rest := []) (lenOf pd_0 rfl) rfl (by show 2 * 0 + _ ≤ _; exact Nat.le_of_eq rfl) (hb hby at_146) (fun _ _ => ⟨rfl, e93, (by decide : 1 + 0 ≤ _), (by decide : 1 + 0 ≤ _)⟩)
          dsimp only [Pt.U, Pt.locs, Pt.cells, Pt.slots] at X103 l103 y103 z103 st103 hQ103
          subst l103 y103 z103
          obtain ⟨rfl, Nq103, eq103⟩ := hQ103
          have N103 := Fr.app N93 Nq103
          have e103 : T103.heap = h93 := eq103
          have R104 : ∀ t, Steps p.tables e below (T103.setTop (mkF m 151 #[.val (.int p0), .val (.int p1), .val (.int p2), .val (.int p3), .val (.int p4), .val (.int (0 : Int32)), .val (.ref av), .val (.int (1 : Int32)), .val (.ref r), .val (.int (0 : Int32)), .val (.int (p2 &&& (255 : Int32)))] [(.int (0 : Int32)), (.int (if ((nar .byte ((p2).toInt8.toInt32)) &&& (255 : Int32)) = (3 : Int32) then (1 : Int32) else (0 : Int32)))])) t → Steps p.tables e below (s₁.setTop (entryFrame m #[(.int p0), (.int p1), (.int p2), (.int p3), (.int p4)] maxLocals)) t := by
            intro t k
            refine R102 t ?_
            show Steps p.tables e below (T93.setTop (mkF m 146 #[.val (.int p0), .val (.int p1), .val (.int p2), .val (.int p3), .val (.int p4), .val (.int (0 : Int32)), .val (.ref av), .val (.int (1 : Int32)), .val (.ref r), .val (.int (0 : Int32)), .val (.int (p2 &&& (255 : Int32)))] [(.ref r), (.ref av)])) _
            refine st103.trans ?_
            show Steps p.tables e below (T103.setTop (mkF m 149 #[.val (.int p0), .val (.int p1), .val (.int p2), .val (.int p3), .val (.int p4), .val (.int (0 : Int32)), .val (.ref av), .val (.int (1 : Int32)), .val (.ref r), .val (.int (0 : Int32)), .val (.int (p2 &&& (255 : Int32)))] [(.int (if ((nar .byte ((p2).toInt8.toInt32)) &&& (255 : Int32)) = (3 : Int32) then (1 : Int32) else (0 : Int32)))])) _
            refine XS.iload X103.here hx rfl (hb hby at_149) rfl ?_
            exact k
          rw [own_b0] at R104
          have R105 : ∀ t, Steps p.tables e below (T103.setTop (mkF m 159 #[.val (.int p0), .val (.int p1), .val (.int p2), .val (.int p3), .val (.int p4), .val (.int (0 : Int32)), .val (.ref av), .val (.int (1 : Int32)), .val (.ref r), .val (.int (0 : Int32)), .val (.int (p2 &&& (255 : Int32)))] [(.int (1 : Int32))])) t → Steps p.tables e below (s₁.setTop (entryFrame m #[(.int p0), (.int p1), (.int p2), (.int p3), (.int p4)] maxLocals)) t := by
            intro t k
            refine R104 t ?_
            show Steps p.tables e below (T103.setTop (mkF m 151 #[.val (.int p0), .val (.int p1), .val (.int p2), .val (.int p3), .val (.int p4), .val (.int (0 : Int32)), .val (.ref av), .val (.int (1 : Int32)), .val (.ref r), .val (.int (0 : Int32)), .val (.int (p2 &&& (255 : Int32)))] [(.int (0 : Int32)), (.int (if (p2 &&& (255 : Int32)) = (3 : Int32) then (1 : Int32) else (0 : Int32)))])) _
            refine XS.icmpNo X103.here hx rfl (hb hby at_151) rfl (teq (if_neg hc97)).2 ?_
            show Steps p.tables e below (T103.setTop (mkF m 154 #[.val (.int p0), .val (.int p1), .val (.int p2), .val (.int p3), .val (.int p4), .val (.int (0 : Int32)), .val (.ref av), .val (.int (1 : Int32)), .val (.ref r), .val (.int (0 : Int32)), .val (.int (p2 &&& (255 : Int32)))] [])) _
            refine XS.iconst X103.here hx rfl (hb hby at_154) ?_
            show Steps p.tables e below (T103.setTop (mkF m 155 #[.val (.int p0), .val (.int p1), .val (.int p2), .val (.int p3), .val (.int p4), .val (.int (0 : Int32)), .val (.ref av), .val (.int (1 : Int32)), .val (.ref r), .val (.int (0 : Int32)), .val (.int (p2 &&& (255 : Int32)))] [(.int (1 : Int32))])) _
            refine XS.goto X103.here hx rfl (pc0 := 155) (pc' := 159) rfl (hb hby at_155) (by decide) (by decide) ?_
            exact k
          obtain ⟨fs, hr, hrun, hended, hW, hsame⟩ := X103.leave (v := some (.int (1 : Int32))) (fun h => by rw [Bd.returns] at h; cases h)
          refine ⟨_, _, R105 _ ?_, hrun, hended, _, _, rfl, ?_, ⟨_, rfl⟩, hW, hsame.mono (by decide) (by decide)⟩
          · exact retN X103 hx (t := .boolean) Bd.returns (by simp) (hb hby at_159) hr
          · show Q0 Z p0 p1 p2 p3 p4 ap av h0 n0 _ T103.heap _
            rw [e103]
            exact ⟨rfl, N103⟩
      ·
        skip
        have R106 : ∀ t, Steps p.tables e below (T93.setTop (mkF m 146 #[.val (.int p0), .val (.int p1), .val (.int p2), .val (.int p3), .val (.int p4), .val (.int (0 : Int32)), .val (.ref av), .val (.int (1 : Int32)), .val (.ref r), .val (.int (0 : Int32)), .val (.int (p2 &&& (255 : Int32)))] [(.ref r), (.ref av)])) t → Steps p.tables e below (s₁.setTop (entryFrame m #[(.int p0), (.int p1), (.int p2), (.int p3), (.int p4)] maxLocals)) t := by
          intro t k
          refine R94 t ?_
          show Steps p.tables e below (T93.setTop (mkF m 99 #[.val (.int p0), .val (.int p1), .val (.int p2), .val (.int p3), .val (.int p4), .val (.int (0 : Int32)), .val (.ref av), .val (.int (1 : Int32)), .val (.ref r), .unset, .val (.int (p2 &&& (255 : Int32)))] [(.int (128 : Int32)), (.int (p2 &&& (255 : Int32)))])) _
          refine XS.icmpNo X93.here hx rfl (hb hby at_99) rfl (flt hc95).1 ?_
          show Steps p.tables e below (T93.setTop (mkF m 102 #[.val (.int p0), .val (.int p1), .val (.int p2), .val (.int p3), .val (.int p4), .val (.int (0 : Int32)), .val (.ref av), .val (.int (1 : Int32)), .val (.ref r), .unset, .val (.int (p2 &&& (255 : Int32)))] [])) _
          refine XS.iconst X93.here hx rfl (hb hby at_102) ?_
          show Steps p.tables e below (T93.setTop (mkF m 103 #[.val (.int p0), .val (.int p1), .val (.int p2), .val (.int p3), .val (.int p4), .val (.int (0 : Int32)), .val (.ref av), .val (.int (1 : Int32)), .val (.ref r), .unset, .val (.int (p2 &&& (255 : Int32)))] [(.int (0 : Int32))])) _
          refine XS.istore X93.here hx rfl (hb hby at_103) rfl (l' := #[.val (.int p0), .val (.int p1), .val (.int p2), .val (.int p3), .val (.int p4), .val (.int (0 : Int32)), .val (.ref av), .val (.int (1 : Int32)), .val (.ref r), .val (.int (0 : Int32)), .val (.int (p2 &&& (255 : Int32)))]) rfl ?_
          show Steps p.tables e below (T93.setTop (mkF m 105 #[.val (.int p0), .val (.int p1), .val (.int p2), .val (.int p3), .val (.int p4), .val (.int (0 : Int32)), .val (.ref av), .val (.int (1 : Int32)), .val (.ref r), .val (.int (0 : Int32)), .val (.int (p2 &&& (255 : Int32)))] [])) _
          refine XS.goto X93.here hx rfl (pc0 := 105) (pc' := 142) rfl (hb hby at_105) (by decide) (by decide) ?_
          show Steps p.tables e below (T93.setTop (mkF m 142 #[.val (.int p0), .val (.int p1), .val (.int p2), .val (.int p3), .val (.int p4), .val (.int (0 : Int32)), .val (.ref av), .val (.int (1 : Int32)), .val (.ref r), .val (.int (0 : Int32)), .val (.int (p2 &&& (255 : Int32)))] [])) _
          refine XS.aload X93.here hx rfl (hb hby at_142) rfl rfl ?_
          show Steps p.tables e below (T93.setTop (mkF m 144 #[.val (.int p0), .val (.int p1), .val (.int p2), .val (.int p3), .val (.int p4), .val (.int (0 : Int32)), .val (.ref av), .val (.int (1 : Int32)), .val (.ref r), .val (.int (0 : Int32)), .val (.int (p2 &&& (255 : Int32)))] [(.ref av)])) _
          refine XS.aload X93.here hx rfl (hb hby at_144) rfl rfl ?_
          exact k
        obtain ⟨cq107, kq107, q107a, q107b, q107c⟩ := isOf hZ e93 E_av
        obtain ⟨_, _, ⟨T107, L107, k107, n107⟩, -, X107, ⟨Lc107, hQ107, l107, y107, z107⟩, st107⟩ := X93.virtualBack hx (y := (⟨"com/example/tapline/reader/Kernel", "isRequestedBy", "([B)Z"⟩ : MethodName)) (z := (⟨"com/example/tapline/reader/Kernel", "isRequestedBy", "([B)Z"⟩ : MethodName)) hown (mvT hZ (hw _ (List.mem_of_getElem? (i := 4) rfl))) (mvT hZ (hw _ (List.mem_of_getElem? (i := 5) rfl))) (notFace_of_selects (args := #[]) (mvT hZ (hw _ (List.mem_of_getElem? (i := 7) rfl)))) (mvT hZ (hw _ (List.mem_of_getElem? (i := 7) rfl))) (mvT hZ (hw _ (List.mem_of_getElem? (i := 6) rfl))) (by decide) (backOf (W := 0) (rm1n1 l Z a0 hw [] av r k90 (3 : Int32) (nar .byte ((p2).toInt8.toInt32)) h93 n0 Sz93 F_identifier_av V_r) hZ (hw _ (List.mem_of_getElem? (i := 8) rfl)) (hw _ (List.mem_of_getElem? (i := 1) rfl)) (by decide) (by decide)) q107a q107c (g := (mkF m 146 #[.val (.int p0), .val (.int p1), .val (.int p2), .val (.int p3), .val (.int p4), .val (.int (0 : Int32)), .val (.ref av), .val (.int (1 : Int32)), .val (.ref r), .val (.int (0 : Int32)), .val (.int (p2 &&& (255 : Int32)))] [(.ref r), (.ref av)])) rfl (by rw [hml]; rfl) (Steps.refl _) (argsL := [(.ref r)]) (rest := []) (lenOf pd_0 rfl) rfl (by show 2 * 0 + _ ≤ _; exact Nat.le_of_eq rfl) (hb hby at_146) (fun _ _ => ⟨rfl, e93, (by decide : 1 + 0 ≤ _), (by decide : 1 + 0 ≤ _)⟩)
        dsimp only [Pt.U, Pt.locs, Pt.cells, Pt.slots] at X107 l107 y107 z107 st107 hQ107
        subst l107 y107 z107
        obtain ⟨rfl, Nq107, eq107⟩ := hQ107
        have N107 := Fr.app N93 Nq107
        have e107 : T107.heap = h93 := eq107
        have R108 : ∀ t, Steps p.tables e below (T107.setTop (mkF m 151 #[.val (.int p0), .val (.int p1), .val (.int p2), .val (.int p3), .val (.int p4), .val (.int (0 : Int32)), .val (.ref av), .val (.int (1 : Int32)), .val (.ref r), .val (.int (0 : Int32)), .val (.int (p2 &&& (255 : Int32)))] [(.int (0 : Int32)), (.int (if ((nar .byte ((p2).toInt8.toInt32)) &&& (255 : Int32)) = (3 : Int32) then (1 : Int32) else (0 : Int32)))])) t → Steps p.tables e below (s₁.setTop (entryFrame m #[(.int p0), (.int p1), (.int p2), (.int p3), (.int p4)] maxLocals)) t := by
          intro t k
          refine R106 t ?_
          show Steps p.tables e below (T93.setTop (mkF m 146 #[.val (.int p0), .val (.int p1), .val (.int p2), .val (.int p3), .val (.int p4), .val (.int (0 : Int32)), .val (.ref av), .val (.int (1 : Int32)), .val (.ref r), .val (.int (0 : Int32)), .val (.int (p2 &&& (255 : Int32)))] [(.ref r), (.ref av)])) _
          refine st107.trans ?_
          show Steps p.tables e below (T107.setTop (mkF m 149 #[.val (.int p0), .val (.int p1), .val (.int p2), .val (.int p3), .val (.int p4), .val (.int (0 : Int32)), .val (.ref av), .val (.int (1 : Int32)), .val (.ref r), .val (.int (0 : Int32)), .val (.int (p2 &&& (255 : Int32)))] [(.int (if ((nar .byte ((p2).toInt8.toInt32)) &&& (255 : Int32)) = (3 : Int32) then (1 : Int32) else (0 : Int32)))])) _
          refine XS.iload X107.here hx rfl (hb hby at_149) rfl ?_
          exact k
        rw [own_b0] at R108
        have R109 : ∀ t, Steps p.tables e below (T107.setTop (mkF m 159 #[.val (.int p0), .val (.int p1), .val (.int p2), .val (.int p3), .val (.int p4), .val (.int (0 : Int32)), .val (.ref av), .val (.int (1 : Int32)), .val (.ref r), .val (.int (0 : Int32)), .val (.int (p2 &&& (255 : Int32)))] [(.int (1 : Int32))])) t → Steps p.tables e below (s₁.setTop (entryFrame m #[(.int p0), (.int p1), (.int p2), (.int p3), (.int p4)] maxLocals)) t := by
          intro t k
          refine R108 t ?_
          show Steps p.tables e below (T107.setTop (mkF m 151 #[.val (.int p0), .val (.int p1), .val (.int p2), .val (.int p3), .val (.int p4), .val (.int (0 : Int32)), .val (.ref av), .val (.int (1 : Int32)), .val (.ref r), .val (.int (0 : Int32)), .val (.int (p2 &&& (255 : Int32)))] [(.int (0 : Int32)), (.int (if (p2 &&& (255 : Int32)) = (3 : Int32) then (1 : Int32) else (0 : Int32)))])) _
          refine XS.icmpNo X107.here hx rfl (hb hby at_151) rfl (teq (if_neg (fun q : (p2 &&& (255 : Int32)) = (3 : Int32) => hc95 (by rw [q]; decide)))).2 ?_
          show Steps p.tables e below (T107.setTop (mkF m 154 #[.val (.int p0), .val (.int p1), .val (.int p2), .val (.int p3), .val (.int p4), .val (.int (0 : Int32)), .val (.ref av), .val (.int (1 : Int32)), .val (.ref r), .val (.int (0 : Int32)), .val (.int (p2 &&& (255 : Int32)))] [])) _
          refine XS.iconst X107.here hx rfl (hb hby at_154) ?_
          show Steps p.tables e below (T107.setTop (mkF m 155 #[.val (.int p0), .val (.int p1), .val (.int p2), .val (.int p3), .val (.int p4), .val (.int (0 : Int32)), .val (.ref av), .val (.int (1 : Int32)), .val (.ref r), .val (.int (0 : Int32)), .val (.int (p2 &&& (255 : Int32)))] [(.int (1 : Int32))])) _
          refine XS.goto X107.here hx rfl (pc0 := 155) (pc' := 159) rfl (hb hby at_155) (by decide) (by decide) ?_
          exact k
        obtain ⟨fs, hr, hrun, hended, hW, hsame⟩ := X107.leave (v := some (.int (1 : Int32))) (fun h => by rw [Bd.returns] at h; cases h)
        refine ⟨_, _, R109 _ ?_, hrun, hended, _, _, rfl, ?_, ⟨_, rfl⟩, hW, hsame.mono (by decide) (by decide)⟩
        · exact retN X107 hx (t := .boolean) Bd.returns (by simp) (hb hby at_159) hr
        · show Q0 Z p0 p1 p2 p3 p4 ap av h0 n0 _ T107.heap _
          rw [e107]
          exact ⟨rfl, N107⟩
    ·
      rw [hv84] at R83
      obtain ⟨T110, h110, k110, X110, e110, E110, A110, st110⟩ := newP X82 hx hZ (hw _ (List.mem_of_getElem? (i := 3) rfl)) e82 (g := (mkF m 36 #[.val (.int p0), .val (.int p1), .val (.int p2), .val (.int p3), .val (.int p4), .val (.int (0 : Int32)), .val (.ref av), .val (.int (2 : Int32)), .unset, .unset, .unset] [(.int (2 : Int32))])) rfl (hb hby at_36) rfl (by decide) (cap := 2) (by decide) (by decide) (by decide) (by decide)
      obtain ⟨r, g110⟩ : ∃ z, z = h0.size := ⟨_, rfl⟩
      rw [← g110] at A110 st110
      have ge_r : n0 ≤ r := by rw [g110]; exact Z0
      have Sz110 := Nat.le_trans Z0 E110.1
      have ne_av_r : av ≠ r := Nat.ne_of_lt (Nat.lt_of_lt_of_le E_av.lt (Nat.le_of_eq g110.symm))
      have E_av := E_av.ext E110
      have F_identifier_av := F_identifier_av.ext E110
      have V_r : Arv Z h110 r k110 .byte (2 : Int32) [(.int (0 : Int32)), (.int (0 : Int32))] (.int (0 : Int32)) := (Arv.new A110 (by decide)).pad (pad_rep [] (.int (0 : Int32)) 2)
      have R111 : ∀ t, Steps p.tables e below (T110.setTop (mkF m 50 #[.val (.int p0), .val (.int p1), .val (.int p2), .val (.int p3), .val (.int p4), .val (.int (0 : Int32)), .val (.ref av), .val (.int (2 : Int32)), .val (.ref r), .unset, .unset] [(.int ((p2).toInt8.toInt32)), (.int (0 : Int32)), (.ref r)])) t → Steps p.tables e below (s₁.setTop (entryFrame m #[(.int p0), (.int p1), (.int p2), (.int p3), (.int p4)] maxLocals)) t := by
        intro t k
        refine R83 t ?_
        show Steps p.tables e below (T82.setTop (mkF m 36 #[.val (.int p0), .val (.int p1), .val (.int p2), .val (.int p3), .val (.int p4), .val (.int (0 : Int32)), .val (.ref av), .val (.int (2 : Int32)), .unset, .unset, .unset] [(.int (2 : Int32))])) _
        refine st110 _ ?_
        show Steps p.tables e below (T110.setTop (mkF m 38 #[.val (.int p0), .val (.int p1), .val (.int p2), .val (.int p3), .val (.int p4), .val (.int (0 : Int32)), .val (.ref av), .val (.int (2 : Int32)), .unset, .unset, .unset] [(.ref r)])) _
        refine XS.astore X110.here hx rfl (hb hby at_38) rfl rfl (l' := #[.val (.int p0), .val (.int p1), .val (.int p2), .val (.int p3), .val (.int p4), .val (.int (0 : Int32)), .val (.ref av), .val (.int (2 : Int32)), .val (.ref r), .unset, .unset]) rfl ?_
        show Steps p.tables e below (T110.setTop (mkF m 40 #[.val (.int p0), .val (.int p1), .val (.int p2), .val (.int p3), .val (.int p4), .val (.int (0 : Int32)), .val (.ref av), .val (.int (2 : Int32)), .val (.ref r), .unset, .unset] [])) _
        refine XS.iload X110.here hx rfl (hb hby at_40) rfl ?_
        show Steps p.tables e below (T110.setTop (mkF m 42 #[.val (.int p0), .val (.int p1), .val (.int p2), .val (.int p3), .val (.int p4), .val (.int (0 : Int32)), .val (.ref av), .val (.int (2 : Int32)), .val (.ref r), .unset, .unset] [(.int (2 : Int32))])) _
        refine XS.ifNo X110.here hx rfl (hb hby at_42) rfl ((if0 _ _).trans (tlt (by decide)).2.2.2) ?_
        show Steps p.tables e below (T110.setTop (mkF m 45 #[.val (.int p0), .val (.int p1), .val (.int p2), .val (.int p3), .val (.int p4), .val (.int (0 : Int32)), .val (.ref av), .val (.int (2 : Int32)), .val (.ref r), .unset, .unset] [])) _
        refine XS.aload X110.here hx rfl (hb hby at_45) rfl rfl ?_
        show Steps p.tables e below (T110.setTop (mkF m 47 #[.val (.int p0), .val (.int p1), .val (.int p2), .val (.int p3), .val (.int p4), .val (.int (0 : Int32)), .val (.ref av), .val (.int (2 : Int32)), .val (.ref r), .unset, .unset] [(.ref r)])) _
        refine XS.iconst X110.here hx rfl (hb hby at_47) ?_
        show Steps p.tables e below (T110.setTop (mkF m 48 #[.val (.int p0), .val (.int p1), .val (.int p2), .val (.int p3), .val (.int p4), .val (.int (0 : Int32)), .val (.ref av), .val (.int (2 : Int32)), .val (.ref r), .unset, .unset] [(.int (0 : Int32)), (.ref r)])) _
        refine XS.iloadN X110.here hx rfl (hb hby at_48) rfl ?_
        show Steps p.tables e below (T110.setTop (mkF m 49 #[.val (.int p0), .val (.int p1), .val (.int p2), .val (.int p3), .val (.int p4), .val (.int (0 : Int32)), .val (.ref av), .val (.int (2 : Int32)), .val (.ref r), .unset, .unset] [(.int p2), (.int (0 : Int32)), (.ref r)])) _
        refine XS.i2b X110.here hx rfl (hb hby at_49) rfl ?_
        exact k
      obtain ⟨cl112, Ar112, Aq112, As112, An112, Ah112, Ag112⟩ := id V_r
      have hin112 : ¬ ((0 : Int32) < 0 ∨ cl112.slots.size ≤ ((0 : Int32)).toNatClampNeg) := inb_of As112 ⟨by decide, by decide⟩
      obtain ⟨T113, h113, X113, e113, W113, st113⟩ := stB X110 hx hZ e110 Ar112 (j := (0 : Int32)) hin112 (g := (mkF m 50 #[.val (.int p0), .val (.int p1), .val (.int p2), .val (.int p3), .val (.int p4), .val (.int (0 : Int32)), .val (.ref av), .val (.int (2 : Int32)), .val (.ref r), .unset, .unset] [(.int ((p2).toInt8.toInt32)), (.int (0 : Int32)), (.ref r)])) rfl rfl (hb hby at_50)
      have N113 := Fr.snoc X113 N0 ge_r
      have Sz113 := Nat.le_trans Sz110 (Keep.of_wr W113).1
      have E_av := E_av.wr W113
      have F_identifier_av := F_identifier_av.other W113 (Or.inl ne_av_r)
      have V_r : Arv Z h113 r k110 .byte (2 : Int32) [(.int (nar .byte ((p2).toInt8.toInt32))), (.int (0 : Int32))] (.int (0 : Int32)) := Arv.set Ar112 Aq112 As112 An112 Ah112 Ag112 (fits_nar_byte _) W113 0 rfl (Nat.le_of_ble_eq_true rfl)
      have R114 : ∀ t, Steps p.tables e below (T113.setTop (mkF m 62 #[.val (.int p0), .val (.int p1), .val (.int p2), .val (.int p3), .val (.int p4), .val (.int (0 : Int32)), .val (.ref av), .val (.int (2 : Int32)), .val (.ref r), .unset, .unset] [(.int ((p3).toInt8.toInt32)), (.int (1 : Int32)), (.ref r)])) t → Steps p.tables e below (s₁.setTop (entryFrame m #[(.int p0), (.int p1), (.int p2), (.int p3), (.int p4)] maxLocals)) t := by
        intro t k
        refine R111 t ?_
        show Steps p.tables e below (T110.setTop (mkF m 50 #[.val (.int p0), .val (.int p1), .val (.int p2), .val (.int p3), .val (.int p4), .val (.int (0 : Int32)), .val (.ref av), .val (.int (2 : Int32)), .val (.ref r), .unset, .unset] [(.int ((p2).toInt8.toInt32)), (.int (0 : Int32)), (.ref r)])) _
        refine st113 _ ?_
        show Steps p.tables e below (T113.setTop (mkF m 51 #[.val (.int p0), .val (.int p1), .val (.int p2), .val (.int p3), .val (.int p4), .val (.int (0 : Int32)), .val (.ref av), .val (.int (2 : Int32)), .val (.ref r), .unset, .unset] [])) _
        refine XS.iload X113.here hx rfl (hb hby at_51) rfl ?_
        show Steps p.tables e below (T113.setTop (mkF m 53 #[.val (.int p0), .val (.int p1), .val (.int p2), .val (.int p3), .val (.int p4), .val (.int (0 : Int32)), .val (.ref av), .val (.int (2 : Int32)), .val (.ref r), .unset, .unset] [(.int (2 : Int32))])) _
        refine XS.iconst X113.here hx rfl (hb hby at_53) ?_
        show Steps p.tables e below (T113.setTop (mkF m 54 #[.val (.int p0), .val (.int p1), .val (.int p2), .val (.int p3), .val (.int p4), .val (.int (0 : Int32)), .val (.ref av), .val (.int (2 : Int32)), .val (.ref r), .unset, .unset] [(.int (1 : Int32)), (.int (2 : Int32))])) _
        refine XS.icmpNo X113.here hx rfl (hb hby at_54) rfl (tlt (by decide)).2.2.2 ?_
        show Steps p.tables e below (T113.setTop (mkF m 57 #[.val (.int p0), .val (.int p1), .val (.int p2), .val (.int p3), .val (.int p4), .val (.int (0 : Int32)), .val (.ref av), .val (.int (2 : Int32)), .val (.ref r), .unset, .unset] [])) _
        refine XS.aload X113.here hx rfl (hb hby at_57) rfl rfl ?_
        show Steps p.tables e below (T113.setTop (mkF m 59 #[.val (.int p0), .val (.int p1), .val (.int p2), .val (.int p3), .val (.int p4), .val (.int (0 : Int32)), .val (.ref av), .val (.int (2 : Int32)), .val (.ref r), .unset, .unset] [(.ref r)])) _
        refine XS.iconst X113.here hx rfl (hb hby at_59) ?_
        show Steps p.tables e below (T113.setTop (mkF m 60 #[.val (.int p0), .val (.int p1), .val (.int p2), .val (.int p3), .val (.int p4), .val (.int (0 : Int32)), .val (.ref av), .val (.int (2 : Int32)), .val (.ref r), .unset, .unset] [(.int (1 : Int32)), (.ref r)])) _
        refine XS.iloadN X113.here hx rfl (hb hby at_60) rfl ?_
        show Steps p.tables e below (T113.setTop (mkF m 61 #[.val (.int p0), .val (.int p1), .val (.int p2), .val (.int p3), .val (.int p4), .val (.int (0 : Int32)), .val (.ref av), .val (.int (2 : Int32)), .val (.ref r), .unset, .unset] [(.int p3), (.int (1 : Int32)), (.ref r)])) _
        refine XS.i2b X113.here hx rfl (hb hby at_61) rfl ?_
        exact k
      obtain ⟨cl115, Ar115, Aq115, As115, An115, Ah115, Ag115⟩ := id V_r
      have hin115 : ¬ ((1 : Int32) < 0 ∨ cl115.slots.size ≤ ((1 : Int32)).toNatClampNeg) := inb_of As115 ⟨by decide, by decide⟩
      obtain ⟨T116, h116, X116, e116, W116, st116⟩ := stB X113 hx hZ e113 Ar115 (j := (1 : Int32)) hin115 (g := (mkF m 62 #[.val (.int p0), .val (.int p1), .val (.int p2), .val (.int p3), .val (.int p4), .val (.int (0 : Int32)), .val (.ref av), .val (.int (2 : Int32)), .val (.ref r), .unset, .unset] [(.int ((p3).toInt8.toInt32)), (.int (1 : Int32)), (.ref r)])) rfl rfl (hb hby at_62)
      have N116 := Fr.snoc X116 N113 ge_r
      have Sz116 := Nat.le_trans Sz113 (Keep.of_wr W116).1
      have E_av := E_av.wr W116
      have F_identifier_av := F_identifier_av.other W116 (Or.inl ne_av_r)
      have V_r : Arv Z h116 r k110 .byte (2 : Int32) [(.int (nar .byte ((p2).toInt8.toInt32))), (.int (nar .byte ((p3).toInt8.toInt32)))] (.int (0 : Int32)) := Arv.set Ar115 Aq115 As115 An115 Ah115 Ag115 (fits_nar_byte _) W116 1 rfl (Nat.le_of_ble_eq_true rfl)
      have R117 : ∀ t, Steps p.tables e below (T116.setTop (mkF m 99 #[.val (.int p0), .val (.int p1), .val (.int p2), .val (.int p3), .val (.int p4), .val (.int (0 : Int32)), .val (.ref av), .val (.int (2 : Int32)), .val (.ref r), .unset, .val (.int (p2 &&& (255 : Int32)))] [(.int (128 : Int32)), (.int (p2 &&& (255 : Int32)))])) t → Steps p.tables e below (s₁.setTop (entryFrame m #[(.int p0), (.int p1), (.int p2), (.int p3), (.int p4)] maxLocals)) t := by
        intro t k
        refine R114 t ?_
        show Steps p.tables e below (T113.setTop (mkF m 62 #[.val (.int p0), .val (.int p1), .val (.int p2), .val (.int p3), .val (.int p4), .val (.int (0 : Int32)), .val (.ref av), .val (.int (2 : Int32)), .val (.ref r), .unset, .unset] [(.int ((p3).toInt8.toInt32)), (.int (1 : Int32)), (.ref r)])) _
        refine st116 _ ?_
        show Steps p.tables e below (T116.setTop (mkF m 63 #[.val (.int p0), .val (.int p1), .val (.int p2), .val (.int p3), .val (.int p4), .val (.int (0 : Int32)), .val (.ref av), .val (.int (2 : Int32)), .val (.ref r), .unset, .unset] [])) _
        refine XS.iload X116.here hx rfl (hb hby at_63) rfl ?_
        show Steps p.tables e below (T116.setTop (mkF m 65 #[.val (.int p0), .val (.int p1), .val (.int p2), .val (.int p3), .val (.int p4), .val (.int (0 : Int32)), .val (.ref av), .val (.int (2 : Int32)), .val (.ref r), .unset, .unset] [(.int (2 : Int32))])) _
        refine XS.iconst X116.here hx rfl (hb hby at_65) ?_
        show Steps p.tables e below (T116.setTop (mkF m 66 #[.val (.int p0), .val (.int p1), .val (.int p2), .val (.int p3), .val (.int p4), .val (.int (0 : Int32)), .val (.ref av), .val (.int (2 : Int32)), .val (.ref r), .unset, .unset] [(.int (2 : Int32)), (.int (2 : Int32))])) _
        refine XS.icmpYes X116.here hx rfl (pc0 := 66) (pc' := 76) rfl (hb hby at_66) rfl (flt (by decide)).2.2.2 (by decide) (by decide) ?_
        show Steps p.tables e below (T116.setTop (mkF m 76 #[.val (.int p0), .val (.int p1), .val (.int p2), .val (.int p3), .val (.int p4), .val (.int (0 : Int32)), .val (.ref av), .val (.int (2 : Int32)), .val (.ref r), .unset, .unset] [])) _
        refine XS.iload X116.here hx rfl (hb hby at_76) rfl ?_
        show Steps p.tables e below (T116.setTop (mkF m 78 #[.val (.int p0), .val (.int p1), .val (.int p2), .val (.int p3), .val (.int p4), .val (.int (0 : Int32)), .val (.ref av), .val (.int (2 : Int32)), .val (.ref r), .unset, .unset] [(.int (2 : Int32))])) _
        refine XS.ifYes X116.here hx rfl (pc0 := 78) (pc' := 87) rfl (hb hby at_78) rfl ((if0 _ _).trans (feq (by decide)).2) (by decide) (by decide) ?_
        show Steps p.tables e below (T116.setTop (mkF m 87 #[.val (.int p0), .val (.int p1), .val (.int p2), .val (.int p3), .val (.int p4), .val (.int (0 : Int32)), .val (.ref av), .val (.int (2 : Int32)), .val (.ref r), .unset, .unset] [])) _
        refine XS.iloadN X116.here hx rfl (hb hby at_87) rfl ?_
        show Steps p.tables e below (T116.setTop (mkF m 88 #[.val (.int p0), .val (.int p1), .val (.int p2), .val (.int p3), .val (.int p4), .val (.int (0 : Int32)), .val (.ref av), .val (.int (2 : Int32)), .val (.ref r), .unset, .unset] [(.int p2)])) _
        refine XS.sipush X116.here hx rfl (hb hby at_88) ?_
        show Steps p.tables e below (T116.setTop (mkF m 91 #[.val (.int p0), .val (.int p1), .val (.int p2), .val (.int p3), .val (.int p4), .val (.int (0 : Int32)), .val (.ref av), .val (.int (2 : Int32)), .val (.ref r), .unset, .unset] [(.int (255 : Int32)), (.int p2)])) _
        refine XS.iand X116.here hx rfl (hb hby at_91) rfl ?_
        show Steps p.tables e below (T116.setTop (mkF m 92 #[.val (.int p0), .val (.int p1), .val (.int p2), .val (.int p3), .val (.int p4), .val (.int (0 : Int32)), .val (.ref av), .val (.int (2 : Int32)), .val (.ref r), .unset, .unset] [(.int (p2 &&& (255 : Int32)))])) _
        refine XS.istore X116.here hx rfl (hb hby at_92) rfl (l' := #[.val (.int p0), .val (.int p1), .val (.int p2), .val (.int p3), .val (.int p4), .val (.int (0 : Int32)), .val (.ref av), .val (.int (2 : Int32)), .val (.ref r), .unset, .val (.int (p2 &&& (255 : Int32)))]) rfl ?_
        show Steps p.tables e below (T116.setTop (mkF m 94 #[.val (.int p0), .val (.int p1), .val (.int p2), .val (.int p3), .val (.int p4), .val (.int (0 : Int32)), .val (.ref av), .val (.int (2 : Int32)), .val (.ref r), .unset, .val (.int (p2 &&& (255 : Int32)))] [])) _
        refine XS.iload X116.here hx rfl (hb hby at_94) rfl ?_
        show Steps p.tables e below (T116.setTop (mkF m 96 #[.val (.int p0), .val (.int p1), .val (.int p2), .val (.int p3), .val (.int p4), .val (.int (0 : Int32)), .val (.ref av), .val (.int (2 : Int32)), .val (.ref r), .unset, .val (.int (p2 &&& (255 : Int32)))] [(.int (p2 &&& (255 : Int32)))])) _
        refine XS.sipush X116.here hx rfl (hb hby at_96) ?_
        exact k
      by_cases hc118 : (p2 &&& (255 : Int32)) < (128 : Int32)
      ·
        skip
        have R119 : ∀ t, Steps p.tables e below (T116.setTop (mkF m 132 #[.val (.int p0), .val (.int p1), .val (.int p2), .val (.int p3), .val (.int p4), .val (.int (0 : Int32)), .val (.ref av), .val (.int (2 : Int32)), .val (.ref r), .unset, .val (.int (p2 &&& (255 : Int32)))] [(.int (3 : Int32)), (.int (p2 &&& (255 : Int32)))])) t → Steps p.tables e below (s₁.setTop (entryFrame m #[(.int p0), (.int p1), (.int p2), (.int p3), (.int p4)] maxLocals)) t := by
          intro t k
          refine R117 t ?_
          show Steps p.tables e below (T116.setTop (mkF m 99 #[.val (.int p0), .val (.int p1), .val (.int p2), .val (.int p3), .val (.int p4), .val (.int (0 : Int32)), .val (.ref av), .val (.int (2 : Int32)), .val (.ref r), .unset, .val (.int (p2 &&& (255 : Int32)))] [(.int (128 : Int32)), (.int (p2 &&& (255 : Int32)))])) _
          refine XS.icmpYes X116.here hx rfl (pc0 := 99) (pc' := 108) rfl (hb hby at_99) rfl (tlt hc118).1 (by decide) (by decide) ?_
          show Steps p.tables e below (T116.setTop (mkF m 108 #[.val (.int p0), .val (.int p1), .val (.int p2), .val (.int p3), .val (.int p4), .val (.int (0 : Int32)), .val (.ref av), .val (.int (2 : Int32)), .val (.ref r), .unset, .val (.int (p2 &&& (255 : Int32)))] [])) _
          refine XS.iload X116.here hx rfl (hb hby at_108) rfl ?_
          show Steps p.tables e below (T116.setTop (mkF m 110 #[.val (.int p0), .val (.int p1), .val (.int p2), .val (.int p3), .val (.int p4), .val (.int (0 : Int32)), .val (.ref av), .val (.int (2 : Int32)), .val (.ref r), .unset, .val (.int (p2 &&& (255 : Int32)))] [(.int (0 : Int32))])) _
          refine XS.ifYes X116.here hx rfl (pc0 := 110) (pc' := 129) rfl (hb hby at_110) rfl ((if0 _ _).trans (teq (by decide)).1) (by decide) (by decide) ?_
          show Steps p.tables e below (T116.setTop (mkF m 129 #[.val (.int p0), .val (.int p1), .val (.int p2), .val (.int p3), .val (.int p4), .val (.int (0 : Int32)), .val (.ref av), .val (.int (2 : Int32)), .val (.ref r), .unset, .val (.int (p2 &&& (255 : Int32)))] [])) _
          refine XS.iload X116.here hx rfl (hb hby at_129) rfl ?_
          show Steps p.tables e below (T116.setTop (mkF m 131 #[.val (.int p0), .val (.int p1), .val (.int p2), .val (.int p3), .val (.int p4), .val (.int (0 : Int32)), .val (.ref av), .val (.int (2 : Int32)), .val (.ref r), .unset, .val (.int (p2 &&& (255 : Int32)))] [(.int (p2 &&& (255 : Int32)))])) _
          refine XS.iconst X116.here hx rfl (hb hby at_131) ?_
          exact k
        by_cases hc120 : (p2 &&& (255 : Int32)) = (3 : Int32)
        ·
          skip
          have R121 : ∀ t, Steps p.tables e below (T116.setTop (mkF m 146 #[.val (.int p0), .val (.int p1), .val (.int p2), .val (.int p3), .val (.int p4), .val (.int (0 : Int32)), .val (.ref av), .val (.int (2 : Int32)), .val (.ref r), .val (.int (1 : Int32)), .val (.int (p2 &&& (255 : Int32)))] [(.ref r), (.ref av)])) t → Steps p.tables e below (s₁.setTop (entryFrame m #[(.int p0), (.int p1), (.int p2), (.int p3), (.int p4)] maxLocals)) t := by
            intro t k
            refine R119 t ?_
            show Steps p.tables e below (T116.setTop (mkF m 132 #[.val (.int p0), .val (.int p1), .val (.int p2), .val (.int p3), .val (.int p4), .val (.int (0 : Int32)), .val (.ref av), .val (.int (2 : Int32)), .val (.ref r), .unset, .val (.int (p2 &&& (255 : Int32)))] [(.int (3 : Int32)), (.int (p2 &&& (255 : Int32)))])) _
            refine XS.icmpNo X116.here hx rfl (hb hby at_132) rfl (teq hc120).2 ?_
            show Steps p.tables e below (T116.setTop (mkF m 135 #[.val (.int p0), .val (.int p1), .val (.int p2), .val (.int p3), .val (.int p4), .val (.int (0 : Int32)), .val (.ref av), .val (.int (2 : Int32)), .val (.ref r), .unset, .val (.int (p2 &&& (255 : Int32)))] [])) _
            refine XS.iconst X116.here hx rfl (hb hby at_135) ?_
            show Steps p.tables e below (T116.setTop (mkF m 136 #[.val (.int p0), .val (.int p1), .val (.int p2), .val (.int p3), .val (.int p4), .val (.int (0 : Int32)), .val (.ref av), .val (.int (2 : Int32)), .val (.ref r), .unset, .val (.int (p2 &&& (255 : Int32)))] [(.int (1 : Int32))])) _
            refine XS.goto X116.here hx rfl (pc0 := 136) (pc' := 140) rfl (hb hby at_136) (by decide) (by decide) ?_
            show Steps p.tables e below (T116.setTop (mkF m 140 #[.val (.int p0), .val (.int p1), .val (.int p2), .val (.int p3), .val (.int p4), .val (.int (0 : Int32)), .val (.ref av), .val (.int (2 : Int32)), .val (.ref r), .unset, .val (.int (p2 &&& (255 : Int32)))] [(.int (1 : Int32))])) _
            refine XS.istore X116.here hx rfl (hb hby at_140) rfl (l' := #[.val (.int p0), .val (.int p1), .val (.int p2), .val (.int p3), .val (.int p4), .val (.int (0 : Int32)), .val (.ref av), .val (.int (2 : Int32)), .val (.ref r), .val (.int (1 : Int32)), .val (.int (p2 &&& (255 : Int32)))]) rfl ?_
            show Steps p.tables e below (T116.setTop (mkF m 142 #[.val (.int p0), .val (.int p1), .val (.int p2), .val (.int p3), .val (.int p4), .val (.int (0 : Int32)), .val (.ref av), .val (.int (2 : Int32)), .val (.ref r), .val (.int (1 : Int32)), .val (.int (p2 &&& (255 : Int32)))] [])) _
            refine XS.aload X116.here hx rfl (hb hby at_142) rfl rfl ?_
            show Steps p.tables e below (T116.setTop (mkF m 144 #[.val (.int p0), .val (.int p1), .val (.int p2), .val (.int p3), .val (.int p4), .val (.int (0 : Int32)), .val (.ref av), .val (.int (2 : Int32)), .val (.ref r), .val (.int (1 : Int32)), .val (.int (p2 &&& (255 : Int32)))] [(.ref av)])) _
            refine XS.aload X116.here hx rfl (hb hby at_144) rfl rfl ?_
            exact k
          obtain ⟨cq122, kq122, q122a, q122b, q122c⟩ := isOf hZ e116 E_av
          obtain ⟨_, _, ⟨T122, L122, k122, n122⟩, -, X122, ⟨Lc122, hQ122, l122, y122, z122⟩, st122⟩ := X116.virtualBack hx (y := (⟨"com/example/tapline/reader/Kernel", "isRequestedBy", "([B)Z"⟩ : MethodName)) (z := (⟨"com/example/tapline/reader/Kernel", "isRequestedBy", "([B)Z"⟩ : MethodName)) hown (mvT hZ (hw _ (List.mem_of_getElem? (i := 4) rfl))) (mvT hZ (hw _ (List.mem_of_getElem? (i := 5) rfl))) (notFace_of_selects (args := #[]) (mvT hZ (hw _ (List.mem_of_getElem? (i := 7) rfl)))) (mvT hZ (hw _ (List.mem_of_getElem? (i := 7) rfl))) (mvT hZ (hw _ (List.mem_of_getElem? (i := 6) rfl))) (by decide) (backOf (W := 0) (rm1n2 l Z a0 hw [] av r k110 (3 : Int32) (nar .byte ((p2).toInt8.toInt32)) (nar .byte ((p3).toInt8.toInt32)) h116 n0 Sz116 F_identifier_av V_r) hZ (hw _ (List.mem_of_getElem? (i := 8) rfl)) (hw _ (List.mem_of_getElem? (i := 1) rfl)) (by decide) (by decide)) q122a q122c (g := (mkF m 146 #[.val (.int p0), .val (.int p1), .val (.int p2), .val (.int p3), .val (.int p4), .val (.int (0 : Int32)), .val (.ref av), .val (.int (2 : Int32)), .val (.ref r), .val (.int (1 : Int32)), .val (.int (p2 &&& (255 : Int32)))] [(.ref r), (.ref av)])) rfl (by rw [hml]; rfl) (Steps.refl _) (argsL := [(.ref r)]) (rest := []) (lenOf pd_0 rfl) rfl (by show 2 * 0 + _ ≤ _; exact Nat.le_of_eq rfl) (hb hby at_146) (fun _ _ => ⟨rfl, e116, (by decide : 1 + 0 ≤ _), (by decide : 2 + 0 ≤ _)⟩)
          dsimp only [Pt.U, Pt.locs, Pt.cells, Pt.slots] at X122 l122 y122 z122 st122 hQ122
          subst l122 y122 z122
          obtain ⟨rfl, Nq122, eq122⟩ := hQ122
          have N122 := Fr.app N116 Nq122
          have e122 : T122.heap = h116 := eq122
          have R123 : ∀ t, Steps p.tables e below (T122.setTop (mkF m 151 #[.val (.int p0), .val (.int p1), .val (.int p2), .val (.int p3), .val (.int p4), .val (.int (0 : Int32)), .val (.ref av), .val (.int (2 : Int32)), .val (.ref r), .val (.int (1 : Int32)), .val (.int (p2 &&& (255 : Int32)))] [(.int (1 : Int32)), (.int (if ((nar .byte ((p2).toInt8.toInt32)) &&& (255 : Int32)) = (3 : Int32) then (1 : Int32) else (0 : Int32)))])) t → Steps p.tables e below (s₁.setTop (entryFrame m #[(.int p0), (.int p1), (.int p2), (.int p3), (.int p4)] maxLocals)) t := by
            intro t k
            refine R121 t ?_
            show Steps p.tables e below (T116.setTop (mkF m 146 #[.val (.int p0), .val (.int p1), .val (.int p2), .val (.int p3), .val (.int p4), .val (.int (0 : Int32)), .val (.ref av), .val (.int (2 : Int32)), .val (.ref r), .val (.int (1 : Int32)), .val (.int (p2 &&& (255 : Int32)))] [(.ref r), (.ref av)])) _
            refine st122.trans ?_
            show Steps p.tables e below (T122.setTop (mkF m 149 #[.val (.int p0), .val (.int p1), .val (.int p2), .val (.int p3), .val (.int p4), .val (.int (0 : Int32)), .val (.ref av), .val (.int (2 : Int32)), .val (.ref r), .val (.int (1 : Int32)), .val (.int (p2 &&& (255 : Int32)))] [(.int (if ((nar .byte ((p2).toInt8.toInt32)) &&& (255 : Int32)) = (3 : Int32) then (1 : Int32) else (0 : Int32)))])) _
            refine XS.iload X122.here hx rfl (hb hby at_149) rfl ?_
            exact k
          rw [own_b0] at R123
          have R124 : ∀ t, Steps p.tables e below (T122.setTop (mkF m 159 #[.val (.int p0), .val (.int p1), .val (.int p2), .val (.int p3), .val (.int p4), .val (.int (0 : Int32)), .val (.ref av), .val (.int (2 : Int32)), .val (.ref r), .val (.int (1 : Int32)), .val (.int (p2 &&& (255 : Int32)))] [(.int (1 : Int32))])) t → Steps p.tables e below (s₁.setTop (entryFrame m #[(.int p0), (.int p1), (.int p2), (.int p3), (.int p4)] maxLocals)) t := by
            intro t k
            refine R123 t ?_
            show Steps p.tables e below (T122.setTop (mkF m 151 #[.val (.int p0), .val (.int p1), .val (.int p2), .val (.int p3), .val (.int p4), .val (.int (0 : Int32)), .val (.ref av), .val (.int (2 : Int32)), .val (.ref r), .val (.int (1 : Int32)), .val (.int (p2 &&& (255 : Int32)))] [(.int (1 : Int32)), (.int (if (p2 &&& (255 : Int32)) = (3 : Int32) then (1 : Int32) else (0 : Int32)))])) _
            refine XS.icmpNo X122.here hx rfl (hb hby at_151) rfl (teq (if_pos hc120)).2 ?_
            show Steps p.tables e below (T122.setTop (mkF m 154 #[.val (.int p0), .val (.int p1), .val (.int p2), .val (.int p3), .val (.int p4), .val (.int (0 : Int32)), .val (.ref av), .val (.int (2 : Int32)), .val (.ref r), .val (.int (1 : Int32)), .val (.int (p2 &&& (255 : Int32)))] [])) _
            refine XS.iconst X122.here hx rfl (hb hby at_154) ?_
            show Steps p.tables e below (T122.setTop (mkF m 155 #[.val (.int p0), .val (.int p1), .val (.int p2), .val (.int p3), .val (.int p4), .val (.int (0 : Int32)), .val (.ref av), .val (.int (2 : Int32)), .val (.ref r), .val (.int (1 : Int32)), .val (.int (p2 &&& (255 : Int32)))] [(.int (1 : Int32))])) _
            refine XS.goto X122.here hx rfl (pc0 := 155) (pc' := 159) rfl (hb hby at_155) (by decide) (by decide) ?_
            exact k
          obtain ⟨fs, hr, hrun, hended, hW, hsame⟩ := X122.leave (v := some (.int (1 : Int32))) (fun h => by rw [Bd.returns] at h; cases h)
          refine ⟨_, _, R124 _ ?_, hrun, hended, _, _, rfl, ?_, ⟨_, rfl⟩, hW, hsame.mono (by decide) (by decide)⟩
          · exact retN X122 hx (t := .boolean) Bd.returns (by simp) (hb hby at_159) hr
          · show Q0 Z p0 p1 p2 p3 p4 ap av h0 n0 _ T122.heap _
            rw [e122]
            exact ⟨rfl, N122⟩
        ·
          skip
          have R125 : ∀ t, Steps p.tables e below (T116.setTop (mkF m 146 #[.val (.int p0), .val (.int p1), .val (.int p2), .val (.int p3), .val (.int p4), .val (.int (0 : Int32)), .val (.ref av), .val (.int (2 : Int32)), .val (.ref r), .val (.int (0 : Int32)), .val (.int (p2 &&& (255 : Int32)))] [(.ref r), (.ref av)])) t → Steps p.tables e below (s₁.setTop (entryFrame m #[(.int p0), (.int p1), (.int p2), (.int p3), (.int p4)] maxLocals)) t := by
            intro t k
            refine R119 t ?_
            show Steps p.tables e below (T116.setTop (mkF m 132 #[.val (.int p0), .val (.int p1), .val (.int p2), .val (.int p3), .val (.int p4), .val (.int (0 : Int32)), .val (.ref av), .val (.int (2 : Int32)), .val (.ref r), .unset, .val (.int (p2 &&& (255 : Int32)))] [(.int (3 : Int32)), (.int (p2 &&& (255 : Int32)))])) _
            refine XS.icmpYes X116.here hx rfl (pc0 := 132) (pc' := 139) rfl (hb hby at_132) rfl (feq hc120).2 (by decide) (by decide) ?_
            show Steps p.tables e below (T116.setTop (mkF m 139 #[.val (.int p0), .val (.int p1), .val (.int p2), .val (.int p3), .val (.int p4), .val (.int (0 : Int32)), .val (.ref av), .val (.int (2 : Int32)), .val (.ref r), .unset, .val (.int (p2 &&& (255 : Int32)))] [])) _
            refine XS.iconst X116.here hx rfl (hb hby at_139) ?_
            show Steps p.tables e below (T116.setTop (mkF m 140 #[.val (.int p0), .val (.int p1), .val (.int p2), .val (.int p3), .val (.int p4), .val (.int (0 : Int32)), .val (.ref av), .val (.int (2 : Int32)), .val (.ref r), .unset, .val (.int (p2 &&& (255 : Int32)))] [(.int (0 : Int32))])) _
            refine XS.istore X116.here hx rfl (hb hby at_140) rfl (l' := #[.val (.int p0), .val (.int p1), .val (.int p2), .val (.int p3), .val (.int p4), .val (.int (0 : Int32)), .val (.ref av), .val (.int (2 : Int32)), .val (.ref r), .val (.int (0 : Int32)), .val (.int (p2 &&& (255 : Int32)))]) rfl ?_
            show Steps p.tables e below (T116.setTop (mkF m 142 #[.val (.int p0), .val (.int p1), .val (.int p2), .val (.int p3), .val (.int p4), .val (.int (0 : Int32)), .val (.ref av), .val (.int (2 : Int32)), .val (.ref r), .val (.int (0 : Int32)), .val (.int (p2 &&& (255 : Int32)))] [])) _
            refine XS.aload X116.here hx rfl (hb hby at_142) rfl rfl ?_
            show Steps p.tables e below (T116.setTop (mkF m 144 #[.val (.int p0), .val (.int p1), .val (.int p2), .val (.int p3), .val (.int p4), .val (.int (0 : Int32)), .val (.ref av), .val (.int (2 : Int32)), .val (.ref r), .val (.int (0 : Int32)), .val (.int (p2 &&& (255 : Int32)))] [(.ref av)])) _
            refine XS.aload X116.here hx rfl (hb hby at_144) rfl rfl ?_
            exact k
          obtain ⟨cq126, kq126, q126a, q126b, q126c⟩ := isOf hZ e116 E_av
          obtain ⟨_, _, ⟨T126, L126, k126, n126⟩, -, X126, ⟨Lc126, hQ126, l126, y126, z126⟩, st126⟩ := X116.virtualBack hx (y := (⟨"com/example/tapline/reader/Kernel", "isRequestedBy", "([B)Z"⟩ : MethodName)) (z := (⟨"com/example/tapline/reader/Kernel", "isRequestedBy", "([B)Z"⟩ : MethodName)) hown (mvT hZ (hw _ (List.mem_of_getElem? (i := 4) rfl))) (mvT hZ (hw _ (List.mem_of_getElem? (i := 5) rfl))) (notFace_of_selects (args := #[]) (mvT hZ (hw _ (List.mem_of_getElem? (i := 7) rfl)))) (mvT hZ (hw _ (List.mem_of_getElem? (i := 7) rfl))) (mvT hZ (hw _ (List.mem_of_getElem? (i := 6) rfl))) (by decide) (backOf (W := 0) (rm1n2 l Z a0 hw [] av r k110 (3 : Int32) (nar .byte ((p2).toInt8.toInt32)) (nar .byte ((p3).toInt8.toInt32)) h116 n0 Sz116 F_identifier_av V_r) hZ (hw _ (List.mem_of_getElem? (i := 8) rfl)) (hw _ (List.mem_of_getElem? (i := 1) rfl)) (by decide) (by decide)) q126a q126c (g := (mkF m 146 #[.val (.int p0), .val (.int p1), .val (.int p2), .val (.int p3), .val (.int p4), .val (.int (0 : Int32)), .val (.ref av), .val (.int (2 : Int32)), .val (.ref r), .val (.int (0 : Int32)), .val (.int (p2 &&& (255 : Int32)))] [(.ref r), (.ref av)])) rfl (by rw [hml]; rfl) (Steps.refl _) (argsL := [(.ref r)]) (rest := []) (lenOf pd_0 rfl) rfl (by show 2 * 0 + _ ≤ _; exact Nat.le_of_eq rfl) (hb hby at_146) (fun _ _ => ⟨rfl, e116, (by decide : 1 + 0 ≤ _), (by decide : 2 + 0 ≤ _)⟩)
          dsimp only [Pt.U, Pt.locs, Pt.cells, Pt.slots] at X126 l126 y126 z126 st126 hQ126
          subst l126 y126 z126
          obtain ⟨rfl, Nq126, eq126⟩ := hQ126
          have N126 := Fr.app N116 Nq126
          have e126 : T126.heap = h116 := eq126
          have R127 : ∀ t, Steps p.tables e below (T126.setTop (mkF m 151 #[.val (.int p0), .val (.int p1), .val (.int p2), .val (.int p3), .val (.int p4), .val (.int (0 : Int32)), .val (.ref av), .val (.int (2 : Int32)), .val (.ref r), .val (.int (0 : Int32)), .val (.int (p2 &&& (255 : Int32)))] [(.int (0 : Int32)), (.int (if ((nar .byte ((p2).toInt8.toInt32)) &&& (255 : Int32)) = (3 : Int32) then (1 : Int32) else (0 : Int32)))])) t → Steps p.tables e below (s₁.setTop (entryFrame m #[(.int p0), (.int p1), (.int p2), (.int p3), (.int p4)] maxLocals)) t := by
            intro t k
            refine R125 t ?_
            show Steps p.tables e below (T116.setTop (mkF m 146 #[.val (.int p0), .val (.int p1), .val (.int p2), .val (.int p3), .val (.int p4), .val (.int (0 : Int32)), .val (.ref av), .val (.int (2 : Int32)), .val (.ref r), .val (.int (0 : Int32)), .val (.int (p2 &&& (255 : Int32)))] [(.ref r), (.ref av)])) _
            refine st126.trans ?_
            show Steps p.tables e below (T126.setTop (mkF m 149 #[.val (.int p0), .val (.int p1), .val (.int p2), .val (.int p3), .val (.int p4), .val (.int (0 : Int32)), .val (.ref av), .val (.int (2 : Int32)), .val (.ref r), .val (.int (0 : Int32)), .val (.int (p2 &&& (255 : Int32)))] [(.int (if ((nar .byte ((p2).toInt8.toInt32)) &&& (255 : Int32)) = (3 : Int32) then (1 : Int32) else (0 : Int32)))])) _
            refine XS.iload X126.here hx rfl (hb hby at_149) rfl ?_
            exact k
          rw [own_b0] at R127
          have R128 : ∀ t, Steps p.tables e below (T126.setTop (mkF m 159 #[.val (.int p0), .val (.int p1), .val (.int p2), .val (.int p3), .val (.int p4), .val (.int (0 : Int32)), .val (.ref av), .val (.int (2 : Int32)), .val (.ref r), .val (.int (0 : Int32)), .val (.int (p2 &&& (255 : Int32)))] [(.int (1 : Int32))])) t → Steps p.tables e below (s₁.setTop (entryFrame m #[(.int p0), (.int p1), (.int p2), (.int p3), (.int p4)] maxLocals)) t := by
            intro t k
            refine R127 t ?_
            show Steps p.tables e below (T126.setTop (mkF m 151 #[.val (.int p0), .val (.int p1), .val (.int p2), .val (.int p3), .val (.int p4), .val (.int (0 : Int32)), .val (.ref av), .val (.int (2 : Int32)), .val (.ref r), .val (.int (0 : Int32)), .val (.int (p2 &&& (255 : Int32)))] [(.int (0 : Int32)), (.int (if (p2 &&& (255 : Int32)) = (3 : Int32) then (1 : Int32) else (0 : Int32)))])) _
            refine XS.icmpNo X126.here hx rfl (hb hby at_151) rfl (teq (if_neg hc120)).2 ?_
            show Steps p.tables e below (T126.setTop (mkF m 154 #[.val (.int p0), .val (.int p1), .val (.int p2), .val (.int p3), .val (.int p4), .val (.int (0 : Int32)), .val (.ref av), .val (.int (2 : Int32)), .val (.ref r), .val (.int (0 : Int32)), .val (.int (p2 &&& (255 : Int32)))] [])) _
            refine XS.iconst X126.here hx rfl (hb hby at_154) ?_
            show Steps p.tables e below (T126.setTop (mkF m 155 #[.val (.int p0), .val (.int p1), .val (.int p2), .val (.int p3), .val (.int p4), .val (.int (0 : Int32)), .val (.ref av), .val (.int (2 : Int32)), .val (.ref r), .val (.int (0 : Int32)), .val (.int (p2 &&& (255 : Int32)))] [(.int (1 : Int32))])) _
            refine XS.goto X126.here hx rfl (pc0 := 155) (pc' := 159) rfl (hb hby at_155) (by decide) (by decide) ?_
            exact k
          obtain ⟨fs, hr, hrun, hended, hW, hsame⟩ := X126.leave (v := some (.int (1 : Int32))) (fun h => by rw [Bd.returns] at h; cases h)
          refine ⟨_, _, R128 _ ?_, hrun, hended, _, _, rfl, ?_, ⟨_, rfl⟩, hW, hsame.mono (by decide) (by decide)⟩
          · exact retN X126 hx (t := .boolean) Bd.returns (by simp) (hb hby at_159) hr
          · show Q0 Z p0 p1 p2 p3 p4 ap av h0 n0 _ T126.heap _
            rw [e126]
            exact ⟨rfl, N126⟩
      ·
        skip
        have R129 : ∀ t, Steps p.tables e below (T116.setTop (mkF m 146 #[.val (.int p0), .val (.int p1), .val (.int p2), .val (.int p3), .val (.int p4), .val (.int (0 : Int32)), .val (.ref av), .val (.int (2 : Int32)), .val (.ref r), .val (.int (0 : Int32)), .val (.int (p2 &&& (255 : Int32)))] [(.ref r), (.ref av)])) t → Steps p.tables e below (s₁.setTop (entryFrame m #[(.int p0), (.int p1), (.int p2), (.int p3), (.int p4)] maxLocals)) t := by
          intro t k
          refine R117 t ?_
          show Steps p.tables e below (T116.setTop (mkF m 99 #[.val (.int p0), .val (.int p1), .val (.int p2), .val (.int p3), .val (.int p4), .val (.int (0 : Int32)), .val (.ref av), .val (.int (2 : Int32)), .val (.ref r), .unset, .val (.int (p2 &&& (255 : Int32)))] [(.int (128 : Int32)), (.int (p2 &&& (255 : Int32)))])) _
          refine XS.icmpNo X116.here hx rfl (hb hby at_99) rfl (flt hc118).1 ?_
          show Steps p.tables e below (T116.setTop (mkF m 102 #[.val (.int p0), .val (.int p1), .val (.int p2), .val (.int p3), .val (.int p4), .val (.int (0 : Int32)), .val (.ref av), .val (.int (2 : Int32)), .val (.ref r), .unset, .val (.int (p2 &&& (255 : Int32)))] [])) _
          refine XS.iconst X116.here hx rfl (hb hby at_102) ?_
          show Steps p.tables e below (T116.setTop (mkF m 103 #[.val (.int p0), .val (.int p1), .val (.int p2), .val (.int p3), .val (.int p4), .val (.int (0 : Int32)), .val (.ref av), .val (.int (2 : Int32)), .val (.ref r), .unset, .val (.int (p2 &&& (255 : Int32)))] [(.int (0 : Int32))])) _
          refine XS.istore X116.here hx rfl (hb hby at_103) rfl (l' := #[.val (.int p0), .val (.int p1), .val (.int p2), .val (.int p3), .val (.int p4), .val (.int (0 : Int32)), .val (.ref av), .val (.int (2 : Int32)), .val (.ref r), .val (.int (0 : Int32)), .val (.int (p2 &&& (255 : Int32)))]) rfl ?_
          show Steps p.tables e below (T116.setTop (mkF m 105 #[.val (.int p0), .val (.int p1), .val (.int p2), .val (.int p3), .val (.int p4), .val (.int (0 : Int32)), .val (.ref av), .val (.int (2 : Int32)), .val (.ref r), .val (.int (0 : Int32)), .val (.int (p2 &&& (255 : Int32)))] [])) _
          refine XS.goto X116.here hx rfl (pc0 := 105) (pc' := 142) rfl (hb hby at_105) (by decide) (by decide) ?_
          show Steps p.tables e below (T116.setTop (mkF m 142 #[.val (.int p0), .val (.int p1), .val (.int p2), .val (.int p3), .val (.int p4), .val (.int (0 : Int32)), .val (.ref av), .val (.int (2 : Int32)), .val (.ref r), .val (.int (0 : Int32)), .val (.int (p2 &&& (255 : Int32)))] [])) _
          refine XS.aload X116.here hx rfl (hb hby at_142) rfl rfl ?_
          show Steps p.tables e below (T116.setTop (mkF m 144 #[.val (.int p0), .val (.int p1), .val (.int p2), .val (.int p3), .val (.int p4), .val (.int (0 : Int32)), .val (.ref av), .val (.int (2 : Int32)), .val (.ref r), .val (.int (0 : Int32)), .val (.int (p2 &&& (255 : Int32)))] [(.ref av)])) _
          refine XS.aload X116.here hx rfl (hb hby at_144) rfl rfl ?_
          exact k
        obtain ⟨cq130, kq130, q130a, q130b, q130c⟩ := isOf hZ e116 E_av
        obtain ⟨_, _, ⟨T130, L130, k130, n130⟩, -, X130, ⟨Lc130, hQ130, l130, y130, z130⟩, st130⟩ := X116.virtualBack hx (y := (⟨"com/example/tapline/reader/Kernel", "isRequestedBy", "([B)Z"⟩ : MethodName)) (z := (⟨"com/example/tapline/reader/Kernel", "isRequestedBy", "([B)Z"⟩ : MethodName)) hown (mvT hZ (hw _ (List.mem_of_getElem? (i := 4) rfl))) (mvT hZ (hw _ (List.mem_of_getElem? (i := 5) rfl))) (notFace_of_selects (args := #[]) (mvT hZ (hw _ (List.mem_of_getElem? (i := 7) rfl)))) (mvT hZ (hw _ (List.mem_of_getElem? (i := 7) rfl))) (mvT hZ (hw _ (List.mem_of_getElem? (i := 6) rfl))) (by decide) (backOf (W := 0) (rm1n2 l Z a0 hw [] av r k110 (3 : Int32) (nar .byte ((p2).toInt8.toInt32)) (nar .byte ((p3).toInt8.toInt32)) h116 n0 Sz116 F_identifier_av V_r) hZ (hw _ (List.mem_of_getElem? (i := 8) rfl)) (hw _ (List.mem_of_getElem? (i := 1) rfl)) (by decide) (by decide)) q130a q130c (g := (mkF m 146 #[.val (.int p0), .val (.int p1), .val (.int p2), .val (.int p3), .val (.int p4), .val (.int (0 : Int32)), .val (.ref av), .val (.int (2 : Int32)), .val (.ref r), .val (.int (0 : Int32)), .val (.int (p2 &&& (255 : Int32)))] [(.ref r), (.ref av)])) rfl (by rw [hml]; rfl) (Steps.refl _) (argsL := [(.ref r)]) (rest := []) (lenOf pd_0 rfl) rfl (by show 2 * 0 + _ ≤ _; exact Nat.le_of_eq rfl) (hb hby at_146) (fun _ _ => ⟨rfl, e116, (by decide : 1 + 0 ≤ _), (by decide : 2 + 0 ≤ _)⟩)
        dsimp only [Pt.U, Pt.locs, Pt.cells, Pt.slots] at X130 l130 y130 z130 st130 hQ130
        subst l130 y130 z130
        obtain ⟨rfl, Nq130, eq130⟩ := hQ130
        have N130 := Fr.app N116 Nq130
        have e130 : T130.heap = h116 := eq130
        have R131 : ∀ t, Steps p.tables e below (T130.setTop (mkF m 151 #[.val (.int p0), .val (.int p1), .val (.int p2), .val (.int p3), .val (.int p4), .val (.int (0 : Int32)), .val (.ref av), .val (.int (2 : Int32)), .val (.ref r), .val (.int (0 : Int32)), .val (.int (p2 &&& (255 : Int32)))] [(.int (0 : Int32)), (.int (if ((nar .byte ((p2).toInt8.toInt32)) &&& (255 : Int32)) = (3 : Int32) then (1 : Int32) else (0 : Int32)))])) t → Steps p.tables e below (s₁.setTop (entryFrame m #[(.int p0), (.int p1), (.int p2), (.int p3), (.int p4)] maxLocals)) t := by
          intro t k
          refine R129 t ?_
          show Steps p.tables e below (T116.setTop (mkF m 146 #[.val (.int p0), .val (.int p1), .val (.int p2), .val (.int p3), .val (.int p4), .val (.int (0 : Int32)), .val (.ref av), .val (.int (2 : Int32)), .val (.ref r), .val (.int (0 : Int32)), .val (.int (p2 &&& (255 : Int32)))] [(.ref r), (.ref av)])) _
          refine st130.trans ?_
          show Steps p.tables e below (T130.setTop (mkF m 149 #[.val (.int p0), .val (.int p1), .val (.int p2), .val (.int p3), .val (.int p4), .val (.int (0 : Int32)), .val (.ref av), .val (.int (2 : Int32)), .val (.ref r), .val (.int (0 : Int32)), .val (.int (p2 &&& (255 : Int32)))] [(.int (if ((nar .byte ((p2).toInt8.toInt32)) &&& (255 : Int32)) = (3 : Int32) then (1 : Int32) else (0 : Int32)))])) _
          refine XS.iload X130.here hx rfl (hb hby at_149) rfl ?_
          exact k
        rw [own_b0] at R131
        have R132 : ∀ t, Steps p.tables e below (T130.setTop (mkF m 159 #[.val (.int p0), .val (.int p1), .val (.int p2), .val (.int p3), .val (.int p4), .val (.int (0 : Int32)), .val (.ref av), .val (.int (2 : Int32)), .val (.ref r), .val (.int (0 : Int32)), .val (.int (p2 &&& (255 : Int32)))] [(.int (1 : Int32))])) t → Steps p.tables e below (s₁.setTop (entryFrame m #[(.int p0), (.int p1), (.int p2), (.int p3), (.int p4)] maxLocals)) t := by
          intro t k
          refine R131 t ?_
          show Steps p.tables e below (T130.setTop (mkF m 151 #[.val (.int p0), .val (.int p1), .val (.int p2), .val (.int p3), .val (.int p4), .val (.int (0 : Int32)), .val (.ref av), .val (.int (2 : Int32)), .val (.ref r), .val (.int (0 : Int32)), .val (.int (p2 &&& (255 : Int32)))] [(.int (0 : Int32)), (.int (if (p2 &&& (255 : Int32)) = (3 : Int32) then (1 : Int32) else (0 : Int32)))])) _
          refine XS.icmpNo X130.here hx rfl (hb hby at_151) rfl (teq (if_neg (fun q : (p2 &&& (255 : Int32)) = (3 : Int32) => hc118 (by rw [q]; decide)))).2 ?_
          show Steps p.tables e below (T130.setTop (mkF m 154 #[.val (.int p0), .val (.int p1), .val (.int p2), .val (.int p3), .val (.int p4), .val (.int (0 : Int32)), .val (.ref av), .val (.int (2 : Int32)), .val (.ref r), .val (.int (0 : Int32)), .val (.int (p2 &&& (255 : Int32)))] [])) _
          refine XS.iconst X130.here hx rfl (hb hby at_154) ?_
          show Steps p.tables e below (T130.setTop (mkF m 155 #[.val (.int p0), .val (.int p1), .val (.int p2), .val (.int p3), .val (.int p4), .val (.int (0 : Int32)), .val (.ref av), .val (.int (2 : Int32)), .val (.ref r), .val (.int (0 : Int32)), .val (.int (p2 &&& (255 : Int32)))] [(.int (1 : Int32))])) _
          refine XS.goto X130.here hx rfl (pc0 := 155) (pc' := 159) rfl (hb hby at_155) (by decide) (by decide) ?_
          exact k
        obtain ⟨fs, hr, hrun, hended, hW, hsame⟩ := X130.leave (v := some (.int (1 : Int32))) (fun h => by rw [Bd.returns] at h; cases h)
        refine ⟨_, _, R132 _ ?_, hrun, hended, _, _, rfl, ?_, ⟨_, rfl⟩, hW, hsame.mono (by decide) (by decide)⟩
        · exact retN X130 hx (t := .boolean) Bd.returns (by simp) (hb hby at_159) hr
        · show Q0 Z p0 p1 p2 p3 p4 ap av h0 n0 _ T130.heap _
          rw [e130]
          exact ⟨rfl, N130⟩
    ·
      rw [hv84] at R83
      obtain ⟨T133, h133, k133, X133, e133, E133, A133, st133⟩ := newP X82 hx hZ (hw _ (List.mem_of_getElem? (i := 3) rfl)) e82 (g := (mkF m 36 #[.val (.int p0), .val (.int p1), .val (.int p2), .val (.int p3), .val (.int p4), .val (.int (0 : Int32)), .val (.ref av), .val (.int (3 : Int32)), .unset, .unset, .unset] [(.int (3 : Int32))])) rfl (hb hby at_36) rfl (by decide) (cap := 3) (by decide) (by decide) (by decide) (by decide)
      obtain ⟨r, g133⟩ : ∃ z, z = h0.size := ⟨_, rfl⟩
      rw [← g133] at A133 st133
      have ge_r : n0 ≤ r := by rw [g133]; exact Z0
      have Sz133 := Nat.le_trans Z0 E133.1
      have ne_av_r : av ≠ r := Nat.ne_of_lt (Nat.lt_of_lt_of_le E_av.lt (Nat.le_of_eq g133.symm))
      have E_av := E_av.ext E133
      have F_identifier_av := F_identifier_av.ext E133
      have V_r : Arv Z h133 r k133 .byte (3 : Int32) [(.int (0 : Int32)), (.int (0 : Int32)), (.int (0 : Int32))] (.int (0 : Int32)) := (Arv.new A133 (by decide)).pad (pad_rep [] (.int (0 : Int32)) 3)
      have R134 : ∀ t, Steps p.tables e below (T133.setTop (mkF m 50 #[.val (.int p0), .val (.int p1), .val (.int p2), .val (.int p3), .val (.int p4), .val (.int (0 : Int32)), .val (.ref av), .val (.int (3 : Int32)), .val (.ref r), .unset, .unset] [(.int ((p2).toInt8.toInt32)), (.int (0 : Int32)), (.ref r)])) t → Steps p.tables e below (s₁.setTop (entryFrame m #[(.int p0), (.int p1), (.int p2), (.int p3), (.int p4)] maxLocals)) t := by
        intro t k
        refine R83 t ?_
        show Steps p.tables e below (T82.setTop (mkF m 36 #[.val (.int p0), .val (.int p1), .val (.int p2), .val (.int p3), .val (.int p4), .val (.int (0 : Int32)), .val (.ref av), .val (.int (3 : Int32)), .unset, .unset, .unset] [(.int (3 : Int32))])) _
        refine st133 _ ?_
        show Steps p.tables e below (T133.setTop (mkF m 38 #[.val (.int p0), .val (.int p1), .val (.int p2), .val (.int p3), .val (.int p4), .val (.int (0 : Int32)), .val (.ref av), .val (.int (3 : Int32)), .unset, .unset, .unset] [(.ref r)])) _
        refine XS.astore X133.here hx rfl (hb hby at_38) rfl rfl (l' := #[.val (.int p0), .val (.int p1), .val (.int p2), .val (.int p3), .val (.int p4), .val (.int (0 : Int32)), .val (.ref av), .val (.int (3 : Int32)), .val (.ref r), .unset, .unset]) rfl ?_
        show Steps p.tables e below (T133.setTop (mkF m 40 #[.val (.int p0), .val (.int p1), .val (.int p2), .val (.int p3), .val (.int p4), .val (.int (0 : Int32)), .val (.ref av), .val (.int (3 : Int32)), .val (.ref r), .unset, .unset] [])) _
        refine XS.iload X133.here hx rfl (hb hby at_40) rfl ?_
        show Steps p.tables e below (T133.setTop (mkF m 42 #[.val (.int p0), .val (.int p1), .val (.int p2), .val (.int p3), .val (.int p4), .val (.int (0 : Int32)), .val (.ref av), .val (.int (3 : Int32)), .val (.ref r), .unset, .unset] [(.int (3 : Int32))])) _
        refine XS.ifNo X133.here hx rfl (hb hby at_42) rfl ((if0 _ _).trans (tlt (by decide)).2.2.2) ?_
        show Steps p.tables e below (T133.setTop (mkF m 45 #[.val (.int p0), .val (.int p1), .val (.int p2), .val (.int p3), .val (.int p4), .val (.int (0 : Int32)), .val (.ref av), .val (.int (3 : Int32)), .val (.ref r), .unset, .unset] [])) _
        refine XS.aload X133.here hx rfl (hb hby at_45) rfl rfl ?_
        show Steps p.tables e below (T133.setTop (mkF m 47 #[.val (.int p0), .val (.int p1), .val (.int p2), .val (.int p3), .val (.int p4), .val (.int (0 : Int32)), .val (.ref av), .val (.int (3 : Int32)), .val (.ref r), .unset, .unset] [(.ref r)])) _
        refine XS.iconst X133.here hx rfl (hb hby at_47) ?_
        show Steps p.tables e below (T133.setTop (mkF m 48 #[.val (.int p0), .val (.int p1), .val (.int p2), .val (.int p3), .val (.int p4), .val (.int (0 : Int32)), .val (.ref av), .val (.int (3 : Int32)), .val (.ref r), .unset, .unset] [(.int (0 : Int32)), (.ref r)])) _
        refine XS.iloadN X133.here hx rfl (hb hby at_48) rfl ?_
        show Steps p.tables e below (T133.setTop (mkF m 49 #[.val (.int p0), .val (.int p1), .val (.int p2), .val (.int p3), .val (.int p4), .val (.int (0 : Int32)), .val (.ref av), .val (.int (3 : Int32)), .val (.ref r), .unset, .unset] [(.int p2), (.int (0 : Int32)), (.ref r)])) _
        refine XS.i2b X133.here hx rfl (hb hby at_49) rfl ?_
        exact k
      obtain ⟨cl135, Ar135, Aq135, As135, An135, Ah135, Ag135⟩ := id V_r
      have hin135 : ¬ ((0 : Int32) < 0 ∨ cl135.slots.size ≤ ((0 : Int32)).toNatClampNeg) := inb_of As135 ⟨by decide, by decide⟩
      obtain ⟨T136, h136, X136, e136, W136, st136⟩ := stB X133 hx hZ e133 Ar135 (j := (0 : Int32)) hin135 (g := (mkF m 50 #[.val (.int p0), .val (.int p1), .val (.int p2), .val (.int p3), .val (.int p4), .val (.int (0 : Int32)), .val (.ref av), .val (.int (3 : Int32)), .val (.ref r), .unset, .unset] [(.int ((p2).toInt8.toInt32)), (.int (0 : Int32)), (.ref r)])) rfl rfl (hb hby at_50)
      have N136 := Fr.snoc X136 N0 ge_r
      have Sz136 := Nat.le_trans Sz133 (Keep.of_wr W136).1
      have E_av := E_av.wr W136
      have F_identifier_av := F_identifier_av.other W136 (Or.inl ne_av_r)
      have V_r : Arv Z h136 r k133 .byte (3 : Int32) [(.int (nar .byte ((p2).toInt8.toInt32))), (.int (0 : Int32)), (.int (0 : Int32))] (.int (0 : Int32)) := Arv.set Ar135 Aq135 As135 An135 Ah135 Ag135 (fits_nar_byte _) W136 0 rfl (Nat.le_of_ble_eq_true rfl)
      have R137 : ∀ t, Steps p.tables e below (T136.setTop (mkF m 62 #[.val (.int p0), .val (.int p1), .val (.int p2), .val (.int p3), .val (.int p4), .val (.int (0 : Int32)), .val (.ref av), .val (.int (3 : Int32)), .val (.ref r), .unset, .unset] [(.int ((p3).toInt8.toInt32)), (.int (1 : Int32)), (.ref r)])) t → Steps p.tables e below (s₁.setTop (entryFrame m #[(.int p0), (.int p1), (.int p2), (.int p3), (.int p4)] maxLocals)) t := by
        intro t k
        refine R134 t ?_
        show Steps p.tables e below (T133.setTop (mkF m 50 #[.val (.int p0), .val (.int p1), .val (.int p2), .val (.int p3), .val (.int p4), .val (.int (0 : Int32)), .val (.ref av), .val (.int (3 : Int32)), .val (.ref r), .unset, .unset] [(.int ((p2).toInt8.toInt32)), (.int (0 : Int32)), (.ref r)])) _
        refine st136 _ ?_
        show Steps p.tables e below (T136.setTop (mkF m 51 #[.val (.int p0), .val (.int p1), .val (.int p2), .val (.int p3), .val (.int p4), .val (.int (0 : Int32)), .val (.ref av), .val (.int (3 : Int32)), .val (.ref r), .unset, .unset] [])) _
        refine XS.iload X136.here hx rfl (hb hby at_51) rfl ?_
        show Steps p.tables e below (T136.setTop (mkF m 53 #[.val (.int p0), .val (.int p1), .val (.int p2), .val (.int p3), .val (.int p4), .val (.int (0 : Int32)), .val (.ref av), .val (.int (3 : Int32)), .val (.ref r), .unset, .unset] [(.int (3 : Int32))])) _
        refine XS.iconst X136.here hx rfl (hb hby at_53) ?_
        show Steps p.tables e below (T136.setTop (mkF m 54 #[.val (.int p0), .val (.int p1), .val (.int p2), .val (.int p3), .val (.int p4), .val (.int (0 : Int32)), .val (.ref av), .val (.int (3 : Int32)), .val (.ref r), .unset, .unset] [(.int (1 : Int32)), (.int (3 : Int32))])) _
        refine XS.icmpNo X136.here hx rfl (hb hby at_54) rfl (tlt (by decide)).2.2.2 ?_
        show Steps p.tables e below (T136.setTop (mkF m 57 #[.val (.int p0), .val (.int p1), .val (.int p2), .val (.int p3), .val (.int p4), .val (.int (0 : Int32)), .val (.ref av), .val (.int (3 : Int32)), .val (.ref r), .unset, .unset] [])) _
        refine XS.aload X136.here hx rfl (hb hby at_57) rfl rfl ?_
        show Steps p.tables e below (T136.setTop (mkF m 59 #[.val (.int p0), .val (.int p1), .val (.int p2), .val (.int p3), .val (.int p4), .val (.int (0 : Int32)), .val (.ref av), .val (.int (3 : Int32)), .val (.ref r), .unset, .unset] [(.ref r)])) _
        refine XS.iconst X136.here hx rfl (hb hby at_59) ?_
        show Steps p.tables e below (T136.setTop (mkF m 60 #[.val (.int p0), .val (.int p1), .val (.int p2), .val (.int p3), .val (.int p4), .val (.int (0 : Int32)), .val (.ref av), .val (.int (3 : Int32)), .val (.ref r), .unset, .unset] [(.int (1 : Int32)), (.ref r)])) _
        refine XS.iloadN X136.here hx rfl (hb hby at_60) rfl ?_
        show Steps p.tables e below (T136.setTop (mkF m 61 #[.val (.int p0), .val (.int p1), .val (.int p2), .val (.int p3), .val (.int p4), .val (.int (0 : Int32)), .val (.ref av), .val (.int (3 : Int32)), .val (.ref r), .unset, .unset] [(.int p3), (.int (1 : Int32)), (.ref r)])) _
        refine XS.i2b X136.here hx rfl (hb hby at_61) rfl ?_
        exact k
      obtain ⟨cl138, Ar138, Aq138, As138, An138, Ah138, Ag138⟩ := id V_r
      have hin138 : ¬ ((1 : Int32) < 0 ∨ cl138.slots.size ≤ ((1 : Int32)).toNatClampNeg) := inb_of As138 ⟨by decide, by decide⟩
      obtain ⟨T139, h139, X139, e139, W139, st139⟩ := stB X136 hx hZ e136 Ar138 (j := (1 : Int32)) hin138 (g := (mkF m 62 #[.val (.int p0), .val (.int p1), .val (.int p2), .val (.int p3), .val (.int p4), .val (.int (0 : Int32)), .val (.ref av), .val (.int (3 : Int32)), .val (.ref r), .unset, .unset] [(.int ((p3).toInt8.toInt32)), (.int (1 : Int32)), (.ref r)])) rfl rfl (hb hby at_62)
      have N139 := Fr.snoc X139 N136 ge_r
      have Sz139 := Nat.le_trans Sz136 (Keep.of_wr W139).1
      have E_av := E_av.wr W139
      have F_identifier_av := F_identifier_av.other W139 (Or.inl ne_av_r)
      have V_r : Arv Z h139 r k133 .byte (3 : Int32) [(.int (nar .byte ((p2).toInt8.toInt32))), (.int (nar .byte ((p3).toInt8.toInt32))), (.int (0 : Int32))] (.int (0 : Int32)) := Arv.set Ar138 Aq138 As138 An138 Ah138 Ag138 (fits_nar_byte _) W139 1 rfl (Nat.le_of_ble_eq_true rfl)
      have R140 : ∀ t, Steps p.tables e below (T139.setTop (mkF m 75 #[.val (.int p0), .val (.int p1), .val (.int p2), .val (.int p3), .val (.int p4), .val (.int (0 : Int32)), .val (.ref av), .val (.int (3 : Int32)), .val (.ref r), .unset, .unset] [(.int ((p4).toInt8.toInt32)), (.int (2 : Int32)), (.ref r)])) t → Steps p.tables e below (s₁.setTop (entryFrame m #[(.int p0), (.int p1), (.int p2), (.int p3), (.int p4)] maxLocals)) t := by
        intro t k
        refine R137 t ?_
        show Steps p.tables e below (T136.setTop (mkF m 62 #[.val (.int p0), .val (.int p1), .val (.int p2), .val (.int p3), .val (.int p4), .val (.int (0 : Int32)), .val (.ref av), .val (.int (3 : Int32)), .val (.ref r), .unset, .unset] [(.int ((p3).toInt8.toInt32)), (.int (1 : Int32)), (.ref r)])) _
        refine st139 _ ?_
        show Steps p.tables e below (T139.setTop (mkF m 63 #[.val (.int p0), .val (.int p1), .val (.int p2), .val (.int p3), .val (.int p4), .val (.int (0 : Int32)), .val (.ref av), .val (.int (3 : Int32)), .val (.ref r), .unset, .unset] [])) _
        refine XS.iload X139.here hx rfl (hb hby at_63) rfl ?_
        show Steps p.tables e below (T139.setTop (mkF m 65 #[.val (.int p0), .val (.int p1), .val (.int p2), .val (.int p3), .val (.int p4), .val (.int (0 : Int32)), .val (.ref av), .val (.int (3 : Int32)), .val (.ref r), .unset, .unset] [(.int (3 : Int32))])) _
        refine XS.iconst X139.here hx rfl (hb hby at_65) ?_
        show Steps p.tables e below (T139.setTop (mkF m 66 #[.val (.int p0), .val (.int p1), .val (.int p2), .val (.int p3), .val (.int p4), .val (.int (0 : Int32)), .val (.ref av), .val (.int (3 : Int32)), .val (.ref r), .unset, .unset] [(.int (2 : Int32)), (.int (3 : Int32))])) _
        refine XS.icmpNo X139.here hx rfl (hb hby at_66) rfl (tlt (by decide)).2.2.2 ?_
        show Steps p.tables e below (T139.setTop (mkF m 69 #[.val (.int p0), .val (.int p1), .val (.int p2), .val (.int p3), .val (.int p4), .val (.int (0 : Int32)), .val (.ref av), .val (.int (3 : Int32)), .val (.ref r), .unset, .unset] [])) _
        refine XS.aload X139.here hx rfl (hb hby at_69) rfl rfl ?_
        show Steps p.tables e below (T139.setTop (mkF m 71 #[.val (.int p0), .val (.int p1), .val (.int p2), .val (.int p3), .val (.int p4), .val (.int (0 : Int32)), .val (.ref av), .val (.int (3 : Int32)), .val (.ref r), .unset, .unset] [(.ref r)])) _
        refine XS.iconst X139.here hx rfl (hb hby at_71) ?_
        show Steps p.tables e below (T139.setTop (mkF m 72 #[.val (.int p0), .val (.int p1), .val (.int p2), .val (.int p3), .val (.int p4), .val (.int (0 : Int32)), .val (.ref av), .val (.int (3 : Int32)), .val (.ref r), .unset, .unset] [(.int (2 : Int32)), (.ref r)])) _
        refine XS.iload X139.here hx rfl (hb hby at_72) rfl ?_
        show Steps p.tables e below (T139.setTop (mkF m 74 #[.val (.int p0), .val (.int p1), .val (.int p2), .val (.int p3), .val (.int p4), .val (.int (0 : Int32)), .val (.ref av), .val (.int (3 : Int32)), .val (.ref r), .unset, .unset] [(.int p4), (.int (2 : Int32)), (.ref r)])) _
        refine XS.i2b X139.here hx rfl (hb hby at_74) rfl ?_
        exact k
      obtain ⟨cl141, Ar141, Aq141, As141, An141, Ah141, Ag141⟩ := id V_r
      have hin141 : ¬ ((2 : Int32) < 0 ∨ cl141.slots.size ≤ ((2 : Int32)).toNatClampNeg) := inb_of As141 ⟨by decide, by decide⟩
      obtain ⟨T142, h142, X142, e142, W142, st142⟩ := stB X139 hx hZ e139 Ar141 (j := (2 : Int32)) hin141 (g := (mkF m 75 #[.val (.int p0), .val (.int p1), .val (.int p2), .val (.int p3), .val (.int p4), .val (.int (0 : Int32)), .val (.ref av), .val (.int (3 : Int32)), .val (.ref r), .unset, .unset] [(.int ((p4).toInt8.toInt32)), (.int (2 : Int32)), (.ref r)])) rfl rfl (hb hby at_75)
      have N142 := Fr.snoc X142 N139 ge_r
      have Sz142 := Nat.le_trans Sz139 (Keep.of_wr W142).1
      have E_av := E_av.wr W142
      have F_identifier_av := F_identifier_av.other W142 (Or.inl ne_av_r)
      have V_r : Arv Z h142 r k133 .byte (3 : Int32) [(.int (nar .byte ((p2).toInt8.toInt32))), (.int (nar .byte ((p3).toInt8.toInt32))), (.int (nar .byte ((p4).toInt8.toInt32)))] (.int (0 : Int32)) := Arv.set Ar141 Aq141 As141 An141 Ah141 Ag141 (fits_nar_byte _) W142 2 rfl (Nat.le_of_ble_eq_true rfl)
      have R143 : ∀ t, Steps p.tables e below (T142.setTop (mkF m 99 #[.val (.int p0), .val (.int p1), .val (.int p2), .val (.int p3), .val (.int p4), .val (.int (0 : Int32)), .val (.ref av), .val (.int (3 : Int32)), .val (.ref r), .unset, .val (.int (p2 &&& (255 : Int32)))] [(.int (128 : Int32)), (.int (p2 &&& (255 : Int32)))])) t → Steps p.tables e below (s₁.setTop (entryFrame m #[(.int p0), (.int p1), (.int p2), (.int p3), (.int p4)] maxLocals)) t := by
        intro t k
        refine R140 t ?_
        show Steps p.tables e below (T139.setTop (mkF m 75 #[.val (.int p0), .val (.int p1), .val (.int p2), .val (.int p3), .val (.int p4), .val (.int (0 : Int32)), .val (.ref av), .val (.int (3 : Int32)), .val (.ref r), .unset, .unset] [(.int ((p4).toInt8.toInt32)), (.int (2 : Int32)), (.ref r)])) _
        refine st142 _ ?_
        show Steps p.tables e below (T142.setTop (mkF m 76 #[.val (.int p0), .val (.int p1), .val (.int p2), .val (.int p3), .val (.int p4), .val (.int (0 : Int32)), .val (.ref av), .val (.int (3 : Int32)), .val (.ref r), .unset, .unset] [])) _
        refine XS.iload X142.here hx rfl (hb hby at_76) rfl ?_
        show Steps p.tables e below (T142.setTop (mkF m 78 #[.val (.int p0), .val (.int p1), .val (.int p2), .val (.int p3), .val (.int p4), .val (.int (0 : Int32)), .val (.ref av), .val (.int (3 : Int32)), .val (.ref r), .unset, .unset] [(.int (3 : Int32))])) _
        refine XS.ifYes X142.here hx rfl (pc0 := 78) (pc' := 87) rfl (hb hby at_78) rfl ((if0 _ _).trans (feq (by decide)).2) (by decide) (by decide) ?_
        show Steps p.tables e below (T142.setTop (mkF m 87 #[.val (.int p0), .val (.int p1), .val (.int p2), .val (.int p3), .val (.int p4), .val (.int (0 : Int32)), .val (.ref av), .val (.int (3 : Int32)), .val (.ref r), .unset, .unset] [])) _
        refine XS.iloadN X142.here hx rfl (hb hby at_87) rfl ?_
        show Steps p.tables e below (T142.setTop (mkF m 88 #[.val (.int p0), .val (.int p1), .val (.int p2), .val (.int p3), .val (.int p4), .val (.int (0 : Int32)), .val (.ref av), .val (.int (3 : Int32)), .val (.ref r), .unset, .unset] [(.int p2)])) _
        refine XS.sipush X142.here hx rfl (hb hby at_88) ?_
        show Steps p.tables e below (T142.setTop (mkF m 91 #[.val (.int p0), .val (.int p1), .val (.int p2), .val (.int p3), .val (.int p4), .val (.int (0 : Int32)), .val (.ref av), .val (.int (3 : Int32)), .val (.ref r), .unset, .unset] [(.int (255 : Int32)), (.int p2)])) _
        refine XS.iand X142.here hx rfl (hb hby at_91) rfl ?_
        show Steps p.tables e below (T142.setTop (mkF m 92 #[.val (.int p0), .val (.int p1), .val (.int p2), .val (.int p3), .val (.int p4), .val (.int (0 : Int32)), .val (.ref av), .val (.int (3 : Int32)), .val (.ref r), .unset, .unset] [(.int (p2 &&& (255 : Int32)))])) _
        refine XS.istore X142.here hx rfl (hb hby at_92) rfl (l' := #[.val (.int p0), .val (.int p1), .val (.int p2), .val (.int p3), .val (.int p4), .val (.int (0 : Int32)), .val (.ref av), .val (.int (3 : Int32)), .val (.ref r), .unset, .val (.int (p2 &&& (255 : Int32)))]) rfl ?_
        show Steps p.tables e below (T142.setTop (mkF m 94 #[.val (.int p0), .val (.int p1), .val (.int p2), .val (.int p3), .val (.int p4), .val (.int (0 : Int32)), .val (.ref av), .val (.int (3 : Int32)), .val (.ref r), .unset, .val (.int (p2 &&& (255 : Int32)))] [])) _
        refine XS.iload X142.here hx rfl (hb hby at_94) rfl ?_
        show Steps p.tables e below (T142.setTop (mkF m 96 #[.val (.int p0), .val (.int p1), .val (.int p2), .val (.int p3), .val (.int p4), .val (.int (0 : Int32)), .val (.ref av), .val (.int (3 : Int32)), .val (.ref r), .unset, .val (.int (p2 &&& (255 : Int32)))] [(.int (p2 &&& (255 : Int32)))])) _
        refine XS.sipush X142.here hx rfl (hb hby at_96) ?_
        exact k
      by_cases hc144 : (p2 &&& (255 : Int32)) < (128 : Int32)
      ·
        skip
        have R145 : ∀ t, Steps p.tables e below (T142.setTop (mkF m 132 #[.val (.int p0), .val (.int p1), .val (.int p2), .val (.int p3), .val (.int p4), .val (.int (0 : Int32)), .val (.ref av), .val (.int (3 : Int32)), .val (.ref r), .unset, .val (.int (p2 &&& (255 : Int32)))] [(.int (3 : Int32)), (.int (p2 &&& (255 : Int32)))])) t → Steps p.tables e below (s₁.setTop (entryFrame m #[(.int p0), (.int p1), (.int p2), (.int p3), (.int p4)] maxLocals)) t := by
          intro t k
          refine R143 t ?_
          show Steps p.tables e below (T142.setTop (mkF m 99 #[.val (.int p0), .val (.int p1), .val (.int p2), .val (.int p3), .val (.int p4), .val (.int (0 : Int32)), .val (.ref av), .val (.int (3 : Int32)), .val (.ref r), .unset, .val (.int (p2 &&& (255 : Int32)))] [(.int (128 : Int32)), (.int (p2 &&& (255 : Int32)))])) _
          refine XS.icmpYes X142.here hx rfl (pc0 := 99) (pc' := 108) rfl (hb hby at_99) rfl (tlt hc144).1 (by decide) (by decide) ?_
          show Steps p.tables e below (T142.setTop (mkF m 108 #[.val (.int p0), .val (.int p1), .val (.int p2), .val (.int p3), .val (.int p4), .val (.int (0 : Int32)), .val (.ref av), .val (.int (3 : Int32)), .val (.ref r), .unset, .val (.int (p2 &&& (255 : Int32)))] [])) _
          refine XS.iload X142.here hx rfl (hb hby at_108) rfl ?_
          show Steps p.tables e below (T142.setTop (mkF m 110 #[.val (.int p0), .val (.int p1), .val (.int p2), .val (.int p3), .val (.int p4), .val (.int (0 : Int32)), .val (.ref av), .val (.int (3 : Int32)), .val (.ref r), .unset, .val (.int (p2 &&& (255 : Int32)))] [(.int (0 : Int32))])) _
          refine XS.ifYes X142.here hx rfl (pc0 := 110) (pc' := 129) rfl (hb hby at_110) rfl ((if0 _ _).trans (teq (by decide)).1) (by decide) (by decide) ?_
          show Steps p.tables e below (T142.setTop (mkF m 129 #[.val (.int p0), .val (.int p1), .val (.int p2), .val (.int p3), .val (.int p4), .val (.int (0 : Int32)), .val (.ref av), .val (.int (3 : Int32)), .val (.ref r), .unset, .val (.int (p2 &&& (255 : Int32)))] [])) _
          refine XS.iload X142.here hx rfl (hb hby at_129) rfl ?_
          show Steps p.tables e below (T142.setTop (mkF m 131 #[.val (.int p0), .val (.int p1), .val (.int p2), .val (.int p3), .val (.int p4), .val (.int (0 : Int32)), .val (.ref av), .val (.int (3 : Int32)), .val (.ref r), .unset, .val (.int (p2 &&& (255 : Int32)))] [(.int (p2 &&& (255 : Int32)))])) _
          refine XS.iconst X142.here hx rfl (hb hby at_131) ?_
          exact k
        by_cases hc146 : (p2 &&& (255 : Int32)) = (3 : Int32)
        ·
          skip
          have R147 : ∀ t, Steps p.tables e below (T142.setTop (mkF m 146 #[.val (.int p0), .val (.int p1), .val (.int p2), .val (.int p3), .val (.int p4), .val (.int (0 : Int32)), .val (.ref av), .val (.int (3 : Int32)), .val (.ref r), .val (.int (1 : Int32)), .val (.int (p2 &&& (255 : Int32)))] [(.ref r), (.ref av)])) t → Steps p.tables e below (s₁.setTop (entryFrame m #[(.int p0), (.int p1), (.int p2), (.int p3), (.int p4)] maxLocals)) t := by
            intro t k
            refine R145 t ?_
            show Steps p.tables e below (T142.setTop (mkF m 132 #[.val (.int p0), .val (.int p1), .val (.int p2), .val (.int p3), .val (.int p4), .val (.int (0 : Int32)), .val (.ref av), .val (.int (3 : Int32)), .val (.ref r), .unset, .val (.int (p2 &&& (255 : Int32)))] [(.int (3 : Int32)), (.int (p2 &&& (255 : Int32)))])) _
            refine XS.icmpNo X142.here hx rfl (hb hby at_132) rfl (teq hc146).2 ?_
            show Steps p.tables e below (T142.setTop (mkF m 135 #[.val (.int p0), .val (.int p1), .val (.int p2), .val (.int p3), .val (.int p4), .val (.int (0 : Int32)), .val (.ref av), .val (.int (3 : Int32)), .val (.ref r), .unset, .val (.int (p2 &&& (255 : Int32)))] [])) _
            refine XS.iconst X142.here hx rfl (hb hby at_135) ?_
            show Steps p.tables e below (T142.setTop (mkF m 136 #[.val (.int p0), .val (.int p1), .val (.int p2), .val (.int p3), .val (.int p4), .val (.int (0 : Int32)), .val (.ref av), .val (.int (3 : Int32)), .val (.ref r), .unset, .val (.int (p2 &&& (255 : Int32)))] [(.int (1 : Int32))])) _
            refine XS.goto X142.here hx rfl (pc0 := 136) (pc' := 140) rfl (hb hby at_136) (by decide) (by decide) ?_
            show Steps p.tables e below (T142.setTop (mkF m 140 #[.val (.int p0), .val (.int p1), .val (.int p2), .val (.int p3), .val (.int p4), .val (.int (0 : Int32)), .val (.ref av), .val (.int (3 : Int32)), .val (.ref r), .unset, .val (.int (p2 &&& (255 : Int32)))] [(.int (1 : Int32))])) _
            refine XS.istore X142.here hx rfl (hb hby at_140) rfl (l' := #[.val (.int p0), .val (.int p1), .val (.int p2), .val (.int p3), .val (.int p4), .val (.int (0 : Int32)), .val (.ref av), .val (.int (3 : Int32)), .val (.ref r), .val (.int (1 : Int32)), .val (.int (p2 &&& (255 : Int32)))]) rfl ?_
            show Steps p.tables e below (T142.setTop (mkF m 142 #[.val (.int p0), .val (.int p1), .val (.int p2), .val (.int p3), .val (.int p4), .val (.int (0 : Int32)), .val (.ref av), .val (.int (3 : Int32)), .val (.ref r), .val (.int (1 : Int32)), .val (.int (p2 &&& (255 : Int32)))] [])) _
            refine XS.aload X142.here hx rfl (hb hby at_142) rfl rfl ?_
            show Steps p.tables e below (T142.setTop (mkF m 144 #[.val (.int p0), .val (.int p1), .val (.int p2), .val (.int p3), .val (.int p4), .val (.int (0 : Int32)), .val (.ref av), .val (.int (3 : Int32)), .val (.ref r), .val (.int (1 : Int32)), .val (.int (p2 &&& (255 : Int32)))] [(.ref av)])) _
            refine XS.aload X142.here hx rfl (hb hby at_144) rfl rfl ?_
            exact k
          obtain ⟨cq148, kq148, q148a, q148b, q148c⟩ := isOf hZ e142 E_av
          obtain ⟨_, _, ⟨T148, L148, k148, n148⟩, -, X148, ⟨Lc148, hQ148, l148, y148, z148⟩, st148⟩ := X142.virtualBack hx (y := (⟨"com/example/tapline/reader/Kernel", "isRequestedBy", "([B)Z"⟩ : MethodName)) (z := (⟨"com/example/tapline/reader/Kernel", "isRequestedBy", "([B)Z"⟩ : MethodName)) hown (mvT hZ (hw _ (List.mem_of_getElem? (i := 4) rfl))) (mvT hZ (hw _ (List.mem_of_getElem? (i := 5) rfl))) (notFace_of_selects (args := #[]) (mvT hZ (hw _ (List.mem_of_getElem? (i := 7) rfl)))) (mvT hZ (hw _ (List.mem_of_getElem? (i := 7) rfl))) (mvT hZ (hw _ (List.mem_of_getElem? (i := 6) rfl))) (by decide) (backOf (W := 0) (rm1n3 l Z a0 hw [] av r k133 (3 : Int32) (nar .byte ((p2).toInt8.toInt32)) (nar .byte ((p3).toInt8.toInt32)) (nar .byte ((p4).toInt8.toInt32)) h142 n0 Sz142 F_identifier_av V_r) hZ (hw _ (List.mem_of_getElem? (i := 8) rfl)) (hw _ (List.mem_of_getElem? (i := 1) rfl)) (by decide) (by decide)) q148a q148c (g := (mkF m 146 #[.val (.int p0), .val (.int p1), .val (.int p2), .val (.int p3), .val (.int p4), .val (.int (0 : Int32)), .val (.ref av), .val (.int (3 : Int32)), .val (.ref r), .val (.int (1 : Int32)), .val (.int (p2 &&& (255 : Int32)))] [(.ref r), (.ref av)])) rfl (by rw [hml]; rfl) (Steps.refl _) (argsL := [(.ref r)]) (rest := []) (lenOf pd_0 rfl) rfl (by show 2 * 0 + _ ≤ _; exact Nat.le_of_eq rfl) (hb hby at_146) (fun _ _ => ⟨rfl, e142, (by decide : 1 + 0 ≤ _), (by decide : 3 + 0 ≤ _)⟩)
          dsimp only [Pt.U, Pt.locs, Pt.cells, Pt.slots] at X148 l148 y148 z148 st148 hQ148
          subst l148 y148 z148
          obtain ⟨rfl, Nq148, eq148⟩ := hQ148
          have N148 := Fr.app N142 Nq148
          have e148 : T148.heap = h142 := eq148
          have R149 : ∀ t, Steps p.tables e below (T148.setTop (mkF m 151 #[.val (.int p0), .val (.int p1), .val (.int p2), .val (.int p3), .val (.int p4), .val (.int (0 : Int32)), .val (.ref av), .val (.int (3 : Int32)), .val (.ref r), .val (.int (1 : Int32)), .val (.int (p2 &&& (255 : Int32)))] [(.int (1 : Int32)), (.int (if ((nar .byte ((p2).toInt8.toInt32)) &&& (255 : Int32)) = (3 : Int32) then (1 : Int32) else (0 : Int32)))])) t → Steps p.tables e below (s₁.setTop (entryFrame m #[(.int p0), (.int p1), (.int p2), (.int p3), (.int p4)] maxLocals)) t := by
            intro t k
            refine R147 t ?_
            show Steps p.tables e below (T142.setTop (mkF m 146 #[.val (.int p0), .val (.int p1), .val (.int p2), .val (.int p3), .val (.int p4), .val (.int (0 : Int32)), .val (.ref av), .val (.int (3 : Int32)), .val (.ref r), .val (.int (1 : Int32)), .val (.int (p2 &&& (255 : Int32)))] [(.ref r), (.ref av)])) _
            refine st148.trans ?_
            show Steps p.tables e below (T148.setTop (mkF m 149 #[.val (.int p0), .val (.int p1), .val (.int p2), .val (.int p3), .val (.int p4), .val (.int (0 : Int32)), .val (.ref av), .val (.int (3 : Int32)), .val (.ref r), .val (.int (1 : Int32)), .val (.int (p2 &&& (255 : Int32)))] [(.int (if ((nar .byte ((p2).toInt8.toInt32)) &&& (255 : Int32)) = (3 : Int32) then (1 : Int32) else (0 : Int32)))])) _
            refine XS.iload X148.here hx rfl (hb hby at_149) rfl ?_
            exact k
          rw [own_b0] at R149
          have R150 : ∀ t, Steps p.tables e below (T148.setTop (mkF m 159 #[.val (.int p0), .val (.int p1), .val (.int p2), .val (.int p3), .val (.int p4), .val (.int (0 : Int32)), .val (.ref av), .val (.int (3 : Int32)), .val (.ref r), .val (.int (1 : Int32)), .val (.int (p2 &&& (255 : Int32)))] [(.int (1 : Int32))])) t → Steps p.tables e below (s₁.setTop (entryFrame m #[(.int p0), (.int p1), (.int p2), (.int p3), (.int p4)] maxLocals)) t := by
            intro t k
            refine R149 t ?_
            show Steps p.tables e below (T148.setTop (mkF m 151 #[.val (.int p0), .val (.int p1), .val (.int p2), .val (.int p3), .val (.int p4), .val (.int (0 : Int32)), .val (.ref av), .val (.int (3 : Int32)), .val (.ref r), .val (.int (1 : Int32)), .val (.int (p2 &&& (255 : Int32)))] [(.int (1 : Int32)), (.int (if (p2 &&& (255 : Int32)) = (3 : Int32) then (1 : Int32) else (0 : Int32)))])) _
            refine XS.icmpNo X148.here hx rfl (hb hby at_151) rfl (teq (if_pos hc146)).2 ?_
            show Steps p.tables e below (T148.setTop (mkF m 154 #[.val (.int p0), .val (.int p1), .val (.int p2), .val (.int p3), .val (.int p4), .val (.int (0 : Int32)), .val (.ref av), .val (.int (3 : Int32)), .val (.ref r), .val (.int (1 : Int32)), .val (.int (p2 &&& (255 : Int32)))] [])) _
            refine XS.iconst X148.here hx rfl (hb hby at_154) ?_
            show Steps p.tables e below (T148.setTop (mkF m 155 #[.val (.int p0), .val (.int p1), .val (.int p2), .val (.int p3), .val (.int p4), .val (.int (0 : Int32)), .val (.ref av), .val (.int (3 : Int32)), .val (.ref r), .val (.int (1 : Int32)), .val (.int (p2 &&& (255 : Int32)))] [(.int (1 : Int32))])) _
            refine XS.goto X148.here hx rfl (pc0 := 155) (pc' := 159) rfl (hb hby at_155) (by decide) (by decide) ?_
            exact k
          obtain ⟨fs, hr, hrun, hended, hW, hsame⟩ := X148.leave (v := some (.int (1 : Int32))) (fun h => by rw [Bd.returns] at h; cases h)
          refine ⟨_, _, R150 _ ?_, hrun, hended, _, _, rfl, ?_, ⟨_, rfl⟩, hW, hsame.mono (by decide) (by decide)⟩
          · exact retN X148 hx (t := .boolean) Bd.returns (by simp) (hb hby at_159) hr
          · show Q0 Z p0 p1 p2 p3 p4 ap av h0 n0 _ T148.heap _
            rw [e148]
            exact ⟨rfl, N148⟩
        ·
          skip
          have R151 : ∀ t, Steps p.tables e below (T142.setTop (mkF m 146 #[.val (.int p0), .val (.int p1), .val (.int p2), .val (.int p3), .val (.int p4), .val (.int (0 : Int32)), .val (.ref av), .val (.int (3 : Int32)), .val (.ref r), .val (.int (0 : Int32)), .val (.int (p2 &&& (255 : Int32)))] [(.ref r), (.ref av)])) t → Steps p.tables e below (s₁.setTop (entryFrame m #[(.int p0), (.int p1), (.int p2), (.int p3), (.int p4)] maxLocals)) t := by
            intro t k
            refine R145 t ?_
            show Steps p.tables e below (T142.setTop (mkF m 132 #[.val (.int p0), .val (.int p1), .val (.int p2), .val (.int p3), .val (.int p4), .val (.int (0 : Int32)), .val (.ref av), .val (.int (3 : Int32)), .val (.ref r), .unset, .val (.int (p2 &&& (255 : Int32)))] [(.int (3 : Int32)), (.int (p2 &&& (255 : Int32)))])) _
            refine XS.icmpYes X142.here hx rfl (pc0 := 132) (pc' := 139) rfl (hb hby at_132) rfl (feq hc146).2 (by decide) (by decide) ?_
            show Steps p.tables e below (T142.setTop (mkF m 139 #[.val (.int p0), .val (.int p1), .val (.int p2), .val (.int p3), .val (.int p4), .val (.int (0 : Int32)), .val (.ref av), .val (.int (3 : Int32)), .val (.ref r), .unset, .val (.int (p2 &&& (255 : Int32)))] [])) _
            refine XS.iconst X142.here hx rfl (hb hby at_139) ?_
            show Steps p.tables e below (T142.setTop (mkF m 140 #[.val (.int p0), .val (.int p1), .val (.int p2), .val (.int p3), .val (.int p4), .val (.int (0 : Int32)), .val (.ref av), .val (.int (3 : Int32)), .val (.ref r), .unset, .val (.int (p2 &&& (255 : Int32)))] [(.int (0 : Int32))])) _
            refine XS.istore X142.here hx rfl (hb hby at_140) rfl (l' := #[.val (.int p0), .val (.int p1), .val (.int p2), .val (.int p3), .val (.int p4), .val (.int (0 : Int32)), .val (.ref av), .val (.int (3 : Int32)), .val (.ref r), .val (.int (0 : Int32)), .val (.int (p2 &&& (255 : Int32)))]) rfl ?_
            show Steps p.tables e below (T142.setTop (mkF m 142 #[.val (.int p0), .val (.int p1), .val (.int p2), .val (.int p3), .val (.int p4), .val (.int (0 : Int32)), .val (.ref av), .val (.int (3 : Int32)), .val (.ref r), .val (.int (0 : Int32)), .val (.int (p2 &&& (255 : Int32)))] [])) _
            refine XS.aload X142.here hx rfl (hb hby at_142) rfl rfl ?_
            show Steps p.tables e below (T142.setTop (mkF m 144 #[.val (.int p0), .val (.int p1), .val (.int p2), .val (.int p3), .val (.int p4), .val (.int (0 : Int32)), .val (.ref av), .val (.int (3 : Int32)), .val (.ref r), .val (.int (0 : Int32)), .val (.int (p2 &&& (255 : Int32)))] [(.ref av)])) _
            refine XS.aload X142.here hx rfl (hb hby at_144) rfl rfl ?_
            exact k
          obtain ⟨cq152, kq152, q152a, q152b, q152c⟩ := isOf hZ e142 E_av
          obtain ⟨_, _, ⟨T152, L152, k152, n152⟩, -, X152, ⟨Lc152, hQ152, l152, y152, z152⟩, st152⟩ := X142.virtualBack hx (y := (⟨"com/example/tapline/reader/Kernel", "isRequestedBy", "([B)Z"⟩ : MethodName)) (z := (⟨"com/example/tapline/reader/Kernel", "isRequestedBy", "([B)Z"⟩ : MethodName)) hown (mvT hZ (hw _ (List.mem_of_getElem? (i := 4) rfl))) (mvT hZ (hw _ (List.mem_of_getElem? (i := 5) rfl))) (notFace_of_selects (args := #[]) (mvT hZ (hw _ (List.mem_of_getElem? (i := 7) rfl)))) (mvT hZ (hw _ (List.mem_of_getElem? (i := 7) rfl))) (mvT hZ (hw _ (List.mem_of_getElem? (i := 6) rfl))) (by decide) (backOf (W := 0) (rm1n3 l Z a0 hw [] av r k133 (3 : Int32) (nar .byte ((p2).toInt8.toInt32)) (nar .byte ((p3).toInt8.toInt32)) (nar .byte ((p4).toInt8.toInt32)) h142 n0 Sz142 F_identifier_av V_r) hZ (hw _ (List.mem_of_getElem? (i := 8) rfl)) (hw _ (List.mem_of_getElem? (i := 1) rfl)) (by decide) (by decide)) q152a q152c (g := (mkF m 146 #[.val (.int p0), .val (.int p1), .val (.int p2), .val (.int p3), .val (.int p4), .val (.int (0 : Int32)), .val (.ref av), .val (.int (3 : Int32)), .val (.ref r), .val (.int (0 : Int32)), .val (.int (p2 &&& (255 : Int32)))] [(.ref r), (.ref av)])) rfl (by rw [hml]; rfl) (Steps.refl _) (argsL := [(.ref r)]) (rest := []) (lenOf pd_0 rfl) rfl (by show 2 * 0 + _ ≤ _; exact Nat.le_of_eq rfl) (hb hby at_146) (fun _ _ => ⟨rfl, e142, (by decide : 1 + 0 ≤ _), (by decide : 3 + 0 ≤ _)⟩)
          dsimp only [Pt.U, Pt.locs, Pt.cells, Pt.slots] at X152 l152 y152 z152 st152 hQ152
          subst l152 y152 z152
          obtain ⟨rfl, Nq152, eq152⟩ := hQ152
          have N152 := Fr.app N142 Nq152
          have e152 : T152.heap = h142 := eq152
          have R153 : ∀ t, Steps p.tables e below (T152.setTop (mkF m 151 #[.val (.int p0), .val (.int p1), .val (.int p2), .val (.int p3), .val (.int p4), .val (.int (0 : Int32)), .val (.ref av), .val (.int (3 : Int32)), .val (.ref r), .val (.int (0 : Int32)), .val (.int (p2 &&& (255 : Int32)))] [(.int (0 : Int32)), (.int (if ((nar .byte ((p2).toInt8.toInt32)) &&& (255 : Int32)) = (3 : Int32) then (1 : Int32) else (0 : Int32)))])) t → Steps p.tables e below (s₁.setTop (entryFrame m #[(.int p0), (.int p1), (.int p2), (.int p3), (.int p4)] maxLocals)) t := by
            intro t k
            refine R151 t ?_
            show Steps p.tables e below (T142.setTop (mkF m 146 #[.val (.int p0), .val (.int p1), .val (.int p2), .val (.int p3), .val (.int p4), .val (.int (0 : Int32)), .val (.ref av), .val (.int (3 : Int32)), .val (.ref r), .val (.int (0 : Int32)), .val (.int (p2 &&& (255 : Int32)))] [(.ref r), (.ref av)])) _
            refine st152.trans ?_
            show Steps p.tables e below (T152.setTop (mkF m 149 #[.val (.int p0), .val (.int p1), .val (.int p2), .val (.int p3), .val (.int p4), .val (.int (0 : Int32)), .val (.ref av), .val (.int (3 : Int32)), .val (.ref r), .val (.int (0 : Int32)), .val (.int (p2 &&& (255 : Int32)))] [(.int (if ((nar .byte ((p2).toInt8.toInt32)) &&& (255 : Int32)) = (3 : Int32) then (1 : Int32) else (0 : Int32)))])) _
            refine XS.iload X152.here hx rfl (hb hby at_149) rfl ?_
            exact k
          rw [own_b0] at R153
          have R154 : ∀ t, Steps p.tables e below (T152.setTop (mkF m 159 #[.val (.int p0), .val (.int p1), .val (.int p2), .val (.int p3), .val (.int p4), .val (.int (0 : Int32)), .val (.ref av), .val (.int (3 : Int32)), .val (.ref r), .val (.int (0 : Int32)), .val (.int (p2 &&& (255 : Int32)))] [(.int (1 : Int32))])) t → Steps p.tables e below (s₁.setTop (entryFrame m #[(.int p0), (.int p1), (.int p2), (.int p3), (.int p4)] maxLocals)) t := by
            intro t k
            refine R153 t ?_
            show Steps p.tables e below (T152.setTop (mkF m 151 #[.val (.int p0), .val (.int p1), .val (.int p2), .val (.int p3), .val (.int p4), .val (.int (0 : Int32)), .val (.ref av), .val (.int (3 : Int32)), .val (.ref r), .val (.int (0 : Int32)), .val (.int (p2 &&& (255 : Int32)))] [(.int (0 : Int32)), (.int (if (p2 &&& (255 : Int32)) = (3 : Int32) then (1 : Int32) else (0 : Int32)))])) _
            refine XS.icmpNo X152.here hx rfl (hb hby at_151) rfl (teq (if_neg hc146)).2 ?_
            show Steps p.tables e below (T152.setTop (mkF m 154 #[.val (.int p0), .val (.int p1), .val (.int p2), .val (.int p3), .val (.int p4), .val (.int (0 : Int32)), .val (.ref av), .val (.int (3 : Int32)), .val (.ref r), .val (.int (0 : Int32)), .val (.int (p2 &&& (255 : Int32)))] [])) _
            refine XS.iconst X152.here hx rfl (hb hby at_154) ?_
            show Steps p.tables e below (T152.setTop (mkF m 155 #[.val (.int p0), .val (.int p1), .val (.int p2), .val (.int p3), .val (.int p4), .val (.int (0 : Int32)), .val (.ref av), .val (.int (3 : Int32)), .val (.ref r), .val (.int (0 : Int32)), .val (.int (p2 &&& (255 : Int32)))] [(.int (1 : Int32))])) _
            refine XS.goto X152.here hx rfl (pc0 := 155) (pc' := 159) rfl (hb hby at_155) (by decide) (by decide) ?_
            exact k
          obtain ⟨fs, hr, hrun, hended, hW, hsame⟩ := X152.leave (v := some (.int (1 : Int32))) (fun h => by rw [Bd.returns] at h; cases h)
          refine ⟨_, _, R154 _ ?_, hrun, hended, _, _, rfl, ?_, ⟨_, rfl⟩, hW, hsame.mono (by decide) (by decide)⟩
          · exact retN X152 hx (t := .boolean) Bd.returns (by simp) (hb hby at_159) hr
          · show Q0 Z p0 p1 p2 p3 p4 ap av h0 n0 _ T152.heap _
            rw [e152]
            exact ⟨rfl, N152⟩
      ·
        skip
        have R155 : ∀ t, Steps p.tables e below (T142.setTop (mkF m 146 #[.val (.int p0), .val (.int p1), .val (.int p2), .val (.int p3), .val (.int p4), .val (.int (0 : Int32)), .val (.ref av), .val (.int (3 : Int32)), .val (.ref r), .val (.int (0 : Int32)), .val (.int (p2 &&& (255 : Int32)))] [(.ref r), (.ref av)])) t → Steps p.tables e below (s₁.setTop (entryFrame m #[(.int p0), (.int p1), (.int p2), (.int p3), (.int p4)] maxLocals)) t := by
          intro t k
          refine R143 t ?_
          show Steps p.tables e below (T142.setTop (mkF m 99 #[.val (.int p0), .val (.int p1), .val (.int p2), .val (.int p3), .val (.int p4), .val (.int (0 : Int32)), .val (.ref av), .val (.int (3 : Int32)), .val (.ref r), .unset, .val (.int (p2 &&& (255 : Int32)))] [(.int (128 : Int32)), (.int (p2 &&& (255 : Int32)))])) _
          refine XS.icmpNo X142.here hx rfl (hb hby at_99) rfl (flt hc144).1 ?_
          show Steps p.tables e below (T142.setTop (mkF m 102 #[.val (.int p0), .val (.int p1), .val (.int p2), .val (.int p3), .val (.int p4), .val (.int (0 : Int32)), .val (.ref av), .val (.int (3 : Int32)), .val (.ref r), .unset, .val (.int (p2 &&& (255 : Int32)))] [])) _
          refine XS.iconst X142.here hx rfl (hb hby at_102) ?_
          show Steps p.tables e below (T142.setTop (mkF m 103 #[.val (.int p0), .val (.int p1), .val (.int p2), .val (.int p3), .val (.int p4), .val (.int (0 : Int32)), .val (.ref av), .val (.int (3 : Int32)), .val (.ref r), .unset, .val (.int (p2 &&& (255 : Int32)))] [(.int (0 : Int32))])) _
          refine XS.istore X142.here hx rfl (hb hby at_103) rfl (l' := #[.val (.int p0), .val (.int p1), .val (.int p2), .val (.int p3), .val (.int p4), .val (.int (0 : Int32)), .val (.ref av), .val (.int (3 : Int32)), .val (.ref r), .val (.int (0 : Int32)), .val (.int (p2 &&& (255 : Int32)))]) rfl ?_
          show Steps p.tables e below (T142.setTop (mkF m 105 #[.val (.int p0), .val (.int p1), .val (.int p2), .val (.int p3), .val (.int p4), .val (.int (0 : Int32)), .val (.ref av), .val (.int (3 : Int32)), .val (.ref r), .val (.int (0 : Int32)), .val (.int (p2 &&& (255 : Int32)))] [])) _
          refine XS.goto X142.here hx rfl (pc0 := 105) (pc' := 142) rfl (hb hby at_105) (by decide) (by decide) ?_
          show Steps p.tables e below (T142.setTop (mkF m 142 #[.val (.int p0), .val (.int p1), .val (.int p2), .val (.int p3), .val (.int p4), .val (.int (0 : Int32)), .val (.ref av), .val (.int (3 : Int32)), .val (.ref r), .val (.int (0 : Int32)), .val (.int (p2 &&& (255 : Int32)))] [])) _
          refine XS.aload X142.here hx rfl (hb hby at_142) rfl rfl ?_
          show Steps p.tables e below (T142.setTop (mkF m 144 #[.val (.int p0), .val (.int p1), .val (.int p2), .val (.int p3), .val (.int p4), .val (.int (0 : Int32)), .val (.ref av), .val (.int (3 : Int32)), .val (.ref r), .val (.int (0 : Int32)), .val (.int (p2 &&& (255 : Int32)))] [(.ref av)])) _
          refine XS.aload X142.here hx rfl (hb hby at_144) rfl rfl ?_
          exact k
        obtain ⟨cq156, kq156, q156a, q156b, q156c⟩ := isOf hZ e142 E_av
        obtain ⟨_, _, ⟨T156, L156, k156, n156⟩, -, X156, ⟨Lc156, hQ156, l156, y156, z156⟩, st156⟩ := X142.virtualBack hx (y := (⟨"com/example/tapline/reader/Kernel", "isRequestedBy", "([B)Z"⟩ : MethodName)) (z := (⟨"com/example/tapline/reader/Kernel", "isRequestedBy", "([B)Z"⟩ : MethodName)) hown (mvT hZ (hw _ (List.mem_of_getElem? (i := 4) rfl))) (mvT hZ (hw _ (List.mem_of_getElem? (i := 5) rfl))) (notFace_of_selects (args := #[]) (mvT hZ (hw _ (List.mem_of_getElem? (i := 7) rfl)))) (mvT hZ (hw _ (List.mem_of_getElem? (i := 7) rfl))) (mvT hZ (hw _ (List.mem_of_getElem? (i := 6) rfl))) (by decide) (backOf (W := 0) (rm1n3 l Z a0 hw [] av r k133 (3 : Int32) (nar .byte ((p2).toInt8.toInt32)) (nar .byte ((p3).toInt8.toInt32)) (nar .byte ((p4).toInt8.toInt32)) h142 n0 Sz142 F_identifier_av V_r) hZ (hw _ (List.mem_of_getElem? (i := 8) rfl)) (hw _ (List.mem_of_getElem? (i := 1) rfl)) (by decide) (by decide)) q156a q156c (g := (mkF m 146 #[.val (.int p0), .val (.int p1), .val (.int p2), .val (.int p3), .val (.int p4), .val (.int (0 : Int32)), .val (.ref av), .val (.int (3 : Int32)), .val (.ref r), .val (.int (0 : Int32)), .val (.int (p2 &&& (255 : Int32)))] [(.ref r), (.ref av)])) rfl (by rw [hml]; rfl) (Steps.refl _) (argsL := [(.ref r)]) (rest := []) (lenOf pd_0 rfl) rfl (by show 2 * 0 + _ ≤ _; exact Nat.le_of_eq rfl) (hb hby at_146) (fun _ _ => ⟨rfl, e142, (by decide : 1 + 0 ≤ _), (by decide : 3 + 0 ≤ _)⟩)
        dsimp only [Pt.U, Pt.locs, Pt.cells, Pt.slots] at X156 l156 y156 z156 st156 hQ156
        subst l156 y156 z156
        obtain ⟨rfl, Nq156, eq156⟩ := hQ156
        have N156 := Fr.app N142 Nq156
        have e156 : T156.heap = h142 := eq156
        have R157 : ∀ t, Steps p.tables e below (T156.setTop (mkF m 151 #[.val (.int p0), .val (.int p1), .val (.int p2), .val (.int p3), .val (.int p4), .val (.int (0 : Int32)), .val (.ref av), .val (.int (3 : Int32)), .val (.ref r), .val (.int (0 : Int32)), .val (.int (p2 &&& (255 : Int32)))] [(.int (0 : Int32)), (.int (if ((nar .byte ((p2).toInt8.toInt32)) &&& (255 : Int32)) = (3 : Int32) then (1 : Int32) else (0 : Int32)))])) t → Steps p.tables e below (s₁.setTop (entryFrame m #[(.int p0), (.int p1), (.int p2), (.int p3), (.int p4)] maxLocals)) t := by
          intro t k
          refine R155 t ?_
          show Steps p.tables e below (T142.setTop (mkF m 146 #[.val (.int p0), .val (.int p1), .val (.int p2), .val (.int p3), .val (.int p4), .val (.int (0 : Int32)), .val (.ref av), .val (.int (3 : Int32)), .val (.ref r), .val (.int (0 : Int32)), .val (.int (p2 &&& (255 : Int32)))] [(.ref r), (.ref av)])) _
          refine st156.trans ?_
          show Steps p.tables e below (T156.setTop (mkF m 149 #[.val (.int p0), .val (.int p1), .val (.int p2), .val (.int p3), .val (.int p4), .val (.int (0 : Int32)), .val (.ref av), .val (.int (3 : Int32)), .val (.ref r), .val (.int (0 : Int32)), .val (.int (p2 &&& (255 : Int32)))] [(.int (if ((nar .byte ((p2).toInt8.toInt32)) &&& (255 : Int32)) = (3 : Int32) then (1 : Int32) else (0 : Int32)))])) _
          refine XS.iload X156.here hx rfl (hb hby at_149) rfl ?_
          exact k
        rw [own_b0] at R157
        have R158 : ∀ t, Steps p.tables e below (T156.setTop (mkF m 159 #[.val (.int p0), .val (.int p1), .val (.int p2), .val (.int p3), .val (.int p4), .val (.int (0 : Int32)), .val (.ref av), .val (.int (3 : Int32)), .val (.ref r), .val (.int (0 : Int32)), .val (.int (p2 &&& (255 : Int32)))] [(.int (1 : Int32))])) t → Steps p.tables e below (s₁.setTop (entryFrame m #[(.int p0), (.int p1), (.int p2), (.int p3), (.int p4)] maxLocals)) t := by
          intro t k
          refine R157 t ?_
          show Steps p.tables e below (T156.setTop (mkF m 151 #[.val (.int p0), .val (.int p1), .val (.int p2), .val (.int p3), .val (.int p4), .val (.int (0 : Int32)), .val (.ref av), .val (.int (3 : Int32)), .val (.ref r), .val (.int (0 : Int32)), .val (.int (p2 &&& (255 : Int32)))] [(.int (0 : Int32)), (.int (if (p2 &&& (255 : Int32)) = (3 : Int32) then (1 : Int32) else (0 : Int32)))])) _
          refine XS.icmpNo X156.here hx rfl (hb hby at_151) rfl (teq (if_neg (fun q : (p2 &&& (255 : Int32)) = (3 : Int32) => hc144 (by rw [q]; decide)))).2 ?_
          show Steps p.tables e below (T156.setTop (mkF m 154 #[.val (.int p0), .val (.int p1), .val (.int p2), .val (.int p3), .val (.int p4), .val (.int (0 : Int32)), .val (.ref av), .val (.int (3 : Int32)), .val (.ref r), .val (.int (0 : Int32)), .val (.int (p2 &&& (255 : Int32)))] [])) _
          refine XS.iconst X156.here hx rfl (hb hby at_154) ?_
          show Steps p.tables e below (T156.setTop (mkF m 155 #[.val (.int p0), .val (.int p1), .val (.int p2), .val (.int p3), .val (.int p4), .val (.int (0 : Int32)), .val (.ref av), .val (.int (3 : Int32)), .val (.ref r), .val (.int (0 : Int32)), .val (.int (p2 &&& (255 : Int32)))] [(.int (1 : Int32))])) _
          refine XS.goto X156.here hx rfl (pc0 := 155) (pc' := 159) rfl (hb hby at_155) (by decide) (by decide) ?_
          exact k
        obtain ⟨fs, hr, hrun, hended, hW, hsame⟩ := X156.leave (v := some (.int (1 : Int32))) (fun h => by rw [Bd.returns] at h; cases h)
        refine ⟨_, _, R158 _ ?_, hrun, hended, _, _, rfl, ?_, ⟨_, rfl⟩, hW, hsame.mono (by decide) (by decide)⟩
        · exact retN X156 hx (t := .boolean) Bd.returns (by simp) (hb hby at_159) hr
        · show Q0 Z p0 p1 p2 p3 p4 ap av h0 n0 _ T156.heap _
          rw [e156]
          exact ⟨rfl, N156⟩
set_option maxRecDepth 65536 in
set_option maxHeartbeats 40000000 in
theorem comes_1 {Post : Tables → Env → Array Value → State → Outcome → State → Prop} (hpost : ∀ tb e args s v u, (limb_1_1.after args s (.returned v) u = true ∧ limb_1_2.after args s (.returned v) u = true ∧ True) → FrameEnd s (.returned v) u (Jvm.fieldLocs frame_1_writes args s ++ Jvm.arrayLocs frame_1_arrays args s ++ Jvm.staticLocs frame_1_statics s) 16 128 → Post tb e args s (.returned v) u) :
    ArmFor flags0 classFile x code maxLocals ret World_1 tables_1 room_1 Calls_1 rest_1 Pre_1 Post := by
  intro l hfl _ _ p e ha hc hk s m args below hf hA hF happ hP
  obtain ⟨hcalls, hrest, hpre⟩ := hP
  obtain ⟨-, -, -, hnamed, -, -, -, hat⟩ := (Spec.applies_iff hf).mp happ
  obtain ⟨hg, hn⟩ := and_e (Cond.before_iff.mp (show (Jvm.Cond.and given_1 narrow_1).before args s = true from hpre))
  obtain ⟨hcount, hg0⟩ := and_e hg
  obtain ⟨hi0, hg1⟩ := and_e hg0
  obtain ⟨hi1, hg2⟩ := and_e hg1
  obtain ⟨hi2, hg3⟩ := and_e hg2
  obtain ⟨hi3, hg4⟩ := and_e hg3
  have hi4 := hg4
  obtain ⟨w0, w1, w2, w3, w4, rfl⟩ : ∃ w0 w1 w2 w3 w4 : Value, args = #[w0, w1, w2, w3, w4] := by
    have hs : args.size = 5 := by simpa [Cond.value, given_1] using hcount
    obtain ⟨L⟩ := args
    match L, hs with
    | [w0, w1, w2, w3, w4], _ => exact ⟨w0, w1, w2, w3, w4, rfl⟩
  have hw := fun d (hd : d ∈ tables_1) => atoms_spec (ws := Jvm.Cond.code x code maxLocals ret :: tables_1) hat d (List.mem_cons_of_mem _ hd)
  have hfit : Fit s := fun {y c} hc i hi => by
    obtain ⟨ha, rfl⟩ := Array.getElem?_eq_some_iff.mp hc
    have q := List.all_eq_true.mp ((Array.all_eq_true_iff_forall_mem.mp hF) _ (Array.getElem_mem ha)) i (List.mem_range.mpr hi)
    simpa [Array.getElem?_eq_getElem hi] using q
  obtain ⟨i0, ei0⟩ := is_v hi0
  obtain rfl : w0 = (.int i0) := Option.some.inj ei0
  obtain ⟨i1, ei1⟩ := is_v hi1
  obtain rfl : w1 = (.int i1) := Option.some.inj ei1
  obtain ⟨i2, ei2⟩ := is_v hi2
  obtain rfl : w2 = (.int i2) := Option.some.inj ei2
  obtain ⟨i3, ei3⟩ := is_v hi3
  obtain rfl : w3 = (.int i3) := Option.some.inj ei3
  obtain ⟨i4, ei4⟩ := is_v hi4
  obtain rfl : w4 = (.int i4) := Option.some.inj ei4
  obtain ⟨hz0, hy0⟩ := and_e hn
  obtain ⟨hz1, hy1⟩ := and_e hy0
  obtain ⟨hz2, hy2⟩ := and_e hy1
  obtain ⟨a_PAYPASS, ev_PAYPASS⟩ := exa_v hz0
  have S_PAYPASS : Sta s s.heap "com/example/tapline/reader/Kernel" "PAYPASS" "Lcom/example/tapline/reader/Kernel;" (.ref a_PAYPASS) := Sta.start ev_PAYPASS (Or.inr ⟨(hw _ (List.mem_of_getElem? (i := 1) rfl)), (hw _ (List.mem_of_getElem? (i := 2) rfl))⟩)
  have E_PAYPASS : Exa s s.heap a_PAYPASS "com/example/tapline/reader/Kernel" := Exa.start ev_PAYPASS hz0
  have F_PAYPASS_identifier : Fld s s.heap a_PAYPASS "com/example/tapline/reader/Kernel" "identifier" "I" (.int (2 : Int32)) := Fld.start ((fld_at ev_PAYPASS).symm.trans (own_eqI hz1))
  obtain ⟨a_VISA, ev_VISA⟩ := exa_v hz2
  have S_VISA : Sta s s.heap "com/example/tapline/reader/Kernel" "VISA" "Lcom/example/tapline/reader/Kernel;" (.ref a_VISA) := Sta.start ev_VISA (Or.inr ⟨(hw _ (List.mem_of_getElem? (i := 1) rfl)), (hw _ (List.mem_of_getElem? (i := 12) rfl))⟩)
  have E_VISA : Exa s s.heap a_VISA "com/example/tapline/reader/Kernel" := Exa.start ev_VISA hz2
  have F_VISA_identifier : Fld s s.heap a_VISA "com/example/tapline/reader/Kernel" "identifier" "I" (.int (3 : Int32)) := Fld.start ((fld_at ev_VISA).symm.trans (own_eqI hy2))
  obtain ⟨n, o, h1, h2, h3, _, L, rfl, ⟨rfl, N⟩, hq⟩ := rm0 l s _ hw tables_1 i0 i1 i2 i3 i4 a_PAYPASS a_VISA s.heap s.heap.size (Nat.le_refl _) S_PAYPASS S_VISA E_PAYPASS F_PAYPASS_identifier E_VISA F_VISA_identifier p e ha hc hk s m _ below hf ((Spec.applies_iff_loose hf).mp happ).1 ⟨rfl, State.Warmed39.refl s, rfl⟩ trivial
  refine ⟨n, _, h1, h2, h3, hpost _ _ _ _ _ _ ⟨Cond.after_iff.mpr rfl, Cond.after_iff.mpr (eq_i res_at (Term.int_eval (1)) rfl), trivial⟩ ⟨hq.1, hq.2.1, (hq.2.2.sift fun y hy => Or.inr (N y hy)).mono (by decide) (by decide)⟩⟩
theorem main_1_1 : Claimed_1_1 := comes_1 fun _ _ _ _ _ _ h hF => ⟨h.1, hF⟩
theorem main_1_2 : Claimed_1_2 := comes_1 fun _ _ _ _ _ _ h hF => ⟨h.2.1, hF⟩
end Jvm.Pilot.@@N@@
namespace Jvm.Pilot.@@N@@
open Jvm Jvm.ClassFile Sem Op Lib Jvm.Free Jvm.Stand Jvm.Pilot.@@N@@.Jvm.D
/-! MADE BY PROGRAM (witnessworld.py) out of the Statement's table words and the real class files: 12 classes; the members and pool entries that the words name. The judged class is class 1, her method 1. -/
namespace start1
open Jvm.ClassFile
def u (s : String) : CpInfo := .utf8 (stringToUtf16 s)
/-- a pool by its gaps: so many unusable entries, then the entry; so many at the end -/
def gap : Nat → List CpInfo → List CpInfo
  | 0, r => r
  | n + 1, r => .unusable :: gap n r
def poolList (es : List (Nat × CpInfo)) (last : Nat) : List CpInfo := es.foldr (fun e r => gap e.1 (e.2 :: r)) (gap last [])
def pool (es : List (Nat × CpInfo)) (last : Nat) : Array CpInfo := ⟨poolList es last⟩
def fileOf (pool : Array CpInfo) (this : Nat) (attrs : Array Attribute := #[]) (ms : Array MethodInfo := #[]) (fl : Nat := 33) (sup : Nat := 0) (ifs : Array Nat := #[]) (fds : Array FieldInfo := #[]) : ClassFile where
  minorVersion := 0
  majorVersion := 65
  constantPool := pool
  accessFlags := fl
  thisClass := this
  superClass := sup
  interfaces := ifs
  fields := fds
  methods := ms
  attributes := attrs
def plain (name : String) (sup : Option ClassId) : Class where
  name := name
  kind := .ordinary
  loader := none
  accessFlags := 33
  super := sup
  interfaces := #[]
  cf := none
  fields := #[]
  methods := #[]
  instanceTypes := #[]
  staticTypes := #[]
  resolved := #[]
  callSites := []
  init := .initialized
  statics := none
  mirror := none

def pool0 : Array CpInfo := pool [(5, u "<init>"), (0, u "()V"), (1, .class_ 10), (1, u "java/lang/Object")] 113

def k0m0 : Method := { name := "<init>", desc := "()V", sig := { parameters := [], returnType := none }, accessFlags := 1, code := none }
/-- java/lang/Object -/
def k0 : Class := { plain "java/lang/Object" none with
  accessFlags := 33
  interfaces := #[]
  cf := some (fileOf pool0 8 #[] #[{ accessFlags := 1, nameIndex := 5, descriptorIndex := 6, attributes := #[] }] 33 0 #[] #[])
  fields := #[]
  methods := #[k0m0]
  instanceTypes := #[]
  staticTypes := #[]
  resolved := Array.replicate 124 none
  statics := none }

def pool1 : Array CpInfo := pool [(2, .class_ 4), (1, u "java/lang/Object"), (0, u "<init>"), (0, u "()V"), (0, .fieldref 8 9), (0, .class_ 10), (0, .nameAndType 11 12), (0, u "com/example/tapline/reader/Kernel"), (0, u "PAYPASS"), (0, u "Lcom/example/tapline/reader/Kernel;"), (0, .fieldref 8 14), (0, .nameAndType 15 12), (0, u "VISA"), (0, .methodref 8 17), (0, .nameAndType 18 19), (0, u "isRequestedBy"), (0, u "([B)Z"), (0, .class_ 21), (0, u "com/example/tapline/reader/KernelIsRequestedByPinLaw"), (2, u "law"), (0, u "(IIIII)Z")] 5

def k1m0 : Method := { name := "<init>", desc := "()V", sig := { parameters := [], returnType := none }, accessFlags := 1, code := none }
def k1c1 : Code := { maxStack := 3, maxLocals := 11, code := code, exceptionTable := #[], attributes := #[] }
def k1m1 : Method := { name := "law", desc := "(IIIII)Z", sig := { parameters := [.int, .int, .int, .int, .int], returnType := some .boolean }, accessFlags := 9, code := some k1c1 }
/-- com/example/tapline/reader/KernelIsRequestedByPinLaw -/
def k1 : Class := { plain "com/example/tapline/reader/KernelIsRequestedByPinLaw" (some 0) with
  accessFlags := 49
  interfaces := #[]
  cf := some (fileOf pool1 20 #[] #[{ accessFlags := 1, nameIndex := 5, descriptorIndex := 6, attributes := #[] }, { accessFlags := 9, nameIndex := 24, descriptorIndex := 25, attributes := #[] }] 49 2 #[] #[])
  fields := #[]
  methods := #[k1m0, k1m1]
  instanceTypes := #[]
  staticTypes := #[]
  resolved := Array.replicate 31 none
  statics := none }

def pool2 : Array CpInfo := pool [(1, .class_ 2), (0, u "java/lang/constant/Constable"), (0, .class_ 4), (0, u "java/lang/Object")] 6

/-- java/lang/constant/Constable -/
def k2 : Class := { plain "java/lang/constant/Constable" (some 0) with
  accessFlags := 1537
  interfaces := #[]
  cf := some (fileOf pool2 1 #[] #[] 1537 3 #[] #[])
  fields := #[]
  methods := #[]
  instanceTypes := #[]
  staticTypes := #[]
  resolved := Array.replicate 11 none
  statics := none }

def pool3 : Array CpInfo := pool [(1, .class_ 2), (0, u "java/lang/Comparable"), (0, .class_ 4), (0, u "java/lang/Object")] 7

/-- java/lang/Comparable -/
def k3 : Class := { plain "java/lang/Comparable" (some 0) with
  accessFlags := 1537
  interfaces := #[]
  cf := some (fileOf pool3 1 #[] #[] 1537 3 #[] #[])
  fields := #[]
  methods := #[]
  instanceTypes := #[]
  staticTypes := #[]
  resolved := Array.replicate 12 none
  statics := none }

def pool4 : Array CpInfo := pool [(1, .class_ 2), (0, u "java/io/Serializable"), (0, .class_ 4), (0, u "java/lang/Object")] 2

/-- java/io/Serializable -/
def k4 : Class := { plain "java/io/Serializable" (some 0) with
  accessFlags := 1537
  interfaces := #[]
  cf := some (fileOf pool4 1 #[] #[] 1537 3 #[] #[])
  fields := #[]
  methods := #[]
  instanceTypes := #[]
  staticTypes := #[]
  resolved := Array.replicate 7 none
  statics := none }

def pool5 : Array CpInfo := pool [(2, .class_ 4), (1, u "java/lang/Enum"), (0, u "name"), (0, u "Ljava/lang/String;"), (2, u "ordinal"), (0, u "I"), (1, .class_ 14), (1, u "java/lang/Object"), (4, u "hash"), (86, .class_ 108), (1, u "java/lang/Enum$EnumDesc"), (2, .class_ 112), (0, u "java/lang/constant/Constable"), (0, .class_ 114), (0, u "java/lang/Comparable"), (0, .class_ 116), (0, u "java/io/Serializable")] 87

/-- java/lang/Enum -/
def k5 : Class := { plain "java/lang/Enum" (some 0) with
  accessFlags := 1057
  interfaces := #[2, 3, 4]
  cf := some (fileOf pool5 2 #[.nestMembers #[106]] #[] 1057 12 #[111, 113, 115] #[{ accessFlags := 18, nameIndex := 5, descriptorIndex := 6, attributes := #[] }, { accessFlags := 18, nameIndex := 9, descriptorIndex := 10, attributes := #[] }, { accessFlags := 2, nameIndex := 19, descriptorIndex := 10, attributes := #[] }])
  fields := #[{ name := "name", type := (.object "java/lang/String"), accessFlags := 18, slot := 0, constantValue := 0 }, { name := "ordinal", type := .int, accessFlags := 18, slot := 1, constantValue := 0 }, { name := "hash", type := .int, accessFlags := 2, slot := 2, constantValue := 0 }]
  methods := #[]
  instanceTypes := #[(.object "java/lang/String"), .int, .int]
  staticTypes := #[]
  resolved := Array.replicate 204 none
  statics := none }

def pool6 : Array CpInfo := pool [(1, .class_ 2), (0, u "com/example/tapline/reader/Kernel"), (2, u "PAYPASS"), (0, u "Lcom/example/tapline/reader/Kernel;"), (2, u "VISA"), (2, u "$VALUES"), (0, u "[Lcom/example/tapline/reader/Kernel;"), (6, .class_ 22), (1, u "java/lang/Enum"), (8, u "scheme"), (0, u "Lcom/example/tapline/emv/Scheme;"), (0, .fieldref 1 34), (0, .nameAndType 35 36), (0, u "identifier"), (0, u "I"), (2, u "listOfAids"), (0, u "Z"), (2, u "applications"), (0, u "Ljava/util/List;"), (20, .class_ 66), (0, u "com/example/tapline/reader/Kernel$Application"), (14, u "aids"), (163, u "isRequestedBy"), (0, u "([B)Z")] 30

def k6c0 : Code := { maxStack := 2, maxLocals := 2, code := prog_116_method_5_code, exceptionTable := #[], attributes := #[] }
def k6m0 : Method := { name := "isRequestedBy", desc := "([B)Z", sig := { parameters := [(.array .byte)], returnType := some .boolean }, accessFlags := 0, code := some k6c0 }
/-- com/example/tapline/reader/Kernel -/
def k6 : Class := { plain "com/example/tapline/reader/Kernel" (some 5) with
  accessFlags := 16432
  interfaces := #[]
  cf := some (fileOf pool6 1 #[.nestMembers #[65]] #[{ accessFlags := 0, nameIndex := 245, descriptorIndex := 246, attributes := #[] }] 16432 20 #[] #[{ accessFlags := 16409, nameIndex := 5, descriptorIndex := 6, attributes := #[] }, { accessFlags := 16409, nameIndex := 9, descriptorIndex := 6, attributes := #[] }, { accessFlags := 18, nameIndex := 31, descriptorIndex := 32, attributes := #[] }, { accessFlags := 18, nameIndex := 35, descriptorIndex := 36, attributes := #[] }, { accessFlags := 18, nameIndex := 39, descriptorIndex := 40, attributes := #[] }, { accessFlags := 18, nameIndex := 43, descriptorIndex := 44, attributes := #[] }, { accessFlags := 18, nameIndex := 81, descriptorIndex := 44, attributes := #[] }, { accessFlags := 4122, nameIndex := 12, descriptorIndex := 13, attributes := #[] }])
  fields := #[{ name := "PAYPASS", type := (.object "com/example/tapline/reader/Kernel"), accessFlags := 16409, slot := 0, constantValue := 0 }, { name := "VISA", type := (.object "com/example/tapline/reader/Kernel"), accessFlags := 16409, slot := 1, constantValue := 0 }, { name := "scheme", type := (.object "com/example/tapline/emv/Scheme"), accessFlags := 18, slot := 3, constantValue := 0 }, { name := "identifier", type := .int, accessFlags := 18, slot := 4, constantValue := 0 }, { name := "listOfAids", type := .boolean, accessFlags := 18, slot := 5, constantValue := 0 }, { name := "applications", type := (.object "java/util/List"), accessFlags := 18, slot := 6, constantValue := 0 }, { name := "aids", type := (.object "java/util/List"), accessFlags := 18, slot := 7, constantValue := 0 }, { name := "$VALUES", type := (.array (.object "com/example/tapline/reader/Kernel")), accessFlags := 4122, slot := 2, constantValue := 0 }]
  methods := #[k6m0]
  instanceTypes := #[(.object "java/lang/String"), .int, .int, (.object "com/example/tapline/emv/Scheme"), .int, .boolean, (.object "java/util/List"), (.object "java/util/List")]
  staticTypes := #[(.object "com/example/tapline/reader/Kernel"), (.object "com/example/tapline/reader/Kernel"), (.array (.object "com/example/tapline/reader/Kernel"))]
  resolved := Array.replicate 277 none
  statics := some 0 }

def pool7 : Array CpInfo := pool [(1, u "java/lang/Cloneable"), (0, .class_ 1), (0, u "java/lang/Object"), (0, .class_ 3)] 3

/-- java/lang/Cloneable -/
def k7 : Class := { plain "java/lang/Cloneable" (some 0) with
  accessFlags := 1537
  interfaces := #[]
  cf := some (fileOf pool7 2 #[] #[] 1537 4 #[] #[])
  fields := #[]
  methods := #[]
  instanceTypes := #[]
  staticTypes := #[]
  resolved := Array.replicate 8 none
  statics := none }

/-- the primitive byte -/
def k8 : Class := { plain "byte" none with kind := .primitive 'B', accessFlags := 0x411 }
/-- [B -/
def k9 : Class := { plain "[B" (some 0) with kind := .array 8 .byte, interfaces := #[7, 4], accessFlags := 1041 }

/-- the primitive int -/
def k10 : Class := { plain "int" none with kind := .primitive 'I', accessFlags := 0x411 }
/-- [I -/
def k11 : Class := { plain "[I" (some 0) with kind := .array 10 .int, interfaces := #[7, 4], accessFlags := 1041 }

def heap : Heap := #[{ cls := 6, slots := #[.ref 1, .ref 2, .null], vm := .statics 6 },
  { cls := 6, slots := #[.null, .int 0, .int 0, .null, .int 2, .int 0, .null, .null], vm := .none },
  { cls := 6, slots := #[.null, .int 1, .int 0, .null, .int 3, .int 0, .null, .null], vm := .none }]
def classes : Array Class := #[k0, k1, k2, k3, k4, k5, k6, k7, k8, k9, k10, k11]
def interned : List (Array UInt16 × Addr) := []
def slotsUsed : Nat := 19
def theMethod : MethodId := ⟨1, 1⟩
def args0 : Array Value := #[.int 5, .int 2, .int 3, .int 4, .int 1]
def aboutOver (below : List Frame) : State where
  vm := { classes := classes, interned := interned.toArray }
  heap := heap
  slotsUsed := slotsUsed
  threads := #[{ frames := .invoking theMethod args0 :: below }]
def below0 : List Frame := [.native { method := ⟨0, 0⟩, args := #[] }]
def about1 : State := aboutOver below0
def p0 : Program := .bare "" "" ""
def e0 : Env := launch0.env 0 0 0
theorem w_frames : about1.frames = Frame.invoking theMethod args0 :: below0 := rfl
set_option maxRecDepth 65536 in
theorem w_args : argsFit about1.vm theMethod args0 = true := by decide +kernel
set_option maxRecDepth 65536 in
theorem w_heap : heapFits about1 = true := by decide +kernel
set_option maxRecDepth 65536 in
theorem w_runnable : about1.curStatus? = some .runnable := by decide +kernel
set_option maxRecDepth 65536 in
theorem w_alone : about1.alone = true := by decide +kernel
set_option maxRecDepth 65536 in
theorem w_named : about1.methodNamed? x = some theMethod := by decide +kernel
set_option maxRecDepth 65536 in
theorem w_hears : about1.hears theMethod below0 = true := by decide +kernel
set_option maxRecDepth 65536 in
theorem w_ripe : about1.ripe theMethod args0 below0 = true := by decide +kernel
theorem w_running : about1.status = .running := rfl
set_option maxRecDepth 65536 in
theorem w_room : about1.hasRoom e0.platform room_1 = true :=
  launch0.hasRoom_least _ room_1 (by decide +kernel) (by decide +kernel) (by decide +kernel) (by decide +kernel) (by decide +kernel) (by decide +kernel)
theorem allAtoms_all (ts : List Jvm.Cond) (a : Array Jvm.Value) (st : Jvm.State) : (allAtoms ts).before a st = ts.all (fun c => c.before a st) := by
  induction ts with
  | nil => rfl
  | cons c t ih =>
    show (Jvm.Cond.and c (allAtoms t)).before a st = _
    rw [Jvm.Cond.before_and, ih, List.all_cons]
def words1 : List Jvm.Cond := Jvm.Cond.code x code maxLocals ret :: tables_1
/-- a 'code' word, met by the world's own term for the bytes: nothing is compared byte by byte -/
theorem code_word {y : MethodName} {bytes : ByteArray} {mx : Nat} {rt : Option FieldType} {a : Array Value} {s : State} {m : MethodId} {meth : Method} {c : Code} (h1 : s.methodNamed? y = some m) (h2 : s.vm.method? m = some meth) (h3 : meth.code = some c) (h4 : c.code = bytes)
    (h5 : (c.maxLocals == mx && c.exceptionTable.isEmpty && decide (c.maxStack ≤ mostOperands) && decide (meth.sig.returnType = rt) && !meth.locks && decide (parseMethodDescriptor y.desc = some meth.sig)) = true) : (Jvm.Cond.code y bytes mx rt).before a s = true := by
  simp only [Bool.and_eq_true, beq_iff_eq, Bool.not_eq_true', decide_eq_true_eq] at h5
  obtain ⟨⟨⟨⟨⟨g1, g2⟩, g3⟩, g4⟩, g5⟩, g6⟩ := h5
  simp [Cond.before, Cond.holds, Cond.value, h1, h2, h3, h4, g1, g2, g3, g4, g5, g6]
def isCode : Jvm.Cond → Bool
  | .code _ _ _ _ => true
  | _ => false
theorem all_split {L : List Jvm.Cond} {P : Jvm.Cond → Bool} (h1 : L.all (fun c => isCode c || P c) = true) (h2 : ∀ c ∈ L.filter isCode, P c = true) : L.all P = true := by
  refine List.all_eq_true.mpr fun c hc => ?_
  have h := List.all_eq_true.mp h1 c hc
  rcases Bool.eq_false_or_eq_true (isCode c) with hi | hi
  · exact h2 c (List.mem_filter.mpr ⟨hc, hi⟩)
  · simpa [hi] using h
set_option maxRecDepth 65536 in
theorem w_c0 : (Jvm.Cond.code x code maxLocals ret).before args0 about1 = true := code_word (m := ⟨1, 1⟩) (meth := k1m1) (c := k1c1) (by decide +kernel) rfl rfl rfl (by decide +kernel)
set_option maxRecDepth 65536 in
theorem w_c1 : (Jvm.Cond.code ({ cls := "com/example/tapline/reader/Kernel", name := "isRequestedBy", desc := "([B)Z" } : Jvm.MethodName) prog_116_method_5_code (2 : Nat) (Option.some Jvm.ClassFile.FieldType.boolean)).before args0 about1 = true := code_word (m := ⟨6, 0⟩) (meth := k6m0) (c := k6c0) (by decide +kernel) rfl rfl rfl (by decide +kernel)
def codes1 : List Jvm.Cond := [Jvm.Cond.code x code maxLocals ret, Jvm.Cond.code ({ cls := "com/example/tapline/reader/Kernel", name := "isRequestedBy", desc := "([B)Z" } : Jvm.MethodName) prog_116_method_5_code (2 : Nat) (Option.some Jvm.ClassFile.FieldType.boolean)]
set_option maxRecDepth 65536 in
theorem codes_eq : words1.filter isCode = codes1 := rfl
theorem w_codes : ∀ c ∈ words1.filter isCode, c.before args0 about1 = true := by
  rw [codes_eq]
  intro c hc
  simp only [codes1, List.mem_cons, List.not_mem_nil, or_false] at hc
  rcases hc with rfl | rfl
  · exact w_c0
  · exact w_c1
set_option maxRecDepth 65536 in
theorem w_t1 : words1.all (fun c => isCode c || c.before args0 about1) = true := by decide +kernel
theorem w_tables : (allAtoms (Jvm.Cond.code x code maxLocals ret :: tables_1)).before args0 about1 = true := by
  rw [allAtoms_all]
  show words1.all (fun c => c.before args0 about1) = true
  refine all_split ?_ w_codes
  rw [w_t1]
set_option maxRecDepth 65536 in
theorem w_case : (Jvm.Cond.and given_1 narrow_1).before args0 about1 = true := by decide +kernel
theorem w_applies : (headSpec (Jvm.Cond.code x code maxLocals ret :: tables_1) room_1).applies x e0.platform about1 = true :=
  (Spec.applies_iff w_frames).mpr ⟨w_running, w_runnable, w_alone, w_named, w_hears, w_ripe, w_room, w_tables⟩
theorem atStart : AtStart classFile x code maxLocals ret World_1 tables_1 room_1 Calls_1 rest_1 Pre_1 launch0 p0 e0 about1 theMethod args0 below0 :=
  ⟨lists_1, trivial, launch0.admits_env _ _ _, launch0.least_env, fairChoices_fair.cas, fairChoices_fair.clock, w_frames, w_args, w_heap, w_applies, trivial, trivial, w_case⟩
end start1
theorem witness_1 : WitnessClaimed_1 := ⟨start1.p0, start1.e0, start1.about1, start1.theMethod, start1.args0, start1.below0, start1.atStart⟩
end Jvm.Pilot.@@N@@
