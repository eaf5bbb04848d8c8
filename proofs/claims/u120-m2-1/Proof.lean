import JvmDerived
import JvmDerived.Pilot.@@N@@Statement
import JvmDerived.Pilot.@@N@@Code
set_option linter.unusedVariables false
set_option linter.unusedSimpArgs false
namespace Jvm.RoadKit
open Sem ClassFile Op Lib Jvm.Stand Jvm.Free Jvm.LawKit
section New
variable {p : Program} {l : Launch} {e : Env} {R : Room} {s : State} {m : MethodId} {args : Array Value} {below : List Frame} {meth : Method} {c : Code} {T : State} {locs : List Loc} {cells slots : Nat}
theorem retI (X : Stand p l e R s m args below meth c T locs cells slots) (hx : p.tables.exec = Jvm.exec) {pc : Nat} {Ls : Array Slot} {z : Int32} {rest : List Value} (hret : meth.sig.returnType = some .int) (hd : decode c.code pc = .ok (.ireturn, 1)) {fs : List Frame}
    (hl : ∀ (f : JFrame) (acts : List Action), f.method = m → f.locked = none → f.entered = [] → (doReturn e (T.setTop f) acts (some (.int z))).1 = T.setFrames fs) : Steps p.tables e below (T.setTop (mkF m pc Ls (.int z :: rest))) (T.setFrames fs) := by
  have hm' : T.vm.method? m = some meth := X.method'
  have hn : narrow .int (.int z) = .int z := rfl
  show Steps p.tables e below (T.setTop { method := m, pc := pc, locals := Ls, stack := _ :: rest, locked := none }) _
  jvm_step X.here [X.here.top, hx, hd, hm', hret, hn]
  first | (intro acts; rw [hl _ acts rfl rfl rfl]) | rw [hl _ _ rfl rfl rfl]
  exact Steps.refl _
end New
end Jvm.RoadKit
namespace Jvm.Pilot.@@N@@
open Jvm Jvm.ClassFile Sem Op Lib Jvm.Free Jvm.Stand Jvm.LawKit Jvm.RoadKit Bundle Jvm.Pilot.@@N@@.Jvm.D
theorem own_b0 (v : Int32) : (nar .byte (v.toInt8.toInt32)) &&& (255 : Int32) = v &&& (255 : Int32) := by
  show v.toInt8.toInt32.toInt8.toInt32 &&& (255 : Int32) = v &&& (255 : Int32)
  rw [Int8.toInt8_toInt32]
  have e1 := c_mask v.toInt8.toInt32 255 8 (by decide) (by decide)
  have e2 := c_mask v 255 8 (by decide) (by decide)
  have e3 := (c_i2b v).1
  apply Int32.toInt_inj.mp
  rw [e1, e2]; omega
theorem own_256 (v : Int32) : ∃ n : Fin 256, v &&& (255 : Int32) = Int32.ofNat n.val := by
  have e2 := c_mask v 255 8 (by decide) (by decide)
  refine ⟨⟨(v &&& 255).toInt.toNat, by omega⟩, ?_⟩
  apply Int32.toInt_inj.mp
  rw [Int32.toInt_ofNat_small (by show (v &&& 255).toInt.toNat < 2 ^ 31; omega)]
  show _ = (((v &&& 255).toInt.toNat : Nat) : Int)
  omega
theorem own_dom_all : ∀ n : Fin 256, ((Int32.ofNat n.val) &&& (40 : Int32)) = (40 : Int32) ↔ ((((Int32.ofNat n.val) >>> ((5 : Int32) &&& 31)) &&& (1 : Int32)) = (1 : Int32) ∧ (((Int32.ofNat n.val) >>> ((3 : Int32) &&& 31)) &&& (1 : Int32)) = (1 : Int32)) := by decide +kernel
theorem own_dom_iff (v : Int32) : ((v &&& (255 : Int32)) &&& (40 : Int32)) = (40 : Int32) ↔ ((((v &&& (255 : Int32)) >>> ((5 : Int32) &&& 31)) &&& (1 : Int32)) = (1 : Int32) ∧ (((v &&& (255 : Int32)) >>> ((3 : Int32) &&& 31)) &&& (1 : Int32)) = (1 : Int32)) := by
  obtain ⟨n, e⟩ := own_256 v
  rw [e]; exact own_dom_all n
theorem own_dom (v : Int32) (h1 : (((v &&& (255 : Int32)) >>> ((5 : Int32) &&& 31)) &&& (1 : Int32)) = (1 : Int32)) (h2 : (((v &&& (255 : Int32)) >>> ((3 : Int32) &&& 31)) &&& (1 : Int32)) = (1 : Int32)) : ((v &&& (255 : Int32)) &&& (40 : Int32)) = (40 : Int32) := (own_dom_iff v).mpr ⟨h1, h2⟩
theorem own_dom5 (v : Int32) (h : ((v &&& (255 : Int32)) &&& (40 : Int32)) = (40 : Int32)) : (((v &&& (255 : Int32)) >>> ((5 : Int32) &&& 31)) &&& (1 : Int32)) = (1 : Int32) := ((own_dom_iff v).mp h).1
theorem own_dom3 (v : Int32) (h : ((v &&& (255 : Int32)) &&& (40 : Int32)) = (40 : Int32)) : (((v &&& (255 : Int32)) >>> ((3 : Int32) &&& 31)) &&& (1 : Int32)) = (1 : Int32) := ((own_dom_iff v).mp h).2
theorem own_int_all : ∀ n : Fin 256, ((Int32.ofNat n.val) &&& (20 : Int32)) = (20 : Int32) ↔ ((((Int32.ofNat n.val) >>> ((4 : Int32) &&& 31)) &&& (1 : Int32)) = (1 : Int32) ∧ (((Int32.ofNat n.val) >>> ((2 : Int32) &&& 31)) &&& (1 : Int32)) = (1 : Int32)) := by decide +kernel
theorem own_int_iff (v : Int32) : ((v &&& (255 : Int32)) &&& (20 : Int32)) = (20 : Int32) ↔ ((((v &&& (255 : Int32)) >>> ((4 : Int32) &&& 31)) &&& (1 : Int32)) = (1 : Int32) ∧ (((v &&& (255 : Int32)) >>> ((2 : Int32) &&& 31)) &&& (1 : Int32)) = (1 : Int32)) := by
  obtain ⟨n, e⟩ := own_256 v
  rw [e]; exact own_int_all n
theorem own_int (v : Int32) (h1 : (((v &&& (255 : Int32)) >>> ((4 : Int32) &&& 31)) &&& (1 : Int32)) = (1 : Int32)) (h2 : (((v &&& (255 : Int32)) >>> ((2 : Int32) &&& 31)) &&& (1 : Int32)) = (1 : Int32)) : ((v &&& (255 : Int32)) &&& (20 : Int32)) = (20 : Int32) := (own_int_iff v).mpr ⟨h1, h2⟩
theorem own_int4 (v : Int32) (h : ((v &&& (255 : Int32)) &&& (20 : Int32)) = (20 : Int32)) : (((v &&& (255 : Int32)) >>> ((4 : Int32) &&& 31)) &&& (1 : Int32)) = (1 : Int32) := ((own_int_iff v).mp h).1
theorem own_int2 (v : Int32) (h : ((v &&& (255 : Int32)) &&& (20 : Int32)) = (20 : Int32)) : (((v &&& (255 : Int32)) >>> ((2 : Int32) &&& 31)) &&& (1 : Int32)) = (1 : Int32) := ((own_int_iff v).mp h).2
theorem ef4 (m : MethodId) (x0 : Int32) (x1 : Int32) : entryFrame m #[(.int x0), (.int x1)] 2 = mkF m 0 #[.val (.int x0), .val (.int x1)] [] := by first | (simp [entryFrame, mkF, argsToLocals, Value.category]; done) | rfl
theorem pn_0 : plainName "com/example/tapline/reader/ApplicationUsageControlAllowsPurchasePinLaw" = true := by first | (simp [plainName, overriddenIn]; done) | decide +kernel
theorem d4_0 : decode method_2_code 0 = .ok (.iload_n 0, 1) := by decide +kernel
theorem d4_1 : decode method_2_code 1 = .ok (.iload_n 1, 1) := by decide +kernel
theorem d4_2 : decode method_2_code 2 = .ok (.ishr, 1) := by decide +kernel
theorem d4_3 : decode method_2_code 3 = .ok (.iconst 1, 1) := by decide +kernel
theorem d4_4 : decode method_2_code 4 = .ok (.iand, 1) := by decide +kernel
theorem d4_5 : decode method_2_code 5 = .ok (.iconst 1, 1) := by decide +kernel
theorem d4_6 : decode method_2_code 6 = .ok (.if_icmp .ne 7, 3) := by decide +kernel
theorem d4_9 : decode method_2_code 9 = .ok (.iconst 1, 1) := by decide +kernel
theorem d4_10 : decode method_2_code 10 = .ok (.goto 4, 3) := by decide +kernel
theorem d4_14 : decode method_2_code 14 = .ok (.ireturn, 1) := by decide +kernel
theorem d4_13 : decode method_2_code 13 = .ok (.iconst 0, 1) := by decide +kernel
def Q4 (Z : State) (u : Int32) (j : Int32) (h0 : Heap) (n0 : Nat) (v : Option Value) (h : Heap) (L : List Loc) : Prop := v = some (.int (if ((u >>> (j &&& 31)) &&& (1 : Int32)) = (1 : Int32) then (1 : Int32) else (0 : Int32))) ∧ Fr n0 L ∧ h = h0
set_option maxRecDepth 65536 in
set_option maxHeartbeats 40000000 in
theorem rm4 (l : Launch) (Z : State) (a0 : Array Value) (hw : ∀ d ∈ tables_1, d.before a0 Z = true) (ws : List Jvm.Cond) (u : Int32) (j : Int32) (h0 : Heap) (n0 : Nat) (Z0 : n0 ≤ h0.size)  :
    MetFree l (⟨"com/example/tapline/reader/ApplicationUsageControlAllowsPurchasePinLaw", "bit", "(II)Z"⟩ : MethodName) (head1 (Jvm.Cond.code (⟨"com/example/tapline/reader/ApplicationUsageControlAllowsPurchasePinLaw", "bit", "(II)Z"⟩ : MethodName) method_2_code 2 (some .boolean) :: ws) ({ frames := 0, cells := 0, slots := 0, locals := 0 } : Room)) (fun zza zzU => zza = #[(.int u), (.int j)] ∧ Z.Warmed39 zzU.vm ∧ zzU.heap = h0) (fun _ _ _ _ _ => True) (fun _ zzU zzo zzV => ∃ zzv zzL, zzo = .returned zzv ∧ Q4 Z u j h0 n0 zzv zzV.heap zzL ∧ FrameEnd zzU zzo zzV zzL ({ frames := 0, cells := 0, slots := 0, locals := 0 } : Room).cells ({ frames := 0, cells := 0, slots := 0, locals := 0 } : Room).slots) := by
  refine MetFree.of_bodySF (plainFor_of_name pn_0) hisR ?_
  intro p e s m args below meth c s₁ Bd hml0 hP hK
  obtain ⟨rfl, hZ, hh⟩ := hP
  have hx := Bd.exec
  have hby := Bd.bytes
  have hml : c.maxLocals = 2 := hml0
  have hown : s.vm.findClass "com/example/tapline/reader/ApplicationUsageControlAllowsPurchasePinLaw" = some m.cls := findClass_of_methodNamed Bd.named
  have hnm := (name_of_methodNamed Bd.named Bd.method).1
  have X0 : Stand p l e ({ frames := 0, cells := 0, slots := 0, locals := 0 } : Room) s m #[(.int u), (.int j)] below meth c s₁ [] 0 0 := Stand.of_body Bd
  have e0 : s₁.heap = h0 := by rw [← hh, Bd.state]; rfl
  have N0 := Fr.nil n0
  have R0 : ∀ t, Steps p.tables e below (s₁.setTop (mkF m 0 #[.val (.int u), .val (.int j)] [])) t → Steps p.tables e below (s₁.setTop (entryFrame m #[(.int u), (.int j)] 2)) t := fun t k => castTop (ef4 m u j) k
  have R1 : ∀ t, Steps p.tables e below (s₁.setTop (mkF m 6 #[.val (.int u), .val (.int j)] [(.int (1 : Int32)), (.int (((u >>> (j &&& 31))) &&& (1 : Int32)))])) t → Steps p.tables e below (s₁.setTop (entryFrame m #[(.int u), (.int j)] 2)) t := by
    intro t k
    refine R0 t ?_
    show Steps p.tables e below (s₁.setTop (mkF m 0 #[.val (.int u), .val (.int j)] [])) _
    refine XS.iloadN X0.here hx rfl (hb hby d4_0) rfl ?_
    show Steps p.tables e below (s₁.setTop (mkF m 1 #[.val (.int u), .val (.int j)] [(.int u)])) _
    refine XS.iloadN X0.here hx rfl (hb hby d4_1) rfl ?_
    show Steps p.tables e below (s₁.setTop (mkF m 2 #[.val (.int u), .val (.int j)] [(.int j), (.int u)])) _
    refine XS.ishr X0.here hx rfl (hb hby d4_2) rfl ?_
    show Steps p.tables e below (s₁.setTop (mkF m 3 #[.val (.int u), .val (.int j)] [(.int ((u >>> (j &&& 31))))])) _
    refine XS.iconst X0.here hx rfl (hb hby d4_3) ?_
    show Steps p.tables e below (s₁.setTop (mkF m 4 #[.val (.int u), .val (.int j)] [(.int (1 : Int32)), (.int ((u >>> (j &&& 31))))])) _
    refine XS.iand X0.here hx rfl (hb hby d4_4) rfl ?_
    show Steps p.tables e below (s₁.setTop (mkF m 5 #[.val (.int u), .val (.int j)] [(.int (((u >>> (j &&& 31))) &&& (1 : Int32)))])) _
    refine XS.iconst X0.here hx rfl (hb hby d4_5) ?_
    exact k
  by_cases hc2 : (((u >>> (j &&& 31))) &&& (1 : Int32)) = (1 : Int32)
  ·
    skip
    have R3 : ∀ t, Steps p.tables e below (s₁.setTop (mkF m 14 #[.val (.int u), .val (.int j)] [(.int (1 : Int32))])) t → Steps p.tables e below (s₁.setTop (entryFrame m #[(.int u), (.int j)] 2)) t := by
      intro t k
      refine R1 t ?_
      show Steps p.tables e below (s₁.setTop (mkF m 6 #[.val (.int u), .val (.int j)] [(.int (1 : Int32)), (.int (((u >>> (j &&& 31))) &&& (1 : Int32)))])) _
      refine XS.icmpNo X0.here hx rfl (hb hby d4_6) rfl (teq hc2).2 ?_
      show Steps p.tables e below (s₁.setTop (mkF m 9 #[.val (.int u), .val (.int j)] [])) _
      refine XS.iconst X0.here hx rfl (hb hby d4_9) ?_
      show Steps p.tables e below (s₁.setTop (mkF m 10 #[.val (.int u), .val (.int j)] [(.int (1 : Int32))])) _
      refine XS.goto X0.here hx rfl (pc0 := 10) (pc' := 14) rfl (hb hby d4_10) (by decide) (by decide) ?_
      exact k
    obtain ⟨fs, hr, hrun, hended, hW, hsame⟩ := X0.leave (v := some (.int (1 : Int32))) (fun h => by rw [Bd.returns] at h; cases h)
    refine ⟨_, _, R3 _ ?_, hrun, hended, _, _, rfl, ?_, ⟨_, rfl⟩, hW, hsame.mono (by decide) (by decide)⟩
    · exact retN X0 hx (t := .boolean) Bd.returns (by simp) (hb hby d4_14) hr
    · show Q4 Z u j h0 n0 _ s₁.heap _
      rw [e0]
      exact ⟨(by rw [if_pos hc2]), N0, rfl⟩
  ·
    skip
    have R4 : ∀ t, Steps p.tables e below (s₁.setTop (mkF m 14 #[.val (.int u), .val (.int j)] [(.int (0 : Int32))])) t → Steps p.tables e below (s₁.setTop (entryFrame m #[(.int u), (.int j)] 2)) t := by
      intro t k
      refine R1 t ?_
      show Steps p.tables e below (s₁.setTop (mkF m 6 #[.val (.int u), .val (.int j)] [(.int (1 : Int32)), (.int (((u >>> (j &&& 31))) &&& (1 : Int32)))])) _
      refine XS.icmpYes X0.here hx rfl (pc0 := 6) (pc' := 13) rfl (hb hby d4_6) rfl (feq hc2).2 (by decide) (by decide) ?_
      show Steps p.tables e below (s₁.setTop (mkF m 13 #[.val (.int u), .val (.int j)] [])) _
      refine XS.iconst X0.here hx rfl (hb hby d4_13) ?_
      exact k
    obtain ⟨fs, hr, hrun, hended, hW, hsame⟩ := X0.leave (v := some (.int (0 : Int32))) (fun h => by rw [Bd.returns] at h; cases h)
    refine ⟨_, _, R4 _ ?_, hrun, hended, _, _, rfl, ?_, ⟨_, rfl⟩, hW, hsame.mono (by decide) (by decide)⟩
    · exact retN X0 hx (t := .boolean) Bd.returns (by simp) (hb hby d4_14) hr
    · show Q4 Z u j h0 n0 _ s₁.heap _
      rw [e0]
      exact ⟨(by rw [if_neg hc2]), N0, rfl⟩
theorem ef3d (m : MethodId) (x0 : Addr) (x1 : Int32) : entryFrame m #[(.ref x0), (.int x1)] 3 = mkF m 0 #[.val (.ref x0), .val (.int x1), .unset] [] := by first | (simp [entryFrame, mkF, argsToLocals, Value.category]; done) | rfl
theorem pn_1 : plainName "com/example/tapline/reader/ApplicationUsageControl" = true := by first | (simp [plainName, overriddenIn]; done) | decide +kernel
theorem d3_0 : decode prog_99_method_3_code 0 = .ok (.iload_n 1, 1) := by decide +kernel
theorem d3_1 : decode prog_99_method_3_code 1 = .ok (.ifCond .eq 8, 3) := by decide +kernel
theorem d3_4 : decode prog_99_method_3_code 4 = .ok (.bipush 40, 2) := by decide +kernel
theorem d3_6 : decode prog_99_method_3_code 6 = .ok (.goto 5, 3) := by decide +kernel
theorem d3_11 : decode prog_99_method_3_code 11 = .ok (.istore_n 2, 1) := by decide +kernel
theorem d3_12 : decode prog_99_method_3_code 12 = .ok (.aload_n 0, 1) := by decide +kernel
theorem d3_13 : decode prog_99_method_3_code 13 = .ok (.getfield 18, 3) := by decide +kernel
theorem d3_16 : decode prog_99_method_3_code 16 = .ok (.iload_n 2, 1) := by decide +kernel
theorem d3_17 : decode prog_99_method_3_code 17 = .ok (.iand, 1) := by decide +kernel
theorem d3_18 : decode prog_99_method_3_code 18 = .ok (.iload_n 2, 1) := by decide +kernel
theorem d3_19 : decode prog_99_method_3_code 19 = .ok (.if_icmp .ne 7, 3) := by decide +kernel
theorem d3_22 : decode prog_99_method_3_code 22 = .ok (.iconst 1, 1) := by decide +kernel
theorem d3_23 : decode prog_99_method_3_code 23 = .ok (.goto 4, 3) := by decide +kernel
theorem d3_27 : decode prog_99_method_3_code 27 = .ok (.ireturn, 1) := by decide +kernel
theorem d3_26 : decode prog_99_method_3_code 26 = .ok (.iconst 0, 1) := by decide +kernel
def Q3d (Z : State) (a : Addr) (f : Int32) (u : Int32) (h0 : Heap) (n0 : Nat) (v : Option Value) (h : Heap) (L : List Loc) : Prop := v = some (.int (if (u &&& (40 : Int32)) = (40 : Int32) then (1 : Int32) else (0 : Int32))) ∧ Fr n0 L ∧ h = h0
set_option maxRecDepth 65536 in
set_option maxHeartbeats 40000000 in
theorem rm3d (l : Launch) (Z : State) (a0 : Array Value) (hw : ∀ d ∈ tables_1, d.before a0 Z = true) (ws : List Jvm.Cond) (a : Addr) (f : Int32) (u : Int32) (h0 : Heap) (n0 : Nat) (Z0 : n0 ≤ h0.size) (F_byte1_a : Fld Z h0 a "com/example/tapline/reader/ApplicationUsageControl" "byte1" "I" (.int u)) (hf : f = (1 : Int32)) :
    MetFree l (⟨"com/example/tapline/reader/ApplicationUsageControl", "allowsPurchase", "(Z)Z"⟩ : MethodName) (head1 (Jvm.Cond.code (⟨"com/example/tapline/reader/ApplicationUsageControl", "allowsPurchase", "(Z)Z"⟩ : MethodName) prog_99_method_3_code 3 (some .boolean) :: ws) ({ frames := 0, cells := 0, slots := 0, locals := 0 } : Room)) (fun zza zzU => zza = #[(.ref a), (.int f)] ∧ Z.Warmed39 zzU.vm ∧ zzU.heap = h0) (fun _ _ _ _ _ => True) (fun _ zzU zzo zzV => ∃ zzv zzL, zzo = .returned zzv ∧ Q3d Z a f u h0 n0 zzv zzV.heap zzL ∧ FrameEnd zzU zzo zzV zzL ({ frames := 0, cells := 0, slots := 0, locals := 0 } : Room).cells ({ frames := 0, cells := 0, slots := 0, locals := 0 } : Room).slots) := by
  refine MetFree.of_bodySF (plainFor_of_name pn_1) hisR ?_
  intro p e s m args below meth c s₁ Bd hml0 hP hK
  obtain ⟨rfl, hZ, hh⟩ := hP
  have hx := Bd.exec
  have hby := Bd.bytes
  have hml : c.maxLocals = 3 := hml0
  have hown : s.vm.findClass "com/example/tapline/reader/ApplicationUsageControl" = some m.cls := findClass_of_methodNamed Bd.named
  have hnm := (name_of_methodNamed Bd.named Bd.method).1
  have X0 : Stand p l e ({ frames := 0, cells := 0, slots := 0, locals := 0 } : Room) s m #[(.ref a), (.int f)] below meth c s₁ [] 0 0 := Stand.of_body Bd
  have e0 : s₁.heap = h0 := by rw [← hh, Bd.state]; rfl
  have N0 := Fr.nil n0
  have R0 : ∀ t, Steps p.tables e below (s₁.setTop (mkF m 0 #[.val (.ref a), .val (.int f), .unset] [])) t → Steps p.tables e below (s₁.setTop (entryFrame m #[(.ref a), (.int f)] 3)) t := fun t k => castTop (ef3d m a f) k
  have R1 : ∀ t, Steps p.tables e below (s₁.setTop (mkF m 13 #[.val (.ref a), .val (.int f), .val (.int (40 : Int32))] [(.ref a)])) t → Steps p.tables e below (s₁.setTop (entryFrame m #[(.ref a), (.int f)] 3)) t := by
    intro t k
    refine R0 t ?_
    show Steps p.tables e below (s₁.setTop (mkF m 0 #[.val (.ref a), .val (.int f), .unset] [])) _
    refine XS.iloadN X0.here hx rfl (hb hby d3_0) rfl ?_
    show Steps p.tables e below (s₁.setTop (mkF m 1 #[.val (.ref a), .val (.int f), .unset] [(.int f)])) _
    refine XS.ifNo X0.here hx rfl (hb hby d3_1) rfl ((if0 _ _).trans (feq (hf ▸ (by decide : ¬ (1 : Int32) = 0))).1) ?_
    show Steps p.tables e below (s₁.setTop (mkF m 4 #[.val (.ref a), .val (.int f), .unset] [])) _
    refine XS.bipush X0.here hx rfl (hb hby d3_4) ?_
    show Steps p.tables e below (s₁.setTop (mkF m 6 #[.val (.ref a), .val (.int f), .unset] [(.int (40 : Int32))])) _
    refine XS.goto X0.here hx rfl (pc0 := 6) (pc' := 11) rfl (hb hby d3_6) (by decide) (by decide) ?_
    show Steps p.tables e below (s₁.setTop (mkF m 11 #[.val (.ref a), .val (.int f), .unset] [(.int (40 : Int32))])) _
    refine XS.istoreN X0.here hx rfl (hb hby d3_11) rfl (l' := #[.val (.ref a), .val (.int f), .val (.int (40 : Int32))]) rfl ?_
    show Steps p.tables e below (s₁.setTop (mkF m 12 #[.val (.ref a), .val (.int f), .val (.int (40 : Int32))] [])) _
    refine XS.aloadN X0.here hx rfl (hb hby d3_12) rfl rfl ?_
    exact k
  obtain ⟨T2, X2, e2, st2⟩ := getF X0 hx hZ hown (host := "") (Or.inl (hw _ (List.mem_of_getElem? (i := 10) rfl))) Via.refl e0 F_byte1_a (g := (mkF m 13 #[.val (.ref a), .val (.int f), .val (.int (40 : Int32))] [(.ref a)])) rfl rfl (hb hby d3_13)
  have R3 : ∀ t, Steps p.tables e below (T2.setTop (mkF m 19 #[.val (.ref a), .val (.int f), .val (.int (40 : Int32))] [(.int (40 : Int32)), (.int (u &&& (40 : Int32)))])) t → Steps p.tables e below (s₁.setTop (entryFrame m #[(.ref a), (.int f)] 3)) t := by
    intro t k
    refine R1 t ?_
    show Steps p.tables e below (s₁.setTop (mkF m 13 #[.val (.ref a), .val (.int f), .val (.int (40 : Int32))] [(.ref a)])) _
    refine st2 _ ?_
    show Steps p.tables e below (T2.setTop (mkF m 16 #[.val (.ref a), .val (.int f), .val (.int (40 : Int32))] [(.int u)])) _
    refine XS.iloadN X2.here hx rfl (hb hby d3_16) rfl ?_
    show Steps p.tables e below (T2.setTop (mkF m 17 #[.val (.ref a), .val (.int f), .val (.int (40 : Int32))] [(.int (40 : Int32)), (.int u)])) _
    refine XS.iand X2.here hx rfl (hb hby d3_17) rfl ?_
    show Steps p.tables e below (T2.setTop (mkF m 18 #[.val (.ref a), .val (.int f), .val (.int (40 : Int32))] [(.int (u &&& (40 : Int32)))])) _
    refine XS.iloadN X2.here hx rfl (hb hby d3_18) rfl ?_
    exact k
  by_cases hc4 : (u &&& (40 : Int32)) = (40 : Int32)
  ·
    skip
    have R5 : ∀ t, Steps p.tables e below (T2.setTop (mkF m 27 #[.val (.ref a), .val (.int f), .val (.int (40 : Int32))] [(.int (1 : Int32))])) t → Steps p.tables e below (s₁.setTop (entryFrame m #[(.ref a), (.int f)] 3)) t := by
      intro t k
      refine R3 t ?_
      show Steps p.tables e below (T2.setTop (mkF m 19 #[.val (.ref a), .val (.int f), .val (.int (40 : Int32))] [(.int (40 : Int32)), (.int (u &&& (40 : Int32)))])) _
      refine XS.icmpNo X2.here hx rfl (hb hby d3_19) rfl (teq hc4).2 ?_
      show Steps p.tables e below (T2.setTop (mkF m 22 #[.val (.ref a), .val (.int f), .val (.int (40 : Int32))] [])) _
      refine XS.iconst X2.here hx rfl (hb hby d3_22) ?_
      show Steps p.tables e below (T2.setTop (mkF m 23 #[.val (.ref a), .val (.int f), .val (.int (40 : Int32))] [(.int (1 : Int32))])) _
      refine XS.goto X2.here hx rfl (pc0 := 23) (pc' := 27) rfl (hb hby d3_23) (by decide) (by decide) ?_
      exact k
    obtain ⟨fs, hr, hrun, hended, hW, hsame⟩ := X2.leave (v := some (.int (1 : Int32))) (fun h => by rw [Bd.returns] at h; cases h)
    refine ⟨_, _, R5 _ ?_, hrun, hended, _, _, rfl, ?_, ⟨_, rfl⟩, hW, hsame.mono (by decide) (by decide)⟩
    · exact retN X2 hx (t := .boolean) Bd.returns (by simp) (hb hby d3_27) hr
    · show Q3d Z a f u h0 n0 _ T2.heap _
      rw [e2]
      exact ⟨(by rw [if_pos hc4]), N0, rfl⟩
  ·
    skip
    have R6 : ∀ t, Steps p.tables e below (T2.setTop (mkF m 27 #[.val (.ref a), .val (.int f), .val (.int (40 : Int32))] [(.int (0 : Int32))])) t → Steps p.tables e below (s₁.setTop (entryFrame m #[(.ref a), (.int f)] 3)) t := by
      intro t k
      refine R3 t ?_
      show Steps p.tables e below (T2.setTop (mkF m 19 #[.val (.ref a), .val (.int f), .val (.int (40 : Int32))] [(.int (40 : Int32)), (.int (u &&& (40 : Int32)))])) _
      refine XS.icmpYes X2.here hx rfl (pc0 := 19) (pc' := 26) rfl (hb hby d3_19) rfl (feq hc4).2 (by decide) (by decide) ?_
      show Steps p.tables e below (T2.setTop (mkF m 26 #[.val (.ref a), .val (.int f), .val (.int (40 : Int32))] [])) _
      refine XS.iconst X2.here hx rfl (hb hby d3_26) ?_
      exact k
    obtain ⟨fs, hr, hrun, hended, hW, hsame⟩ := X2.leave (v := some (.int (0 : Int32))) (fun h => by rw [Bd.returns] at h; cases h)
    refine ⟨_, _, R6 _ ?_, hrun, hended, _, _, rfl, ?_, ⟨_, rfl⟩, hW, hsame.mono (by decide) (by decide)⟩
    · exact retN X2 hx (t := .boolean) Bd.returns (by simp) (hb hby d3_27) hr
    · show Q3d Z a f u h0 n0 _ T2.heap _
      rw [e2]
      exact ⟨(by rw [if_neg hc4]), N0, rfl⟩
theorem ef3i (m : MethodId) (x0 : Addr) (x1 : Int32) : entryFrame m #[(.ref x0), (.int x1)] 3 = mkF m 0 #[.val (.ref x0), .val (.int x1), .unset] [] := by first | (simp [entryFrame, mkF, argsToLocals, Value.category]; done) | rfl
theorem d3_9 : decode prog_99_method_3_code 9 = .ok (.bipush 20, 2) := by decide +kernel
def Q3i (Z : State) (a : Addr) (f : Int32) (u : Int32) (h0 : Heap) (n0 : Nat) (v : Option Value) (h : Heap) (L : List Loc) : Prop := v = some (.int (if (u &&& (20 : Int32)) = (20 : Int32) then (1 : Int32) else (0 : Int32))) ∧ Fr n0 L ∧ h = h0
set_option maxRecDepth 65536 in
set_option maxHeartbeats 40000000 in
theorem rm3i (l : Launch) (Z : State) (a0 : Array Value) (hw : ∀ d ∈ tables_1, d.before a0 Z = true) (ws : List Jvm.Cond) (a : Addr) (f : Int32) (u : Int32) (h0 : Heap) (n0 : Nat) (Z0 : n0 ≤ h0.size) (F_byte1_a : Fld Z h0 a "com/example/tapline/reader/ApplicationUsageControl" "byte1" "I" (.int u)) (hf : f = (0 : Int32)) :
    MetFree l (⟨"com/example/tapline/reader/ApplicationUsageControl", "allowsPurchase", "(Z)Z"⟩ : MethodName) (head1 (Jvm.Cond.code (⟨"com/example/tapline/reader/ApplicationUsageControl", "allowsPurchase", "(Z)Z"⟩ : MethodName) prog_99_method_3_code 3 (some .boolean) :: ws) ({ frames := 0, cells := 0, slots := 0, locals := 0 } : Room)) (fun zza zzU => zza = #[(.ref a), (.int f)] ∧ Z.Warmed39 zzU.vm ∧ zzU.heap = h0) (fun _ _ _ _ _ => True) (fun _ zzU zzo zzV => ∃ zzv zzL, zzo = .returned zzv ∧ Q3i Z a f u h0 n0 zzv zzV.heap zzL ∧ FrameEnd zzU zzo zzV zzL ({ frames := 0, cells := 0, slots := 0, locals := 0 } : Room).cells ({ frames := 0, cells := 0, slots := 0, locals := 0 } : Room).slots) := by
  refine MetFree.of_bodySF (plainFor_of_name pn_1) hisR ?_
  intro p e s m args below meth c s₁ Bd hml0 hP hK
  obtain ⟨rfl, hZ, hh⟩ := hP
  have hx := Bd.exec
  have hby := Bd.bytes
  have hml : c.maxLocals = 3 := hml0
  have hown : s.vm.findClass "com/example/tapline/reader/ApplicationUsageControl" = some m.cls := findClass_of_methodNamed Bd.named
  have hnm := (name_of_methodNamed Bd.named Bd.method).1
  have X0 : Stand p l e ({ frames := 0, cells := 0, slots := 0, locals := 0 } : Room) s m #[(.ref a), (.int f)] below meth c s₁ [] 0 0 := Stand.of_body Bd
  have e0 : s₁.heap = h0 := by rw [← hh, Bd.state]; rfl
  have N0 := Fr.nil n0
  have R0 : ∀ t, Steps p.tables e below (s₁.setTop (mkF m 0 #[.val (.ref a), .val (.int f), .unset] [])) t → Steps p.tables e below (s₁.setTop (entryFrame m #[(.ref a), (.int f)] 3)) t := fun t k => castTop (ef3i m a f) k
  have R1 : ∀ t, Steps p.tables e below (s₁.setTop (mkF m 13 #[.val (.ref a), .val (.int f), .val (.int (20 : Int32))] [(.ref a)])) t → Steps p.tables e below (s₁.setTop (entryFrame m #[(.ref a), (.int f)] 3)) t := by
    intro t k
    refine R0 t ?_
    show Steps p.tables e below (s₁.setTop (mkF m 0 #[.val (.ref a), .val (.int f), .unset] [])) _
    refine XS.iloadN X0.here hx rfl (hb hby d3_0) rfl ?_
    show Steps p.tables e below (s₁.setTop (mkF m 1 #[.val (.ref a), .val (.int f), .unset] [(.int f)])) _
    refine XS.ifYes X0.here hx rfl (pc0 := 1) (pc' := 9) rfl (hb hby d3_1) rfl ((if0 _ _).trans (teq hf).1) (by decide) (by decide) ?_
    show Steps p.tables e below (s₁.setTop (mkF m 9 #[.val (.ref a), .val (.int f), .unset] [])) _
    refine XS.bipush X0.here hx rfl (hb hby d3_9) ?_
    show Steps p.tables e below (s₁.setTop (mkF m 11 #[.val (.ref a), .val (.int f), .unset] [(.int (20 : Int32))])) _
    refine XS.istoreN X0.here hx rfl (hb hby d3_11) rfl (l' := #[.val (.ref a), .val (.int f), .val (.int (20 : Int32))]) rfl ?_
    show Steps p.tables e below (s₁.setTop (mkF m 12 #[.val (.ref a), .val (.int f), .val (.int (20 : Int32))] [])) _
    refine XS.aloadN X0.here hx rfl (hb hby d3_12) rfl rfl ?_
    exact k
  obtain ⟨T2, X2, e2, st2⟩ := getF X0 hx hZ hown (host := "") (Or.inl (hw _ (List.mem_of_getElem? (i := 10) rfl))) Via.refl e0 F_byte1_a (g := (mkF m 13 #[.val (.ref a), .val (.int f), .val (.int (20 : Int32))] [(.ref a)])) rfl rfl (hb hby d3_13)
  have R3 : ∀ t, Steps p.tables e below (T2.setTop (mkF m 19 #[.val (.ref a), .val (.int f), .val (.int (20 : Int32))] [(.int (20 : Int32)), (.int (u &&& (20 : Int32)))])) t → Steps p.tables e below (s₁.setTop (entryFrame m #[(.ref a), (.int f)] 3)) t := by
    intro t k
    refine R1 t ?_
    show Steps p.tables e below (s₁.setTop (mkF m 13 #[.val (.ref a), .val (.int f), .val (.int (20 : Int32))] [(.ref a)])) _
    refine st2 _ ?_
    show Steps p.tables e below (T2.setTop (mkF m 16 #[.val (.ref a), .val (.int f), .val (.int (20 : Int32))] [(.int u)])) _
    refine XS.iloadN X2.here hx rfl (hb hby d3_16) rfl ?_
    show Steps p.tables e below (T2.setTop (mkF m 17 #[.val (.ref a), .val (.int f), .val (.int (20 : Int32))] [(.int (20 : Int32)), (.int u)])) _
    refine XS.iand X2.here hx rfl (hb hby d3_17) rfl ?_
    show Steps p.tables e below (T2.setTop (mkF m 18 #[.val (.ref a), .val (.int f), .val (.int (20 : Int32))] [(.int (u &&& (20 : Int32)))])) _
    refine XS.iloadN X2.here hx rfl (hb hby d3_18) rfl ?_
    exact k
  by_cases hc4 : (u &&& (20 : Int32)) = (20 : Int32)
  ·
    skip
    have R5 : ∀ t, Steps p.tables e below (T2.setTop (mkF m 27 #[.val (.ref a), .val (.int f), .val (.int (20 : Int32))] [(.int (1 : Int32))])) t → Steps p.tables e below (s₁.setTop (entryFrame m #[(.ref a), (.int f)] 3)) t := by
      intro t k
      refine R3 t ?_
      show Steps p.tables e below (T2.setTop (mkF m 19 #[.val (.ref a), .val (.int f), .val (.int (20 : Int32))] [(.int (20 : Int32)), (.int (u &&& (20 : Int32)))])) _
      refine XS.icmpNo X2.here hx rfl (hb hby d3_19) rfl (teq hc4).2 ?_
      show Steps p.tables e below (T2.setTop (mkF m 22 #[.val (.ref a), .val (.int f), .val (.int (20 : Int32))] [])) _
      refine XS.iconst X2.here hx rfl (hb hby d3_22) ?_
      show Steps p.tables e below (T2.setTop (mkF m 23 #[.val (.ref a), .val (.int f), .val (.int (20 : Int32))] [(.int (1 : Int32))])) _
      refine XS.goto X2.here hx rfl (pc0 := 23) (pc' := 27) rfl (hb hby d3_23) (by decide) (by decide) ?_
      exact k
    obtain ⟨fs, hr, hrun, hended, hW, hsame⟩ := X2.leave (v := some (.int (1 : Int32))) (fun h => by rw [Bd.returns] at h; cases h)
    refine ⟨_, _, R5 _ ?_, hrun, hended, _, _, rfl, ?_, ⟨_, rfl⟩, hW, hsame.mono (by decide) (by decide)⟩
    · exact retN X2 hx (t := .boolean) Bd.returns (by simp) (hb hby d3_27) hr
    · show Q3i Z a f u h0 n0 _ T2.heap _
      rw [e2]
      exact ⟨(by rw [if_pos hc4]), N0, rfl⟩
  ·
    skip
    have R6 : ∀ t, Steps p.tables e below (T2.setTop (mkF m 27 #[.val (.ref a), .val (.int f), .val (.int (20 : Int32))] [(.int (0 : Int32))])) t → Steps p.tables e below (s₁.setTop (entryFrame m #[(.ref a), (.int f)] 3)) t := by
      intro t k
      refine R3 t ?_
      show Steps p.tables e below (T2.setTop (mkF m 19 #[.val (.ref a), .val (.int f), .val (.int (20 : Int32))] [(.int (20 : Int32)), (.int (u &&& (20 : Int32)))])) _
      refine XS.icmpYes X2.here hx rfl (pc0 := 19) (pc' := 26) rfl (hb hby d3_19) rfl (feq hc4).2 (by decide) (by decide) ?_
      show Steps p.tables e below (T2.setTop (mkF m 26 #[.val (.ref a), .val (.int f), .val (.int (20 : Int32))] [])) _
      refine XS.iconst X2.here hx rfl (hb hby d3_26) ?_
      exact k
    obtain ⟨fs, hr, hrun, hended, hW, hsame⟩ := X2.leave (v := some (.int (0 : Int32))) (fun h => by rw [Bd.returns] at h; cases h)
    refine ⟨_, _, R6 _ ?_, hrun, hended, _, _, rfl, ?_, ⟨_, rfl⟩, hW, hsame.mono (by decide) (by decide)⟩
    · exact retN X2 hx (t := .boolean) Bd.returns (by simp) (hb hby d3_27) hr
    · show Q3i Z a f u h0 n0 _ T2.heap _
      rw [e2]
      exact ⟨(by rw [if_neg hc4]), N0, rfl⟩
theorem ef1 (m : MethodId) (x0 : Addr) (x1 : Addr) : entryFrame m #[(.ref x0), (.ref x1)] 2 = mkF m 0 #[.val (.ref x0), .val (.ref x1)] [] := by first | (simp [entryFrame, mkF, argsToLocals, Value.category]; done) | rfl
theorem d1_0 : decode prog_99_method_1_code 0 = .ok (.aload_n 0, 1) := by decide +kernel
theorem d1_1 : decode prog_99_method_1_code 1 = .ok (.invokespecial 1, 3) := by decide +kernel
theorem d1_4 : decode prog_99_method_1_code 4 = .ok (.aload_n 1, 1) := by decide +kernel
theorem d1_5 : decode prog_99_method_1_code 5 = .ok (.arraylength, 1) := by decide +kernel
theorem d1_6 : decode prog_99_method_1_code 6 = .ok (.iconst 2, 1) := by decide +kernel
theorem d1_7 : decode prog_99_method_1_code 7 = .ok (.if_icmp .eq 18, 3) := by decide +kernel
theorem d1_25 : decode prog_99_method_1_code 25 = .ok (.aload_n 0, 1) := by decide +kernel
theorem d1_26 : decode prog_99_method_1_code 26 = .ok (.aload_n 1, 1) := by decide +kernel
theorem d1_27 : decode prog_99_method_1_code 27 = .ok (.iconst 0, 1) := by decide +kernel
theorem d1_28 : decode prog_99_method_1_code 28 = .ok (.baload, 1) := by decide +kernel
theorem d1_29 : decode prog_99_method_1_code 29 = .ok (.sipush 255, 3) := by decide +kernel
theorem d1_32 : decode prog_99_method_1_code 32 = .ok (.iand, 1) := by decide +kernel
theorem d1_33 : decode prog_99_method_1_code 33 = .ok (.putfield 18, 3) := by decide +kernel
theorem d1_36 : decode prog_99_method_1_code 36 = .ok (.return_, 1) := by decide +kernel
def Q1 (Z : State) (a : Addr) (r : Addr) (kc : ClassId) (u : Int32) (u1 : Int32) (h0 : Heap) (n0 : Nat) (v : Option Value) (h : Heap) (L : List Loc) : Prop := v = none ∧ Fr n0 L ∧ Keep h0 h [a] ∧ Fld Z h a "com/example/tapline/reader/ApplicationUsageControl" "byte1" "I" (.int (u &&& (255 : Int32)))
set_option maxRecDepth 65536 in
set_option maxHeartbeats 40000000 in
theorem rm1 (l : Launch) (Z : State) (a0 : Array Value) (hw : ∀ d ∈ tables_1, d.before a0 Z = true) (ws : List Jvm.Cond) (a : Addr) (r : Addr) (kc : ClassId) (u : Int32) (u1 : Int32) (h0 : Heap) (n0 : Nat) (Z0 : n0 ≤ h0.size) (E_a : Exa Z h0 a "com/example/tapline/reader/ApplicationUsageControl") (F_byte1_a : Fld Z h0 a "com/example/tapline/reader/ApplicationUsageControl" "byte1" "I" (.int (0 : Int32))) (ge_a : n0 ≤ a) (V_r : Arv Z h0 r kc .byte (2 : Int32) [(.int u), (.int u1)] (.int (0 : Int32))) (nra : r ≠ a) :
    MetFree l (⟨"com/example/tapline/reader/ApplicationUsageControl", "<init>", "([B)V"⟩ : MethodName) (head1 (Jvm.Cond.code (⟨"com/example/tapline/reader/ApplicationUsageControl", "<init>", "([B)V"⟩ : MethodName) prog_99_method_1_code 2 none :: ws) ({ frames := 1, cells := 0, slots := 0, locals := 12 } : Room)) (fun zza zzU => zza = #[(.ref a), (.ref r)] ∧ Z.Warmed39 zzU.vm ∧ zzU.heap = h0) (fun _ _ _ _ _ => True) (fun _ zzU zzo zzV => ∃ zzv zzL, zzo = .returned zzv ∧ Q1 Z a r kc u u1 h0 n0 zzv zzV.heap zzL ∧ FrameEnd zzU zzo zzV zzL ({ frames := 1, cells := 0, slots := 0, locals := 12 } : Room).cells ({ frames := 1, cells := 0, slots := 0, locals := 12 } : Room).slots) := by
  refine MetFree.of_bodySF (plainFor_of_name pn_1) hisR ?_
  intro p e s m args below meth c s₁ Bd hml0 hP hK
  obtain ⟨rfl, hZ, hh⟩ := hP
  have hx := Bd.exec
  have hby := Bd.bytes
  have hml : c.maxLocals = 2 := hml0
  have hown : s.vm.findClass "com/example/tapline/reader/ApplicationUsageControl" = some m.cls := findClass_of_methodNamed Bd.named
  have hnm := (name_of_methodNamed Bd.named Bd.method).1
  have X0 : Stand p l e ({ frames := 1, cells := 0, slots := 0, locals := 12 } : Room) s m #[(.ref a), (.ref r)] below meth c s₁ [] 0 0 := Stand.of_body Bd
  have e0 : s₁.heap = h0 := by rw [← hh, Bd.state]; rfl
  have N0 := Fr.nil n0
  have R0 : ∀ t, Steps p.tables e below (s₁.setTop (mkF m 0 #[.val (.ref a), .val (.ref r)] [])) t → Steps p.tables e below (s₁.setTop (entryFrame m #[(.ref a), (.ref r)] 2)) t := fun t k => castTop (ef1 m a r) k
  have KP := Keep.refl h0 [a]
  have R1 : ∀ t, Steps p.tables e below (s₁.setTop (mkF m 1 #[.val (.ref a), .val (.ref r)] [(.ref a)])) t → Steps p.tables e below (s₁.setTop (entryFrame m #[(.ref a), (.ref r)] 2)) t := by
    intro t k
    refine R0 t ?_
    show Steps p.tables e below (s₁.setTop (mkF m 0 #[.val (.ref a), .val (.ref r)] [])) _
    refine XS.aloadN X0.here hx rfl (hb hby d1_0) rfl rfl ?_
    exact k
  obtain ⟨T2, X2, e2, st2⟩ := initO X0 hx hZ hown (hw _ (List.mem_of_getElem? (i := 7) rfl)) (hw _ (List.mem_of_getElem? (i := 8) rfl)) (hw _ (List.mem_of_getElem? (i := 9) rfl)) e0 (g := (mkF m 1 #[.val (.ref a), .val (.ref r)] [(.ref a)])) rfl (by rw [hml]; rfl) rfl (hb hby d1_1) (by decide) (W := 0) (by show 2 * 0 + _ ≤ _; exact Nat.le_of_eq rfl) (by decide)
  have R3 : ∀ t, Steps p.tables e below (T2.setTop (mkF m 5 #[.val (.ref a), .val (.ref r)] [(.ref r)])) t → Steps p.tables e below (s₁.setTop (entryFrame m #[(.ref a), (.ref r)] 2)) t := by
    intro t k
    refine R1 t ?_
    show Steps p.tables e below (s₁.setTop (mkF m 1 #[.val (.ref a), .val (.ref r)] [(.ref a)])) _
    refine st2 _ ?_
    show Steps p.tables e below (T2.setTop (mkF m 4 #[.val (.ref a), .val (.ref r)] [])) _
    refine XS.aloadN X2.here hx rfl (hb hby d1_4) rfl rfl ?_
    exact k
  obtain ⟨cl4, Ar4, Aq4, As4, An4, Ah4, Ag4⟩ := id V_r
  have R5 : ∀ t, Steps p.tables e below (T2.setTop (mkF m 28 #[.val (.ref a), .val (.ref r)] [(.int (0 : Int32)), (.ref r), (.ref a)])) t → Steps p.tables e below (s₁.setTop (entryFrame m #[(.ref a), (.ref r)] 2)) t := by
    intro t k
    refine R3 t ?_
    show Steps p.tables e below (T2.setTop (mkF m 5 #[.val (.ref a), .val (.ref r)] [(.ref r)])) _
    refine X2.arraylength hx (by rw [e2]; exact Ar4.1) (State.isArrayOf_alike hZ.alike Ar4.2.1) (g := (mkF m 5 #[.val (.ref a), .val (.ref r)] [(.ref r)])) rfl rfl (hb hby d1_5) _ ?_
    rw [len_of As4 An4]
    show Steps p.tables e below (T2.setTop (mkF m 6 #[.val (.ref a), .val (.ref r)] [(.int (2 : Int32))])) _
    refine XS.iconst X2.here hx rfl (hb hby d1_6) ?_
    show Steps p.tables e below (T2.setTop (mkF m 7 #[.val (.ref a), .val (.ref r)] [(.int (2 : Int32)), (.int (2 : Int32))])) _
    refine XS.icmpYes X2.here hx rfl (pc0 := 7) (pc' := 25) rfl (hb hby d1_7) rfl (teq (rfl : (2 : Int32) = 2)).1 (by decide) (by decide) ?_
    show Steps p.tables e below (T2.setTop (mkF m 25 #[.val (.ref a), .val (.ref r)] [])) _
    refine XS.aloadN X2.here hx rfl (hb hby d1_25) rfl rfl ?_
    show Steps p.tables e below (T2.setTop (mkF m 26 #[.val (.ref a), .val (.ref r)] [(.ref a)])) _
    refine XS.aloadN X2.here hx rfl (hb hby d1_26) rfl rfl ?_
    show Steps p.tables e below (T2.setTop (mkF m 27 #[.val (.ref a), .val (.ref r)] [(.ref r), (.ref a)])) _
    refine XS.iconst X2.here hx rfl (hb hby d1_27) ?_
    exact k
  obtain ⟨cl6, Ar6, Aq6, As6, An6, Ah6, Ag6⟩ := id V_r
  have hin6 : ¬ ((0 : Int32) < 0 ∨ cl6.slots.size ≤ ((0 : Int32)).toNatClampNeg) := inb_of As6 ⟨by decide, by decide⟩
  have hat6 : cl6.slots[((0 : Int32)).toNatClampNeg]? = some (.int u) := Has.at Ah6 hin6 rfl
  have R7 : ∀ t, Steps p.tables e below (T2.setTop (mkF m 33 #[.val (.ref a), .val (.ref r)] [(.int (u &&& (255 : Int32))), (.ref a)])) t → Steps p.tables e below (s₁.setTop (entryFrame m #[(.ref a), (.ref r)] 2)) t := by
    intro t k
    refine R5 t ?_
    show Steps p.tables e below (T2.setTop (mkF m 28 #[.val (.ref a), .val (.ref r)] [(.int (0 : Int32)), (.ref r), (.ref a)])) _
    refine X2.baloadBytes hx (j := (0 : Int32)) (v := (.int u)) (by rw [e2]; exact Ar6.1) (State.isArrayOf_alike hZ.alike Ar6.2.1) Ar6.2.2 hin6 hat6 (g := (mkF m 28 #[.val (.ref a), .val (.ref r)] [(.int (0 : Int32)), (.ref r), (.ref a)])) rfl rfl (hb hby d1_28) _ ?_
    show Steps p.tables e below (T2.setTop (mkF m 29 #[.val (.ref a), .val (.ref r)] [(.int u), (.ref a)])) _
    refine XS.sipush X2.here hx rfl (hb hby d1_29) ?_
    show Steps p.tables e below (T2.setTop (mkF m 32 #[.val (.ref a), .val (.ref r)] [(.int (255 : Int32)), (.int u), (.ref a)])) _
    refine XS.iand X2.here hx rfl (hb hby d1_32) rfl ?_
    exact k
  obtain ⟨T8, h8, X8, e8, W8, st8⟩ := putF X2 hx hZ hown (host := "") (Or.inl (hw _ (List.mem_of_getElem? (i := 10) rfl))) Via.refl e2 F_byte1_a E_a (Or.inr ⟨(hw _ (List.mem_of_getElem? (i := 11) rfl)), rfl, hnm⟩) (hw _ (List.mem_of_getElem? (i := 2) rfl)) (ty := .int) (by decide) rfl rfl (g := (mkF m 33 #[.val (.ref a), .val (.ref r)] [(.int (u &&& (255 : Int32))), (.ref a)])) rfl rfl (hb hby d1_33)
  have N8 := Fr.snoc X8 N0 ge_a
  have Sz8 := Nat.le_trans Z0 (Keep.of_wr W8).1
  have E_a := E_a.wr W8
  have V_r := V_r.other W8 nra
  have F_byte1_a := F_byte1_a.same W8
  have KP := KP.wr W8 (Or.inl (List.mem_of_getElem? (i := 0) rfl))
  have R9 : ∀ t, Steps p.tables e below (T8.setTop (mkF m 36 #[.val (.ref a), .val (.ref r)] [])) t → Steps p.tables e below (s₁.setTop (entryFrame m #[(.ref a), (.ref r)] 2)) t := by
    intro t k
    refine R7 t ?_
    show Steps p.tables e below (T2.setTop (mkF m 33 #[.val (.ref a), .val (.ref r)] [(.int (u &&& (255 : Int32))), (.ref a)])) _
    refine st8 _ ?_
    exact k
  obtain ⟨fs, hr, hrun, hended, hW, hsame⟩ := X8.leave (v := none) (fun _ => rfl)
  refine ⟨_, _, R9 _ ?_, hrun, hended, _, _, rfl, ?_, ⟨_, rfl⟩, hW, hsame.mono (by decide) (by decide)⟩
  · exact X8.returnOut hx Bd.returns (hb hby d1_36) hr
  · show Q1 Z a r kc u u1 h0 n0 _ T8.heap _
    rw [e8]
    exact ⟨rfl, N8, KP, F_byte1_a⟩
theorem ef0 (m : MethodId) (x0 : Int32) (x1 : Int32) : entryFrame m #[(.int x0), (.int x1)] maxLocals = mkF m 0 #[.val (.int x0), .val (.int x1), .unset, .unset, .unset, .unset, .unset, .unset, .unset] [] := by first | (simp [entryFrame, mkF, argsToLocals, Value.category, maxLocals]; done) | rfl
theorem pd_0 : parseMethodDescriptor "([B)V" = some ⟨[(.array .byte)], none⟩ := by decide +kernel
theorem pd_1 : parseMethodDescriptor "(Z)Z" = some ⟨[.boolean], some .boolean⟩ := by decide +kernel
theorem pd_2 : parseMethodDescriptor "(II)Z" = some ⟨[.int, .int], some .boolean⟩ := by decide +kernel
def Q0 (Z : State) (p0 : Int32) (p1 : Int32) (h0 : Heap) (n0 : Nat) (v : Option Value) (h : Heap) (L : List Loc) : Prop := v = some (.int (1 : Int32)) ∧ Fr n0 L
set_option maxRecDepth 65536 in
set_option maxHeartbeats 40000000 in
theorem rm0 (l : Launch) (Z : State) (a0 : Array Value) (hw : ∀ d ∈ tables_1, d.before a0 Z = true) (ws : List Jvm.Cond) (p0 : Int32) (p1 : Int32) (h0 : Heap) (n0 : Nat) (Z0 : n0 ≤ h0.size)  :
    MetFree l x (head1 (Jvm.Cond.code x code maxLocals ret :: ws) room_1) (fun zza zzU => zza = #[(.int p0), (.int p1)] ∧ Z.Warmed39 zzU.vm ∧ zzU.heap = h0) (fun _ _ _ _ _ => True) (fun _ zzU zzo zzV => ∃ zzv zzL, zzo = .returned zzv ∧ Q0 Z p0 p1 h0 n0 zzv zzV.heap zzL ∧ FrameEnd zzU zzo zzV zzL 16 128) := by
  refine MetFree.of_bodySF (plainFor_of_name pn_0) hisR ?_
  intro p e s m args below meth c s₁ Bd hml0 hP hK
  obtain ⟨rfl, hZ, hh⟩ := hP
  have hx := Bd.exec
  have hby := Bd.bytes
  have hml : c.maxLocals = 9 := hml0
  have hown : s.vm.findClass "com/example/tapline/reader/ApplicationUsageControlAllowsPurchasePinLaw" = some m.cls := findClass_of_methodNamed Bd.named
  have hnm := (name_of_methodNamed Bd.named Bd.method).1
  have X0 : Stand p l e room_1 s m #[(.int p0), (.int p1)] below meth c s₁ [] 0 0 := Stand.of_body Bd
  have e0 : s₁.heap = h0 := by rw [← hh, Bd.state]; rfl
  have N0 := Fr.nil n0
  have R0 : ∀ t, Steps p.tables e below (s₁.setTop (mkF m 0 #[.val (.int p0), .val (.int p1), .unset, .unset, .unset, .unset, .unset, .unset, .unset] [])) t → Steps p.tables e below (s₁.setTop (entryFrame m #[(.int p0), (.int p1)] maxLocals)) t := fun t k => castTop (ef0 m p0 p1) k
  have R1 : ∀ t, Steps p.tables e below (s₁.setTop (mkF m 1 #[.val (.int p0), .val (.int p1), .unset, .unset, .unset, .unset, .unset, .unset, .unset] [(.int (2 : Int32))])) t → Steps p.tables e below (s₁.setTop (entryFrame m #[(.int p0), (.int p1)] maxLocals)) t := by
    intro t k
    refine R0 t ?_
    show Steps p.tables e below (s₁.setTop (mkF m 0 #[.val (.int p0), .val (.int p1), .unset, .unset, .unset, .unset, .unset, .unset, .unset] [])) _
    refine XS.iconst X0.here hx rfl (hb hby at_0) ?_
    exact k
  obtain ⟨T2, h2, k2, X2, e2, E2, A2, st2⟩ := newP X0 hx hZ (hw _ (List.mem_of_getElem? (i := 0) rfl)) e0 (g := (mkF m 1 #[.val (.int p0), .val (.int p1), .unset, .unset, .unset, .unset, .unset, .unset, .unset] [(.int (2 : Int32))])) rfl (hb hby at_1) rfl (by decide) (cap := 2) (by decide) (by decide) (by decide) (by decide)
  obtain ⟨r, g2⟩ : ∃ z, z = h0.size := ⟨_, rfl⟩
  rw [← g2] at A2 st2
  have ge_r : n0 ≤ r := by rw [g2]; exact Z0
  have Sz2 := Nat.le_trans Z0 E2.1
  have V_r : Arv Z h2 r k2 .byte (2 : Int32) [(.int (0 : Int32)), (.int (0 : Int32))] (.int (0 : Int32)) := (Arv.new A2 (by decide)).pad (pad_rep [] (.int (0 : Int32)) 2)
  have R3 : ∀ t, Steps p.tables e below (T2.setTop (mkF m 8 #[.val (.int p0), .val (.int p1), .val (.ref r), .unset, .unset, .unset, .unset, .unset, .unset] [(.int ((p0).toInt8.toInt32)), (.int (0 : Int32)), (.ref r)])) t → Steps p.tables e below (s₁.setTop (entryFrame m #[(.int p0), (.int p1)] maxLocals)) t := by
    intro t k
    refine R1 t ?_
    show Steps p.tables e below (s₁.setTop (mkF m 1 #[.val (.int p0), .val (.int p1), .unset, .unset, .unset, .unset, .unset, .unset, .unset] [(.int (2 : Int32))])) _
    refine st2 _ ?_
    show Steps p.tables e below (T2.setTop (mkF m 3 #[.val (.int p0), .val (.int p1), .unset, .unset, .unset, .unset, .unset, .unset, .unset] [(.ref r)])) _
    refine XS.astoreN X2.here hx rfl (hb hby at_3) rfl rfl (l' := #[.val (.int p0), .val (.int p1), .val (.ref r), .unset, .unset, .unset, .unset, .unset, .unset]) rfl ?_
    show Steps p.tables e below (T2.setTop (mkF m 4 #[.val (.int p0), .val (.int p1), .val (.ref r), .unset, .unset, .unset, .unset, .unset, .unset] [])) _
    refine XS.aloadN X2.here hx rfl (hb hby at_4) rfl rfl ?_
    show Steps p.tables e below (T2.setTop (mkF m 5 #[.val (.int p0), .val (.int p1), .val (.ref r), .unset, .unset, .unset, .unset, .unset, .unset] [(.ref r)])) _
    refine XS.iconst X2.here hx rfl (hb hby at_5) ?_
    show Steps p.tables e below (T2.setTop (mkF m 6 #[.val (.int p0), .val (.int p1), .val (.ref r), .unset, .unset, .unset, .unset, .unset, .unset] [(.int (0 : Int32)), (.ref r)])) _
    refine XS.iloadN X2.here hx rfl (hb hby at_6) rfl ?_
    show Steps p.tables e below (T2.setTop (mkF m 7 #[.val (.int p0), .val (.int p1), .val (.ref r), .unset, .unset, .unset, .unset, .unset, .unset] [(.int p0), (.int (0 : Int32)), (.ref r)])) _
    refine XS.i2b X2.here hx rfl (hb hby at_7) rfl ?_
    exact k
  obtain ⟨cl4, Ar4, Aq4, As4, An4, Ah4, Ag4⟩ := id V_r
  have hin4 : ¬ ((0 : Int32) < 0 ∨ cl4.slots.size ≤ ((0 : Int32)).toNatClampNeg) := inb_of As4 ⟨by decide, by decide⟩
  obtain ⟨T5, h5, X5, e5, W5, st5⟩ := stB X2 hx hZ e2 Ar4 (j := (0 : Int32)) hin4 (g := (mkF m 8 #[.val (.int p0), .val (.int p1), .val (.ref r), .unset, .unset, .unset, .unset, .unset, .unset] [(.int ((p0).toInt8.toInt32)), (.int (0 : Int32)), (.ref r)])) rfl rfl (hb hby at_8)
  have N5 := Fr.snoc X5 N0 ge_r
  have Sz5 := Nat.le_trans Sz2 (Keep.of_wr W5).1
  have V_r : Arv Z h5 r k2 .byte (2 : Int32) [(.int (nar .byte ((p0).toInt8.toInt32))), (.int (0 : Int32))] (.int (0 : Int32)) := Arv.set Ar4 Aq4 As4 An4 Ah4 Ag4 (fits_nar_byte _) W5 0 rfl (Nat.le_of_ble_eq_true rfl)
  have R6 : ∀ t, Steps p.tables e below (T5.setTop (mkF m 13 #[.val (.int p0), .val (.int p1), .val (.ref r), .unset, .unset, .unset, .unset, .unset, .unset] [(.int ((p1).toInt8.toInt32)), (.int (1 : Int32)), (.ref r)])) t → Steps p.tables e below (s₁.setTop (entryFrame m #[(.int p0), (.int p1)] maxLocals)) t := by
    intro t k
    refine R3 t ?_
    show Steps p.tables e below (T2.setTop (mkF m 8 #[.val (.int p0), .val (.int p1), .val (.ref r), .unset, .unset, .unset, .unset, .unset, .unset] [(.int ((p0).toInt8.toInt32)), (.int (0 : Int32)), (.ref r)])) _
    refine st5 _ ?_
    show Steps p.tables e below (T5.setTop (mkF m 9 #[.val (.int p0), .val (.int p1), .val (.ref r), .unset, .unset, .unset, .unset, .unset, .unset] [])) _
    refine XS.aloadN X5.here hx rfl (hb hby at_9) rfl rfl ?_
    show Steps p.tables e below (T5.setTop (mkF m 10 #[.val (.int p0), .val (.int p1), .val (.ref r), .unset, .unset, .unset, .unset, .unset, .unset] [(.ref r)])) _
    refine XS.iconst X5.here hx rfl (hb hby at_10) ?_
    show Steps p.tables e below (T5.setTop (mkF m 11 #[.val (.int p0), .val (.int p1), .val (.ref r), .unset, .unset, .unset, .unset, .unset, .unset] [(.int (1 : Int32)), (.ref r)])) _
    refine XS.iloadN X5.here hx rfl (hb hby at_11) rfl ?_
    show Steps p.tables e below (T5.setTop (mkF m 12 #[.val (.int p0), .val (.int p1), .val (.ref r), .unset, .unset, .unset, .unset, .unset, .unset] [(.int p1), (.int (1 : Int32)), (.ref r)])) _
    refine XS.i2b X5.here hx rfl (hb hby at_12) rfl ?_
    exact k
  obtain ⟨cl7, Ar7, Aq7, As7, An7, Ah7, Ag7⟩ := id V_r
  have hin7 : ¬ ((1 : Int32) < 0 ∨ cl7.slots.size ≤ ((1 : Int32)).toNatClampNeg) := inb_of As7 ⟨by decide, by decide⟩
  obtain ⟨T8, h8, X8, e8, W8, st8⟩ := stB X5 hx hZ e5 Ar7 (j := (1 : Int32)) hin7 (g := (mkF m 13 #[.val (.int p0), .val (.int p1), .val (.ref r), .unset, .unset, .unset, .unset, .unset, .unset] [(.int ((p1).toInt8.toInt32)), (.int (1 : Int32)), (.ref r)])) rfl rfl (hb hby at_13)
  have N8 := Fr.snoc X8 N5 ge_r
  have Sz8 := Nat.le_trans Sz5 (Keep.of_wr W8).1
  have V_r : Arv Z h8 r k2 .byte (2 : Int32) [(.int (nar .byte ((p0).toInt8.toInt32))), (.int (nar .byte ((p1).toInt8.toInt32)))] (.int (0 : Int32)) := Arv.set Ar7 Aq7 As7 An7 Ah7 Ag7 (fits_nar_byte _) W8 1 rfl (Nat.le_of_ble_eq_true rfl)
  have R9 : ∀ t, Steps p.tables e below (T8.setTop (mkF m 14 #[.val (.int p0), .val (.int p1), .val (.ref r), .unset, .unset, .unset, .unset, .unset, .unset] [])) t → Steps p.tables e below (s₁.setTop (entryFrame m #[(.int p0), (.int p1)] maxLocals)) t := by
    intro t k
    refine R6 t ?_
    show Steps p.tables e below (T5.setTop (mkF m 13 #[.val (.int p0), .val (.int p1), .val (.ref r), .unset, .unset, .unset, .unset, .unset, .unset] [(.int ((p1).toInt8.toInt32)), (.int (1 : Int32)), (.ref r)])) _
    refine st8 _ ?_
    exact k
  obtain ⟨T10, h10, X10, e10, E10, A10, D10, -, st10⟩ := newO X8 hx hZ hown (hw _ (List.mem_of_getElem? (i := 1) rfl)) (hw _ (List.mem_of_getElem? (i := 2) rfl)) (hw _ (List.mem_of_getElem? (i := 3) rfl)) e8 (g := (mkF m 14 #[.val (.int p0), .val (.int p1), .val (.ref r), .unset, .unset, .unset, .unset, .unset, .unset] [])) rfl (hb hby at_14) (by decide) (by decide)
  obtain ⟨b, g10⟩ : ∃ z, z = h8.size := ⟨_, rfl⟩
  rw [← g10] at A10 D10 st10
  have ge_b : n0 ≤ b := by rw [g10]; exact Sz8
  have Sz10 := Nat.le_trans Sz8 E10.1
  have ne_r_b : r ≠ b := Nat.ne_of_lt (Nat.lt_of_lt_of_le V_r.lt (Nat.le_of_eq g10.symm))
  have V_r := V_r.ext E10
  have E_b := A10
  have F_byte1_b : Fld Z h10 b "com/example/tapline/reader/ApplicationUsageControl" "byte1" "I" (.int (0 : Int32)) := D10 (Or.inr (hw _ (List.mem_of_getElem? (i := 11) rfl))) (ty := .int) (by decide)
  have R11 : ∀ t, Steps p.tables e below (T10.setTop (mkF m 19 #[.val (.int p0), .val (.int p1), .val (.ref r), .unset, .unset, .unset, .unset, .unset, .unset] [(.ref r), (.ref b), (.ref b)])) t → Steps p.tables e below (s₁.setTop (entryFrame m #[(.int p0), (.int p1)] maxLocals)) t := by
    intro t k
    refine R9 t ?_
    show Steps p.tables e below (T8.setTop (mkF m 14 #[.val (.int p0), .val (.int p1), .val (.ref r), .unset, .unset, .unset, .unset, .unset, .unset] [])) _
    refine st10 _ ?_
    show Steps p.tables e below (T10.setTop (mkF m 17 #[.val (.int p0), .val (.int p1), .val (.ref r), .unset, .unset, .unset, .unset, .unset, .unset] [(.ref b)])) _
    refine XS.dup X10.here hx rfl (hb hby at_17) rfl rfl ?_
    show Steps p.tables e below (T10.setTop (mkF m 18 #[.val (.int p0), .val (.int p1), .val (.ref r), .unset, .unset, .unset, .unset, .unset, .unset] [(.ref b), (.ref b)])) _
    refine XS.aloadN X10.here hx rfl (hb hby at_18) rfl rfl ?_
    exact k
  obtain ⟨_, _, ⟨T12, L12, k12, n12⟩, -, X12, ⟨Lc12, hQ12, l12, y12, z12⟩, st12⟩ := X10.specialBack hx (y := (⟨"com/example/tapline/reader/ApplicationUsageControl", "<init>", "([B)V"⟩ : MethodName)) rfl hown (mvT hZ (hw _ (List.mem_of_getElem? (i := 4) rfl))) (mvT hZ (hw _ (List.mem_of_getElem? (i := 5) rfl))) (mvT hZ (hw _ (List.mem_of_getElem? (i := 6) rfl))) (by decide) (backOf (W := 1) (rm1 l Z a0 hw [] b r k2 (nar .byte ((p0).toInt8.toInt32)) (nar .byte ((p1).toInt8.toInt32)) h10 n0 Sz10 E_b F_byte1_b ge_b V_r ne_r_b) hZ (hw _ (List.mem_of_getElem? (i := 6) rfl)) (hw _ (List.mem_of_getElem? (i := 3) rfl)) (by decide) (by decide)) (g := (mkF m 19 #[.val (.int p0), .val (.int p1), .val (.ref r), .unset, .unset, .unset, .unset, .unset, .unset] [(.ref r), (.ref b), (.ref b)])) rfl (by rw [hml]; rfl) (Steps.refl _) (a := b) (argsL := [(.ref r)]) (rest := [(.ref b)]) (lenOf pd_0 rfl) rfl (by show 2 * 0 + _ ≤ _; exact Nat.le_of_eq rfl) (hb hby at_19) (fun _ _ => ⟨rfl, e10, (by decide : 2 + 0 ≤ _), (by decide : 3 + 0 ≤ _)⟩)
  dsimp only [Pt.U, Pt.locs, Pt.cells, Pt.slots] at X12 l12 y12 z12 st12 hQ12
  subst l12 y12 z12
  obtain ⟨rfl, Nq12, K12, F_byte1_b⟩ := hQ12
  have N12 := Fr.app N8 Nq12
  have Sz12 := Nat.le_trans Sz10 K12.1
  have V_r := V_r.keep K12 (ninS ne_r_b nin0)
  have E_b := E_b.keep K12
  have R13 : ∀ t, Steps p.tables e below (T12.setTop (mkF m 22 #[.val (.int p0), .val (.int p1), .val (.ref r), .unset, .unset, .unset, .unset, .unset, .unset] [(.ref b)])) t → Steps p.tables e below (s₁.setTop (entryFrame m #[(.int p0), (.int p1)] maxLocals)) t := by
    intro t k
    refine R11 t ?_
    show Steps p.tables e below (T10.setTop (mkF m 19 #[.val (.int p0), .val (.int p1), .val (.ref r), .unset, .unset, .unset, .unset, .unset, .unset] [(.ref r), (.ref b), (.ref b)])) _
    refine st12.trans ?_
    exact k
  rw [own_b0] at F_byte1_b
  have R14 : ∀ t, Steps p.tables e below (T12.setTop (mkF m 25 #[.val (.int p0), .val (.int p1), .val (.ref r), .val (.ref b), .unset, .unset, .unset, .unset, .unset] [(.int (1 : Int32)), (.ref b)])) t → Steps p.tables e below (s₁.setTop (entryFrame m #[(.int p0), (.int p1)] maxLocals)) t := by
    intro t k
    refine R13 t ?_
    show Steps p.tables e below (T12.setTop (mkF m 22 #[.val (.int p0), .val (.int p1), .val (.ref r), .unset, .unset, .unset, .unset, .unset, .unset] [(.ref b)])) _
    refine XS.astoreN X12.here hx rfl (hb hby at_22) rfl rfl (l' := #[.val (.int p0), .val (.int p1), .val (.ref r), .val (.ref b), .unset, .unset, .unset, .unset, .unset]) rfl ?_
    show Steps p.tables e below (T12.setTop (mkF m 23 #[.val (.int p0), .val (.int p1), .val (.ref r), .val (.ref b), .unset, .unset, .unset, .unset, .unset] [])) _
    refine XS.aloadN X12.here hx rfl (hb hby at_23) rfl rfl ?_
    show Steps p.tables e below (T12.setTop (mkF m 24 #[.val (.int p0), .val (.int p1), .val (.ref r), .val (.ref b), .unset, .unset, .unset, .unset, .unset] [(.ref b)])) _
    refine XS.iconst X12.here hx rfl (hb hby at_24) ?_
    exact k
  obtain ⟨cq15, kq15, q15a, q15b, q15c⟩ := isOf hZ rfl E_b
  obtain ⟨_, _, ⟨T15, L15, k15, n15⟩, -, X15, ⟨Lc15, hQ15, l15, y15, z15⟩, st15⟩ := X12.virtualBack hx (y := (⟨"com/example/tapline/reader/ApplicationUsageControl", "allowsPurchase", "(Z)Z"⟩ : MethodName)) (z := (⟨"com/example/tapline/reader/ApplicationUsageControl", "allowsPurchase", "(Z)Z"⟩ : MethodName)) hown (mvT hZ (hw _ (List.mem_of_getElem? (i := 12) rfl))) (mvT hZ (hw _ (List.mem_of_getElem? (i := 13) rfl))) (notFace_of_selects (args := #[]) (mvT hZ (hw _ (List.mem_of_getElem? (i := 15) rfl)))) (mvT hZ (hw _ (List.mem_of_getElem? (i := 15) rfl))) (mvT hZ (hw _ (List.mem_of_getElem? (i := 14) rfl))) (by decide) (backOf (W := 0) (rm3d l Z a0 hw [] b (1 : Int32) (p0 &&& (255 : Int32)) T12.heap n0 Sz12 F_byte1_b rfl) hZ (hw _ (List.mem_of_getElem? (i := 16) rfl)) (hw _ (List.mem_of_getElem? (i := 3) rfl)) (by decide) (by decide)) q15a q15c (g := (mkF m 25 #[.val (.int p0), .val (.int p1), .val (.ref r), .val (.ref b), .unset, .unset, .unset, .unset, .unset] [(.int (1 : Int32)), (.ref b)])) rfl (by rw [hml]; rfl) (Steps.refl _) (argsL := [(.int (1 : Int32))]) (rest := []) (lenOf pd_1 rfl) rfl (by show 2 * 0 + _ ≤ _; exact Nat.le_of_eq rfl) (hb hby at_25) (fun _ _ => ⟨rfl, rfl, (by decide : 2 + 0 ≤ _), (by decide : 3 + 0 ≤ _)⟩)
  dsimp only [Pt.U, Pt.locs, Pt.cells, Pt.slots] at X15 l15 y15 z15 st15 hQ15
  subst l15 y15 z15
  obtain ⟨rfl, Nq15, eq15⟩ := hQ15
  have N15 := Fr.app N12 Nq15
  have e15 : T15.heap = T12.heap := eq15
  have R16 : ∀ t, Steps p.tables e below (T15.setTop (mkF m 32 #[.val (.int p0), .val (.int p1), .val (.ref r), .val (.ref b), .val (.int (if ((p0 &&& (255 : Int32)) &&& (40 : Int32)) = (40 : Int32) then (1 : Int32) else (0 : Int32))), .unset, .unset, .unset, .unset] [(.int (0 : Int32)), (.ref b)])) t → Steps p.tables e below (s₁.setTop (entryFrame m #[(.int p0), (.int p1)] maxLocals)) t := by
    intro t k
    refine R14 t ?_
    show Steps p.tables e below (T12.setTop (mkF m 25 #[.val (.int p0), .val (.int p1), .val (.ref r), .val (.ref b), .unset, .unset, .unset, .unset, .unset] [(.int (1 : Int32)), (.ref b)])) _
    refine st15.trans ?_
    show Steps p.tables e below (T15.setTop (mkF m 28 #[.val (.int p0), .val (.int p1), .val (.ref r), .val (.ref b), .unset, .unset, .unset, .unset, .unset] [(.int (if ((p0 &&& (255 : Int32)) &&& (40 : Int32)) = (40 : Int32) then (1 : Int32) else (0 : Int32)))])) _
    refine XS.istore X15.here hx rfl (hb hby at_28) rfl (l' := #[.val (.int p0), .val (.int p1), .val (.ref r), .val (.ref b), .val (.int (if ((p0 &&& (255 : Int32)) &&& (40 : Int32)) = (40 : Int32) then (1 : Int32) else (0 : Int32))), .unset, .unset, .unset, .unset]) rfl ?_
    show Steps p.tables e below (T15.setTop (mkF m 30 #[.val (.int p0), .val (.int p1), .val (.ref r), .val (.ref b), .val (.int (if ((p0 &&& (255 : Int32)) &&& (40 : Int32)) = (40 : Int32) then (1 : Int32) else (0 : Int32))), .unset, .unset, .unset, .unset] [])) _
    refine XS.aloadN X15.here hx rfl (hb hby at_30) rfl rfl ?_
    show Steps p.tables e below (T15.setTop (mkF m 31 #[.val (.int p0), .val (.int p1), .val (.ref r), .val (.ref b), .val (.int (if ((p0 &&& (255 : Int32)) &&& (40 : Int32)) = (40 : Int32) then (1 : Int32) else (0 : Int32))), .unset, .unset, .unset, .unset] [(.ref b)])) _
    refine XS.iconst X15.here hx rfl (hb hby at_31) ?_
    exact k
  obtain ⟨cq17, kq17, q17a, q17b, q17c⟩ := isOf hZ e15 E_b
  obtain ⟨_, _, ⟨T17, L17, k17, n17⟩, -, X17, ⟨Lc17, hQ17, l17, y17, z17⟩, st17⟩ := X15.virtualBack hx (y := (⟨"com/example/tapline/reader/ApplicationUsageControl", "allowsPurchase", "(Z)Z"⟩ : MethodName)) (z := (⟨"com/example/tapline/reader/ApplicationUsageControl", "allowsPurchase", "(Z)Z"⟩ : MethodName)) hown (mvT hZ (hw _ (List.mem_of_getElem? (i := 12) rfl))) (mvT hZ (hw _ (List.mem_of_getElem? (i := 13) rfl))) (notFace_of_selects (args := #[]) (mvT hZ (hw _ (List.mem_of_getElem? (i := 15) rfl)))) (mvT hZ (hw _ (List.mem_of_getElem? (i := 15) rfl))) (mvT hZ (hw _ (List.mem_of_getElem? (i := 14) rfl))) (by decide) (backOf (W := 0) (rm3i l Z a0 hw [] b (0 : Int32) (p0 &&& (255 : Int32)) T12.heap n0 Sz12 F_byte1_b rfl) hZ (hw _ (List.mem_of_getElem? (i := 16) rfl)) (hw _ (List.mem_of_getElem? (i := 3) rfl)) (by decide) (by decide)) q17a q17c (g := (mkF m 32 #[.val (.int p0), .val (.int p1), .val (.ref r), .val (.ref b), .val (.int (if ((p0 &&& (255 : Int32)) &&& (40 : Int32)) = (40 : Int32) then (1 : Int32) else (0 : Int32))), .unset, .unset, .unset, .unset] [(.int (0 : Int32)), (.ref b)])) rfl (by rw [hml]; rfl) (Steps.refl _) (argsL := [(.int (0 : Int32))]) (rest := []) (lenOf pd_1 rfl) rfl (by show 2 * 0 + _ ≤ _; exact Nat.le_of_eq rfl) (hb hby at_32) (fun _ _ => ⟨rfl, e15, (by decide : 2 + 0 ≤ _), (by decide : 3 + 0 ≤ _)⟩)
  dsimp only [Pt.U, Pt.locs, Pt.cells, Pt.slots] at X17 l17 y17 z17 st17 hQ17
  subst l17 y17 z17
  obtain ⟨rfl, Nq17, eq17⟩ := hQ17
  have N17 := Fr.app N15 Nq17
  have e17 : T17.heap = T12.heap := eq17
  have R18 : ∀ t, Steps p.tables e below (T17.setTop (mkF m 50 #[.val (.int p0), .val (.int p1), .val (.ref r), .val (.ref b), .val (.int (if ((p0 &&& (255 : Int32)) &&& (40 : Int32)) = (40 : Int32) then (1 : Int32) else (0 : Int32))), .val (.int (if ((p0 &&& (255 : Int32)) &&& (20 : Int32)) = (20 : Int32) then (1 : Int32) else (0 : Int32))), .val (.int (p0 &&& (255 : Int32))), .val (.int (0 : Int32)), .unset] [(.int (5 : Int32)), (.int (p0 &&& (255 : Int32)))])) t → Steps p.tables e below (s₁.setTop (entryFrame m #[(.int p0), (.int p1)] maxLocals)) t := by
    intro t k
    refine R16 t ?_
    show Steps p.tables e below (T15.setTop (mkF m 32 #[.val (.int p0), .val (.int p1), .val (.ref r), .val (.ref b), .val (.int (if ((p0 &&& (255 : Int32)) &&& (40 : Int32)) = (40 : Int32) then (1 : Int32) else (0 : Int32))), .unset, .unset, .unset, .unset] [(.int (0 : Int32)), (.ref b)])) _
    refine st17.trans ?_
    show Steps p.tables e below (T17.setTop (mkF m 35 #[.val (.int p0), .val (.int p1), .val (.ref r), .val (.ref b), .val (.int (if ((p0 &&& (255 : Int32)) &&& (40 : Int32)) = (40 : Int32) then (1 : Int32) else (0 : Int32))), .unset, .unset, .unset, .unset] [(.int (if ((p0 &&& (255 : Int32)) &&& (20 : Int32)) = (20 : Int32) then (1 : Int32) else (0 : Int32)))])) _
    refine XS.istore X17.here hx rfl (hb hby at_35) rfl (l' := #[.val (.int p0), .val (.int p1), .val (.ref r), .val (.ref b), .val (.int (if ((p0 &&& (255 : Int32)) &&& (40 : Int32)) = (40 : Int32) then (1 : Int32) else (0 : Int32))), .val (.int (if ((p0 &&& (255 : Int32)) &&& (20 : Int32)) = (20 : Int32) then (1 : Int32) else (0 : Int32))), .unset, .unset, .unset]) rfl ?_
    show Steps p.tables e below (T17.setTop (mkF m 37 #[.val (.int p0), .val (.int p1), .val (.ref r), .val (.ref b), .val (.int (if ((p0 &&& (255 : Int32)) &&& (40 : Int32)) = (40 : Int32) then (1 : Int32) else (0 : Int32))), .val (.int (if ((p0 &&& (255 : Int32)) &&& (20 : Int32)) = (20 : Int32) then (1 : Int32) else (0 : Int32))), .unset, .unset, .unset] [])) _
    refine XS.iloadN X17.here hx rfl (hb hby at_37) rfl ?_
    show Steps p.tables e below (T17.setTop (mkF m 38 #[.val (.int p0), .val (.int p1), .val (.ref r), .val (.ref b), .val (.int (if ((p0 &&& (255 : Int32)) &&& (40 : Int32)) = (40 : Int32) then (1 : Int32) else (0 : Int32))), .val (.int (if ((p0 &&& (255 : Int32)) &&& (20 : Int32)) = (20 : Int32) then (1 : Int32) else (0 : Int32))), .unset, .unset, .unset] [(.int p0)])) _
    refine XS.sipush X17.here hx rfl (hb hby at_38) ?_
    show Steps p.tables e below (T17.setTop (mkF m 41 #[.val (.int p0), .val (.int p1), .val (.ref r), .val (.ref b), .val (.int (if ((p0 &&& (255 : Int32)) &&& (40 : Int32)) = (40 : Int32) then (1 : Int32) else (0 : Int32))), .val (.int (if ((p0 &&& (255 : Int32)) &&& (20 : Int32)) = (20 : Int32) then (1 : Int32) else (0 : Int32))), .unset, .unset, .unset] [(.int (255 : Int32)), (.int p0)])) _
    refine XS.iand X17.here hx rfl (hb hby at_41) rfl ?_
    show Steps p.tables e below (T17.setTop (mkF m 42 #[.val (.int p0), .val (.int p1), .val (.ref r), .val (.ref b), .val (.int (if ((p0 &&& (255 : Int32)) &&& (40 : Int32)) = (40 : Int32) then (1 : Int32) else (0 : Int32))), .val (.int (if ((p0 &&& (255 : Int32)) &&& (20 : Int32)) = (20 : Int32) then (1 : Int32) else (0 : Int32))), .unset, .unset, .unset] [(.int (p0 &&& (255 : Int32)))])) _
    refine XS.istore X17.here hx rfl (hb hby at_42) rfl (l' := #[.val (.int p0), .val (.int p1), .val (.ref r), .val (.ref b), .val (.int (if ((p0 &&& (255 : Int32)) &&& (40 : Int32)) = (40 : Int32) then (1 : Int32) else (0 : Int32))), .val (.int (if ((p0 &&& (255 : Int32)) &&& (20 : Int32)) = (20 : Int32) then (1 : Int32) else (0 : Int32))), .val (.int (p0 &&& (255 : Int32))), .unset, .unset]) rfl ?_
    show Steps p.tables e below (T17.setTop (mkF m 44 #[.val (.int p0), .val (.int p1), .val (.ref r), .val (.ref b), .val (.int (if ((p0 &&& (255 : Int32)) &&& (40 : Int32)) = (40 : Int32) then (1 : Int32) else (0 : Int32))), .val (.int (if ((p0 &&& (255 : Int32)) &&& (20 : Int32)) = (20 : Int32) then (1 : Int32) else (0 : Int32))), .val (.int (p0 &&& (255 : Int32))), .unset, .unset] [])) _
    refine XS.iconst X17.here hx rfl (hb hby at_44) ?_
    show Steps p.tables e below (T17.setTop (mkF m 45 #[.val (.int p0), .val (.int p1), .val (.ref r), .val (.ref b), .val (.int (if ((p0 &&& (255 : Int32)) &&& (40 : Int32)) = (40 : Int32) then (1 : Int32) else (0 : Int32))), .val (.int (if ((p0 &&& (255 : Int32)) &&& (20 : Int32)) = (20 : Int32) then (1 : Int32) else (0 : Int32))), .val (.int (p0 &&& (255 : Int32))), .unset, .unset] [(.int (0 : Int32))])) _
    refine XS.istore X17.here hx rfl (hb hby at_45) rfl (l' := #[.val (.int p0), .val (.int p1), .val (.ref r), .val (.ref b), .val (.int (if ((p0 &&& (255 : Int32)) &&& (40 : Int32)) = (40 : Int32) then (1 : Int32) else (0 : Int32))), .val (.int (if ((p0 &&& (255 : Int32)) &&& (20 : Int32)) = (20 : Int32) then (1 : Int32) else (0 : Int32))), .val (.int (p0 &&& (255 : Int32))), .val (.int (0 : Int32)), .unset]) rfl ?_
    show Steps p.tables e below (T17.setTop (mkF m 47 #[.val (.int p0), .val (.int p1), .val (.ref r), .val (.ref b), .val (.int (if ((p0 &&& (255 : Int32)) &&& (40 : Int32)) = (40 : Int32) then (1 : Int32) else (0 : Int32))), .val (.int (if ((p0 &&& (255 : Int32)) &&& (20 : Int32)) = (20 : Int32) then (1 : Int32) else (0 : Int32))), .val (.int (p0 &&& (255 : Int32))), .val (.int (0 : Int32)), .unset] [])) _
    refine XS.iload X17.here hx rfl (hb hby at_47) rfl ?_
    show Steps p.tables e below (T17.setTop (mkF m 49 #[.val (.int p0), .val (.int p1), .val (.ref r), .val (.ref b), .val (.int (if ((p0 &&& (255 : Int32)) &&& (40 : Int32)) = (40 : Int32) then (1 : Int32) else (0 : Int32))), .val (.int (if ((p0 &&& (255 : Int32)) &&& (20 : Int32)) = (20 : Int32) then (1 : Int32) else (0 : Int32))), .val (.int (p0 &&& (255 : Int32))), .val (.int (0 : Int32)), .unset] [(.int (p0 &&& (255 : Int32)))])) _
    refine XS.iconst X17.here hx rfl (hb hby at_49) ?_
    exact k
  obtain ⟨_, _, ⟨T19, L19, k19, n19⟩, -, X19, ⟨Lc19, hQ19, l19, y19, z19⟩, st19⟩ := Jvm.LawKit.callS X17 hx (y := (⟨"com/example/tapline/reader/ApplicationUsageControlAllowsPurchasePinLaw", "bit", "(II)Z"⟩ : MethodName)) hown (mvT hZ (hw _ (List.mem_of_getElem? (i := 17) rfl))) (mvT hZ (hw _ (List.mem_of_getElem? (i := 18) rfl))) (mvT hZ (hw _ (List.mem_of_getElem? (i := 19) rfl))) (mvT hZ (hw _ (List.mem_of_getElem? (i := 20) rfl))) (by decide) (backOf (W := 0) (rm4 l Z a0 hw [] (p0 &&& (255 : Int32)) (5 : Int32) T12.heap n0 Sz12) hZ (hw _ (List.mem_of_getElem? (i := 20) rfl)) (hw _ (List.mem_of_getElem? (i := 19) rfl)) (by decide) (by decide)) (g := (mkF m 50 #[.val (.int p0), .val (.int p1), .val (.ref r), .val (.ref b), .val (.int (if ((p0 &&& (255 : Int32)) &&& (40 : Int32)) = (40 : Int32) then (1 : Int32) else (0 : Int32))), .val (.int (if ((p0 &&& (255 : Int32)) &&& (20 : Int32)) = (20 : Int32) then (1 : Int32) else (0 : Int32))), .val (.int (p0 &&& (255 : Int32))), .val (.int (0 : Int32)), .unset] [(.int (5 : Int32)), (.int (p0 &&& (255 : Int32)))])) rfl (by rw [hml]; rfl) (argsL := [(.int (p0 &&& (255 : Int32))), (.int (5 : Int32))]) (rest := []) (lenOf pd_2 rfl) rfl (by show 2 * 0 + _ ≤ _; exact Nat.le_of_eq rfl) (hb hby at_50) (fun _ _ => ⟨rfl, e17, (by decide : 2 + 0 ≤ _), (by decide : 3 + 0 ≤ _)⟩)
  dsimp only [Pt.U, Pt.locs, Pt.cells, Pt.slots] at X19 l19 y19 z19 st19 hQ19
  subst l19 y19 z19
  obtain ⟨rfl, Nq19, eq19⟩ := hQ19
  have N19 := Fr.app N17 Nq19
  have e19 : T19.heap = T12.heap := eq19
  have R20 : ∀ t, Steps p.tables e below (T19.setTop (mkF m 53 #[.val (.int p0), .val (.int p1), .val (.ref r), .val (.ref b), .val (.int (if ((p0 &&& (255 : Int32)) &&& (40 : Int32)) = (40 : Int32) then (1 : Int32) else (0 : Int32))), .val (.int (if ((p0 &&& (255 : Int32)) &&& (20 : Int32)) = (20 : Int32) then (1 : Int32) else (0 : Int32))), .val (.int (p0 &&& (255 : Int32))), .val (.int (0 : Int32)), .unset] [(.int (if (((p0 &&& (255 : Int32)) >>> ((5 : Int32) &&& 31)) &&& (1 : Int32)) = (1 : Int32) then (1 : Int32) else (0 : Int32)))])) t → Steps p.tables e below (s₁.setTop (entryFrame m #[(.int p0), (.int p1)] maxLocals)) t := by
    intro t k
    refine R18 t ?_
    show Steps p.tables e below (T17.setTop (mkF m 50 #[.val (.int p0), .val (.int p1), .val (.ref r), .val (.ref b), .val (.int (if ((p0 &&& (255 : Int32)) &&& (40 : Int32)) = (40 : Int32) then (1 : Int32) else (0 : Int32))), .val (.int (if ((p0 &&& (255 : Int32)) &&& (20 : Int32)) = (20 : Int32) then (1 : Int32) else (0 : Int32))), .val (.int (p0 &&& (255 : Int32))), .val (.int (0 : Int32)), .unset] [(.int (5 : Int32)), (.int (p0 &&& (255 : Int32)))])) _
    refine st19 _ ?_
    exact k
  by_cases b5 : (((p0 &&& (255 : Int32)) >>> ((5 : Int32) &&& 31)) &&& (1 : Int32)) = (1 : Int32)
  ·
    rw [if_pos b5] at R20
    have R21 : ∀ t, Steps p.tables e below (T19.setTop (mkF m 59 #[.val (.int p0), .val (.int p1), .val (.ref r), .val (.ref b), .val (.int (if ((p0 &&& (255 : Int32)) &&& (40 : Int32)) = (40 : Int32) then (1 : Int32) else (0 : Int32))), .val (.int (if ((p0 &&& (255 : Int32)) &&& (20 : Int32)) = (20 : Int32) then (1 : Int32) else (0 : Int32))), .val (.int (p0 &&& (255 : Int32))), .val (.int (0 : Int32)), .unset] [(.int (3 : Int32)), (.int (p0 &&& (255 : Int32)))])) t → Steps p.tables e below (s₁.setTop (entryFrame m #[(.int p0), (.int p1)] maxLocals)) t := by
      intro t k
      refine R20 t ?_
      show Steps p.tables e below (T19.setTop (mkF m 53 #[.val (.int p0), .val (.int p1), .val (.ref r), .val (.ref b), .val (.int (if ((p0 &&& (255 : Int32)) &&& (40 : Int32)) = (40 : Int32) then (1 : Int32) else (0 : Int32))), .val (.int (if ((p0 &&& (255 : Int32)) &&& (20 : Int32)) = (20 : Int32) then (1 : Int32) else (0 : Int32))), .val (.int (p0 &&& (255 : Int32))), .val (.int (0 : Int32)), .unset] [(.int (1 : Int32))])) _
      refine XS.ifNo X19.here hx rfl (hb hby at_53) rfl ((if0 _ _).trans (feq (by decide)).1) ?_
      show Steps p.tables e below (T19.setTop (mkF m 56 #[.val (.int p0), .val (.int p1), .val (.ref r), .val (.ref b), .val (.int (if ((p0 &&& (255 : Int32)) &&& (40 : Int32)) = (40 : Int32) then (1 : Int32) else (0 : Int32))), .val (.int (if ((p0 &&& (255 : Int32)) &&& (20 : Int32)) = (20 : Int32) then (1 : Int32) else (0 : Int32))), .val (.int (p0 &&& (255 : Int32))), .val (.int (0 : Int32)), .unset] [])) _
      refine XS.iload X19.here hx rfl (hb hby at_56) rfl ?_
      show Steps p.tables e below (T19.setTop (mkF m 58 #[.val (.int p0), .val (.int p1), .val (.ref r), .val (.ref b), .val (.int (if ((p0 &&& (255 : Int32)) &&& (40 : Int32)) = (40 : Int32) then (1 : Int32) else (0 : Int32))), .val (.int (if ((p0 &&& (255 : Int32)) &&& (20 : Int32)) = (20 : Int32) then (1 : Int32) else (0 : Int32))), .val (.int (p0 &&& (255 : Int32))), .val (.int (0 : Int32)), .unset] [(.int (p0 &&& (255 : Int32)))])) _
      refine XS.iconst X19.here hx rfl (hb hby at_58) ?_
      exact k
    obtain ⟨_, _, ⟨T22, L22, k22, n22⟩, -, X22, ⟨Lc22, hQ22, l22, y22, z22⟩, st22⟩ := Jvm.LawKit.callS X19 hx (y := (⟨"com/example/tapline/reader/ApplicationUsageControlAllowsPurchasePinLaw", "bit", "(II)Z"⟩ : MethodName)) hown (mvT hZ (hw _ (List.mem_of_getElem? (i := 17) rfl))) (mvT hZ (hw _ (List.mem_of_getElem? (i := 18) rfl))) (mvT hZ (hw _ (List.mem_of_getElem? (i := 19) rfl))) (mvT hZ (hw _ (List.mem_of_getElem? (i := 20) rfl))) (by decide) (backOf (W := 0) (rm4 l Z a0 hw [] (p0 &&& (255 : Int32)) (3 : Int32) T12.heap n0 Sz12) hZ (hw _ (List.mem_of_getElem? (i := 20) rfl)) (hw _ (List.mem_of_getElem? (i := 19) rfl)) (by decide) (by decide)) (g := (mkF m 59 #[.val (.int p0), .val (.int p1), .val (.ref r), .val (.ref b), .val (.int (if ((p0 &&& (255 : Int32)) &&& (40 : Int32)) = (40 : Int32) then (1 : Int32) else (0 : Int32))), .val (.int (if ((p0 &&& (255 : Int32)) &&& (20 : Int32)) = (20 : Int32) then (1 : Int32) else (0 : Int32))), .val (.int (p0 &&& (255 : Int32))), .val (.int (0 : Int32)), .unset] [(.int (3 : Int32)), (.int (p0 &&& (255 : Int32)))])) rfl (by rw [hml]; rfl) (argsL := [(.int (p0 &&& (255 : Int32))), (.int (3 : Int32))]) (rest := []) (lenOf pd_2 rfl) rfl (by show 2 * 0 + _ ≤ _; exact Nat.le_of_eq rfl) (hb hby at_59) (fun _ _ => ⟨rfl, e19, (by decide : 2 + 0 ≤ _), (by decide : 3 + 0 ≤ _)⟩)
    dsimp only [Pt.U, Pt.locs, Pt.cells, Pt.slots] at X22 l22 y22 z22 st22 hQ22
    subst l22 y22 z22
    obtain ⟨rfl, Nq22, eq22⟩ := hQ22
    have N22 := Fr.app N19 Nq22
    have e22 : T22.heap = T12.heap := eq22
    have R23 : ∀ t, Steps p.tables e below (T22.setTop (mkF m 62 #[.val (.int p0), .val (.int p1), .val (.ref r), .val (.ref b), .val (.int (if ((p0 &&& (255 : Int32)) &&& (40 : Int32)) = (40 : Int32) then (1 : Int32) else (0 : Int32))), .val (.int (if ((p0 &&& (255 : Int32)) &&& (20 : Int32)) = (20 : Int32) then (1 : Int32) else (0 : Int32))), .val (.int (p0 &&& (255 : Int32))), .val (.int (0 : Int32)), .unset] [(.int (if (((p0 &&& (255 : Int32)) >>> ((3 : Int32) &&& 31)) &&& (1 : Int32)) = (1 : Int32) then (1 : Int32) else (0 : Int32)))])) t → Steps p.tables e below (s₁.setTop (entryFrame m #[(.int p0), (.int p1)] maxLocals)) t := by
      intro t k
      refine R21 t ?_
      show Steps p.tables e below (T19.setTop (mkF m 59 #[.val (.int p0), .val (.int p1), .val (.ref r), .val (.ref b), .val (.int (if ((p0 &&& (255 : Int32)) &&& (40 : Int32)) = (40 : Int32) then (1 : Int32) else (0 : Int32))), .val (.int (if ((p0 &&& (255 : Int32)) &&& (20 : Int32)) = (20 : Int32) then (1 : Int32) else (0 : Int32))), .val (.int (p0 &&& (255 : Int32))), .val (.int (0 : Int32)), .unset] [(.int (3 : Int32)), (.int (p0 &&& (255 : Int32)))])) _
      refine st22 _ ?_
      exact k
    by_cases b3 : (((p0 &&& (255 : Int32)) >>> ((3 : Int32) &&& 31)) &&& (1 : Int32)) = (1 : Int32)
    ·
      rw [if_pos b3] at R23
      have R24 : ∀ t, Steps p.tables e below (T22.setTop (mkF m 74 #[.val (.int p0), .val (.int p1), .val (.ref r), .val (.ref b), .val (.int (if ((p0 &&& (255 : Int32)) &&& (40 : Int32)) = (40 : Int32) then (1 : Int32) else (0 : Int32))), .val (.int (if ((p0 &&& (255 : Int32)) &&& (20 : Int32)) = (20 : Int32) then (1 : Int32) else (0 : Int32))), .val (.int (p0 &&& (255 : Int32))), .val (.int (1 : Int32)), .val (.int (0 : Int32))] [(.int (4 : Int32)), (.int (p0 &&& (255 : Int32)))])) t → Steps p.tables e below (s₁.setTop (entryFrame m #[(.int p0), (.int p1)] maxLocals)) t := by
        intro t k
        refine R23 t ?_
        show Steps p.tables e below (T22.setTop (mkF m 62 #[.val (.int p0), .val (.int p1), .val (.ref r), .val (.ref b), .val (.int (if ((p0 &&& (255 : Int32)) &&& (40 : Int32)) = (40 : Int32) then (1 : Int32) else (0 : Int32))), .val (.int (if ((p0 &&& (255 : Int32)) &&& (20 : Int32)) = (20 : Int32) then (1 : Int32) else (0 : Int32))), .val (.int (p0 &&& (255 : Int32))), .val (.int (0 : Int32)), .unset] [(.int (1 : Int32))])) _
        refine XS.ifNo X22.here hx rfl (hb hby at_62) rfl ((if0 _ _).trans (feq (by decide)).1) ?_
        show Steps p.tables e below (T22.setTop (mkF m 65 #[.val (.int p0), .val (.int p1), .val (.ref r), .val (.ref b), .val (.int (if ((p0 &&& (255 : Int32)) &&& (40 : Int32)) = (40 : Int32) then (1 : Int32) else (0 : Int32))), .val (.int (if ((p0 &&& (255 : Int32)) &&& (20 : Int32)) = (20 : Int32) then (1 : Int32) else (0 : Int32))), .val (.int (p0 &&& (255 : Int32))), .val (.int (0 : Int32)), .unset] [])) _
        refine XS.iconst X22.here hx rfl (hb hby at_65) ?_
        show Steps p.tables e below (T22.setTop (mkF m 66 #[.val (.int p0), .val (.int p1), .val (.ref r), .val (.ref b), .val (.int (if ((p0 &&& (255 : Int32)) &&& (40 : Int32)) = (40 : Int32) then (1 : Int32) else (0 : Int32))), .val (.int (if ((p0 &&& (255 : Int32)) &&& (20 : Int32)) = (20 : Int32) then (1 : Int32) else (0 : Int32))), .val (.int (p0 &&& (255 : Int32))), .val (.int (0 : Int32)), .unset] [(.int (1 : Int32))])) _
        refine XS.istore X22.here hx rfl (hb hby at_66) rfl (l' := #[.val (.int p0), .val (.int p1), .val (.ref r), .val (.ref b), .val (.int (if ((p0 &&& (255 : Int32)) &&& (40 : Int32)) = (40 : Int32) then (1 : Int32) else (0 : Int32))), .val (.int (if ((p0 &&& (255 : Int32)) &&& (20 : Int32)) = (20 : Int32) then (1 : Int32) else (0 : Int32))), .val (.int (p0 &&& (255 : Int32))), .val (.int (1 : Int32)), .unset]) rfl ?_
        show Steps p.tables e below (T22.setTop (mkF m 68 #[.val (.int p0), .val (.int p1), .val (.ref r), .val (.ref b), .val (.int (if ((p0 &&& (255 : Int32)) &&& (40 : Int32)) = (40 : Int32) then (1 : Int32) else (0 : Int32))), .val (.int (if ((p0 &&& (255 : Int32)) &&& (20 : Int32)) = (20 : Int32) then (1 : Int32) else (0 : Int32))), .val (.int (p0 &&& (255 : Int32))), .val (.int (1 : Int32)), .unset] [])) _
        refine XS.iconst X22.here hx rfl (hb hby at_68) ?_
        show Steps p.tables e below (T22.setTop (mkF m 69 #[.val (.int p0), .val (.int p1), .val (.ref r), .val (.ref b), .val (.int (if ((p0 &&& (255 : Int32)) &&& (40 : Int32)) = (40 : Int32) then (1 : Int32) else (0 : Int32))), .val (.int (if ((p0 &&& (255 : Int32)) &&& (20 : Int32)) = (20 : Int32) then (1 : Int32) else (0 : Int32))), .val (.int (p0 &&& (255 : Int32))), .val (.int (1 : Int32)), .unset] [(.int (0 : Int32))])) _
        refine XS.istore X22.here hx rfl (hb hby at_69) rfl (l' := #[.val (.int p0), .val (.int p1), .val (.ref r), .val (.ref b), .val (.int (if ((p0 &&& (255 : Int32)) &&& (40 : Int32)) = (40 : Int32) then (1 : Int32) else (0 : Int32))), .val (.int (if ((p0 &&& (255 : Int32)) &&& (20 : Int32)) = (20 : Int32) then (1 : Int32) else (0 : Int32))), .val (.int (p0 &&& (255 : Int32))), .val (.int (1 : Int32)), .val (.int (0 : Int32))]) rfl ?_
        show Steps p.tables e below (T22.setTop (mkF m 71 #[.val (.int p0), .val (.int p1), .val (.ref r), .val (.ref b), .val (.int (if ((p0 &&& (255 : Int32)) &&& (40 : Int32)) = (40 : Int32) then (1 : Int32) else (0 : Int32))), .val (.int (if ((p0 &&& (255 : Int32)) &&& (20 : Int32)) = (20 : Int32) then (1 : Int32) else (0 : Int32))), .val (.int (p0 &&& (255 : Int32))), .val (.int (1 : Int32)), .val (.int (0 : Int32))] [])) _
        refine XS.iload X22.here hx rfl (hb hby at_71) rfl ?_
        show Steps p.tables e below (T22.setTop (mkF m 73 #[.val (.int p0), .val (.int p1), .val (.ref r), .val (.ref b), .val (.int (if ((p0 &&& (255 : Int32)) &&& (40 : Int32)) = (40 : Int32) then (1 : Int32) else (0 : Int32))), .val (.int (if ((p0 &&& (255 : Int32)) &&& (20 : Int32)) = (20 : Int32) then (1 : Int32) else (0 : Int32))), .val (.int (p0 &&& (255 : Int32))), .val (.int (1 : Int32)), .val (.int (0 : Int32))] [(.int (p0 &&& (255 : Int32)))])) _
        refine XS.iconst X22.here hx rfl (hb hby at_73) ?_
        exact k
      obtain ⟨_, _, ⟨T25, L25, k25, n25⟩, -, X25, ⟨Lc25, hQ25, l25, y25, z25⟩, st25⟩ := Jvm.LawKit.callS X22 hx (y := (⟨"com/example/tapline/reader/ApplicationUsageControlAllowsPurchasePinLaw", "bit", "(II)Z"⟩ : MethodName)) hown (mvT hZ (hw _ (List.mem_of_getElem? (i := 17) rfl))) (mvT hZ (hw _ (List.mem_of_getElem? (i := 18) rfl))) (mvT hZ (hw _ (List.mem_of_getElem? (i := 19) rfl))) (mvT hZ (hw _ (List.mem_of_getElem? (i := 20) rfl))) (by decide) (backOf (W := 0) (rm4 l Z a0 hw [] (p0 &&& (255 : Int32)) (4 : Int32) T12.heap n0 Sz12) hZ (hw _ (List.mem_of_getElem? (i := 20) rfl)) (hw _ (List.mem_of_getElem? (i := 19) rfl)) (by decide) (by decide)) (g := (mkF m 74 #[.val (.int p0), .val (.int p1), .val (.ref r), .val (.ref b), .val (.int (if ((p0 &&& (255 : Int32)) &&& (40 : Int32)) = (40 : Int32) then (1 : Int32) else (0 : Int32))), .val (.int (if ((p0 &&& (255 : Int32)) &&& (20 : Int32)) = (20 : Int32) then (1 : Int32) else (0 : Int32))), .val (.int (p0 &&& (255 : Int32))), .val (.int (1 : Int32)), .val (.int (0 : Int32))] [(.int (4 : Int32)), (.int (p0 &&& (255 : Int32)))])) rfl (by rw [hml]; rfl) (argsL := [(.int (p0 &&& (255 : Int32))), (.int (4 : Int32))]) (rest := []) (lenOf pd_2 rfl) rfl (by show 2 * 0 + _ ≤ _; exact Nat.le_of_eq rfl) (hb hby at_74) (fun _ _ => ⟨rfl, e22, (by decide : 2 + 0 ≤ _), (by decide : 3 + 0 ≤ _)⟩)
      dsimp only [Pt.U, Pt.locs, Pt.cells, Pt.slots] at X25 l25 y25 z25 st25 hQ25
      subst l25 y25 z25
      obtain ⟨rfl, Nq25, eq25⟩ := hQ25
      have N25 := Fr.app N22 Nq25
      have e25 : T25.heap = T12.heap := eq25
      have R26 : ∀ t, Steps p.tables e below (T25.setTop (mkF m 77 #[.val (.int p0), .val (.int p1), .val (.ref r), .val (.ref b), .val (.int (if ((p0 &&& (255 : Int32)) &&& (40 : Int32)) = (40 : Int32) then (1 : Int32) else (0 : Int32))), .val (.int (if ((p0 &&& (255 : Int32)) &&& (20 : Int32)) = (20 : Int32) then (1 : Int32) else (0 : Int32))), .val (.int (p0 &&& (255 : Int32))), .val (.int (1 : Int32)), .val (.int (0 : Int32))] [(.int (if (((p0 &&& (255 : Int32)) >>> ((4 : Int32) &&& 31)) &&& (1 : Int32)) = (1 : Int32) then (1 : Int32) else (0 : Int32)))])) t → Steps p.tables e below (s₁.setTop (entryFrame m #[(.int p0), (.int p1)] maxLocals)) t := by
        intro t k
        refine R24 t ?_
        show Steps p.tables e below (T22.setTop (mkF m 74 #[.val (.int p0), .val (.int p1), .val (.ref r), .val (.ref b), .val (.int (if ((p0 &&& (255 : Int32)) &&& (40 : Int32)) = (40 : Int32) then (1 : Int32) else (0 : Int32))), .val (.int (if ((p0 &&& (255 : Int32)) &&& (20 : Int32)) = (20 : Int32) then (1 : Int32) else (0 : Int32))), .val (.int (p0 &&& (255 : Int32))), .val (.int (1 : Int32)), .val (.int (0 : Int32))] [(.int (4 : Int32)), (.int (p0 &&& (255 : Int32)))])) _
        refine st25 _ ?_
        exact k
      by_cases b4 : (((p0 &&& (255 : Int32)) >>> ((4 : Int32) &&& 31)) &&& (1 : Int32)) = (1 : Int32)
      ·
        rw [if_pos b4] at R26
        have R27 : ∀ t, Steps p.tables e below (T25.setTop (mkF m 83 #[.val (.int p0), .val (.int p1), .val (.ref r), .val (.ref b), .val (.int (if ((p0 &&& (255 : Int32)) &&& (40 : Int32)) = (40 : Int32) then (1 : Int32) else (0 : Int32))), .val (.int (if ((p0 &&& (255 : Int32)) &&& (20 : Int32)) = (20 : Int32) then (1 : Int32) else (0 : Int32))), .val (.int (p0 &&& (255 : Int32))), .val (.int (1 : Int32)), .val (.int (0 : Int32))] [(.int (2 : Int32)), (.int (p0 &&& (255 : Int32)))])) t → Steps p.tables e below (s₁.setTop (entryFrame m #[(.int p0), (.int p1)] maxLocals)) t := by
          intro t k
          refine R26 t ?_
          show Steps p.tables e below (T25.setTop (mkF m 77 #[.val (.int p0), .val (.int p1), .val (.ref r), .val (.ref b), .val (.int (if ((p0 &&& (255 : Int32)) &&& (40 : Int32)) = (40 : Int32) then (1 : Int32) else (0 : Int32))), .val (.int (if ((p0 &&& (255 : Int32)) &&& (20 : Int32)) = (20 : Int32) then (1 : Int32) else (0 : Int32))), .val (.int (p0 &&& (255 : Int32))), .val (.int (1 : Int32)), .val (.int (0 : Int32))] [(.int (1 : Int32))])) _
          refine XS.ifNo X25.here hx rfl (hb hby at_77) rfl ((if0 _ _).trans (feq (by decide)).1) ?_
          show Steps p.tables e below (T25.setTop (mkF m 80 #[.val (.int p0), .val (.int p1), .val (.ref r), .val (.ref b), .val (.int (if ((p0 &&& (255 : Int32)) &&& (40 : Int32)) = (40 : Int32) then (1 : Int32) else (0 : Int32))), .val (.int (if ((p0 &&& (255 : Int32)) &&& (20 : Int32)) = (20 : Int32) then (1 : Int32) else (0 : Int32))), .val (.int (p0 &&& (255 : Int32))), .val (.int (1 : Int32)), .val (.int (0 : Int32))] [])) _
          refine XS.iload X25.here hx rfl (hb hby at_80) rfl ?_
          show Steps p.tables e below (T25.setTop (mkF m 82 #[.val (.int p0), .val (.int p1), .val (.ref r), .val (.ref b), .val (.int (if ((p0 &&& (255 : Int32)) &&& (40 : Int32)) = (40 : Int32) then (1 : Int32) else (0 : Int32))), .val (.int (if ((p0 &&& (255 : Int32)) &&& (20 : Int32)) = (20 : Int32) then (1 : Int32) else (0 : Int32))), .val (.int (p0 &&& (255 : Int32))), .val (.int (1 : Int32)), .val (.int (0 : Int32))] [(.int (p0 &&& (255 : Int32)))])) _
          refine XS.iconst X25.here hx rfl (hb hby at_82) ?_
          exact k
        obtain ⟨_, _, ⟨T28, L28, k28, n28⟩, -, X28, ⟨Lc28, hQ28, l28, y28, z28⟩, st28⟩ := Jvm.LawKit.callS X25 hx (y := (⟨"com/example/tapline/reader/ApplicationUsageControlAllowsPurchasePinLaw", "bit", "(II)Z"⟩ : MethodName)) hown (mvT hZ (hw _ (List.mem_of_getElem? (i := 17) rfl))) (mvT hZ (hw _ (List.mem_of_getElem? (i := 18) rfl))) (mvT hZ (hw _ (List.mem_of_getElem? (i := 19) rfl))) (mvT hZ (hw _ (List.mem_of_getElem? (i := 20) rfl))) (by decide) (backOf (W := 0) (rm4 l Z a0 hw [] (p0 &&& (255 : Int32)) (2 : Int32) T12.heap n0 Sz12) hZ (hw _ (List.mem_of_getElem? (i := 20) rfl)) (hw _ (List.mem_of_getElem? (i := 19) rfl)) (by decide) (by decide)) (g := (mkF m 83 #[.val (.int p0), .val (.int p1), .val (.ref r), .val (.ref b), .val (.int (if ((p0 &&& (255 : Int32)) &&& (40 : Int32)) = (40 : Int32) then (1 : Int32) else (0 : Int32))), .val (.int (if ((p0 &&& (255 : Int32)) &&& (20 : Int32)) = (20 : Int32) then (1 : Int32) else (0 : Int32))), .val (.int (p0 &&& (255 : Int32))), .val (.int (1 : Int32)), .val (.int (0 : Int32))] [(.int (2 : Int32)), (.int (p0 &&& (255 : Int32)))])) rfl (by rw [hml]; rfl) (argsL := [(.int (p0 &&& (255 : Int32))), (.int (2 : Int32))]) (rest := []) (lenOf pd_2 rfl) rfl (by show 2 * 0 + _ ≤ _; exact Nat.le_of_eq rfl) (hb hby at_83) (fun _ _ => ⟨rfl, e25, (by decide : 2 + 0 ≤ _), (by decide : 3 + 0 ≤ _)⟩)
        dsimp only [Pt.U, Pt.locs, Pt.cells, Pt.slots] at X28 l28 y28 z28 st28 hQ28
        subst l28 y28 z28
        obtain ⟨rfl, Nq28, eq28⟩ := hQ28
        have N28 := Fr.app N25 Nq28
        have e28 : T28.heap = T12.heap := eq28
        have R29 : ∀ t, Steps p.tables e below (T28.setTop (mkF m 86 #[.val (.int p0), .val (.int p1), .val (.ref r), .val (.ref b), .val (.int (if ((p0 &&& (255 : Int32)) &&& (40 : Int32)) = (40 : Int32) then (1 : Int32) else (0 : Int32))), .val (.int (if ((p0 &&& (255 : Int32)) &&& (20 : Int32)) = (20 : Int32) then (1 : Int32) else (0 : Int32))), .val (.int (p0 &&& (255 : Int32))), .val (.int (1 : Int32)), .val (.int (0 : Int32))] [(.int (if (((p0 &&& (255 : Int32)) >>> ((2 : Int32) &&& 31)) &&& (1 : Int32)) = (1 : Int32) then (1 : Int32) else (0 : Int32)))])) t → Steps p.tables e below (s₁.setTop (entryFrame m #[(.int p0), (.int p1)] maxLocals)) t := by
          intro t k
          refine R27 t ?_
          show Steps p.tables e below (T25.setTop (mkF m 83 #[.val (.int p0), .val (.int p1), .val (.ref r), .val (.ref b), .val (.int (if ((p0 &&& (255 : Int32)) &&& (40 : Int32)) = (40 : Int32) then (1 : Int32) else (0 : Int32))), .val (.int (if ((p0 &&& (255 : Int32)) &&& (20 : Int32)) = (20 : Int32) then (1 : Int32) else (0 : Int32))), .val (.int (p0 &&& (255 : Int32))), .val (.int (1 : Int32)), .val (.int (0 : Int32))] [(.int (2 : Int32)), (.int (p0 &&& (255 : Int32)))])) _
          refine st28 _ ?_
          exact k
        by_cases b2 : (((p0 &&& (255 : Int32)) >>> ((2 : Int32) &&& 31)) &&& (1 : Int32)) = (1 : Int32)
        ·
          rw [if_pos b2] at R29
          have R30 : ∀ t, Steps p.tables e below (T28.setTop (mkF m 96 #[.val (.int p0), .val (.int p1), .val (.ref r), .val (.ref b), .val (.int (if ((p0 &&& (255 : Int32)) &&& (40 : Int32)) = (40 : Int32) then (1 : Int32) else (0 : Int32))), .val (.int (if ((p0 &&& (255 : Int32)) &&& (20 : Int32)) = (20 : Int32) then (1 : Int32) else (0 : Int32))), .val (.int (p0 &&& (255 : Int32))), .val (.int (1 : Int32)), .val (.int (1 : Int32))] [(.int (1 : Int32)), (.int (if ((p0 &&& (255 : Int32)) &&& (40 : Int32)) = (40 : Int32) then (1 : Int32) else (0 : Int32)))])) t → Steps p.tables e below (s₁.setTop (entryFrame m #[(.int p0), (.int p1)] maxLocals)) t := by
            intro t k
            refine R29 t ?_
            show Steps p.tables e below (T28.setTop (mkF m 86 #[.val (.int p0), .val (.int p1), .val (.ref r), .val (.ref b), .val (.int (if ((p0 &&& (255 : Int32)) &&& (40 : Int32)) = (40 : Int32) then (1 : Int32) else (0 : Int32))), .val (.int (if ((p0 &&& (255 : Int32)) &&& (20 : Int32)) = (20 : Int32) then (1 : Int32) else (0 : Int32))), .val (.int (p0 &&& (255 : Int32))), .val (.int (1 : Int32)), .val (.int (0 : Int32))] [(.int (1 : Int32))])) _
            refine XS.ifNo X28.here hx rfl (hb hby at_86) rfl ((if0 _ _).trans (feq (by decide)).1) ?_
            show Steps p.tables e below (T28.setTop (mkF m 89 #[.val (.int p0), .val (.int p1), .val (.ref r), .val (.ref b), .val (.int (if ((p0 &&& (255 : Int32)) &&& (40 : Int32)) = (40 : Int32) then (1 : Int32) else (0 : Int32))), .val (.int (if ((p0 &&& (255 : Int32)) &&& (20 : Int32)) = (20 : Int32) then (1 : Int32) else (0 : Int32))), .val (.int (p0 &&& (255 : Int32))), .val (.int (1 : Int32)), .val (.int (0 : Int32))] [])) _
            refine XS.iconst X28.here hx rfl (hb hby at_89) ?_
            show Steps p.tables e below (T28.setTop (mkF m 90 #[.val (.int p0), .val (.int p1), .val (.ref r), .val (.ref b), .val (.int (if ((p0 &&& (255 : Int32)) &&& (40 : Int32)) = (40 : Int32) then (1 : Int32) else (0 : Int32))), .val (.int (if ((p0 &&& (255 : Int32)) &&& (20 : Int32)) = (20 : Int32) then (1 : Int32) else (0 : Int32))), .val (.int (p0 &&& (255 : Int32))), .val (.int (1 : Int32)), .val (.int (0 : Int32))] [(.int (1 : Int32))])) _
            refine XS.istore X28.here hx rfl (hb hby at_90) rfl (l' := #[.val (.int p0), .val (.int p1), .val (.ref r), .val (.ref b), .val (.int (if ((p0 &&& (255 : Int32)) &&& (40 : Int32)) = (40 : Int32) then (1 : Int32) else (0 : Int32))), .val (.int (if ((p0 &&& (255 : Int32)) &&& (20 : Int32)) = (20 : Int32) then (1 : Int32) else (0 : Int32))), .val (.int (p0 &&& (255 : Int32))), .val (.int (1 : Int32)), .val (.int (1 : Int32))]) rfl ?_
            show Steps p.tables e below (T28.setTop (mkF m 92 #[.val (.int p0), .val (.int p1), .val (.ref r), .val (.ref b), .val (.int (if ((p0 &&& (255 : Int32)) &&& (40 : Int32)) = (40 : Int32) then (1 : Int32) else (0 : Int32))), .val (.int (if ((p0 &&& (255 : Int32)) &&& (20 : Int32)) = (20 : Int32) then (1 : Int32) else (0 : Int32))), .val (.int (p0 &&& (255 : Int32))), .val (.int (1 : Int32)), .val (.int (1 : Int32))] [])) _
            refine XS.iload X28.here hx rfl (hb hby at_92) rfl ?_
            show Steps p.tables e below (T28.setTop (mkF m 94 #[.val (.int p0), .val (.int p1), .val (.ref r), .val (.ref b), .val (.int (if ((p0 &&& (255 : Int32)) &&& (40 : Int32)) = (40 : Int32) then (1 : Int32) else (0 : Int32))), .val (.int (if ((p0 &&& (255 : Int32)) &&& (20 : Int32)) = (20 : Int32) then (1 : Int32) else (0 : Int32))), .val (.int (p0 &&& (255 : Int32))), .val (.int (1 : Int32)), .val (.int (1 : Int32))] [(.int (if ((p0 &&& (255 : Int32)) &&& (40 : Int32)) = (40 : Int32) then (1 : Int32) else (0 : Int32)))])) _
            refine XS.iload X28.here hx rfl (hb hby at_94) rfl ?_
            exact k
          have hd : (if ((p0 &&& (255 : Int32)) &&& (40 : Int32)) = (40 : Int32) then (1 : Int32) else (0 : Int32)) = (1 : Int32) := by
            first | exact if_pos (own_dom _ b5 b3) | exact if_neg fun q => b5 (own_dom5 _ q) | exact if_neg fun q => b3 (own_dom3 _ q)
          have R31 : ∀ t, Steps p.tables e below (T28.setTop (mkF m 103 #[.val (.int p0), .val (.int p1), .val (.ref r), .val (.ref b), .val (.int (if ((p0 &&& (255 : Int32)) &&& (40 : Int32)) = (40 : Int32) then (1 : Int32) else (0 : Int32))), .val (.int (if ((p0 &&& (255 : Int32)) &&& (20 : Int32)) = (20 : Int32) then (1 : Int32) else (0 : Int32))), .val (.int (p0 &&& (255 : Int32))), .val (.int (1 : Int32)), .val (.int (1 : Int32))] [(.int (1 : Int32)), (.int (if ((p0 &&& (255 : Int32)) &&& (20 : Int32)) = (20 : Int32) then (1 : Int32) else (0 : Int32)))])) t → Steps p.tables e below (s₁.setTop (entryFrame m #[(.int p0), (.int p1)] maxLocals)) t := by
            intro t k
            refine R30 t ?_
            show Steps p.tables e below (T28.setTop (mkF m 96 #[.val (.int p0), .val (.int p1), .val (.ref r), .val (.ref b), .val (.int (if ((p0 &&& (255 : Int32)) &&& (40 : Int32)) = (40 : Int32) then (1 : Int32) else (0 : Int32))), .val (.int (if ((p0 &&& (255 : Int32)) &&& (20 : Int32)) = (20 : Int32) then (1 : Int32) else (0 : Int32))), .val (.int (p0 &&& (255 : Int32))), .val (.int (1 : Int32)), .val (.int (1 : Int32))] [(.int (1 : Int32)), (.int (if ((p0 &&& (255 : Int32)) &&& (40 : Int32)) = (40 : Int32) then (1 : Int32) else (0 : Int32)))])) _
            refine XS.icmpNo X28.here hx rfl (hb hby at_96) rfl (teq hd).2 ?_
            show Steps p.tables e below (T28.setTop (mkF m 99 #[.val (.int p0), .val (.int p1), .val (.ref r), .val (.ref b), .val (.int (if ((p0 &&& (255 : Int32)) &&& (40 : Int32)) = (40 : Int32) then (1 : Int32) else (0 : Int32))), .val (.int (if ((p0 &&& (255 : Int32)) &&& (20 : Int32)) = (20 : Int32) then (1 : Int32) else (0 : Int32))), .val (.int (p0 &&& (255 : Int32))), .val (.int (1 : Int32)), .val (.int (1 : Int32))] [])) _
            refine XS.iload X28.here hx rfl (hb hby at_99) rfl ?_
            show Steps p.tables e below (T28.setTop (mkF m 101 #[.val (.int p0), .val (.int p1), .val (.ref r), .val (.ref b), .val (.int (if ((p0 &&& (255 : Int32)) &&& (40 : Int32)) = (40 : Int32) then (1 : Int32) else (0 : Int32))), .val (.int (if ((p0 &&& (255 : Int32)) &&& (20 : Int32)) = (20 : Int32) then (1 : Int32) else (0 : Int32))), .val (.int (p0 &&& (255 : Int32))), .val (.int (1 : Int32)), .val (.int (1 : Int32))] [(.int (if ((p0 &&& (255 : Int32)) &&& (20 : Int32)) = (20 : Int32) then (1 : Int32) else (0 : Int32)))])) _
            refine XS.iload X28.here hx rfl (hb hby at_101) rfl ?_
            exact k
          have hi : (if ((p0 &&& (255 : Int32)) &&& (20 : Int32)) = (20 : Int32) then (1 : Int32) else (0 : Int32)) = (1 : Int32) := by
            first | exact if_pos (own_int _ b4 b2) | exact if_neg fun q => b4 (own_int4 _ q) | exact if_neg fun q => b2 (own_int2 _ q)
          have R32 : ∀ t, Steps p.tables e below (T28.setTop (mkF m 111 #[.val (.int p0), .val (.int p1), .val (.ref r), .val (.ref b), .val (.int (if ((p0 &&& (255 : Int32)) &&& (40 : Int32)) = (40 : Int32) then (1 : Int32) else (0 : Int32))), .val (.int (if ((p0 &&& (255 : Int32)) &&& (20 : Int32)) = (20 : Int32) then (1 : Int32) else (0 : Int32))), .val (.int (p0 &&& (255 : Int32))), .val (.int (1 : Int32)), .val (.int (1 : Int32))] [(.int (1 : Int32))])) t → Steps p.tables e below (s₁.setTop (entryFrame m #[(.int p0), (.int p1)] maxLocals)) t := by
            intro t k
            refine R31 t ?_
            show Steps p.tables e below (T28.setTop (mkF m 103 #[.val (.int p0), .val (.int p1), .val (.ref r), .val (.ref b), .val (.int (if ((p0 &&& (255 : Int32)) &&& (40 : Int32)) = (40 : Int32) then (1 : Int32) else (0 : Int32))), .val (.int (if ((p0 &&& (255 : Int32)) &&& (20 : Int32)) = (20 : Int32) then (1 : Int32) else (0 : Int32))), .val (.int (p0 &&& (255 : Int32))), .val (.int (1 : Int32)), .val (.int (1 : Int32))] [(.int (1 : Int32)), (.int (if ((p0 &&& (255 : Int32)) &&& (20 : Int32)) = (20 : Int32) then (1 : Int32) else (0 : Int32)))])) _
            refine XS.icmpNo X28.here hx rfl (hb hby at_103) rfl (teq hi).2 ?_
            show Steps p.tables e below (T28.setTop (mkF m 106 #[.val (.int p0), .val (.int p1), .val (.ref r), .val (.ref b), .val (.int (if ((p0 &&& (255 : Int32)) &&& (40 : Int32)) = (40 : Int32) then (1 : Int32) else (0 : Int32))), .val (.int (if ((p0 &&& (255 : Int32)) &&& (20 : Int32)) = (20 : Int32) then (1 : Int32) else (0 : Int32))), .val (.int (p0 &&& (255 : Int32))), .val (.int (1 : Int32)), .val (.int (1 : Int32))] [])) _
            refine XS.iconst X28.here hx rfl (hb hby at_106) ?_
            show Steps p.tables e below (T28.setTop (mkF m 107 #[.val (.int p0), .val (.int p1), .val (.ref r), .val (.ref b), .val (.int (if ((p0 &&& (255 : Int32)) &&& (40 : Int32)) = (40 : Int32) then (1 : Int32) else (0 : Int32))), .val (.int (if ((p0 &&& (255 : Int32)) &&& (20 : Int32)) = (20 : Int32) then (1 : Int32) else (0 : Int32))), .val (.int (p0 &&& (255 : Int32))), .val (.int (1 : Int32)), .val (.int (1 : Int32))] [(.int (1 : Int32))])) _
            refine XS.goto X28.here hx rfl (pc0 := 107) (pc' := 111) rfl (hb hby at_107) (by decide) (by decide) ?_
            exact k
          obtain ⟨fs, hr, hrun, hended, hW, hsame⟩ := X28.leave (v := some (.int (1 : Int32))) (fun h => by rw [Bd.returns] at h; cases h)
          refine ⟨_, _, R32 _ ?_, hrun, hended, _, _, rfl, ?_, ⟨_, rfl⟩, hW, hsame.mono (by decide) (by decide)⟩
          · exact retN X28 hx (t := .boolean) Bd.returns (by simp) (hb hby at_111) hr
          · show Q0 Z p0 p1 h0 n0 _ T28.heap _
            rw [e28]
            exact ⟨rfl, N28⟩
        ·
          rw [if_neg b2] at R29
          have R33 : ∀ t, Steps p.tables e below (T28.setTop (mkF m 96 #[.val (.int p0), .val (.int p1), .val (.ref r), .val (.ref b), .val (.int (if ((p0 &&& (255 : Int32)) &&& (40 : Int32)) = (40 : Int32) then (1 : Int32) else (0 : Int32))), .val (.int (if ((p0 &&& (255 : Int32)) &&& (20 : Int32)) = (20 : Int32) then (1 : Int32) else (0 : Int32))), .val (.int (p0 &&& (255 : Int32))), .val (.int (1 : Int32)), .val (.int (0 : Int32))] [(.int (1 : Int32)), (.int (if ((p0 &&& (255 : Int32)) &&& (40 : Int32)) = (40 : Int32) then (1 : Int32) else (0 : Int32)))])) t → Steps p.tables e below (s₁.setTop (entryFrame m #[(.int p0), (.int p1)] maxLocals)) t := by
            intro t k
            refine R29 t ?_
            show Steps p.tables e below (T28.setTop (mkF m 86 #[.val (.int p0), .val (.int p1), .val (.ref r), .val (.ref b), .val (.int (if ((p0 &&& (255 : Int32)) &&& (40 : Int32)) = (40 : Int32) then (1 : Int32) else (0 : Int32))), .val (.int (if ((p0 &&& (255 : Int32)) &&& (20 : Int32)) = (20 : Int32) then (1 : Int32) else (0 : Int32))), .val (.int (p0 &&& (255 : Int32))), .val (.int (1 : Int32)), .val (.int (0 : Int32))] [(.int (0 : Int32))])) _
            refine XS.ifYes X28.here hx rfl (pc0 := 86) (pc' := 92) rfl (hb hby at_86) rfl ((if0 _ _).trans (teq (by decide)).1) (by decide) (by decide) ?_
            show Steps p.tables e below (T28.setTop (mkF m 92 #[.val (.int p0), .val (.int p1), .val (.ref r), .val (.ref b), .val (.int (if ((p0 &&& (255 : Int32)) &&& (40 : Int32)) = (40 : Int32) then (1 : Int32) else (0 : Int32))), .val (.int (if ((p0 &&& (255 : Int32)) &&& (20 : Int32)) = (20 : Int32) then (1 : Int32) else (0 : Int32))), .val (.int (p0 &&& (255 : Int32))), .val (.int (1 : Int32)), .val (.int (0 : Int32))] [])) _
            refine XS.iload X28.here hx rfl (hb hby at_92) rfl ?_
            show Steps p.tables e below (T28.setTop (mkF m 94 #[.val (.int p0), .val (.int p1), .val (.ref r), .val (.ref b), .val (.int (if ((p0 &&& (255 : Int32)) &&& (40 : Int32)) = (40 : Int32) then (1 : Int32) else (0 : Int32))), .val (.int (if ((p0 &&& (255 : Int32)) &&& (20 : Int32)) = (20 : Int32) then (1 : Int32) else (0 : Int32))), .val (.int (p0 &&& (255 : Int32))), .val (.int (1 : Int32)), .val (.int (0 : Int32))] [(.int (if ((p0 &&& (255 : Int32)) &&& (40 : Int32)) = (40 : Int32) then (1 : Int32) else (0 : Int32)))])) _
            refine XS.iload X28.here hx rfl (hb hby at_94) rfl ?_
            exact k
          have hd : (if ((p0 &&& (255 : Int32)) &&& (40 : Int32)) = (40 : Int32) then (1 : Int32) else (0 : Int32)) = (1 : Int32) := by
            first | exact if_pos (own_dom _ b5 b3) | exact if_neg fun q => b5 (own_dom5 _ q) | exact if_neg fun q => b3 (own_dom3 _ q)
          have R34 : ∀ t, Steps p.tables e below (T28.setTop (mkF m 103 #[.val (.int p0), .val (.int p1), .val (.ref r), .val (.ref b), .val (.int (if ((p0 &&& (255 : Int32)) &&& (40 : Int32)) = (40 : Int32) then (1 : Int32) else (0 : Int32))), .val (.int (if ((p0 &&& (255 : Int32)) &&& (20 : Int32)) = (20 : Int32) then (1 : Int32) else (0 : Int32))), .val (.int (p0 &&& (255 : Int32))), .val (.int (1 : Int32)), .val (.int (0 : Int32))] [(.int (0 : Int32)), (.int (if ((p0 &&& (255 : Int32)) &&& (20 : Int32)) = (20 : Int32) then (1 : Int32) else (0 : Int32)))])) t → Steps p.tables e below (s₁.setTop (entryFrame m #[(.int p0), (.int p1)] maxLocals)) t := by
            intro t k
            refine R33 t ?_
            show Steps p.tables e below (T28.setTop (mkF m 96 #[.val (.int p0), .val (.int p1), .val (.ref r), .val (.ref b), .val (.int (if ((p0 &&& (255 : Int32)) &&& (40 : Int32)) = (40 : Int32) then (1 : Int32) else (0 : Int32))), .val (.int (if ((p0 &&& (255 : Int32)) &&& (20 : Int32)) = (20 : Int32) then (1 : Int32) else (0 : Int32))), .val (.int (p0 &&& (255 : Int32))), .val (.int (1 : Int32)), .val (.int (0 : Int32))] [(.int (1 : Int32)), (.int (if ((p0 &&& (255 : Int32)) &&& (40 : Int32)) = (40 : Int32) then (1 : Int32) else (0 : Int32)))])) _
            refine XS.icmpNo X28.here hx rfl (hb hby at_96) rfl (teq hd).2 ?_
            show Steps p.tables e below (T28.setTop (mkF m 99 #[.val (.int p0), .val (.int p1), .val (.ref r), .val (.ref b), .val (.int (if ((p0 &&& (255 : Int32)) &&& (40 : Int32)) = (40 : Int32) then (1 : Int32) else (0 : Int32))), .val (.int (if ((p0 &&& (255 : Int32)) &&& (20 : Int32)) = (20 : Int32) then (1 : Int32) else (0 : Int32))), .val (.int (p0 &&& (255 : Int32))), .val (.int (1 : Int32)), .val (.int (0 : Int32))] [])) _
            refine XS.iload X28.here hx rfl (hb hby at_99) rfl ?_
            show Steps p.tables e below (T28.setTop (mkF m 101 #[.val (.int p0), .val (.int p1), .val (.ref r), .val (.ref b), .val (.int (if ((p0 &&& (255 : Int32)) &&& (40 : Int32)) = (40 : Int32) then (1 : Int32) else (0 : Int32))), .val (.int (if ((p0 &&& (255 : Int32)) &&& (20 : Int32)) = (20 : Int32) then (1 : Int32) else (0 : Int32))), .val (.int (p0 &&& (255 : Int32))), .val (.int (1 : Int32)), .val (.int (0 : Int32))] [(.int (if ((p0 &&& (255 : Int32)) &&& (20 : Int32)) = (20 : Int32) then (1 : Int32) else (0 : Int32)))])) _
            refine XS.iload X28.here hx rfl (hb hby at_101) rfl ?_
            exact k
          have hi : (if ((p0 &&& (255 : Int32)) &&& (20 : Int32)) = (20 : Int32) then (1 : Int32) else (0 : Int32)) = (0 : Int32) := by
            first | exact if_pos (own_int _ b4 b2) | exact if_neg fun q => b4 (own_int4 _ q) | exact if_neg fun q => b2 (own_int2 _ q)
          have R35 : ∀ t, Steps p.tables e below (T28.setTop (mkF m 111 #[.val (.int p0), .val (.int p1), .val (.ref r), .val (.ref b), .val (.int (if ((p0 &&& (255 : Int32)) &&& (40 : Int32)) = (40 : Int32) then (1 : Int32) else (0 : Int32))), .val (.int (if ((p0 &&& (255 : Int32)) &&& (20 : Int32)) = (20 : Int32) then (1 : Int32) else (0 : Int32))), .val (.int (p0 &&& (255 : Int32))), .val (.int (1 : Int32)), .val (.int (0 : Int32))] [(.int (1 : Int32))])) t → Steps p.tables e below (s₁.setTop (entryFrame m #[(.int p0), (.int p1)] maxLocals)) t := by
            intro t k
            refine R34 t ?_
            show Steps p.tables e below (T28.setTop (mkF m 103 #[.val (.int p0), .val (.int p1), .val (.ref r), .val (.ref b), .val (.int (if ((p0 &&& (255 : Int32)) &&& (40 : Int32)) = (40 : Int32) then (1 : Int32) else (0 : Int32))), .val (.int (if ((p0 &&& (255 : Int32)) &&& (20 : Int32)) = (20 : Int32) then (1 : Int32) else (0 : Int32))), .val (.int (p0 &&& (255 : Int32))), .val (.int (1 : Int32)), .val (.int (0 : Int32))] [(.int (0 : Int32)), (.int (if ((p0 &&& (255 : Int32)) &&& (20 : Int32)) = (20 : Int32) then (1 : Int32) else (0 : Int32)))])) _
            refine XS.icmpNo X28.here hx rfl (hb hby at_103) rfl (teq hi).2 ?_
            show Steps p.tables e below (T28.setTop (mkF m 106 #[.val (.int p0), .val (.int p1), .val (.ref r), .val (.ref b), .val (.int (if ((p0 &&& (255 : Int32)) &&& (40 : Int32)) = (40 : Int32) then (1 : Int32) else (0 : Int32))), .val (.int (if ((p0 &&& (255 : Int32)) &&& (20 : Int32)) = (20 : Int32) then (1 : Int32) else (0 : Int32))), .val (.int (p0 &&& (255 : Int32))), .val (.int (1 : Int32)), .val (.int (0 : Int32))] [])) _
            refine XS.iconst X28.here hx rfl (hb hby at_106) ?_
            show Steps p.tables e below (T28.setTop (mkF m 107 #[.val (.int p0), .val (.int p1), .val (.ref r), .val (.ref b), .val (.int (if ((p0 &&& (255 : Int32)) &&& (40 : Int32)) = (40 : Int32) then (1 : Int32) else (0 : Int32))), .val (.int (if ((p0 &&& (255 : Int32)) &&& (20 : Int32)) = (20 : Int32) then (1 : Int32) else (0 : Int32))), .val (.int (p0 &&& (255 : Int32))), .val (.int (1 : Int32)), .val (.int (0 : Int32))] [(.int (1 : Int32))])) _
            refine XS.goto X28.here hx rfl (pc0 := 107) (pc' := 111) rfl (hb hby at_107) (by decide) (by decide) ?_
            exact k
          obtain ⟨fs, hr, hrun, hended, hW, hsame⟩ := X28.leave (v := some (.int (1 : Int32))) (fun h => by rw [Bd.returns] at h; cases h)
          refine ⟨_, _, R35 _ ?_, hrun, hended, _, _, rfl, ?_, ⟨_, rfl⟩, hW, hsame.mono (by decide) (by decide)⟩
          · exact retN X28 hx (t := .boolean) Bd.returns (by simp) (hb hby at_111) hr
          · show Q0 Z p0 p1 h0 n0 _ T28.heap _
            rw [e28]
            exact ⟨rfl, N28⟩
      ·
        rw [if_neg b4] at R26
        have R36 : ∀ t, Steps p.tables e below (T25.setTop (mkF m 96 #[.val (.int p0), .val (.int p1), .val (.ref r), .val (.ref b), .val (.int (if ((p0 &&& (255 : Int32)) &&& (40 : Int32)) = (40 : Int32) then (1 : Int32) else (0 : Int32))), .val (.int (if ((p0 &&& (255 : Int32)) &&& (20 : Int32)) = (20 : Int32) then (1 : Int32) else (0 : Int32))), .val (.int (p0 &&& (255 : Int32))), .val (.int (1 : Int32)), .val (.int (0 : Int32))] [(.int (1 : Int32)), (.int (if ((p0 &&& (255 : Int32)) &&& (40 : Int32)) = (40 : Int32) then (1 : Int32) else (0 : Int32)))])) t → Steps p.tables e below (s₁.setTop (entryFrame m #[(.int p0), (.int p1)] maxLocals)) t := by
          intro t k
          refine R26 t ?_
          show Steps p.tables e below (T25.setTop (mkF m 77 #[.val (.int p0), .val (.int p1), .val (.ref r), .val (.ref b), .val (.int (if ((p0 &&& (255 : Int32)) &&& (40 : Int32)) = (40 : Int32) then (1 : Int32) else (0 : Int32))), .val (.int (if ((p0 &&& (255 : Int32)) &&& (20 : Int32)) = (20 : Int32) then (1 : Int32) else (0 : Int32))), .val (.int (p0 &&& (255 : Int32))), .val (.int (1 : Int32)), .val (.int (0 : Int32))] [(.int (0 : Int32))])) _
          refine XS.ifYes X25.here hx rfl (pc0 := 77) (pc' := 92) rfl (hb hby at_77) rfl ((if0 _ _).trans (teq (by decide)).1) (by decide) (by decide) ?_
          show Steps p.tables e below (T25.setTop (mkF m 92 #[.val (.int p0), .val (.int p1), .val (.ref r), .val (.ref b), .val (.int (if ((p0 &&& (255 : Int32)) &&& (40 : Int32)) = (40 : Int32) then (1 : Int32) else (0 : Int32))), .val (.int (if ((p0 &&& (255 : Int32)) &&& (20 : Int32)) = (20 : Int32) then (1 : Int32) else (0 : Int32))), .val (.int (p0 &&& (255 : Int32))), .val (.int (1 : Int32)), .val (.int (0 : Int32))] [])) _
          refine XS.iload X25.here hx rfl (hb hby at_92) rfl ?_
          show Steps p.tables e below (T25.setTop (mkF m 94 #[.val (.int p0), .val (.int p1), .val (.ref r), .val (.ref b), .val (.int (if ((p0 &&& (255 : Int32)) &&& (40 : Int32)) = (40 : Int32) then (1 : Int32) else (0 : Int32))), .val (.int (if ((p0 &&& (255 : Int32)) &&& (20 : Int32)) = (20 : Int32) then (1 : Int32) else (0 : Int32))), .val (.int (p0 &&& (255 : Int32))), .val (.int (1 : Int32)), .val (.int (0 : Int32))] [(.int (if ((p0 &&& (255 : Int32)) &&& (40 : Int32)) = (40 : Int32) then (1 : Int32) else (0 : Int32)))])) _
          refine XS.iload X25.here hx rfl (hb hby at_94) rfl ?_
          exact k
        have hd : (if ((p0 &&& (255 : Int32)) &&& (40 : Int32)) = (40 : Int32) then (1 : Int32) else (0 : Int32)) = (1 : Int32) := by
          first | exact if_pos (own_dom _ b5 b3) | exact if_neg fun q => b5 (own_dom5 _ q) | exact if_neg fun q => b3 (own_dom3 _ q)
        have R37 : ∀ t, Steps p.tables e below (T25.setTop (mkF m 103 #[.val (.int p0), .val (.int p1), .val (.ref r), .val (.ref b), .val (.int (if ((p0 &&& (255 : Int32)) &&& (40 : Int32)) = (40 : Int32) then (1 : Int32) else (0 : Int32))), .val (.int (if ((p0 &&& (255 : Int32)) &&& (20 : Int32)) = (20 : Int32) then (1 : Int32) else (0 : Int32))), .val (.int (p0 &&& (255 : Int32))), .val (.int (1 : Int32)), .val (.int (0 : Int32))] [(.int (0 : Int32)), (.int (if ((p0 &&& (255 : Int32)) &&& (20 : Int32)) = (20 : Int32) then (1 : Int32) else (0 : Int32)))])) t → Steps p.tables e below (s₁.setTop (entryFrame m #[(.int p0), (.int p1)] maxLocals)) t := by
          intro t k
          refine R36 t ?_
          show Steps p.tables e below (T25.setTop (mkF m 96 #[.val (.int p0), .val (.int p1), .val (.ref r), .val (.ref b), .val (.int (if ((p0 &&& (255 : Int32)) &&& (40 : Int32)) = (40 : Int32) then (1 : Int32) else (0 : Int32))), .val (.int (if ((p0 &&& (255 : Int32)) &&& (20 : Int32)) = (20 : Int32) then (1 : Int32) else (0 : Int32))), .val (.int (p0 &&& (255 : Int32))), .val (.int (1 : Int32)), .val (.int (0 : Int32))] [(.int (1 : Int32)), (.int (if ((p0 &&& (255 : Int32)) &&& (40 : Int32)) = (40 : Int32) then (1 : Int32) else (0 : Int32)))])) _
          refine XS.icmpNo X25.here hx rfl (hb hby at_96) rfl (teq hd).2 ?_
          show Steps p.tables e below (T25.setTop (mkF m 99 #[.val (.int p0), .val (.int p1), .val (.ref r), .val (.ref b), .val (.int (if ((p0 &&& (255 : Int32)) &&& (40 : Int32)) = (40 : Int32) then (1 : Int32) else (0 : Int32))), .val (.int (if ((p0 &&& (255 : Int32)) &&& (20 : Int32)) = (20 : Int32) then (1 : Int32) else (0 : Int32))), .val (.int (p0 &&& (255 : Int32))), .val (.int (1 : Int32)), .val (.int (0 : Int32))] [])) _
          refine XS.iload X25.here hx rfl (hb hby at_99) rfl ?_
          show Steps p.tables e below (T25.setTop (mkF m 101 #[.val (.int p0), .val (.int p1), .val (.ref r), .val (.ref b), .val (.int (if ((p0 &&& (255 : Int32)) &&& (40 : Int32)) = (40 : Int32) then (1 : Int32) else (0 : Int32))), .val (.int (if ((p0 &&& (255 : Int32)) &&& (20 : Int32)) = (20 : Int32) then (1 : Int32) else (0 : Int32))), .val (.int (p0 &&& (255 : Int32))), .val (.int (1 : Int32)), .val (.int (0 : Int32))] [(.int (if ((p0 &&& (255 : Int32)) &&& (20 : Int32)) = (20 : Int32) then (1 : Int32) else (0 : Int32)))])) _
          refine XS.iload X25.here hx rfl (hb hby at_101) rfl ?_
          exact k
        have hi : (if ((p0 &&& (255 : Int32)) &&& (20 : Int32)) = (20 : Int32) then (1 : Int32) else (0 : Int32)) = (0 : Int32) := by
          first | exact if_pos (own_int _ b4 b2) | exact if_neg fun q => b4 (own_int4 _ q) | exact if_neg fun q => b2 (own_int2 _ q)
        have R38 : ∀ t, Steps p.tables e below (T25.setTop (mkF m 111 #[.val (.int p0), .val (.int p1), .val (.ref r), .val (.ref b), .val (.int (if ((p0 &&& (255 : Int32)) &&& (40 : Int32)) = (40 : Int32) then (1 : Int32) else (0 : Int32))), .val (.int (if ((p0 &&& (255 : Int32)) &&& (20 : Int32)) = (20 : Int32) then (1 : Int32) else (0 : Int32))), .val (.int (p0 &&& (255 : Int32))), .val (.int (1 : Int32)), .val (.int (0 : Int32))] [(.int (1 : Int32))])) t → Steps p.tables e below (s₁.setTop (entryFrame m #[(.int p0), (.int p1)] maxLocals)) t := by
          intro t k
          refine R37 t ?_
          show Steps p.tables e below (T25.setTop (mkF m 103 #[.val (.int p0), .val (.int p1), .val (.ref r), .val (.ref b), .val (.int (if ((p0 &&& (255 : Int32)) &&& (40 : Int32)) = (40 : Int32) then (1 : Int32) else (0 : Int32))), .val (.int (if ((p0 &&& (255 : Int32)) &&& (20 : Int32)) = (20 : Int32) then (1 : Int32) else (0 : Int32))), .val (.int (p0 &&& (255 : Int32))), .val (.int (1 : Int32)), .val (.int (0 : Int32))] [(.int (0 : Int32)), (.int (if ((p0 &&& (255 : Int32)) &&& (20 : Int32)) = (20 : Int32) then (1 : Int32) else (0 : Int32)))])) _
          refine XS.icmpNo X25.here hx rfl (hb hby at_103) rfl (teq hi).2 ?_
          show Steps p.tables e below (T25.setTop (mkF m 106 #[.val (.int p0), .val (.int p1), .val (.ref r), .val (.ref b), .val (.int (if ((p0 &&& (255 : Int32)) &&& (40 : Int32)) = (40 : Int32) then (1 : Int32) else (0 : Int32))), .val (.int (if ((p0 &&& (255 : Int32)) &&& (20 : Int32)) = (20 : Int32) then (1 : Int32) else (0 : Int32))), .val (.int (p0 &&& (255 : Int32))), .val (.int (1 : Int32)), .val (.int (0 : Int32))] [])) _
          refine XS.iconst X25.here hx rfl (hb hby at_106) ?_
          show Steps p.tables e below (T25.setTop (mkF m 107 #[.val (.int p0), .val (.int p1), .val (.ref r), .val (.ref b), .val (.int (if ((p0 &&& (255 : Int32)) &&& (40 : Int32)) = (40 : Int32) then (1 : Int32) else (0 : Int32))), .val (.int (if ((p0 &&& (255 : Int32)) &&& (20 : Int32)) = (20 : Int32) then (1 : Int32) else (0 : Int32))), .val (.int (p0 &&& (255 : Int32))), .val (.int (1 : Int32)), .val (.int (0 : Int32))] [(.int (1 : Int32))])) _
          refine XS.goto X25.here hx rfl (pc0 := 107) (pc' := 111) rfl (hb hby at_107) (by decide) (by decide) ?_
          exact k
        obtain ⟨fs, hr, hrun, hended, hW, hsame⟩ := X25.leave (v := some (.int (1 : Int32))) (fun h => by rw [Bd.returns] at h; cases h)
        refine ⟨_, _, R38 _ ?_, hrun, hended, _, _, rfl, ?_, ⟨_, rfl⟩, hW, hsame.mono (by decide) (by decide)⟩
        · exact retN X25 hx (t := .boolean) Bd.returns (by simp) (hb hby at_111) hr
        · show Q0 Z p0 p1 h0 n0 _ T25.heap _
          rw [e25]
          exact ⟨rfl, N25⟩
    ·
      rw [if_neg b3] at R23
      have R39 : ∀ t, Steps p.tables e below (T22.setTop (mkF m 74 #[.val (.int p0), .val (.int p1), .val (.ref r), .val (.ref b), .val (.int (if ((p0 &&& (255 : Int32)) &&& (40 : Int32)) = (40 : Int32) then (1 : Int32) else (0 : Int32))), .val (.int (if ((p0 &&& (255 : Int32)) &&& (20 : Int32)) = (20 : Int32) then (1 : Int32) else (0 : Int32))), .val (.int (p0 &&& (255 : Int32))), .val (.int (0 : Int32)), .val (.int (0 : Int32))] [(.int (4 : Int32)), (.int (p0 &&& (255 : Int32)))])) t → Steps p.tables e below (s₁.setTop (entryFrame m #[(.int p0), (.int p1)] maxLocals)) t := by
        intro t k
        refine R23 t ?_
        show Steps p.tables e below (T22.setTop (mkF m 62 #[.val (.int p0), .val (.int p1), .val (.ref r), .val (.ref b), .val (.int (if ((p0 &&& (255 : Int32)) &&& (40 : Int32)) = (40 : Int32) then (1 : Int32) else (0 : Int32))), .val (.int (if ((p0 &&& (255 : Int32)) &&& (20 : Int32)) = (20 : Int32) then (1 : Int32) else (0 : Int32))), .val (.int (p0 &&& (255 : Int32))), .val (.int (0 : Int32)), .unset] [(.int (0 : Int32))])) _
        refine XS.ifYes X22.here hx rfl (pc0 := 62) (pc' := 68) rfl (hb hby at_62) rfl ((if0 _ _).trans (teq (by decide)).1) (by decide) (by decide) ?_
        show Steps p.tables e below (T22.setTop (mkF m 68 #[.val (.int p0), .val (.int p1), .val (.ref r), .val (.ref b), .val (.int (if ((p0 &&& (255 : Int32)) &&& (40 : Int32)) = (40 : Int32) then (1 : Int32) else (0 : Int32))), .val (.int (if ((p0 &&& (255 : Int32)) &&& (20 : Int32)) = (20 : Int32) then (1 : Int32) else (0 : Int32))), .val (.int (p0 &&& (255 : Int32))), .val (.int (0 : Int32)), .unset] [])) _
        refine XS.iconst X22.here hx rfl (hb hby at_68) ?_
        show Steps p.tables e below (T22.setTop (mkF m 69 #[.val (.int p0), .val (.int p1), .val (.ref r), .val (.ref b), .val (.int (if ((p0 &&& (255 : Int32)) &&& (40 : Int32)) = (40 : Int32) then (1 : Int32) else (0 : Int32))), .val (.int (if ((p0 &&& (255 : Int32)) &&& (20 : Int32)) = (20 : Int32) then (1 : Int32) else (0 : Int32))), .val (.int (p0 &&& (255 : Int32))), .val (.int (0 : Int32)), .unset] [(.int (0 : Int32))])) _
        refine XS.istore X22.here hx rfl (hb hby at_69) rfl (l' := #[.val (.int p0), .val (.int p1), .val (.ref r), .val (.ref b), .val (.int (if ((p0 &&& (255 : Int32)) &&& (40 : Int32)) = (40 : Int32) then (1 : Int32) else (0 : Int32))), .val (.int (if ((p0 &&& (255 : Int32)) &&& (20 : Int32)) = (20 : Int32) then (1 : Int32) else (0 : Int32))), .val (.int (p0 &&& (255 : Int32))), .val (.int (0 : Int32)), .val (.int (0 : Int32))]) rfl ?_
        show Steps p.tables e below (T22.setTop (mkF m 71 #[.val (.int p0), .val (.int p1), .val (.ref r), .val (.ref b), .val (.int (if ((p0 &&& (255 : Int32)) &&& (40 : Int32)) = (40 : Int32) then (1 : Int32) else (0 : Int32))), .val (.int (if ((p0 &&& (255 : Int32)) &&& (20 : Int32)) = (20 : Int32) then (1 : Int32) else (0 : Int32))), .val (.int (p0 &&& (255 : Int32))), .val (.int (0 : Int32)), .val (.int (0 : Int32))] [])) _
        refine XS.iload X22.here hx rfl (hb hby at_71) rfl ?_
        show Steps p.tables e below (T22.setTop (mkF m 73 #[.val (.int p0), .val (.int p1), .val (.ref r), .val (.ref b), .val (.int (if ((p0 &&& (255 : Int32)) &&& (40 : Int32)) = (40 : Int32) then (1 : Int32) else (0 : Int32))), .val (.int (if ((p0 &&& (255 : Int32)) &&& (20 : Int32)) = (20 : Int32) then (1 : Int32) else (0 : Int32))), .val (.int (p0 &&& (255 : Int32))), .val (.int (0 : Int32)), .val (.int (0 : Int32))] [(.int (p0 &&& (255 : Int32)))])) _
        refine XS.iconst X22.here hx rfl (hb hby at_73) ?_
        exact k
      obtain ⟨_, _, ⟨T40, L40, k40, n40⟩, -, X40, ⟨Lc40, hQ40, l40, y40, z40⟩, st40⟩ := Jvm.LawKit.callS X22 hx (y := (⟨"com/example/tapline/reader/ApplicationUsageControlAllowsPurchasePinLaw", "bit", "(II)Z"⟩ : MethodName)) hown (mvT hZ (hw _ (List.mem_of_getElem? (i := 17) rfl))) (mvT hZ (hw _ (List.mem_of_getElem? (i := 18) rfl))) (mvT hZ (hw _ (List.mem_of_getElem? (i := 19) rfl))) (mvT hZ (hw _ (List.mem_of_getElem? (i := 20) rfl))) (by decide) (backOf (W := 0) (rm4 l Z a0 hw [] (p0 &&& (255 : Int32)) (4 : Int32) T12.heap n0 Sz12) hZ (hw _ (List.mem_of_getElem? (i := 20) rfl)) (hw _ (List.mem_of_getElem? (i := 19) rfl)) (by decide) (by decide)) (g := (mkF m 74 #[.val (.int p0), .val (.int p1), .val (.ref r), .val (.ref b), .val (.int (if ((p0 &&& (255 : Int32)) &&& (40 : Int32)) = (40 : Int32) then (1 : Int32) else (0 : Int32))), .val (.int (if ((p0 &&& (255 : Int32)) &&& (20 : Int32)) = (20 : Int32) then (1 : Int32) else (0 : Int32))), .val (.int (p0 &&& (255 : Int32))), .val (.int (0 : Int32)), .val (.int (0 : Int32))] [(.int (4 : Int32)), (.int (p0 &&& (255 : Int32)))])) rfl (by rw [hml]; rfl) (argsL := [(.int (p0 &&& (255 : Int32))), (.int (4 : Int32))]) (rest := []) (lenOf pd_2 rfl) rfl (by show 2 * 0 + _ ≤ _; exact Nat.le_of_eq rfl) (hb hby at_74) (fun _ _ => ⟨rfl, e22, (by decide : 2 + 0 ≤ _), (by decide : 3 + 0 ≤ _)⟩)
      dsimp only [Pt.U, Pt.locs, Pt.cells, Pt.slots] at X40 l40 y40 z40 st40 hQ40
      subst l40 y40 z40
      obtain ⟨rfl, Nq40, eq40⟩ := hQ40
      have N40 := Fr.app N22 Nq40
      have e40 : T40.heap = T12.heap := eq40
      have R41 : ∀ t, Steps p.tables e below (T40.setTop (mkF m 77 #[.val (.int p0), .val (.int p1), .val (.ref r), .val (.ref b), .val (.int (if ((p0 &&& (255 : Int32)) &&& (40 : Int32)) = (40 : Int32) then (1 : Int32) else (0 : Int32))), .val (.int (if ((p0 &&& (255 : Int32)) &&& (20 : Int32)) = (20 : Int32) then (1 : Int32) else (0 : Int32))), .val (.int (p0 &&& (255 : Int32))), .val (.int (0 : Int32)), .val (.int (0 : Int32))] [(.int (if (((p0 &&& (255 : Int32)) >>> ((4 : Int32) &&& 31)) &&& (1 : Int32)) = (1 : Int32) then (1 : Int32) else (0 : Int32)))])) t → Steps p.tables e below (s₁.setTop (entryFrame m #[(.int p0), (.int p1)] maxLocals)) t := by
        intro t k
        refine R39 t ?_
        show Steps p.tables e below (T22.setTop (mkF m 74 #[.val (.int p0), .val (.int p1), .val (.ref r), .val (.ref b), .val (.int (if ((p0 &&& (255 : Int32)) &&& (40 : Int32)) = (40 : Int32) then (1 : Int32) else (0 : Int32))), .val (.int (if ((p0 &&& (255 : Int32)) &&& (20 : Int32)) = (20 : Int32) then (1 : Int32) else (0 : Int32))), .val (.int (p0 &&& (255 : Int32))), .val (.int (0 : Int32)), .val (.int (0 : Int32))] [(.int (4 : Int32)), (.int (p0 &&& (255 : Int32)))])) _
        refine st40 _ ?_
        exact k
      by_cases b4 : (((p0 &&& (255 : Int32)) >>> ((4 : Int32) &&& 31)) &&& (1 : Int32)) = (1 : Int32)
      ·
        rw [if_pos b4] at R41
        have R42 : ∀ t, Steps p.tables e below (T40.setTop (mkF m 83 #[.val (.int p0), .val (.int p1), .val (.ref r), .val (.ref b), .val (.int (if ((p0 &&& (255 : Int32)) &&& (40 : Int32)) = (40 : Int32) then (1 : Int32) else (0 : Int32))), .val (.int (if ((p0 &&& (255 : Int32)) &&& (20 : Int32)) = (20 : Int32) then (1 : Int32) else (0 : Int32))), .val (.int (p0 &&& (255 : Int32))), .val (.int (0 : Int32)), .val (.int (0 : Int32))] [(.int (2 : Int32)), (.int (p0 &&& (255 : Int32)))])) t → Steps p.tables e below (s₁.setTop (entryFrame m #[(.int p0), (.int p1)] maxLocals)) t := by
          intro t k
          refine R41 t ?_
          show Steps p.tables e below (T40.setTop (mkF m 77 #[.val (.int p0), .val (.int p1), .val (.ref r), .val (.ref b), .val (.int (if ((p0 &&& (255 : Int32)) &&& (40 : Int32)) = (40 : Int32) then (1 : Int32) else (0 : Int32))), .val (.int (if ((p0 &&& (255 : Int32)) &&& (20 : Int32)) = (20 : Int32) then (1 : Int32) else (0 : Int32))), .val (.int (p0 &&& (255 : Int32))), .val (.int (0 : Int32)), .val (.int (0 : Int32))] [(.int (1 : Int32))])) _
          refine XS.ifNo X40.here hx rfl (hb hby at_77) rfl ((if0 _ _).trans (feq (by decide)).1) ?_
          show Steps p.tables e below (T40.setTop (mkF m 80 #[.val (.int p0), .val (.int p1), .val (.ref r), .val (.ref b), .val (.int (if ((p0 &&& (255 : Int32)) &&& (40 : Int32)) = (40 : Int32) then (1 : Int32) else (0 : Int32))), .val (.int (if ((p0 &&& (255 : Int32)) &&& (20 : Int32)) = (20 : Int32) then (1 : Int32) else (0 : Int32))), .val (.int (p0 &&& (255 : Int32))), .val (.int (0 : Int32)), .val (.int (0 : Int32))] [])) _
          refine XS.iload X40.here hx rfl (hb hby at_80) rfl ?_
          show Steps p.tables e below (T40.setTop (mkF m 82 #[.val (.int p0), .val (.int p1), .val (.ref r), .val (.ref b), .val (.int (if ((p0 &&& (255 : Int32)) &&& (40 : Int32)) = (40 : Int32) then (1 : Int32) else (0 : Int32))), .val (.int (if ((p0 &&& (255 : Int32)) &&& (20 : Int32)) = (20 : Int32) then (1 : Int32) else (0 : Int32))), .val (.int (p0 &&& (255 : Int32))), .val (.int (0 : Int32)), .val (.int (0 : Int32))] [(.int (p0 &&& (255 : Int32)))])) _
          refine XS.iconst X40.here hx rfl (hb hby at_82) ?_
          exact k
        obtain ⟨_, _, ⟨T43, L43, k43, n43⟩, -, X43, ⟨Lc43, hQ43, l43, y43, z43⟩, st43⟩ := Jvm.LawKit.callS X40 hx (y := (⟨"com/example/tapline/reader/ApplicationUsageControlAllowsPurchasePinLaw", "bit", "(II)Z"⟩ : MethodName)) hown (mvT hZ (hw _ (List.mem_of_getElem? (i := 17) rfl))) (mvT hZ (hw _ (List.mem_of_getElem? (i := 18) rfl))) (mvT hZ (hw _ (List.mem_of_getElem? (i := 19) rfl))) (mvT hZ (hw _ (List.mem_of_getElem? (i := 20) rfl))) (by decide) (backOf (W := 0) (rm4 l Z a0 hw [] (p0 &&& (255 : Int32)) (2 : Int32) T12.heap n0 Sz12) hZ (hw _ (List.mem_of_getElem? (i := 20) rfl)) (hw _ (List.mem_of_getElem? (i := 19) rfl)) (by decide) (by decide)) (g := (mkF m 83 #[.val (.int p0), .val (.int p1), .val (.ref r), .val (.ref b), .val (.int (if ((p0 &&& (255 : Int32)) &&& (40 : Int32)) = (40 : Int32) then (1 : Int32) else (0 : Int32))), .val (.int (if ((p0 &&& (255 : Int32)) &&& (20 : Int32)) = (20 : Int32) then (1 : Int32) else (0 : Int32))), .val (.int (p0 &&& (255 : Int32))), .val (.int (0 : Int32)), .val (.int (0 : Int32))] [(.int (2 : Int32)), (.int (p0 &&& (255 : Int32)))])) rfl (by rw [hml]; rfl) (argsL := [(.int (p0 &&& (255 : Int32))), (.int (2 : Int32))]) (rest := []) (lenOf pd_2 rfl) rfl (by show 2 * 0 + _ ≤ _; exact Nat.le_of_eq rfl) (hb hby at_83) (fun _ _ => ⟨rfl, e40, (by decide : 2 + 0 ≤ _), (by decide : 3 + 0 ≤ _)⟩)
        dsimp only [Pt.U, Pt.locs, Pt.cells, Pt.slots] at X43 l43 y43 z43 st43 hQ43
        subst l43 y43 z43
        obtain ⟨rfl, Nq43, eq43⟩ := hQ43
        have N43 := Fr.app N40 Nq43
        have e43 : T43.heap = T12.heap := eq43
        have R44 : ∀ t, Steps p.tables e below (T43.setTop (mkF m 86 #[.val (.int p0), .val (.int p1), .val (.ref r), .val (.ref b), .val (.int (if ((p0 &&& (255 : Int32)) &&& (40 : Int32)) = (40 : Int32) then (1 : Int32) else (0 : Int32))), .val (.int (if ((p0 &&& (255 : Int32)) &&& (20 : Int32)) = (20 : Int32) then (1 : Int32) else (0 : Int32))), .val (.int (p0 &&& (255 : Int32))), .val (.int (0 : Int32)), .val (.int (0 : Int32))] [(.int (if (((p0 &&& (255 : Int32)) >>> ((2 : Int32) &&& 31)) &&& (1 : Int32)) = (1 : Int32) then (1 : Int32) else (0 : Int32)))])) t → Steps p.tables e below (s₁.setTop (entryFrame m #[(.int p0), (.int p1)] maxLocals)) t := by
          intro t k
          refine R42 t ?_
          show Steps p.tables e below (T40.setTop (mkF m 83 #[.val (.int p0), .val (.int p1), .val (.ref r), .val (.ref b), .val (.int (if ((p0 &&& (255 : Int32)) &&& (40 : Int32)) = (40 : Int32) then (1 : Int32) else (0 : Int32))), .val (.int (if ((p0 &&& (255 : Int32)) &&& (20 : Int32)) = (20 : Int32) then (1 : Int32) else (0 : Int32))), .val (.int (p0 &&& (255 : Int32))), .val (.int (0 : Int32)), .val (.int (0 : Int32))] [(.int (2 : Int32)), (.int (p0 &&& (255 : Int32)))])) _
          refine st43 _ ?_
          exact k
        by_cases b2 : (((p0 &&& (255 : Int32)) >>> ((2 : Int32) &&& 31)) &&& (1 : Int32)) = (1 : Int32)
        ·
          rw [if_pos b2] at R44
          have R45 : ∀ t, Steps p.tables e below (T43.setTop (mkF m 96 #[.val (.int p0), .val (.int p1), .val (.ref r), .val (.ref b), .val (.int (if ((p0 &&& (255 : Int32)) &&& (40 : Int32)) = (40 : Int32) then (1 : Int32) else (0 : Int32))), .val (.int (if ((p0 &&& (255 : Int32)) &&& (20 : Int32)) = (20 : Int32) then (1 : Int32) else (0 : Int32))), .val (.int (p0 &&& (255 : Int32))), .val (.int (0 : Int32)), .val (.int (1 : Int32))] [(.int (0 : Int32)), (.int (if ((p0 &&& (255 : Int32)) &&& (40 : Int32)) = (40 : Int32) then (1 : Int32) else (0 : Int32)))])) t → Steps p.tables e below (s₁.setTop (entryFrame m #[(.int p0), (.int p1)] maxLocals)) t := by
            intro t k
            refine R44 t ?_
            show Steps p.tables e below (T43.setTop (mkF m 86 #[.val (.int p0), .val (.int p1), .val (.ref r), .val (.ref b), .val (.int (if ((p0 &&& (255 : Int32)) &&& (40 : Int32)) = (40 : Int32) then (1 : Int32) else (0 : Int32))), .val (.int (if ((p0 &&& (255 : Int32)) &&& (20 : Int32)) = (20 : Int32) then (1 : Int32) else (0 : Int32))), .val (.int (p0 &&& (255 : Int32))), .val (.int (0 : Int32)), .val (.int (0 : Int32))] [(.int (1 : Int32))])) _
            refine XS.ifNo X43.here hx rfl (hb hby at_86) rfl ((if0 _ _).trans (feq (by decide)).1) ?_
            show Steps p.tables e below (T43.setTop (mkF m 89 #[.val (.int p0), .val (.int p1), .val (.ref r), .val (.ref b), .val (.int (if ((p0 &&& (255 : Int32)) &&& (40 : Int32)) = (40 : Int32) then (1 : Int32) else (0 : Int32))), .val (.int (if ((p0 &&& (255 : Int32)) &&& (20 : Int32)) = (20 : Int32) then (1 : Int32) else (0 : Int32))), .val (.int (p0 &&& (255 : Int32))), .val (.int (0 : Int32)), .val (.int (0 : Int32))] [])) _
            refine XS.iconst X43.here hx rfl (hb hby at_89) ?_
            show Steps p.tables e below (T43.setTop (mkF m 90 #[.val (.int p0), .val (.int p1), .val (.ref r), .val (.ref b), .val (.int (if ((p0 &&& (255 : Int32)) &&& (40 : Int32)) = (40 : Int32) then (1 : Int32) else (0 : Int32))), .val (.int (if ((p0 &&& (255 : Int32)) &&& (20 : Int32)) = (20 : Int32) then (1 : Int32) else (0 : Int32))), .val (.int (p0 &&& (255 : Int32))), .val (.int (0 : Int32)), .val (.int (0 : Int32))] [(.int (1 : Int32))])) _
            refine XS.istore X43.here hx rfl (hb hby at_90) rfl (l' := #[.val (.int p0), .val (.int p1), .val (.ref r), .val (.ref b), .val (.int (if ((p0 &&& (255 : Int32)) &&& (40 : Int32)) = (40 : Int32) then (1 : Int32) else (0 : Int32))), .val (.int (if ((p0 &&& (255 : Int32)) &&& (20 : Int32)) = (20 : Int32) then (1 : Int32) else (0 : Int32))), .val (.int (p0 &&& (255 : Int32))), .val (.int (0 : Int32)), .val (.int (1 : Int32))]) rfl ?_
            show Steps p.tables e below (T43.setTop (mkF m 92 #[.val (.int p0), .val (.int p1), .val (.ref r), .val (.ref b), .val (.int (if ((p0 &&& (255 : Int32)) &&& (40 : Int32)) = (40 : Int32) then (1 : Int32) else (0 : Int32))), .val (.int (if ((p0 &&& (255 : Int32)) &&& (20 : Int32)) = (20 : Int32) then (1 : Int32) else (0 : Int32))), .val (.int (p0 &&& (255 : Int32))), .val (.int (0 : Int32)), .val (.int (1 : Int32))] [])) _
            refine XS.iload X43.here hx rfl (hb hby at_92) rfl ?_
            show Steps p.tables e below (T43.setTop (mkF m 94 #[.val (.int p0), .val (.int p1), .val (.ref r), .val (.ref b), .val (.int (if ((p0 &&& (255 : Int32)) &&& (40 : Int32)) = (40 : Int32) then (1 : Int32) else (0 : Int32))), .val (.int (if ((p0 &&& (255 : Int32)) &&& (20 : Int32)) = (20 : Int32) then (1 : Int32) else (0 : Int32))), .val (.int (p0 &&& (255 : Int32))), .val (.int (0 : Int32)), .val (.int (1 : Int32))] [(.int (if ((p0 &&& (255 : Int32)) &&& (40 : Int32)) = (40 : Int32) then (1 : Int32) else (0 : Int32)))])) _
            refine XS.iload X43.here hx rfl (hb hby at_94) rfl ?_
            exact k
          have hd : (if ((p0 &&& (255 : Int32)) &&& (40 : Int32)) = (40 : Int32) then (1 : Int32) else (0 : Int32)) = (0 : Int32) := by
            first | exact if_pos (own_dom _ b5 b3) | exact if_neg fun q => b5 (own_dom5 _ q) | exact if_neg fun q => b3 (own_dom3 _ q)
          have R46 : ∀ t, Steps p.tables e below (T43.setTop (mkF m 103 #[.val (.int p0), .val (.int p1), .val (.ref r), .val (.ref b), .val (.int (if ((p0 &&& (255 : Int32)) &&& (40 : Int32)) = (40 : Int32) then (1 : Int32) else (0 : Int32))), .val (.int (if ((p0 &&& (255 : Int32)) &&& (20 : Int32)) = (20 : Int32) then (1 : Int32) else (0 : Int32))), .val (.int (p0 &&& (255 : Int32))), .val (.int (0 : Int32)), .val (.int (1 : Int32))] [(.int (1 : Int32)), (.int (if ((p0 &&& (255 : Int32)) &&& (20 : Int32)) = (20 : Int32) then (1 : Int32) else (0 : Int32)))])) t → Steps p.tables e below (s₁.setTop (entryFrame m #[(.int p0), (.int p1)] maxLocals)) t := by
            intro t k
            refine R45 t ?_
            show Steps p.tables e below (T43.setTop (mkF m 96 #[.val (.int p0), .val (.int p1), .val (.ref r), .val (.ref b), .val (.int (if ((p0 &&& (255 : Int32)) &&& (40 : Int32)) = (40 : Int32) then (1 : Int32) else (0 : Int32))), .val (.int (if ((p0 &&& (255 : Int32)) &&& (20 : Int32)) = (20 : Int32) then (1 : Int32) else (0 : Int32))), .val (.int (p0 &&& (255 : Int32))), .val (.int (0 : Int32)), .val (.int (1 : Int32))] [(.int (0 : Int32)), (.int (if ((p0 &&& (255 : Int32)) &&& (40 : Int32)) = (40 : Int32) then (1 : Int32) else (0 : Int32)))])) _
            refine XS.icmpNo X43.here hx rfl (hb hby at_96) rfl (teq hd).2 ?_
            show Steps p.tables e below (T43.setTop (mkF m 99 #[.val (.int p0), .val (.int p1), .val (.ref r), .val (.ref b), .val (.int (if ((p0 &&& (255 : Int32)) &&& (40 : Int32)) = (40 : Int32) then (1 : Int32) else (0 : Int32))), .val (.int (if ((p0 &&& (255 : Int32)) &&& (20 : Int32)) = (20 : Int32) then (1 : Int32) else (0 : Int32))), .val (.int (p0 &&& (255 : Int32))), .val (.int (0 : Int32)), .val (.int (1 : Int32))] [])) _
            refine XS.iload X43.here hx rfl (hb hby at_99) rfl ?_
            show Steps p.tables e below (T43.setTop (mkF m 101 #[.val (.int p0), .val (.int p1), .val (.ref r), .val (.ref b), .val (.int (if ((p0 &&& (255 : Int32)) &&& (40 : Int32)) = (40 : Int32) then (1 : Int32) else (0 : Int32))), .val (.int (if ((p0 &&& (255 : Int32)) &&& (20 : Int32)) = (20 : Int32) then (1 : Int32) else (0 : Int32))), .val (.int (p0 &&& (255 : Int32))), .val (.int (0 : Int32)), .val (.int (1 : Int32))] [(.int (if ((p0 &&& (255 : Int32)) &&& (20 : Int32)) = (20 : Int32) then (1 : Int32) else (0 : Int32)))])) _
            refine XS.iload X43.here hx rfl (hb hby at_101) rfl ?_
            exact k
          have hi : (if ((p0 &&& (255 : Int32)) &&& (20 : Int32)) = (20 : Int32) then (1 : Int32) else (0 : Int32)) = (1 : Int32) := by
            first | exact if_pos (own_int _ b4 b2) | exact if_neg fun q => b4 (own_int4 _ q) | exact if_neg fun q => b2 (own_int2 _ q)
          have R47 : ∀ t, Steps p.tables e below (T43.setTop (mkF m 111 #[.val (.int p0), .val (.int p1), .val (.ref r), .val (.ref b), .val (.int (if ((p0 &&& (255 : Int32)) &&& (40 : Int32)) = (40 : Int32) then (1 : Int32) else (0 : Int32))), .val (.int (if ((p0 &&& (255 : Int32)) &&& (20 : Int32)) = (20 : Int32) then (1 : Int32) else (0 : Int32))), .val (.int (p0 &&& (255 : Int32))), .val (.int (0 : Int32)), .val (.int (1 : Int32))] [(.int (1 : Int32))])) t → Steps p.tables e below (s₁.setTop (entryFrame m #[(.int p0), (.int p1)] maxLocals)) t := by
            intro t k
            refine R46 t ?_
            show Steps p.tables e below (T43.setTop (mkF m 103 #[.val (.int p0), .val (.int p1), .val (.ref r), .val (.ref b), .val (.int (if ((p0 &&& (255 : Int32)) &&& (40 : Int32)) = (40 : Int32) then (1 : Int32) else (0 : Int32))), .val (.int (if ((p0 &&& (255 : Int32)) &&& (20 : Int32)) = (20 : Int32) then (1 : Int32) else (0 : Int32))), .val (.int (p0 &&& (255 : Int32))), .val (.int (0 : Int32)), .val (.int (1 : Int32))] [(.int (1 : Int32)), (.int (if ((p0 &&& (255 : Int32)) &&& (20 : Int32)) = (20 : Int32) then (1 : Int32) else (0 : Int32)))])) _
            refine XS.icmpNo X43.here hx rfl (hb hby at_103) rfl (teq hi).2 ?_
            show Steps p.tables e below (T43.setTop (mkF m 106 #[.val (.int p0), .val (.int p1), .val (.ref r), .val (.ref b), .val (.int (if ((p0 &&& (255 : Int32)) &&& (40 : Int32)) = (40 : Int32) then (1 : Int32) else (0 : Int32))), .val (.int (if ((p0 &&& (255 : Int32)) &&& (20 : Int32)) = (20 : Int32) then (1 : Int32) else (0 : Int32))), .val (.int (p0 &&& (255 : Int32))), .val (.int (0 : Int32)), .val (.int (1 : Int32))] [])) _
            refine XS.iconst X43.here hx rfl (hb hby at_106) ?_
            show Steps p.tables e below (T43.setTop (mkF m 107 #[.val (.int p0), .val (.int p1), .val (.ref r), .val (.ref b), .val (.int (if ((p0 &&& (255 : Int32)) &&& (40 : Int32)) = (40 : Int32) then (1 : Int32) else (0 : Int32))), .val (.int (if ((p0 &&& (255 : Int32)) &&& (20 : Int32)) = (20 : Int32) then (1 : Int32) else (0 : Int32))), .val (.int (p0 &&& (255 : Int32))), .val (.int (0 : Int32)), .val (.int (1 : Int32))] [(.int (1 : Int32))])) _
            refine XS.goto X43.here hx rfl (pc0 := 107) (pc' := 111) rfl (hb hby at_107) (by decide) (by decide) ?_
            exact k
          obtain ⟨fs, hr, hrun, hended, hW, hsame⟩ := X43.leave (v := some (.int (1 : Int32))) (fun h => by rw [Bd.returns] at h; cases h)
          refine ⟨_, _, R47 _ ?_, hrun, hended, _, _, rfl, ?_, ⟨_, rfl⟩, hW, hsame.mono (by decide) (by decide)⟩
          · exact retN X43 hx (t := .boolean) Bd.returns (by simp) (hb hby at_111) hr
          · show Q0 Z p0 p1 h0 n0 _ T43.heap _
            rw [e43]
            exact ⟨rfl, N43⟩
        ·
          rw [if_neg b2] at R44
          have R48 : ∀ t, Steps p.tables e below (T43.setTop (mkF m 96 #[.val (.int p0), .val (.int p1), .val (.ref r), .val (.ref b), .val (.int (if ((p0 &&& (255 : Int32)) &&& (40 : Int32)) = (40 : Int32) then (1 : Int32) else (0 : Int32))), .val (.int (if ((p0 &&& (255 : Int32)) &&& (20 : Int32)) = (20 : Int32) then (1 : Int32) else (0 : Int32))), .val (.int (p0 &&& (255 : Int32))), .val (.int (0 : Int32)), .val (.int (0 : Int32))] [(.int (0 : Int32)), (.int (if ((p0 &&& (255 : Int32)) &&& (40 : Int32)) = (40 : Int32) then (1 : Int32) else (0 : Int32)))])) t → Steps p.tables e below (s₁.setTop (entryFrame m #[(.int p0), (.int p1)] maxLocals)) t := by
            intro t k
            refine R44 t ?_
            show Steps p.tables e below (T43.setTop (mkF m 86 #[.val (.int p0), .val (.int p1), .val (.ref r), .val (.ref b), .val (.int (if ((p0 &&& (255 : Int32)) &&& (40 : Int32)) = (40 : Int32) then (1 : Int32) else (0 : Int32))), .val (.int (if ((p0 &&& (255 : Int32)) &&& (20 : Int32)) = (20 : Int32) then (1 : Int32) else (0 : Int32))), .val (.int (p0 &&& (255 : Int32))), .val (.int (0 : Int32)), .val (.int (0 : Int32))] [(.int (0 : Int32))])) _
            refine XS.ifYes X43.here hx rfl (pc0 := 86) (pc' := 92) rfl (hb hby at_86) rfl ((if0 _ _).trans (teq (by decide)).1) (by decide) (by decide) ?_
            show Steps p.tables e below (T43.setTop (mkF m 92 #[.val (.int p0), .val (.int p1), .val (.ref r), .val (.ref b), .val (.int (if ((p0 &&& (255 : Int32)) &&& (40 : Int32)) = (40 : Int32) then (1 : Int32) else (0 : Int32))), .val (.int (if ((p0 &&& (255 : Int32)) &&& (20 : Int32)) = (20 : Int32) then (1 : Int32) else (0 : Int32))), .val (.int (p0 &&& (255 : Int32))), .val (.int (0 : Int32)), .val (.int (0 : Int32))] [])) _
            refine XS.iload X43.here hx rfl (hb hby at_92) rfl ?_
            show Steps p.tables e below (T43.setTop (mkF m 94 #[.val (.int p0), .val (.int p1), .val (.ref r), .val (.ref b), .val (.int (if ((p0 &&& (255 : Int32)) &&& (40 : Int32)) = (40 : Int32) then (1 : Int32) else (0 : Int32))), .val (.int (if ((p0 &&& (255 : Int32)) &&& (20 : Int32)) = (20 : Int32) then (1 : Int32) else (0 : Int32))), .val (.int (p0 &&& (255 : Int32))), .val (.int (0 : Int32)), .val (.int (0 : Int32))] [(.int (if ((p0 &&& (255 : Int32)) &&& (40 : Int32)) = (40 : Int32) then (1 : Int32) else (0 : Int32)))])) _
            refine XS.iload X43.here hx rfl (hb hby at_94) rfl ?_
            exact k
          have hd : (if ((p0 &&& (255 : Int32)) &&& (40 : Int32)) = (40 : Int32) then (1 : Int32) else (0 : Int32)) = (0 : Int32) := by
            first | exact if_pos (own_dom _ b5 b3) | exact if_neg fun q => b5 (own_dom5 _ q) | exact if_neg fun q => b3 (own_dom3 _ q)
          have R49 : ∀ t, Steps p.tables e below (T43.setTop (mkF m 103 #[.val (.int p0), .val (.int p1), .val (.ref r), .val (.ref b), .val (.int (if ((p0 &&& (255 : Int32)) &&& (40 : Int32)) = (40 : Int32) then (1 : Int32) else (0 : Int32))), .val (.int (if ((p0 &&& (255 : Int32)) &&& (20 : Int32)) = (20 : Int32) then (1 : Int32) else (0 : Int32))), .val (.int (p0 &&& (255 : Int32))), .val (.int (0 : Int32)), .val (.int (0 : Int32))] [(.int (0 : Int32)), (.int (if ((p0 &&& (255 : Int32)) &&& (20 : Int32)) = (20 : Int32) then (1 : Int32) else (0 : Int32)))])) t → Steps p.tables e below (s₁.setTop (entryFrame m #[(.int p0), (.int p1)] maxLocals)) t := by
            intro t k
            refine R48 t ?_
            show Steps p.tables e below (T43.setTop (mkF m 96 #[.val (.int p0), .val (.int p1), .val (.ref r), .val (.ref b), .val (.int (if ((p0 &&& (255 : Int32)) &&& (40 : Int32)) = (40 : Int32) then (1 : Int32) else (0 : Int32))), .val (.int (if ((p0 &&& (255 : Int32)) &&& (20 : Int32)) = (20 : Int32) then (1 : Int32) else (0 : Int32))), .val (.int (p0 &&& (255 : Int32))), .val (.int (0 : Int32)), .val (.int (0 : Int32))] [(.int (0 : Int32)), (.int (if ((p0 &&& (255 : Int32)) &&& (40 : Int32)) = (40 : Int32) then (1 : Int32) else (0 : Int32)))])) _
            refine XS.icmpNo X43.here hx rfl (hb hby at_96) rfl (teq hd).2 ?_
            show Steps p.tables e below (T43.setTop (mkF m 99 #[.val (.int p0), .val (.int p1), .val (.ref r), .val (.ref b), .val (.int (if ((p0 &&& (255 : Int32)) &&& (40 : Int32)) = (40 : Int32) then (1 : Int32) else (0 : Int32))), .val (.int (if ((p0 &&& (255 : Int32)) &&& (20 : Int32)) = (20 : Int32) then (1 : Int32) else (0 : Int32))), .val (.int (p0 &&& (255 : Int32))), .val (.int (0 : Int32)), .val (.int (0 : Int32))] [])) _
            refine XS.iload X43.here hx rfl (hb hby at_99) rfl ?_
            show Steps p.tables e below (T43.setTop (mkF m 101 #[.val (.int p0), .val (.int p1), .val (.ref r), .val (.ref b), .val (.int (if ((p0 &&& (255 : Int32)) &&& (40 : Int32)) = (40 : Int32) then (1 : Int32) else (0 : Int32))), .val (.int (if ((p0 &&& (255 : Int32)) &&& (20 : Int32)) = (20 : Int32) then (1 : Int32) else (0 : Int32))), .val (.int (p0 &&& (255 : Int32))), .val (.int (0 : Int32)), .val (.int (0 : Int32))] [(.int (if ((p0 &&& (255 : Int32)) &&& (20 : Int32)) = (20 : Int32) then (1 : Int32) else (0 : Int32)))])) _
            refine XS.iload X43.here hx rfl (hb hby at_101) rfl ?_
            exact k
          have hi : (if ((p0 &&& (255 : Int32)) &&& (20 : Int32)) = (20 : Int32) then (1 : Int32) else (0 : Int32)) = (0 : Int32) := by
            first | exact if_pos (own_int _ b4 b2) | exact if_neg fun q => b4 (own_int4 _ q) | exact if_neg fun q => b2 (own_int2 _ q)
          have R50 : ∀ t, Steps p.tables e below (T43.setTop (mkF m 111 #[.val (.int p0), .val (.int p1), .val (.ref r), .val (.ref b), .val (.int (if ((p0 &&& (255 : Int32)) &&& (40 : Int32)) = (40 : Int32) then (1 : Int32) else (0 : Int32))), .val (.int (if ((p0 &&& (255 : Int32)) &&& (20 : Int32)) = (20 : Int32) then (1 : Int32) else (0 : Int32))), .val (.int (p0 &&& (255 : Int32))), .val (.int (0 : Int32)), .val (.int (0 : Int32))] [(.int (1 : Int32))])) t → Steps p.tables e below (s₁.setTop (entryFrame m #[(.int p0), (.int p1)] maxLocals)) t := by
            intro t k
            refine R49 t ?_
            show Steps p.tables e below (T43.setTop (mkF m 103 #[.val (.int p0), .val (.int p1), .val (.ref r), .val (.ref b), .val (.int (if ((p0 &&& (255 : Int32)) &&& (40 : Int32)) = (40 : Int32) then (1 : Int32) else (0 : Int32))), .val (.int (if ((p0 &&& (255 : Int32)) &&& (20 : Int32)) = (20 : Int32) then (1 : Int32) else (0 : Int32))), .val (.int (p0 &&& (255 : Int32))), .val (.int (0 : Int32)), .val (.int (0 : Int32))] [(.int (0 : Int32)), (.int (if ((p0 &&& (255 : Int32)) &&& (20 : Int32)) = (20 : Int32) then (1 : Int32) else (0 : Int32)))])) _
            refine XS.icmpNo X43.here hx rfl (hb hby at_103) rfl (teq hi).2 ?_
            show Steps p.tables e below (T43.setTop (mkF m 106 #[.val (.int p0), .val (.int p1), .val (.ref r), .val (.ref b), .val (.int (if ((p0 &&& (255 : Int32)) &&& (40 : Int32)) = (40 : Int32) then (1 : Int32) else (0 : Int32))), .val (.int (if ((p0 &&& (255 : Int32)) &&& (20 : Int32)) = (20 : Int32) then (1 : Int32) else (0 : Int32))), .val (.int (p0 &&& (255 : Int32))), .val (.int (0 : Int32)), .val (.int (0 : Int32))] [])) _
            refine XS.iconst X43.here hx rfl (hb hby at_106) ?_
            show Steps p.tables e below (T43.setTop (mkF m 107 #[.val (.int p0), .val (.int p1), .val (.ref r), .val (.ref b), .val (.int (if ((p0 &&& (255 : Int32)) &&& (40 : Int32)) = (40 : Int32) then (1 : Int32) else (0 : Int32))), .val (.int (if ((p0 &&& (255 : Int32)) &&& (20 : Int32)) = (20 : Int32) then (1 : Int32) else (0 : Int32))), .val (.int (p0 &&& (255 : Int32))), .val (.int (0 : Int32)), .val (.int (0 : Int32))] [(.int (1 : Int32))])) _
            refine XS.goto X43.here hx rfl (pc0 := 107) (pc' := 111) rfl (hb hby at_107) (by decide) (by decide) ?_
            exact k
          obtain ⟨fs, hr, hrun, hended, hW, hsame⟩ := X43.leave (v := some (.int (1 : Int32))) (fun h => by rw [Bd.returns] at h; cases h)
          refine ⟨_, _, R50 _ ?_, hrun, hended, _, _, rfl, ?_, ⟨_, rfl⟩, hW, hsame.mono (by decide) (by decide)⟩
          · exact retN X43 hx (t := .boolean) Bd.returns (by simp) (hb hby at_111) hr
          · show Q0 Z p0 p1 h0 n0 _ T43.heap _
            rw [e43]
            exact ⟨rfl, N43⟩
      ·
        rw [if_neg b4] at R41
        have R51 : ∀ t, Steps p.tables e below (T40.setTop (mkF m 96 #[.val (.int p0), .val (.int p1), .val (.ref r), .val (.ref b), .val (.int (if ((p0 &&& (255 : Int32)) &&& (40 : Int32)) = (40 : Int32) then (1 : Int32) else (0 : Int32))), .val (.int (if ((p0 &&& (255 : Int32)) &&& (20 : Int32)) = (20 : Int32) then (1 : Int32) else (0 : Int32))), .val (.int (p0 &&& (255 : Int32))), .val (.int (0 : Int32)), .val (.int (0 : Int32))] [(.int (0 : Int32)), (.int (if ((p0 &&& (255 : Int32)) &&& (40 : Int32)) = (40 : Int32) then (1 : Int32) else (0 : Int32)))])) t → Steps p.tables e below (s₁.setTop (entryFrame m #[(.int p0), (.int p1)] maxLocals)) t := by
          intro t k
          refine R41 t ?_
          show Steps p.tables e below (T40.setTop (mkF m 77 #[.val (.int p0), .val (.int p1), .val (.ref r), .val (.ref b), .val (.int (if ((p0 &&& (255 : Int32)) &&& (40 : Int32)) = (40 : Int32) then (1 : Int32) else (0 : Int32))), .val (.int (if ((p0 &&& (255 : Int32)) &&& (20 : Int32)) = (20 : Int32) then (1 : Int32) else (0 : Int32))), .val (.int (p0 &&& (255 : Int32))), .val (.int (0 : Int32)), .val (.int (0 : Int32))] [(.int (0 : Int32))])) _
          refine XS.ifYes X40.here hx rfl (pc0 := 77) (pc' := 92) rfl (hb hby at_77) rfl ((if0 _ _).trans (teq (by decide)).1) (by decide) (by decide) ?_
          show Steps p.tables e below (T40.setTop (mkF m 92 #[.val (.int p0), .val (.int p1), .val (.ref r), .val (.ref b), .val (.int (if ((p0 &&& (255 : Int32)) &&& (40 : Int32)) = (40 : Int32) then (1 : Int32) else (0 : Int32))), .val (.int (if ((p0 &&& (255 : Int32)) &&& (20 : Int32)) = (20 : Int32) then (1 : Int32) else (0 : Int32))), .val (.int (p0 &&& (255 : Int32))), .val (.int (0 : Int32)), .val (.int (0 : Int32))] [])) _
          refine XS.iload X40.here hx rfl (hb hby at_92) rfl ?_
          show Steps p.tables e below (T40.setTop (mkF m 94 #[.val (.int p0), .val (.int p1), .val (.ref r), .val (.ref b), .val (.int (if ((p0 &&& (255 : Int32)) &&& (40 : Int32)) = (40 : Int32) then (1 : Int32) else (0 : Int32))), .val (.int (if ((p0 &&& (255 : Int32)) &&& (20 : Int32)) = (20 : Int32) then (1 : Int32) else (0 : Int32))), .val (.int (p0 &&& (255 : Int32))), .val (.int (0 : Int32)), .val (.int (0 : Int32))] [(.int (if ((p0 &&& (255 : Int32)) &&& (40 : Int32)) = (40 : Int32) then (1 : Int32) else (0 : Int32)))])) _
          refine XS.iload X40.here hx rfl (hb hby at_94) rfl ?_
          exact k
        have hd : (if ((p0 &&& (255 : Int32)) &&& (40 : Int32)) = (40 : Int32) then (1 : Int32) else (0 : Int32)) = (0 : Int32) := by
          first | exact if_pos (own_dom _ b5 b3) | exact if_neg fun q => b5 (own_dom5 _ q) | exact if_neg fun q => b3 (own_dom3 _ q)
        have R52 : ∀ t, Steps p.tables e below (T40.setTop (mkF m 103 #[.val (.int p0), .val (.int p1), .val (.ref r), .val (.ref b), .val (.int (if ((p0 &&& (255 : Int32)) &&& (40 : Int32)) = (40 : Int32) then (1 : Int32) else (0 : Int32))), .val (.int (if ((p0 &&& (255 : Int32)) &&& (20 : Int32)) = (20 : Int32) then (1 : Int32) else (0 : Int32))), .val (.int (p0 &&& (255 : Int32))), .val (.int (0 : Int32)), .val (.int (0 : Int32))] [(.int (0 : Int32)), (.int (if ((p0 &&& (255 : Int32)) &&& (20 : Int32)) = (20 : Int32) then (1 : Int32) else (0 : Int32)))])) t → Steps p.tables e below (s₁.setTop (entryFrame m #[(.int p0), (.int p1)] maxLocals)) t := by
          intro t k
          refine R51 t ?_
          show Steps p.tables e below (T40.setTop (mkF m 96 #[.val (.int p0), .val (.int p1), .val (.ref r), .val (.ref b), .val (.int (if ((p0 &&& (255 : Int32)) &&& (40 : Int32)) = (40 : Int32) then (1 : Int32) else (0 : Int32))), .val (.int (if ((p0 &&& (255 : Int32)) &&& (20 : Int32)) = (20 : Int32) then (1 : Int32) else (0 : Int32))), .val (.int (p0 &&& (255 : Int32))), .val (.int (0 : Int32)), .val (.int (0 : Int32))] [(.int (0 : Int32)), (.int (if ((p0 &&& (255 : Int32)) &&& (40 : Int32)) = (40 : Int32) then (1 : Int32) else (0 : Int32)))])) _
          refine XS.icmpNo X40.here hx rfl (hb hby at_96) rfl (teq hd).2 ?_
          show Steps p.tables e below (T40.setTop (mkF m 99 #[.val (.int p0), .val (.int p1), .val (.ref r), .val (.ref b), .val (.int (if ((p0 &&& (255 : Int32)) &&& (40 : Int32)) = (40 : Int32) then (1 : Int32) else (0 : Int32))), .val (.int (if ((p0 &&& (255 : Int32)) &&& (20 : Int32)) = (20 : Int32) then (1 : Int32) else (0 : Int32))), .val (.int (p0 &&& (255 : Int32))), .val (.int (0 : Int32)), .val (.int (0 : Int32))] [])) _
          refine XS.iload X40.here hx rfl (hb hby at_99) rfl ?_
          show Steps p.tables e below (T40.setTop (mkF m 101 #[.val (.int p0), .val (.int p1), .val (.ref r), .val (.ref b), .val (.int (if ((p0 &&& (255 : Int32)) &&& (40 : Int32)) = (40 : Int32) then (1 : Int32) else (0 : Int32))), .val (.int (if ((p0 &&& (255 : Int32)) &&& (20 : Int32)) = (20 : Int32) then (1 : Int32) else (0 : Int32))), .val (.int (p0 &&& (255 : Int32))), .val (.int (0 : Int32)), .val (.int (0 : Int32))] [(.int (if ((p0 &&& (255 : Int32)) &&& (20 : Int32)) = (20 : Int32) then (1 : Int32) else (0 : Int32)))])) _
          refine XS.iload X40.here hx rfl (hb hby at_101) rfl ?_
          exact k
        have hi : (if ((p0 &&& (255 : Int32)) &&& (20 : Int32)) = (20 : Int32) then (1 : Int32) else (0 : Int32)) = (0 : Int32) := by
          first | exact if_pos (own_int _ b4 b2) | exact if_neg fun q => b4 (own_int4 _ q) | exact if_neg fun q => b2 (own_int2 _ q)
        have R53 : ∀ t, Steps p.tables e below (T40.setTop (mkF m 111 #[.val (.int p0), .val (.int p1), .val (.ref r), .val (.ref b), .val (.int (if ((p0 &&& (255 : Int32)) &&& (40 : Int32)) = (40 : Int32) then (1 : Int32) else (0 : Int32))), .val (.int (if ((p0 &&& (255 : Int32)) &&& (20 : Int32)) = (20 : Int32) then (1 : Int32) else (0 : Int32))), .val (.int (p0 &&& (255 : Int32))), .val (.int (0 : Int32)), .val (.int (0 : Int32))] [(.int (1 : Int32))])) t → Steps p.tables e below (s₁.setTop (entryFrame m #[(.int p0), (.int p1)] maxLocals)) t := by
          intro t k
          refine R52 t ?_
          show Steps p.tables e below (T40.setTop (mkF m 103 #[.val (.int p0), .val (.int p1), .val (.ref r), .val (.ref b), .val (.int (if ((p0 &&& (255 : Int32)) &&& (40 : Int32)) = (40 : Int32) then (1 : Int32) else (0 : Int32))), .val (.int (if ((p0 &&& (255 : Int32)) &&& (20 : Int32)) = (20 : Int32) then (1 : Int32) else (0 : Int32))), .val (.int (p0 &&& (255 : Int32))), .val (.int (0 : Int32)), .val (.int (0 : Int32))] [(.int (0 : Int32)), (.int (if ((p0 &&& (255 : Int32)) &&& (20 : Int32)) = (20 : Int32) then (1 : Int32) else (0 : Int32)))])) _
          refine XS.icmpNo X40.here hx rfl (hb hby at_103) rfl (teq hi).2 ?_
          show Steps p.tables e below (T40.setTop (mkF m 106 #[.val (.int p0), .val (.int p1), .val (.ref r), .val (.ref b), .val (.int (if ((p0 &&& (255 : Int32)) &&& (40 : Int32)) = (40 : Int32) then (1 : Int32) else (0 : Int32))), .val (.int (if ((p0 &&& (255 : Int32)) &&& (20 : Int32)) = (20 : Int32) then (1 : Int32) else (0 : Int32))), .val (.int (p0 &&& (255 : Int32))), .val (.int (0 : Int32)), .val (.int (0 : Int32))] [])) _
          refine XS.iconst X40.here hx rfl (hb hby at_106) ?_
          show Steps p.tables e below (T40.setTop (mkF m 107 #[.val (.int p0), .val (.int p1), .val (.ref r), .val (.ref b), .val (.int (if ((p0 &&& (255 : Int32)) &&& (40 : Int32)) = (40 : Int32) then (1 : Int32) else (0 : Int32))), .val (.int (if ((p0 &&& (255 : Int32)) &&& (20 : Int32)) = (20 : Int32) then (1 : Int32) else (0 : Int32))), .val (.int (p0 &&& (255 : Int32))), .val (.int (0 : Int32)), .val (.int (0 : Int32))] [(.int (1 : Int32))])) _
          refine XS.goto X40.here hx rfl (pc0 := 107) (pc' := 111) rfl (hb hby at_107) (by decide) (by decide) ?_
          exact k
        obtain ⟨fs, hr, hrun, hended, hW, hsame⟩ := X40.leave (v := some (.int (1 : Int32))) (fun h => by rw [Bd.returns] at h; cases h)
        refine ⟨_, _, R53 _ ?_, hrun, hended, _, _, rfl, ?_, ⟨_, rfl⟩, hW, hsame.mono (by decide) (by decide)⟩
        · exact retN X40 hx (t := .boolean) Bd.returns (by simp) (hb hby at_111) hr
        · show Q0 Z p0 p1 h0 n0 _ T40.heap _
          rw [e40]
          exact ⟨rfl, N40⟩
  ·
    rw [if_neg b5] at R20
    have R54 : ∀ t, Steps p.tables e below (T19.setTop (mkF m 74 #[.val (.int p0), .val (.int p1), .val (.ref r), .val (.ref b), .val (.int (if ((p0 &&& (255 : Int32)) &&& (40 : Int32)) = (40 : Int32) then (1 : Int32) else (0 : Int32))), .val (.int (if ((p0 &&& (255 : Int32)) &&& (20 : Int32)) = (20 : Int32) then (1 : Int32) else (0 : Int32))), .val (.int (p0 &&& (255 : Int32))), .val (.int (0 : Int32)), .val (.int (0 : Int32))] [(.int (4 : Int32)), (.int (p0 &&& (255 : Int32)))])) t → Steps p.tables e below (s₁.setTop (entryFrame m #[(.int p0), (.int p1)] maxLocals)) t := by
      intro t k
      refine R20 t ?_
      show Steps p.tables e below (T19.setTop (mkF m 53 #[.val (.int p0), .val (.int p1), .val (.ref r), .val (.ref b), .val (.int (if ((p0 &&& (255 : Int32)) &&& (40 : Int32)) = (40 : Int32) then (1 : Int32) else (0 : Int32))), .val (.int (if ((p0 &&& (255 : Int32)) &&& (20 : Int32)) = (20 : Int32) then (1 : Int32) else (0 : Int32))), .val (.int (p0 &&& (255 : Int32))), .val (.int (0 : Int32)), .unset] [(.int (0 : Int32))])) _
      refine XS.ifYes X19.here hx rfl (pc0 := 53) (pc' := 68) rfl (hb hby at_53) rfl ((if0 _ _).trans (teq (by decide)).1) (by decide) (by decide) ?_
      show Steps p.tables e below (T19.setTop (mkF m 68 #[.val (.int p0), .val (.int p1), .val (.ref r), .val (.ref b), .val (.int (if ((p0 &&& (255 : Int32)) &&& (40 : Int32)) = (40 : Int32) then (1 : Int32) else (0 : Int32))), .val (.int (if ((p0 &&& (255 : Int32)) &&& (20 : Int32)) = (20 : Int32) then (1 : Int32) else (0 : Int32))), .val (.int (p0 &&& (255 : Int32))), .val (.int (0 : Int32)), .unset] [])) _
      refine XS.iconst X19.here hx rfl (hb hby at_68) ?_
      show Steps p.tables e below (T19.setTop (mkF m 69 #[.val (.int p0), .val (.int p1), .val (.ref r), .val (.ref b), .val (.int (if ((p0 &&& (255 : Int32)) &&& (40 : Int32)) = (40 : Int32) then (1 : Int32) else (0 : Int32))), .val (.int (if ((p0 &&& (255 : Int32)) &&& (20 : Int32)) = (20 : Int32) then (1 : Int32) else (0 : Int32))), .val (.int (p0 &&& (255 : Int32))), .val (.int (0 : Int32)), .unset] [(.int (0 : Int32))])) _
      refine XS.istore X19.here hx rfl (hb hby at_69) rfl (l' := #[.val (.int p0), .val (.int p1), .val (.ref r), .val (.ref b), .val (.int (if ((p0 &&& (255 : Int32)) &&& (40 : Int32)) = (40 : Int32) then (1 : Int32) else (0 : Int32))), .val (.int (if ((p0 &&& (255 : Int32)) &&& (20 : Int32)) = (20 : Int32) then (1 : Int32) else (0 : Int32))), .val (.int (p0 &&& (255 : Int32))), .val (.int (0 : Int32)), .val (.int (0 : Int32))]) rfl ?_
      show Steps p.tables e below (T19.setTop (mkF m 71 #[.val (.int p0), .val (.int p1), .val (.ref r), .val (.ref b), .val (.int (if ((p0 &&& (255 : Int32)) &&& (40 : Int32)) = (40 : Int32) then (1 : Int32) else (0 : Int32))), .val (.int (if ((p0 &&& (255 : Int32)) &&& (20 : Int32)) = (20 : Int32) then (1 : Int32) else (0 : Int32))), .val (.int (p0 &&& (255 : Int32))), .val (.int (0 : Int32)), .val (.int (0 : Int32))] [])) _
      refine XS.iload X19.here hx rfl (hb hby at_71) rfl ?_
      show Steps p.tables e below (T19.setTop (mkF m 73 #[.val (.int p0), .val (.int p1), .val (.ref r), .val (.ref b), .val (.int (if ((p0 &&& (255 : Int32)) &&& (40 : Int32)) = (40 : Int32) then (1 : Int32) else (0 : Int32))), .val (.int (if ((p0 &&& (255 : Int32)) &&& (20 : Int32)) = (20 : Int32) then (1 : Int32) else (0 : Int32))), .val (.int (p0 &&& (255 : Int32))), .val (.int (0 : Int32)), .val (.int (0 : Int32))] [(.int (p0 &&& (255 : Int32)))])) _
      refine XS.iconst X19.here hx rfl (hb hby at_73) ?_
      exact k
    obtain ⟨_, _, ⟨T55, L55, k55, n55⟩, -, X55, ⟨Lc55, hQ55, l55, y55, z55⟩, st55⟩ := Jvm.LawKit.callS X19 hx (y := (⟨"com/example/tapline/reader/ApplicationUsageControlAllowsPurchasePinLaw", "bit", "(II)Z"⟩ : MethodName)) hown (mvT hZ (hw _ (List.mem_of_getElem? (i := 17) rfl))) (mvT hZ (hw _ (List.mem_of_getElem? (i := 18) rfl))) (mvT hZ (hw _ (List.mem_of_getElem? (i := 19) rfl))) (mvT hZ (hw _ (List.mem_of_getElem? (i := 20) rfl))) (by decide) (backOf (W := 0) (rm4 l Z a0 hw [] (p0 &&& (255 : Int32)) (4 : Int32) T12.heap n0 Sz12) hZ (hw _ (List.mem_of_getElem? (i := 20) rfl)) (hw _ (List.mem_of_getElem? (i := 19) rfl)) (by decide) (by decide)) (g := (mkF m 74 #[.val (.int p0), .val (.int p1), .val (.ref r), .val (.ref b), .val (.int (if ((p0 &&& (255 : Int32)) &&& (40 : Int32)) = (40 : Int32) then (1 : Int32) else (0 : Int32))), .val (.int (if ((p0 &&& (255 : Int32)) &&& (20 : Int32)) = (20 : Int32) then (1 : Int32) else (0 : Int32))), .val (.int (p0 &&& (255 : Int32))), .val (.int (0 : Int32)), .val (.int (0 : Int32))] [(.int (4 : Int32)), (.int (p0 &&& (255 : Int32)))])) rfl (by rw [hml]; rfl) (argsL := [(.int (p0 &&& (255 : Int32))), (.int (4 : Int32))]) (rest := []) (lenOf pd_2 rfl) rfl (by show 2 * 0 + _ ≤ _; exact Nat.le_of_eq rfl) (hb hby at_74) (fun _ _ => ⟨rfl, e19, (by decide : 2 + 0 ≤ _), (by decide : 3 + 0 ≤ _)⟩)
    dsimp only [Pt.U, Pt.locs, Pt.cells, Pt.slots] at X55 l55 y55 z55 st55 hQ55
    subst l55 y55 z55
    obtain ⟨rfl, Nq55, eq55⟩ := hQ55
    have N55 := Fr.app N19 Nq55
    have e55 : T55.heap = T12.heap := eq55
    have R56 : ∀ t, Steps p.tables e below (T55.setTop (mkF m 77 #[.val (.int p0), .val (.int p1), .val (.ref r), .val (.ref b), .val (.int (if ((p0 &&& (255 : Int32)) &&& (40 : Int32)) = (40 : Int32) then (1 : Int32) else (0 : Int32))), .val (.int (if ((p0 &&& (255 : Int32)) &&& (20 : Int32)) = (20 : Int32) then (1 : Int32) else (0 : Int32))), .val (.int (p0 &&& (255 : Int32))), .val (.int (0 : Int32)), .val (.int (0 : Int32))] [(.int (if (((p0 &&& (255 : Int32)) >>> ((4 : Int32) &&& 31)) &&& (1 : Int32)) = (1 : Int32) then (1 : Int32) else (0 : Int32)))])) t → Steps p.tables e below (s₁.setTop (entryFrame m #[(.int p0), (.int p1)] maxLocals)) t := by
      intro t k
      refine R54 t ?_
      show Steps p.tables e below (T19.setTop (mkF m 74 #[.val (.int p0), .val (.int p1), .val (.ref r), .val (.ref b), .val (.int (if ((p0 &&& (255 : Int32)) &&& (40 : Int32)) = (40 : Int32) then (1 : Int32) else (0 : Int32))), .val (.int (if ((p0 &&& (255 : Int32)) &&& (20 : Int32)) = (20 : Int32) then (1 : Int32) else (0 : Int32))), .val (.int (p0 &&& (255 : Int32))), .val (.int (0 : Int32)), .val (.int (0 : Int32))] [(.int (4 : Int32)), (.int (p0 &&& (255 : Int32)))])) _
      refine st55 _ ?_
      exact k
    by_cases b4 : (((p0 &&& (255 : Int32)) >>> ((4 : Int32) &&& 31)) &&& (1 : Int32)) = (1 : Int32)
    ·
      rw [if_pos b4] at R56
      have R57 : ∀ t, Steps p.tables e below (T55.setTop (mkF m 83 #[.val (.int p0), .val (.int p1), .val (.ref r), .val (.ref b), .val (.int (if ((p0 &&& (255 : Int32)) &&& (40 : Int32)) = (40 : Int32) then (1 : Int32) else (0 : Int32))), .val (.int (if ((p0 &&& (255 : Int32)) &&& (20 : Int32)) = (20 : Int32) then (1 : Int32) else (0 : Int32))), .val (.int (p0 &&& (255 : Int32))), .val (.int (0 : Int32)), .val (.int (0 : Int32))] [(.int (2 : Int32)), (.int (p0 &&& (255 : Int32)))])) t → Steps p.tables e below (s₁.setTop (entryFrame m #[(.int p0), (.int p1)] maxLocals)) t := by
        intro t k
        refine R56 t ?_
        show Steps p.tables e below (T55.setTop (mkF m 77 #[.val (.int p0), .val (.int p1), .val (.ref r), .val (.ref b), .val (.int (if ((p0 &&& (255 : Int32)) &&& (40 : Int32)) = (40 : Int32) then (1 : Int32) else (0 : Int32))), .val (.int (if ((p0 &&& (255 : Int32)) &&& (20 : Int32)) = (20 : Int32) then (1 : Int32) else (0 : Int32))), .val (.int (p0 &&& (255 : Int32))), .val (.int (0 : Int32)), .val (.int (0 : Int32))] [(.int (1 : Int32))])) _
        refine XS.ifNo X55.here hx rfl (hb hby at_77) rfl ((if0 _ _).trans (feq (by decide)).1) ?_
        show Steps p.tables e below (T55.setTop (mkF m 80 #[.val (.int p0), .val (.int p1), .val (.ref r), .val (.ref b), .val (.int (if ((p0 &&& (255 : Int32)) &&& (40 : Int32)) = (40 : Int32) then (1 : Int32) else (0 : Int32))), .val (.int (if ((p0 &&& (255 : Int32)) &&& (20 : Int32)) = (20 : Int32) then (1 : Int32) else (0 : Int32))), .val (.int (p0 &&& (255 : Int32))), .val (.int (0 : Int32)), .val (.int (0 : Int32))] [])) _
        refine XS.iload X55.here hx rfl (hb hby at_80) rfl ?_
        show Steps p.tables e below (T55.setTop (mkF m 82 #[.val (.int p0), .val (.int p1), .val (.ref r), .val (.ref b), .val (.int (if ((p0 &&& (255 : Int32)) &&& (40 : Int32)) = (40 : Int32) then (1 : Int32) else (0 : Int32))), .val (.int (if ((p0 &&& (255 : Int32)) &&& (20 : Int32)) = (20 : Int32) then (1 : Int32) else (0 : Int32))), .val (.int (p0 &&& (255 : Int32))), .val (.int (0 : Int32)), .val (.int (0 : Int32))] [(.int (p0 &&& (255 : Int32)))])) _
        refine XS.iconst X55.here hx rfl (hb hby at_82) ?_
        exact k
      obtain ⟨_, _, ⟨T58, L58, k58, n58⟩, -, X58, ⟨Lc58, hQ58, l58, y58, z58⟩, st58⟩ := Jvm.LawKit.callS X55 hx (y := (⟨"com/example/tapline/reader/ApplicationUsageControlAllowsPurchasePinLaw", "bit", "(II)Z"⟩ : MethodName)) hown (mvT hZ (hw _ (List.mem_of_getElem? (i := 17) rfl))) (mvT hZ (hw _ (List.mem_of_getElem? (i := 18) rfl))) (mvT hZ (hw _ (List.mem_of_getElem? (i := 19) rfl))) (mvT hZ (hw _ (List.mem_of_getElem? (i := 20) rfl))) (by decide) (backOf (W := 0) (rm4 l Z a0 hw [] (p0 &&& (255 : Int32)) (2 : Int32) T12.heap n0 Sz12) hZ (hw _ (List.mem_of_getElem? (i := 20) rfl)) (hw _ (List.mem_of_getElem? (i := 19) rfl)) (by decide) (by decide)) (g := (mkF m 83 #[.val (.int p0), .val (.int p1), .val (.ref r), .val (.ref b), .val (.int (if ((p0 &&& (255 : Int32)) &&& (40 : Int32)) = (40 : Int32) then (1 : Int32) else (0 : Int32))), .val (.int (if ((p0 &&& (255 : Int32)) &&& (20 : Int32)) = (20 : Int32) then (1 : Int32) else (0 : Int32))), .val (.int (p0 &&& (255 : Int32))), .val (.int (0 : Int32)), .val (.int (0 : Int32))] [(.int (2 : Int32)), (.int (p0 &&& (255 : Int32)))])) rfl (by rw [hml]; rfl) (argsL := [(.int (p0 &&& (255 : Int32))), (.int (2 : Int32))]) (rest := []) (lenOf pd_2 rfl) rfl (by show 2 * 0 + _ ≤ _; exact Nat.le_of_eq rfl) (hb hby at_83) (fun _ _ => ⟨rfl, e55, (by decide : 2 + 0 ≤ _), (by decide : 3 + 0 ≤ _)⟩)
      dsimp only [Pt.U, Pt.locs, Pt.cells, Pt.slots] at X58 l58 y58 z58 st58 hQ58
      subst l58 y58 z58
      obtain ⟨rfl, Nq58, eq58⟩ := hQ58
      have N58 := Fr.app N55 Nq58
      have e58 : T58.heap = T12.heap := eq58
      have R59 : ∀ t, Steps p.tables e below (T58.setTop (mkF m 86 #[.val (.int p0), .val (.int p1), .val (.ref r), .val (.ref b), .val (.int (if ((p0 &&& (255 : Int32)) &&& (40 : Int32)) = (40 : Int32) then (1 : Int32) else (0 : Int32))), .val (.int (if ((p0 &&& (255 : Int32)) &&& (20 : Int32)) = (20 : Int32) then (1 : Int32) else (0 : Int32))), .val (.int (p0 &&& (255 : Int32))), .val (.int (0 : Int32)), .val (.int (0 : Int32))] [(.int (if (((p0 &&& (255 : Int32)) >>> ((2 : Int32) &&& 31)) &&& (1 : Int32)) = (1 : Int32) then (1 : Int32) else (0 : Int32)))])) t → Steps p.tables e below (s₁.setTop (entryFrame m #[(.int p0), (.int p1)] maxLocals)) t := by
        intro t k
        refine R57 t ?_
        show Steps p.tables e below (T55.setTop (mkF m 83 #[.val (.int p0), .val (.int p1), .val (.ref r), .val (.ref b), .val (.int (if ((p0 &&& (255 : Int32)) &&& (40 : Int32)) = (40 : Int32) then (1 : Int32) else (0 : Int32))), .val (.int (if ((p0 &&& (255 : Int32)) &&& (20 : Int32)) = (20 : Int32) then (1 : Int32) else (0 : Int32))), .val (.int (p0 &&& (255 : Int32))), .val (.int (0 : Int32)), .val (.int (0 : Int32))] [(.int (2 : Int32)), (.int (p0 &&& (255 : Int32)))])) _
        refine st58 _ ?_
        exact k
      by_cases b2 : (((p0 &&& (255 : Int32)) >>> ((2 : Int32) &&& 31)) &&& (1 : Int32)) = (1 : Int32)
      ·
        rw [if_pos b2] at R59
        have R60 : ∀ t, Steps p.tables e below (T58.setTop (mkF m 96 #[.val (.int p0), .val (.int p1), .val (.ref r), .val (.ref b), .val (.int (if ((p0 &&& (255 : Int32)) &&& (40 : Int32)) = (40 : Int32) then (1 : Int32) else (0 : Int32))), .val (.int (if ((p0 &&& (255 : Int32)) &&& (20 : Int32)) = (20 : Int32) then (1 : Int32) else (0 : Int32))), .val (.int (p0 &&& (255 : Int32))), .val (.int (0 : Int32)), .val (.int (1 : Int32))] [(.int (0 : Int32)), (.int (if ((p0 &&& (255 : Int32)) &&& (40 : Int32)) = (40 : Int32) then (1 : Int32) else (0 : Int32)))])) t → Steps p.tables e below (s₁.setTop (entryFrame m #[(.int p0), (.int p1)] maxLocals)) t := by
          intro t k
          refine R59 t ?_
          show Steps p.tables e below (T58.setTop (mkF m 86 #[.val (.int p0), .val (.int p1), .val (.ref r), .val (.ref b), .val (.int (if ((p0 &&& (255 : Int32)) &&& (40 : Int32)) = (40 : Int32) then (1 : Int32) else (0 : Int32))), .val (.int (if ((p0 &&& (255 : Int32)) &&& (20 : Int32)) = (20 : Int32) then (1 : Int32) else (0 : Int32))), .val (.int (p0 &&& (255 : Int32))), .val (.int (0 : Int32)), .val (.int (0 : Int32))] [(.int (1 : Int32))])) _
          refine XS.ifNo X58.here hx rfl (hb hby at_86) rfl ((if0 _ _).trans (feq (by decide)).1) ?_
          show Steps p.tables e below (T58.setTop (mkF m 89 #[.val (.int p0), .val (.int p1), .val (.ref r), .val (.ref b), .val (.int (if ((p0 &&& (255 : Int32)) &&& (40 : Int32)) = (40 : Int32) then (1 : Int32) else (0 : Int32))), .val (.int (if ((p0 &&& (255 : Int32)) &&& (20 : Int32)) = (20 : Int32) then (1 : Int32) else (0 : Int32))), .val (.int (p0 &&& (255 : Int32))), .val (.int (0 : Int32)), .val (.int (0 : Int32))] [])) _
          refine XS.iconst X58.here hx rfl (hb hby at_89) ?_
          show Steps p.tables e below (T58.setTop (mkF m 90 #[.val (.int p0), .val (.int p1), .val (.ref r), .val (.ref b), .val (.int (if ((p0 &&& (255 : Int32)) &&& (40 : Int32)) = (40 : Int32) then (1 : Int32) else (0 : Int32))), .val (.int (if ((p0 &&& (255 : Int32)) &&& (20 : Int32)) = (20 : Int32) then (1 : Int32) else (0 : Int32))), .val (.int (p0 &&& (255 : Int32))), .val (.int (0 : Int32)), .val (.int (0 : Int32))] [(.int (1 : Int32))])) _
          refine XS.istore X58.here hx rfl (hb hby at_90) rfl (l' := #[.val (.int p0), .val (.int p1), .val (.ref r), .val (.ref b), .val (.int (if ((p0 &&& (255 : Int32)) &&& (40 : Int32)) = (40 : Int32) then (1 : Int32) else (0 : Int32))), .val (.int (if ((p0 &&& (255 : Int32)) &&& (20 : Int32)) = (20 : Int32) then (1 : Int32) else (0 : Int32))), .val (.int (p0 &&& (255 : Int32))), .val (.int (0 : Int32)), .val (.int (1 : Int32))]) rfl ?_
          show Steps p.tables e below (T58.setTop (mkF m 92 #[.val (.int p0), .val (.int p1), .val (.ref r), .val (.ref b), .val (.int (if ((p0 &&& (255 : Int32)) &&& (40 : Int32)) = (40 : Int32) then (1 : Int32) else (0 : Int32))), .val (.int (if ((p0 &&& (255 : Int32)) &&& (20 : Int32)) = (20 : Int32) then (1 : Int32) else (0 : Int32))), .val (.int (p0 &&& (255 : Int32))), .val (.int (0 : Int32)), .val (.int (1 : Int32))] [])) _
          refine XS.iload X58.here hx rfl (hb hby at_92) rfl ?_
          show Steps p.tables e below (T58.setTop (mkF m 94 #[.val (.int p0), .val (.int p1), .val (.ref r), .val (.ref b), .val (.int (if ((p0 &&& (255 : Int32)) &&& (40 : Int32)) = (40 : Int32) then (1 : Int32) else (0 : Int32))), .val (.int (if ((p0 &&& (255 : Int32)) &&& (20 : Int32)) = (20 : Int32) then (1 : Int32) else (0 : Int32))), .val (.int (p0 &&& (255 : Int32))), .val (.int (0 : Int32)), .val (.int (1 : Int32))] [(.int (if ((p0 &&& (255 : Int32)) &&& (40 : Int32)) = (40 : Int32) then (1 : Int32) else (0 : Int32)))])) _
          refine XS.iload X58.here hx rfl (hb hby at_94) rfl ?_
          exact k
        have hd : (if ((p0 &&& (255 : Int32)) &&& (40 : Int32)) = (40 : Int32) then (1 : Int32) else (0 : Int32)) = (0 : Int32) := by
          first | exact if_pos (own_dom _ b5 b3) | exact if_neg fun q => b5 (own_dom5 _ q) | exact if_neg fun q => b3 (own_dom3 _ q)
        have R61 : ∀ t, Steps p.tables e below (T58.setTop (mkF m 103 #[.val (.int p0), .val (.int p1), .val (.ref r), .val (.ref b), .val (.int (if ((p0 &&& (255 : Int32)) &&& (40 : Int32)) = (40 : Int32) then (1 : Int32) else (0 : Int32))), .val (.int (if ((p0 &&& (255 : Int32)) &&& (20 : Int32)) = (20 : Int32) then (1 : Int32) else (0 : Int32))), .val (.int (p0 &&& (255 : Int32))), .val (.int (0 : Int32)), .val (.int (1 : Int32))] [(.int (1 : Int32)), (.int (if ((p0 &&& (255 : Int32)) &&& (20 : Int32)) = (20 : Int32) then (1 : Int32) else (0 : Int32)))])) t → Steps p.tables e below (s₁.setTop (entryFrame m #[(.int p0), (.int p1)] maxLocals)) t := by
          intro t k
          refine R60 t ?_
          show Steps p.tables e below (T58.setTop (mkF m 96 #[.val (.int p0), .val (.int p1), .val (.ref r), .val (.ref b), .val (.int (if ((p0 &&& (255 : Int32)) &&& (40 : Int32)) = (40 : Int32) then (1 : Int32) else (0 : Int32))), .val (.int (if ((p0 &&& (255 : Int32)) &&& (20 : Int32)) = (20 : Int32) then (1 : Int32) else (0 : Int32))), .val (.int (p0 &&& (255 : Int32))), .val (.int (0 : Int32)), .val (.int (1 : Int32))] [(.int (0 : Int32)), (.int (if ((p0 &&& (255 : Int32)) &&& (40 : Int32)) = (40 : Int32) then (1 : Int32) else (0 : Int32)))])) _
          refine XS.icmpNo X58.here hx rfl (hb hby at_96) rfl (teq hd).2 ?_
          show Steps p.tables e below (T58.setTop (mkF m 99 #[.val (.int p0), .val (.int p1), .val (.ref r), .val (.ref b), .val (.int (if ((p0 &&& (255 : Int32)) &&& (40 : Int32)) = (40 : Int32) then (1 : Int32) else (0 : Int32))), .val (.int (if ((p0 &&& (255 : Int32)) &&& (20 : Int32)) = (20 : Int32) then (1 : Int32) else (0 : Int32))), .val (.int (p0 &&& (255 : Int32))), .val (.int (0 : Int32)), .val (.int (1 : Int32))] [])) _
          refine XS.iload X58.here hx rfl (hb hby at_99) rfl ?_
          show Steps p.tables e below (T58.setTop (mkF m 101 #[.val (.int p0), .val (.int p1), .val (.ref r), .val (.ref b), .val (.int (if ((p0 &&& (255 : Int32)) &&& (40 : Int32)) = (40 : Int32) then (1 : Int32) else (0 : Int32))), .val (.int (if ((p0 &&& (255 : Int32)) &&& (20 : Int32)) = (20 : Int32) then (1 : Int32) else (0 : Int32))), .val (.int (p0 &&& (255 : Int32))), .val (.int (0 : Int32)), .val (.int (1 : Int32))] [(.int (if ((p0 &&& (255 : Int32)) &&& (20 : Int32)) = (20 : Int32) then (1 : Int32) else (0 : Int32)))])) _
          refine XS.iload X58.here hx rfl (hb hby at_101) rfl ?_
          exact k
        have hi : (if ((p0 &&& (255 : Int32)) &&& (20 : Int32)) = (20 : Int32) then (1 : Int32) else (0 : Int32)) = (1 : Int32) := by
          first | exact if_pos (own_int _ b4 b2) | exact if_neg fun q => b4 (own_int4 _ q) | exact if_neg fun q => b2 (own_int2 _ q)
        have R62 : ∀ t, Steps p.tables e below (T58.setTop (mkF m 111 #[.val (.int p0), .val (.int p1), .val (.ref r), .val (.ref b), .val (.int (if ((p0 &&& (255 : Int32)) &&& (40 : Int32)) = (40 : Int32) then (1 : Int32) else (0 : Int32))), .val (.int (if ((p0 &&& (255 : Int32)) &&& (20 : Int32)) = (20 : Int32) then (1 : Int32) else (0 : Int32))), .val (.int (p0 &&& (255 : Int32))), .val (.int (0 : Int32)), .val (.int (1 : Int32))] [(.int (1 : Int32))])) t → Steps p.tables e below (s₁.setTop (entryFrame m #[(.int p0), (.int p1)] maxLocals)) t := by
          intro t k
          refine R61 t ?_
          show Steps p.tables e below (T58.setTop (mkF m 103 #[.val (.int p0), .val (.int p1), .val (.ref r), .val (.ref b), .val (.int (if ((p0 &&& (255 : Int32)) &&& (40 : Int32)) = (40 : Int32) then (1 : Int32) else (0 : Int32))), .val (.int (if ((p0 &&& (255 : Int32)) &&& (20 : Int32)) = (20 : Int32) then (1 : Int32) else (0 : Int32))), .val (.int (p0 &&& (255 : Int32))), .val (.int (0 : Int32)), .val (.int (1 : Int32))] [(.int (1 : Int32)), (.int (if ((p0 &&& (255 : Int32)) &&& (20 : Int32)) = (20 : Int32) then (1 : Int32) else (0 : Int32)))])) _
          refine XS.icmpNo X58.here hx rfl (hb hby at_103) rfl (teq hi).2 ?_
          show Steps p.tables e below (T58.setTop (mkF m 106 #[.val (.int p0), .val (.int p1), .val (.ref r), .val (.ref b), .val (.int (if ((p0 &&& (255 : Int32)) &&& (40 : Int32)) = (40 : Int32) then (1 : Int32) else (0 : Int32))), .val (.int (if ((p0 &&& (255 : Int32)) &&& (20 : Int32)) = (20 : Int32) then (1 : Int32) else (0 : Int32))), .val (.int (p0 &&& (255 : Int32))), .val (.int (0 : Int32)), .val (.int (1 : Int32))] [])) _
          refine XS.iconst X58.here hx rfl (hb hby at_106) ?_
          show Steps p.tables e below (T58.setTop (mkF m 107 #[.val (.int p0), .val (.int p1), .val (.ref r), .val (.ref b), .val (.int (if ((p0 &&& (255 : Int32)) &&& (40 : Int32)) = (40 : Int32) then (1 : Int32) else (0 : Int32))), .val (.int (if ((p0 &&& (255 : Int32)) &&& (20 : Int32)) = (20 : Int32) then (1 : Int32) else (0 : Int32))), .val (.int (p0 &&& (255 : Int32))), .val (.int (0 : Int32)), .val (.int (1 : Int32))] [(.int (1 : Int32))])) _
          refine XS.goto X58.here hx rfl (pc0 := 107) (pc' := 111) rfl (hb hby at_107) (by decide) (by decide) ?_
          exact k
        obtain ⟨fs, hr, hrun, hended, hW, hsame⟩ := X58.leave (v := some (.int (1 : Int32))) (fun h => by rw [Bd.returns] at h; cases h)
        refine ⟨_, _, R62 _ ?_, hrun, hended, _, _, rfl, ?_, ⟨_, rfl⟩, hW, hsame.mono (by decide) (by decide)⟩
        · exact retN X58 hx (t := .boolean) Bd.returns (by simp) (hb hby at_111) hr
        · show Q0 Z p0 p1 h0 n0 _ T58.heap _
          rw [e58]
          exact ⟨rfl, N58⟩
      ·
        rw [if_neg b2] at R59
        have R63 : ∀ t, Steps p.tables e below (T58.setTop (mkF m 96 #[.val (.int p0), .val (.int p1), .val (.ref r), .val (.ref b), .val (.int (if ((p0 &&& (255 : Int32)) &&& (40 : Int32)) = (40 : Int32) then (1 : Int32) else (0 : Int32))), .val (.int (if ((p0 &&& (255 : Int32)) &&& (20 : Int32)) = (20 : Int32) then (1 : Int32) else (0 : Int32))), .val (.int (p0 &&& (255 : Int32))), .val (.int (0 : Int32)), .val (.int (0 : Int32))] [(.int (0 : Int32)), (.int (if ((p0 &&& (255 : Int32)) &&& (40 : Int32)) = (40 : Int32) then (1 : Int32) else (0 : Int32)))])) t → Steps p.tables e below (s₁.setTop (entryFrame m #[(.int p0), (.int p1)] maxLocals)) t := by
          intro t k
          refine R59 t ?_
          show Steps p.tables e below (T58.setTop (mkF m 86 #[.val (.int p0), .val (.int p1), .val (.ref r), .val (.ref b), .val (.int (if ((p0 &&& (255 : Int32)) &&& (40 : Int32)) = (40 : Int32) then (1 : Int32) else (0 : Int32))), .val (.int (if ((p0 &&& (255 : Int32)) &&& (20 : Int32)) = (20 : Int32) then (1 : Int32) else (0 : Int32))), .val (.int (p0 &&& (255 : Int32))), .val (.int (0 : Int32)), .val (.int (0 : Int32))] [(.int (0 : Int32))])) _
          refine XS.ifYes X58.here hx rfl (pc0 := 86) (pc' := 92) rfl (hb hby at_86) rfl ((if0 _ _).trans (teq (by decide)).1) (by decide) (by decide) ?_
          show Steps p.tables e below (T58.setTop (mkF m 92 #[.val (.int p0), .val (.int p1), .val (.ref r), .val (.ref b), .val (.int (if ((p0 &&& (255 : Int32)) &&& (40 : Int32)) = (40 : Int32) then (1 : Int32) else (0 : Int32))), .val (.int (if ((p0 &&& (255 : Int32)) &&& (20 : Int32)) = (20 : Int32) then (1 : Int32) else (0 : Int32))), .val (.int (p0 &&& (255 : Int32))), .val (.int (0 : Int32)), .val (.int (0 : Int32))] [])) _
          refine XS.iload X58.here hx rfl (hb hby at_92) rfl ?_
          show Steps p.tables e below (T58.setTop (mkF m 94 #[.val (.int p0), .val (.int p1), .val (.ref r), .val (.ref b), .val (.int (if ((p0 &&& (255 : Int32)) &&& (40 : Int32)) = (40 : Int32) then (1 : Int32) else (0 : Int32))), .val (.int (if ((p0 &&& (255 : Int32)) &&& (20 : Int32)) = (20 : Int32) then (1 : Int32) else (0 : Int32))), .val (.int (p0 &&& (255 : Int32))), .val (.int (0 : Int32)), .val (.int (0 : Int32))] [(.int (if ((p0 &&& (255 : Int32)) &&& (40 : Int32)) = (40 : Int32) then (1 : Int32) else (0 : Int32)))])) _
          refine XS.iload X58.here hx rfl (hb hby at_94) rfl ?_
          exact k
        have hd : (if ((p0 &&& (255 : Int32)) &&& (40 : Int32)) = (40 : Int32) then (1 : Int32) else (0 : Int32)) = (0 : Int32) := by
          first | exact if_pos (own_dom _ b5 b3) | exact if_neg fun q => b5 (own_dom5 _ q) | exact if_neg fun q => b3 (own_dom3 _ q)
        have R64 : ∀ t, Steps p.tables e below (T58.setTop (mkF m 103 #[.val (.int p0), .val (.int p1), .val (.ref r), .val (.ref b), .val (.int (if ((p0 &&& (255 : Int32)) &&& (40 : Int32)) = (40 : Int32) then (1 : Int32) else (0 : Int32))), .val (.int (if ((p0 &&& (255 : Int32)) &&& (20 : Int32)) = (20 : Int32) then (1 : Int32) else (0 : Int32))), .val (.int (p0 &&& (255 : Int32))), .val (.int (0 : Int32)), .val (.int (0 : Int32))] [(.int (0 : Int32)), (.int (if ((p0 &&& (255 : Int32)) &&& (20 : Int32)) = (20 : Int32) then (1 : Int32) else (0 : Int32)))])) t → Steps p.tables e below (s₁.setTop (entryFrame m #[(.int p0), (.int p1)] maxLocals)) t := by
          intro t k
          refine R63 t ?_
          show Steps p.tables e below (T58.setTop (mkF m 96 #[.val (.int p0), .val (.int p1), .val (.ref r), .val (.ref b), .val (.int (if ((p0 &&& (255 : Int32)) &&& (40 : Int32)) = (40 : Int32) then (1 : Int32) else (0 : Int32))), .val (.int (if ((p0 &&& (255 : Int32)) &&& (20 : Int32)) = (20 : Int32) then (1 : Int32) else (0 : Int32))), .val (.int (p0 &&& (255 : Int32))), .val (.int (0 : Int32)), .val (.int (0 : Int32))] [(.int (0 : Int32)), (.int (if ((p0 &&& (255 : Int32)) &&& (40 : Int32)) = (40 : Int32) then (1 : Int32) else (0 : Int32)))])) _
          refine XS.icmpNo X58.here hx rfl (hb hby at_96) rfl (teq hd).2 ?_
          show Steps p.tables e below (T58.setTop (mkF m 99 #[.val (.int p0), .val (.int p1), .val (.ref r), .val (.ref b), .val (.int (if ((p0 &&& (255 : Int32)) &&& (40 : Int32)) = (40 : Int32) then (1 : Int32) else (0 : Int32))), .val (.int (if ((p0 &&& (255 : Int32)) &&& (20 : Int32)) = (20 : Int32) then (1 : Int32) else (0 : Int32))), .val (.int (p0 &&& (255 : Int32))), .val (.int (0 : Int32)), .val (.int (0 : Int32))] [])) _
          refine XS.iload X58.here hx rfl (hb hby at_99) rfl ?_
          show Steps p.tables e below (T58.setTop (mkF m 101 #[.val (.int p0), .val (.int p1), .val (.ref r), .val (.ref b), .val (.int (if ((p0 &&& (255 : Int32)) &&& (40 : Int32)) = (40 : Int32) then (1 : Int32) else (0 : Int32))), .val (.int (if ((p0 &&& (255 : Int32)) &&& (20 : Int32)) = (20 : Int32) then (1 : Int32) else (0 : Int32))), .val (.int (p0 &&& (255 : Int32))), .val (.int (0 : Int32)), .val (.int (0 : Int32))] [(.int (if ((p0 &&& (255 : Int32)) &&& (20 : Int32)) = (20 : Int32) then (1 : Int32) else (0 : Int32)))])) _
          refine XS.iload X58.here hx rfl (hb hby at_101) rfl ?_
          exact k
        have hi : (if ((p0 &&& (255 : Int32)) &&& (20 : Int32)) = (20 : Int32) then (1 : Int32) else (0 : Int32)) = (0 : Int32) := by
          first | exact if_pos (own_int _ b4 b2) | exact if_neg fun q => b4 (own_int4 _ q) | exact if_neg fun q => b2 (own_int2 _ q)
        have R65 : ∀ t, Steps p.tables e below (T58.setTop (mkF m 111 #[.val (.int p0), .val (.int p1), .val (.ref r), .val (.ref b), .val (.int (if ((p0 &&& (255 : Int32)) &&& (40 : Int32)) = (40 : Int32) then (1 : Int32) else (0 : Int32))), .val (.int (if ((p0 &&& (255 : Int32)) &&& (20 : Int32)) = (20 : Int32) then (1 : Int32) else (0 : Int32))), .val (.int (p0 &&& (255 : Int32))), .val (.int (0 : Int32)), .val (.int (0 : Int32))] [(.int (1 : Int32))])) t → Steps p.tables e below (s₁.setTop (entryFrame m #[(.int p0), (.int p1)] maxLocals)) t := by
          intro t k
          refine R64 t ?_
          show Steps p.tables e below (T58.setTop (mkF m 103 #[.val (.int p0), .val (.int p1), .val (.ref r), .val (.ref b), .val (.int (if ((p0 &&& (255 : Int32)) &&& (40 : Int32)) = (40 : Int32) then (1 : Int32) else (0 : Int32))), .val (.int (if ((p0 &&& (255 : Int32)) &&& (20 : Int32)) = (20 : Int32) then (1 : Int32) else (0 : Int32))), .val (.int (p0 &&& (255 : Int32))), .val (.int (0 : Int32)), .val (.int (0 : Int32))] [(.int (0 : Int32)), (.int (if ((p0 &&& (255 : Int32)) &&& (20 : Int32)) = (20 : Int32) then (1 : Int32) else (0 : Int32)))])) _
          refine XS.icmpNo X58.here hx rfl (hb hby at_103) rfl (teq hi).2 ?_
          show Steps p.tables e below (T58.setTop (mkF m 106 #[.val (.int p0), .val (.int p1), .val (.ref r), .val (.ref b), .val (.int (if ((p0 &&& (255 : Int32)) &&& (40 : Int32)) = (40 : Int32) then (1 : Int32) else (0 : Int32))), .val (.int (if ((p0 &&& (255 : Int32)) &&& (20 : Int32)) = (20 : Int32) then (1 : Int32) else (0 : Int32))), .val (.int (p0 &&& (255 : Int32))), .val (.int (0 : Int32)), .val (.int (0 : Int32))] [])) _
          refine XS.iconst X58.here hx rfl (hb hby at_106) ?_
          show Steps p.tables e below (T58.setTop (mkF m 107 #[.val (.int p0), .val (.int p1), .val (.ref r), .val (.ref b), .val (.int (if ((p0 &&& (255 : Int32)) &&& (40 : Int32)) = (40 : Int32) then (1 : Int32) else (0 : Int32))), .val (.int (if ((p0 &&& (255 : Int32)) &&& (20 : Int32)) = (20 : Int32) then (1 : Int32) else (0 : Int32))), .val (.int (p0 &&& (255 : Int32))), .val (.int (0 : Int32)), .val (.int (0 : Int32))] [(.int (1 : Int32))])) _
          refine XS.goto X58.here hx rfl (pc0 := 107) (pc' := 111) rfl (hb hby at_107) (by decide) (by decide) ?_
          exact k
        obtain ⟨fs, hr, hrun, hended, hW, hsame⟩ := X58.leave (v := some (.int (1 : Int32))) (fun h => by rw [Bd.returns] at h; cases h)
        refine ⟨_, _, R65 _ ?_, hrun, hended, _, _, rfl, ?_, ⟨_, rfl⟩, hW, hsame.mono (by decide) (by decide)⟩
        · exact retN X58 hx (t := .boolean) Bd.returns (by simp) (hb hby at_111) hr
        · show Q0 Z p0 p1 h0 n0 _ T58.heap _
          rw [e58]
          exact ⟨rfl, N58⟩
    ·
      rw [if_neg b4] at R56
      have R66 : ∀ t, Steps p.tables e below (T55.setTop (mkF m 96 #[.val (.int p0), .val (.int p1), .val (.ref r), .val (.ref b), .val (.int (if ((p0 &&& (255 : Int32)) &&& (40 : Int32)) = (40 : Int32) then (1 : Int32) else (0 : Int32))), .val (.int (if ((p0 &&& (255 : Int32)) &&& (20 : Int32)) = (20 : Int32) then (1 : Int32) else (0 : Int32))), .val (.int (p0 &&& (255 : Int32))), .val (.int (0 : Int32)), .val (.int (0 : Int32))] [(.int (0 : Int32)), (.int (if ((p0 &&& (255 : Int32)) &&& (40 : Int32)) = (40 : Int32) then (1 : Int32) else (0 : Int32)))])) t → Steps p.tables e below (s₁.setTop (entryFrame m #[(.int p0), (.int p1)] maxLocals)) t := by
        intro t k
        refine R56 t ?_
        show Steps p.tables e below (T55.setTop (mkF m 77 #[.val (.int p0), .val (.int p1), .val (.ref r), .val (.ref b), .val (.int (if ((p0 &&& (255 : Int32)) &&& (40 : Int32)) = (40 : Int32) then (1 : Int32) else (0 : Int32))), .val (.int (if ((p0 &&& (255 : Int32)) &&& (20 : Int32)) = (20 : Int32) then (1 : Int32) else (0 : Int32))), .val (.int (p0 &&& (255 : Int32))), .val (.int (0 : Int32)), .val (.int (0 : Int32))] [(.int (0 : Int32))])) _
        refine XS.ifYes X55.here hx rfl (pc0 := 77) (pc' := 92) rfl (hb hby at_77) rfl ((if0 _ _).trans (teq (by decide)).1) (by decide) (by decide) ?_
        show Steps p.tables e below (T55.setTop (mkF m 92 #[.val (.int p0), .val (.int p1), .val (.ref r), .val (.ref b), .val (.int (if ((p0 &&& (255 : Int32)) &&& (40 : Int32)) = (40 : Int32) then (1 : Int32) else (0 : Int32))), .val (.int (if ((p0 &&& (255 : Int32)) &&& (20 : Int32)) = (20 : Int32) then (1 : Int32) else (0 : Int32))), .val (.int (p0 &&& (255 : Int32))), .val (.int (0 : Int32)), .val (.int (0 : Int32))] [])) _
        refine XS.iload X55.here hx rfl (hb hby at_92) rfl ?_
        show Steps p.tables e below (T55.setTop (mkF m 94 #[.val (.int p0), .val (.int p1), .val (.ref r), .val (.ref b), .val (.int (if ((p0 &&& (255 : Int32)) &&& (40 : Int32)) = (40 : Int32) then (1 : Int32) else (0 : Int32))), .val (.int (if ((p0 &&& (255 : Int32)) &&& (20 : Int32)) = (20 : Int32) then (1 : Int32) else (0 : Int32))), .val (.int (p0 &&& (255 : Int32))), .val (.int (0 : Int32)), .val (.int (0 : Int32))] [(.int (if ((p0 &&& (255 : Int32)) &&& (40 : Int32)) = (40 : Int32) then (1 : Int32) else (0 : Int32)))])) _
        refine XS.iload X55.here hx rfl (hb hby at_94) rfl ?_
        exact k
      have hd : (if ((p0 &&& (255 : Int32)) &&& (40 : Int32)) = (40 : Int32) then (1 : Int32) else (0 : Int32)) = (0 : Int32) := by
        first | exact if_pos (own_dom _ b5 b3) | exact if_neg fun q => b5 (own_dom5 _ q) | exact if_neg fun q => b3 (own_dom3 _ q)
      have R67 : ∀ t, Steps p.tables e below (T55.setTop (mkF m 103 #[.val (.int p0), .val (.int p1), .val (.ref r), .val (.ref b), .val (.int (if ((p0 &&& (255 : Int32)) &&& (40 : Int32)) = (40 : Int32) then (1 : Int32) else (0 : Int32))), .val (.int (if ((p0 &&& (255 : Int32)) &&& (20 : Int32)) = (20 : Int32) then (1 : Int32) else (0 : Int32))), .val (.int (p0 &&& (255 : Int32))), .val (.int (0 : Int32)), .val (.int (0 : Int32))] [(.int (0 : Int32)), (.int (if ((p0 &&& (255 : Int32)) &&& (20 : Int32)) = (20 : Int32) then (1 : Int32) else (0 : Int32)))])) t → Steps p.tables e below (s₁.setTop (entryFrame m #[(.int p0), (.int p1)] maxLocals)) t := by
        intro t k
        refine R66 t ?_
        show Steps p.tables e below (T55.setTop (mkF m 96 #[.val (.int p0), .val (.int p1), .val (.ref r), .val (.ref b), .val (.int (if ((p0 &&& (255 : Int32)) &&& (40 : Int32)) = (40 : Int32) then (1 : Int32) else (0 : Int32))), .val (.int (if ((p0 &&& (255 : Int32)) &&& (20 : Int32)) = (20 : Int32) then (1 : Int32) else (0 : Int32))), .val (.int (p0 &&& (255 : Int32))), .val (.int (0 : Int32)), .val (.int (0 : Int32))] [(.int (0 : Int32)), (.int (if ((p0 &&& (255 : Int32)) &&& (40 : Int32)) = (40 : Int32) then (1 : Int32) else (0 : Int32)))])) _
        refine XS.icmpNo X55.here hx rfl (hb hby at_96) rfl (teq hd).2 ?_
        show Steps p.tables e below (T55.setTop (mkF m 99 #[.val (.int p0), .val (.int p1), .val (.ref r), .val (.ref b), .val (.int (if ((p0 &&& (255 : Int32)) &&& (40 : Int32)) = (40 : Int32) then (1 : Int32) else (0 : Int32))), .val (.int (if ((p0 &&& (255 : Int32)) &&& (20 : Int32)) = (20 : Int32) then (1 : Int32) else (0 : Int32))), .val (.int (p0 &&& (255 : Int32))), .val (.int (0 : Int32)), .val (.int (0 : Int32))] [])) _
        refine XS.iload X55.here hx rfl (hb hby at_99) rfl ?_
        show Steps p.tables e below (T55.setTop (mkF m 101 #[.val (.int p0), .val (.int p1), .val (.ref r), .val (.ref b), .val (.int (if ((p0 &&& (255 : Int32)) &&& (40 : Int32)) = (40 : Int32) then (1 : Int32) else (0 : Int32))), .val (.int (if ((p0 &&& (255 : Int32)) &&& (20 : Int32)) = (20 : Int32) then (1 : Int32) else (0 : Int32))), .val (.int (p0 &&& (255 : Int32))), .val (.int (0 : Int32)), .val (.int (0 : Int32))] [(.int (if ((p0 &&& (255 : Int32)) &&& (20 : Int32)) = (20 : Int32) then (1 : Int32) else (0 : Int32)))])) _
        refine XS.iload X55.here hx rfl (hb hby at_101) rfl ?_
        exact k
      have hi : (if ((p0 &&& (255 : Int32)) &&& (20 : Int32)) = (20 : Int32) then (1 : Int32) else (0 : Int32)) = (0 : Int32) := by
        first | exact if_pos (own_int _ b4 b2) | exact if_neg fun q => b4 (own_int4 _ q) | exact if_neg fun q => b2 (own_int2 _ q)
      have R68 : ∀ t, Steps p.tables e below (T55.setTop (mkF m 111 #[.val (.int p0), .val (.int p1), .val (.ref r), .val (.ref b), .val (.int (if ((p0 &&& (255 : Int32)) &&& (40 : Int32)) = (40 : Int32) then (1 : Int32) else (0 : Int32))), .val (.int (if ((p0 &&& (255 : Int32)) &&& (20 : Int32)) = (20 : Int32) then (1 : Int32) else (0 : Int32))), .val (.int (p0 &&& (255 : Int32))), .val (.int (0 : Int32)), .val (.int (0 : Int32))] [(.int (1 : Int32))])) t → Steps p.tables e below (s₁.setTop (entryFrame m #[(.int p0), (.int p1)] maxLocals)) t := by
        intro t k
        refine R67 t ?_
        show Steps p.tables e below (T55.setTop (mkF m 103 #[.val (.int p0), .val (.int p1), .val (.ref r), .val (.ref b), .val (.int (if ((p0 &&& (255 : Int32)) &&& (40 : Int32)) = (40 : Int32) then (1 : Int32) else (0 : Int32))), .val (.int (if ((p0 &&& (255 : Int32)) &&& (20 : Int32)) = (20 : Int32) then (1 : Int32) else (0 : Int32))), .val (.int (p0 &&& (255 : Int32))), .val (.int (0 : Int32)), .val (.int (0 : Int32))] [(.int (0 : Int32)), (.int (if ((p0 &&& (255 : Int32)) &&& (20 : Int32)) = (20 : Int32) then (1 : Int32) else (0 : Int32)))])) _
        refine XS.icmpNo X55.here hx rfl (hb hby at_103) rfl (teq hi).2 ?_
        show Steps p.tables e below (T55.setTop (mkF m 106 #[.val (.int p0), .val (.int p1), .val (.ref r), .val (.ref b), .val (.int (if ((p0 &&& (255 : Int32)) &&& (40 : Int32)) = (40 : Int32) then (1 : Int32) else (0 : Int32))), .val (.int (if ((p0 &&& (255 : Int32)) &&& (20 : Int32)) = (20 : Int32) then (1 : Int32) else (0 : Int32))), .val (.int (p0 &&& (255 : Int32))), .val (.int (0 : Int32)), .val (.int (0 : Int32))] [])) _
        refine XS.iconst X55.here hx rfl (hb hby at_106) ?_
        show Steps p.tables e below (T55.setTop (mkF m 107 #[.val (.int p0), .val (.int p1), .val (.ref r), .val (.ref b), .val (.int (if ((p0 &&& (255 : Int32)) &&& (40 : Int32)) = (40 : Int32) then (1 : Int32) else (0 : Int32))), .val (.int (if ((p0 &&& (255 : Int32)) &&& (20 : Int32)) = (20 : Int32) then (1 : Int32) else (0 : Int32))), .val (.int (p0 &&& (255 : Int32))), .val (.int (0 : Int32)), .val (.int (0 : Int32))] [(.int (1 : Int32))])) _
        refine XS.goto X55.here hx rfl (pc0 := 107) (pc' := 111) rfl (hb hby at_107) (by decide) (by decide) ?_
        exact k
      obtain ⟨fs, hr, hrun, hended, hW, hsame⟩ := X55.leave (v := some (.int (1 : Int32))) (fun h => by rw [Bd.returns] at h; cases h)
      refine ⟨_, _, R68 _ ?_, hrun, hended, _, _, rfl, ?_, ⟨_, rfl⟩, hW, hsame.mono (by decide) (by decide)⟩
      · exact retN X55 hx (t := .boolean) Bd.returns (by simp) (hb hby at_111) hr
      · show Q0 Z p0 p1 h0 n0 _ T55.heap _
        rw [e55]
        exact ⟨rfl, N55⟩
set_option maxRecDepth 65536 in
set_option maxHeartbeats 40000000 in
theorem comes_1 {Post : Tables → Env → Array Value → State → Outcome → State → Prop} (hpost : ∀ tb e args s v u, (limb_1_1.after args s (.returned v) u = true ∧ limb_1_2.after args s (.returned v) u = true ∧ True) → FrameEnd s (.returned v) u (Jvm.fieldLocs frame_1_writes args s ++ Jvm.arrayLocs frame_1_arrays args s ++ Jvm.staticLocs frame_1_statics s) 16 128 → Post tb e args s (.returned v) u) :
    ArmFor flags0 classFile x code maxLocals ret World_1 tables_1 room_1 Calls_1 rest_1 Pre_1 Post := by
  intro l hfl _ _ p e ha hc hk s m args below hf hA hF happ hP
  obtain ⟨hcalls, hrest, hpre⟩ := hP
  obtain ⟨-, -, -, hnamed, -, -, -, hat⟩ := (Spec.applies_iff hf).mp happ
  obtain ⟨hg, hn⟩ := and_e (Cond.before_iff.mp (show (Jvm.Cond.and given_1 narrow_1).before args s = true from hpre))
  obtain ⟨hcount, hg0⟩ := and_e hg
  obtain ⟨hi0, hg1⟩ := and_e hg0
  have hi1 := hg1
  obtain ⟨w0, w1, rfl⟩ : ∃ w0 w1 : Value, args = #[w0, w1] := by
    have hs : args.size = 2 := by simpa [Cond.value, given_1] using hcount
    obtain ⟨L⟩ := args
    match L, hs with
    | [w0, w1], _ => exact ⟨w0, w1, rfl⟩
  have hw := fun d (hd : d ∈ tables_1) => atoms_spec (ws := Jvm.Cond.code x code maxLocals ret :: tables_1) hat d (List.mem_cons_of_mem _ hd)
  have hfit : Fit s := fun {y c} hc i hi => by
    obtain ⟨ha, rfl⟩ := Array.getElem?_eq_some_iff.mp hc
    have q := List.all_eq_true.mp ((Array.all_eq_true_iff_forall_mem.mp hF) _ (Array.getElem_mem ha)) i (List.mem_range.mpr hi)
    simpa [Array.getElem?_eq_getElem hi] using q
  obtain ⟨i0, ei0⟩ := is_v hi0
  obtain rfl : w0 = (.int i0) := Option.some.inj ei0
  obtain ⟨i1, ei1⟩ := is_v hi1
  obtain rfl : w1 = (.int i1) := Option.some.inj ei1
  obtain ⟨n, o, h1, h2, h3, _, L, rfl, ⟨rfl, N⟩, hq⟩ := rm0 l s _ hw tables_1 i0 i1 s.heap s.heap.size (Nat.le_refl _) p e ha hc hk s m _ below hf ((Spec.applies_iff_loose hf).mp happ).1 ⟨rfl, State.Warmed39.refl s, rfl⟩ trivial
  refine ⟨n, _, h1, h2, h3, hpost _ _ _ _ _ _ ⟨Cond.after_iff.mpr rfl, Cond.after_iff.mpr (eq_i res_at (Term.int_eval (1)) rfl), trivial⟩ ⟨hq.1, hq.2.1, (hq.2.2.sift fun y hy => Or.inr (N y hy)).mono (by decide) (by decide)⟩⟩
theorem main_1_1 : Claimed_1_1 := comes_1 fun _ _ _ _ _ _ h hF => ⟨h.1, hF⟩
theorem main_1_2 : Claimed_1_2 := comes_1 fun _ _ _ _ _ _ h hF => ⟨h.2.1, hF⟩
end Jvm.Pilot.@@N@@
namespace Jvm.Pilot.@@N@@
open Jvm Jvm.ClassFile Sem Op Lib Jvm.Free Jvm.Stand Jvm.Pilot.@@N@@.Jvm.D
/-! MADE BY PROGRAM (witnessworld.py) out of the Statement's table words and the real class files: 9 classes; the members and pool entries that the words name. The judged class is class 1, her method 2. -/
namespace start1
open Jvm.ClassFile
def u (s : String) : CpInfo := .utf8 (stringToUtf16 s)
/-- a pool by its gaps: so many unusable entries, then the entry; so many at the end -/
def gap : Nat → List CpInfo → List CpInfo
  | 0, r => r
  | n + 1, r => .unusable :: gap n r
def poolList (es : List (Nat × CpInfo)) (last : Nat) : List CpInfo := es.foldr (fun e r => gap e.1 (e.2 :: r)) (gap last [])
def pool (es : List (Nat × CpInfo)) (last : Nat) : Array CpInfo := ⟨poolList es last⟩
def fileOf (pool : Array CpInfo) (this : Nat) (attrs : Array Attribute := #[]) (ms : Array MethodInfo := #[]) (fl : Nat := 33) (sup : Nat := 0) (ifs : Array Nat := #[]) (fds : Array FieldInfo := #[]) : ClassFile where
  minorVersion := 0
  majorVersion := 65
  constantPool := pool
  accessFlags := fl
  thisClass := this
  superClass := sup
  interfaces := ifs
  fields := fds
  methods := ms
  attributes := attrs
def plain (name : String) (sup : Option ClassId) : Class where
  name := name
  kind := .ordinary
  loader := none
  accessFlags := 33
  super := sup
  interfaces := #[]
  cf := none
  fields := #[]
  methods := #[]
  instanceTypes := #[]
  staticTypes := #[]
  resolved := #[]
  callSites := []
  init := .initialized
  statics := none
  mirror := none

def pool0 : Array CpInfo := pool [(5, u "<init>"), (0, u "()V"), (1, .class_ 10), (1, u "java/lang/Object")] 113

def k0c0 : Code := { maxStack := 0, maxLocals := 1, code := object_method_1_code, exceptionTable := #[], attributes := #[] }
def k0m0 : Method := { name := "<init>", desc := "()V", sig := { parameters := [], returnType := none }, accessFlags := 1, code := some k0c0 }
/-- java/lang/Object -/
def k0 : Class := { plain "java/lang/Object" none with
  accessFlags := 33
  interfaces := #[]
  cf := some (fileOf pool0 8 #[] #[{ accessFlags := 1, nameIndex := 5, descriptorIndex := 6, attributes := #[] }] 33 0 #[] #[])
  fields := #[]
  methods := #[k0m0]
  instanceTypes := #[]
  staticTypes := #[]
  resolved := Array.replicate 124 none
  statics := none }

def pool1 : Array CpInfo := pool [(2, .class_ 4), (1, u "java/lang/Object"), (0, u "<init>"), (0, u "()V"), (0, .class_ 8), (0, u "com/example/tapline/reader/ApplicationUsageControl"), (0, .methodref 7 10), (0, .nameAndType 5 11), (0, u "([B)V"), (0, .methodref 7 13), (0, .nameAndType 14 15), (0, u "allowsPurchase"), (0, u "(Z)Z"), (0, .methodref 17 18), (0, .class_ 19), (0, .nameAndType 20 21), (0, u "com/example/tapline/reader/ApplicationUsageControlAllowsPurchasePinLaw"), (0, u "bit"), (0, u "(II)Z"), (3, u "law")] 4

def k1m0 : Method := { name := "<init>", desc := "()V", sig := { parameters := [], returnType := none }, accessFlags := 1, code := none }
def k1c1 : Code := { maxStack := 2, maxLocals := 2, code := method_2_code, exceptionTable := #[], attributes := #[] }
def k1m1 : Method := { name := "bit", desc := "(II)Z", sig := { parameters := [.int, .int], returnType := some .boolean }, accessFlags := 10, code := some k1c1 }
def k1c2 : Code := { maxStack := 3, maxLocals := 9, code := code, exceptionTable := #[], attributes := #[] }
def k1m2 : Method := { name := "law", desc := "(II)Z", sig := { parameters := [.int, .int], returnType := some .boolean }, accessFlags := 9, code := some k1c2 }
/-- com/example/tapline/reader/ApplicationUsageControlAllowsPurchasePinLaw -/
def k1 : Class := { plain "com/example/tapline/reader/ApplicationUsageControlAllowsPurchasePinLaw" (some 0) with
  accessFlags := 49
  interfaces := #[]
  cf := some (fileOf pool1 17 #[] #[{ accessFlags := 1, nameIndex := 5, descriptorIndex := 6, attributes := #[] }, { accessFlags := 10, nameIndex := 20, descriptorIndex := 21, attributes := #[] }, { accessFlags := 9, nameIndex := 25, descriptorIndex := 21, attributes := #[] }] 49 2 #[] #[])
  fields := #[]
  methods := #[k1m0, k1m1, k1m2]
  instanceTypes := #[]
  staticTypes := #[]
  resolved := Array.replicate 30 none
  statics := none }

def pool2 : Array CpInfo := pool [(1, .methodref 2 3), (0, .class_ 4), (0, .nameAndType 5 6), (0, u "java/lang/Object"), (0, u "<init>"), (0, u "()V"), (0, .class_ 8), (0, u "com/example/tapline/reader/ApplicationUsageControl"), (9, .fieldref 7 19), (0, .nameAndType 20 21), (0, u "byte1"), (0, u "I"), (0, u "LENGTH"), (2, u "DOMESTIC_GOODS"), (1, u "INTERNATIONAL_GOODS"), (1, u "DOMESTIC_SERVICES"), (1, u "INTERNATIONAL_SERVICES"), (1, u "TERMINALS_OTHER_THAN_ATMS"), (1, u "([B)V"), (7, u "allowsPurchase"), (0, u "(Z)Z")] 17

def k2c0 : Code := { maxStack := 3, maxLocals := 2, code := prog_99_method_1_code, exceptionTable := #[], attributes := #[] }
def k2m0 : Method := { name := "<init>", desc := "([B)V", sig := { parameters := [(.array .byte)], returnType := none }, accessFlags := 0, code := some k2c0 }
def k2c1 : Code := { maxStack := 2, maxLocals := 3, code := prog_99_method_3_code, exceptionTable := #[], attributes := #[] }
def k2m1 : Method := { name := "allowsPurchase", desc := "(Z)Z", sig := { parameters := [.boolean], returnType := some .boolean }, accessFlags := 0, code := some k2c1 }
/-- com/example/tapline/reader/ApplicationUsageControl -/
def k2 : Class := { plain "com/example/tapline/reader/ApplicationUsageControl" (some 0) with
  accessFlags := 48
  interfaces := #[]
  cf := some (fileOf pool2 7 #[] #[{ accessFlags := 0, nameIndex := 5, descriptorIndex := 35, attributes := #[] }, { accessFlags := 0, nameIndex := 43, descriptorIndex := 44, attributes := #[] }] 48 2 #[] #[{ accessFlags := 24, nameIndex := 22, descriptorIndex := 21, attributes := #[] }, { accessFlags := 26, nameIndex := 25, descriptorIndex := 21, attributes := #[] }, { accessFlags := 26, nameIndex := 27, descriptorIndex := 21, attributes := #[] }, { accessFlags := 26, nameIndex := 29, descriptorIndex := 21, attributes := #[] }, { accessFlags := 26, nameIndex := 31, descriptorIndex := 21, attributes := #[] }, { accessFlags := 26, nameIndex := 33, descriptorIndex := 21, attributes := #[] }, { accessFlags := 18, nameIndex := 20, descriptorIndex := 21, attributes := #[] }])
  fields := #[{ name := "LENGTH", type := .int, accessFlags := 24, slot := 0, constantValue := 0 }, { name := "DOMESTIC_GOODS", type := .int, accessFlags := 26, slot := 1, constantValue := 0 }, { name := "INTERNATIONAL_GOODS", type := .int, accessFlags := 26, slot := 2, constantValue := 0 }, { name := "DOMESTIC_SERVICES", type := .int, accessFlags := 26, slot := 3, constantValue := 0 }, { name := "INTERNATIONAL_SERVICES", type := .int, accessFlags := 26, slot := 4, constantValue := 0 }, { name := "TERMINALS_OTHER_THAN_ATMS", type := .int, accessFlags := 26, slot := 5, constantValue := 0 }, { name := "byte1", type := .int, accessFlags := 18, slot := 0, constantValue := 0 }]
  methods := #[k2m0, k2m1]
  instanceTypes := #[.int]
  staticTypes := #[.int, .int, .int, .int, .int, .int]
  resolved := Array.replicate 62 none
  statics := none }

def pool3 : Array CpInfo := pool [(1, u "java/lang/Cloneable"), (0, .class_ 1), (0, u "java/lang/Object"), (0, .class_ 3)] 3

/-- java/lang/Cloneable -/
def k3 : Class := { plain "java/lang/Cloneable" (some 0) with
  accessFlags := 1537
  interfaces := #[]
  cf := some (fileOf pool3 2 #[] #[] 1537 4 #[] #[])
  fields := #[]
  methods := #[]
  instanceTypes := #[]
  staticTypes := #[]
  resolved := Array.replicate 8 none
  statics := none }

def pool4 : Array CpInfo := pool [(1, u "java/io/Serializable"), (0, .class_ 1), (0, u "java/lang/Object"), (0, .class_ 3)] 3

/-- java/io/Serializable -/
def k4 : Class := { plain "java/io/Serializable" (some 0) with
  accessFlags := 1537
  interfaces := #[]
  cf := some (fileOf pool4 2 #[] #[] 1537 4 #[] #[])
  fields := #[]
  methods := #[]
  instanceTypes := #[]
  staticTypes := #[]
  resolved := Array.replicate 8 none
  statics := none }

/-- the primitive byte -/
def k5 : Class := { plain "byte" none with kind := .primitive 'B', accessFlags := 0x411 }
/-- [B -/
def k6 : Class := { plain "[B" (some 0) with kind := .array 5 .byte, interfaces := #[3, 4], accessFlags := 1041 }

/-- the primitive int -/
def k7 : Class := { plain "int" none with kind := .primitive 'I', accessFlags := 0x411 }
/-- [I -/
def k8 : Class := { plain "[I" (some 0) with kind := .array 7 .int, interfaces := #[3, 4], accessFlags := 1041 }

def heap : Heap := #[]
def classes : Array Class := #[k0, k1, k2, k3, k4, k5, k6, k7, k8]
def interned : List (Array UInt16 × Addr) := []
def slotsUsed : Nat := 0
def theMethod : MethodId := ⟨1, 2⟩
def args0 : Array Value := #[.int 5, .int 2]
def aboutOver (below : List Frame) : State where
  vm := { classes := classes, interned := interned.toArray }
  heap := heap
  slotsUsed := slotsUsed
  threads := #[{ frames := .invoking theMethod args0 :: below }]
def below0 : List Frame := [.native { method := ⟨0, 0⟩, args := #[] }]
def about1 : State := aboutOver below0
def p0 : Program := .bare "" "" ""
def e0 : Env := launch0.env 0 0 0
theorem w_frames : about1.frames = Frame.invoking theMethod args0 :: below0 := rfl
set_option maxRecDepth 65536 in
theorem w_args : argsFit about1.vm theMethod args0 = true := by decide +kernel
set_option maxRecDepth 65536 in
theorem w_heap : heapFits about1 = true := by decide +kernel
set_option maxRecDepth 65536 in
theorem w_runnable : about1.curStatus? = some .runnable := by decide +kernel
set_option maxRecDepth 65536 in
theorem w_alone : about1.alone = true := by decide +kernel
set_option maxRecDepth 65536 in
theorem w_named : about1.methodNamed? x = some theMethod := by decide +kernel
set_option maxRecDepth 65536 in
theorem w_hears : about1.hears theMethod below0 = true := by decide +kernel
set_option maxRecDepth 65536 in
theorem w_ripe : about1.ripe theMethod args0 below0 = true := by decide +kernel
theorem w_running : about1.status = .running := rfl
set_option maxRecDepth 65536 in
theorem w_room : about1.hasRoom e0.platform room_1 = true :=
  launch0.hasRoom_least _ room_1 (by decide +kernel) (by decide +kernel) (by decide +kernel) (by decide +kernel) (by decide +kernel) (by decide +kernel)
theorem allAtoms_all (ts : List Jvm.Cond) (a : Array Jvm.Value) (st : Jvm.State) : (allAtoms ts).before a st = ts.all (fun c => c.before a st) := by
  induction ts with
  | nil => rfl
  | cons c t ih =>
    show (Jvm.Cond.and c (allAtoms t)).before a st = _
    rw [Jvm.Cond.before_and, ih, List.all_cons]
def words1 : List Jvm.Cond := Jvm.Cond.code x code maxLocals ret :: tables_1
/-- a 'code' word, met by the world's own term for the bytes: nothing is compared byte by byte -/
theorem code_word {y : MethodName} {bytes : ByteArray} {mx : Nat} {rt : Option FieldType} {a : Array Value} {s : State} {m : MethodId} {meth : Method} {c : Code} (h1 : s.methodNamed? y = some m) (h2 : s.vm.method? m = some meth) (h3 : meth.code = some c) (h4 : c.code = bytes)
    (h5 : (c.maxLocals == mx && c.exceptionTable.isEmpty && decide (c.maxStack ≤ mostOperands) && decide (meth.sig.returnType = rt) && !meth.locks && decide (parseMethodDescriptor y.desc = some meth.sig)) = true) : (Jvm.Cond.code y bytes mx rt).before a s = true := by
  simp only [Bool.and_eq_true, beq_iff_eq, Bool.not_eq_true', decide_eq_true_eq] at h5
  obtain ⟨⟨⟨⟨⟨g1, g2⟩, g3⟩, g4⟩, g5⟩, g6⟩ := h5
  simp [Cond.before, Cond.holds, Cond.value, h1, h2, h3, h4, g1, g2, g3, g4, g5, g6]
def isCode : Jvm.Cond → Bool
  | .code _ _ _ _ => true
  | _ => false
theorem all_split {L : List Jvm.Cond} {P : Jvm.Cond → Bool} (h1 : L.all (fun c => isCode c || P c) = true) (h2 : ∀ c ∈ L.filter isCode, P c = true) : L.all P = true := by
  refine List.all_eq_true.mpr fun c hc => ?_
  have h := List.all_eq_true.mp h1 c hc
  rcases Bool.eq_false_or_eq_true (isCode c) with hi | hi
  · exact h2 c (List.mem_filter.mpr ⟨hc, hi⟩)
  · simpa [hi] using h
set_option maxRecDepth 65536 in
theorem w_c0 : (Jvm.Cond.code x code maxLocals ret).before args0 about1 = true := code_word (m := ⟨1, 2⟩) (meth := k1m2) (c := k1c2) (by decide +kernel) rfl rfl rfl (by decide +kernel)
set_option maxRecDepth 65536 in
theorem w_c1 : (Jvm.Cond.code ({ cls := "com/example/tapline/reader/ApplicationUsageControl", name := "<init>", desc := "([B)V" } : Jvm.MethodName) prog_99_method_1_code (2 : Nat) (Option.none : Option Jvm.ClassFile.FieldType)).before args0 about1 = true := code_word (m := ⟨2, 0⟩) (meth := k2m0) (c := k2c0) (by decide +kernel) rfl rfl rfl (by decide +kernel)
set_option maxRecDepth 65536 in
theorem w_c2 : (Jvm.Cond.code ({ cls := "java/lang/Object", name := "<init>", desc := "()V" } : Jvm.MethodName) object_method_1_code (1 : Nat) (Option.none : Option Jvm.ClassFile.FieldType)).before args0 about1 = true := code_word (m := ⟨0, 0⟩) (meth := k0m0) (c := k0c0) (by decide +kernel) rfl rfl rfl (by decide +kernel)
set_option maxRecDepth 65536 in
theorem w_c3 : (Jvm.Cond.code ({ cls := "com/example/tapline/reader/ApplicationUsageControl", name := "allowsPurchase", desc := "(Z)Z" } : Jvm.MethodName) prog_99_method_3_code (3 : Nat) (Option.some Jvm.ClassFile.FieldType.boolean)).before args0 about1 = true := code_word (m := ⟨2, 1⟩) (meth := k2m1) (c := k2c1) (by decide +kernel) rfl rfl rfl (by decide +kernel)
set_option maxRecDepth 65536 in
theorem w_c4 : (Jvm.Cond.code ({ cls := "com/example/tapline/reader/ApplicationUsageControlAllowsPurchasePinLaw", name := "bit", desc := "(II)Z" } : Jvm.MethodName) method_2_code (2 : Nat) (Option.some Jvm.ClassFile.FieldType.boolean)).before args0 about1 = true := code_word (m := ⟨1, 1⟩) (meth := k1m1) (c := k1c1) (by decide +kernel) rfl rfl rfl (by decide +kernel)
def codes1 : List Jvm.Cond := [Jvm.Cond.code x code maxLocals ret, Jvm.Cond.code ({ cls := "com/example/tapline/reader/ApplicationUsageControl", name := "<init>", desc := "([B)V" } : Jvm.MethodName) prog_99_method_1_code (2 : Nat) (Option.none : Option Jvm.ClassFile.FieldType), Jvm.Cond.code ({ cls := "java/lang/Object", name := "<init>", desc := "()V" } : Jvm.MethodName) object_method_1_code (1 : Nat) (Option.none : Option Jvm.ClassFile.FieldType), Jvm.Cond.code ({ cls := "com/example/tapline/reader/ApplicationUsageControl", name := "allowsPurchase", desc := "(Z)Z" } : Jvm.MethodName) prog_99_method_3_code (3 : Nat) (Option.some Jvm.ClassFile.FieldType.boolean), Jvm.Cond.code ({ cls := "com/example/tapline/reader/ApplicationUsageControlAllowsPurchasePinLaw", name := "bit", desc := "(II)Z" } : Jvm.MethodName) method_2_code (2 : Nat) (Option.some Jvm.ClassFile.FieldType.boolean)]
set_option maxRecDepth 65536 in
theorem codes_eq : words1.filter isCode = codes1 := rfl
theorem w_codes : ∀ c ∈ words1.filter isCode, c.before args0 about1 = true := by
  rw [codes_eq]
  intro c hc
  simp only [codes1, List.mem_cons, List.not_mem_nil, or_false] at hc
  rcases hc with rfl | rfl | rfl | rfl | rfl
  · exact w_c0
  · exact w_c1
  · exact w_c2
  · exact w_c3
  · exact w_c4
set_option maxRecDepth 65536 in
theorem w_t1 : words1.all (fun c => isCode c || c.before args0 about1) = true := by decide +kernel
theorem w_tables : (allAtoms (Jvm.Cond.code x code maxLocals ret :: tables_1)).before args0 about1 = true := by
  rw [allAtoms_all]
  show words1.all (fun c => c.before args0 about1) = true
  refine all_split ?_ w_codes
  rw [w_t1]
set_option maxRecDepth 65536 in
theorem w_case : (Jvm.Cond.and given_1 narrow_1).before args0 about1 = true := by decide +kernel
theorem w_applies : (headSpec (Jvm.Cond.code x code maxLocals ret :: tables_1) room_1).applies x e0.platform about1 = true :=
  (Spec.applies_iff w_frames).mpr ⟨w_running, w_runnable, w_alone, w_named, w_hears, w_ripe, w_room, w_tables⟩
theorem atStart : AtStart classFile x code maxLocals ret World_1 tables_1 room_1 Calls_1 rest_1 Pre_1 launch0 p0 e0 about1 theMethod args0 below0 :=
  ⟨lists_1, trivial, launch0.admits_env _ _ _, launch0.least_env, fairChoices_fair.cas, fairChoices_fair.clock, w_frames, w_args, w_heap, w_applies, trivial, trivial, w_case⟩
end start1
theorem witness_1 : WitnessClaimed_1 := ⟨start1.p0, start1.e0, start1.about1, start1.theMethod, start1.args0, start1.below0, start1.atStart⟩
end Jvm.Pilot.@@N@@
