import JvmDerived
import JvmDerived.Pilot.@@N@@Statement
import JvmDerived.Pilot.@@N@@Code
set_option linter.unusedVariables false
set_option linter.unusedSimpArgs false
namespace Jvm.RoadKit
open Sem ClassFile Op Lib Jvm.Stand Jvm.Free Jvm.LawKit
section New
variable {p : Program} {l : Launch} {e : Env} {R : Room} {s : State} {m : MethodId} {args : Array Value} {below : List Frame} {meth : Method} {c : Code} {T : State} {locs : List Loc} {cells slots : Nat}
theorem retI (X : Stand p l e R s m args below meth c T locs cells slots) (hx : p.tables.exec = Jvm.exec) {pc : Nat} {Ls : Array Slot} {z : Int32} {rest : List Value} (hret : meth.sig.returnType = some .int) (hd : decode c.code pc = .ok (.ireturn, 1)) {fs : List Frame}
    (hl : ∀ (f : JFrame) (acts : List Action), f.method = m → f.locked = none → f.entered = [] → (doReturn e (T.setTop f) acts (some (.int z))).1 = T.setFrames fs) : Steps p.tables e below (T.setTop (mkF m pc Ls (.int z :: rest))) (T.setFrames fs) := by
  have hm' : T.vm.method? m = some meth := X.method'
  have hn : narrow .int (.int z) = .int z := rfl
  show Steps p.tables e below (T.setTop { method := m, pc := pc, locals := Ls, stack := _ :: rest, locked := none }) _
  jvm_step X.here [X.here.top, hx, hd, hm', hret, hn]
  first | (intro acts; rw [hl _ acts rfl rfl rfl]) | rw [hl _ _ rfl rfl rfl]
  exact Steps.refl _
end New
end Jvm.RoadKit
/- laws to paste: Road.backV (cut by pick.py; bodies as the Statement names them) -/
namespace Jvm.Pilot.@@N@@
namespace StrChars
open Jvm Sem ClassFile Op Lib Jvm.Stand Jvm.Free.XT Jvm.Free.ALB Jvm.Free.JM Jvm.Free
open Jvm.Lib.Cold (StaticIs)
/-- a char array whose places are chars -/
def Ch (a : Addr) (A : Cell) (U : State) : Prop := Arr .char a A U ∧ Typed .char A
theorem Ch.mv {a : Addr} {A : Cell} {U U' : State} (h : Ch a A U) (hal : U.vm.Alike U'.vm) (hh : U'.heap = U.heap) : Ch a A U' := ⟨h.1.mv hal hh, h.2⟩
theorem Ch.keep {a : Addr} {A : Cell} {U U' : State} (h : Ch a A U) (hal : U.vm.Alike U'.vm) (hk : U'.heap[a]? = some A) : Ch a A U' := ⟨h.1.keep hal hk, h.2⟩
/-- what place i of a char[]'s cell holds -/
def cv (A : Cell) (i : Nat) : Int32 := match A.slots[i]? with | some (.int x) => x | _ => 0
theorem Ch.get {a : Addr} {A : Cell} {U : State} (h : Ch a A U) {i : Nat} (hi : i < A.slots.size) : A.slots[i]? = some (.int (cv A i)) := by
  have e := Array.getElem?_eq_getElem hi
  have f := h.2 i _ e
  unfold cv; rw [e]
  generalize A.slots[i] = v at f
  cases v <;> simp [fits] at f ⊢
/-- the byte that i2b leaves of a char -/
def lo8 (x : Int32) : Int32 := x.toInt8.toInt32
theorem fits_lo8 (y : Int32) : fits .byte (.int (lo8 y)) = true := by
  have h1 := y.toInt8.le_toInt
  have h2 := y.toInt8.toInt_lt
  simp only [lo8, fits, Bool.and_eq_true, decide_eq_true_eq, Int32.le_iff_toInt_le, Int8.toInt_toInt32, show (-128 : Int32).toInt = -128 from by decide, show (127 : Int32).toInt = 127 from by decide]
  omega
/-- A' is A but that each place j of lo .. hi - 1 holds f j -/
def Laid (A A' : Cell) (lo hi : Nat) (f : Nat → Value) : Prop := A'.cls = A.cls ∧ A'.vm = A.vm ∧ A'.slots.size = A.slots.size ∧ ∀ i, A'.slots[i]? = if lo ≤ i ∧ i < hi then some (f i) else A.slots[i]?
theorem Laid.zero (A : Cell) (lo : Nat) (f : Nat → Value) : Laid A A lo (lo + 0) f := ⟨rfl, rfl, rfl, fun i => by rw [if_neg (by omega)]⟩
theorem Laid.step {A Ak : Cell} {lo k : Nat} {f : Nat → Value} {v : Value} (h : Laid A Ak lo k f) (hlo : lo ≤ k) (hk : k < Ak.slots.size) (hv : v = f k) : Laid A (Ak.setSlot k v) lo (k + 1) f := by
  refine ⟨h.1, h.2.1, by simpa [Cell.setSlot] using h.2.2.1, fun i => ?_⟩
  by_cases e : k = i
  · subst e; rw [Cell.slots_setSlot_self v hk, if_pos (by omega), hv]
  · rw [Cell.slots_setSlot_ne v e, h.2.2.2 i]
    by_cases q : lo ≤ i ∧ i < k
    · rw [if_pos q, if_pos (by omega)]
    · rw [if_neg q, if_neg (by omega)]
def U16 : String := "java/lang/StringUTF16"
namespace Cmp5
def yN : MethodName := ⟨"java/lang/StringUTF16", "compress", "([CI[BII)I"⟩
abbrev yB : ByteArray := jdk_52_method_21_code
theorem d0 : decode yB 0 = .ok (.iconst 0, 1) := by decide +kernel
theorem d1 : decode yB 1 = .ok (.istore 5, 2) := by decide +kernel
theorem d3 : decode yB 3 = .ok (.iload 5, 2) := by decide +kernel
theorem d5 : decode yB 5 = .ok (.iload 4, 2) := by decide +kernel
theorem d7 : decode yB 7 = .ok (.if_icmp (.ge) 37, 3) := by decide +kernel
theorem d10 : decode yB 10 = .ok (.aload_n 0, 1) := by decide +kernel
theorem d11 : decode yB 11 = .ok (.iload_n 1, 1) := by decide +kernel
theorem d12 : decode yB 12 = .ok (.caload, 1) := by decide +kernel
theorem d13 : decode yB 13 = .ok (.istore 6, 2) := by decide +kernel
theorem d15 : decode yB 15 = .ok (.iload 6, 2) := by decide +kernel
theorem d17 : decode yB 17 = .ok (.sipush 255, 3) := by decide +kernel
theorem d20 : decode yB 20 = .ok (.if_icmp (.le) 6, 3) := by decide +kernel
theorem d26 : decode yB 26 = .ok (.aload_n 2, 1) := by decide +kernel
theorem d27 : decode yB 27 = .ok (.iload_n 3, 1) := by decide +kernel
theorem d28 : decode yB 28 = .ok (.iload 6, 2) := by decide +kernel
theorem d30 : decode yB 30 = .ok (.i2b, 1) := by decide +kernel
theorem d31 : decode yB 31 = .ok (.bastore, 1) := by decide +kernel
theorem d32 : decode yB 32 = .ok (.iinc 1 1, 3) := by decide +kernel
theorem d35 : decode yB 35 = .ok (.iinc 3 1, 3) := by decide +kernel
theorem d38 : decode yB 38 = .ok (.iinc 5 1, 3) := by decide +kernel
theorem d41 : decode yB 41 = .ok (.goto (-38), 3) := by decide +kernel
theorem d44 : decode yB 44 = .ok (.iload 4, 2) := by decide +kernel
theorem d46 : decode yB 46 = .ok (.ireturn, 1) := by decide +kernel
def site : List Cond := []
def tab : Cond := tabOf yN yB 7 (some .int) site
def P (b : Addr) (A : Cell) (d : Addr) (B : Cell) (o q len : Nat) (args : Array Value) (s : State) : Prop := args = #[.ref b, .int (Int32.ofNat o), .ref d, .int (Int32.ofNat q), .int (Int32.ofNat len)] ∧ Ch b A s ∧ Arr .byte d B s ∧ b ≠ d ∧ o + len ≤ A.slots.size ∧ q + len ≤ B.slots.size ∧ ∀ i, i < len → ¬ 255 < cv A (o + i)
def E (b : Addr) (A : Cell) (d : Addr) (B : Cell) (o q len : Nat) (r : Option Value) (s u : State) : Prop := r = some (.int (Int32.ofNat len)) ∧ ∃ B', Put d B' s u ∧ Laid B B' q (q + len) (fun j => Value.int (lo8 (cv A (o + (j - q)))))
/-- no char of the range above 255: len; the places written hold each char's low byte -/
theorem law (l : Launch) (b : Addr) (A : Cell) (d : Addr) (B : Cell) (o q len : Nat) : Law l yN 5 5 0 0 yB 7 (some .int) site (P b A d B o q len) (E b A d B o q len) (copyLocs d q len) 0 0 := by
  refine Law.of_walk (plainFor_of_name (by decide +kernel)) (by decide +kernel) (by decide +kernel) (by decide) (fun _ _ h => by rw [h.1]; rfl) (fun _ U U' hal hh h => ⟨h.1, h.2.1.mv hal hh, h.2.2.1.mv hal hh, h.2.2.2⟩) (fun r U U' V V' h1 hal h2 h => ⟨h.1, h.2.elim fun B' q => ⟨B', q.1.mv h1 h2, q.2⟩⟩) ?_
  intro p e s m args below meth c s₁ X0 hexec hbytes hml hret hlk hnm hown hh0 W hP
  obtain ⟨rfl, hA, hB, hne, l1, l2, hp⟩ := hP
  have c1 : Steps p.tables e below (s₁.setTop (entryFrame m #[.ref b, .int (Int32.ofNat o), .ref d, .int (Int32.ofNat q), .int (Int32.ofNat len)] 7)) (s₁.setTop (mkF m 0 #[.val (.ref b), .val (.int (Int32.ofNat o)), .val (.ref d), .val (.int (Int32.ofNat q)), .val (.int (Int32.ofNat len)), .unset, .unset] [])) := entry rfl
  have hA0 := hA.1.mv X0.warmed.alike hh0
  have hB0 := hB.mv X0.warmed.alike hh0
  have a31 := hA.1.2.2.2
  have c2 : Steps p.tables e below (s₁.setTop (entryFrame m #[.ref b, .int (Int32.ofNat o), .ref d, .int (Int32.ofNat q), .int (Int32.ofNat len)] 7)) (s₁.setTop (mkF m 3 #[.val (.ref b), .val (.int (Int32.ofNat o)), .val (.ref d), .val (.int (Int32.ofNat q)), .val (.int (Int32.ofNat len)), .val (.int 0), .unset] [])) := c1.trans (by
    refine iconstV X0.here hexec rfl 0 (hb hbytes d0) (by decide) ?_
    refine XS.istore X0.here hexec rfl (hb hbytes d1) rfl rfl ?_
    exact Steps.refl _)
  have loop : ∀ (r i : Nat), i + r = len → ∀ (z : Slot), (z = .unset ∨ ∃ w, z = .val w ∧ w.category = 1) → ∀ (Tl : State) (Bk : Cell), Stand p l e { frames := 0, locals := 0, cells := 0, slots := 0 } s m #[.ref b, .int (Int32.ofNat o), .ref d, .int (Int32.ofNat q), .int (Int32.ofNat len)] below meth c Tl ([] ++ copyLocs d q i) 0 0 → Put d Bk s₁ Tl → Laid B Bk q (q + i) (fun j => Value.int (lo8 (cv A (o + (j - q))))) →
      Steps p.tables e below (s₁.setTop (entryFrame m #[.ref b, .int (Int32.ofNat o), .ref d, .int (Int32.ofNat q), .int (Int32.ofNat len)] 7)) (Tl.setTop (mkF m 3 #[.val (.ref b), .val (.int (Int32.ofNat (o + i))), .val (.ref d), .val (.int (Int32.ofNat (q + i))), .val (.int (Int32.ofNat len)), .val (.int (Int32.ofNat i)), z] [])) → ∃ (T' : State) (B' : Cell) (z' : Slot), Stand p l e { frames := 0, locals := 0, cells := 0, slots := 0 } s m #[.ref b, .int (Int32.ofNat o), .ref d, .int (Int32.ofNat q), .int (Int32.ofNat len)] below meth c T' ([] ++ copyLocs d q len) 0 0 ∧ Put d B' s₁ T' ∧ Laid B B' q (q + len) (fun j => Value.int (lo8 (cv A (o + (j - q))))) ∧
      Steps p.tables e below (s₁.setTop (entryFrame m #[.ref b, .int (Int32.ofNat o), .ref d, .int (Int32.ofNat q), .int (Int32.ofNat len)] 7)) (T'.setTop (mkF m 3 #[.val (.ref b), .val (.int (Int32.ofNat (o + len))), .val (.ref d), .val (.int (Int32.ofNat (q + len))), .val (.int (Int32.ofNat len)), .val (.int (Int32.ofNat len)), z'] [])) := by
    intro r
    induction r with
    | zero =>
      intro i hi z hz Tl Bk Xl pl fl cl
      have hil : i = len := by omega
      rw [hil] at Xl fl cl
      exact ⟨Tl, Bk, z, Xl, pl, fl, cl⟩
    | succ r ih =>
      intro i hi z hz Tl Bk Xl pl fl cl
      have all := X0.warmed.alike.symm.trans Xl.warmed.alike
      have hAl := hA0.keep all (pl.other hne hA0.1)
      have hBk := hB0.like all pl.1 fl.1 fl.2.1 fl.2.2.1
      have hlt : q + i < Bk.slots.size := by rw [fl.2.2.1]; omega
      have c3 : Steps p.tables e below (s₁.setTop (entryFrame m #[.ref b, .int (Int32.ofNat o), .ref d, .int (Int32.ofNat q), .int (Int32.ofNat len)] 7)) (Tl.setTop (mkF m 12 #[.val (.ref b), .val (.int (Int32.ofNat (o + i))), .val (.ref d), .val (.int (Int32.ofNat (q + i))), .val (.int (Int32.ofNat len)), .val (.int (Int32.ofNat i)), z] [.int (Int32.ofNat (o + i)), .ref b])) := cl.trans (by
        refine XS.iload Xl.here hexec rfl (hb hbytes d3) rfl ?_
        refine XS.iload Xl.here hexec rfl (hb hbytes d5) rfl ?_
        refine XS.icmpNo Xl.here hexec rfl (hb hbytes d7) rfl (ii_ge_f (lt32 (by omega) (by omega))) ?_
        refine XS.aloadN Xl.here hexec rfl (hb hbytes d10) rfl rfl ?_
        refine XS.iloadN Xl.here hexec rfl (hb hbytes d11) rfl ?_
        exact Steps.refl _)
      have c4 : Steps p.tables e below (s₁.setTop (entryFrame m #[.ref b, .int (Int32.ofNat o), .ref d, .int (Int32.ofNat q), .int (Int32.ofNat len)] 7)) (Tl.setTop (mkF m 13 #[.val (.ref b), .val (.int (Int32.ofNat (o + i))), .val (.ref d), .val (.int (Int32.ofNat (q + i))), .val (.int (Int32.ofNat len)), .val (.int (Int32.ofNat i)), z] [.int (cv A (o + i))])) := c3.trans (by
        refine Xl.aget hexec hAl rfl (hA.get (i := o + i) (by omega)) rfl rfl (hb hbytes d12) ?_
        exact Steps.refl _)
      have c5 : Steps p.tables e below (s₁.setTop (entryFrame m #[.ref b, .int (Int32.ofNat o), .ref d, .int (Int32.ofNat q), .int (Int32.ofNat len)] 7)) (Tl.setTop (mkF m 15 #[.val (.ref b), .val (.int (Int32.ofNat (o + i))), .val (.ref d), .val (.int (Int32.ofNat (q + i))), .val (.int (Int32.ofNat len)), .val (.int (Int32.ofNat i)), .val (.int (cv A (o + i)))] [])) := c4.trans (by
        refine XS.istoreS Xl.here hexec rfl (hb hbytes d13) rfl rfl hz ?_
        exact Steps.refl _)
      have c6 : Steps p.tables e below (s₁.setTop (entryFrame m #[.ref b, .int (Int32.ofNat o), .ref d, .int (Int32.ofNat q), .int (Int32.ofNat len)] 7)) (Tl.setTop (mkF m 31 #[.val (.ref b), .val (.int (Int32.ofNat (o + i))), .val (.ref d), .val (.int (Int32.ofNat (q + i))), .val (.int (Int32.ofNat len)), .val (.int (Int32.ofNat i)), .val (.int (cv A (o + i)))] [.int (lo8 (cv A (o + i))), .int (Int32.ofNat (q + i)), .ref d])) := c5.trans (by
        refine XS.iload Xl.here hexec rfl (hb hbytes d15) rfl ?_
        refine sipushV Xl.here hexec rfl 255 (hb hbytes d17) (by decide) ?_
        refine XS.icmpYes Xl.here hexec rfl (pc0 := 20) rfl (hb hbytes d20) rfl (ii_le_t (hp i (by omega))) (by decide) rfl ?_
        refine XS.aloadN Xl.here hexec rfl (hb hbytes d26) rfl rfl ?_
        refine XS.iloadN Xl.here hexec rfl (hb hbytes d27) rfl ?_
        refine XS.iload Xl.here hexec rfl (hb hbytes d28) rfl ?_
        refine i2b Xl.here hexec rfl (hb hbytes d30) rfl ?_
        exact Steps.refl _)
      obtain ⟨T7, X7, p7, st7⟩ := Xl.aput hexec hBk rfl hlt rfl (fits_lo8 (cv A (o + i))) (g := (mkF m 31 #[.val (.ref b), .val (.int (Int32.ofNat (o + i))), .val (.ref d), .val (.int (Int32.ofNat (q + i))), .val (.int (Int32.ofNat len)), .val (.int (Int32.ofNat i)), .val (.int (cv A (o + i)))] [.int (lo8 (cv A (o + i))), .int (Int32.ofNat (q + i)), .ref d])) rfl (rest := []) rfl (hb hbytes d31)
      have c8 : Steps p.tables e below (s₁.setTop (entryFrame m #[.ref b, .int (Int32.ofNat o), .ref d, .int (Int32.ofNat q), .int (Int32.ofNat len)] 7)) (T7.setTop (mkF m 32 #[.val (.ref b), .val (.int (Int32.ofNat (o + i))), .val (.ref d), .val (.int (Int32.ofNat (q + i))), .val (.int (Int32.ofNat len)), .val (.int (Int32.ofNat i)), .val (.int (cv A (o + i)))] [])) := c6.trans (st7 _ (Steps.refl _))
      have c9 : Steps p.tables e below (s₁.setTop (entryFrame m #[.ref b, .int (Int32.ofNat o), .ref d, .int (Int32.ofNat q), .int (Int32.ofNat len)] 7)) (T7.setTop (mkF m 3 #[.val (.ref b), .val (.int (Int32.ofNat (o + i) + 1)), .val (.ref d), .val (.int (Int32.ofNat (q + i) + 1)), .val (.int (Int32.ofNat len)), .val (.int (Int32.ofNat i + 1)), .val (.int (cv A (o + i)))] [])) := c8.trans (by
        refine iincV X7.here hexec rfl 1 (hb hbytes d32) (by decide) rfl rfl ?_
        refine iincV X7.here hexec rfl 1 (hb hbytes d35) (by decide) rfl rfl ?_
        refine iincV X7.here hexec rfl 1 (hb hbytes d38) (by decide) rfl rfl ?_
        refine XS.goto X7.here hexec rfl (pc0 := 41) rfl (hb hbytes d41) (by decide) rfl ?_
        exact Steps.refl _)
      have c10 : Steps p.tables e below (s₁.setTop (entryFrame m #[.ref b, .int (Int32.ofNat o), .ref d, .int (Int32.ofNat q), .int (Int32.ofNat len)] 7)) (T7.setTop (mkF m 3 #[.val (.ref b), .val (.int (Int32.ofNat (o + (i + 1)))), .val (.ref d), .val (.int (Int32.ofNat (q + (i + 1)))), .val (.int (Int32.ofNat len)), .val (.int (Int32.ofNat (i + 1))), .val (.int (cv A (o + i)))] [])) := by
        have := c9
        rw [succ32, succ32, succ32] at this
        exact this
      exact ih (i + 1) (by omega) _ (Or.inr ⟨_, rfl, rfl⟩) T7 _ (by rw [copyLocs_step, ← List.append_assoc]; exact X7) (pl.trans p7) (fl.step (by omega) hlt (by simp)) c10
  obtain ⟨T9, B9, z9, X9, p9, f9, g9⟩ := loop len 0 (by omega) .unset (Or.inl rfl) s₁ B (by simpa [copyLocs] using X0) ⟨hB0.1, fun _ _ => rfl, rfl⟩ (Laid.zero _ _ _) c2
  have c11 : Steps p.tables e below (s₁.setTop (entryFrame m #[.ref b, .int (Int32.ofNat o), .ref d, .int (Int32.ofNat q), .int (Int32.ofNat len)] 7)) (T9.setTop (mkF m 46 #[.val (.ref b), .val (.int (Int32.ofNat (o + len))), .val (.ref d), .val (.int (Int32.ofNat (q + len))), .val (.int (Int32.ofNat len)), .val (.int (Int32.ofNat len)), z9] [.int (Int32.ofNat len)])) := g9.trans (by
    refine XS.iload X9.here hexec rfl (hb hbytes d3) rfl ?_
    refine XS.iload X9.here hexec rfl (hb hbytes d5) rfl ?_
    refine XS.icmpYes X9.here hexec rfl (pc0 := 7) rfl (hb hbytes d7) rfl (ii_ge_t (nlt32 (by omega) (Nat.le_refl _))) (by decide) rfl ?_
    refine XS.iload X9.here hexec rfl (hb hbytes d44) rfl ?_
    exact Steps.refl _)
  exact ⟨T9, some (.int (Int32.ofNat len)), _, _, _, X9, by simp, rfl, rfl, (fun h => by cases h), ⟨rfl, B9, p9.from hh0, f9⟩, fun fs hl => c11.trans (X9.ireturnOut hexec hret rfl (Or.inl rfl) (hb hbytes d46) hl)⟩
end Cmp5
namespace Cmp3
def yN : MethodName := ⟨"java/lang/StringUTF16", "compress", "([CII)[B"⟩
abbrev yB : ByteArray := jdk_52_method_16_code
theorem d0 : decode yB 0 = .ok (.iload_n 2, 1) := by decide +kernel
theorem d1 : decode yB 1 = .ok (.newarray .byte, 2) := by decide +kernel
theorem d3 : decode yB 3 = .ok (.astore_n 3, 1) := by decide +kernel
theorem d4 : decode yB 4 = .ok (.aload_n 0, 1) := by decide +kernel
theorem d5 : decode yB 5 = .ok (.iload_n 1, 1) := by decide +kernel
theorem d6 : decode yB 6 = .ok (.aload_n 3, 1) := by decide +kernel
theorem d7 : decode yB 7 = .ok (.iconst 0, 1) := by decide +kernel
theorem d8 : decode yB 8 = .ok (.iload_n 2, 1) := by decide +kernel
theorem d9 : decode yB 9 = .ok (.invokestatic 115, 3) := by decide +kernel
theorem d12 : decode yB 12 = .ok (.istore 4, 2) := by decide +kernel
theorem d14 : decode yB 14 = .ok (.iload 4, 2) := by decide +kernel
theorem d16 : decode yB 16 = .ok (.iload_n 2, 1) := by decide +kernel
theorem d17 : decode yB 17 = .ok (.if_icmp (.eq) 40, 3) := by decide +kernel
theorem d57 : decode yB 57 = .ok (.aload_n 3, 1) := by decide +kernel
theorem d58 : decode yB 58 = .ok (.areturn, 1) := by decide +kernel
def site : List Cond := [.arrayClass .byte, Cmp5.tab] ++ staticW U16 115 Cmp5.yN
def tab : Cond := tabOf yN yB 6 (some (.array .byte)) site
def P (b : Addr) (A : Cell) (o len : Nat) (args : Array Value) (s : State) : Prop := args = #[.ref b, .int (Int32.ofNat o), .int (Int32.ofNat len)] ∧ Ch b A s ∧ o + len ≤ A.slots.size ∧ len ≤ 536870912 ∧ ∀ i, i < len → ¬ 255 < cv A (o + i)
def E (b : Addr) (A : Cell) (o len : Nat) (r : Option Value) (s u : State) : Prop := NewArr .byte "[B" len (fun j => .int (lo8 (cv A (o + j)))) r s u ∧ u.heap.size = s.heap.size + 1
/-- no char of the range above 255: a new byte[] of their low bytes -/
theorem law (l : Launch) (b : Addr) (A : Cell) (o len : Nat) : Law l yN 3 3 1 18 yB 6 (some (.array .byte)) site (P b A o len) (E b A o len) [] 1 len := by
  refine Law.of_walk (plainFor_of_name (by decide +kernel)) (by decide +kernel) (by decide +kernel) (by decide) (fun _ _ h => by rw [h.1]; rfl) (fun _ U U' hal hh h => ⟨h.1, h.2.1.mv hal hh, h.2.2⟩) (fun r U U' V V' h1 hal h2 h => ⟨NewArr.mv r U U' V V' h1 hal h2 h.1, by rw [h1, h2]; exact h.2⟩) ?_
  intro p e s m args below meth c s₁ X0 hexec hbytes hml hret hlk hnm hown hh0 W hP
  obtain ⟨rfl, hA, l1, l2, hp⟩ := hP
  have a31 := hA.1.2.2.2
  have c1 : Steps p.tables e below (s₁.setTop (entryFrame m #[.ref b, .int (Int32.ofNat o), .int (Int32.ofNat len)] 6)) (s₁.setTop (mkF m 0 #[.val (.ref b), .val (.int (Int32.ofNat o)), .val (.int (Int32.ofNat len)), .unset, .unset, .unset] [])) := entry rfl
  have c2 : Steps p.tables e below (s₁.setTop (entryFrame m #[.ref b, .int (Int32.ofNat o), .int (Int32.ofNat len)] 6)) (s₁.setTop (mkF m 1 #[.val (.ref b), .val (.int (Int32.ofNat o)), .val (.int (Int32.ofNat len)), .unset, .unset, .unset] [.int (Int32.ofNat len)])) := c1.trans (by
    refine XS.iloadN X0.here hexec rfl (hb hbytes d0) rfl ?_
    exact Steps.refl _)
  obtain ⟨T3, B3, X3, ba3, bs3, bv3, bh3, bf3, st3⟩ := X0.anew hexec (atype := .byte) (wk W (.arrayClass .byte)) rfl (by show len * 1 ≤ _; omega) (by omega) (g := (mkF m 1 #[.val (.ref b), .val (.int (Int32.ofNat o)), .val (.int (Int32.ofNat len)), .unset, .unset, .unset] [.int (Int32.ofNat len)])) rfl (hb hbytes d1) (rest := []) rfl (Nat.le_refl _) (by show 0 + len ≤ len; omega)
  rw [hh0] at ba3 st3
  have kp3 : XT.Kept s T3 := (XT.Kept.of_eq hh0).push bh3
  have hA3 := hA.keep X3.warmed.alike (kp3 _ _ hA.1.1)
  have hne : b ≠ s.heap.size := hA.1.ne
  have c4 : Steps p.tables e below (s₁.setTop (entryFrame m #[.ref b, .int (Int32.ofNat o), .int (Int32.ofNat len)] 6)) (T3.setTop (mkF m 3 #[.val (.ref b), .val (.int (Int32.ofNat o)), .val (.int (Int32.ofNat len)), .unset, .unset, .unset] [.ref s.heap.size])) := c2.trans (st3 _ (Steps.refl _))
  have c5 : Steps p.tables e below (s₁.setTop (entryFrame m #[.ref b, .int (Int32.ofNat o), .int (Int32.ofNat len)] 6)) (T3.setTop (mkF m 9 #[.val (.ref b), .val (.int (Int32.ofNat o)), .val (.int (Int32.ofNat len)), .val (.ref s.heap.size), .unset, .unset] [.int (Int32.ofNat len), .int 0, .ref s.heap.size, .int (Int32.ofNat o), .ref b])) := c4.trans (by
    refine XS.astoreN X3.here hexec rfl (hb hbytes d3) rfl rfl rfl ?_
    refine XS.aloadN X3.here hexec rfl (hb hbytes d4) rfl rfl ?_
    refine XS.iloadN X3.here hexec rfl (hb hbytes d5) rfl ?_
    refine XS.aloadN X3.here hexec rfl (hb hbytes d6) rfl rfl ?_
    refine iconstV X3.here hexec rfl 0 (hb hbytes d7) (by decide) ?_
    refine XS.iloadN X3.here hexec rfl (hb hbytes d8) rfl ?_
    exact Steps.refl _)
  obtain ⟨v6, T6, X6, E6, g6⟩ := X3.callS hexec (Cmp5.law l b A s.heap.size B3 o 0 len) hown (wks W (staticW U16 115 Cmp5.yN)) (wk W Cmp5.tab) (W := 0) (Nat.le_of_ble_eq_true rfl) (Nat.le_of_ble_eq_true rfl) (Nat.le_refl _) (by show 0 + len + 0 ≤ len; omega) (g := (mkF m 9 #[.val (.ref b), .val (.int (Int32.ofNat o)), .val (.int (Int32.ofNat len)), .val (.ref s.heap.size), .unset, .unset] [.int (Int32.ofNat len), .int (Int32.ofNat 0), .ref s.heap.size, .int (Int32.ofNat o), .ref b])) rfl (by rw [hml]; rfl) c5 (argsL := [.ref b, .int (Int32.ofNat o), .ref s.heap.size, .int (Int32.ofNat 0), .int (Int32.ofNat len)]) (rest := []) rfl rfl (by show 2 * 0 + 0 ≤ _; decide) (hb hbytes d9) (⟨rfl, hA3, ba3, hne, l1, by rw [bs3]; simp, hp⟩)
  obtain ⟨rfl, B6, p6, f6⟩ := E6
  have c7 : Steps p.tables e below (s₁.setTop (entryFrame m #[.ref b, .int (Int32.ofNat o), .int (Int32.ofNat len)] 6)) (T6.setTop (mkF m 12 #[.val (.ref b), .val (.int (Int32.ofNat o)), .val (.int (Int32.ofNat len)), .val (.ref s.heap.size), .unset, .unset] [.int (Int32.ofNat len)])) := g6
  have c8 : Steps p.tables e below (s₁.setTop (entryFrame m #[.ref b, .int (Int32.ofNat o), .int (Int32.ofNat len)] 6)) (T6.setTop (mkF m 58 #[.val (.ref b), .val (.int (Int32.ofNat o)), .val (.int (Int32.ofNat len)), .val (.ref s.heap.size), .val (.int (Int32.ofNat len)), .unset] [.ref s.heap.size])) := c7.trans (by
    refine XS.istore X6.here hexec rfl (hb hbytes d12) rfl rfl ?_
    refine XS.iload X6.here hexec rfl (hb hbytes d14) rfl ?_
    refine XS.iloadN X6.here hexec rfl (hb hbytes d16) rfl ?_
    refine XS.icmpYes X6.here hexec rfl (pc0 := 17) rfl (hb hbytes d17) rfl (ii_eq_t rfl) (by decide) rfl ?_
    refine XS.aloadN X6.here hexec rfl (hb hbytes d57) rfl rfl ?_
    exact Steps.refl _)
  have X8 := X6.wide (L' := []) (cells' := 1) (slots' := len) (fun x hx hlt => by
    simp only [List.nil_append, copyLocs, List.mem_map, List.mem_range] at hx
    obtain ⟨i, -, rfl⟩ := hx
    exact absurd hlt (Nat.lt_irrefl _)) (Nat.le_refl _) (by omega)
  exact ⟨T6, some (.ref s.heap.size), _, _, _, X8, rfl, rfl, rfl, (fun h => by cases h), ⟨⟨rfl, B6, ba3.like (X3.warmed.alike.symm.trans X6.warmed.alike) p6.1 f6.1 f6.2.1 f6.2.2.1, f6.2.1.trans bv3, by rw [X6.warmed.alike.findClass, f6.1]; exact bf3, by rw [f6.2.2.1, bs3]; simp, fun j hj => by rw [f6.2.2.2 j, if_pos (by omega)]; rfl, kp3.put p6 (Nat.le_refl _)⟩, by rw [p6.2.2, bh3, hh0]; simp⟩, fun fs hl => c8.trans (X8.areturnOut hexec rfl hret rfl (hb hbytes d58) hl)⟩
end Cmp3
namespace CodL
def yN : MethodName := ⟨"java/lang/StringUTF16", "coderFromArrayLen", "([BI)B"⟩
abbrev yB : ByteArray := jdk_52_method_15_code
theorem d0 : decode yB 0 = .ok (.iload_n 1, 1) := by decide +kernel
theorem d1 : decode yB 1 = .ok (.aload_n 0, 1) := by decide +kernel
theorem d2 : decode yB 2 = .ok (.arraylength, 1) := by decide +kernel
theorem d3 : decode yB 3 = .ok (.isub, 1) := by decide +kernel
theorem d4 : decode yB 4 = .ok (.bipush 31, 2) := by decide +kernel
theorem d6 : decode yB 6 = .ok (.iushr, 1) := by decide +kernel
theorem d7 : decode yB 7 = .ok (.i2b, 1) := by decide +kernel
theorem d8 : decode yB 8 = .ok (.ireturn, 1) := by decide +kernel
def site : List Cond := []
def tab : Cond := tabOf yN yB 2 (some .byte) site
def P (d : Addr) (B : Cell) (args : Array Value) (s : State) : Prop := args = #[.ref d, .int (Int32.ofNat B.slots.size)] ∧ Arr .byte d B s
def E (r : Option Value) (s u : State) : Prop := XT.PureE (some (.int 0)) r s u
/-- an array as long as the number of chars: LATIN1 -/
theorem law (l : Launch) (d : Addr) (B : Cell) : Law l yN 2 2 0 0 yB 2 (some .byte) site (P d B) E [] 0 0 := by
  refine Law.of_walk (plainFor_of_name (by decide +kernel)) (by decide +kernel) (by decide +kernel) (by decide) (fun _ _ h => by rw [h.1]; rfl) (fun _ U U' hal hh h => ⟨h.1, h.2.mv hal hh⟩) (fun r U U' V V' h1 hal h2 h => XT.PureE.mv r U U' V V' h1 hal h2 h) ?_
  intro p e s m args below meth c s₁ X0 hexec hbytes hml hret hlk hnm hown hh0 W hP
  obtain ⟨rfl, hB⟩ := hP
  have hB0 := hB.mv X0.warmed.alike hh0
  have c1 : Steps p.tables e below (s₁.setTop (entryFrame m #[.ref d, .int (Int32.ofNat B.slots.size)] 2)) (s₁.setTop (mkF m 0 #[.val (.ref d), .val (.int (Int32.ofNat B.slots.size))] [])) := entry rfl
  have c2 : Steps p.tables e below (s₁.setTop (entryFrame m #[.ref d, .int (Int32.ofNat B.slots.size)] 2)) (s₁.setTop (mkF m 2 #[.val (.ref d), .val (.int (Int32.ofNat B.slots.size))] [.ref d, .int (Int32.ofNat B.slots.size)])) := c1.trans (by
    refine XS.iloadN X0.here hexec rfl (hb hbytes d0) rfl ?_
    refine XS.aloadN X0.here hexec rfl (hb hbytes d1) rfl rfl ?_
    exact Steps.refl _)
  have c3 : Steps p.tables e below (s₁.setTop (entryFrame m #[.ref d, .int (Int32.ofNat B.slots.size)] 2)) (s₁.setTop (mkF m 8 #[.val (.ref d), .val (.int (Int32.ofNat B.slots.size))] [.int (lo8 (ushr (Int32.ofNat B.slots.size - Int32.ofNat B.slots.size) 31))])) := c2.trans (by
    refine X0.alen hexec hB0 rfl rfl (hb hbytes d2) ?_
    refine XS.isub X0.here hexec rfl (hb hbytes d3) rfl ?_
    refine bipushV X0.here hexec rfl 31 (hb hbytes d4) (by decide) ?_
    refine iushr X0.here hexec rfl (hb hbytes d6) rfl ?_
    refine i2b X0.here hexec rfl (hb hbytes d7) rfl ?_
    exact Steps.refl _)
  have e0 : lo8 (ushr (Int32.ofNat B.slots.size - Int32.ofNat B.slots.size) 31) = 0 := by rw [Int32.sub_self]; decide
  rw [e0] at c3
  exact ⟨s₁, some (.int 0), _, _, _, X0, rfl, rfl, rfl, (fun h => by cases h), ⟨rfl, hh0⟩, fun fs hl => c3.trans (X0.ireturnOut hexec hret rfl (Or.inr (Or.inr (Or.inl rfl))) (hb hbytes d8) hl)⟩
end CodL
/-- the String at a is Latin-1 over a new byte[] (the heap's one new cell): the low bytes of the len chars of A from o on; every cell but a is kept -/
def Got (a : Addr) (D : Cell) (fV fC : Field) (A : Cell) (o len : Nat) (r : Option Value) (s u : State) : Prop := r = none ∧ ∃ D' V : Cell, Blank "java/lang/String" a D' u ∧ Same D D' [fV.slot, fC.slot] ∧ D'.slots[fV.slot]? = some (.ref s.heap.size) ∧ D'.slots[fC.slot]? = some (.int 0) ∧ Arr .byte s.heap.size V u ∧ V.vm = .none ∧ u.vm.findClass "[B" = some V.cls ∧ V.slots.size = len ∧ (∀ j, j < len → V.slots[j]? = some (.int (lo8 (cv A (o + j))))) ∧ (∀ (y : Addr) (c : Cell), y ≠ a → s.heap[y]? = some c → u.heap[y]? = some c) ∧ u.heap.size = s.heap.size + 1
theorem Got.mv {a : Addr} {D A : Cell} {fV fC : Field} {o len : Nat} : ∀ r (U U' V V' : State), U'.heap = U.heap → V.vm.Alike V'.vm → V'.heap = V.heap → Got a D fV fC A o len r U V → Got a D fV fC A o len r U' V' :=
  fun r U U' V V' h1 hal h2 ⟨e0, D', X, a1, a2, a3, a4, a5, a6, a7, a8, a9, a10, a11⟩ => ⟨e0, D', X, a1.mv hal h2, a2, by rw [h1]; exact a3, a4, by rw [h1]; exact a5.mv hal h2, a6, by rw [hal.findClass]; exact a7, a8, a9, by rw [h1, h2]; exact a10, by rw [h1, h2]; exact a11⟩
namespace New4
def yN : MethodName := ⟨"java/lang/String", "<init>", "([CIILjava/lang/Void;)V"⟩
abbrev yB : ByteArray := jdk_42_method_149_code
theorem d0 : decode yB 0 = .ok (.aload_n 0, 1) := by decide +kernel
theorem d1 : decode yB 1 = .ok (.invokespecial 1, 3) := by decide +kernel
theorem d4 : decode yB 4 = .ok (.iload_n 3, 1) := by decide +kernel
theorem d5 : decode yB 5 = .ok (.ifCond (.ne) 22, 3) := by decide +kernel
theorem d27 : decode yB 27 = .ok (.getstatic 38, 3) := by decide +kernel
theorem d30 : decode yB 30 = .ok (.ifCond (.eq) 28, 3) := by decide +kernel
theorem d33 : decode yB 33 = .ok (.aload_n 1, 1) := by decide +kernel
theorem d34 : decode yB 34 = .ok (.iload_n 2, 1) := by decide +kernel
theorem d35 : decode yB 35 = .ok (.iload_n 3, 1) := by decide +kernel
theorem d36 : decode yB 36 = .ok (.invokestatic 177, 3) := by decide +kernel
theorem d39 : decode yB 39 = .ok (.astore 5, 2) := by decide +kernel
theorem d41 : decode yB 41 = .ok (.aload_n 0, 1) := by decide +kernel
theorem d42 : decode yB 42 = .ok (.aload 5, 2) := by decide +kernel
theorem d44 : decode yB 44 = .ok (.iload_n 3, 1) := by decide +kernel
theorem d45 : decode yB 45 = .ok (.invokestatic 47, 3) := by decide +kernel
theorem d48 : decode yB 48 = .ok (.putfield 15, 3) := by decide +kernel
theorem d51 : decode yB 51 = .ok (.aload_n 0, 1) := by decide +kernel
theorem d52 : decode yB 52 = .ok (.aload 5, 2) := by decide +kernel
theorem d54 : decode yB 54 = .ok (.putfield 9, 3) := by decide +kernel
theorem d57 : decode yB 57 = .ok (.return_, 1) := by decide +kernel
def site : List Cond := [.fieldLink "java/lang/String" 38 "java/lang/String" "COMPACT_STRINGS" "Z", Cmp3.tab, CodL.tab, .laysFinal "java/lang/String" "java/lang/String" "value" "[B", .fieldLink "java/lang/String" 9 "java/lang/String" "value" "[B", .laysFinal "java/lang/String" "java/lang/String" "coder" "B", .fieldLink "java/lang/String" 15 "java/lang/String" "coder" "B"] ++ objW "java/lang/String" 1 ++ staticW "java/lang/String" 177 Cmp3.yN ++ staticW "java/lang/String" 47 CodL.yN
def tab : Cond := tabOf yN yB 6 none site
def P (a : Addr) (D : Cell) (fV fC : Field) (b : Addr) (A : Cell) (z : Int32) (o len : Nat) (args : Array Value) (s : State) : Prop := args = #[.ref a, .ref b, .int (Int32.ofNat o), .int (Int32.ofNat len), .null] ∧ Blank "java/lang/String" a D s ∧ Found "java/lang/String" "value" "[B" fV s ∧ Found "java/lang/String" "coder" "B" fC s ∧ Ch b A s ∧ StaticIs s "java/lang/String" "COMPACT_STRINGS" "Z" (.int z) ∧ ¬ z = 0 ∧ 0 < len ∧ o + len ≤ A.slots.size ∧ len ≤ 536870912 ∧ ∀ i, i < len → ¬ 255 < cv A (o + i)
def E (a : Addr) (D : Cell) (fV fC : Field) (A : Cell) (o len : Nat) (r : Option Value) (s u : State) : Prop := Got a D fV fC A o len r s u
/-- len > 0, no char of the range above 255: a Latin-1 String of their low bytes -/
theorem law (l : Launch) (a : Addr) (D : Cell) (fV fC : Field) (b : Addr) (A : Cell) (z : Int32) (o len : Nat) : Law l yN 5 4 2 35 yB 6 none site (P a D fV fC b A z o len) (E a D fV fC A o len) [⟨a, fC.slot⟩, ⟨a, fV.slot⟩] 1 len := by
  refine Law.of_walk (plainFor_of_name (by decide +kernel)) (by decide +kernel) (by decide +kernel) (by decide) (fun _ _ h => by rw [h.1]; rfl) (fun _ U U' hal hh h => ⟨h.1, h.2.1.mv hal hh, h.2.2.1.al hal, h.2.2.2.1.al hal, h.2.2.2.2.1.mv hal hh, h.2.2.2.2.2.1.there hal hh, h.2.2.2.2.2.2⟩) (fun r U U' V V' h1 hal h2 h => Got.mv r U U' V V' h1 hal h2 h) ?_
  intro p e s m args below meth c s₁ X0 hexec hbytes hml hret hlk hnm hown hh0 W hP
  obtain ⟨rfl, hB, f1, f2, hA, s1, hz, l0, l1, l2, hp⟩ := hP
  have a31 := hA.1.2.2.2
  have c1 : Steps p.tables e below (s₁.setTop (entryFrame m #[.ref a, .ref b, .int (Int32.ofNat o), .int (Int32.ofNat len), .null] 6)) (s₁.setTop (mkF m 0 #[.val (.ref a), .val (.ref b), .val (.int (Int32.ofNat o)), .val (.int (Int32.ofNat len)), .val .null, .unset] [])) := entry rfl
  have c2 : Steps p.tables e below (s₁.setTop (entryFrame m #[.ref a, .ref b, .int (Int32.ofNat o), .int (Int32.ofNat len), .null] 6)) (s₁.setTop (mkF m 1 #[.val (.ref a), .val (.ref b), .val (.int (Int32.ofNat o)), .val (.int (Int32.ofNat len)), .val .null, .unset] [.ref a])) := c1.trans (by
    refine XS.aloadN X0.here hexec rfl (hb hbytes d0) rfl rfl ?_
    exact Steps.refl _)
  obtain ⟨T3, X3, q3, st3⟩ := X0.oinit hexec hown (wks W (objW "java/lang/String" 1)) (g := (mkF m 1 #[.val (.ref a), .val (.ref b), .val (.int (Int32.ofNat o)), .val (.int (Int32.ofNat len)), .val .null, .unset] [.ref a])) rfl (by rw [hml]; rfl) (rest := []) rfl (hb hbytes d1) (W := 0) (by show 2 * 0 + 0 ≤ _; decide) (Nat.le_of_ble_eq_true rfl) (Nat.le_of_ble_eq_true rfl)
  have hh3 := q3.trans hh0
  have c4 : Steps p.tables e below (s₁.setTop (entryFrame m #[.ref a, .ref b, .int (Int32.ofNat o), .int (Int32.ofNat len), .null] 6)) (T3.setTop (mkF m 27 #[.val (.ref a), .val (.ref b), .val (.int (Int32.ofNat o)), .val (.int (Int32.ofNat len)), .val .null, .unset] [])) := (c2.trans (st3 _ (Steps.refl _))).trans (by
    refine XS.iloadN X3.here hexec rfl (hb hbytes d4) rfl ?_
    refine XS.ifYes X3.here hexec rfl (pc0 := 5) rfl (hb hbytes d5) rfl (i0_ne_t (nz32 (by omega) l0)) (by decide) rfl ?_
    exact Steps.refl _)
  obtain ⟨T5, X5, q5, st5⟩ := X3.sget hexec hown (wk W (.fieldLink "java/lang/String" 38 "java/lang/String" "COMPACT_STRINGS" "Z")) s1 (fun _ _ h => by rw [hh3]; exact h) (g := (mkF m 27 #[.val (.ref a), .val (.ref b), .val (.int (Int32.ofNat o)), .val (.int (Int32.ofNat len)), .val .null, .unset] [])) rfl (hb hbytes d27)
  have hh5 := q5.trans hh3
  have c6 : Steps p.tables e below (s₁.setTop (entryFrame m #[.ref a, .ref b, .int (Int32.ofNat o), .int (Int32.ofNat len), .null] 6)) (T5.setTop (mkF m 30 #[.val (.ref a), .val (.ref b), .val (.int (Int32.ofNat o)), .val (.int (Int32.ofNat len)), .val .null, .unset] [.int z])) := c4.trans (st5 _ (Steps.refl _))
  have c7 : Steps p.tables e below (s₁.setTop (entryFrame m #[.ref a, .ref b, .int (Int32.ofNat o), .int (Int32.ofNat len), .null] 6)) (T5.setTop (mkF m 36 #[.val (.ref a), .val (.ref b), .val (.int (Int32.ofNat o)), .val (.int (Int32.ofNat len)), .val .null, .unset] [.int (Int32.ofNat len), .int (Int32.ofNat o), .ref b])) := c6.trans (by
    refine XS.ifNo X5.here hexec rfl (hb hbytes d30) rfl (i0_eq_f hz) ?_
    refine XS.aloadN X5.here hexec rfl (hb hbytes d33) rfl rfl ?_
    refine XS.iloadN X5.here hexec rfl (hb hbytes d34) rfl ?_
    refine XS.iloadN X5.here hexec rfl (hb hbytes d35) rfl ?_
    exact Steps.refl _)
  obtain ⟨v8, T8, X8, E8, g8⟩ := X5.callS hexec (Cmp3.law l b A o len) hown (wks W (staticW "java/lang/String" 177 Cmp3.yN)) (wk W Cmp3.tab) (W := 0) (Nat.le_of_ble_eq_true rfl) (Nat.le_of_ble_eq_true rfl) (Nat.le_refl _) (by show 0 + len ≤ len; omega) (g := (mkF m 36 #[.val (.ref a), .val (.ref b), .val (.int (Int32.ofNat o)), .val (.int (Int32.ofNat len)), .val .null, .unset] [.int (Int32.ofNat len), .int (Int32.ofNat o), .ref b])) rfl (by rw [hml]; rfl) c7 (argsL := [.ref b, .int (Int32.ofNat o), .int (Int32.ofNat len)]) (rest := []) rfl rfl (by show 2 * 0 + 0 ≤ _; decide) (hb hbytes d36) (⟨rfl, hA.mv X5.warmed.alike hh5, l1, l2, hp⟩)
  obtain ⟨e8, z8⟩ := E8
  obtain ⟨rfl, N, n1, n2, n3, n4, n5, n6⟩ := NewArr.mv _ T5 s _ _ hh5.symm (Vm.Alike.refl _) rfl e8
  rw [hh5] at z8
  have hB1 := hB.keep X8.warmed.alike (n6 _ _ hB.1)
  have hne : s.heap.size ≠ a := (Nat.ne_of_lt (Array.getElem?_eq_some_iff.mp hB.1).1).symm
  have c9 : Steps p.tables e below (s₁.setTop (entryFrame m #[.ref a, .ref b, .int (Int32.ofNat o), .int (Int32.ofNat len), .null] 6)) (T8.setTop (mkF m 39 #[.val (.ref a), .val (.ref b), .val (.int (Int32.ofNat o)), .val (.int (Int32.ofNat len)), .val .null, .unset] [.ref s.heap.size])) := g8
  have c10 : Steps p.tables e below (s₁.setTop (entryFrame m #[.ref a, .ref b, .int (Int32.ofNat o), .int (Int32.ofNat len), .null] 6)) (T8.setTop (mkF m 45 #[.val (.ref a), .val (.ref b), .val (.int (Int32.ofNat o)), .val (.int (Int32.ofNat len)), .val .null, .val (.ref s.heap.size)] [.int (Int32.ofNat N.slots.size), .ref s.heap.size, .ref a])) := by
    have hc : Steps p.tables e below (s₁.setTop (entryFrame m #[.ref a, .ref b, .int (Int32.ofNat o), .int (Int32.ofNat len), .null] 6)) (T8.setTop (mkF m 45 #[.val (.ref a), .val (.ref b), .val (.int (Int32.ofNat o)), .val (.int (Int32.ofNat len)), .val .null, .val (.ref s.heap.size)] [.int (Int32.ofNat len), .ref s.heap.size, .ref a])) := c9.trans (by
      refine XS.astore X8.here hexec rfl (hb hbytes d39) rfl rfl rfl ?_
      refine XS.aloadN X8.here hexec rfl (hb hbytes d41) rfl rfl ?_
      refine XS.aload X8.here hexec rfl (hb hbytes d42) rfl rfl ?_
      refine XS.iloadN X8.here hexec rfl (hb hbytes d44) rfl ?_
      exact Steps.refl _)
    rw [n4]; exact hc
  obtain ⟨v11, T11, X11, E11, g11⟩ := X8.callS hexec (CodL.law l s.heap.size N) hown (wks W (staticW "java/lang/String" 47 CodL.yN)) (wk W CodL.tab) (W := 1) (Nat.le_of_ble_eq_true rfl) (Nat.le_of_ble_eq_true rfl) (Nat.le_refl _) (by show 0 + len + 0 ≤ len; omega) (g := (mkF m 45 #[.val (.ref a), .val (.ref b), .val (.int (Int32.ofNat o)), .val (.int (Int32.ofNat len)), .val .null, .val (.ref s.heap.size)] [.int (Int32.ofNat N.slots.size), .ref s.heap.size, .ref a])) rfl (by rw [hml]; rfl) c10 (argsL := [.ref s.heap.size, .int (Int32.ofNat N.slots.size)]) (rest := [.ref a]) rfl rfl (by show 2 * 0 + (1 + 0) ≤ _; decide) (hb hbytes d45) (⟨rfl, n1⟩)
  obtain ⟨rfl, q11⟩ := E11
  have hB11 := hB1.mv (X8.warmed.alike.symm.trans X11.warmed.alike) q11
  have c12 : Steps p.tables e below (s₁.setTop (entryFrame m #[.ref a, .ref b, .int (Int32.ofNat o), .int (Int32.ofNat len), .null] 6)) (T11.setTop (mkF m 48 #[.val (.ref a), .val (.ref b), .val (.int (Int32.ofNat o)), .val (.int (Int32.ofNat len)), .val .null, .val (.ref s.heap.size)] [.int 0, .ref a])) := g11
  obtain ⟨T13, X13, p13, bl13, sl13, st13⟩ := X11.finit hexec hown (wk W (.fieldLink "java/lang/String" 15 "java/lang/String" "coder" "B")) (Or.inr ⟨_, (wk W (.laysFinal "java/lang/String" "java/lang/String" "coder" "B"))⟩) (Or.inl ⟨rfl, hnm⟩) f2 (Or.inl rfl) hB11 (t := .byte) (by decide +kernel) rfl (g := (mkF m 48 #[.val (.ref a), .val (.ref b), .val (.int (Int32.ofNat o)), .val (.int (Int32.ofNat len)), .val .null, .val (.ref s.heap.size)] [.int 0, .ref a])) rfl (rest := []) rfl (hb hbytes d48)
  have c14 : Steps p.tables e below (s₁.setTop (entryFrame m #[.ref a, .ref b, .int (Int32.ofNat o), .int (Int32.ofNat len), .null] 6)) (T13.setTop (mkF m 54 #[.val (.ref a), .val (.ref b), .val (.int (Int32.ofNat o)), .val (.int (Int32.ofNat len)), .val .null, .val (.ref s.heap.size)] [.ref s.heap.size, .ref a])) := (c12.trans (st13 _ (Steps.refl _))).trans (by
    refine XS.aloadN X13.here hexec rfl (hb hbytes d51) rfl rfl ?_
    refine XS.aload X13.here hexec rfl (hb hbytes d52) rfl rfl ?_
    exact Steps.refl _)
  obtain ⟨T15, X15, p15, bl15, sl15, st15⟩ := X13.finit hexec hown (wk W (.fieldLink "java/lang/String" 9 "java/lang/String" "value" "[B")) (Or.inr ⟨_, (wk W (.laysFinal "java/lang/String" "java/lang/String" "value" "[B"))⟩) (Or.inl ⟨rfl, hnm⟩) f1 (Or.inl rfl) bl13 (t := (.array .byte)) (by decide +kernel) rfl (g := (mkF m 54 #[.val (.ref a), .val (.ref b), .val (.int (Int32.ofNat o)), .val (.int (Int32.ofNat len)), .val .null, .val (.ref s.heap.size)] [.ref s.heap.size, .ref a])) rfl (rest := []) rfl (hb hbytes d54)
  have c16 : Steps p.tables e below (s₁.setTop (entryFrame m #[.ref a, .ref b, .int (Int32.ofNat o), .int (Int32.ofNat len), .null] 6)) (T15.setTop (mkF m 57 #[.val (.ref a), .val (.ref b), .val (.int (Int32.ofNat o)), .val (.int (Int32.ofNat len)), .val .null, .val (.ref s.heap.size)] [])) := c14.trans (st15 _ (Steps.refl _))
  have ap := apart (Or.inr ⟨_, (wk W (.laysFinal "java/lang/String" "java/lang/String" "value" "[B"))⟩) (Or.inr ⟨_, (wk W (.laysFinal "java/lang/String" "java/lang/String" "coder" "B"))⟩) f1 f2 (t₁ := .array .byte) (t₂ := .byte) (by decide +kernel) (by decide +kernel) (by decide)
  have al := X8.warmed.alike.symm.trans X15.warmed.alike
  have n7 : T11.heap[s.heap.size]? = some N := by rw [q11]; exact n1.1
  exact ⟨T15, none, _, _, _, X15, by simp, rfl, by omega, (fun _ => rfl), ⟨rfl, _, N, bl15, ((Same.refl D _).set _ (by simp)).set _ (by simp), sl15, (Cell.slots_setSlot_ne _ ap).trans sl13, n1.keep al (p15.other hne (p13.other hne n7)), n2, by rw [al.findClass]; exact n3, n4, n5, fun y c h1 h2 => p15.other h1 (p13.other h1 (by rw [q11]; exact n6 y c h2)), by rw [p15.2.2, p13.2.2, q11]; exact z8⟩, fun fs hl => c16.trans (X15.returnOut hexec hret (hb hbytes d57) hl)⟩
end New4
namespace New1
def yN : MethodName := ⟨"java/lang/String", "<init>", "([C)V"⟩
abbrev yB : ByteArray := jdk_42_method_3_code
theorem d0 : decode yB 0 = .ok (.aload_n 0, 1) := by decide +kernel
theorem d1 : decode yB 1 = .ok (.aload_n 1, 1) := by decide +kernel
theorem d2 : decode yB 2 = .ok (.iconst 0, 1) := by decide +kernel
theorem d3 : decode yB 3 = .ok (.aload_n 1, 1) := by decide +kernel
theorem d4 : decode yB 4 = .ok (.arraylength, 1) := by decide +kernel
theorem d5 : decode yB 5 = .ok (.aconst_null, 1) := by decide +kernel
theorem d6 : decode yB 6 = .ok (.invokespecial 27, 3) := by decide +kernel
theorem d9 : decode yB 9 = .ok (.return_, 1) := by decide +kernel
def site : List Cond := [New4.tab] ++ initW "java/lang/String" 27 New4.yN
def tab : Cond := tabOf yN yB 2 none site
def P (a : Addr) (D : Cell) (fV fC : Field) (b : Addr) (A : Cell) (z : Int32) (args : Array Value) (s : State) : Prop := args = #[.ref a, .ref b] ∧ Blank "java/lang/String" a D s ∧ Found "java/lang/String" "value" "[B" fV s ∧ Found "java/lang/String" "coder" "B" fC s ∧ Ch b A s ∧ StaticIs s "java/lang/String" "COMPACT_STRINGS" "Z" (.int z) ∧ ¬ z = 0 ∧ 0 < A.slots.size ∧ A.slots.size ≤ 536870912 ∧ ∀ i, i < A.slots.size → ¬ 255 < cv A i
def E (a : Addr) (D : Cell) (fV fC : Field) (A : Cell) (r : Option Value) (s u : State) : Prop := Got a D fV fC A 0 A.slots.size r s u
/-- new String(chars), not empty, no char above 255: a Latin-1 String of their low bytes -/
theorem law (l : Launch) (a : Addr) (D : Cell) (fV fC : Field) (b : Addr) (A : Cell) (z : Int32) : Law l yN 2 1 3 52 yB 2 none site (P a D fV fC b A z) (E a D fV fC A) [⟨a, fC.slot⟩, ⟨a, fV.slot⟩] 1 A.slots.size := by
  refine Law.of_walk (plainFor_of_name (by decide +kernel)) (by decide +kernel) (by decide +kernel) (by decide) (fun _ _ h => by rw [h.1]; rfl) (fun _ U U' hal hh h => ⟨h.1, h.2.1.mv hal hh, h.2.2.1.al hal, h.2.2.2.1.al hal, h.2.2.2.2.1.mv hal hh, h.2.2.2.2.2.1.there hal hh, h.2.2.2.2.2.2⟩) (fun r U U' V V' h1 hal h2 h => Got.mv r U U' V V' h1 hal h2 h) ?_
  intro p e s m args below meth c s₁ X0 hexec hbytes hml hret hlk hnm hown hh0 W hP
  obtain ⟨rfl, hB, f1, f2, hA, s1, hz, l0, l2, hp⟩ := hP
  have c1 : Steps p.tables e below (s₁.setTop (entryFrame m #[.ref a, .ref b] 2)) (s₁.setTop (mkF m 0 #[.val (.ref a), .val (.ref b)] [])) := entry rfl
  have c2 : Steps p.tables e below (s₁.setTop (entryFrame m #[.ref a, .ref b] 2)) (s₁.setTop (mkF m 6 #[.val (.ref a), .val (.ref b)] [.null, .int (Int32.ofNat A.slots.size), .int 0, .ref b, .ref a])) := c1.trans (by
    refine XS.aloadN X0.here hexec rfl (hb hbytes d0) rfl rfl ?_
    refine XS.aloadN X0.here hexec rfl (hb hbytes d1) rfl rfl ?_
    refine iconstV X0.here hexec rfl 0 (hb hbytes d2) (by decide) ?_
    refine XS.aloadN X0.here hexec rfl (hb hbytes d3) rfl rfl ?_
    refine X0.alen hexec (hA.1.mv X0.warmed.alike hh0) rfl rfl (hb hbytes d4) ?_
    refine XS.aconstNull X0.here hexec rfl (hb hbytes d5) ?_
    exact Steps.refl _)
  obtain ⟨v3, T3, X3, E3, g3⟩ := X0.callN hexec (New4.law l a D fV fC b A z 0 A.slots.size) rfl hown (wks W (initW "java/lang/String" 27 New4.yN)) (W New4.tab (by simp only [site, List.mem_cons, List.mem_append, true_or, or_true])) (W := 0) (Nat.le_of_ble_eq_true rfl) (Nat.le_of_ble_eq_true rfl) (Nat.le_refl _) (by show 0 + A.slots.size ≤ A.slots.size; omega) (g := (mkF m 6 #[.val (.ref a), .val (.ref b)] [.null, .int (Int32.ofNat A.slots.size), .int (Int32.ofNat 0), .ref b, .ref a])) rfl (by rw [hml]; rfl) c2 (argsL := [.ref b, .int (Int32.ofNat 0), .int (Int32.ofNat A.slots.size), .null]) (rest := []) rfl rfl (by show 2 * 0 + 0 ≤ _; decide) (hb hbytes d6) (⟨rfl, hB.mv X0.warmed.alike hh0, f1.al X0.warmed.alike, f2.al X0.warmed.alike, hA.mv X0.warmed.alike hh0, s1.there X0.warmed.alike hh0, hz, l0, by omega, l2, fun i hi => by rw [Nat.zero_add]; exact hp i hi⟩)
  have e0 := Got.mv _ s₁ s _ _ hh0.symm (Vm.Alike.refl _) rfl E3
  obtain rfl := e0.1
  have c4 : Steps p.tables e below (s₁.setTop (entryFrame m #[.ref a, .ref b] 2)) (T3.setTop (mkF m 9 #[.val (.ref a), .val (.ref b)] [])) := g3
  exact ⟨T3, none, _, _, _, X3, by simp, rfl, by omega, (fun _ => rfl), e0, fun fs hl => c4.trans (X3.returnOut hexec hret (hb hbytes d9) hl)⟩
theorem pays {l : Launch} {R : Room} {p : Program} {e : Env} {below : List Frame} {s : State} {sargs : Array Value} {len W : Nat} (a : Addr) (D : Cell) (fV fC : Field) (b : Addr) (A : Cell) (z : Int32) (htab : tab.before sargs s = true) (hfr : 4 ≤ R.frames) (hlo : W + 65 ≤ R.locals) :
    Back l R p e below s sargs yN len W (fun A₁ a₁ => A₁.cells + 1 ≤ R.cells ∧ A₁.slots + A.slots.size ≤ R.slots ∧ P a D fV fC b A z a₁ A₁.U) (fun A₁ _ v₁ B₁ => E a D fV fC A v₁ A₁.U B₁.U ∧ B₁.locs = A₁.locs ++ [⟨a, fC.slot⟩, ⟨a, fV.slot⟩] ∧ B₁.cells = A₁.cells + 1 ∧ B₁.slots = A₁.slots + A.slots.size) :=
  (law l a D fV fC b A z).pays htab hfr (by omega)
end New1
end StrChars
namespace StrChars.Road
open Jvm Sem ClassFile Op Lib Jvm.Stand Jvm.Free Jvm.Free.XT
open Jvm.Lib.Cold (StaticIs)
abbrev ST : String := "java/lang/String"
/-- every table word that New1's law asks, flat -/
abbrev words : List Jvm.Cond := [.code New1.yN New1.yB 2 none, .initialized ST, .methodLink ST 27 New4.yN, .instanceMethod New4.yN,
  .code New4.yN New4.yB 6 none, .fieldLink ST 38 ST "COMPACT_STRINGS" "Z", .laysFinal ST ST "value" "[B", .fieldLink ST 9 ST "value" "[B", .laysFinal ST ST "coder" "B", .fieldLink ST 15 ST "coder" "B",
  .methodLink ST 1 Lib.objectInit, .instanceMethod Lib.objectInit, .code Lib.objectInit ⟨#[0xb1]⟩ 1 none, .methodLink ST 177 Cmp3.yN, .static Cmp3.yN, .methodLink ST 47 CodL.yN, .static CodL.yN,
  .code Cmp3.yN Cmp3.yB 6 (some (.array .byte)), .initialized U16, .arrayClass .byte, .methodLink U16 115 Cmp5.yN, .static Cmp5.yN, .code Cmp5.yN Cmp5.yB 7 (some .int), .code CodL.yN CodL.yB 2 (some .byte)]
theorem tab_of {a : Array Value} {s : State} (h : ∀ w ∈ words, w.before a s = true) : New1.tab.before a s = true := by
  have h5 : Cmp5.tab.before a s = true := unparts (wk h (.code Cmp5.yN Cmp5.yB 7 (some .int))) (wks h (.initialized Cmp5.yN.cls :: Cmp5.site))
  have hc : CodL.tab.before a s = true := unparts (wk h (.code CodL.yN CodL.yB 2 (some .byte))) (wks h (.initialized CodL.yN.cls :: CodL.site))
  have q5 : ∀ w ∈ Cmp5.tab :: words, w.before a s = true := fun w hw => (List.mem_cons.mp hw).elim (fun e => e ▸ h5) (h w)
  have h3 : Cmp3.tab.before a s = true := unparts (wk q5 (.code Cmp3.yN Cmp3.yB 6 (some (.array .byte)))) (wks q5 (.initialized Cmp3.yN.cls :: Cmp3.site))
  have q3 : ∀ w ∈ Cmp3.tab :: CodL.tab :: words, w.before a s = true := fun w hw => (List.mem_cons.mp hw).elim (fun e => e ▸ h3) fun hw => (List.mem_cons.mp hw).elim (fun e => e ▸ hc) (h w)
  have h4 : New4.tab.before a s = true := unparts (wk q3 (.code New4.yN New4.yB 6 none)) (wks q3 (.initialized New4.yN.cls :: New4.site))
  have q4 : ∀ w ∈ New4.tab :: words, w.before a s = true := fun w hw => (List.mem_cons.mp hw).elim (fun e => e ▸ h4) (h w)
  exact unparts (wk q4 (.code New1.yN New1.yB 2 none)) (wks q4 (.initialized New1.yN.cls :: New1.site))
/-- the words ride from the start Z to the walk's own state -/
theorem moved {Z s : State} {a0 args : Array Value} (hZ : Z.Warmed39 s.vm) (hw : ∀ d ∈ words, d.before a0 Z = true) : ∀ d ∈ words, d.before args s = true := fun d hd => by
  have q := hw d hd
  have t : ∀ d ∈ words, d = .arrayClass .byte ∨ (d.onTables && d.keepsFace) = true := by decide +kernel
  rcases t d hd with rfl | t
  · exact RoadKit.mvA hZ q
  · exact RoadKit.mv hZ q t
/-- WHAT COMES BACK, over the tables of the start Z: h the heap at the call, h' behind it -/
def Q (Z : State) (x : Addr) (A : Cell) (h : Heap) (v : Option Value) (h' : Heap) (L : List Loc) : Prop := v = none ∧ (∀ y ∈ L, y.base = x) ∧ RoadKit.Keep h h' [x] ∧ h'.size = h.size + 1 ∧ RoadKit.Exa Z h' x ST ∧ RoadKit.Fld Z h' x ST "value" "[B" (.ref h.size) ∧ RoadKit.Fld Z h' x ST "coder" "B" (.int 0) ∧
  (∃ V : Cell, RoadKit.Arr Z h' h.size V .byte ∧ V.vm = .none ∧ Z.vm.findClass "[B" = some V.cls ∧ V.slots.size = A.slots.size ∧ ∀ j, j < A.slots.size → V.slots[j]? = some (.int (lo8 (cv A j)))) ∧
  ∀ (O n d : String) (w : Value), RoadKit.Fld Z h x O n d w → RoadKit.slotOf Z O n d ≠ RoadKit.slotOf Z ST "value" "[B" → RoadKit.slotOf Z O n d ≠ RoadKit.slotOf Z ST "coder" "B" → RoadKit.Fld Z h' x O n d w
/-- **new String(chars) AT A CALL, IN THE ROAD'S FORM**: for specialBack behind newO: x the fresh String, b the char[] with the cell A -/
theorem back {p : Program} {l : Launch} {e : Env} {R : Room} {s : State} {args : Array Value} {below : List Frame} {len W : Nat} {Z : State} {a0 : Array Value} {h : Heap} (hZ : Z.Warmed39 s.vm) (hw : ∀ d ∈ words, d.before a0 Z = true) {kI : Nat} (wi : (Jvm.Cond.instantiable ST kI).before a0 Z = true)
    {x b : Addr} {A : Cell} {z : Int32} {v0 c0 : Value} (E : RoadKit.Exa Z h x ST) (V : RoadKit.Fld Z h x ST "value" "[B" v0) (C : RoadKit.Fld Z h x ST "coder" "B" c0) (K : RoadKit.Arr Z h b A .char) (hty : Typed .char A) (S : RoadKit.Sta Z h ST "COMPACT_STRINGS" "Z" (.int z)) (hz : ¬ z = 0)
    (l0 : 0 < A.slots.size) (l2 : A.slots.size ≤ 536870912) (hp : ∀ i, i < A.slots.size → ¬ 255 < cv A i) (hfr : 4 ≤ R.frames) (hlo : W + 65 ≤ R.locals) :
    Back l R p e below s args New1.yN len W (fun P a => a = #[.ref x, .ref b] ∧ P.U.heap = h ∧ P.cells + 1 ≤ R.cells ∧ P.slots + A.slots.size ≤ R.slots)
      (fun P _ v B => ∃ L, Q Z x A h v B.U.heap L ∧ B.locs = P.locs ++ L ∧ B.cells = P.cells + 1 ∧ B.slots = P.slots + A.slots.size) := by
  intro m meth c P g ig mk a X hg hsize hdg hW hn hp'
  obtain ⟨rfl, rfl, r1, r2⟩ := hp'
  have al : Z.vm.Alike P.U.vm := hZ.alike.trans X.warmed.alike
  obtain ⟨D, cfV, kV, iV, fV, hD, gV, stV, knV, obV, asV, slV⟩ := id V
  obtain ⟨D', cfC, kC, iC, fC, hD', gC, stC, -, -, asC, slC⟩ := id C
  cases hD.symm.trans hD'
  obtain ⟨D2, kD, e1, e2, e3, e4, e5⟩ := id E
  cases hD.symm.trans e1
  obtain ⟨c2, k2, i1, i2, i3, -⟩ := Cond.instantiable_spec wi
  cases e2.symm.trans i1
  cases e3.symm.trans i2
  obtain ⟨kU, u1, u2⟩ := al.2.2 _ _ e3
  have hB : Blank ST x D P.U := ⟨hD, ⟨knV, fun q hq => by rw [hq] at obV; cases obV⟩, by rw [al.findClass]; exact e2, kU, u1, by rw [u2]; exact i3, by rw [u2]; exact e5 i3⟩
  have F1 : Found ST "value" "[B" fV P.U := ⟨SBG.found_only al ⟨cfV, kV, iV, gV⟩, stV⟩
  have F2 : Found ST "coder" "B" fC P.U := ⟨SBG.found_only al ⟨cfC, kC, iC, gC⟩, stC⟩
  have hA : Ch b A P.U := ⟨⟨K.1, State.isArrayOf_alike al K.2.1, K.2.2, by omega⟩, hty⟩
  have hS : StaticIs P.U ST "COMPACT_STRINGS" "Z" (.int z) := by
    obtain ⟨cfS, iS, kS, fS, st, cS, t1, t2, t3, t4, t5, t6, t7⟩ := S
    exact StaticIs.there (s := { Z with heap := P.U.heap }) ⟨cfS, iS, kS, fS, st, cS, t1, t2, t3, t4, t5, (fun q => by rw [q] at t6; cases t6), t7⟩ al rfl
  obtain ⟨v, B, X', ⟨⟨hv, E', V', q1, q2, q3, q4, q5, q6, q7, q8, q9, q10, q11⟩, hl, hc, hs⟩, st⟩ := New1.pays x D fV fC b A z (tab_of (moved hZ hw)) hfr hlo m meth c P g ig mk _ X hg hsize hdg hW hn ⟨r1, r2, rfl, hB, F1, F2, hA, hS, hz, l0, l2, hp⟩
  have al' : Z.vm.Alike B.U.vm := hZ.alike.trans X'.warmed.alike
  have hsz : E'.slots.size = D.slots.size := by
    obtain ⟨-, -, -, kB, w1, w2, w3⟩ := q1
    obtain ⟨kB', y1, y2⟩ := al'.2.2 _ _ e3
    rw [q2.2.1] at w1
    cases w1.symm.trans y1
    rw [w3, e5 i3, y2]
  refine ⟨v, B, X', ⟨_, ⟨hv, ?_, ⟨by omega, fun y cy hy hn' => q10 y cy (by simpa using hn') hy, fun y cy hy => ?_⟩, q11, ⟨E', _, q1.1, by rw [q2.2.1]; exact e2, by rw [q2.2.1]; exact e3, by rw [q2.1]; exact obV, fun _ => by rw [hsz]; exact e5 i3⟩,
    ⟨E', cfV, kV, iV, fV, q1.1, gV, stV, by rw [q2.1]; exact knV, by rw [q2.1]; exact obV, by rw [q2.2.1]; exact asV, q3⟩, ⟨E', cfC, kC, iC, fC, q1.1, gC, stC, by rw [q2.1]; exact knV, by rw [q2.1]; exact obV, by rw [q2.2.1]; exact asC, q4⟩,
    ⟨V', ⟨q5.1, State.isArrayOf_alike al'.symm q5.2.1, q5.2.2.1⟩, q6, by rw [← al'.findClass]; exact q7, q8, fun j hj => by have := q9 j hj; rwa [Nat.zero_add] at this⟩, fun O n d w F n1 n2 => ?_⟩, hl, hc, hs⟩, st⟩
  · intro y hy
    simp only [List.mem_cons, List.not_mem_nil, or_false] at hy
    rcases hy with rfl | rfl <;> rfl
  · by_cases q : y = x
    · subst q
      cases hD.symm.trans hy
      exact ⟨E', q1.1, q2.2.1, q2.1, hsz⟩
    · exact ⟨cy, q10 y cy q hy, rfl, rfl, rfl⟩
  · obtain ⟨D3, cf, k, i, f, g1, g2, g3, g4, g5, g6, g7⟩ := F
    cases hD.symm.trans g1
    simp only [RoadKit.slotOf, g2, gV, gC, Option.map_some, Option.getD_some] at n1 n2
    exact ⟨E', cf, k, i, f, q1.1, g2, g3, by rw [q2.1]; exact g4, by rw [q2.1]; exact g5, by rw [q2.2.1]; exact g6, by rw [q2.2.2 f.slot (by simp [n1, n2])]; exact g7⟩
end StrChars.Road
namespace StrChars.Road
open Jvm Sem ClassFile Op Lib Jvm.Stand Jvm.Free Jvm.Free.XT
/-- WHAT COMES BACK, the byte[] as a list of values -/
def QA (Z : State) (x : Addr) (zn : Int32) (cs : List Int32) (h : Heap) (v : Option Value) (h' : Heap) (L : List Loc) : Prop := v = none ∧ (∀ y ∈ L, y.base = x) ∧ RoadKit.Keep h h' [x] ∧ h'.size = h.size + 1 ∧ RoadKit.Exa Z h' x ST ∧ RoadKit.Fld Z h' x ST "value" "[B" (.ref h.size) ∧ RoadKit.Fld Z h' x ST "coder" "B" (.int 0) ∧
  (∃ kb, Z.vm.findClass "[B" = some kb ∧ RoadKit.Arv Z h' h.size kb .byte zn (cs.map fun c => .int (lo8 c)) (.int 0)) ∧
  ∀ (O n d : String) (w : Value), RoadKit.Fld Z h x O n d w → RoadKit.slotOf Z O n d ≠ RoadKit.slotOf Z ST "value" "[B" → RoadKit.slotOf Z O n d ≠ RoadKit.slotOf Z ST "coder" "B" → RoadKit.Fld Z h' x O n d w
/-- **new String(chars) AT A CALL, THE ARRAYS AS LISTS**: the char[] at b holds cs, not empty, no char above 255 -/
theorem backArv {p : Program} {l : Launch} {e : Env} {R : Room} {s : State} {args : Array Value} {below : List Frame} {len W : Nat} {Z : State} {a0 : Array Value} {h : Heap} (hZ : Z.Warmed39 s.vm) (hw : ∀ d ∈ words, d.before a0 Z = true) {kI : Nat} (wi : (Jvm.Cond.instantiable ST kI).before a0 Z = true)
    {x b : Addr} {k : ClassId} {zn z : Int32} {cs : List Int32} {dv v0 c0 : Value} (E : RoadKit.Exa Z h x ST) (V : RoadKit.Fld Z h x ST "value" "[B" v0) (C : RoadKit.Fld Z h x ST "coder" "B" c0) (K : RoadKit.Arv Z h b k .char zn (cs.map Value.int) dv) (S : RoadKit.Sta Z h ST "COMPACT_STRINGS" "Z" (.int z)) (hz : ¬ z = 0)
    (hlen : zn.toNatClampNeg = cs.length) (h0 : 0 < cs.length) (hbig : cs.length ≤ 536870912) (hall : ∀ c ∈ cs, ¬ 255 < c) (hfr : 4 ≤ R.frames) (hlo : W + 65 ≤ R.locals) :
    Back l R p e below s args New1.yN len W (fun P a => a = #[.ref x, .ref b] ∧ P.U.heap = h ∧ P.cells + 1 ≤ R.cells ∧ P.slots + cs.length ≤ R.slots)
      (fun P _ v B => ∃ L, QA Z x zn cs h v B.U.heap L ∧ B.locs = P.locs ++ L ∧ B.cells = P.cells + 1 ∧ B.slots = P.slots + cs.length) := by
  obtain ⟨A, K1, K2, K3, K4, K5, K6⟩ := K
  have e : A.slots.size = cs.length := K3.trans hlen
  have hat : ∀ (i : Nat) (hi : i < cs.length), A.slots[i]? = some (.int cs[i]) := fun i hi => by rw [K5 i (by omega)]; simp [List.getD_eq_getElem?_getD, hi]
  have hcv : ∀ (i : Nat) (hi : i < cs.length), cv A i = cs[i] := fun i hi => by unfold cv; rw [hat i hi]
  have hty : Typed .char A := fun i v hv => by
    have hi : i < A.slots.size := (Array.getElem?_eq_some_iff.mp hv).1
    have q := K5 i hi
    rw [hv] at q
    rw [Option.some.inj q]
    exact K6 i hi
  refine Back.mono (back hZ hw wi E V C K1 hty S hz (by omega) (by omega) (fun i hi => by rw [hcv i (by omega)]; exact hall _ (List.getElem_mem _)) hfr hlo) (fun P a hp => ⟨hp.1, hp.2.1, hp.2.2.1, by rw [e]; exact hp.2.2.2⟩) (fun P a v B hp hq => ?_)
  obtain ⟨L, ⟨q1, q2, q3, q4, q5, q6, q7, ⟨V', v1, v2, v3, v4, v5⟩, q9⟩, hl, hc, hs⟩ := hq
  refine ⟨L, ⟨q1, q2, q3, q4, q5, q6, q7, ⟨V'.cls, v3, V', v1, rfl, by rw [v4, e, hlen], K4, fun i hi => ?_, fun i hi => ?_⟩, q9⟩, hl, hc, by rw [hs, e]⟩
  · have hi' : i < cs.length := by omega
    rw [v5 i (by omega), hcv i hi']; simp [List.getD_eq_getElem?_getD, hi']
  · have hi' : i < cs.length := by omega
    simp only [List.getD_eq_getElem?_getD, List.getElem?_map, List.getElem?_eq_getElem hi', Option.map_some, Option.getD_some]
    exact fits_lo8 _
end StrChars.Road
namespace StrChars.Road
open Jvm Sem ClassFile Op Lib Jvm.Stand Jvm.Free Jvm.Free.XT
/-- WHAT COMES BACK, in the writer's own shape -/
def QV (Z : State) (x : Addr) (N : Int32) (bs : List Int32) (h : Heap) (n0 : Nat) (v : Option Value) (h' : Heap) (L : List Loc) : Prop := v = none ∧ RoadKit.Fr n0 L ∧ RoadKit.Keep h h' [x] ∧ RoadKit.Exa Z h' x ST ∧ RoadKit.Fld Z h' x ST "coder" "B" (.int 0) ∧
  ∃ (t : Addr) (kb : ClassId), n0 ≤ t ∧ h.size ≤ t ∧ ¬ t = x ∧ RoadKit.Fld Z h' x ST "value" "[B" (.ref t) ∧ RoadKit.Arv Z h' t kb .byte N (bs.map Value.int) (.int 0)
/-- **new String(chars) AT A CALL, FOR THE WRITER**: a char[] of n known ints, each 0 to 255 -/
theorem backV {p : Program} {l : Launch} {e : Env} {R : Room} {s : State} {args : Array Value} {below : List Frame} {len W : Nat} {Z : State} {a0 : Array Value} {h : Heap} (hZ : Z.Warmed39 s.vm) (hw : ∀ d ∈ words, d.before a0 Z = true) {kI : Nat} (wi : (Jvm.Cond.instantiable ST kI).before a0 Z = true)
    {x b : Addr} {kC : ClassId} {cs bs : List Int32} {d v0 c0 : Value} {z N : Int32} {n n0 : Nat} (hx0 : n0 ≤ x) (hh0 : n0 ≤ h.size) (E : RoadKit.Exa Z h x ST) (V : RoadKit.Fld Z h x ST "value" "[B" v0) (C : RoadKit.Fld Z h x ST "coder" "B" c0) (K : RoadKit.Arv Z h b kC .char N (cs.map Value.int) d) (S : RoadKit.Sta Z h ST "COMPACT_STRINGS" "Z" (.int z)) (hz : ¬ z = 0)
    (hn : cs.length = n) (hN : N = Int32.ofNat n) (l0 : 0 < n) (l2 : n ≤ 4000) (hp : ∀ c ∈ cs, ¬ c < 0 ∧ ¬ (255 : Int32) < c) (hb : bs = cs.map (fun c => c.toInt8.toInt32)) (hfr : 4 ≤ R.frames) (hlo : W + 65 ≤ R.locals) :
    Back l R p e below s args (⟨"java/lang/String", "<init>", "([C)V"⟩ : MethodName) len W (fun P a => a = #[.ref x, .ref b] ∧ P.U.heap = h ∧ P.cells + 1 ≤ R.cells ∧ P.slots + n ≤ R.slots)
      (fun P _ v B => ∃ L, QV Z x N bs h n0 v B.U.heap L ∧ B.locs = P.locs ++ L ∧ B.cells = P.cells + 1 ∧ B.slots = P.slots + n) := by
  subst hn hN hb
  refine Back.mono (backArv hZ hw wi E V C K S hz (n32 (by omega)) l0 (by omega) (fun c hc => (hp c hc).2) hfr hlo) (fun P a hp => hp) (fun P a v B hp hq => ?_)
  obtain ⟨L, ⟨q1, q2, q3, q4, q5, q6, q7, ⟨kb, v1, v2⟩, q9⟩, hl, hc, hs⟩ := hq
  exact ⟨L, ⟨q1, fun y hy => by rw [q2 y hy]; exact hx0, q3, q5, q7, h.size, kb, hh0, Nat.le_refl _, Nat.ne_of_gt E.lt, q6, by rw [List.map_map]; exact v2⟩, hl, hc, hs⟩
end StrChars.Road
end Jvm.Pilot.@@N@@
namespace Jvm.Pilot.@@N@@
open Jvm Jvm.ClassFile Sem Op Lib Jvm.Free Jvm.Stand Jvm.LawKit Jvm.RoadKit Bundle Jvm.Pilot.@@N@@.Jvm.D
theorem own_ch (v : Int32) : ¬ nar .char ((v &&& (255 : Int32)).toUInt32.toUInt16.toUInt32.toInt32) < 0 ∧ ¬ (255 : Int32) < nar .char ((v &&& (255 : Int32)).toUInt32.toUInt16.toUInt32.toInt32) := by
  have e : nar .char ((v &&& (255 : Int32)).toUInt32.toUInt16.toUInt32.toInt32) = v &&& 255 := by
    show ((v &&& (255 : Int32)).toUInt32.toUInt16.toUInt32.toInt32).toUInt32.toUInt16.toUInt32.toInt32 = _
    rw [i2c_mask, i2c_mask]
  have m := c_mask v 255 8 (by decide) (by decide)
  rw [e, Int32.lt_iff_toInt_lt, Int32.lt_iff_toInt_lt]
  have h0 : (0 : Int32).toInt = 0 := rfl
  have h1 : (255 : Int32).toInt = 255 := rfl
  omega
theorem own_all1 {P : Int32 → Prop} {a : Int32} (h : P a) : ∀ c ∈ ([a] : List Int32), P c := fun c hc => by cases List.mem_singleton.mp hc; exact h
theorem own_all2 {P : Int32 → Prop} {a b : Int32} (h : P a) (h2 : P b) : ∀ c ∈ ([a, b] : List Int32), P c := fun c hc => by
  simp only [List.mem_cons, List.not_mem_nil, or_false] at hc
  rcases hc with rfl | rfl <;> assumption
def own_bv (b j : Int32) : Int32 := if ((b >>> (j &&& 31)) &&& (1 : Int32)) = (0 : Int32) then (0 : Int32) else (1 : Int32)
def own_or (v u k : Int32) : Int32 := if u = (0 : Int32) then v else (v ||| k)
theorem own_nb (b j : Int32) : nar .boolean (own_bv b j) = own_bv b j := by
  unfold own_bv; split <;> decide
theorem own_256 (v : Int32) : ∃ n : Fin 256, v &&& (255 : Int32) = Int32.ofNat n.val := by
  have e2 := c_mask v 255 8 (by decide) (by decide)
  refine ⟨⟨(v &&& 255).toInt.toNat, by omega⟩, ?_⟩
  apply Int32.toInt_inj.mp
  rw [Int32.toInt_ofNat_small (by show (v &&& 255).toInt.toNat < 2 ^ 31; omega)]
  show _ = (((v &&& 255).toInt.toNat : Nat) : Int)
  omega
theorem own_m7 (v : Int32) : ∃ n : Fin 8, v &&& (7 : Int32) = Int32.ofNat n.val := by
  have e2 := c_mask v 7 3 (by decide) (by decide)
  refine ⟨⟨(v &&& 7).toInt.toNat, by omega⟩, ?_⟩
  apply Int32.toInt_inj.mp
  rw [Int32.toInt_ofNat_small (by show (v &&& 7).toInt.toNat < 2 ^ 31; omega)]
  show _ = (((v &&& 7).toInt.toNat : Nat) : Int)
  omega
theorem own_pk_all : ∀ n : Fin 256, (own_or (own_or (own_or (own_or (own_or (own_or (own_or (own_or (0 : Int32) (own_bv (Int32.ofNat n.val) (0 : Int32)) (1 : Int32)) (own_bv (Int32.ofNat n.val) (1 : Int32)) (2 : Int32)) (own_bv (Int32.ofNat n.val) (2 : Int32)) (4 : Int32)) (own_bv (Int32.ofNat n.val) (3 : Int32)) (8 : Int32)) (own_bv (Int32.ofNat n.val) (4 : Int32)) (16 : Int32)) (own_bv (Int32.ofNat n.val) (5 : Int32)) (32 : Int32)) (own_bv (Int32.ofNat n.val) (6 : Int32)) (64 : Int32)) (own_bv (Int32.ofNat n.val) (7 : Int32)) (128 : Int32)) = (Int32.ofNat n.val) := by decide +kernel
theorem own_pk (v : Int32) : (own_or (own_or (own_or (own_or (own_or (own_or (own_or (own_or (0 : Int32) (own_bv (v &&& (255 : Int32)) (0 : Int32)) (1 : Int32)) (own_bv (v &&& (255 : Int32)) (1 : Int32)) (2 : Int32)) (own_bv (v &&& (255 : Int32)) (2 : Int32)) (4 : Int32)) (own_bv (v &&& (255 : Int32)) (3 : Int32)) (8 : Int32)) (own_bv (v &&& (255 : Int32)) (4 : Int32)) (16 : Int32)) (own_bv (v &&& (255 : Int32)) (5 : Int32)) (32 : Int32)) (own_bv (v &&& (255 : Int32)) (6 : Int32)) (64 : Int32)) (own_bv (v &&& (255 : Int32)) (7 : Int32)) (128 : Int32)) = (v &&& (255 : Int32)) := by
  obtain ⟨n, e⟩ := own_256 v
  rw [e]; exact own_pk_all n
theorem own_in8 : ∀ n : Fin 8, ¬ (Int32.ofNat n.val) < 0 ∧ (Int32.ofNat n.val) < (8 : Int32) := by decide
theorem own_at (b v : Int32) : (¬ (v &&& (7 : Int32)) < 0 ∧ (v &&& (7 : Int32)) < (8 : Int32)) ∧ ([(.int (own_bv b (0 : Int32))), (.int (own_bv b (1 : Int32))), (.int (own_bv b (2 : Int32))), (.int (own_bv b (3 : Int32))), (.int (own_bv b (4 : Int32))), (.int (own_bv b (5 : Int32))), (.int (own_bv b (6 : Int32))), (.int (own_bv b (7 : Int32)))] : List Value).getD (v &&& (7 : Int32)).toNatClampNeg (.int (0 : Int32)) = .int (own_bv b (v &&& (7 : Int32))) := by
  obtain ⟨n, e⟩ := own_m7 v
  rw [e]
  refine ⟨own_in8 n, ?_⟩
  match n with
  | ⟨0, _⟩ => rfl
  | ⟨1, _⟩ => rfl
  | ⟨2, _⟩ => rfl
  | ⟨3, _⟩ => rfl
  | ⟨4, _⟩ => rfl
  | ⟨5, _⟩ => rfl
  | ⟨6, _⟩ => rfl
  | ⟨7, _⟩ => rfl
theorem ef1 (m : MethodId) (x0 : Int32) (x1 : Int32) : entryFrame m #[(.int x0), (.int x1)] 2 = mkF m 0 #[.val (.int x0), .val (.int x1)] [] := by first | (simp [entryFrame, mkF, argsToLocals, Value.category]; done) | rfl
theorem pn_0 : plainName "com/example/reset/reset/VariableDegreeInPinLaw" = true := by first | (simp [plainName, overriddenIn]; done) | decide +kernel
theorem d1_0 : decode method_2_code 0 = .ok (.iload_n 0, 1) := by decide +kernel
theorem d1_1 : decode method_2_code 1 = .ok (.iload_n 1, 1) := by decide +kernel
theorem d1_2 : decode method_2_code 2 = .ok (.ishr, 1) := by decide +kernel
theorem d1_3 : decode method_2_code 3 = .ok (.iconst 1, 1) := by decide +kernel
theorem d1_4 : decode method_2_code 4 = .ok (.iand, 1) := by decide +kernel
theorem d1_5 : decode method_2_code 5 = .ok (.ifCond .eq 7, 3) := by decide +kernel
theorem d1_12 : decode method_2_code 12 = .ok (.iconst 0, 1) := by decide +kernel
theorem d1_13 : decode method_2_code 13 = .ok (.ireturn, 1) := by decide +kernel
theorem d1_8 : decode method_2_code 8 = .ok (.iconst 1, 1) := by decide +kernel
theorem d1_9 : decode method_2_code 9 = .ok (.goto 4, 3) := by decide +kernel
def Q1 (Z : State) (u : Int32) (j : Int32) (h0 : Heap) (n0 : Nat) (v : Option Value) (h : Heap) (L : List Loc) : Prop := v = some (.int (own_bv u j)) ∧ Fr n0 L ∧ h = h0
set_option maxRecDepth 65536 in
set_option maxHeartbeats 40000000 in
theorem rm1 (l : Launch) (Z : State) (a0 : Array Value) (hw : ∀ d ∈ tables_1, d.before a0 Z = true) (ws : List Jvm.Cond) (u : Int32) (j : Int32) (h0 : Heap) (n0 : Nat) (Z0 : n0 ≤ h0.size)  :
    MetFree l (⟨"com/example/reset/reset/VariableDegreeInPinLaw", "bit", "(II)Z"⟩ : MethodName) (head1 (Jvm.Cond.code (⟨"com/example/reset/reset/VariableDegreeInPinLaw", "bit", "(II)Z"⟩ : MethodName) method_2_code 2 (some .boolean) :: ws) ({ frames := 0, cells := 0, slots := 0, locals := 0 } : Room)) (fun zza zzU => zza = #[(.int u), (.int j)] ∧ Z.Warmed39 zzU.vm ∧ zzU.heap = h0) (fun _ _ _ _ _ => True) (fun _ zzU zzo zzV => ∃ zzv zzL, zzo = .returned zzv ∧ Q1 Z u j h0 n0 zzv zzV.heap zzL ∧ FrameEnd zzU zzo zzV zzL ({ frames := 0, cells := 0, slots := 0, locals := 0 } : Room).cells ({ frames := 0, cells := 0, slots := 0, locals := 0 } : Room).slots) := by
  refine MetFree.of_bodySF (plainFor_of_name pn_0) hisR ?_
  intro p e s m args below meth c s₁ Bd hml0 hP hK
  obtain ⟨rfl, hZ, hh⟩ := hP
  have hx := Bd.exec
  have hby := Bd.bytes
  have hml : c.maxLocals = 2 := hml0
  have hown : s.vm.findClass "com/example/reset/reset/VariableDegreeInPinLaw" = some m.cls := findClass_of_methodNamed Bd.named
  have hnm := (name_of_methodNamed Bd.named Bd.method).1
  have X0 : Stand p l e ({ frames := 0, cells := 0, slots := 0, locals := 0 } : Room) s m #[(.int u), (.int j)] below meth c s₁ [] 0 0 := Stand.of_body Bd
  have e0 : s₁.heap = h0 := by rw [← hh, Bd.state]; rfl
  have N0 := Fr.nil n0
  have R0 : ∀ zt, Steps p.tables e below (s₁.setTop (mkF m 0 #[.val (.int u), .val (.int j)] [])) zt → Steps p.tables e below (s₁.setTop (entryFrame m #[(.int u), (.int j)] 2)) zt := fun zt zk => castTop (ef1 m u j) zk
  have R1 : ∀ zt, Steps p.tables e below (s₁.setTop (mkF m 5 #[.val (.int u), .val (.int j)] [(.int (((u >>> (j &&& 31))) &&& (1 : Int32)))])) zt → Steps p.tables e below (s₁.setTop (entryFrame m #[(.int u), (.int j)] 2)) zt := by
    intro zt zk
    refine R0 zt ?_
    show Steps p.tables e below (s₁.setTop (mkF m 0 #[.val (.int u), .val (.int j)] [])) _
    refine XS.iloadN X0.here hx rfl (hb hby d1_0) rfl ?_
    show Steps p.tables e below (s₁.setTop (mkF m 1 #[.val (.int u), .val (.int j)] [(.int u)])) _
    refine XS.iloadN X0.here hx rfl (hb hby d1_1) rfl ?_
    show Steps p.tables e below (s₁.setTop (mkF m 2 #[.val (.int u), .val (.int j)] [(.int j), (.int u)])) _
    refine XS.ishr X0.here hx rfl (hb hby d1_2) rfl ?_
    show Steps p.tables e below (s₁.setTop (mkF m 3 #[.val (.int u), .val (.int j)] [(.int ((u >>> (j &&& 31))))])) _
    refine XS.iconst X0.here hx rfl (hb hby d1_3) ?_
    show Steps p.tables e below (s₁.setTop (mkF m 4 #[.val (.int u), .val (.int j)] [(.int (1 : Int32)), (.int ((u >>> (j &&& 31))))])) _
    refine XS.iand X0.here hx rfl (hb hby d1_4) rfl ?_
    exact zk
  by_cases hc2 : (((u >>> (j &&& 31))) &&& (1 : Int32)) = (0 : Int32)
  ·
    skip
    have R3 : ∀ zt, Steps p.tables e below (s₁.setTop (mkF m 13 #[.val (.int u), .val (.int j)] [(.int (0 : Int32))])) zt → Steps p.tables e below (s₁.setTop (entryFrame m #[(.int u), (.int j)] 2)) zt := by
      intro zt zk
      refine R1 zt ?_
      show Steps p.tables e below (s₁.setTop (mkF m 5 #[.val (.int u), .val (.int j)] [(.int (((u >>> (j &&& 31))) &&& (1 : Int32)))])) _
      refine XS.ifYes X0.here hx rfl (pc0 := 5) (pc' := 12) rfl (hb hby d1_5) rfl ((if0 _ _).trans (teq hc2).1) (by decide) (by decide) ?_
      show Steps p.tables e below (s₁.setTop (mkF m 12 #[.val (.int u), .val (.int j)] [])) _
      refine XS.iconst X0.here hx rfl (hb hby d1_12) ?_
      exact zk
    obtain ⟨fs, hr, hrun, hended, hW, hsame⟩ := X0.leave (v := some (.int (0 : Int32))) (fun h => by rw [Bd.returns] at h; cases h)
    refine ⟨_, _, R3 _ ?_, hrun, hended, _, _, rfl, ?_, ⟨_, rfl⟩, hW, hsame.mono (by decide) (by decide)⟩
    · exact retN X0 hx (t := .boolean) Bd.returns (by simp) (hb hby d1_13) hr
    · show Q1 Z u j h0 n0 _ s₁.heap _
      rw [e0]
      exact ⟨(by unfold own_bv; rw [if_pos hc2]), N0, rfl⟩
  ·
    skip
    have R4 : ∀ zt, Steps p.tables e below (s₁.setTop (mkF m 13 #[.val (.int u), .val (.int j)] [(.int (1 : Int32))])) zt → Steps p.tables e below (s₁.setTop (entryFrame m #[(.int u), (.int j)] 2)) zt := by
      intro zt zk
      refine R1 zt ?_
      show Steps p.tables e below (s₁.setTop (mkF m 5 #[.val (.int u), .val (.int j)] [(.int (((u >>> (j &&& 31))) &&& (1 : Int32)))])) _
      refine XS.ifNo X0.here hx rfl (hb hby d1_5) rfl ((if0 _ _).trans (feq hc2).1) ?_
      show Steps p.tables e below (s₁.setTop (mkF m 8 #[.val (.int u), .val (.int j)] [])) _
      refine XS.iconst X0.here hx rfl (hb hby d1_8) ?_
      show Steps p.tables e below (s₁.setTop (mkF m 9 #[.val (.int u), .val (.int j)] [(.int (1 : Int32))])) _
      refine XS.goto X0.here hx rfl (pc0 := 9) (pc' := 13) rfl (hb hby d1_9) (by decide) (by decide) ?_
      exact zk
    obtain ⟨fs, hr, hrun, hended, hW, hsame⟩ := X0.leave (v := some (.int (1 : Int32))) (fun h => by rw [Bd.returns] at h; cases h)
    refine ⟨_, _, R4 _ ?_, hrun, hended, _, _, rfl, ?_, ⟨_, rfl⟩, hW, hsame.mono (by decide) (by decide)⟩
    · exact retN X0 hx (t := .boolean) Bd.returns (by simp) (hb hby d1_13) hr
    · show Q1 Z u j h0 n0 _ s₁.heap _
      rw [e0]
      exact ⟨(by unfold own_bv; rw [if_neg hc2]), N0, rfl⟩
theorem ef9 (m : MethodId) (x0 : Addr) : entryFrame m #[(.ref x0)] 1 = mkF m 0 #[.val (.ref x0)] [] := by first | (simp [entryFrame, mkF, argsToLocals, Value.category]; done) | rfl
theorem pn_1 : plainName "java/lang/Record" = true := by first | (simp [plainName, overriddenIn]; done) | decide +kernel
theorem d9_0 : decode jdk_30_method_1_code 0 = .ok (.aload_n 0, 1) := by decide +kernel
theorem d9_1 : decode jdk_30_method_1_code 1 = .ok (.invokespecial 1, 3) := by decide +kernel
theorem d9_4 : decode jdk_30_method_1_code 4 = .ok (.return_, 1) := by decide +kernel
def Q9 (Z : State) (a : Addr) (h0 : Heap) (n0 : Nat) (v : Option Value) (h : Heap) (L : List Loc) : Prop := v = none ∧ Fr n0 L ∧ h = h0
set_option maxRecDepth 65536 in
set_option maxHeartbeats 40000000 in
theorem rm9 (l : Launch) (Z : State) (a0 : Array Value) (hw : ∀ d ∈ tables_1, d.before a0 Z = true) (ws : List Jvm.Cond) (a : Addr) (h0 : Heap) (n0 : Nat) (Z0 : n0 ≤ h0.size)  :
    MetFree l (⟨"java/lang/Record", "<init>", "()V"⟩ : MethodName) (head1 (Jvm.Cond.code (⟨"java/lang/Record", "<init>", "()V"⟩ : MethodName) jdk_30_method_1_code 1 none :: ws) ({ frames := 1, cells := 0, slots := 0, locals := 12 } : Room)) (fun zza zzU => zza = #[(.ref a)] ∧ Z.Warmed39 zzU.vm ∧ zzU.heap = h0) (fun _ _ _ _ _ => True) (fun _ zzU zzo zzV => ∃ zzv zzL, zzo = .returned zzv ∧ Q9 Z a h0 n0 zzv zzV.heap zzL ∧ FrameEnd zzU zzo zzV zzL ({ frames := 1, cells := 0, slots := 0, locals := 12 } : Room).cells ({ frames := 1, cells := 0, slots := 0, locals := 12 } : Room).slots) := by
  refine MetFree.of_bodySF (plainFor_of_name pn_1) hisR ?_
  intro p e s m args below meth c s₁ Bd hml0 hP hK
  obtain ⟨rfl, hZ, hh⟩ := hP
  have hx := Bd.exec
  have hby := Bd.bytes
  have hml : c.maxLocals = 1 := hml0
  have hown : s.vm.findClass "java/lang/Record" = some m.cls := findClass_of_methodNamed Bd.named
  have hnm := (name_of_methodNamed Bd.named Bd.method).1
  have X0 : Stand p l e ({ frames := 1, cells := 0, slots := 0, locals := 12 } : Room) s m #[(.ref a)] below meth c s₁ [] 0 0 := Stand.of_body Bd
  have e0 : s₁.heap = h0 := by rw [← hh, Bd.state]; rfl
  have N0 := Fr.nil n0
  have R0 : ∀ zt, Steps p.tables e below (s₁.setTop (mkF m 0 #[.val (.ref a)] [])) zt → Steps p.tables e below (s₁.setTop (entryFrame m #[(.ref a)] 1)) zt := fun zt zk => castTop (ef9 m a) zk
  have R1 : ∀ zt, Steps p.tables e below (s₁.setTop (mkF m 1 #[.val (.ref a)] [(.ref a)])) zt → Steps p.tables e below (s₁.setTop (entryFrame m #[(.ref a)] 1)) zt := by
    intro zt zk
    refine R0 zt ?_
    show Steps p.tables e below (s₁.setTop (mkF m 0 #[.val (.ref a)] [])) _
    refine XS.aloadN X0.here hx rfl (hb hby d9_0) rfl rfl ?_
    exact zk
  obtain ⟨T2, X2, e2, st2⟩ := initO X0 hx hZ hown (hw _ (List.mem_of_getElem? (i := 46) rfl)) (hw _ (List.mem_of_getElem? (i := 17) rfl)) (hw _ (List.mem_of_getElem? (i := 18) rfl)) e0 (g := (mkF m 1 #[.val (.ref a)] [(.ref a)])) rfl (by rw [hml]; rfl) rfl (hb hby d9_1) (by decide) (W := 0) (by show 2 * 0 + _ ≤ _; exact Nat.le_of_eq rfl) (by decide)
  have R3 : ∀ zt, Steps p.tables e below (T2.setTop (mkF m 4 #[.val (.ref a)] [])) zt → Steps p.tables e below (s₁.setTop (entryFrame m #[(.ref a)] 1)) zt := by
    intro zt zk
    refine R1 zt ?_
    show Steps p.tables e below (s₁.setTop (mkF m 1 #[.val (.ref a)] [(.ref a)])) _
    refine st2 _ ?_
    exact zk
  obtain ⟨fs, hr, hrun, hended, hW, hsame⟩ := X2.leave (v := none) (fun _ => rfl)
  refine ⟨_, _, R3 _ ?_, hrun, hended, _, _, rfl, ?_, ⟨_, rfl⟩, hW, hsame.mono (by decide) (by decide)⟩
  · exact X2.returnOut hx Bd.returns (hb hby d9_4) hr
  · show Q9 Z a h0 n0 _ T2.heap _
    rw [e2]
    exact ⟨rfl, N0, rfl⟩
theorem ef8 (m : MethodId) (x0 : Addr) (x1 : Int32) (x2 : Addr) : entryFrame m #[(.ref x0), (.int x1), (.ref x2)] 3 = mkF m 0 #[.val (.ref x0), .val (.int x1), .val (.ref x2)] [] := by first | (simp [entryFrame, mkF, argsToLocals, Value.category]; done) | rfl
theorem pn_2 : plainName "com/example/reset/reset/Expression$Variable" = true := by first | (simp [plainName, overriddenIn]; done) | decide +kernel
theorem d8_0 : decode prog_19_method_1_code 0 = .ok (.aload_n 0, 1) := by decide +kernel
theorem pd_0 : parseMethodDescriptor "()V" = some ⟨[], none⟩ := by decide +kernel
theorem d8_1 : decode prog_19_method_1_code 1 = .ok (.invokespecial 1, 3) := by decide +kernel
theorem d8_4 : decode prog_19_method_1_code 4 = .ok (.aload_n 0, 1) := by decide +kernel
theorem d8_5 : decode prog_19_method_1_code 5 = .ok (.iload_n 1, 1) := by decide +kernel
theorem d8_6 : decode prog_19_method_1_code 6 = .ok (.putfield 7, 3) := by decide +kernel
theorem d8_9 : decode prog_19_method_1_code 9 = .ok (.aload_n 0, 1) := by decide +kernel
theorem d8_10 : decode prog_19_method_1_code 10 = .ok (.aload_n 2, 1) := by decide +kernel
theorem d8_11 : decode prog_19_method_1_code 11 = .ok (.putfield 13, 3) := by decide +kernel
theorem d8_14 : decode prog_19_method_1_code 14 = .ok (.return_, 1) := by decide +kernel
def Q8 (Z : State) (a : Addr) (u : Int32) (q : Addr) (h0 : Heap) (n0 : Nat) (v : Option Value) (h : Heap) (L : List Loc) : Prop := v = none ∧ Fr n0 L ∧ Keep h0 h [a] ∧ Fld Z h a "com/example/reset/reset/Expression$Variable" "index" "I" (.int u)
set_option maxRecDepth 65536 in
set_option maxHeartbeats 40000000 in
theorem rm8 (l : Launch) (Z : State) (a0 : Array Value) (hw : ∀ d ∈ tables_1, d.before a0 Z = true) (ws : List Jvm.Cond) (a : Addr) (u : Int32) (q : Addr) (h0 : Heap) (n0 : Nat) (Z0 : n0 ≤ h0.size) (E_a : Exa Z h0 a "com/example/reset/reset/Expression$Variable") (F_index_a : Fld Z h0 a "com/example/reset/reset/Expression$Variable" "index" "I" (.int (0 : Int32))) (F_name_a : Fld Z h0 a "com/example/reset/reset/Expression$Variable" "name" "Ljava/lang/String;" .null) (ge_a : n0 ≤ a) :
    MetFree l (⟨"com/example/reset/reset/Expression$Variable", "<init>", "(ILjava/lang/String;)V"⟩ : MethodName) (head1 (Jvm.Cond.code (⟨"com/example/reset/reset/Expression$Variable", "<init>", "(ILjava/lang/String;)V"⟩ : MethodName) prog_19_method_1_code 3 none :: ws) ({ frames := 2, cells := 0, slots := 0, locals := 24 } : Room)) (fun zza zzU => zza = #[(.ref a), (.int u), (.ref q)] ∧ Z.Warmed39 zzU.vm ∧ zzU.heap = h0) (fun _ _ _ _ _ => True) (fun _ zzU zzo zzV => ∃ zzv zzL, zzo = .returned zzv ∧ Q8 Z a u q h0 n0 zzv zzV.heap zzL ∧ FrameEnd zzU zzo zzV zzL ({ frames := 2, cells := 0, slots := 0, locals := 24 } : Room).cells ({ frames := 2, cells := 0, slots := 0, locals := 24 } : Room).slots) := by
  refine MetFree.of_bodySF (plainFor_of_name pn_2) hisR ?_
  intro p e s m args below meth c s₁ Bd hml0 hP hK
  obtain ⟨rfl, hZ, hh⟩ := hP
  have hx := Bd.exec
  have hby := Bd.bytes
  have hml : c.maxLocals = 3 := hml0
  have hown : s.vm.findClass "com/example/reset/reset/Expression$Variable" = some m.cls := findClass_of_methodNamed Bd.named
  have hnm := (name_of_methodNamed Bd.named Bd.method).1
  have X0 : Stand p l e ({ frames := 2, cells := 0, slots := 0, locals := 24 } : Room) s m #[(.ref a), (.int u), (.ref q)] below meth c s₁ [] 0 0 := Stand.of_body Bd
  have e0 : s₁.heap = h0 := by rw [← hh, Bd.state]; rfl
  have N0 := Fr.nil n0
  have R0 : ∀ zt, Steps p.tables e below (s₁.setTop (mkF m 0 #[.val (.ref a), .val (.int u), .val (.ref q)] [])) zt → Steps p.tables e below (s₁.setTop (entryFrame m #[(.ref a), (.int u), (.ref q)] 3)) zt := fun zt zk => castTop (ef8 m a u q) zk
  have KP := Keep.refl h0 [a]
  have R1 : ∀ zt, Steps p.tables e below (s₁.setTop (mkF m 1 #[.val (.ref a), .val (.int u), .val (.ref q)] [(.ref a)])) zt → Steps p.tables e below (s₁.setTop (entryFrame m #[(.ref a), (.int u), (.ref q)] 3)) zt := by
    intro zt zk
    refine R0 zt ?_
    show Steps p.tables e below (s₁.setTop (mkF m 0 #[.val (.ref a), .val (.int u), .val (.ref q)] [])) _
    refine XS.aloadN X0.here hx rfl (hb hby d8_0) rfl rfl ?_
    exact zk
  obtain ⟨_, _, ⟨T2, L2, k2, n2⟩, -, X2, ⟨Lc2, hQ2, l2, y2, z2⟩, st2⟩ := X0.specialBack hx (y := (⟨"java/lang/Record", "<init>", "()V"⟩ : MethodName)) rfl hown (mvT hZ (hw _ (List.mem_of_getElem? (i := 41) rfl))) (mvT hZ (hw _ (List.mem_of_getElem? (i := 42) rfl))) (mvT hZ (hw _ (List.mem_of_getElem? (i := 45) rfl))) (by decide) (backOf (W := 0) (rm9 l Z a0 hw [] a h0 n0 Z0) hZ (hw _ (List.mem_of_getElem? (i := 45) rfl)) (hw _ (List.mem_of_getElem? (i := 44) rfl)) (by decide) (by decide)) (g := (mkF m 1 #[.val (.ref a), .val (.int u), .val (.ref q)] [(.ref a)])) rfl (by rw [hml]; rfl) (Steps.refl _) (a := a) (argsL := []) (rest := []) (lenOf pd_0 rfl) rfl (by show 2 * 0 + _ ≤ _; exact Nat.le_of_eq rfl) (hb hby d8_1) (fun _ _ => ⟨rfl, e0, (by decide : 0 + 0 ≤ _), (by decide : 0 + 0 ≤ _)⟩)
  dsimp only [Pt.U, Pt.locs, Pt.cells, Pt.slots] at X2 l2 y2 z2 st2 hQ2
  subst l2 y2 z2
  obtain ⟨rfl, Nq2, eq2⟩ := hQ2
  have N2 := Fr.app N0 Nq2
  have e2 : T2.heap = h0 := eq2
  have R3 : ∀ zt, Steps p.tables e below (T2.setTop (mkF m 6 #[.val (.ref a), .val (.int u), .val (.ref q)] [(.int u), (.ref a)])) zt → Steps p.tables e below (s₁.setTop (entryFrame m #[(.ref a), (.int u), (.ref q)] 3)) zt := by
    intro zt zk
    refine R1 zt ?_
    show Steps p.tables e below (s₁.setTop (mkF m 1 #[.val (.ref a), .val (.int u), .val (.ref q)] [(.ref a)])) _
    refine st2.trans ?_
    show Steps p.tables e below (T2.setTop (mkF m 4 #[.val (.ref a), .val (.int u), .val (.ref q)] [])) _
    refine XS.aloadN X2.here hx rfl (hb hby d8_4) rfl rfl ?_
    show Steps p.tables e below (T2.setTop (mkF m 5 #[.val (.ref a), .val (.int u), .val (.ref q)] [(.ref a)])) _
    refine XS.iloadN X2.here hx rfl (hb hby d8_5) rfl ?_
    exact zk
  obtain ⟨T4, h4, X4, e4, W4, st4⟩ := putF X2 hx hZ hown (host := "") (Or.inl (hw _ (List.mem_of_getElem? (i := 47) rfl))) Via.refl e2 F_index_a E_a (Or.inr ⟨(hw _ (List.mem_of_getElem? (i := 48) rfl)), rfl, hnm⟩) (hw _ (List.mem_of_getElem? (i := 36) rfl)) (ty := .int) (by decide) rfl rfl (g := (mkF m 6 #[.val (.ref a), .val (.int u), .val (.ref q)] [(.int u), (.ref a)])) rfl rfl (hb hby d8_6)
  have N4 := Fr.snoc X4 N2 ge_a
  have Sz4 := Nat.le_trans Z0 (Keep.of_wr W4).1
  have E_a := E_a.wr W4
  have F_name_a := F_name_a.other W4 (Or.inr (slot_ne (Or.inr (hw _ (List.mem_of_getElem? (i := 50) rfl))) (Or.inr (hw _ (List.mem_of_getElem? (i := 48) rfl))) (by decide) (t := (.object "java/lang/String")) (t' := .int) (by decide) (by decide)))
  have F_index_a := F_index_a.same W4
  have KP := KP.wr W4 (Or.inl (List.mem_of_getElem? (i := 0) rfl))
  have R5 : ∀ zt, Steps p.tables e below (T4.setTop (mkF m 11 #[.val (.ref a), .val (.int u), .val (.ref q)] [(.ref q), (.ref a)])) zt → Steps p.tables e below (s₁.setTop (entryFrame m #[(.ref a), (.int u), (.ref q)] 3)) zt := by
    intro zt zk
    refine R3 zt ?_
    show Steps p.tables e below (T2.setTop (mkF m 6 #[.val (.ref a), .val (.int u), .val (.ref q)] [(.int u), (.ref a)])) _
    refine st4 _ ?_
    show Steps p.tables e below (T4.setTop (mkF m 9 #[.val (.ref a), .val (.int u), .val (.ref q)] [])) _
    refine XS.aloadN X4.here hx rfl (hb hby d8_9) rfl rfl ?_
    show Steps p.tables e below (T4.setTop (mkF m 10 #[.val (.ref a), .val (.int u), .val (.ref q)] [(.ref a)])) _
    refine XS.aloadN X4.here hx rfl (hb hby d8_10) rfl rfl ?_
    exact zk
  obtain ⟨T6, h6, X6, e6, W6, st6⟩ := putF X4 hx hZ hown (host := "") (Or.inl (hw _ (List.mem_of_getElem? (i := 49) rfl))) Via.refl e4 F_name_a E_a (Or.inr ⟨(hw _ (List.mem_of_getElem? (i := 50) rfl)), rfl, hnm⟩) (hw _ (List.mem_of_getElem? (i := 36) rfl)) (ty := (.object "java/lang/String")) (by decide) rfl rfl (g := (mkF m 11 #[.val (.ref a), .val (.int u), .val (.ref q)] [(.ref q), (.ref a)])) rfl rfl (hb hby d8_11)
  have N6 := Fr.snoc X6 N4 ge_a
  have Sz6 := Nat.le_trans Sz4 (Keep.of_wr W6).1
  have E_a := E_a.wr W6
  have F_index_a := F_index_a.other W6 (Or.inr (slot_ne (Or.inr (hw _ (List.mem_of_getElem? (i := 48) rfl))) (Or.inr (hw _ (List.mem_of_getElem? (i := 50) rfl))) (by decide) (t := .int) (t' := (.object "java/lang/String")) (by decide) (by decide)))
  have F_name_a := F_name_a.same W6
  have KP := KP.wr W6 (Or.inl (List.mem_of_getElem? (i := 0) rfl))
  have R7 : ∀ zt, Steps p.tables e below (T6.setTop (mkF m 14 #[.val (.ref a), .val (.int u), .val (.ref q)] [])) zt → Steps p.tables e below (s₁.setTop (entryFrame m #[(.ref a), (.int u), (.ref q)] 3)) zt := by
    intro zt zk
    refine R5 zt ?_
    show Steps p.tables e below (T4.setTop (mkF m 11 #[.val (.ref a), .val (.int u), .val (.ref q)] [(.ref q), (.ref a)])) _
    refine st6 _ ?_
    exact zk
  obtain ⟨fs, hr, hrun, hended, hW, hsame⟩ := X6.leave (v := none) (fun _ => rfl)
  refine ⟨_, _, R7 _ ?_, hrun, hended, _, _, rfl, ?_, ⟨_, rfl⟩, hW, hsame.mono (by decide) (by decide)⟩
  · exact X6.returnOut hx Bd.returns (hb hby d8_14) hr
  · show Q8 Z a u q h0 n0 _ T6.heap _
    rw [e6]
    exact ⟨rfl, N6, KP, F_index_a⟩
theorem ef10 (m : MethodId) (x0 : Addr) (x1 : Addr) : entryFrame m #[(.ref x0), (.ref x1)] 3 = mkF m 0 #[.val (.ref x0), .val (.ref x1), .unset] [] := by first | (simp [entryFrame, mkF, argsToLocals, Value.category]; done) | rfl
theorem d10_0 : decode prog_19_method_4_code 0 = .ok (.iconst 0, 1) := by decide +kernel
theorem d10_1 : decode prog_19_method_4_code 1 = .ok (.istore_n 2, 1) := by decide +kernel
theorem d10_2 : decode prog_19_method_4_code 2 = .ok (.aload_n 1, 1) := by decide +kernel
theorem d10_3 : decode prog_19_method_4_code 3 = .ok (.aload_n 0, 1) := by decide +kernel
theorem d10_4 : decode prog_19_method_4_code 4 = .ok (.getfield 7, 3) := by decide +kernel
theorem d10_7 : decode prog_19_method_4_code 7 = .ok (.baload, 1) := by decide +kernel
theorem d10_8 : decode prog_19_method_4_code 8 = .ok (.ifCond .eq 5, 3) := by decide +kernel
theorem d10_11 : decode prog_19_method_4_code 11 = .ok (.iconst 1, 1) := by decide +kernel
theorem d10_12 : decode prog_19_method_4_code 12 = .ok (.istore_n 2, 1) := by decide +kernel
theorem d10_13 : decode prog_19_method_4_code 13 = .ok (.iload_n 2, 1) := by decide +kernel
theorem d10_14 : decode prog_19_method_4_code 14 = .ok (.ireturn, 1) := by decide +kernel
def Q10 (Z : State) (a : Addr) (r : Addr) (j : Int32) (q : Int32) (kc : ClassId) (u0 : Int32) (u1 : Int32) (u2 : Int32) (u3 : Int32) (u4 : Int32) (u5 : Int32) (u6 : Int32) (u7 : Int32) (h0 : Heap) (n0 : Nat) (v : Option Value) (h : Heap) (L : List Loc) : Prop := v = some (.int (if q = (0 : Int32) then (0 : Int32) else (1 : Int32))) ∧ Fr n0 L ∧ h = h0
set_option maxRecDepth 65536 in
set_option maxHeartbeats 40000000 in
theorem rm10 (l : Launch) (Z : State) (a0 : Array Value) (hw : ∀ d ∈ tables_1, d.before a0 Z = true) (ws : List Jvm.Cond) (a : Addr) (r : Addr) (j : Int32) (q : Int32) (kc : ClassId) (u0 : Int32) (u1 : Int32) (u2 : Int32) (u3 : Int32) (u4 : Int32) (u5 : Int32) (u6 : Int32) (u7 : Int32) (h0 : Heap) (n0 : Nat) (Z0 : n0 ≤ h0.size) (F_index_a : Fld Z h0 a "com/example/reset/reset/Expression$Variable" "index" "I" (.int j)) (V_r : Arv Z h0 r kc .boolean (8 : Int32) [(.int u0), (.int u1), (.int u2), (.int u3), (.int u4), (.int u5), (.int u6), (.int u7)] (.int (0 : Int32))) (hj : ¬ j < 0 ∧ j < (8 : Int32)) (hq : ([(.int u0), (.int u1), (.int u2), (.int u3), (.int u4), (.int u5), (.int u6), (.int u7)] : List Value).getD j.toNatClampNeg (.int (0 : Int32)) = .int q) :
    MetFree l (⟨"com/example/reset/reset/Expression$Variable", "degreeIn", "([Z)I"⟩ : MethodName) (head1 (Jvm.Cond.code (⟨"com/example/reset/reset/Expression$Variable", "degreeIn", "([Z)I"⟩ : MethodName) prog_19_method_4_code 3 (some .int) :: ws) ({ frames := 0, cells := 0, slots := 0, locals := 0 } : Room)) (fun zza zzU => zza = #[(.ref a), (.ref r)] ∧ Z.Warmed39 zzU.vm ∧ zzU.heap = h0) (fun _ _ _ _ _ => True) (fun _ zzU zzo zzV => ∃ zzv zzL, zzo = .returned zzv ∧ Q10 Z a r j q kc u0 u1 u2 u3 u4 u5 u6 u7 h0 n0 zzv zzV.heap zzL ∧ FrameEnd zzU zzo zzV zzL ({ frames := 0, cells := 0, slots := 0, locals := 0 } : Room).cells ({ frames := 0, cells := 0, slots := 0, locals := 0 } : Room).slots) := by
  refine MetFree.of_bodySF (plainFor_of_name pn_2) hisR ?_
  intro p e s m args below meth c s₁ Bd hml0 hP hK
  obtain ⟨rfl, hZ, hh⟩ := hP
  have hx := Bd.exec
  have hby := Bd.bytes
  have hml : c.maxLocals = 3 := hml0
  have hown : s.vm.findClass "com/example/reset/reset/Expression$Variable" = some m.cls := findClass_of_methodNamed Bd.named
  have hnm := (name_of_methodNamed Bd.named Bd.method).1
  have X0 : Stand p l e ({ frames := 0, cells := 0, slots := 0, locals := 0 } : Room) s m #[(.ref a), (.ref r)] below meth c s₁ [] 0 0 := Stand.of_body Bd
  have e0 : s₁.heap = h0 := by rw [← hh, Bd.state]; rfl
  have N0 := Fr.nil n0
  have R0 : ∀ zt, Steps p.tables e below (s₁.setTop (mkF m 0 #[.val (.ref a), .val (.ref r), .unset] [])) zt → Steps p.tables e below (s₁.setTop (entryFrame m #[(.ref a), (.ref r)] 3)) zt := fun zt zk => castTop (ef10 m a r) zk
  have R1 : ∀ zt, Steps p.tables e below (s₁.setTop (mkF m 4 #[.val (.ref a), .val (.ref r), .val (.int (0 : Int32))] [(.ref a), (.ref r)])) zt → Steps p.tables e below (s₁.setTop (entryFrame m #[(.ref a), (.ref r)] 3)) zt := by
    intro zt zk
    refine R0 zt ?_
    show Steps p.tables e below (s₁.setTop (mkF m 0 #[.val (.ref a), .val (.ref r), .unset] [])) _
    refine XS.iconst X0.here hx rfl (hb hby d10_0) ?_
    show Steps p.tables e below (s₁.setTop (mkF m 1 #[.val (.ref a), .val (.ref r), .unset] [(.int (0 : Int32))])) _
    refine XS.istoreN X0.here hx rfl (hb hby d10_1) rfl (l' := #[.val (.ref a), .val (.ref r), .val (.int (0 : Int32))]) rfl ?_
    show Steps p.tables e below (s₁.setTop (mkF m 2 #[.val (.ref a), .val (.ref r), .val (.int (0 : Int32))] [])) _
    refine XS.aloadN X0.here hx rfl (hb hby d10_2) rfl rfl ?_
    show Steps p.tables e below (s₁.setTop (mkF m 3 #[.val (.ref a), .val (.ref r), .val (.int (0 : Int32))] [(.ref r)])) _
    refine XS.aloadN X0.here hx rfl (hb hby d10_3) rfl rfl ?_
    exact zk
  obtain ⟨T2, X2, e2, st2⟩ := getF X0 hx hZ hown (host := "") (Or.inl (hw _ (List.mem_of_getElem? (i := 47) rfl))) Via.refl e0 F_index_a (g := (mkF m 4 #[.val (.ref a), .val (.ref r), .val (.int (0 : Int32))] [(.ref a), (.ref r)])) rfl rfl (hb hby d10_4)
  have R3 : ∀ zt, Steps p.tables e below (T2.setTop (mkF m 7 #[.val (.ref a), .val (.ref r), .val (.int (0 : Int32))] [(.int j), (.ref r)])) zt → Steps p.tables e below (s₁.setTop (entryFrame m #[(.ref a), (.ref r)] 3)) zt := by
    intro zt zk
    refine R1 zt ?_
    show Steps p.tables e below (s₁.setTop (mkF m 4 #[.val (.ref a), .val (.ref r), .val (.int (0 : Int32))] [(.ref a), (.ref r)])) _
    refine st2 _ ?_
    exact zk
  obtain ⟨cl4, Ar4, Aq4, As4, An4, Ah4, Ag4⟩ := id V_r
  have hin4 : ¬ (j < 0 ∨ cl4.slots.size ≤ (j).toNatClampNeg) := inb_of As4 hj
  have hat4 : cl4.slots[(j).toNatClampNeg]? = some (.int q) := Has.at Ah4 hin4 hq
  have R5 : ∀ zt, Steps p.tables e below (T2.setTop (mkF m 8 #[.val (.ref a), .val (.ref r), .val (.int (0 : Int32))] [(.int q)])) zt → Steps p.tables e below (s₁.setTop (entryFrame m #[(.ref a), (.ref r)] 3)) zt := by
    intro zt zk
    refine R3 zt ?_
    show Steps p.tables e below (T2.setTop (mkF m 7 #[.val (.ref a), .val (.ref r), .val (.int (0 : Int32))] [(.int j), (.ref r)])) _
    refine X2.baloadBooleans hx (j := j) (v := (.int q)) (by rw [e2]; exact Ar4.1) (State.isArrayOf_alike hZ.alike Ar4.2.1) Ar4.2.2 hin4 hat4 (g := (mkF m 7 #[.val (.ref a), .val (.ref r), .val (.int (0 : Int32))] [(.int j), (.ref r)])) rfl rfl (hb hby d10_7) _ ?_
    exact zk
  have R6 : ∀ zt, Steps p.tables e below (T2.setTop (mkF m 13 #[.val (.ref a), .val (.ref r), .val (.int (if q = (0 : Int32) then (0 : Int32) else (1 : Int32) : Int32))] [])) zt → Steps p.tables e below (s₁.setTop (entryFrame m #[(.ref a), (.ref r)] 3)) zt := by
    by_cases hc7 : q = (0 : Int32)
    ·
      skip
      have R8 : ∀ zt, Steps p.tables e below (T2.setTop (mkF m 13 #[.val (.ref a), .val (.ref r), .val (.int (0 : Int32))] [])) zt → Steps p.tables e below (s₁.setTop (entryFrame m #[(.ref a), (.ref r)] 3)) zt := by
        intro zt zk
        refine R5 zt ?_
        show Steps p.tables e below (T2.setTop (mkF m 8 #[.val (.ref a), .val (.ref r), .val (.int (0 : Int32))] [(.int q)])) _
        refine XS.ifYes X2.here hx rfl (pc0 := 8) (pc' := 13) rfl (hb hby d10_8) rfl ((if0 _ _).trans (teq hc7).1) (by decide) (by decide) ?_
        exact zk
      refine fun zt zk => R8 zt ?_
      have q9 : (if q = (0 : Int32) then (0 : Int32) else (1 : Int32) : Int32) = (0 : Int32) := (if_pos hc7)
      rw [q9] at zk
      try rw [q9]
      exact zk
    ·
      skip
      have R10 : ∀ zt, Steps p.tables e below (T2.setTop (mkF m 13 #[.val (.ref a), .val (.ref r), .val (.int (1 : Int32))] [])) zt → Steps p.tables e below (s₁.setTop (entryFrame m #[(.ref a), (.ref r)] 3)) zt := by
        intro zt zk
        refine R5 zt ?_
        show Steps p.tables e below (T2.setTop (mkF m 8 #[.val (.ref a), .val (.ref r), .val (.int (0 : Int32))] [(.int q)])) _
        refine XS.ifNo X2.here hx rfl (hb hby d10_8) rfl ((if0 _ _).trans (feq hc7).1) ?_
        show Steps p.tables e below (T2.setTop (mkF m 11 #[.val (.ref a), .val (.ref r), .val (.int (0 : Int32))] [])) _
        refine XS.iconst X2.here hx rfl (hb hby d10_11) ?_
        show Steps p.tables e below (T2.setTop (mkF m 12 #[.val (.ref a), .val (.ref r), .val (.int (0 : Int32))] [(.int (1 : Int32))])) _
        refine XS.istoreN X2.here hx rfl (hb hby d10_12) rfl (l' := #[.val (.ref a), .val (.ref r), .val (.int (1 : Int32))]) rfl ?_
        exact zk
      refine fun zt zk => R10 zt ?_
      have q11 : (if q = (0 : Int32) then (0 : Int32) else (1 : Int32) : Int32) = (1 : Int32) := (if_neg hc7)
      rw [q11] at zk
      try rw [q11]
      exact zk
  have R12 : ∀ zt, Steps p.tables e below (T2.setTop (mkF m 14 #[.val (.ref a), .val (.ref r), .val (.int (if q = (0 : Int32) then (0 : Int32) else (1 : Int32) : Int32))] [(.int (if q = (0 : Int32) then (0 : Int32) else (1 : Int32) : Int32))])) zt → Steps p.tables e below (s₁.setTop (entryFrame m #[(.ref a), (.ref r)] 3)) zt := by
    intro zt zk
    refine R6 zt ?_
    show Steps p.tables e below (T2.setTop (mkF m 13 #[.val (.ref a), .val (.ref r), .val (.int (if q = (0 : Int32) then (0 : Int32) else (1 : Int32) : Int32))] [])) _
    refine XS.iloadN X2.here hx rfl (hb hby d10_13) rfl ?_
    exact zk
  obtain ⟨fs, hr, hrun, hended, hW, hsame⟩ := X2.leave (v := some (.int (if q = (0 : Int32) then (0 : Int32) else (1 : Int32) : Int32))) (fun h => by rw [Bd.returns] at h; cases h)
  refine ⟨_, _, R12 _ ?_, hrun, hended, _, _, rfl, ?_, ⟨_, rfl⟩, hW, hsame.mono (by decide) (by decide)⟩
  · exact retI X2 hx Bd.returns (hb hby d10_14) hr
  · show Q10 Z a r j q kc u0 u1 u2 u3 u4 u5 u6 u7 h0 n0 _ T2.heap _
    rw [e2]
    exact ⟨rfl, N0, rfl⟩
theorem ef11 (m : MethodId) (x0 : Addr) : entryFrame m #[(.ref x0)] 2 = mkF m 0 #[.val (.ref x0), .unset] [] := by first | (simp [entryFrame, mkF, argsToLocals, Value.category]; done) | rfl
theorem d11_0 : decode method_3_code 0 = .ok (.iconst 0, 1) := by decide +kernel
theorem d11_1 : decode method_3_code 1 = .ok (.istore_n 1, 1) := by decide +kernel
theorem d11_2 : decode method_3_code 2 = .ok (.aload_n 0, 1) := by decide +kernel
theorem d11_3 : decode method_3_code 3 = .ok (.iconst 0, 1) := by decide +kernel
theorem d11_4 : decode method_3_code 4 = .ok (.baload, 1) := by decide +kernel
theorem d11_5 : decode method_3_code 5 = .ok (.ifCond .eq 7, 3) := by decide +kernel
theorem d11_8 : decode method_3_code 8 = .ok (.iload_n 1, 1) := by decide +kernel
theorem d11_9 : decode method_3_code 9 = .ok (.iconst 1, 1) := by decide +kernel
theorem d11_10 : decode method_3_code 10 = .ok (.ior, 1) := by decide +kernel
theorem d11_11 : decode method_3_code 11 = .ok (.istore_n 1, 1) := by decide +kernel
theorem d11_12 : decode method_3_code 12 = .ok (.aload_n 0, 1) := by decide +kernel
theorem d11_13 : decode method_3_code 13 = .ok (.iconst 1, 1) := by decide +kernel
theorem d11_14 : decode method_3_code 14 = .ok (.baload, 1) := by decide +kernel
theorem d11_15 : decode method_3_code 15 = .ok (.ifCond .eq 7, 3) := by decide +kernel
theorem d11_18 : decode method_3_code 18 = .ok (.iload_n 1, 1) := by decide +kernel
theorem d11_19 : decode method_3_code 19 = .ok (.iconst 2, 1) := by decide +kernel
theorem d11_20 : decode method_3_code 20 = .ok (.ior, 1) := by decide +kernel
theorem d11_21 : decode method_3_code 21 = .ok (.istore_n 1, 1) := by decide +kernel
theorem d11_22 : decode method_3_code 22 = .ok (.aload_n 0, 1) := by decide +kernel
theorem d11_23 : decode method_3_code 23 = .ok (.iconst 2, 1) := by decide +kernel
theorem d11_24 : decode method_3_code 24 = .ok (.baload, 1) := by decide +kernel
theorem d11_25 : decode method_3_code 25 = .ok (.ifCond .eq 7, 3) := by decide +kernel
theorem d11_28 : decode method_3_code 28 = .ok (.iload_n 1, 1) := by decide +kernel
theorem d11_29 : decode method_3_code 29 = .ok (.iconst 4, 1) := by decide +kernel
theorem d11_30 : decode method_3_code 30 = .ok (.ior, 1) := by decide +kernel
theorem d11_31 : decode method_3_code 31 = .ok (.istore_n 1, 1) := by decide +kernel
theorem d11_32 : decode method_3_code 32 = .ok (.aload_n 0, 1) := by decide +kernel
theorem d11_33 : decode method_3_code 33 = .ok (.iconst 3, 1) := by decide +kernel
theorem d11_34 : decode method_3_code 34 = .ok (.baload, 1) := by decide +kernel
theorem d11_35 : decode method_3_code 35 = .ok (.ifCond .eq 8, 3) := by decide +kernel
theorem d11_38 : decode method_3_code 38 = .ok (.iload_n 1, 1) := by decide +kernel
theorem d11_39 : decode method_3_code 39 = .ok (.bipush 8, 2) := by decide +kernel
theorem d11_41 : decode method_3_code 41 = .ok (.ior, 1) := by decide +kernel
theorem d11_42 : decode method_3_code 42 = .ok (.istore_n 1, 1) := by decide +kernel
theorem d11_43 : decode method_3_code 43 = .ok (.aload_n 0, 1) := by decide +kernel
theorem d11_44 : decode method_3_code 44 = .ok (.iconst 4, 1) := by decide +kernel
theorem d11_45 : decode method_3_code 45 = .ok (.baload, 1) := by decide +kernel
theorem d11_46 : decode method_3_code 46 = .ok (.ifCond .eq 8, 3) := by decide +kernel
theorem d11_49 : decode method_3_code 49 = .ok (.iload_n 1, 1) := by decide +kernel
theorem d11_50 : decode method_3_code 50 = .ok (.bipush 16, 2) := by decide +kernel
theorem d11_52 : decode method_3_code 52 = .ok (.ior, 1) := by decide +kernel
theorem d11_53 : decode method_3_code 53 = .ok (.istore_n 1, 1) := by decide +kernel
theorem d11_54 : decode method_3_code 54 = .ok (.aload_n 0, 1) := by decide +kernel
theorem d11_55 : decode method_3_code 55 = .ok (.iconst 5, 1) := by decide +kernel
theorem d11_56 : decode method_3_code 56 = .ok (.baload, 1) := by decide +kernel
theorem d11_57 : decode method_3_code 57 = .ok (.ifCond .eq 8, 3) := by decide +kernel
theorem d11_60 : decode method_3_code 60 = .ok (.iload_n 1, 1) := by decide +kernel
theorem d11_61 : decode method_3_code 61 = .ok (.bipush 32, 2) := by decide +kernel
theorem d11_63 : decode method_3_code 63 = .ok (.ior, 1) := by decide +kernel
theorem d11_64 : decode method_3_code 64 = .ok (.istore_n 1, 1) := by decide +kernel
theorem d11_65 : decode method_3_code 65 = .ok (.aload_n 0, 1) := by decide +kernel
theorem d11_66 : decode method_3_code 66 = .ok (.bipush 6, 2) := by decide +kernel
theorem d11_68 : decode method_3_code 68 = .ok (.baload, 1) := by decide +kernel
theorem d11_69 : decode method_3_code 69 = .ok (.ifCond .eq 8, 3) := by decide +kernel
theorem d11_72 : decode method_3_code 72 = .ok (.iload_n 1, 1) := by decide +kernel
theorem d11_73 : decode method_3_code 73 = .ok (.bipush 64, 2) := by decide +kernel
theorem d11_75 : decode method_3_code 75 = .ok (.ior, 1) := by decide +kernel
theorem d11_76 : decode method_3_code 76 = .ok (.istore_n 1, 1) := by decide +kernel
theorem d11_77 : decode method_3_code 77 = .ok (.aload_n 0, 1) := by decide +kernel
theorem d11_78 : decode method_3_code 78 = .ok (.bipush 7, 2) := by decide +kernel
theorem d11_80 : decode method_3_code 80 = .ok (.baload, 1) := by decide +kernel
theorem d11_81 : decode method_3_code 81 = .ok (.ifCond .eq 9, 3) := by decide +kernel
theorem d11_84 : decode method_3_code 84 = .ok (.iload_n 1, 1) := by decide +kernel
theorem d11_85 : decode method_3_code 85 = .ok (.sipush 128, 3) := by decide +kernel
theorem d11_88 : decode method_3_code 88 = .ok (.ior, 1) := by decide +kernel
theorem d11_89 : decode method_3_code 89 = .ok (.istore_n 1, 1) := by decide +kernel
theorem d11_90 : decode method_3_code 90 = .ok (.iload_n 1, 1) := by decide +kernel
theorem d11_91 : decode method_3_code 91 = .ok (.ireturn, 1) := by decide +kernel
def Q11 (Z : State) (r : Addr) (kc : ClassId) (u0 : Int32) (u1 : Int32) (u2 : Int32) (u3 : Int32) (u4 : Int32) (u5 : Int32) (u6 : Int32) (u7 : Int32) (h0 : Heap) (n0 : Nat) (v : Option Value) (h : Heap) (L : List Loc) : Prop := v = some (.int (own_or (own_or (own_or (own_or (own_or (own_or (own_or (own_or (0 : Int32) u0 (1 : Int32)) u1 (2 : Int32)) u2 (4 : Int32)) u3 (8 : Int32)) u4 (16 : Int32)) u5 (32 : Int32)) u6 (64 : Int32)) u7 (128 : Int32))) ∧ Fr n0 L ∧ h = h0
set_option maxRecDepth 65536 in
set_option maxHeartbeats 40000000 in
theorem rm11 (l : Launch) (Z : State) (a0 : Array Value) (hw : ∀ d ∈ tables_1, d.before a0 Z = true) (ws : List Jvm.Cond) (r : Addr) (kc : ClassId) (u0 : Int32) (u1 : Int32) (u2 : Int32) (u3 : Int32) (u4 : Int32) (u5 : Int32) (u6 : Int32) (u7 : Int32) (h0 : Heap) (n0 : Nat) (Z0 : n0 ≤ h0.size) (V_r : Arv Z h0 r kc .boolean (8 : Int32) [(.int u0), (.int u1), (.int u2), (.int u3), (.int u4), (.int u5), (.int u6), (.int u7)] (.int (0 : Int32))) :
    MetFree l (⟨"com/example/reset/reset/VariableDegreeInPinLaw", "pack", "([Z)I"⟩ : MethodName) (head1 (Jvm.Cond.code (⟨"com/example/reset/reset/VariableDegreeInPinLaw", "pack", "([Z)I"⟩ : MethodName) method_3_code 2 (some .int) :: ws) ({ frames := 0, cells := 0, slots := 0, locals := 0 } : Room)) (fun zza zzU => zza = #[(.ref r)] ∧ Z.Warmed39 zzU.vm ∧ zzU.heap = h0) (fun _ _ _ _ _ => True) (fun _ zzU zzo zzV => ∃ zzv zzL, zzo = .returned zzv ∧ Q11 Z r kc u0 u1 u2 u3 u4 u5 u6 u7 h0 n0 zzv zzV.heap zzL ∧ FrameEnd zzU zzo zzV zzL ({ frames := 0, cells := 0, slots := 0, locals := 0 } : Room).cells ({ frames := 0, cells := 0, slots := 0, locals := 0 } : Room).slots) := by
  refine MetFree.of_bodySF (plainFor_of_name pn_0) hisR ?_
  intro p e s m args below meth c s₁ Bd hml0 hP hK
  obtain ⟨rfl, hZ, hh⟩ := hP
  have hx := Bd.exec
  have hby := Bd.bytes
  have hml : c.maxLocals = 2 := hml0
  have hown : s.vm.findClass "com/example/reset/reset/VariableDegreeInPinLaw" = some m.cls := findClass_of_methodNamed Bd.named
  have hnm := (name_of_methodNamed Bd.named Bd.method).1
  have X0 : Stand p l e ({ frames := 0, cells := 0, slots := 0, locals := 0 } : Room) s m #[(.ref r)] below meth c s₁ [] 0 0 := Stand.of_body Bd
  have e0 : s₁.heap = h0 := by rw [← hh, Bd.state]; rfl
  have N0 := Fr.nil n0
  have R0 : ∀ zt, Steps p.tables e below (s₁.setTop (mkF m 0 #[.val (.ref r), .unset] [])) zt → Steps p.tables e below (s₁.setTop (entryFrame m #[(.ref r)] 2)) zt := fun zt zk => castTop (ef11 m r) zk
  have R1 : ∀ zt, Steps p.tables e below (s₁.setTop (mkF m 4 #[.val (.ref r), .val (.int (0 : Int32))] [(.int (0 : Int32)), (.ref r)])) zt → Steps p.tables e below (s₁.setTop (entryFrame m #[(.ref r)] 2)) zt := by
    intro zt zk
    refine R0 zt ?_
    show Steps p.tables e below (s₁.setTop (mkF m 0 #[.val (.ref r), .unset] [])) _
    refine XS.iconst X0.here hx rfl (hb hby d11_0) ?_
    show Steps p.tables e below (s₁.setTop (mkF m 1 #[.val (.ref r), .unset] [(.int (0 : Int32))])) _
    refine XS.istoreN X0.here hx rfl (hb hby d11_1) rfl (l' := #[.val (.ref r), .val (.int (0 : Int32))]) rfl ?_
    show Steps p.tables e below (s₁.setTop (mkF m 2 #[.val (.ref r), .val (.int (0 : Int32))] [])) _
    refine XS.aloadN X0.here hx rfl (hb hby d11_2) rfl rfl ?_
    show Steps p.tables e below (s₁.setTop (mkF m 3 #[.val (.ref r), .val (.int (0 : Int32))] [(.ref r)])) _
    refine XS.iconst X0.here hx rfl (hb hby d11_3) ?_
    exact zk
  obtain ⟨cl2, Ar2, Aq2, As2, An2, Ah2, Ag2⟩ := id V_r
  have hin2 : ¬ ((0 : Int32) < 0 ∨ cl2.slots.size ≤ ((0 : Int32)).toNatClampNeg) := inb_of As2 ⟨by decide, by decide⟩
  have hat2 : cl2.slots[((0 : Int32)).toNatClampNeg]? = some (.int u0) := Has.at Ah2 hin2 rfl
  have R3 : ∀ zt, Steps p.tables e below (s₁.setTop (mkF m 5 #[.val (.ref r), .val (.int (0 : Int32))] [(.int u0)])) zt → Steps p.tables e below (s₁.setTop (entryFrame m #[(.ref r)] 2)) zt := by
    intro zt zk
    refine R1 zt ?_
    show Steps p.tables e below (s₁.setTop (mkF m 4 #[.val (.ref r), .val (.int (0 : Int32))] [(.int (0 : Int32)), (.ref r)])) _
    refine X0.baloadBooleans hx (j := (0 : Int32)) (v := (.int u0)) (by rw [e0]; exact Ar2.1) (State.isArrayOf_alike hZ.alike Ar2.2.1) Ar2.2.2 hin2 hat2 (g := (mkF m 4 #[.val (.ref r), .val (.int (0 : Int32))] [(.int (0 : Int32)), (.ref r)])) rfl rfl (hb hby d11_4) _ ?_
    exact zk
  have R4 : ∀ zt, Steps p.tables e below (s₁.setTop (mkF m 12 #[.val (.ref r), .val (.int (if u0 = (0 : Int32) then (0 : Int32) else ((0 : Int32) ||| (1 : Int32)) : Int32))] [])) zt → Steps p.tables e below (s₁.setTop (entryFrame m #[(.ref r)] 2)) zt := by
    by_cases hc5 : u0 = (0 : Int32)
    ·
      skip
      have R6 : ∀ zt, Steps p.tables e below (s₁.setTop (mkF m 12 #[.val (.ref r), .val (.int (0 : Int32))] [])) zt → Steps p.tables e below (s₁.setTop (entryFrame m #[(.ref r)] 2)) zt := by
        intro zt zk
        refine R3 zt ?_
        show Steps p.tables e below (s₁.setTop (mkF m 5 #[.val (.ref r), .val (.int (0 : Int32))] [(.int u0)])) _
        refine XS.ifYes X0.here hx rfl (pc0 := 5) (pc' := 12) rfl (hb hby d11_5) rfl ((if0 _ _).trans (teq hc5).1) (by decide) (by decide) ?_
        exact zk
      refine fun zt zk => R6 zt ?_
      have q7 : (if u0 = (0 : Int32) then (0 : Int32) else ((0 : Int32) ||| (1 : Int32)) : Int32) = (0 : Int32) := (if_pos hc5)
      rw [q7] at zk
      try rw [q7]
      exact zk
    ·
      skip
      have R8 : ∀ zt, Steps p.tables e below (s₁.setTop (mkF m 12 #[.val (.ref r), .val (.int ((0 : Int32) ||| (1 : Int32)))] [])) zt → Steps p.tables e below (s₁.setTop (entryFrame m #[(.ref r)] 2)) zt := by
        intro zt zk
        refine R3 zt ?_
        show Steps p.tables e below (s₁.setTop (mkF m 5 #[.val (.ref r), .val (.int (0 : Int32))] [(.int u0)])) _
        refine XS.ifNo X0.here hx rfl (hb hby d11_5) rfl ((if0 _ _).trans (feq hc5).1) ?_
        show Steps p.tables e below (s₁.setTop (mkF m 8 #[.val (.ref r), .val (.int (0 : Int32))] [])) _
        refine XS.iloadN X0.here hx rfl (hb hby d11_8) rfl ?_
        show Steps p.tables e below (s₁.setTop (mkF m 9 #[.val (.ref r), .val (.int (0 : Int32))] [(.int (0 : Int32))])) _
        refine XS.iconst X0.here hx rfl (hb hby d11_9) ?_
        show Steps p.tables e below (s₁.setTop (mkF m 10 #[.val (.ref r), .val (.int (0 : Int32))] [(.int (1 : Int32)), (.int (0 : Int32))])) _
        refine XS.ior X0.here hx rfl (hb hby d11_10) rfl ?_
        show Steps p.tables e below (s₁.setTop (mkF m 11 #[.val (.ref r), .val (.int (0 : Int32))] [(.int ((0 : Int32) ||| (1 : Int32)))])) _
        refine XS.istoreN X0.here hx rfl (hb hby d11_11) rfl (l' := #[.val (.ref r), .val (.int ((0 : Int32) ||| (1 : Int32)))]) rfl ?_
        exact zk
      refine fun zt zk => R8 zt ?_
      have q9 : (if u0 = (0 : Int32) then (0 : Int32) else ((0 : Int32) ||| (1 : Int32)) : Int32) = ((0 : Int32) ||| (1 : Int32)) := (if_neg hc5)
      rw [q9] at zk
      try rw [q9]
      exact zk
  have R10 : ∀ zt, Steps p.tables e below (s₁.setTop (mkF m 14 #[.val (.ref r), .val (.int (own_or (0 : Int32) u0 (1 : Int32)))] [(.int (1 : Int32)), (.ref r)])) zt → Steps p.tables e below (s₁.setTop (entryFrame m #[(.ref r)] 2)) zt := by
    intro zt zk
    refine R4 zt ?_
    show Steps p.tables e below (s₁.setTop (mkF m 12 #[.val (.ref r), .val (.int (own_or (0 : Int32) u0 (1 : Int32)))] [])) _
    refine XS.aloadN X0.here hx rfl (hb hby d11_12) rfl rfl ?_
    show Steps p.tables e below (s₁.setTop (mkF m 13 #[.val (.ref r), .val (.int (own_or (0 : Int32) u0 (1 : Int32)))] [(.ref r)])) _
    refine XS.iconst X0.here hx rfl (hb hby d11_13) ?_
    exact zk
  obtain ⟨cl11, Ar11, Aq11, As11, An11, Ah11, Ag11⟩ := id V_r
  have hin11 : ¬ ((1 : Int32) < 0 ∨ cl11.slots.size ≤ ((1 : Int32)).toNatClampNeg) := inb_of As11 ⟨by decide, by decide⟩
  have hat11 : cl11.slots[((1 : Int32)).toNatClampNeg]? = some (.int u1) := Has.at Ah11 hin11 rfl
  have R12 : ∀ zt, Steps p.tables e below (s₁.setTop (mkF m 15 #[.val (.ref r), .val (.int (own_or (0 : Int32) u0 (1 : Int32)))] [(.int u1)])) zt → Steps p.tables e below (s₁.setTop (entryFrame m #[(.ref r)] 2)) zt := by
    intro zt zk
    refine R10 zt ?_
    show Steps p.tables e below (s₁.setTop (mkF m 14 #[.val (.ref r), .val (.int (own_or (0 : Int32) u0 (1 : Int32)))] [(.int (1 : Int32)), (.ref r)])) _
    refine X0.baloadBooleans hx (j := (1 : Int32)) (v := (.int u1)) (by rw [e0]; exact Ar11.1) (State.isArrayOf_alike hZ.alike Ar11.2.1) Ar11.2.2 hin11 hat11 (g := (mkF m 14 #[.val (.ref r), .val (.int (own_or (0 : Int32) u0 (1 : Int32)))] [(.int (1 : Int32)), (.ref r)])) rfl rfl (hb hby d11_14) _ ?_
    exact zk
  have R13 : ∀ zt, Steps p.tables e below (s₁.setTop (mkF m 22 #[.val (.ref r), .val (.int (if u1 = (0 : Int32) then (own_or (0 : Int32) u0 (1 : Int32)) else ((own_or (0 : Int32) u0 (1 : Int32)) ||| (2 : Int32)) : Int32))] [])) zt → Steps p.tables e below (s₁.setTop (entryFrame m #[(.ref r)] 2)) zt := by
    by_cases hc14 : u1 = (0 : Int32)
    ·
      skip
      have R15 : ∀ zt, Steps p.tables e below (s₁.setTop (mkF m 22 #[.val (.ref r), .val (.int (own_or (0 : Int32) u0 (1 : Int32)))] [])) zt → Steps p.tables e below (s₁.setTop (entryFrame m #[(.ref r)] 2)) zt := by
        intro zt zk
        refine R12 zt ?_
        show Steps p.tables e below (s₁.setTop (mkF m 15 #[.val (.ref r), .val (.int (own_or (0 : Int32) u0 (1 : Int32)))] [(.int u1)])) _
        refine XS.ifYes X0.here hx rfl (pc0 := 15) (pc' := 22) rfl (hb hby d11_15) rfl ((if0 _ _).trans (teq hc14).1) (by decide) (by decide) ?_
        exact zk
      refine fun zt zk => R15 zt ?_
      have q16 : (if u1 = (0 : Int32) then (own_or (0 : Int32) u0 (1 : Int32)) else ((own_or (0 : Int32) u0 (1 : Int32)) ||| (2 : Int32)) : Int32) = (own_or (0 : Int32) u0 (1 : Int32)) := (if_pos hc14)
      rw [q16] at zk
      try rw [q16]
      exact zk
    ·
      skip
      have R17 : ∀ zt, Steps p.tables e below (s₁.setTop (mkF m 22 #[.val (.ref r), .val (.int ((own_or (0 : Int32) u0 (1 : Int32)) ||| (2 : Int32)))] [])) zt → Steps p.tables e below (s₁.setTop (entryFrame m #[(.ref r)] 2)) zt := by
        intro zt zk
        refine R12 zt ?_
        show Steps p.tables e below (s₁.setTop (mkF m 15 #[.val (.ref r), .val (.int (own_or (0 : Int32) u0 (1 : Int32)))] [(.int u1)])) _
        refine XS.ifNo X0.here hx rfl (hb hby d11_15) rfl ((if0 _ _).trans (feq hc14).1) ?_
        show Steps p.tables e below (s₁.setTop (mkF m 18 #[.val (.ref r), .val (.int (own_or (0 : Int32) u0 (1 : Int32)))] [])) _
        refine XS.iloadN X0.here hx rfl (hb hby d11_18) rfl ?_
        show Steps p.tables e below (s₁.setTop (mkF m 19 #[.val (.ref r), .val (.int (own_or (0 : Int32) u0 (1 : Int32)))] [(.int (own_or (0 : Int32) u0 (1 : Int32)))])) _
        refine XS.iconst X0.here hx rfl (hb hby d11_19) ?_
        show Steps p.tables e below (s₁.setTop (mkF m 20 #[.val (.ref r), .val (.int (own_or (0 : Int32) u0 (1 : Int32)))] [(.int (2 : Int32)), (.int (own_or (0 : Int32) u0 (1 : Int32)))])) _
        refine XS.ior X0.here hx rfl (hb hby d11_20) rfl ?_
        show Steps p.tables e below (s₁.setTop (mkF m 21 #[.val (.ref r), .val (.int (own_or (0 : Int32) u0 (1 : Int32)))] [(.int ((own_or (0 : Int32) u0 (1 : Int32)) ||| (2 : Int32)))])) _
        refine XS.istoreN X0.here hx rfl (hb hby d11_21) rfl (l' := #[.val (.ref r), .val (.int ((own_or (0 : Int32) u0 (1 : Int32)) ||| (2 : Int32)))]) rfl ?_
        exact zk
      refine fun zt zk => R17 zt ?_
      have q18 : (if u1 = (0 : Int32) then (own_or (0 : Int32) u0 (1 : Int32)) else ((own_or (0 : Int32) u0 (1 : Int32)) ||| (2 : Int32)) : Int32) = ((own_or (0 : Int32) u0 (1 : Int32)) ||| (2 : Int32)) := (if_neg hc14)
      rw [q18] at zk
      try rw [q18]
      exact zk
  have R19 : ∀ zt, Steps p.tables e below (s₁.setTop (mkF m 24 #[.val (.ref r), .val (.int (own_or (own_or (0 : Int32) u0 (1 : Int32)) u1 (2 : Int32)))] [(.int (2 : Int32)), (.ref r)])) zt → Steps p.tables e below (s₁.setTop (entryFrame m #[(.ref r)] 2)) zt := by
    intro zt zk
    refine R13 zt ?_
    show Steps p.tables e below (s₁.setTop (mkF m 22 #[.val (.ref r), .val (.int (own_or (own_or (0 : Int32) u0 (1 : Int32)) u1 (2 : Int32)))] [])) _
    refine XS.aloadN X0.here hx rfl (hb hby d11_22) rfl rfl ?_
    show Steps p.tables e below (s₁.setTop (mkF m 23 #[.val (.ref r), .val (.int (own_or (own_or (0 : Int32) u0 (1 : Int32)) u1 (2 : Int32)))] [(.ref r)])) _
    refine XS.iconst X0.here hx rfl (hb hby d11_23) ?_
    exact zk
  obtain ⟨cl20, Ar20, Aq20, As20, An20, Ah20, Ag20⟩ := id V_r
  have hin20 : ¬ ((2 : Int32) < 0 ∨ cl20.slots.size ≤ ((2 : Int32)).toNatClampNeg) := inb_of As20 ⟨by decide, by decide⟩
  have hat20 : cl20.slots[((2 : Int32)).toNatClampNeg]? = some (.int u2) := Has.at Ah20 hin20 rfl
  have R21 : ∀ zt, Steps p.tables e below (s₁.setTop (mkF m 25 #[.val (.ref r), .val (.int (own_or (own_or (0 : Int32) u0 (1 : Int32)) u1 (2 : Int32)))] [(.int u2)])) zt → Steps p.tables e below (s₁.setTop (entryFrame m #[(.ref r)] 2)) zt := by
    intro zt zk
    refine R19 zt ?_
    show Steps p.tables e below (s₁.setTop (mkF m 24 #[.val (.ref r), .val (.int (own_or (own_or (0 : Int32) u0 (1 : Int32)) u1 (2 : Int32)))] [(.int (2 : Int32)), (.ref r)])) _
    refine X0.baloadBooleans hx (j := (2 : Int32)) (v := (.int u2)) (by rw [e0]; exact Ar20.1) (State.isArrayOf_alike hZ.alike Ar20.2.1) Ar20.2.2 hin20 hat20 (g := (mkF m 24 #[.val (.ref r), .val (.int (own_or (own_or (0 : Int32) u0 (1 : Int32)) u1 (2 : Int32)))] [(.int (2 : Int32)), (.ref r)])) rfl rfl (hb hby d11_24) _ ?_
    exact zk
  have R22 : ∀ zt, Steps p.tables e below (s₁.setTop (mkF m 32 #[.val (.ref r), .val (.int (if u2 = (0 : Int32) then (own_or (own_or (0 : Int32) u0 (1 : Int32)) u1 (2 : Int32)) else ((own_or (own_or (0 : Int32) u0 (1 : Int32)) u1 (2 : Int32)) ||| (4 : Int32)) : Int32))] [])) zt → Steps p.tables e below (s₁.setTop (entryFrame m #[(.ref r)] 2)) zt := by
    by_cases hc23 : u2 = (0 : Int32)
    ·
      skip
      have R24 : ∀ zt, Steps p.tables e below (s₁.setTop (mkF m 32 #[.val (.ref r), .val (.int (own_or (own_or (0 : Int32) u0 (1 : Int32)) u1 (2 : Int32)))] [])) zt → Steps p.tables e below (s₁.setTop (entryFrame m #[(.ref r)] 2)) zt := by
        intro zt zk
        refine R21 zt ?_
        show Steps p.tables e below (s₁.setTop (mkF m 25 #[.val (.ref r), .val (.int (own_or (own_or (0 : Int32) u0 (1 : Int32)) u1 (2 : Int32)))] [(.int u2)])) _
        refine XS.ifYes X0.here hx rfl (pc0 := 25) (pc' := 32) rfl (hb hby d11_25) rfl ((if0 _ _).trans (teq hc23).1) (by decide) (by decide) ?_
        exact zk
      refine fun zt zk => R24 zt ?_
      have q25 : (if u2 = (0 : Int32) then (own_or (own_or (0 : Int32) u0 (1 : Int32)) u1 (2 : Int32)) else ((own_or (own_or (0 : Int32) u0 (1 : Int32)) u1 (2 : Int32)) ||| (4 : Int32)) : Int32) = (own_or (own_or (0 : Int32) u0 (1 : Int32)) u1 (2 : Int32)) := (if_pos hc23)
      rw [q25] at zk
      try rw [q25]
      exact zk
    ·
      skip
      have R26 : ∀ zt, Steps p.tables e below (s₁.setTop (mkF m 32 #[.val (.ref r), .val (.int ((own_or (own_or (0 : Int32) u0 (1 : Int32)) u1 (2 : Int32)) ||| (4 : Int32)))] [])) zt → Steps p.tables e below (s₁.setTop (entryFrame m #[(.ref r)] 2)) zt := by
        intro zt zk
        refine R21 zt ?_
        show Steps p.tables e below (s₁.setTop (mkF m 25 #[.val (.ref r), .val (.int (own_or (own_or (0 : Int32) u0 (1 : Int32)) u1 (2 : Int32)))] [(.int u2)])) _
        refine XS.ifNo X0.here hx rfl (hb hby d11_25) rfl ((if0 _ _).trans (feq hc23).1) ?_
        show Steps p.tables e below (s₁.setTop (mkF m 28 #[.val (.ref r), .val (.int (own_or (own_or (0 : Int32) u0 (1 : Int32)) u1 (2 : Int32)))] [])) _
        refine XS.iloadN X0.here hx rfl (hb hby d11_28) rfl ?_
        show Steps p.tables e below (s₁.setTop (mkF m 29 #[.val (.ref r), .val (.int (own_or (own_or (0 : Int32) u0 (1 : Int32)) u1 (2 : Int32)))] [(.int (own_or (own_or (0 : Int32) u0 (1 : Int32)) u1 (2 : Int32)))])) _
        refine XS.iconst X0.here hx rfl (hb hby d11_29) ?_
        show Steps p.tables e below (s₁.setTop (mkF m 30 #[.val (.ref r), .val (.int (own_or (own_or (0 : Int32) u0 (1 : Int32)) u1 (2 : Int32)))] [(.int (4 : Int32)), (.int (own_or (own_or (0 : Int32) u0 (1 : Int32)) u1 (2 : Int32)))])) _
        refine XS.ior X0.here hx rfl (hb hby d11_30) rfl ?_
        show Steps p.tables e below (s₁.setTop (mkF m 31 #[.val (.ref r), .val (.int (own_or (own_or (0 : Int32) u0 (1 : Int32)) u1 (2 : Int32)))] [(.int ((own_or (own_or (0 : Int32) u0 (1 : Int32)) u1 (2 : Int32)) ||| (4 : Int32)))])) _
        refine XS.istoreN X0.here hx rfl (hb hby d11_31) rfl (l' := #[.val (.ref r), .val (.int ((own_or (own_or (0 : Int32) u0 (1 : Int32)) u1 (2 : Int32)) ||| (4 : Int32)))]) rfl ?_
        exact zk
      refine fun zt zk => R26 zt ?_
      have q27 : (if u2 = (0 : Int32) then (own_or (own_or (0 : Int32) u0 (1 : Int32)) u1 (2 : Int32)) else ((own_or (own_or (0 : Int32) u0 (1 : Int32)) u1 (2 : Int32)) ||| (4 : Int32)) : Int32) = ((own_or (own_or (0 : Int32) u0 (1 : Int32)) u1 (2 : Int32)) ||| (4 : Int32)) := (if_neg hc23)
      rw [q27] at zk
      try rw [q27]
      exact zk
  have R28 : ∀ zt, Steps p.tables e below (s₁.setTop (mkF m 34 #[.val (.ref r), .val (.int (own_or (own_or (own_or (0 : Int32) u0 (1 : Int32)) u1 (2 : Int32)) u2 (4 : Int32)))] [(.int (3 : Int32)), (.ref r)])) zt → Steps p.tables e below (s₁.setTop (entryFrame m #[(.ref r)] 2)) zt := by
    intro zt zk
    refine R22 zt ?_
    show Steps p.tables e below (s₁.setTop (mkF m 32 #[.val (.ref r), .val (.int (own_or (own_or (own_or (0 : Int32) u0 (1 : Int32)) u1 (2 : Int32)) u2 (4 : Int32)))] [])) _
    refine XS.aloadN X0.here hx rfl (hb hby d11_32) rfl rfl ?_
    show Steps p.tables e below (s₁.setTop (mkF m 33 #[.val (.ref r), .val (.int (own_or (own_or (own_or (0 : Int32) u0 (1 : Int32)) u1 (2 : Int32)) u2 (4 : Int32)))] [(.ref r)])) _
    refine XS.iconst X0.here hx rfl (hb hby d11_33) ?_
    exact zk
  obtain ⟨cl29, Ar29, Aq29, As29, An29, Ah29, Ag29⟩ := id V_r
  have hin29 : ¬ ((3 : Int32) < 0 ∨ cl29.slots.size ≤ ((3 : Int32)).toNatClampNeg) := inb_of As29 ⟨by decide, by decide⟩
  have hat29 : cl29.slots[((3 : Int32)).toNatClampNeg]? = some (.int u3) := Has.at Ah29 hin29 rfl
  have R30 : ∀ zt, Steps p.tables e below (s₁.setTop (mkF m 35 #[.val (.ref r), .val (.int (own_or (own_or (own_or (0 : Int32) u0 (1 : Int32)) u1 (2 : Int32)) u2 (4 : Int32)))] [(.int u3)])) zt → Steps p.tables e below (s₁.setTop (entryFrame m #[(.ref r)] 2)) zt := by
    intro zt zk
    refine R28 zt ?_
    show Steps p.tables e below (s₁.setTop (mkF m 34 #[.val (.ref r), .val (.int (own_or (own_or (own_or (0 : Int32) u0 (1 : Int32)) u1 (2 : Int32)) u2 (4 : Int32)))] [(.int (3 : Int32)), (.ref r)])) _
    refine X0.baloadBooleans hx (j := (3 : Int32)) (v := (.int u3)) (by rw [e0]; exact Ar29.1) (State.isArrayOf_alike hZ.alike Ar29.2.1) Ar29.2.2 hin29 hat29 (g := (mkF m 34 #[.val (.ref r), .val (.int (own_or (own_or (own_or (0 : Int32) u0 (1 : Int32)) u1 (2 : Int32)) u2 (4 : Int32)))] [(.int (3 : Int32)), (.ref r)])) rfl rfl (hb hby d11_34) _ ?_
    exact zk
  have R31 : ∀ zt, Steps p.tables e below (s₁.setTop (mkF m 43 #[.val (.ref r), .val (.int (if u3 = (0 : Int32) then (own_or (own_or (own_or (0 : Int32) u0 (1 : Int32)) u1 (2 : Int32)) u2 (4 : Int32)) else ((own_or (own_or (own_or (0 : Int32) u0 (1 : Int32)) u1 (2 : Int32)) u2 (4 : Int32)) ||| (8 : Int32)) : Int32))] [])) zt → Steps p.tables e below (s₁.setTop (entryFrame m #[(.ref r)] 2)) zt := by
    by_cases hc32 : u3 = (0 : Int32)
    ·
      skip
      have R33 : ∀ zt, Steps p.tables e below (s₁.setTop (mkF m 43 #[.val (.ref r), .val (.int (own_or (own_or (own_or (0 : Int32) u0 (1 : Int32)) u1 (2 : Int32)) u2 (4 : Int32)))] [])) zt → Steps p.tables e below (s₁.setTop (entryFrame m #[(.ref r)] 2)) zt := by
        intro zt zk
        refine R30 zt ?_
        show Steps p.tables e below (s₁.setTop (mkF m 35 #[.val (.ref r), .val (.int (own_or (own_or (own_or (0 : Int32) u0 (1 : Int32)) u1 (2 : Int32)) u2 (4 : Int32)))] [(.int u3)])) _
        refine XS.ifYes X0.here hx rfl (pc0 := 35) (pc' := 43) rfl (hb hby d11_35) rfl ((if0 _ _).trans (teq hc32).1) (by decide) (by decide) ?_
        exact zk
      refine fun zt zk => R33 zt ?_
      have q34 : (if u3 = (0 : Int32) then (own_or (own_or (own_or (0 : Int32) u0 (1 : Int32)) u1 (2 : Int32)) u2 (4 : Int32)) else ((own_or (own_or (own_or (0 : Int32) u0 (1 : Int32)) u1 (2 : Int32)) u2 (4 : Int32)) ||| (8 : Int32)) : Int32) = (own_or (own_or (own_or (0 : Int32) u0 (1 : Int32)) u1 (2 : Int32)) u2 (4 : Int32)) := (if_pos hc32)
      rw [q34] at zk
      try rw [q34]
      exact zk
    ·
      skip
      have R35 : ∀ zt, Steps p.tables e below (s₁.setTop (mkF m 43 #[.val (.ref r), .val (.int ((own_or (own_or (own_or (0 : Int32) u0 (1 : Int32)) u1 (2 : Int32)) u2 (4 : Int32)) ||| (8 : Int32)))] [])) zt → Steps p.tables e below (s₁.setTop (entryFrame m #[(.ref r)] 2)) zt := by
        intro zt zk
        refine R30 zt ?_
        show Steps p.tables e below (s₁.setTop (mkF m 35 #[.val (.ref r), .val (.int (own_or (own_or (own_or (0 : Int32) u0 (1 : Int32)) u1 (2 : Int32)) u2 (4 : Int32)))] [(.int u3)])) _
        refine XS.ifNo X0.here hx rfl (hb hby d11_35) rfl ((if0 _ _).trans (feq hc32).1) ?_
        show Steps p.tables e below (s₁.setTop (mkF m 38 #[.val (.ref r), .val (.int (own_or (own_or (own_or (0 : Int32) u0 (1 : Int32)) u1 (2 : Int32)) u2 (4 : Int32)))] [])) _
        refine XS.iloadN X0.here hx rfl (hb hby d11_38) rfl ?_
        show Steps p.tables e below (s₁.setTop (mkF m 39 #[.val (.ref r), .val (.int (own_or (own_or (own_or (0 : Int32) u0 (1 : Int32)) u1 (2 : Int32)) u2 (4 : Int32)))] [(.int (own_or (own_or (own_or (0 : Int32) u0 (1 : Int32)) u1 (2 : Int32)) u2 (4 : Int32)))])) _
        refine XS.bipush X0.here hx rfl (hb hby d11_39) ?_
        show Steps p.tables e below (s₁.setTop (mkF m 41 #[.val (.ref r), .val (.int (own_or (own_or (own_or (0 : Int32) u0 (1 : Int32)) u1 (2 : Int32)) u2 (4 : Int32)))] [(.int (8 : Int32)), (.int (own_or (own_or (own_or (0 : Int32) u0 (1 : Int32)) u1 (2 : Int32)) u2 (4 : Int32)))])) _
        refine XS.ior X0.here hx rfl (hb hby d11_41) rfl ?_
        show Steps p.tables e below (s₁.setTop (mkF m 42 #[.val (.ref r), .val (.int (own_or (own_or (own_or (0 : Int32) u0 (1 : Int32)) u1 (2 : Int32)) u2 (4 : Int32)))] [(.int ((own_or (own_or (own_or (0 : Int32) u0 (1 : Int32)) u1 (2 : Int32)) u2 (4 : Int32)) ||| (8 : Int32)))])) _
        refine XS.istoreN X0.here hx rfl (hb hby d11_42) rfl (l' := #[.val (.ref r), .val (.int ((own_or (own_or (own_or (0 : Int32) u0 (1 : Int32)) u1 (2 : Int32)) u2 (4 : Int32)) ||| (8 : Int32)))]) rfl ?_
        exact zk
      refine fun zt zk => R35 zt ?_
      have q36 : (if u3 = (0 : Int32) then (own_or (own_or (own_or (0 : Int32) u0 (1 : Int32)) u1 (2 : Int32)) u2 (4 : Int32)) else ((own_or (own_or (own_or (0 : Int32) u0 (1 : Int32)) u1 (2 : Int32)) u2 (4 : Int32)) ||| (8 : Int32)) : Int32) = ((own_or (own_or (own_or (0 : Int32) u0 (1 : Int32)) u1 (2 : Int32)) u2 (4 : Int32)) ||| (8 : Int32)) := (if_neg hc32)
      rw [q36] at zk
      try rw [q36]
      exact zk
  have R37 : ∀ zt, Steps p.tables e below (s₁.setTop (mkF m 45 #[.val (.ref r), .val (.int (own_or (own_or (own_or (own_or (0 : Int32) u0 (1 : Int32)) u1 (2 : Int32)) u2 (4 : Int32)) u3 (8 : Int32)))] [(.int (4 : Int32)), (.ref r)])) zt → Steps p.tables e below (s₁.setTop (entryFrame m #[(.ref r)] 2)) zt := by
    intro zt zk
    refine R31 zt ?_
    show Steps p.tables e below (s₁.setTop (mkF m 43 #[.val (.ref r), .val (.int (own_or (own_or (own_or (own_or (0 : Int32) u0 (1 : Int32)) u1 (2 : Int32)) u2 (4 : Int32)) u3 (8 : Int32)))] [])) _
    refine XS.aloadN X0.here hx rfl (hb hby d11_43) rfl rfl ?_
    show Steps p.tables e below (s₁.setTop (mkF m 44 #[.val (.ref r), .val (.int (own_or (own_or (own_or (own_or (0 : Int32) u0 (1 : Int32)) u1 (2 : Int32)) u2 (4 : Int32)) u3 (8 : Int32)))] [(.ref r)])) _
    refine XS.iconst X0.here hx rfl (hb hby d11_44) ?_
    exact zk
  obtain ⟨cl38, Ar38, Aq38, As38, An38, Ah38, Ag38⟩ := id V_r
  have hin38 : ¬ ((4 : Int32) < 0 ∨ cl38.slots.size ≤ ((4 : Int32)).toNatClampNeg) := inb_of As38 ⟨by decide, by decide⟩
  have hat38 : cl38.slots[((4 : Int32)).toNatClampNeg]? = some (.int u4) := Has.at Ah38 hin38 rfl
  have R39 : ∀ zt, Steps p.tables e below (s₁.setTop (mkF m 46 #[.val (.ref r), .val (.int (own_or (own_or (own_or (own_or (0 : Int32) u0 (1 : Int32)) u1 (2 : Int32)) u2 (4 : Int32)) u3 (8 : Int32)))] [(.int u4)])) zt → Steps p.tables e below (s₁.setTop (entryFrame m #[(.ref r)] 2)) zt := by
    intro zt zk
    refine R37 zt ?_
    show Steps p.tables e below (s₁.setTop (mkF m 45 #[.val (.ref r), .val (.int (own_or (own_or (own_or (own_or (0 : Int32) u0 (1 : Int32)) u1 (2 : Int32)) u2 (4 : Int32)) u3 (8 : Int32)))] [(.int (4 : Int32)), (.ref r)])) _
    refine X0.baloadBooleans hx (j := (4 : Int32)) (v := (.int u4)) (by rw [e0]; exact Ar38.1) (State.isArrayOf_alike hZ.alike Ar38.2.1) Ar38.2.2 hin38 hat38 (g := (mkF m 45 #[.val (.ref r), .val (.int (own_or (own_or (own_or (own_or (0 : Int32) u0 (1 : Int32)) u1 (2 : Int32)) u2 (4 : Int32)) u3 (8 : Int32)))] [(.int (4 : Int32)), (.ref r)])) rfl rfl (hb hby d11_45) _ ?_
    exact zk
  have R40 : ∀ zt, Steps p.tables e below (s₁.setTop (mkF m 54 #[.val (.ref r), .val (.int (if u4 = (0 : Int32) then (own_or (own_or (own_or (own_or (0 : Int32) u0 (1 : Int32)) u1 (2 : Int32)) u2 (4 : Int32)) u3 (8 : Int32)) else ((own_or (own_or (own_or (own_or (0 : Int32) u0 (1 : Int32)) u1 (2 : Int32)) u2 (4 : Int32)) u3 (8 : Int32)) ||| (16 : Int32)) : Int32))] [])) zt → Steps p.tables e below (s₁.setTop (entryFrame m #[(.ref r)] 2)) zt := by
    by_cases hc41 : u4 = (0 : Int32)
    ·
      skip
      have R42 : ∀ zt, Steps p.tables e below (s₁.setTop (mkF m 54 #[.val (.ref r), .val (.int (own_or (own_or (own_or (own_or (0 : Int32) u0 (1 : Int32)) u1 (2 : Int32)) u2 (4 : Int32)) u3 (8 : Int32)))] [])) zt → Steps p.tables e below (s₁.setTop (entryFrame m #[(.ref r)] 2)) zt := by
        intro zt zk
        refine R39 zt ?_
        show Steps p.tables e below (s₁.setTop (mkF m 46 #[.val (.ref r), .val (.int (own_or (own_or (own_or (own_or (0 : Int32) u0 (1 : Int32)) u1 (2 : Int32)) u2 (4 : Int32)) u3 (8 : Int32)))] [(.int u4)])) _
        refine XS.ifYes X0.here hx rfl (pc0 := 46) (pc' := 54) rfl (hb hby d11_46) rfl ((if0 _ _).trans (teq hc41).1) (by decide) (by decide) ?_
        exact zk
      refine fun zt zk => R42 zt ?_
      have q43 : (if u4 = (0 : Int32) then (own_or (own_or (own_or (own_or (0 : Int32) u0 (1 : Int32)) u1 (2 : Int32)) u2 (4 : Int32)) u3 (8 : Int32)) else ((own_or (own_or (own_or (own_or (0 : Int32) u0 (1 : Int32)) u1 (2 : Int32)) u2 (4 : Int32)) u3 (8 : Int32)) ||| (16 : Int32)) : Int32) = (own_or (own_or (own_or (own_or (0 : Int32) u0 (1 : Int32)) u1 (2 : Int32)) u2 (4 : Int32)) u3 (8 : Int32)) := (if_pos hc41)
      rw [q43] at zk
      try rw [q43]
      exact zk
    ·
      skip
      have R44 : ∀ zt, Steps p.tables e below (s₁.setTop (mkF m 54 #[.val (.ref r), .val (.int ((own_or (own_or (own_or (own_or (0 : Int32) u0 (1 : Int32)) u1 (2 : Int32)) u2 (4 : Int32)) u3 (8 : Int32)) ||| (16 : Int32)))] [])) zt → Steps p.tables e below (s₁.setTop (entryFrame m #[(.ref r)] 2)) zt := by
        intro zt zk
        refine R39 zt ?_
        show Steps p.tables e below (s₁.setTop (mkF m 46 #[.val (.ref r), .val (.int (own_or (own_or (own_or (own_or (0 : Int32) u0 (1 : Int32)) u1 (2 : Int32)) u2 (4 : Int32)) u3 (8 : Int32)))] [(.int u4)])) _
        refine XS.ifNo X0.here hx rfl (hb hby d11_46) rfl ((if0 _ _).trans (feq hc41).1) ?_
        show Steps p.tables e below (s₁.setTop (mkF m 49 #[.val (.ref r), .val (.int (own_or (own_or (own_or (own_or (0 : Int32) u0 (1 : Int32)) u1 (2 : Int32)) u2 (4 : Int32)) u3 (8 : Int32)))] [])) _
        refine XS.iloadN X0.here hx rfl (hb hby d11_49) rfl ?_
        show Steps p.tables e below (s₁.setTop (mkF m 50 #[.val (.ref r), .val (.int (own_or (own_or (own_or (own_or (0 : Int32) u0 (1 : Int32)) u1 (2 : Int32)) u2 (4 : Int32)) u3 (8 : Int32)))] [(.int (own_or (own_or (own_or (own_or (0 : Int32) u0 (1 : Int32)) u1 (2 : Int32)) u2 (4 : Int32)) u3 (8 : Int32)))])) _
        refine XS.bipush X0.here hx rfl (hb hby d11_50) ?_
        show Steps p.tables e below (s₁.setTop (mkF m 52 #[.val (.ref r), .val (.int (own_or (own_or (own_or (own_or (0 : Int32) u0 (1 : Int32)) u1 (2 : Int32)) u2 (4 : Int32)) u3 (8 : Int32)))] [(.int (16 : Int32)), (.int (own_or (own_or (own_or (own_or (0 : Int32) u0 (1 : Int32)) u1 (2 : Int32)) u2 (4 : Int32)) u3 (8 : Int32)))])) _
        refine XS.ior X0.here hx rfl (hb hby d11_52) rfl ?_
        show Steps p.tables e below (s₁.setTop (mkF m 53 #[.val (.ref r), .val (.int (own_or (own_or (own_or (own_or (0 : Int32) u0 (1 : Int32)) u1 (2 : Int32)) u2 (4 : Int32)) u3 (8 : Int32)))] [(.int ((own_or (own_or (own_or (own_or (0 : Int32) u0 (1 : Int32)) u1 (2 : Int32)) u2 (4 : Int32)) u3 (8 : Int32)) ||| (16 : Int32)))])) _
        refine XS.istoreN X0.here hx rfl (hb hby d11_53) rfl (l' := #[.val (.ref r), .val (.int ((own_or (own_or (own_or (own_or (0 : Int32) u0 (1 : Int32)) u1 (2 : Int32)) u2 (4 : Int32)) u3 (8 : Int32)) ||| (16 : Int32)))]) rfl ?_
        exact zk
      refine fun zt zk => R44 zt ?_
      have q45 : (if u4 = (0 : Int32) then (own_or (own_or (own_or (own_or (0 : Int32) u0 (1 : Int32)) u1 (2 : Int32)) u2 (4 : Int32)) u3 (8 : Int32)) else ((own_or (own_or (own_or (own_or (0 : Int32) u0 (1 : Int32)) u1 (2 : Int32)) u2 (4 : Int32)) u3 (8 : Int32)) ||| (16 : Int32)) : Int32) = ((own_or (own_or (own_or (own_or (0 : Int32) u0 (1 : Int32)) u1 (2 : Int32)) u2 (4 : Int32)) u3 (8 : Int32)) ||| (16 : Int32)) := (if_neg hc41)
      rw [q45] at zk
      try rw [q45]
      exact zk
  have R46 : ∀ zt, Steps p.tables e below (s₁.setTop (mkF m 56 #[.val (.ref r), .val (.int (own_or (own_or (own_or (own_or (own_or (0 : Int32) u0 (1 : Int32)) u1 (2 : Int32)) u2 (4 : Int32)) u3 (8 : Int32)) u4 (16 : Int32)))] [(.int (5 : Int32)), (.ref r)])) zt → Steps p.tables e below (s₁.setTop (entryFrame m #[(.ref r)] 2)) zt := by
    intro zt zk
    refine R40 zt ?_
    show Steps p.tables e below (s₁.setTop (mkF m 54 #[.val (.ref r), .val (.int (own_or (own_or (own_or (own_or (own_or (0 : Int32) u0 (1 : Int32)) u1 (2 : Int32)) u2 (4 : Int32)) u3 (8 : Int32)) u4 (16 : Int32)))] [])) _
    refine XS.aloadN X0.here hx rfl (hb hby d11_54) rfl rfl ?_
    show Steps p.tables e below (s₁.setTop (mkF m 55 #[.val (.ref r), .val (.int (own_or (own_or (own_or (own_or (own_or (0 : Int32) u0 (1 : Int32)) u1 (2 : Int32)) u2 (4 : Int32)) u3 (8 : Int32)) u4 (16 : Int32)))] [(.ref r)])) _
    refine XS.iconst X0.here hx rfl (hb hby d11_55) ?_
    exact zk
  obtain ⟨cl47, Ar47, Aq47, As47, An47, Ah47, Ag47⟩ := id V_r
  have hin47 : ¬ ((5 : Int32) < 0 ∨ cl47.slots.size ≤ ((5 : Int32)).toNatClampNeg) := inb_of As47 ⟨by decide, by decide⟩
  have hat47 : cl47.slots[((5 : Int32)).toNatClampNeg]? = some (.int u5) := Has.at Ah47 hin47 rfl
  have R48 : ∀ zt, Steps p.tables e below (s₁.setTop (mkF m 57 #[.val (.ref r), .val (.int (own_or (own_or (own_or (own_or (own_or (0 : Int32) u0 (1 : Int32)) u1 (2 : Int32)) u2 (4 : Int32)) u3 (8 : Int32)) u4 (16 : Int32)))] [(.int u5)])) zt → Steps p.tables e below (s₁.setTop (entryFrame m #[(.ref r)] 2)) zt := by
    intro zt zk
    refine R46 zt ?_
    show Steps p.tables e below (s₁.setTop (mkF m 56 #[.val (.ref r), .val (.int (own_or (own_or (own_or (own_or (own_or (0 : Int32) u0 (1 : Int32)) u1 (2 : Int32)) u2 (4 : Int32)) u3 (8 : Int32)) u4 (16 : Int32)))] [(.int (5 : Int32)), (.ref r)])) _
    refine X0.baloadBooleans hx (j := (5 : Int32)) (v := (.int u5)) (by rw [e0]; exact Ar47.1) (State.isArrayOf_alike hZ.alike Ar47.2.1) Ar47.2.2 hin47 hat47 (g := (mkF m 56 #[.val (.ref r), .val (.int (own_or (own_or (own_or (own_or (own_or (0 : Int32) u0 (1 : Int32)) u1 (2 : Int32)) u2 (4 : Int32)) u3 (8 : Int32)) u4 (16 : Int32)))] [(.int (5 : Int32)), (.ref r)])) rfl rfl (hb hby d11_56) _ ?_
    exact zk
  have R49 : ∀ zt, Steps p.tables e below (s₁.setTop (mkF m 65 #[.val (.ref r), .val (.int (if u5 = (0 : Int32) then (own_or (own_or (own_or (own_or (own_or (0 : Int32) u0 (1 : Int32)) u1 (2 : Int32)) u2 (4 : Int32)) u3 (8 : Int32)) u4 (16 : Int32)) else ((own_or (own_or (own_or (own_or (own_or (0 : Int32) u0 (1 : Int32)) u1 (2 : Int32)) u2 (4 : Int32)) u3 (8 : Int32)) u4 (16 : Int32)) ||| (32 : Int32)) : Int32))] [])) zt → Steps p.tables e below (s₁.setTop (entryFrame m #[(.ref r)] 2)) zt := by
    by_cases hc50 : u5 = (0 : Int32)
    ·
      skip
      have R51 : ∀ zt, Steps p.tables e below (s₁.setTop (mkF m 65 #[.val (.ref r), .val (.int (own_or (own_or (own_or (own_or (own_or (0 : Int32) u0 (1 : Int32)) u1 (2 : Int32)) u2 (4 : Int32)) u3 (8 : Int32)) u4 (16 : Int32)))] [])) zt → Steps p.tables e below (s₁.setTop (entryFrame m #[(.ref r)] 2)) zt := by
        intro zt zk
        refine R48 zt ?_
        show Steps p.tables e below (s₁.setTop (mkF m 57 #[.val (.ref r), .val (.int (own_or (own_or (own_or (own_or (own_or (0 : Int32) u0 (1 : Int32)) u1 (2 : Int32)) u2 (4 : Int32)) u3 (8 : Int32)) u4 (16 : Int32)))] [(.int u5)])) _
        refine XS.ifYes X0.here hx rfl (pc0 := 57) (pc' := 65) rfl (hb hby d11_57) rfl ((if0 _ _).trans (teq hc50).1) (by decide) (by decide) ?_
        exact zk
      refine fun zt zk => R51 zt ?_
      have q52 : (if u5 = (0 : Int32) then (own_or (own_or (own_or (own_or (own_or (0 : Int32) u0 (1 : Int32)) u1 (2 : Int32)) u2 (4 : Int32)) u3 (8 : Int32)) u4 (16 : Int32)) else ((own_or (own_or (own_or (own_or (own_or (0 : Int32) u0 (1 : Int32)) u1 (2 : Int32)) u2 (4 : Int32)) u3 (8 : Int32)) u4 (16 : Int32)) ||| (32 : Int32)) : Int32) = (own_or (own_or (own_or (own_or (own_or (0 : Int32) u0 (1 : Int32)) u1 (2 : Int32)) u2 (4 : Int32)) u3 (8 : Int32)) u4 (16 : Int32)) := (if_pos hc50)
      rw [q52] at zk
      try rw [q52]
      exact zk
    ·
      skip
      have R53 : ∀ zt, Steps p.tables e below (s₁.setTop (mkF m 65 #[.val (.ref r), .val (.int ((own_or (own_or (own_or (own_or (own_or (0 : Int32) u0 (1 : Int32)) u1 (2 : Int32)) u2 (4 : Int32)) u3 (8 : Int32)) u4 (16 : Int32)) ||| (32 : Int32)))] [])) zt → Steps p.tables e below (s₁.setTop (entryFrame m #[(.ref r)] 2)) zt := by
        intro zt zk
        refine R48 zt ?_
        show Steps p.tables e below (s₁.setTop (mkF m 57 #[.val (.ref r), .val (.int (own_or (own_or (own_or (own_or (own_or (0 : Int32) u0 (1 : Int32)) u1 (2 : Int32)) u2 (4 : Int32)) u3 (8 : Int32)) u4 (16 : Int32)))] [(.int u5)])) _
        refine XS.ifNo X0.here hx rfl (hb hby d11_57) rfl ((if0 _ _).trans (feq hc50).1) ?_
        show Steps p.tables e below (s₁.setTop (mkF m 60 #[.val (.ref r), .val (.int (own_or (own_or (own_or (own_or (own_or (0 : Int32) u0 (1 : Int32)) u1 (2 : Int32)) u2 (4 : Int32)) u3 (8 : Int32)) u4 (16 : Int32)))] [])) _
        refine XS.iloadN X0.here hx rfl (hb hby d11_60) rfl ?_
        show Steps p.tables e below (s₁.setTop (mkF m 61 #[.val (.ref r), .val (.int (own_or (own_or (own_or (own_or (own_or (0 : Int32) u0 (1 : Int32)) u1 (2 : Int32)) u2 (4 : Int32)) u3 (8 : Int32)) u4 (16 : Int32)))] [(.int (own_or (own_or (own_or (own_or (own_or (0 : Int32) u0 (1 : Int32)) u1 (2 : Int32)) u2 (4 : Int32)) u3 (8 : Int32)) u4 (16 : Int32)))])) _
        refine XS.bipush X0.here hx rfl (hb hby d11_61) ?_
        show Steps p.tables e below (s₁.setTop (mkF m 63 #[.val (.ref r), .val (.int (own_or (own_or (own_or (own_or (own_or (0 : Int32) u0 (1 : Int32)) u1 (2 : Int32)) u2 (4 : Int32)) u3 (8 : Int32)) u4 (16 : Int32)))] [(.int (32 : Int32)), (.int (own_or (own_or (own_or (own_or (own_or (0 : Int32) u0 (1 : Int32)) u1 (2 : Int32)) u2 (4 : Int32)) u3 (8 : Int32)) u4 (16 : Int32)))])) _
        refine XS.ior X0.here hx rfl (hb hby d11_63) rfl ?_
        show Steps p.tables e below (s₁.setTop (mkF m 64 #[.val (.ref r), .val (.int (own_or (own_or (own_or (own_or (own_or (0 : Int32) u0 (1 : Int32)) u1 (2 : Int32)) u2 (4 : Int32)) u3 (8 : Int32)) u4 (16 : Int32)))] [(.int ((own_or (own_or (own_or (own_or (own_or (0 : Int32) u0 (1 : Int32)) u1 (2 : Int32)) u2 (4 : Int32)) u3 (8 : Int32)) u4 (16 : Int32)) ||| (32 : Int32)))])) _
        refine XS.istoreN X0.here hx rfl (hb hby d11_64) rfl (l' := #[.val (.ref r), .val (.int ((own_or (own_or (own_or (own_or (own_or (0 : Int32) u0 (1 : Int32)) u1 (2 : Int32)) u2 (4 : Int32)) u3 (8 : Int32)) u4 (16 : Int32)) ||| (32 : Int32)))]) rfl ?_
        exact zk
      refine fun zt zk => R53 zt ?_
      have q54 : (if u5 = (0 : Int32) then (own_or (own_or (own_or (own_or (own_or (0 : Int32) u0 (1 : Int32)) u1 (2 : Int32)) u2 (4 : Int32)) u3 (8 : Int32)) u4 (16 : Int32)) else ((own_or (own_or (own_or (own_or (own_or (0 : Int32) u0 (1 : Int32)) u1 (2 : Int32)) u2 (4 : Int32)) u3 (8 : Int32)) u4 (16 : Int32)) ||| (32 : Int32)) : Int32) = ((own_or (own_or (own_or (own_or (own_or (0 : Int32) u0 (1 : Int32)) u1 (2 : Int32)) u2 (4 : Int32)) u3 (8 : Int32)) u4 (16 : Int32)) ||| (32 : Int32)) := (if_neg hc50)
      rw [q54] at zk
      try rw [q54]
      exact zk
  have R55 : ∀ zt, Steps p.tables e below (s₁.setTop (mkF m 68 #[.val (.ref r), .val (.int (own_or (own_or (own_or (own_or (own_or (own_or (0 : Int32) u0 (1 : Int32)) u1 (2 : Int32)) u2 (4 : Int32)) u3 (8 : Int32)) u4 (16 : Int32)) u5 (32 : Int32)))] [(.int (6 : Int32)), (.ref r)])) zt → Steps p.tables e below (s₁.setTop (entryFrame m #[(.ref r)] 2)) zt := by
    intro zt zk
    refine R49 zt ?_
    show Steps p.tables e below (s₁.setTop (mkF m 65 #[.val (.ref r), .val (.int (own_or (own_or (own_or (own_or (own_or (own_or (0 : Int32) u0 (1 : Int32)) u1 (2 : Int32)) u2 (4 : Int32)) u3 (8 : Int32)) u4 (16 : Int32)) u5 (32 : Int32)))] [])) _
    refine XS.aloadN X0.here hx rfl (hb hby d11_65) rfl rfl ?_
    show Steps p.tables e below (s₁.setTop (mkF m 66 #[.val (.ref r), .val (.int (own_or (own_or (own_or (own_or (own_or (own_or (0 : Int32) u0 (1 : Int32)) u1 (2 : Int32)) u2 (4 : Int32)) u3 (8 : Int32)) u4 (16 : Int32)) u5 (32 : Int32)))] [(.ref r)])) _
    refine XS.bipush X0.here hx rfl (hb hby d11_66) ?_
    exact zk
  obtain ⟨cl56, Ar56, Aq56, As56, An56, Ah56, Ag56⟩ := id V_r
  have hin56 : ¬ ((6 : Int32) < 0 ∨ cl56.slots.size ≤ ((6 : Int32)).toNatClampNeg) := inb_of As56 ⟨by decide, by decide⟩
  have hat56 : cl56.slots[((6 : Int32)).toNatClampNeg]? = some (.int u6) := Has.at Ah56 hin56 rfl
  have R57 : ∀ zt, Steps p.tables e below (s₁.setTop (mkF m 69 #[.val (.ref r), .val (.int (own_or (own_or (own_or (own_or (own_or (own_or (0 : Int32) u0 (1 : Int32)) u1 (2 : Int32)) u2 (4 : Int32)) u3 (8 : Int32)) u4 (16 : Int32)) u5 (32 : Int32)))] [(.int u6)])) zt → Steps p.tables e below (s₁.setTop (entryFrame m #[(.ref r)] 2)) zt := by
    intro zt zk
    refine R55 zt ?_
    show Steps p.tables e below (s₁.setTop (mkF m 68 #[.val (.ref r), .val (.int (own_or (own_or (own_or (own_or (own_or (own_or (0 : Int32) u0 (1 : Int32)) u1 (2 : Int32)) u2 (4 : Int32)) u3 (8 : Int32)) u4 (16 : Int32)) u5 (32 : Int32)))] [(.int (6 : Int32)), (.ref r)])) _
    refine X0.baloadBooleans hx (j := (6 : Int32)) (v := (.int u6)) (by rw [e0]; exact Ar56.1) (State.isArrayOf_alike hZ.alike Ar56.2.1) Ar56.2.2 hin56 hat56 (g := (mkF m 68 #[.val (.ref r), .val (.int (own_or (own_or (own_or (own_or (own_or (own_or (0 : Int32) u0 (1 : Int32)) u1 (2 : Int32)) u2 (4 : Int32)) u3 (8 : Int32)) u4 (16 : Int32)) u5 (32 : Int32)))] [(.int (6 : Int32)), (.ref r)])) rfl rfl (hb hby d11_68) _ ?_
    exact zk
  have R58 : ∀ zt, Steps p.tables e below (s₁.setTop (mkF m 77 #[.val (.ref r), .val (.int (if u6 = (0 : Int32) then (own_or (own_or (own_or (own_or (own_or (own_or (0 : Int32) u0 (1 : Int32)) u1 (2 : Int32)) u2 (4 : Int32)) u3 (8 : Int32)) u4 (16 : Int32)) u5 (32 : Int32)) else ((own_or (own_or (own_or (own_or (own_or (own_or (0 : Int32) u0 (1 : Int32)) u1 (2 : Int32)) u2 (4 : Int32)) u3 (8 : Int32)) u4 (16 : Int32)) u5 (32 : Int32)) ||| (64 : Int32)) : Int32))] [])) zt → Steps p.tables e below (s₁.setTop (entryFrame m #[(.ref r)] 2)) zt := by
    by_cases hc59 : u6 = (0 : Int32)
    ·
      skip
      have R60 : ∀ zt, Steps p.tables e below (s₁.setTop (mkF m 77 #[.val (.ref r), .val (.int (own_or (own_or (own_or (own_or (own_or (own_or (0 : Int32) u0 (1 : Int32)) u1 (2 : Int32)) u2 (4 : Int32)) u3 (8 : Int32)) u4 (16 : Int32)) u5 (32 : Int32)))] [])) zt → Steps p.tables e below (s₁.setTop (entryFrame m #[(.ref r)] 2)) zt := by
        intro zt zk
        refine R57 zt ?_
        show Steps p.tables e below (s₁.setTop (mkF m 69 #[.val (.ref r), .val (.int (own_or (own_or (own_or (own_or (own_or (own_or (0 : Int32) u0 (1 : Int32)) u1 (2 : Int32)) u2 (4 : Int32)) u3 (8 : Int32)) u4 (16 : Int32)) u5 (32 : Int32)))] [(.int u6)])) _
        refine XS.ifYes X0.here hx rfl (pc0 := 69) (pc' := 77) rfl (hb hby d11_69) rfl ((if0 _ _).trans (teq hc59).1) (by decide) (by decide) ?_
        exact zk
      refine fun zt zk => R60 zt ?_
      have q61 : (if u6 = (0 : Int32) then (own_or (own_or (own_or (own_or (own_or (own_or (0 : Int32) u0 (1 : Int32)) u1 (2 : Int32)) u2 (4 : Int32)) u3 (8 : Int32)) u4 (16 : Int32)) u5 (32 : Int32)) else ((own_or (own_or (own_or (own_or (own_or (own_or (0 : Int32) u0 (1 : Int32)) u1 (2 : Int32)) u2 (4 : Int32)) u3 (8 : Int32)) u4 (16 : Int32)) u5 (32 : Int32)) ||| (64 : Int32)) : Int32) = (own_or (own_or (own_or (own_or (own_or (own_or (0 : Int32) u0 (1 : Int32)) u1 (2 : Int32)) u2 (4 : Int32)) u3 (8 : Int32)) u4 (16 : Int32)) u5 (32 : Int32)) := (if_pos hc59)
      rw [q61] at zk
      try rw [q61]
      exact zk
    ·
      skip
      have R62 : ∀ zt, Steps p.tables e below (s₁.setTop (mkF m 77 #[.val (.ref r), .val (.int ((own_or (own_or (own_or (own_or (own_or (own_or (0 : Int32) u0 (1 : Int32)) u1 (2 : Int32)) u2 (4 : Int32)) u3 (8 : Int32)) u4 (16 : Int32)) u5 (32 : Int32)) ||| (64 : Int32)))] [])) zt → Steps p.tables e below (s₁.setTop (entryFrame m #[(.ref r)] 2)) zt := by
        intro zt zk
        refine R57 zt ?_
        show Steps p.tables e below (s₁.setTop (mkF m 69 #[.val (.ref r), .val (.int (own_or (own_or (own_or (own_or (own_or (own_or (0 : Int32) u0 (1 : Int32)) u1 (2 : Int32)) u2 (4 : Int32)) u3 (8 : Int32)) u4 (16 : Int32)) u5 (32 : Int32)))] [(.int u6)])) _
        refine XS.ifNo X0.here hx rfl (hb hby d11_69) rfl ((if0 _ _).trans (feq hc59).1) ?_
        show Steps p.tables e below (s₁.setTop (mkF m 72 #[.val (.ref r), .val (.int (own_or (own_or (own_or (own_or (own_or (own_or (0 : Int32) u0 (1 : Int32)) u1 (2 : Int32)) u2 (4 : Int32)) u3 (8 : Int32)) u4 (16 : Int32)) u5 (32 : Int32)))] [])) _
        refine XS.iloadN X0.here hx rfl (hb hby d11_72) rfl ?_
        show Steps p.tables e below (s₁.setTop (mkF m 73 #[.val (.ref r), .val (.int (own_or (own_or (own_or (own_or (own_or (own_or (0 : Int32) u0 (1 : Int32)) u1 (2 : Int32)) u2 (4 : Int32)) u3 (8 : Int32)) u4 (16 : Int32)) u5 (32 : Int32)))] [(.int (own_or (own_or (own_or (own_or (own_or (own_or (0 : Int32) u0 (1 : Int32)) u1 (2 : Int32)) u2 (4 : Int32)) u3 (8 : Int32)) u4 (16 : Int32)) u5 (32 : Int32)))])) _
        refine XS.bipush X0.here hx rfl (hb hby d11_73) ?_
        show Steps p.tables e below (s₁.setTop (mkF m 75 #[.val (.ref r), .val (.int (own_or (own_or (own_or (own_or (own_or (own_or (0 : Int32) u0 (1 : Int32)) u1 (2 : Int32)) u2 (4 : Int32)) u3 (8 : Int32)) u4 (16 : Int32)) u5 (32 : Int32)))] [(.int (64 : Int32)), (.int (own_or (own_or (own_or (own_or (own_or (own_or (0 : Int32) u0 (1 : Int32)) u1 (2 : Int32)) u2 (4 : Int32)) u3 (8 : Int32)) u4 (16 : Int32)) u5 (32 : Int32)))])) _
        refine XS.ior X0.here hx rfl (hb hby d11_75) rfl ?_
        show Steps p.tables e below (s₁.setTop (mkF m 76 #[.val (.ref r), .val (.int (own_or (own_or (own_or (own_or (own_or (own_or (0 : Int32) u0 (1 : Int32)) u1 (2 : Int32)) u2 (4 : Int32)) u3 (8 : Int32)) u4 (16 : Int32)) u5 (32 : Int32)))] [(.int ((own_or (own_or (own_or (own_or (own_or (own_or (0 : Int32) u0 (1 : Int32)) u1 (2 : Int32)) u2 (4 : Int32)) u3 (8 : Int32)) u4 (16 : Int32)) u5 (32 : Int32)) ||| (64 : Int32)))])) _
        refine XS.istoreN X0.here hx rfl (hb hby d11_76) rfl (l' := #[.val (.ref r), .val (.int ((own_or (own_or (own_or (own_or (own_or (own_or (0 : Int32) u0 (1 : Int32)) u1 (2 : Int32)) u2 (4 : Int32)) u3 (8 : Int32)) u4 (16 : Int32)) u5 (32 : Int32)) ||| (64 : Int32)))]) rfl ?_
        exact zk
      refine fun zt zk => R62 zt ?_
      have q63 : (if u6 = (0 : Int32) then (own_or (own_or (own_or (own_or (own_or (own_or (0 : Int32) u0 (1 : Int32)) u1 (2 : Int32)) u2 (4 : Int32)) u3 (8 : Int32)) u4 (16 : Int32)) u5 (32 : Int32)) else ((own_or (own_or (own_or (own_or (own_or (own_or (0 : Int32) u0 (1 : Int32)) u1 (2 : Int32)) u2 (4 : Int32)) u3 (8 : Int32)) u4 (16 : Int32)) u5 (32 : Int32)) ||| (64 : Int32)) : Int32) = ((own_or (own_or (own_or (own_or (own_or (own_or (0 : Int32) u0 (1 : Int32)) u1 (2 : Int32)) u2 (4 : Int32)) u3 (8 : Int32)) u4 (16 : Int32)) u5 (32 : Int32)) ||| (64 : Int32)) := (if_neg hc59)
      rw [q63] at zk
      try rw [q63]
      exact zk
  have R64 : ∀ zt, Steps p.tables e below (s₁.setTop (mkF m 80 #[.val (.ref r), .val (.int (own_or (own_or (own_or (own_or (own_or (own_or (own_or (0 : Int32) u0 (1 : Int32)) u1 (2 : Int32)) u2 (4 : Int32)) u3 (8 : Int32)) u4 (16 : Int32)) u5 (32 : Int32)) u6 (64 : Int32)))] [(.int (7 : Int32)), (.ref r)])) zt → Steps p.tables e below (s₁.setTop (entryFrame m #[(.ref r)] 2)) zt := by
    intro zt zk
    refine R58 zt ?_
    show Steps p.tables e below (s₁.setTop (mkF m 77 #[.val (.ref r), .val (.int (own_or (own_or (own_or (own_or (own_or (own_or (own_or (0 : Int32) u0 (1 : Int32)) u1 (2 : Int32)) u2 (4 : Int32)) u3 (8 : Int32)) u4 (16 : Int32)) u5 (32 : Int32)) u6 (64 : Int32)))] [])) _
    refine XS.aloadN X0.here hx rfl (hb hby d11_77) rfl rfl ?_
    show Steps p.tables e below (s₁.setTop (mkF m 78 #[.val (.ref r), .val (.int (own_or (own_or (own_or (own_or (own_or (own_or (own_or (0 : Int32) u0 (1 : Int32)) u1 (2 : Int32)) u2 (4 : Int32)) u3 (8 : Int32)) u4 (16 : Int32)) u5 (32 : Int32)) u6 (64 : Int32)))] [(.ref r)])) _
    refine XS.bipush X0.here hx rfl (hb hby d11_78) ?_
    exact zk
  obtain ⟨cl65, Ar65, Aq65, As65, An65, Ah65, Ag65⟩ := id V_r
  have hin65 : ¬ ((7 : Int32) < 0 ∨ cl65.slots.size ≤ ((7 : Int32)).toNatClampNeg) := inb_of As65 ⟨by decide, by decide⟩
  have hat65 : cl65.slots[((7 : Int32)).toNatClampNeg]? = some (.int u7) := Has.at Ah65 hin65 rfl
  have R66 : ∀ zt, Steps p.tables e below (s₁.setTop (mkF m 81 #[.val (.ref r), .val (.int (own_or (own_or (own_or (own_or (own_or (own_or (own_or (0 : Int32) u0 (1 : Int32)) u1 (2 : Int32)) u2 (4 : Int32)) u3 (8 : Int32)) u4 (16 : Int32)) u5 (32 : Int32)) u6 (64 : Int32)))] [(.int u7)])) zt → Steps p.tables e below (s₁.setTop (entryFrame m #[(.ref r)] 2)) zt := by
    intro zt zk
    refine R64 zt ?_
    show Steps p.tables e below (s₁.setTop (mkF m 80 #[.val (.ref r), .val (.int (own_or (own_or (own_or (own_or (own_or (own_or (own_or (0 : Int32) u0 (1 : Int32)) u1 (2 : Int32)) u2 (4 : Int32)) u3 (8 : Int32)) u4 (16 : Int32)) u5 (32 : Int32)) u6 (64 : Int32)))] [(.int (7 : Int32)), (.ref r)])) _
    refine X0.baloadBooleans hx (j := (7 : Int32)) (v := (.int u7)) (by rw [e0]; exact Ar65.1) (State.isArrayOf_alike hZ.alike Ar65.2.1) Ar65.2.2 hin65 hat65 (g := (mkF m 80 #[.val (.ref r), .val (.int (own_or (own_or (own_or (own_or (own_or (own_or (own_or (0 : Int32) u0 (1 : Int32)) u1 (2 : Int32)) u2 (4 : Int32)) u3 (8 : Int32)) u4 (16 : Int32)) u5 (32 : Int32)) u6 (64 : Int32)))] [(.int (7 : Int32)), (.ref r)])) rfl rfl (hb hby d11_80) _ ?_
    exact zk
  have R67 : ∀ zt, Steps p.tables e below (s₁.setTop (mkF m 90 #[.val (.ref r), .val (.int (if u7 = (0 : Int32) then (own_or (own_or (own_or (own_or (own_or (own_or (own_or (0 : Int32) u0 (1 : Int32)) u1 (2 : Int32)) u2 (4 : Int32)) u3 (8 : Int32)) u4 (16 : Int32)) u5 (32 : Int32)) u6 (64 : Int32)) else ((own_or (own_or (own_or (own_or (own_or (own_or (own_or (0 : Int32) u0 (1 : Int32)) u1 (2 : Int32)) u2 (4 : Int32)) u3 (8 : Int32)) u4 (16 : Int32)) u5 (32 : Int32)) u6 (64 : Int32)) ||| (128 : Int32)) : Int32))] [])) zt → Steps p.tables e below (s₁.setTop (entryFrame m #[(.ref r)] 2)) zt := by
    by_cases hc68 : u7 = (0 : Int32)
    ·
      skip
      have R69 : ∀ zt, Steps p.tables e below (s₁.setTop (mkF m 90 #[.val (.ref r), .val (.int (own_or (own_or (own_or (own_or (own_or (own_or (own_or (0 : Int32) u0 (1 : Int32)) u1 (2 : Int32)) u2 (4 : Int32)) u3 (8 : Int32)) u4 (16 : Int32)) u5 (32 : Int32)) u6 (64 : Int32)))] [])) zt → Steps p.tables e below (s₁.setTop (entryFrame m #[(.ref r)] 2)) zt := by
        intro zt zk
        refine R66 zt ?_
        show Steps p.tables e below (s₁.setTop (mkF m 81 #[.val (.ref r), .val (.int (own_or (own_or (own_or (own_or (own_or (own_or (own_or (0 : Int32) u0 (1 : Int32)) u1 (2 : Int32)) u2 (4 : Int32)) u3 (8 : Int32)) u4 (16 : Int32)) u5 (32 : Int32)) u6 (64 : Int32)))] [(.int u7)])) _
        refine XS.ifYes X0.here hx rfl (pc0 := 81) (pc' := 90) rfl (hb hby d11_81) rfl ((if0 _ _).trans (teq hc68).1) (by decide) (by decide) ?_
        exact zk
      refine fun zt zk => R69 zt ?_
      have q70 : (if u7 = (0 : Int32) then (own_or (own_or (own_or (own_or (own_or (own_or (own_or (0 : Int32) u0 (1 : Int32)) u1 (2 : Int32)) u2 (4 : Int32)) u3 (8 : Int32)) u4 (16 : Int32)) u5 (32 : Int32)) u6 (64 : Int32)) else ((own_or (own_or (own_or (own_or (own_or (own_or (own_or (0 : Int32) u0 (1 : Int32)) u1 (2 : Int32)) u2 (4 : Int32)) u3 (8 : Int32)) u4 (16 : Int32)) u5 (32 : Int32)) u6 (64 : Int32)) ||| (128 : Int32)) : Int32) = (own_or (own_or (own_or (own_or (own_or (own_or (own_or (0 : Int32) u0 (1 : Int32)) u1 (2 : Int32)) u2 (4 : Int32)) u3 (8 : Int32)) u4 (16 : Int32)) u5 (32 : Int32)) u6 (64 : Int32)) := (if_pos hc68)
      rw [q70] at zk
      try rw [q70]
      exact zk
    ·
      skip
      have R71 : ∀ zt, Steps p.tables e below (s₁.setTop (mkF m 90 #[.val (.ref r), .val (.int ((own_or (own_or (own_or (own_or (own_or (own_or (own_or (0 : Int32) u0 (1 : Int32)) u1 (2 : Int32)) u2 (4 : Int32)) u3 (8 : Int32)) u4 (16 : Int32)) u5 (32 : Int32)) u6 (64 : Int32)) ||| (128 : Int32)))] [])) zt → Steps p.tables e below (s₁.setTop (entryFrame m #[(.ref r)] 2)) zt := by
        intro zt zk
        refine R66 zt ?_
        show Steps p.tables e below (s₁.setTop (mkF m 81 #[.val (.ref r), .val (.int (own_or (own_or (own_or (own_or (own_or (own_or (own_or (0 : Int32) u0 (1 : Int32)) u1 (2 : Int32)) u2 (4 : Int32)) u3 (8 : Int32)) u4 (16 : Int32)) u5 (32 : Int32)) u6 (64 : Int32)))] [(.int u7)])) _
        refine XS.ifNo X0.here hx rfl (hb hby d11_81) rfl ((if0 _ _).trans (feq hc68).1) ?_
        show Steps p.tables e below (s₁.setTop (mkF m 84 #[.val (.ref r), .val (.int (own_or (own_or (own_or (own_or (own_or (own_or (own_or (0 : Int32) u0 (1 : Int32)) u1 (2 : Int32)) u2 (4 : Int32)) u3 (8 : Int32)) u4 (16 : Int32)) u5 (32 : Int32)) u6 (64 : Int32)))] [])) _
        refine XS.iloadN X0.here hx rfl (hb hby d11_84) rfl ?_
        show Steps p.tables e below (s₁.setTop (mkF m 85 #[.val (.ref r), .val (.int (own_or (own_or (own_or (own_or (own_or (own_or (own_or (0 : Int32) u0 (1 : Int32)) u1 (2 : Int32)) u2 (4 : Int32)) u3 (8 : Int32)) u4 (16 : Int32)) u5 (32 : Int32)) u6 (64 : Int32)))] [(.int (own_or (own_or (own_or (own_or (own_or (own_or (own_or (0 : Int32) u0 (1 : Int32)) u1 (2 : Int32)) u2 (4 : Int32)) u3 (8 : Int32)) u4 (16 : Int32)) u5 (32 : Int32)) u6 (64 : Int32)))])) _
        refine XS.sipush X0.here hx rfl (hb hby d11_85) ?_
        show Steps p.tables e below (s₁.setTop (mkF m 88 #[.val (.ref r), .val (.int (own_or (own_or (own_or (own_or (own_or (own_or (own_or (0 : Int32) u0 (1 : Int32)) u1 (2 : Int32)) u2 (4 : Int32)) u3 (8 : Int32)) u4 (16 : Int32)) u5 (32 : Int32)) u6 (64 : Int32)))] [(.int (128 : Int32)), (.int (own_or (own_or (own_or (own_or (own_or (own_or (own_or (0 : Int32) u0 (1 : Int32)) u1 (2 : Int32)) u2 (4 : Int32)) u3 (8 : Int32)) u4 (16 : Int32)) u5 (32 : Int32)) u6 (64 : Int32)))])) _
        refine XS.ior X0.here hx rfl (hb hby d11_88) rfl ?_
        show Steps p.tables e below (s₁.setTop (mkF m 89 #[.val (.ref r), .val (.int (own_or (own_or (own_or (own_or (own_or (own_or (own_or (0 : Int32) u0 (1 : Int32)) u1 (2 : Int32)) u2 (4 : Int32)) u3 (8 : Int32)) u4 (16 : Int32)) u5 (32 : Int32)) u6 (64 : Int32)))] [(.int ((own_or (own_or (own_or (own_or (own_or (own_or (own_or (0 : Int32) u0 (1 : Int32)) u1 (2 : Int32)) u2 (4 : Int32)) u3 (8 : Int32)) u4 (16 : Int32)) u5 (32 : Int32)) u6 (64 : Int32)) ||| (128 : Int32)))])) _
        refine XS.istoreN X0.here hx rfl (hb hby d11_89) rfl (l' := #[.val (.ref r), .val (.int ((own_or (own_or (own_or (own_or (own_or (own_or (own_or (0 : Int32) u0 (1 : Int32)) u1 (2 : Int32)) u2 (4 : Int32)) u3 (8 : Int32)) u4 (16 : Int32)) u5 (32 : Int32)) u6 (64 : Int32)) ||| (128 : Int32)))]) rfl ?_
        exact zk
      refine fun zt zk => R71 zt ?_
      have q72 : (if u7 = (0 : Int32) then (own_or (own_or (own_or (own_or (own_or (own_or (own_or (0 : Int32) u0 (1 : Int32)) u1 (2 : Int32)) u2 (4 : Int32)) u3 (8 : Int32)) u4 (16 : Int32)) u5 (32 : Int32)) u6 (64 : Int32)) else ((own_or (own_or (own_or (own_or (own_or (own_or (own_or (0 : Int32) u0 (1 : Int32)) u1 (2 : Int32)) u2 (4 : Int32)) u3 (8 : Int32)) u4 (16 : Int32)) u5 (32 : Int32)) u6 (64 : Int32)) ||| (128 : Int32)) : Int32) = ((own_or (own_or (own_or (own_or (own_or (own_or (own_or (0 : Int32) u0 (1 : Int32)) u1 (2 : Int32)) u2 (4 : Int32)) u3 (8 : Int32)) u4 (16 : Int32)) u5 (32 : Int32)) u6 (64 : Int32)) ||| (128 : Int32)) := (if_neg hc68)
      rw [q72] at zk
      try rw [q72]
      exact zk
  have R73 : ∀ zt, Steps p.tables e below (s₁.setTop (mkF m 91 #[.val (.ref r), .val (.int (own_or (own_or (own_or (own_or (own_or (own_or (own_or (own_or (0 : Int32) u0 (1 : Int32)) u1 (2 : Int32)) u2 (4 : Int32)) u3 (8 : Int32)) u4 (16 : Int32)) u5 (32 : Int32)) u6 (64 : Int32)) u7 (128 : Int32)))] [(.int (own_or (own_or (own_or (own_or (own_or (own_or (own_or (own_or (0 : Int32) u0 (1 : Int32)) u1 (2 : Int32)) u2 (4 : Int32)) u3 (8 : Int32)) u4 (16 : Int32)) u5 (32 : Int32)) u6 (64 : Int32)) u7 (128 : Int32)))])) zt → Steps p.tables e below (s₁.setTop (entryFrame m #[(.ref r)] 2)) zt := by
    intro zt zk
    refine R67 zt ?_
    show Steps p.tables e below (s₁.setTop (mkF m 90 #[.val (.ref r), .val (.int (own_or (own_or (own_or (own_or (own_or (own_or (own_or (own_or (0 : Int32) u0 (1 : Int32)) u1 (2 : Int32)) u2 (4 : Int32)) u3 (8 : Int32)) u4 (16 : Int32)) u5 (32 : Int32)) u6 (64 : Int32)) u7 (128 : Int32)))] [])) _
    refine XS.iloadN X0.here hx rfl (hb hby d11_90) rfl ?_
    exact zk
  obtain ⟨fs, hr, hrun, hended, hW, hsame⟩ := X0.leave (v := some (.int (own_or (own_or (own_or (own_or (own_or (own_or (own_or (own_or (0 : Int32) u0 (1 : Int32)) u1 (2 : Int32)) u2 (4 : Int32)) u3 (8 : Int32)) u4 (16 : Int32)) u5 (32 : Int32)) u6 (64 : Int32)) u7 (128 : Int32)))) (fun h => by rw [Bd.returns] at h; cases h)
  refine ⟨_, _, R73 _ ?_, hrun, hended, _, _, rfl, ?_, ⟨_, rfl⟩, hW, hsame.mono (by decide) (by decide)⟩
  · exact retI X0 hx Bd.returns (hb hby d11_91) hr
  · show Q11 Z r kc u0 u1 u2 u3 u4 u5 u6 u7 h0 n0 _ s₁.heap _
    rw [e0]
    exact ⟨rfl, N0, rfl⟩
theorem ef0 (m : MethodId) (x0 : Int32) (x1 : Int32) (x2 : Int32) : entryFrame m #[(.int x0), (.int x1), (.int x2)] maxLocals = mkF m 0 #[.val (.int x0), .val (.int x1), .val (.int x2), .unset, .unset, .unset, .unset, .unset, .unset, .unset, .unset] [] := by first | (simp [entryFrame, mkF, argsToLocals, Value.category, maxLocals]; done) | rfl
theorem pd_1 : parseMethodDescriptor "(II)Z" = some ⟨[.int, .int], some .boolean⟩ := by decide +kernel
theorem pd_2 : parseMethodDescriptor "([C)V" = some ⟨[(.array .char)], none⟩ := by decide +kernel
theorem pd_3 : parseMethodDescriptor "(ILjava/lang/String;)V" = some ⟨[.int, (.object "java/lang/String")], none⟩ := by decide +kernel
theorem pd_4 : parseMethodDescriptor "([Z)I" = some ⟨[(.array .boolean)], some .int⟩ := by decide +kernel
def Q0 (Z : State) (p0 : Int32) (p1 : Int32) (p2 : Int32) (G1 : Int32) (h0 : Heap) (n0 : Nat) (v : Option Value) (h : Heap) (L : List Loc) : Prop := v = some (.int (1 : Int32)) ∧ Fr n0 L
set_option maxRecDepth 65536 in
set_option maxHeartbeats 40000000 in
theorem rm0 (l : Launch) (Z : State) (a0 : Array Value) (hw : ∀ d ∈ tables_1, d.before a0 Z = true) (ws : List Jvm.Cond) (p0 : Int32) (p1 : Int32) (p2 : Int32) (G1 : Int32) (h0 : Heap) (n0 : Nat) (Z0 : n0 ≤ h0.size) (O : Old Z n0 h0) (SCS : Sta Z Z.heap "java/lang/String" "COMPACT_STRINGS" "Z" (.int G1)) (P5 : ¬ (G1 = (0 : Int32))) :
    MetFree l x (head1 (Jvm.Cond.code x code maxLocals ret :: ws) room_1) (fun zza zzU => zza = #[(.int p0), (.int p1), (.int p2)] ∧ Z.Warmed39 zzU.vm ∧ zzU.heap = h0) (fun _ _ _ _ _ => True) (fun _ zzU zzo zzV => ∃ zzv zzL, zzo = .returned zzv ∧ Q0 Z p0 p1 p2 G1 h0 n0 zzv zzV.heap zzL ∧ FrameEnd zzU zzo zzV zzL 24 128) := by
  refine MetFree.of_bodySF (plainFor_of_name pn_0) hisR ?_
  intro p e s m args below meth c s₁ Bd hml0 hP hK
  obtain ⟨rfl, hZ, hh⟩ := hP
  have hx := Bd.exec
  have hby := Bd.bytes
  have hml : c.maxLocals = 11 := hml0
  have hown : s.vm.findClass "com/example/reset/reset/VariableDegreeInPinLaw" = some m.cls := findClass_of_methodNamed Bd.named
  have hnm := (name_of_methodNamed Bd.named Bd.method).1
  have X0 : Stand p l e room_1 s m #[(.int p0), (.int p1), (.int p2)] below meth c s₁ [] 0 0 := Stand.of_body Bd
  have e0 : s₁.heap = h0 := by rw [← hh, Bd.state]; rfl
  have N0 := Fr.nil n0
  have R0 : ∀ zt, Steps p.tables e below (s₁.setTop (mkF m 0 #[.val (.int p0), .val (.int p1), .val (.int p2), .unset, .unset, .unset, .unset, .unset, .unset, .unset, .unset] [])) zt → Steps p.tables e below (s₁.setTop (entryFrame m #[(.int p0), (.int p1), (.int p2)] maxLocals)) zt := fun zt zk => castTop (ef0 m p0 p1 p2) zk
  have R1 : ∀ zt, Steps p.tables e below (s₁.setTop (mkF m 14 #[.val (.int p0), .val (.int p1), .val (.int p2), .val (.int (p0 &&& (7 : Int32))), .val (.int (p1 &&& (255 : Int32))), .unset, .unset, .unset, .unset, .unset, .unset] [(.int (8 : Int32))])) zt → Steps p.tables e below (s₁.setTop (entryFrame m #[(.int p0), (.int p1), (.int p2)] maxLocals)) zt := by
    intro zt zk
    refine R0 zt ?_
    show Steps p.tables e below (s₁.setTop (mkF m 0 #[.val (.int p0), .val (.int p1), .val (.int p2), .unset, .unset, .unset, .unset, .unset, .unset, .unset, .unset] [])) _
    refine XS.iloadN X0.here hx rfl (hb hby at_0) rfl ?_
    show Steps p.tables e below (s₁.setTop (mkF m 1 #[.val (.int p0), .val (.int p1), .val (.int p2), .unset, .unset, .unset, .unset, .unset, .unset, .unset, .unset] [(.int p0)])) _
    refine XS.bipush X0.here hx rfl (hb hby at_1) ?_
    show Steps p.tables e below (s₁.setTop (mkF m 3 #[.val (.int p0), .val (.int p1), .val (.int p2), .unset, .unset, .unset, .unset, .unset, .unset, .unset, .unset] [(.int (7 : Int32)), (.int p0)])) _
    refine XS.iand X0.here hx rfl (hb hby at_3) rfl ?_
    show Steps p.tables e below (s₁.setTop (mkF m 4 #[.val (.int p0), .val (.int p1), .val (.int p2), .unset, .unset, .unset, .unset, .unset, .unset, .unset, .unset] [(.int (p0 &&& (7 : Int32)))])) _
    refine XS.istoreN X0.here hx rfl (hb hby at_4) rfl (l' := #[.val (.int p0), .val (.int p1), .val (.int p2), .val (.int (p0 &&& (7 : Int32))), .unset, .unset, .unset, .unset, .unset, .unset, .unset]) rfl ?_
    show Steps p.tables e below (s₁.setTop (mkF m 5 #[.val (.int p0), .val (.int p1), .val (.int p2), .val (.int (p0 &&& (7 : Int32))), .unset, .unset, .unset, .unset, .unset, .unset, .unset] [])) _
    refine XS.iloadN X0.here hx rfl (hb hby at_5) rfl ?_
    show Steps p.tables e below (s₁.setTop (mkF m 6 #[.val (.int p0), .val (.int p1), .val (.int p2), .val (.int (p0 &&& (7 : Int32))), .unset, .unset, .unset, .unset, .unset, .unset, .unset] [(.int p1)])) _
    refine XS.sipush X0.here hx rfl (hb hby at_6) ?_
    show Steps p.tables e below (s₁.setTop (mkF m 9 #[.val (.int p0), .val (.int p1), .val (.int p2), .val (.int (p0 &&& (7 : Int32))), .unset, .unset, .unset, .unset, .unset, .unset, .unset] [(.int (255 : Int32)), (.int p1)])) _
    refine XS.iand X0.here hx rfl (hb hby at_9) rfl ?_
    show Steps p.tables e below (s₁.setTop (mkF m 10 #[.val (.int p0), .val (.int p1), .val (.int p2), .val (.int (p0 &&& (7 : Int32))), .unset, .unset, .unset, .unset, .unset, .unset, .unset] [(.int (p1 &&& (255 : Int32)))])) _
    refine XS.istore X0.here hx rfl (hb hby at_10) rfl (l' := #[.val (.int p0), .val (.int p1), .val (.int p2), .val (.int (p0 &&& (7 : Int32))), .val (.int (p1 &&& (255 : Int32))), .unset, .unset, .unset, .unset, .unset, .unset]) rfl ?_
    show Steps p.tables e below (s₁.setTop (mkF m 12 #[.val (.int p0), .val (.int p1), .val (.int p2), .val (.int (p0 &&& (7 : Int32))), .val (.int (p1 &&& (255 : Int32))), .unset, .unset, .unset, .unset, .unset, .unset] [])) _
    refine XS.bipush X0.here hx rfl (hb hby at_12) ?_
    exact zk
  obtain ⟨T2, h2, k2, X2, e2, E2, A2, st2⟩ := newP X0 hx hZ (hw _ (List.mem_of_getElem? (i := 0) rfl)) e0 (g := (mkF m 14 #[.val (.int p0), .val (.int p1), .val (.int p2), .val (.int (p0 &&& (7 : Int32))), .val (.int (p1 &&& (255 : Int32))), .unset, .unset, .unset, .unset, .unset, .unset] [(.int (8 : Int32))])) rfl (hb hby at_14) rfl (by decide) (cap := 8) (by decide) (by decide) (by decide) (by decide)
  obtain ⟨r, g2⟩ : ∃ z, z = h0.size := ⟨_, rfl⟩
  rw [← g2] at A2 st2
  have ge_r : n0 ≤ r := by rw [g2]; exact Z0
  have Sz2 := Nat.le_trans Z0 E2.1
  have O := O.ext E2
  have V_r : Arv Z h2 r k2 .boolean (8 : Int32) [(.int (0 : Int32)), (.int (0 : Int32)), (.int (0 : Int32)), (.int (0 : Int32)), (.int (0 : Int32)), (.int (0 : Int32)), (.int (0 : Int32)), (.int (0 : Int32))] (.int (0 : Int32)) := (Arv.new A2 (by decide)).pad (pad_rep [] (.int (0 : Int32)) 8)
  have R3 : ∀ zt, Steps p.tables e below (T2.setTop (mkF m 24 #[.val (.int p0), .val (.int p1), .val (.int p2), .val (.int (p0 &&& (7 : Int32))), .val (.int (p1 &&& (255 : Int32))), .val (.ref r), .unset, .unset, .unset, .unset, .unset] [(.int (0 : Int32)), (.int (p1 &&& (255 : Int32))), (.int (0 : Int32)), (.ref r)])) zt → Steps p.tables e below (s₁.setTop (entryFrame m #[(.int p0), (.int p1), (.int p2)] maxLocals)) zt := by
    intro zt zk
    refine R1 zt ?_
    show Steps p.tables e below (s₁.setTop (mkF m 14 #[.val (.int p0), .val (.int p1), .val (.int p2), .val (.int (p0 &&& (7 : Int32))), .val (.int (p1 &&& (255 : Int32))), .unset, .unset, .unset, .unset, .unset, .unset] [(.int (8 : Int32))])) _
    refine st2 _ ?_
    show Steps p.tables e below (T2.setTop (mkF m 16 #[.val (.int p0), .val (.int p1), .val (.int p2), .val (.int (p0 &&& (7 : Int32))), .val (.int (p1 &&& (255 : Int32))), .unset, .unset, .unset, .unset, .unset, .unset] [(.ref r)])) _
    refine XS.astore X2.here hx rfl (hb hby at_16) rfl rfl (l' := #[.val (.int p0), .val (.int p1), .val (.int p2), .val (.int (p0 &&& (7 : Int32))), .val (.int (p1 &&& (255 : Int32))), .val (.ref r), .unset, .unset, .unset, .unset, .unset]) rfl ?_
    show Steps p.tables e below (T2.setTop (mkF m 18 #[.val (.int p0), .val (.int p1), .val (.int p2), .val (.int (p0 &&& (7 : Int32))), .val (.int (p1 &&& (255 : Int32))), .val (.ref r), .unset, .unset, .unset, .unset, .unset] [])) _
    refine XS.aload X2.here hx rfl (hb hby at_18) rfl rfl ?_
    show Steps p.tables e below (T2.setTop (mkF m 20 #[.val (.int p0), .val (.int p1), .val (.int p2), .val (.int (p0 &&& (7 : Int32))), .val (.int (p1 &&& (255 : Int32))), .val (.ref r), .unset, .unset, .unset, .unset, .unset] [(.ref r)])) _
    refine XS.iconst X2.here hx rfl (hb hby at_20) ?_
    show Steps p.tables e below (T2.setTop (mkF m 21 #[.val (.int p0), .val (.int p1), .val (.int p2), .val (.int (p0 &&& (7 : Int32))), .val (.int (p1 &&& (255 : Int32))), .val (.ref r), .unset, .unset, .unset, .unset, .unset] [(.int (0 : Int32)), (.ref r)])) _
    refine XS.iload X2.here hx rfl (hb hby at_21) rfl ?_
    show Steps p.tables e below (T2.setTop (mkF m 23 #[.val (.int p0), .val (.int p1), .val (.int p2), .val (.int (p0 &&& (7 : Int32))), .val (.int (p1 &&& (255 : Int32))), .val (.ref r), .unset, .unset, .unset, .unset, .unset] [(.int (p1 &&& (255 : Int32))), (.int (0 : Int32)), (.ref r)])) _
    refine XS.iconst X2.here hx rfl (hb hby at_23) ?_
    exact zk
  obtain ⟨_, _, ⟨T4, L4, k4, n4⟩, -, X4, ⟨Lc4, hQ4, l4, y4, z4⟩, st4⟩ := Jvm.LawKit.callS X2 hx (y := (⟨"com/example/reset/reset/VariableDegreeInPinLaw", "bit", "(II)Z"⟩ : MethodName)) hown (mvT hZ (hw _ (List.mem_of_getElem? (i := 1) rfl))) (mvT hZ (hw _ (List.mem_of_getElem? (i := 2) rfl))) (mvT hZ (hw _ (List.mem_of_getElem? (i := 3) rfl))) (mvT hZ (hw _ (List.mem_of_getElem? (i := 4) rfl))) (by decide) (backOf (W := 2) (rm1 l Z a0 hw [] (p1 &&& (255 : Int32)) (0 : Int32) h2 n0 Sz2) hZ (hw _ (List.mem_of_getElem? (i := 4) rfl)) (hw _ (List.mem_of_getElem? (i := 3) rfl)) (by decide) (by decide)) (g := (mkF m 24 #[.val (.int p0), .val (.int p1), .val (.int p2), .val (.int (p0 &&& (7 : Int32))), .val (.int (p1 &&& (255 : Int32))), .val (.ref r), .unset, .unset, .unset, .unset, .unset] [(.int (0 : Int32)), (.int (p1 &&& (255 : Int32))), (.int (0 : Int32)), (.ref r)])) rfl (by rw [hml]; rfl) (argsL := [(.int (p1 &&& (255 : Int32))), (.int (0 : Int32))]) (rest := [(.int (0 : Int32)), (.ref r)]) (lenOf pd_1 rfl) rfl (by show 2 * 0 + _ ≤ _; exact Nat.le_of_eq rfl) (hb hby at_24) (fun _ _ => ⟨rfl, e2, (by decide : 1 + 0 ≤ _), (by decide : 8 + 0 ≤ _)⟩)
  dsimp only [Pt.U, Pt.locs, Pt.cells, Pt.slots] at X4 l4 y4 z4 st4 hQ4
  subst l4 y4 z4
  obtain ⟨rfl, Nq4, eq4⟩ := hQ4
  have N4 := Fr.app N0 Nq4
  have e4 : T4.heap = h2 := eq4
  have R5 : ∀ zt, Steps p.tables e below (T4.setTop (mkF m 27 #[.val (.int p0), .val (.int p1), .val (.int p2), .val (.int (p0 &&& (7 : Int32))), .val (.int (p1 &&& (255 : Int32))), .val (.ref r), .unset, .unset, .unset, .unset, .unset] [(.int (own_bv (p1 &&& (255 : Int32)) (0 : Int32))), (.int (0 : Int32)), (.ref r)])) zt → Steps p.tables e below (s₁.setTop (entryFrame m #[(.int p0), (.int p1), (.int p2)] maxLocals)) zt := by
    intro zt zk
    refine R3 zt ?_
    show Steps p.tables e below (T2.setTop (mkF m 24 #[.val (.int p0), .val (.int p1), .val (.int p2), .val (.int (p0 &&& (7 : Int32))), .val (.int (p1 &&& (255 : Int32))), .val (.ref r), .unset, .unset, .unset, .unset, .unset] [(.int (0 : Int32)), (.int (p1 &&& (255 : Int32))), (.int (0 : Int32)), (.ref r)])) _
    refine st4 _ ?_
    exact zk
  obtain ⟨cl6, Ar6, Aq6, As6, An6, Ah6, Ag6⟩ := id V_r
  have hin6 : ¬ ((0 : Int32) < 0 ∨ cl6.slots.size ≤ ((0 : Int32)).toNatClampNeg) := inb_of As6 ⟨by decide, by decide⟩
  obtain ⟨T7, h7, X7, e7, W7, st7⟩ := stZ X4 hx hZ e4 Ar6 (j := (0 : Int32)) hin6 (g := (mkF m 27 #[.val (.int p0), .val (.int p1), .val (.int p2), .val (.int (p0 &&& (7 : Int32))), .val (.int (p1 &&& (255 : Int32))), .val (.ref r), .unset, .unset, .unset, .unset, .unset] [(.int (own_bv (p1 &&& (255 : Int32)) (0 : Int32))), (.int (0 : Int32)), (.ref r)])) rfl rfl (hb hby at_27)
  have N7 := Fr.snoc X7 N4 ge_r
  have Sz7 := Nat.le_trans Sz2 (Keep.of_wr W7).1
  have O := O.wr W7 ge_r
  have V_r : Arv Z h7 r k2 .boolean (8 : Int32) [(.int (nar .boolean (own_bv (p1 &&& (255 : Int32)) (0 : Int32)))), (.int (0 : Int32)), (.int (0 : Int32)), (.int (0 : Int32)), (.int (0 : Int32)), (.int (0 : Int32)), (.int (0 : Int32)), (.int (0 : Int32))] (.int (0 : Int32)) := Arv.set Ar6 Aq6 As6 An6 Ah6 Ag6 (fits_nar_bool _) W7 0 rfl (Nat.le_of_ble_eq_true rfl)
  have R8 : ∀ zt, Steps p.tables e below (T7.setTop (mkF m 34 #[.val (.int p0), .val (.int p1), .val (.int p2), .val (.int (p0 &&& (7 : Int32))), .val (.int (p1 &&& (255 : Int32))), .val (.ref r), .unset, .unset, .unset, .unset, .unset] [(.int (1 : Int32)), (.int (p1 &&& (255 : Int32))), (.int (1 : Int32)), (.ref r)])) zt → Steps p.tables e below (s₁.setTop (entryFrame m #[(.int p0), (.int p1), (.int p2)] maxLocals)) zt := by
    intro zt zk
    refine R5 zt ?_
    show Steps p.tables e below (T4.setTop (mkF m 27 #[.val (.int p0), .val (.int p1), .val (.int p2), .val (.int (p0 &&& (7 : Int32))), .val (.int (p1 &&& (255 : Int32))), .val (.ref r), .unset, .unset, .unset, .unset, .unset] [(.int (own_bv (p1 &&& (255 : Int32)) (0 : Int32))), (.int (0 : Int32)), (.ref r)])) _
    refine st7 _ ?_
    show Steps p.tables e below (T7.setTop (mkF m 28 #[.val (.int p0), .val (.int p1), .val (.int p2), .val (.int (p0 &&& (7 : Int32))), .val (.int (p1 &&& (255 : Int32))), .val (.ref r), .unset, .unset, .unset, .unset, .unset] [])) _
    refine XS.aload X7.here hx rfl (hb hby at_28) rfl rfl ?_
    show Steps p.tables e below (T7.setTop (mkF m 30 #[.val (.int p0), .val (.int p1), .val (.int p2), .val (.int (p0 &&& (7 : Int32))), .val (.int (p1 &&& (255 : Int32))), .val (.ref r), .unset, .unset, .unset, .unset, .unset] [(.ref r)])) _
    refine XS.iconst X7.here hx rfl (hb hby at_30) ?_
    show Steps p.tables e below (T7.setTop (mkF m 31 #[.val (.int p0), .val (.int p1), .val (.int p2), .val (.int (p0 &&& (7 : Int32))), .val (.int (p1 &&& (255 : Int32))), .val (.ref r), .unset, .unset, .unset, .unset, .unset] [(.int (1 : Int32)), (.ref r)])) _
    refine XS.iload X7.here hx rfl (hb hby at_31) rfl ?_
    show Steps p.tables e below (T7.setTop (mkF m 33 #[.val (.int p0), .val (.int p1), .val (.int p2), .val (.int (p0 &&& (7 : Int32))), .val (.int (p1 &&& (255 : Int32))), .val (.ref r), .unset, .unset, .unset, .unset, .unset] [(.int (p1 &&& (255 : Int32))), (.int (1 : Int32)), (.ref r)])) _
    refine XS.iconst X7.here hx rfl (hb hby at_33) ?_
    exact zk
  obtain ⟨_, _, ⟨T9, L9, k9, n9⟩, -, X9, ⟨Lc9, hQ9, l9, y9, z9⟩, st9⟩ := Jvm.LawKit.callS X7 hx (y := (⟨"com/example/reset/reset/VariableDegreeInPinLaw", "bit", "(II)Z"⟩ : MethodName)) hown (mvT hZ (hw _ (List.mem_of_getElem? (i := 1) rfl))) (mvT hZ (hw _ (List.mem_of_getElem? (i := 2) rfl))) (mvT hZ (hw _ (List.mem_of_getElem? (i := 3) rfl))) (mvT hZ (hw _ (List.mem_of_getElem? (i := 4) rfl))) (by decide) (backOf (W := 2) (rm1 l Z a0 hw [] (p1 &&& (255 : Int32)) (1 : Int32) h7 n0 Sz7) hZ (hw _ (List.mem_of_getElem? (i := 4) rfl)) (hw _ (List.mem_of_getElem? (i := 3) rfl)) (by decide) (by decide)) (g := (mkF m 34 #[.val (.int p0), .val (.int p1), .val (.int p2), .val (.int (p0 &&& (7 : Int32))), .val (.int (p1 &&& (255 : Int32))), .val (.ref r), .unset, .unset, .unset, .unset, .unset] [(.int (1 : Int32)), (.int (p1 &&& (255 : Int32))), (.int (1 : Int32)), (.ref r)])) rfl (by rw [hml]; rfl) (argsL := [(.int (p1 &&& (255 : Int32))), (.int (1 : Int32))]) (rest := [(.int (1 : Int32)), (.ref r)]) (lenOf pd_1 rfl) rfl (by show 2 * 0 + _ ≤ _; exact Nat.le_of_eq rfl) (hb hby at_34) (fun _ _ => ⟨rfl, e7, (by decide : 1 + 0 ≤ _), (by decide : 8 + 0 ≤ _)⟩)
  dsimp only [Pt.U, Pt.locs, Pt.cells, Pt.slots] at X9 l9 y9 z9 st9 hQ9
  subst l9 y9 z9
  obtain ⟨rfl, Nq9, eq9⟩ := hQ9
  have N9 := Fr.app N7 Nq9
  have e9 : T9.heap = h7 := eq9
  have R10 : ∀ zt, Steps p.tables e below (T9.setTop (mkF m 37 #[.val (.int p0), .val (.int p1), .val (.int p2), .val (.int (p0 &&& (7 : Int32))), .val (.int (p1 &&& (255 : Int32))), .val (.ref r), .unset, .unset, .unset, .unset, .unset] [(.int (own_bv (p1 &&& (255 : Int32)) (1 : Int32))), (.int (1 : Int32)), (.ref r)])) zt → Steps p.tables e below (s₁.setTop (entryFrame m #[(.int p0), (.int p1), (.int p2)] maxLocals)) zt := by
    intro zt zk
    refine R8 zt ?_
    show Steps p.tables e below (T7.setTop (mkF m 34 #[.val (.int p0), .val (.int p1), .val (.int p2), .val (.int (p0 &&& (7 : Int32))), .val (.int (p1 &&& (255 : Int32))), .val (.ref r), .unset, .unset, .unset, .unset, .unset] [(.int (1 : Int32)), (.int (p1 &&& (255 : Int32))), (.int (1 : Int32)), (.ref r)])) _
    refine st9 _ ?_
    exact zk
  obtain ⟨cl11, Ar11, Aq11, As11, An11, Ah11, Ag11⟩ := id V_r
  have hin11 : ¬ ((1 : Int32) < 0 ∨ cl11.slots.size ≤ ((1 : Int32)).toNatClampNeg) := inb_of As11 ⟨by decide, by decide⟩
  obtain ⟨T12, h12, X12, e12, W12, st12⟩ := stZ X9 hx hZ e9 Ar11 (j := (1 : Int32)) hin11 (g := (mkF m 37 #[.val (.int p0), .val (.int p1), .val (.int p2), .val (.int (p0 &&& (7 : Int32))), .val (.int (p1 &&& (255 : Int32))), .val (.ref r), .unset, .unset, .unset, .unset, .unset] [(.int (own_bv (p1 &&& (255 : Int32)) (1 : Int32))), (.int (1 : Int32)), (.ref r)])) rfl rfl (hb hby at_37)
  have N12 := Fr.snoc X12 N9 ge_r
  have Sz12 := Nat.le_trans Sz7 (Keep.of_wr W12).1
  have O := O.wr W12 ge_r
  have V_r : Arv Z h12 r k2 .boolean (8 : Int32) [(.int (nar .boolean (own_bv (p1 &&& (255 : Int32)) (0 : Int32)))), (.int (nar .boolean (own_bv (p1 &&& (255 : Int32)) (1 : Int32)))), (.int (0 : Int32)), (.int (0 : Int32)), (.int (0 : Int32)), (.int (0 : Int32)), (.int (0 : Int32)), (.int (0 : Int32))] (.int (0 : Int32)) := Arv.set Ar11 Aq11 As11 An11 Ah11 Ag11 (fits_nar_bool _) W12 1 rfl (Nat.le_of_ble_eq_true rfl)
  have R13 : ∀ zt, Steps p.tables e below (T12.setTop (mkF m 44 #[.val (.int p0), .val (.int p1), .val (.int p2), .val (.int (p0 &&& (7 : Int32))), .val (.int (p1 &&& (255 : Int32))), .val (.ref r), .unset, .unset, .unset, .unset, .unset] [(.int (2 : Int32)), (.int (p1 &&& (255 : Int32))), (.int (2 : Int32)), (.ref r)])) zt → Steps p.tables e below (s₁.setTop (entryFrame m #[(.int p0), (.int p1), (.int p2)] maxLocals)) zt := by
    intro zt zk
    refine R10 zt ?_
    show Steps p.tables e below (T9.setTop (mkF m 37 #[.val (.int p0), .val (.int p1), .val (.int p2), .val (.int (p0 &&& (7 : Int32))), .val (.int (p1 &&& (255 : Int32))), .val (.ref r), .unset, .unset, .unset, .unset, .unset] [(.int (own_bv (p1 &&& (255 : Int32)) (1 : Int32))), (.int (1 : Int32)), (.ref r)])) _
    refine st12 _ ?_
    show Steps p.tables e below (T12.setTop (mkF m 38 #[.val (.int p0), .val (.int p1), .val (.int p2), .val (.int (p0 &&& (7 : Int32))), .val (.int (p1 &&& (255 : Int32))), .val (.ref r), .unset, .unset, .unset, .unset, .unset] [])) _
    refine XS.aload X12.here hx rfl (hb hby at_38) rfl rfl ?_
    show Steps p.tables e below (T12.setTop (mkF m 40 #[.val (.int p0), .val (.int p1), .val (.int p2), .val (.int (p0 &&& (7 : Int32))), .val (.int (p1 &&& (255 : Int32))), .val (.ref r), .unset, .unset, .unset, .unset, .unset] [(.ref r)])) _
    refine XS.iconst X12.here hx rfl (hb hby at_40) ?_
    show Steps p.tables e below (T12.setTop (mkF m 41 #[.val (.int p0), .val (.int p1), .val (.int p2), .val (.int (p0 &&& (7 : Int32))), .val (.int (p1 &&& (255 : Int32))), .val (.ref r), .unset, .unset, .unset, .unset, .unset] [(.int (2 : Int32)), (.ref r)])) _
    refine XS.iload X12.here hx rfl (hb hby at_41) rfl ?_
    show Steps p.tables e below (T12.setTop (mkF m 43 #[.val (.int p0), .val (.int p1), .val (.int p2), .val (.int (p0 &&& (7 : Int32))), .val (.int (p1 &&& (255 : Int32))), .val (.ref r), .unset, .unset, .unset, .unset, .unset] [(.int (p1 &&& (255 : Int32))), (.int (2 : Int32)), (.ref r)])) _
    refine XS.iconst X12.here hx rfl (hb hby at_43) ?_
    exact zk
  obtain ⟨_, _, ⟨T14, L14, k14, n14⟩, -, X14, ⟨Lc14, hQ14, l14, y14, z14⟩, st14⟩ := Jvm.LawKit.callS X12 hx (y := (⟨"com/example/reset/reset/VariableDegreeInPinLaw", "bit", "(II)Z"⟩ : MethodName)) hown (mvT hZ (hw _ (List.mem_of_getElem? (i := 1) rfl))) (mvT hZ (hw _ (List.mem_of_getElem? (i := 2) rfl))) (mvT hZ (hw _ (List.mem_of_getElem? (i := 3) rfl))) (mvT hZ (hw _ (List.mem_of_getElem? (i := 4) rfl))) (by decide) (backOf (W := 2) (rm1 l Z a0 hw [] (p1 &&& (255 : Int32)) (2 : Int32) h12 n0 Sz12) hZ (hw _ (List.mem_of_getElem? (i := 4) rfl)) (hw _ (List.mem_of_getElem? (i := 3) rfl)) (by decide) (by decide)) (g := (mkF m 44 #[.val (.int p0), .val (.int p1), .val (.int p2), .val (.int (p0 &&& (7 : Int32))), .val (.int (p1 &&& (255 : Int32))), .val (.ref r), .unset, .unset, .unset, .unset, .unset] [(.int (2 : Int32)), (.int (p1 &&& (255 : Int32))), (.int (2 : Int32)), (.ref r)])) rfl (by rw [hml]; rfl) (argsL := [(.int (p1 &&& (255 : Int32))), (.int (2 : Int32))]) (rest := [(.int (2 : Int32)), (.ref r)]) (lenOf pd_1 rfl) rfl (by show 2 * 0 + _ ≤ _; exact Nat.le_of_eq rfl) (hb hby at_44) (fun _ _ => ⟨rfl, e12, (by decide : 1 + 0 ≤ _), (by decide : 8 + 0 ≤ _)⟩)
  dsimp only [Pt.U, Pt.locs, Pt.cells, Pt.slots] at X14 l14 y14 z14 st14 hQ14
  subst l14 y14 z14
  obtain ⟨rfl, Nq14, eq14⟩ := hQ14
  have N14 := Fr.app N12 Nq14
  have e14 : T14.heap = h12 := eq14
  have R15 : ∀ zt, Steps p.tables e below (T14.setTop (mkF m 47 #[.val (.int p0), .val (.int p1), .val (.int p2), .val (.int (p0 &&& (7 : Int32))), .val (.int (p1 &&& (255 : Int32))), .val (.ref r), .unset, .unset, .unset, .unset, .unset] [(.int (own_bv (p1 &&& (255 : Int32)) (2 : Int32))), (.int (2 : Int32)), (.ref r)])) zt → Steps p.tables e below (s₁.setTop (entryFrame m #[(.int p0), (.int p1), (.int p2)] maxLocals)) zt := by
    intro zt zk
    refine R13 zt ?_
    show Steps p.tables e below (T12.setTop (mkF m 44 #[.val (.int p0), .val (.int p1), .val (.int p2), .val (.int (p0 &&& (7 : Int32))), .val (.int (p1 &&& (255 : Int32))), .val (.ref r), .unset, .unset, .unset, .unset, .unset] [(.int (2 : Int32)), (.int (p1 &&& (255 : Int32))), (.int (2 : Int32)), (.ref r)])) _
    refine st14 _ ?_
    exact zk
  obtain ⟨cl16, Ar16, Aq16, As16, An16, Ah16, Ag16⟩ := id V_r
  have hin16 : ¬ ((2 : Int32) < 0 ∨ cl16.slots.size ≤ ((2 : Int32)).toNatClampNeg) := inb_of As16 ⟨by decide, by decide⟩
  obtain ⟨T17, h17, X17, e17, W17, st17⟩ := stZ X14 hx hZ e14 Ar16 (j := (2 : Int32)) hin16 (g := (mkF m 47 #[.val (.int p0), .val (.int p1), .val (.int p2), .val (.int (p0 &&& (7 : Int32))), .val (.int (p1 &&& (255 : Int32))), .val (.ref r), .unset, .unset, .unset, .unset, .unset] [(.int (own_bv (p1 &&& (255 : Int32)) (2 : Int32))), (.int (2 : Int32)), (.ref r)])) rfl rfl (hb hby at_47)
  have N17 := Fr.snoc X17 N14 ge_r
  have Sz17 := Nat.le_trans Sz12 (Keep.of_wr W17).1
  have O := O.wr W17 ge_r
  have V_r : Arv Z h17 r k2 .boolean (8 : Int32) [(.int (nar .boolean (own_bv (p1 &&& (255 : Int32)) (0 : Int32)))), (.int (nar .boolean (own_bv (p1 &&& (255 : Int32)) (1 : Int32)))), (.int (nar .boolean (own_bv (p1 &&& (255 : Int32)) (2 : Int32)))), (.int (0 : Int32)), (.int (0 : Int32)), (.int (0 : Int32)), (.int (0 : Int32)), (.int (0 : Int32))] (.int (0 : Int32)) := Arv.set Ar16 Aq16 As16 An16 Ah16 Ag16 (fits_nar_bool _) W17 2 rfl (Nat.le_of_ble_eq_true rfl)
  have R18 : ∀ zt, Steps p.tables e below (T17.setTop (mkF m 54 #[.val (.int p0), .val (.int p1), .val (.int p2), .val (.int (p0 &&& (7 : Int32))), .val (.int (p1 &&& (255 : Int32))), .val (.ref r), .unset, .unset, .unset, .unset, .unset] [(.int (3 : Int32)), (.int (p1 &&& (255 : Int32))), (.int (3 : Int32)), (.ref r)])) zt → Steps p.tables e below (s₁.setTop (entryFrame m #[(.int p0), (.int p1), (.int p2)] maxLocals)) zt := by
    intro zt zk
    refine R15 zt ?_
    show Steps p.tables e below (T14.setTop (mkF m 47 #[.val (.int p0), .val (.int p1), .val (.int p2), .val (.int (p0 &&& (7 : Int32))), .val (.int (p1 &&& (255 : Int32))), .val (.ref r), .unset, .unset, .unset, .unset, .unset] [(.int (own_bv (p1 &&& (255 : Int32)) (2 : Int32))), (.int (2 : Int32)), (.ref r)])) _
    refine st17 _ ?_
    show Steps p.tables e below (T17.setTop (mkF m 48 #[.val (.int p0), .val (.int p1), .val (.int p2), .val (.int (p0 &&& (7 : Int32))), .val (.int (p1 &&& (255 : Int32))), .val (.ref r), .unset, .unset, .unset, .unset, .unset] [])) _
    refine XS.aload X17.here hx rfl (hb hby at_48) rfl rfl ?_
    show Steps p.tables e below (T17.setTop (mkF m 50 #[.val (.int p0), .val (.int p1), .val (.int p2), .val (.int (p0 &&& (7 : Int32))), .val (.int (p1 &&& (255 : Int32))), .val (.ref r), .unset, .unset, .unset, .unset, .unset] [(.ref r)])) _
    refine XS.iconst X17.here hx rfl (hb hby at_50) ?_
    show Steps p.tables e below (T17.setTop (mkF m 51 #[.val (.int p0), .val (.int p1), .val (.int p2), .val (.int (p0 &&& (7 : Int32))), .val (.int (p1 &&& (255 : Int32))), .val (.ref r), .unset, .unset, .unset, .unset, .unset] [(.int (3 : Int32)), (.ref r)])) _
    refine XS.iload X17.here hx rfl (hb hby at_51) rfl ?_
    show Steps p.tables e below (T17.setTop (mkF m 53 #[.val (.int p0), .val (.int p1), .val (.int p2), .val (.int (p0 &&& (7 : Int32))), .val (.int (p1 &&& (255 : Int32))), .val (.ref r), .unset, .unset, .unset, .unset, .unset] [(.int (p1 &&& (255 : Int32))), (.int (3 : Int32)), (.ref r)])) _
    refine XS.iconst X17.here hx rfl (hb hby at_53) ?_
    exact zk
  obtain ⟨_, _, ⟨T19, L19, k19, n19⟩, -, X19, ⟨Lc19, hQ19, l19, y19, z19⟩, st19⟩ := Jvm.LawKit.callS X17 hx (y := (⟨"com/example/reset/reset/VariableDegreeInPinLaw", "bit", "(II)Z"⟩ : MethodName)) hown (mvT hZ (hw _ (List.mem_of_getElem? (i := 1) rfl))) (mvT hZ (hw _ (List.mem_of_getElem? (i := 2) rfl))) (mvT hZ (hw _ (List.mem_of_getElem? (i := 3) rfl))) (mvT hZ (hw _ (List.mem_of_getElem? (i := 4) rfl))) (by decide) (backOf (W := 2) (rm1 l Z a0 hw [] (p1 &&& (255 : Int32)) (3 : Int32) h17 n0 Sz17) hZ (hw _ (List.mem_of_getElem? (i := 4) rfl)) (hw _ (List.mem_of_getElem? (i := 3) rfl)) (by decide) (by decide)) (g := (mkF m 54 #[.val (.int p0), .val (.int p1), .val (.int p2), .val (.int (p0 &&& (7 : Int32))), .val (.int (p1 &&& (255 : Int32))), .val (.ref r), .unset, .unset, .unset, .unset, .unset] [(.int (3 : Int32)), (.int (p1 &&& (255 : Int32))), (.int (3 : Int32)), (.ref r)])) rfl (by rw [hml]; rfl) (argsL := [(.int (p1 &&& (255 : Int32))), (.int (3 : Int32))]) (rest := [(.int (3 : Int32)), (.ref r)]) (lenOf pd_1 rfl) rfl (by show 2 * 0 + _ ≤ _; exact Nat.le_of_eq rfl) (hb hby at_54) (fun _ _ => ⟨rfl, e17, (by decide : 1 + 0 ≤ _), (by decide : 8 + 0 ≤ _)⟩)
  dsimp only [Pt.U, Pt.locs, Pt.cells, Pt.slots] at X19 l19 y19 z19 st19 hQ19
  subst l19 y19 z19
  obtain ⟨rfl, Nq19, eq19⟩ := hQ19
  have N19 := Fr.app N17 Nq19
  have e19 : T19.heap = h17 := eq19
  have R20 : ∀ zt, Steps p.tables e below (T19.setTop (mkF m 57 #[.val (.int p0), .val (.int p1), .val (.int p2), .val (.int (p0 &&& (7 : Int32))), .val (.int (p1 &&& (255 : Int32))), .val (.ref r), .unset, .unset, .unset, .unset, .unset] [(.int (own_bv (p1 &&& (255 : Int32)) (3 : Int32))), (.int (3 : Int32)), (.ref r)])) zt → Steps p.tables e below (s₁.setTop (entryFrame m #[(.int p0), (.int p1), (.int p2)] maxLocals)) zt := by
    intro zt zk
    refine R18 zt ?_
    show Steps p.tables e below (T17.setTop (mkF m 54 #[.val (.int p0), .val (.int p1), .val (.int p2), .val (.int (p0 &&& (7 : Int32))), .val (.int (p1 &&& (255 : Int32))), .val (.ref r), .unset, .unset, .unset, .unset, .unset] [(.int (3 : Int32)), (.int (p1 &&& (255 : Int32))), (.int (3 : Int32)), (.ref r)])) _
    refine st19 _ ?_
    exact zk
  obtain ⟨cl21, Ar21, Aq21, As21, An21, Ah21, Ag21⟩ := id V_r
  have hin21 : ¬ ((3 : Int32) < 0 ∨ cl21.slots.size ≤ ((3 : Int32)).toNatClampNeg) := inb_of As21 ⟨by decide, by decide⟩
  obtain ⟨T22, h22, X22, e22, W22, st22⟩ := stZ X19 hx hZ e19 Ar21 (j := (3 : Int32)) hin21 (g := (mkF m 57 #[.val (.int p0), .val (.int p1), .val (.int p2), .val (.int (p0 &&& (7 : Int32))), .val (.int (p1 &&& (255 : Int32))), .val (.ref r), .unset, .unset, .unset, .unset, .unset] [(.int (own_bv (p1 &&& (255 : Int32)) (3 : Int32))), (.int (3 : Int32)), (.ref r)])) rfl rfl (hb hby at_57)
  have N22 := Fr.snoc X22 N19 ge_r
  have Sz22 := Nat.le_trans Sz17 (Keep.of_wr W22).1
  have O := O.wr W22 ge_r
  have V_r : Arv Z h22 r k2 .boolean (8 : Int32) [(.int (nar .boolean (own_bv (p1 &&& (255 : Int32)) (0 : Int32)))), (.int (nar .boolean (own_bv (p1 &&& (255 : Int32)) (1 : Int32)))), (.int (nar .boolean (own_bv (p1 &&& (255 : Int32)) (2 : Int32)))), (.int (nar .boolean (own_bv (p1 &&& (255 : Int32)) (3 : Int32)))), (.int (0 : Int32)), (.int (0 : Int32)), (.int (0 : Int32)), (.int (0 : Int32))] (.int (0 : Int32)) := Arv.set Ar21 Aq21 As21 An21 Ah21 Ag21 (fits_nar_bool _) W22 3 rfl (Nat.le_of_ble_eq_true rfl)
  have R23 : ∀ zt, Steps p.tables e below (T22.setTop (mkF m 64 #[.val (.int p0), .val (.int p1), .val (.int p2), .val (.int (p0 &&& (7 : Int32))), .val (.int (p1 &&& (255 : Int32))), .val (.ref r), .unset, .unset, .unset, .unset, .unset] [(.int (4 : Int32)), (.int (p1 &&& (255 : Int32))), (.int (4 : Int32)), (.ref r)])) zt → Steps p.tables e below (s₁.setTop (entryFrame m #[(.int p0), (.int p1), (.int p2)] maxLocals)) zt := by
    intro zt zk
    refine R20 zt ?_
    show Steps p.tables e below (T19.setTop (mkF m 57 #[.val (.int p0), .val (.int p1), .val (.int p2), .val (.int (p0 &&& (7 : Int32))), .val (.int (p1 &&& (255 : Int32))), .val (.ref r), .unset, .unset, .unset, .unset, .unset] [(.int (own_bv (p1 &&& (255 : Int32)) (3 : Int32))), (.int (3 : Int32)), (.ref r)])) _
    refine st22 _ ?_
    show Steps p.tables e below (T22.setTop (mkF m 58 #[.val (.int p0), .val (.int p1), .val (.int p2), .val (.int (p0 &&& (7 : Int32))), .val (.int (p1 &&& (255 : Int32))), .val (.ref r), .unset, .unset, .unset, .unset, .unset] [])) _
    refine XS.aload X22.here hx rfl (hb hby at_58) rfl rfl ?_
    show Steps p.tables e below (T22.setTop (mkF m 60 #[.val (.int p0), .val (.int p1), .val (.int p2), .val (.int (p0 &&& (7 : Int32))), .val (.int (p1 &&& (255 : Int32))), .val (.ref r), .unset, .unset, .unset, .unset, .unset] [(.ref r)])) _
    refine XS.iconst X22.here hx rfl (hb hby at_60) ?_
    show Steps p.tables e below (T22.setTop (mkF m 61 #[.val (.int p0), .val (.int p1), .val (.int p2), .val (.int (p0 &&& (7 : Int32))), .val (.int (p1 &&& (255 : Int32))), .val (.ref r), .unset, .unset, .unset, .unset, .unset] [(.int (4 : Int32)), (.ref r)])) _
    refine XS.iload X22.here hx rfl (hb hby at_61) rfl ?_
    show Steps p.tables e below (T22.setTop (mkF m 63 #[.val (.int p0), .val (.int p1), .val (.int p2), .val (.int (p0 &&& (7 : Int32))), .val (.int (p1 &&& (255 : Int32))), .val (.ref r), .unset, .unset, .unset, .unset, .unset] [(.int (p1 &&& (255 : Int32))), (.int (4 : Int32)), (.ref r)])) _
    refine XS.iconst X22.here hx rfl (hb hby at_63) ?_
    exact zk
  obtain ⟨_, _, ⟨T24, L24, k24, n24⟩, -, X24, ⟨Lc24, hQ24, l24, y24, z24⟩, st24⟩ := Jvm.LawKit.callS X22 hx (y := (⟨"com/example/reset/reset/VariableDegreeInPinLaw", "bit", "(II)Z"⟩ : MethodName)) hown (mvT hZ (hw _ (List.mem_of_getElem? (i := 1) rfl))) (mvT hZ (hw _ (List.mem_of_getElem? (i := 2) rfl))) (mvT hZ (hw _ (List.mem_of_getElem? (i := 3) rfl))) (mvT hZ (hw _ (List.mem_of_getElem? (i := 4) rfl))) (by decide) (backOf (W := 2) (rm1 l Z a0 hw [] (p1 &&& (255 : Int32)) (4 : Int32) h22 n0 Sz22) hZ (hw _ (List.mem_of_getElem? (i := 4) rfl)) (hw _ (List.mem_of_getElem? (i := 3) rfl)) (by decide) (by decide)) (g := (mkF m 64 #[.val (.int p0), .val (.int p1), .val (.int p2), .val (.int (p0 &&& (7 : Int32))), .val (.int (p1 &&& (255 : Int32))), .val (.ref r), .unset, .unset, .unset, .unset, .unset] [(.int (4 : Int32)), (.int (p1 &&& (255 : Int32))), (.int (4 : Int32)), (.ref r)])) rfl (by rw [hml]; rfl) (argsL := [(.int (p1 &&& (255 : Int32))), (.int (4 : Int32))]) (rest := [(.int (4 : Int32)), (.ref r)]) (lenOf pd_1 rfl) rfl (by show 2 * 0 + _ ≤ _; exact Nat.le_of_eq rfl) (hb hby at_64) (fun _ _ => ⟨rfl, e22, (by decide : 1 + 0 ≤ _), (by decide : 8 + 0 ≤ _)⟩)
  dsimp only [Pt.U, Pt.locs, Pt.cells, Pt.slots] at X24 l24 y24 z24 st24 hQ24
  subst l24 y24 z24
  obtain ⟨rfl, Nq24, eq24⟩ := hQ24
  have N24 := Fr.app N22 Nq24
  have e24 : T24.heap = h22 := eq24
  have R25 : ∀ zt, Steps p.tables e below (T24.setTop (mkF m 67 #[.val (.int p0), .val (.int p1), .val (.int p2), .val (.int (p0 &&& (7 : Int32))), .val (.int (p1 &&& (255 : Int32))), .val (.ref r), .unset, .unset, .unset, .unset, .unset] [(.int (own_bv (p1 &&& (255 : Int32)) (4 : Int32))), (.int (4 : Int32)), (.ref r)])) zt → Steps p.tables e below (s₁.setTop (entryFrame m #[(.int p0), (.int p1), (.int p2)] maxLocals)) zt := by
    intro zt zk
    refine R23 zt ?_
    show Steps p.tables e below (T22.setTop (mkF m 64 #[.val (.int p0), .val (.int p1), .val (.int p2), .val (.int (p0 &&& (7 : Int32))), .val (.int (p1 &&& (255 : Int32))), .val (.ref r), .unset, .unset, .unset, .unset, .unset] [(.int (4 : Int32)), (.int (p1 &&& (255 : Int32))), (.int (4 : Int32)), (.ref r)])) _
    refine st24 _ ?_
    exact zk
  obtain ⟨cl26, Ar26, Aq26, As26, An26, Ah26, Ag26⟩ := id V_r
  have hin26 : ¬ ((4 : Int32) < 0 ∨ cl26.slots.size ≤ ((4 : Int32)).toNatClampNeg) := inb_of As26 ⟨by decide, by decide⟩
  obtain ⟨T27, h27, X27, e27, W27, st27⟩ := stZ X24 hx hZ e24 Ar26 (j := (4 : Int32)) hin26 (g := (mkF m 67 #[.val (.int p0), .val (.int p1), .val (.int p2), .val (.int (p0 &&& (7 : Int32))), .val (.int (p1 &&& (255 : Int32))), .val (.ref r), .unset, .unset, .unset, .unset, .unset] [(.int (own_bv (p1 &&& (255 : Int32)) (4 : Int32))), (.int (4 : Int32)), (.ref r)])) rfl rfl (hb hby at_67)
  have N27 := Fr.snoc X27 N24 ge_r
  have Sz27 := Nat.le_trans Sz22 (Keep.of_wr W27).1
  have O := O.wr W27 ge_r
  have V_r : Arv Z h27 r k2 .boolean (8 : Int32) [(.int (nar .boolean (own_bv (p1 &&& (255 : Int32)) (0 : Int32)))), (.int (nar .boolean (own_bv (p1 &&& (255 : Int32)) (1 : Int32)))), (.int (nar .boolean (own_bv (p1 &&& (255 : Int32)) (2 : Int32)))), (.int (nar .boolean (own_bv (p1 &&& (255 : Int32)) (3 : Int32)))), (.int (nar .boolean (own_bv (p1 &&& (255 : Int32)) (4 : Int32)))), (.int (0 : Int32)), (.int (0 : Int32)), (.int (0 : Int32))] (.int (0 : Int32)) := Arv.set Ar26 Aq26 As26 An26 Ah26 Ag26 (fits_nar_bool _) W27 4 rfl (Nat.le_of_ble_eq_true rfl)
  have R28 : ∀ zt, Steps p.tables e below (T27.setTop (mkF m 74 #[.val (.int p0), .val (.int p1), .val (.int p2), .val (.int (p0 &&& (7 : Int32))), .val (.int (p1 &&& (255 : Int32))), .val (.ref r), .unset, .unset, .unset, .unset, .unset] [(.int (5 : Int32)), (.int (p1 &&& (255 : Int32))), (.int (5 : Int32)), (.ref r)])) zt → Steps p.tables e below (s₁.setTop (entryFrame m #[(.int p0), (.int p1), (.int p2)] maxLocals)) zt := by
    intro zt zk
    refine R25 zt ?_
    show Steps p.tables e below (T24.setTop (mkF m 67 #[.val (.int p0), .val (.int p1), .val (.int p2), .val (.int (p0 &&& (7 : Int32))), .val (.int (p1 &&& (255 : Int32))), .val (.ref r), .unset, .unset, .unset, .unset, .unset] [(.int (own_bv (p1 &&& (255 : Int32)) (4 : Int32))), (.int (4 : Int32)), (.ref r)])) _
    refine st27 _ ?_
    show Steps p.tables e below (T27.setTop (mkF m 68 #[.val (.int p0), .val (.int p1), .val (.int p2), .val (.int (p0 &&& (7 : Int32))), .val (.int (p1 &&& (255 : Int32))), .val (.ref r), .unset, .unset, .unset, .unset, .unset] [])) _
    refine XS.aload X27.here hx rfl (hb hby at_68) rfl rfl ?_
    show Steps p.tables e below (T27.setTop (mkF m 70 #[.val (.int p0), .val (.int p1), .val (.int p2), .val (.int (p0 &&& (7 : Int32))), .val (.int (p1 &&& (255 : Int32))), .val (.ref r), .unset, .unset, .unset, .unset, .unset] [(.ref r)])) _
    refine XS.iconst X27.here hx rfl (hb hby at_70) ?_
    show Steps p.tables e below (T27.setTop (mkF m 71 #[.val (.int p0), .val (.int p1), .val (.int p2), .val (.int (p0 &&& (7 : Int32))), .val (.int (p1 &&& (255 : Int32))), .val (.ref r), .unset, .unset, .unset, .unset, .unset] [(.int (5 : Int32)), (.ref r)])) _
    refine XS.iload X27.here hx rfl (hb hby at_71) rfl ?_
    show Steps p.tables e below (T27.setTop (mkF m 73 #[.val (.int p0), .val (.int p1), .val (.int p2), .val (.int (p0 &&& (7 : Int32))), .val (.int (p1 &&& (255 : Int32))), .val (.ref r), .unset, .unset, .unset, .unset, .unset] [(.int (p1 &&& (255 : Int32))), (.int (5 : Int32)), (.ref r)])) _
    refine XS.iconst X27.here hx rfl (hb hby at_73) ?_
    exact zk
  obtain ⟨_, _, ⟨T29, L29, k29, n29⟩, -, X29, ⟨Lc29, hQ29, l29, y29, z29⟩, st29⟩ := Jvm.LawKit.callS X27 hx (y := (⟨"com/example/reset/reset/VariableDegreeInPinLaw", "bit", "(II)Z"⟩ : MethodName)) hown (mvT hZ (hw _ (List.mem_of_getElem? (i := 1) rfl))) (mvT hZ (hw _ (List.mem_of_getElem? (i := 2) rfl))) (mvT hZ (hw _ (List.mem_of_getElem? (i := 3) rfl))) (mvT hZ (hw _ (List.mem_of_getElem? (i := 4) rfl))) (by decide) (backOf (W := 2) (rm1 l Z a0 hw [] (p1 &&& (255 : Int32)) (5 : Int32) h27 n0 Sz27) hZ (hw _ (List.mem_of_getElem? (i := 4) rfl)) (hw _ (List.mem_of_getElem? (i := 3) rfl)) (by decide) (by decide)) (g := (mkF m 74 #[.val (.int p0), .val (.int p1), .val (.int p2), .val (.int (p0 &&& (7 : Int32))), .val (.int (p1 &&& (255 : Int32))), .val (.ref r), .unset, .unset, .unset, .unset, .unset] [(.int (5 : Int32)), (.int (p1 &&& (255 : Int32))), (.int (5 : Int32)), (.ref r)])) rfl (by rw [hml]; rfl) (argsL := [(.int (p1 &&& (255 : Int32))), (.int (5 : Int32))]) (rest := [(.int (5 : Int32)), (.ref r)]) (lenOf pd_1 rfl) rfl (by show 2 * 0 + _ ≤ _; exact Nat.le_of_eq rfl) (hb hby at_74) (fun _ _ => ⟨rfl, e27, (by decide : 1 + 0 ≤ _), (by decide : 8 + 0 ≤ _)⟩)
  dsimp only [Pt.U, Pt.locs, Pt.cells, Pt.slots] at X29 l29 y29 z29 st29 hQ29
  subst l29 y29 z29
  obtain ⟨rfl, Nq29, eq29⟩ := hQ29
  have N29 := Fr.app N27 Nq29
  have e29 : T29.heap = h27 := eq29
  have R30 : ∀ zt, Steps p.tables e below (T29.setTop (mkF m 77 #[.val (.int p0), .val (.int p1), .val (.int p2), .val (.int (p0 &&& (7 : Int32))), .val (.int (p1 &&& (255 : Int32))), .val (.ref r), .unset, .unset, .unset, .unset, .unset] [(.int (own_bv (p1 &&& (255 : Int32)) (5 : Int32))), (.int (5 : Int32)), (.ref r)])) zt → Steps p.tables e below (s₁.setTop (entryFrame m #[(.int p0), (.int p1), (.int p2)] maxLocals)) zt := by
    intro zt zk
    refine R28 zt ?_
    show Steps p.tables e below (T27.setTop (mkF m 74 #[.val (.int p0), .val (.int p1), .val (.int p2), .val (.int (p0 &&& (7 : Int32))), .val (.int (p1 &&& (255 : Int32))), .val (.ref r), .unset, .unset, .unset, .unset, .unset] [(.int (5 : Int32)), (.int (p1 &&& (255 : Int32))), (.int (5 : Int32)), (.ref r)])) _
    refine st29 _ ?_
    exact zk
  obtain ⟨cl31, Ar31, Aq31, As31, An31, Ah31, Ag31⟩ := id V_r
  have hin31 : ¬ ((5 : Int32) < 0 ∨ cl31.slots.size ≤ ((5 : Int32)).toNatClampNeg) := inb_of As31 ⟨by decide, by decide⟩
  obtain ⟨T32, h32, X32, e32, W32, st32⟩ := stZ X29 hx hZ e29 Ar31 (j := (5 : Int32)) hin31 (g := (mkF m 77 #[.val (.int p0), .val (.int p1), .val (.int p2), .val (.int (p0 &&& (7 : Int32))), .val (.int (p1 &&& (255 : Int32))), .val (.ref r), .unset, .unset, .unset, .unset, .unset] [(.int (own_bv (p1 &&& (255 : Int32)) (5 : Int32))), (.int (5 : Int32)), (.ref r)])) rfl rfl (hb hby at_77)
  have N32 := Fr.snoc X32 N29 ge_r
  have Sz32 := Nat.le_trans Sz27 (Keep.of_wr W32).1
  have O := O.wr W32 ge_r
  have V_r : Arv Z h32 r k2 .boolean (8 : Int32) [(.int (nar .boolean (own_bv (p1 &&& (255 : Int32)) (0 : Int32)))), (.int (nar .boolean (own_bv (p1 &&& (255 : Int32)) (1 : Int32)))), (.int (nar .boolean (own_bv (p1 &&& (255 : Int32)) (2 : Int32)))), (.int (nar .boolean (own_bv (p1 &&& (255 : Int32)) (3 : Int32)))), (.int (nar .boolean (own_bv (p1 &&& (255 : Int32)) (4 : Int32)))), (.int (nar .boolean (own_bv (p1 &&& (255 : Int32)) (5 : Int32)))), (.int (0 : Int32)), (.int (0 : Int32))] (.int (0 : Int32)) := Arv.set Ar31 Aq31 As31 An31 Ah31 Ag31 (fits_nar_bool _) W32 5 rfl (Nat.le_of_ble_eq_true rfl)
  have R33 : ∀ zt, Steps p.tables e below (T32.setTop (mkF m 86 #[.val (.int p0), .val (.int p1), .val (.int p2), .val (.int (p0 &&& (7 : Int32))), .val (.int (p1 &&& (255 : Int32))), .val (.ref r), .unset, .unset, .unset, .unset, .unset] [(.int (6 : Int32)), (.int (p1 &&& (255 : Int32))), (.int (6 : Int32)), (.ref r)])) zt → Steps p.tables e below (s₁.setTop (entryFrame m #[(.int p0), (.int p1), (.int p2)] maxLocals)) zt := by
    intro zt zk
    refine R30 zt ?_
    show Steps p.tables e below (T29.setTop (mkF m 77 #[.val (.int p0), .val (.int p1), .val (.int p2), .val (.int (p0 &&& (7 : Int32))), .val (.int (p1 &&& (255 : Int32))), .val (.ref r), .unset, .unset, .unset, .unset, .unset] [(.int (own_bv (p1 &&& (255 : Int32)) (5 : Int32))), (.int (5 : Int32)), (.ref r)])) _
    refine st32 _ ?_
    show Steps p.tables e below (T32.setTop (mkF m 78 #[.val (.int p0), .val (.int p1), .val (.int p2), .val (.int (p0 &&& (7 : Int32))), .val (.int (p1 &&& (255 : Int32))), .val (.ref r), .unset, .unset, .unset, .unset, .unset] [])) _
    refine XS.aload X32.here hx rfl (hb hby at_78) rfl rfl ?_
    show Steps p.tables e below (T32.setTop (mkF m 80 #[.val (.int p0), .val (.int p1), .val (.int p2), .val (.int (p0 &&& (7 : Int32))), .val (.int (p1 &&& (255 : Int32))), .val (.ref r), .unset, .unset, .unset, .unset, .unset] [(.ref r)])) _
    refine XS.bipush X32.here hx rfl (hb hby at_80) ?_
    show Steps p.tables e below (T32.setTop (mkF m 82 #[.val (.int p0), .val (.int p1), .val (.int p2), .val (.int (p0 &&& (7 : Int32))), .val (.int (p1 &&& (255 : Int32))), .val (.ref r), .unset, .unset, .unset, .unset, .unset] [(.int (6 : Int32)), (.ref r)])) _
    refine XS.iload X32.here hx rfl (hb hby at_82) rfl ?_
    show Steps p.tables e below (T32.setTop (mkF m 84 #[.val (.int p0), .val (.int p1), .val (.int p2), .val (.int (p0 &&& (7 : Int32))), .val (.int (p1 &&& (255 : Int32))), .val (.ref r), .unset, .unset, .unset, .unset, .unset] [(.int (p1 &&& (255 : Int32))), (.int (6 : Int32)), (.ref r)])) _
    refine XS.bipush X32.here hx rfl (hb hby at_84) ?_
    exact zk
  obtain ⟨_, _, ⟨T34, L34, k34, n34⟩, -, X34, ⟨Lc34, hQ34, l34, y34, z34⟩, st34⟩ := Jvm.LawKit.callS X32 hx (y := (⟨"com/example/reset/reset/VariableDegreeInPinLaw", "bit", "(II)Z"⟩ : MethodName)) hown (mvT hZ (hw _ (List.mem_of_getElem? (i := 1) rfl))) (mvT hZ (hw _ (List.mem_of_getElem? (i := 2) rfl))) (mvT hZ (hw _ (List.mem_of_getElem? (i := 3) rfl))) (mvT hZ (hw _ (List.mem_of_getElem? (i := 4) rfl))) (by decide) (backOf (W := 2) (rm1 l Z a0 hw [] (p1 &&& (255 : Int32)) (6 : Int32) h32 n0 Sz32) hZ (hw _ (List.mem_of_getElem? (i := 4) rfl)) (hw _ (List.mem_of_getElem? (i := 3) rfl)) (by decide) (by decide)) (g := (mkF m 86 #[.val (.int p0), .val (.int p1), .val (.int p2), .val (.int (p0 &&& (7 : Int32))), .val (.int (p1 &&& (255 : Int32))), .val (.ref r), .unset, .unset, .unset, .unset, .unset] [(.int (6 : Int32)), (.int (p1 &&& (255 : Int32))), (.int (6 : Int32)), (.ref r)])) rfl (by rw [hml]; rfl) (argsL := [(.int (p1 &&& (255 : Int32))), (.int (6 : Int32))]) (rest := [(.int (6 : Int32)), (.ref r)]) (lenOf pd_1 rfl) rfl (by show 2 * 0 + _ ≤ _; exact Nat.le_of_eq rfl) (hb hby at_86) (fun _ _ => ⟨rfl, e32, (by decide : 1 + 0 ≤ _), (by decide : 8 + 0 ≤ _)⟩)
  dsimp only [Pt.U, Pt.locs, Pt.cells, Pt.slots] at X34 l34 y34 z34 st34 hQ34
  subst l34 y34 z34
  obtain ⟨rfl, Nq34, eq34⟩ := hQ34
  have N34 := Fr.app N32 Nq34
  have e34 : T34.heap = h32 := eq34
  have R35 : ∀ zt, Steps p.tables e below (T34.setTop (mkF m 89 #[.val (.int p0), .val (.int p1), .val (.int p2), .val (.int (p0 &&& (7 : Int32))), .val (.int (p1 &&& (255 : Int32))), .val (.ref r), .unset, .unset, .unset, .unset, .unset] [(.int (own_bv (p1 &&& (255 : Int32)) (6 : Int32))), (.int (6 : Int32)), (.ref r)])) zt → Steps p.tables e below (s₁.setTop (entryFrame m #[(.int p0), (.int p1), (.int p2)] maxLocals)) zt := by
    intro zt zk
    refine R33 zt ?_
    show Steps p.tables e below (T32.setTop (mkF m 86 #[.val (.int p0), .val (.int p1), .val (.int p2), .val (.int (p0 &&& (7 : Int32))), .val (.int (p1 &&& (255 : Int32))), .val (.ref r), .unset, .unset, .unset, .unset, .unset] [(.int (6 : Int32)), (.int (p1 &&& (255 : Int32))), (.int (6 : Int32)), (.ref r)])) _
    refine st34 _ ?_
    exact zk
  obtain ⟨cl36, Ar36, Aq36, As36, An36, Ah36, Ag36⟩ := id V_r
  have hin36 : ¬ ((6 : Int32) < 0 ∨ cl36.slots.size ≤ ((6 : Int32)).toNatClampNeg) := inb_of As36 ⟨by decide, by decide⟩
  obtain ⟨T37, h37, X37, e37, W37, st37⟩ := stZ X34 hx hZ e34 Ar36 (j := (6 : Int32)) hin36 (g := (mkF m 89 #[.val (.int p0), .val (.int p1), .val (.int p2), .val (.int (p0 &&& (7 : Int32))), .val (.int (p1 &&& (255 : Int32))), .val (.ref r), .unset, .unset, .unset, .unset, .unset] [(.int (own_bv (p1 &&& (255 : Int32)) (6 : Int32))), (.int (6 : Int32)), (.ref r)])) rfl rfl (hb hby at_89)
  have N37 := Fr.snoc X37 N34 ge_r
  have Sz37 := Nat.le_trans Sz32 (Keep.of_wr W37).1
  have O := O.wr W37 ge_r
  have V_r : Arv Z h37 r k2 .boolean (8 : Int32) [(.int (nar .boolean (own_bv (p1 &&& (255 : Int32)) (0 : Int32)))), (.int (nar .boolean (own_bv (p1 &&& (255 : Int32)) (1 : Int32)))), (.int (nar .boolean (own_bv (p1 &&& (255 : Int32)) (2 : Int32)))), (.int (nar .boolean (own_bv (p1 &&& (255 : Int32)) (3 : Int32)))), (.int (nar .boolean (own_bv (p1 &&& (255 : Int32)) (4 : Int32)))), (.int (nar .boolean (own_bv (p1 &&& (255 : Int32)) (5 : Int32)))), (.int (nar .boolean (own_bv (p1 &&& (255 : Int32)) (6 : Int32)))), (.int (0 : Int32))] (.int (0 : Int32)) := Arv.set Ar36 Aq36 As36 An36 Ah36 Ag36 (fits_nar_bool _) W37 6 rfl (Nat.le_of_ble_eq_true rfl)
  have R38 : ∀ zt, Steps p.tables e below (T37.setTop (mkF m 98 #[.val (.int p0), .val (.int p1), .val (.int p2), .val (.int (p0 &&& (7 : Int32))), .val (.int (p1 &&& (255 : Int32))), .val (.ref r), .unset, .unset, .unset, .unset, .unset] [(.int (7 : Int32)), (.int (p1 &&& (255 : Int32))), (.int (7 : Int32)), (.ref r)])) zt → Steps p.tables e below (s₁.setTop (entryFrame m #[(.int p0), (.int p1), (.int p2)] maxLocals)) zt := by
    intro zt zk
    refine R35 zt ?_
    show Steps p.tables e below (T34.setTop (mkF m 89 #[.val (.int p0), .val (.int p1), .val (.int p2), .val (.int (p0 &&& (7 : Int32))), .val (.int (p1 &&& (255 : Int32))), .val (.ref r), .unset, .unset, .unset, .unset, .unset] [(.int (own_bv (p1 &&& (255 : Int32)) (6 : Int32))), (.int (6 : Int32)), (.ref r)])) _
    refine st37 _ ?_
    show Steps p.tables e below (T37.setTop (mkF m 90 #[.val (.int p0), .val (.int p1), .val (.int p2), .val (.int (p0 &&& (7 : Int32))), .val (.int (p1 &&& (255 : Int32))), .val (.ref r), .unset, .unset, .unset, .unset, .unset] [])) _
    refine XS.aload X37.here hx rfl (hb hby at_90) rfl rfl ?_
    show Steps p.tables e below (T37.setTop (mkF m 92 #[.val (.int p0), .val (.int p1), .val (.int p2), .val (.int (p0 &&& (7 : Int32))), .val (.int (p1 &&& (255 : Int32))), .val (.ref r), .unset, .unset, .unset, .unset, .unset] [(.ref r)])) _
    refine XS.bipush X37.here hx rfl (hb hby at_92) ?_
    show Steps p.tables e below (T37.setTop (mkF m 94 #[.val (.int p0), .val (.int p1), .val (.int p2), .val (.int (p0 &&& (7 : Int32))), .val (.int (p1 &&& (255 : Int32))), .val (.ref r), .unset, .unset, .unset, .unset, .unset] [(.int (7 : Int32)), (.ref r)])) _
    refine XS.iload X37.here hx rfl (hb hby at_94) rfl ?_
    show Steps p.tables e below (T37.setTop (mkF m 96 #[.val (.int p0), .val (.int p1), .val (.int p2), .val (.int (p0 &&& (7 : Int32))), .val (.int (p1 &&& (255 : Int32))), .val (.ref r), .unset, .unset, .unset, .unset, .unset] [(.int (p1 &&& (255 : Int32))), (.int (7 : Int32)), (.ref r)])) _
    refine XS.bipush X37.here hx rfl (hb hby at_96) ?_
    exact zk
  obtain ⟨_, _, ⟨T39, L39, k39, n39⟩, -, X39, ⟨Lc39, hQ39, l39, y39, z39⟩, st39⟩ := Jvm.LawKit.callS X37 hx (y := (⟨"com/example/reset/reset/VariableDegreeInPinLaw", "bit", "(II)Z"⟩ : MethodName)) hown (mvT hZ (hw _ (List.mem_of_getElem? (i := 1) rfl))) (mvT hZ (hw _ (List.mem_of_getElem? (i := 2) rfl))) (mvT hZ (hw _ (List.mem_of_getElem? (i := 3) rfl))) (mvT hZ (hw _ (List.mem_of_getElem? (i := 4) rfl))) (by decide) (backOf (W := 2) (rm1 l Z a0 hw [] (p1 &&& (255 : Int32)) (7 : Int32) h37 n0 Sz37) hZ (hw _ (List.mem_of_getElem? (i := 4) rfl)) (hw _ (List.mem_of_getElem? (i := 3) rfl)) (by decide) (by decide)) (g := (mkF m 98 #[.val (.int p0), .val (.int p1), .val (.int p2), .val (.int (p0 &&& (7 : Int32))), .val (.int (p1 &&& (255 : Int32))), .val (.ref r), .unset, .unset, .unset, .unset, .unset] [(.int (7 : Int32)), (.int (p1 &&& (255 : Int32))), (.int (7 : Int32)), (.ref r)])) rfl (by rw [hml]; rfl) (argsL := [(.int (p1 &&& (255 : Int32))), (.int (7 : Int32))]) (rest := [(.int (7 : Int32)), (.ref r)]) (lenOf pd_1 rfl) rfl (by show 2 * 0 + _ ≤ _; exact Nat.le_of_eq rfl) (hb hby at_98) (fun _ _ => ⟨rfl, e37, (by decide : 1 + 0 ≤ _), (by decide : 8 + 0 ≤ _)⟩)
  dsimp only [Pt.U, Pt.locs, Pt.cells, Pt.slots] at X39 l39 y39 z39 st39 hQ39
  subst l39 y39 z39
  obtain ⟨rfl, Nq39, eq39⟩ := hQ39
  have N39 := Fr.app N37 Nq39
  have e39 : T39.heap = h37 := eq39
  have R40 : ∀ zt, Steps p.tables e below (T39.setTop (mkF m 101 #[.val (.int p0), .val (.int p1), .val (.int p2), .val (.int (p0 &&& (7 : Int32))), .val (.int (p1 &&& (255 : Int32))), .val (.ref r), .unset, .unset, .unset, .unset, .unset] [(.int (own_bv (p1 &&& (255 : Int32)) (7 : Int32))), (.int (7 : Int32)), (.ref r)])) zt → Steps p.tables e below (s₁.setTop (entryFrame m #[(.int p0), (.int p1), (.int p2)] maxLocals)) zt := by
    intro zt zk
    refine R38 zt ?_
    show Steps p.tables e below (T37.setTop (mkF m 98 #[.val (.int p0), .val (.int p1), .val (.int p2), .val (.int (p0 &&& (7 : Int32))), .val (.int (p1 &&& (255 : Int32))), .val (.ref r), .unset, .unset, .unset, .unset, .unset] [(.int (7 : Int32)), (.int (p1 &&& (255 : Int32))), (.int (7 : Int32)), (.ref r)])) _
    refine st39 _ ?_
    exact zk
  obtain ⟨cl41, Ar41, Aq41, As41, An41, Ah41, Ag41⟩ := id V_r
  have hin41 : ¬ ((7 : Int32) < 0 ∨ cl41.slots.size ≤ ((7 : Int32)).toNatClampNeg) := inb_of As41 ⟨by decide, by decide⟩
  obtain ⟨T42, h42, X42, e42, W42, st42⟩ := stZ X39 hx hZ e39 Ar41 (j := (7 : Int32)) hin41 (g := (mkF m 101 #[.val (.int p0), .val (.int p1), .val (.int p2), .val (.int (p0 &&& (7 : Int32))), .val (.int (p1 &&& (255 : Int32))), .val (.ref r), .unset, .unset, .unset, .unset, .unset] [(.int (own_bv (p1 &&& (255 : Int32)) (7 : Int32))), (.int (7 : Int32)), (.ref r)])) rfl rfl (hb hby at_101)
  have N42 := Fr.snoc X42 N39 ge_r
  have Sz42 := Nat.le_trans Sz37 (Keep.of_wr W42).1
  have O := O.wr W42 ge_r
  have V_r : Arv Z h42 r k2 .boolean (8 : Int32) [(.int (nar .boolean (own_bv (p1 &&& (255 : Int32)) (0 : Int32)))), (.int (nar .boolean (own_bv (p1 &&& (255 : Int32)) (1 : Int32)))), (.int (nar .boolean (own_bv (p1 &&& (255 : Int32)) (2 : Int32)))), (.int (nar .boolean (own_bv (p1 &&& (255 : Int32)) (3 : Int32)))), (.int (nar .boolean (own_bv (p1 &&& (255 : Int32)) (4 : Int32)))), (.int (nar .boolean (own_bv (p1 &&& (255 : Int32)) (5 : Int32)))), (.int (nar .boolean (own_bv (p1 &&& (255 : Int32)) (6 : Int32)))), (.int (nar .boolean (own_bv (p1 &&& (255 : Int32)) (7 : Int32))))] (.int (0 : Int32)) := Arv.set Ar41 Aq41 As41 An41 Ah41 Ag41 (fits_nar_bool _) W42 7 rfl (Nat.le_of_ble_eq_true rfl)
  have R43 : ∀ zt, Steps p.tables e below (T42.setTop (mkF m 103 #[.val (.int p0), .val (.int p1), .val (.int p2), .val (.int (p0 &&& (7 : Int32))), .val (.int (p1 &&& (255 : Int32))), .val (.ref r), .unset, .unset, .unset, .unset, .unset] [(.int (1 : Int32))])) zt → Steps p.tables e below (s₁.setTop (entryFrame m #[(.int p0), (.int p1), (.int p2)] maxLocals)) zt := by
    intro zt zk
    refine R40 zt ?_
    show Steps p.tables e below (T39.setTop (mkF m 101 #[.val (.int p0), .val (.int p1), .val (.int p2), .val (.int (p0 &&& (7 : Int32))), .val (.int (p1 &&& (255 : Int32))), .val (.ref r), .unset, .unset, .unset, .unset, .unset] [(.int (own_bv (p1 &&& (255 : Int32)) (7 : Int32))), (.int (7 : Int32)), (.ref r)])) _
    refine st42 _ ?_
    show Steps p.tables e below (T42.setTop (mkF m 102 #[.val (.int p0), .val (.int p1), .val (.int p2), .val (.int (p0 &&& (7 : Int32))), .val (.int (p1 &&& (255 : Int32))), .val (.ref r), .unset, .unset, .unset, .unset, .unset] [])) _
    refine XS.iconst X42.here hx rfl (hb hby at_102) ?_
    exact zk
  simp only [own_nb] at V_r
  obtain ⟨T44, h44, k44, X44, e44, E44, A44, st44⟩ := newP X42 hx hZ (hw _ (List.mem_of_getElem? (i := 5) rfl)) e42 (g := (mkF m 103 #[.val (.int p0), .val (.int p1), .val (.int p2), .val (.int (p0 &&& (7 : Int32))), .val (.int (p1 &&& (255 : Int32))), .val (.ref r), .unset, .unset, .unset, .unset, .unset] [(.int (1 : Int32))])) rfl (hb hby at_103) rfl (by decide) (cap := 1) (by decide) (by decide) (by decide) (by decide)
  obtain ⟨q, g44⟩ : ∃ z, z = h42.size := ⟨_, rfl⟩
  rw [← g44] at A44 st44
  have ge_q : n0 ≤ q := by rw [g44]; exact Sz42
  have Sz44 := Nat.le_trans Sz42 E44.1
  have ne_r_q : r ≠ q := Nat.ne_of_lt (Nat.lt_of_lt_of_le V_r.lt (Nat.le_of_eq g44.symm))
  have O := O.ext E44
  have V_r := V_r.ext E44
  have V_q : Arv Z h44 q k44 .char (1 : Int32) [(.int (0 : Int32))] (.int (0 : Int32)) := (Arv.new A44 (by decide)).pad (pad_rep [] (.int (0 : Int32)) 1)
  have R45 : ∀ zt, Steps p.tables e below (T44.setTop (mkF m 116 #[.val (.int p0), .val (.int p1), .val (.int p2), .val (.int (p0 &&& (7 : Int32))), .val (.int (p1 &&& (255 : Int32))), .val (.ref r), .val (.ref q), .unset, .unset, .unset, .unset] [(.int (((p2 &&& (255 : Int32))).toUInt32.toUInt16.toUInt32.toInt32)), (.int (0 : Int32)), (.ref q)])) zt → Steps p.tables e below (s₁.setTop (entryFrame m #[(.int p0), (.int p1), (.int p2)] maxLocals)) zt := by
    intro zt zk
    refine R43 zt ?_
    show Steps p.tables e below (T42.setTop (mkF m 103 #[.val (.int p0), .val (.int p1), .val (.int p2), .val (.int (p0 &&& (7 : Int32))), .val (.int (p1 &&& (255 : Int32))), .val (.ref r), .unset, .unset, .unset, .unset, .unset] [(.int (1 : Int32))])) _
    refine st44 _ ?_
    show Steps p.tables e below (T44.setTop (mkF m 105 #[.val (.int p0), .val (.int p1), .val (.int p2), .val (.int (p0 &&& (7 : Int32))), .val (.int (p1 &&& (255 : Int32))), .val (.ref r), .unset, .unset, .unset, .unset, .unset] [(.ref q)])) _
    refine XS.astore X44.here hx rfl (hb hby at_105) rfl rfl (l' := #[.val (.int p0), .val (.int p1), .val (.int p2), .val (.int (p0 &&& (7 : Int32))), .val (.int (p1 &&& (255 : Int32))), .val (.ref r), .val (.ref q), .unset, .unset, .unset, .unset]) rfl ?_
    show Steps p.tables e below (T44.setTop (mkF m 107 #[.val (.int p0), .val (.int p1), .val (.int p2), .val (.int (p0 &&& (7 : Int32))), .val (.int (p1 &&& (255 : Int32))), .val (.ref r), .val (.ref q), .unset, .unset, .unset, .unset] [])) _
    refine XS.aload X44.here hx rfl (hb hby at_107) rfl rfl ?_
    show Steps p.tables e below (T44.setTop (mkF m 109 #[.val (.int p0), .val (.int p1), .val (.int p2), .val (.int (p0 &&& (7 : Int32))), .val (.int (p1 &&& (255 : Int32))), .val (.ref r), .val (.ref q), .unset, .unset, .unset, .unset] [(.ref q)])) _
    refine XS.iconst X44.here hx rfl (hb hby at_109) ?_
    show Steps p.tables e below (T44.setTop (mkF m 110 #[.val (.int p0), .val (.int p1), .val (.int p2), .val (.int (p0 &&& (7 : Int32))), .val (.int (p1 &&& (255 : Int32))), .val (.ref r), .val (.ref q), .unset, .unset, .unset, .unset] [(.int (0 : Int32)), (.ref q)])) _
    refine XS.iloadN X44.here hx rfl (hb hby at_110) rfl ?_
    show Steps p.tables e below (T44.setTop (mkF m 111 #[.val (.int p0), .val (.int p1), .val (.int p2), .val (.int (p0 &&& (7 : Int32))), .val (.int (p1 &&& (255 : Int32))), .val (.ref r), .val (.ref q), .unset, .unset, .unset, .unset] [(.int p2), (.int (0 : Int32)), (.ref q)])) _
    refine XS.sipush X44.here hx rfl (hb hby at_111) ?_
    show Steps p.tables e below (T44.setTop (mkF m 114 #[.val (.int p0), .val (.int p1), .val (.int p2), .val (.int (p0 &&& (7 : Int32))), .val (.int (p1 &&& (255 : Int32))), .val (.ref r), .val (.ref q), .unset, .unset, .unset, .unset] [(.int (255 : Int32)), (.int p2), (.int (0 : Int32)), (.ref q)])) _
    refine XS.iand X44.here hx rfl (hb hby at_114) rfl ?_
    show Steps p.tables e below (T44.setTop (mkF m 115 #[.val (.int p0), .val (.int p1), .val (.int p2), .val (.int (p0 &&& (7 : Int32))), .val (.int (p1 &&& (255 : Int32))), .val (.ref r), .val (.ref q), .unset, .unset, .unset, .unset] [(.int (p2 &&& (255 : Int32))), (.int (0 : Int32)), (.ref q)])) _
    refine XS.i2c X44.here hx rfl (hb hby at_115) rfl ?_
    exact zk
  obtain ⟨cl46, Ar46, Aq46, As46, An46, Ah46, Ag46⟩ := id V_q
  have hin46 : ¬ ((0 : Int32) < 0 ∨ cl46.slots.size ≤ ((0 : Int32)).toNatClampNeg) := inb_of As46 ⟨by decide, by decide⟩
  obtain ⟨T47, h47, X47, e47, W47, st47⟩ := stC X44 hx hZ e44 Ar46 (j := (0 : Int32)) hin46 (g := (mkF m 116 #[.val (.int p0), .val (.int p1), .val (.int p2), .val (.int (p0 &&& (7 : Int32))), .val (.int (p1 &&& (255 : Int32))), .val (.ref r), .val (.ref q), .unset, .unset, .unset, .unset] [(.int (((p2 &&& (255 : Int32))).toUInt32.toUInt16.toUInt32.toInt32)), (.int (0 : Int32)), (.ref q)])) rfl rfl (hb hby at_116)
  have N47 := Fr.snoc X47 N42 ge_q
  have Sz47 := Nat.le_trans Sz44 (Keep.of_wr W47).1
  have O := O.wr W47 ge_q
  have V_r := V_r.other W47 ne_r_q
  have V_q : Arv Z h47 q k44 .char (1 : Int32) [(.int (nar .char (((p2 &&& (255 : Int32))).toUInt32.toUInt16.toUInt32.toInt32)))] (.int (0 : Int32)) := Arv.set Ar46 Aq46 As46 An46 Ah46 Ag46 (fits_nar_char _) W47 0 rfl (Nat.le_of_ble_eq_true rfl)
  have R48 : ∀ zt, Steps p.tables e below (T47.setTop (mkF m 117 #[.val (.int p0), .val (.int p1), .val (.int p2), .val (.int (p0 &&& (7 : Int32))), .val (.int (p1 &&& (255 : Int32))), .val (.ref r), .val (.ref q), .unset, .unset, .unset, .unset] [])) zt → Steps p.tables e below (s₁.setTop (entryFrame m #[(.int p0), (.int p1), (.int p2)] maxLocals)) zt := by
    intro zt zk
    refine R45 zt ?_
    show Steps p.tables e below (T44.setTop (mkF m 116 #[.val (.int p0), .val (.int p1), .val (.int p2), .val (.int (p0 &&& (7 : Int32))), .val (.int (p1 &&& (255 : Int32))), .val (.ref r), .val (.ref q), .unset, .unset, .unset, .unset] [(.int (((p2 &&& (255 : Int32))).toUInt32.toUInt16.toUInt32.toInt32)), (.int (0 : Int32)), (.ref q)])) _
    refine st47 _ ?_
    exact zk
  obtain ⟨T49, h49, X49, e49, E49, A49, D49, -, st49⟩ := newO X47 hx hZ hown (hw _ (List.mem_of_getElem? (i := 6) rfl)) (hw _ (List.mem_of_getElem? (i := 7) rfl)) (hw _ (List.mem_of_getElem? (i := 8) rfl)) e47 (g := (mkF m 117 #[.val (.int p0), .val (.int p1), .val (.int p2), .val (.int (p0 &&& (7 : Int32))), .val (.int (p1 &&& (255 : Int32))), .val (.ref r), .val (.ref q), .unset, .unset, .unset, .unset] [])) rfl (hb hby at_117) (by decide) (by decide)
  obtain ⟨t, g49⟩ : ∃ z, z = h47.size := ⟨_, rfl⟩
  rw [← g49] at A49 D49 st49
  have ge_t : n0 ≤ t := by rw [g49]; exact Sz47
  have Sz49 := Nat.le_trans Sz47 E49.1
  have ne_r_t : r ≠ t := Nat.ne_of_lt (Nat.lt_of_lt_of_le V_r.lt (Nat.le_of_eq g49.symm))
  have ne_q_t : q ≠ t := Nat.ne_of_lt (Nat.lt_of_lt_of_le V_q.lt (Nat.le_of_eq g49.symm))
  have O := O.ext E49
  have V_r := V_r.ext E49
  have V_q := V_q.ext E49
  have E_t := A49
  have F_coder_t : Fld Z h49 t "java/lang/String" "coder" "B" (.int (0 : Int32)) := D49 (Or.inr (hw _ (List.mem_of_getElem? (i := 32) rfl))) (ty := .byte) (by decide)
  have F_value_t : Fld Z h49 t "java/lang/String" "value" "[B" .null := D49 (Or.inr (hw _ (List.mem_of_getElem? (i := 34) rfl))) (ty := (.array .byte)) (by decide)
  have R50 : ∀ zt, Steps p.tables e below (T49.setTop (mkF m 123 #[.val (.int p0), .val (.int p1), .val (.int p2), .val (.int (p0 &&& (7 : Int32))), .val (.int (p1 &&& (255 : Int32))), .val (.ref r), .val (.ref q), .unset, .unset, .unset, .unset] [(.ref q), (.ref t), (.ref t)])) zt → Steps p.tables e below (s₁.setTop (entryFrame m #[(.int p0), (.int p1), (.int p2)] maxLocals)) zt := by
    intro zt zk
    refine R48 zt ?_
    show Steps p.tables e below (T47.setTop (mkF m 117 #[.val (.int p0), .val (.int p1), .val (.int p2), .val (.int (p0 &&& (7 : Int32))), .val (.int (p1 &&& (255 : Int32))), .val (.ref r), .val (.ref q), .unset, .unset, .unset, .unset] [])) _
    refine st49 _ ?_
    show Steps p.tables e below (T49.setTop (mkF m 120 #[.val (.int p0), .val (.int p1), .val (.int p2), .val (.int (p0 &&& (7 : Int32))), .val (.int (p1 &&& (255 : Int32))), .val (.ref r), .val (.ref q), .unset, .unset, .unset, .unset] [(.ref t)])) _
    refine XS.dup X49.here hx rfl (hb hby at_120) rfl rfl ?_
    show Steps p.tables e below (T49.setTop (mkF m 121 #[.val (.int p0), .val (.int p1), .val (.int p2), .val (.int (p0 &&& (7 : Int32))), .val (.int (p1 &&& (255 : Int32))), .val (.ref r), .val (.ref q), .unset, .unset, .unset, .unset] [(.ref t), (.ref t)])) _
    refine XS.aload X49.here hx rfl (hb hby at_121) rfl rfl ?_
    exact zk
  have hws : ∀ d ∈ StrChars.Road.words, d.before a0 Z = true := fun d hd => hw d ((by decide +kernel : ∀ d ∈ StrChars.Road.words, d ∈ tables_1) d hd)
  have hp51 : ∀ c ∈ ([nar .char ((p2 &&& (255 : Int32)).toUInt32.toUInt16.toUInt32.toInt32)] : List Int32), ¬ c < 0 ∧ ¬ (255 : Int32) < c := (own_all1 (own_ch p2))
  obtain ⟨_, _, ⟨T52, L52, k52, n52⟩, -, X52, ⟨Lc52, hQ52, l52, y52, z52⟩, st52⟩ := X49.specialBack hx (y := (⟨"java/lang/String", "<init>", "([C)V"⟩ : MethodName)) rfl hown (mvT hZ (hw _ (List.mem_of_getElem? (i := 9) rfl))) (mvT hZ (hw _ (List.mem_of_getElem? (i := 10) rfl))) (mvT hZ (hw _ (List.mem_of_getElem? (i := 11) rfl))) (by decide) (StrChars.Road.backV (W := 1) hZ hws (kI := 4) (hw _ (List.mem_of_getElem? (i := 7) rfl)) (cs := ([nar .char ((p2 &&& (255 : Int32)).toUInt32.toUInt16.toUInt32.toInt32)] : List Int32)) (bs := ([nar .char ((p2 &&& (255 : Int32)).toUInt32.toUInt16.toUInt32.toInt32)] : List Int32).map (fun c => c.toInt8.toInt32)) (n := 1) ge_t Sz49 E_t F_value_t F_coder_t V_q (SCS.ext O.2) P5 rfl rfl (by decide) (by decide) hp51 rfl (by decide) (by decide)) (g := (mkF m 123 #[.val (.int p0), .val (.int p1), .val (.int p2), .val (.int (p0 &&& (7 : Int32))), .val (.int (p1 &&& (255 : Int32))), .val (.ref r), .val (.ref q), .unset, .unset, .unset, .unset] [(.ref q), (.ref t), (.ref t)])) rfl (by rw [hml]; rfl) (Steps.refl _) (a := t) (argsL := [(.ref q)]) (rest := [(.ref t)]) (lenOf pd_2 rfl) rfl (by show 2 * 0 + _ ≤ _; exact Nat.le_of_eq rfl) (hb hby at_123) (fun _ _ => ⟨rfl, e49, (by decide : 3 + 1 ≤ _), (by decide : 13 + 1 ≤ _)⟩)
  dsimp only [Pt.U, Pt.locs, Pt.cells, Pt.slots] at X52 l52 y52 z52 st52 hQ52
  subst l52 y52 z52
  obtain ⟨rfl, Nq52, K52, E_t, F_coder_t, t_t, kb_t, tge_t, tsz_t, tne_t, F_value_t, V_t_t⟩ := hQ52
  have N52 := Fr.app N47 Nq52
  have Sz52 := Nat.le_trans Sz49 K52.1
  have O := O.keep K52 (allS ge_t all0)
  have V_r := V_r.keep K52 (ninS ne_r_t nin0)
  have V_q := V_q.keep K52 (ninS ne_q_t nin0)
  have R53 : ∀ zt, Steps p.tables e below (T52.setTop (mkF m 128 #[.val (.int p0), .val (.int p1), .val (.int p2), .val (.int (p0 &&& (7 : Int32))), .val (.int (p1 &&& (255 : Int32))), .val (.ref r), .val (.ref q), .val (.ref t), .unset, .unset, .unset] [])) zt → Steps p.tables e below (s₁.setTop (entryFrame m #[(.int p0), (.int p1), (.int p2)] maxLocals)) zt := by
    intro zt zk
    refine R50 zt ?_
    show Steps p.tables e below (T49.setTop (mkF m 123 #[.val (.int p0), .val (.int p1), .val (.int p2), .val (.int (p0 &&& (7 : Int32))), .val (.int (p1 &&& (255 : Int32))), .val (.ref r), .val (.ref q), .unset, .unset, .unset, .unset] [(.ref q), (.ref t), (.ref t)])) _
    refine st52.trans ?_
    show Steps p.tables e below (T52.setTop (mkF m 126 #[.val (.int p0), .val (.int p1), .val (.int p2), .val (.int (p0 &&& (7 : Int32))), .val (.int (p1 &&& (255 : Int32))), .val (.ref r), .val (.ref q), .unset, .unset, .unset, .unset] [(.ref t)])) _
    refine XS.astore X52.here hx rfl (hb hby at_126) rfl rfl (l' := #[.val (.int p0), .val (.int p1), .val (.int p2), .val (.int (p0 &&& (7 : Int32))), .val (.int (p1 &&& (255 : Int32))), .val (.ref r), .val (.ref q), .val (.ref t), .unset, .unset, .unset]) rfl ?_
    exact zk
  obtain ⟨T54, h54, X54, e54, E54, A54, D54, -, st54⟩ := newO X52 hx hZ hown (hw _ (List.mem_of_getElem? (i := 35) rfl)) (hw _ (List.mem_of_getElem? (i := 36) rfl)) (hw _ (List.mem_of_getElem? (i := 37) rfl)) rfl (g := (mkF m 128 #[.val (.int p0), .val (.int p1), .val (.int p2), .val (.int (p0 &&& (7 : Int32))), .val (.int (p1 &&& (255 : Int32))), .val (.ref r), .val (.ref q), .val (.ref t), .unset, .unset, .unset] [])) rfl (hb hby at_128) (by decide) (by decide)
  obtain ⟨b, g54⟩ : ∃ z, z = T52.heap.size := ⟨_, rfl⟩
  rw [← g54] at A54 D54 st54
  have ge_b : n0 ≤ b := by rw [g54]; exact Sz52
  have Sz54 := Nat.le_trans Sz52 E54.1
  have ne_r_b : r ≠ b := Nat.ne_of_lt (Nat.lt_of_lt_of_le V_r.lt (Nat.le_of_eq g54.symm))
  have ne_q_b : q ≠ b := Nat.ne_of_lt (Nat.lt_of_lt_of_le V_q.lt (Nat.le_of_eq g54.symm))
  have ne_t_b : t ≠ b := Nat.ne_of_lt (Nat.lt_of_lt_of_le E_t.lt (Nat.le_of_eq g54.symm))
  have O := O.ext E54
  have V_r := V_r.ext E54
  have V_q := V_q.ext E54
  have E_t := E_t.ext E54
  have F_coder_t := F_coder_t.ext E54
  have F_value_t := F_value_t.ext E54
  have E_b := A54
  have F_index_b : Fld Z h54 b "com/example/reset/reset/Expression$Variable" "index" "I" (.int (0 : Int32)) := D54 (Or.inr (hw _ (List.mem_of_getElem? (i := 48) rfl))) (ty := .int) (by decide)
  have F_name_b : Fld Z h54 b "com/example/reset/reset/Expression$Variable" "name" "Ljava/lang/String;" .null := D54 (Or.inr (hw _ (List.mem_of_getElem? (i := 50) rfl))) (ty := (.object "java/lang/String")) (by decide)
  have R55 : ∀ zt, Steps p.tables e below (T54.setTop (mkF m 135 #[.val (.int p0), .val (.int p1), .val (.int p2), .val (.int (p0 &&& (7 : Int32))), .val (.int (p1 &&& (255 : Int32))), .val (.ref r), .val (.ref q), .val (.ref t), .unset, .unset, .unset] [(.ref t), (.int (p0 &&& (7 : Int32))), (.ref b), (.ref b)])) zt → Steps p.tables e below (s₁.setTop (entryFrame m #[(.int p0), (.int p1), (.int p2)] maxLocals)) zt := by
    intro zt zk
    refine R53 zt ?_
    show Steps p.tables e below (T52.setTop (mkF m 128 #[.val (.int p0), .val (.int p1), .val (.int p2), .val (.int (p0 &&& (7 : Int32))), .val (.int (p1 &&& (255 : Int32))), .val (.ref r), .val (.ref q), .val (.ref t), .unset, .unset, .unset] [])) _
    refine st54 _ ?_
    show Steps p.tables e below (T54.setTop (mkF m 131 #[.val (.int p0), .val (.int p1), .val (.int p2), .val (.int (p0 &&& (7 : Int32))), .val (.int (p1 &&& (255 : Int32))), .val (.ref r), .val (.ref q), .val (.ref t), .unset, .unset, .unset] [(.ref b)])) _
    refine XS.dup X54.here hx rfl (hb hby at_131) rfl rfl ?_
    show Steps p.tables e below (T54.setTop (mkF m 132 #[.val (.int p0), .val (.int p1), .val (.int p2), .val (.int (p0 &&& (7 : Int32))), .val (.int (p1 &&& (255 : Int32))), .val (.ref r), .val (.ref q), .val (.ref t), .unset, .unset, .unset] [(.ref b), (.ref b)])) _
    refine XS.iloadN X54.here hx rfl (hb hby at_132) rfl ?_
    show Steps p.tables e below (T54.setTop (mkF m 133 #[.val (.int p0), .val (.int p1), .val (.int p2), .val (.int (p0 &&& (7 : Int32))), .val (.int (p1 &&& (255 : Int32))), .val (.ref r), .val (.ref q), .val (.ref t), .unset, .unset, .unset] [(.int (p0 &&& (7 : Int32))), (.ref b), (.ref b)])) _
    refine XS.aload X54.here hx rfl (hb hby at_133) rfl rfl ?_
    exact zk
  obtain ⟨_, _, ⟨T56, L56, k56, n56⟩, -, X56, ⟨Lc56, hQ56, l56, y56, z56⟩, st56⟩ := X54.specialBack hx (y := (⟨"com/example/reset/reset/Expression$Variable", "<init>", "(ILjava/lang/String;)V"⟩ : MethodName)) rfl hown (mvT hZ (hw _ (List.mem_of_getElem? (i := 38) rfl))) (mvT hZ (hw _ (List.mem_of_getElem? (i := 39) rfl))) (mvT hZ (hw _ (List.mem_of_getElem? (i := 40) rfl))) (by decide) (backOf (W := 1) (rm8 l Z a0 hw [] b (p0 &&& (7 : Int32)) t h54 n0 Sz54 E_b F_index_b F_name_b ge_b) hZ (hw _ (List.mem_of_getElem? (i := 40) rfl)) (hw _ (List.mem_of_getElem? (i := 37) rfl)) (by decide) (by decide)) (g := (mkF m 135 #[.val (.int p0), .val (.int p1), .val (.int p2), .val (.int (p0 &&& (7 : Int32))), .val (.int (p1 &&& (255 : Int32))), .val (.ref r), .val (.ref q), .val (.ref t), .unset, .unset, .unset] [(.ref t), (.int (p0 &&& (7 : Int32))), (.ref b), (.ref b)])) rfl (by rw [hml]; rfl) (Steps.refl _) (a := b) (argsL := [(.int (p0 &&& (7 : Int32))), (.ref t)]) (rest := [(.ref b)]) (lenOf pd_3 rfl) rfl (by show 2 * 0 + _ ≤ _; exact Nat.le_of_eq rfl) (hb hby at_135) (fun _ _ => ⟨rfl, e54, (by decide : 5 + 0 ≤ _), (by decide : 16 + 0 ≤ _)⟩)
  dsimp only [Pt.U, Pt.locs, Pt.cells, Pt.slots] at X56 l56 y56 z56 st56 hQ56
  subst l56 y56 z56
  obtain ⟨rfl, Nq56, K56, F_index_b⟩ := hQ56
  have N56 := Fr.app N52 Nq56
  have Sz56 := Nat.le_trans Sz54 K56.1
  have O := O.keep K56 (allS ge_b all0)
  have V_r := V_r.keep K56 (ninS ne_r_b nin0)
  have V_q := V_q.keep K56 (ninS ne_q_b nin0)
  have E_t := E_t.keep K56
  have F_coder_t := F_coder_t.keep K56 (ninS ne_t_b nin0)
  have F_value_t := F_value_t.keep K56 (ninS ne_t_b nin0)
  have E_b := E_b.keep K56
  have R57 : ∀ zt, Steps p.tables e below (T56.setTop (mkF m 144 #[.val (.int p0), .val (.int p1), .val (.int p2), .val (.int (p0 &&& (7 : Int32))), .val (.int (p1 &&& (255 : Int32))), .val (.ref r), .val (.ref q), .val (.ref t), .val (.ref b), .unset, .unset] [(.ref r), (.ref b)])) zt → Steps p.tables e below (s₁.setTop (entryFrame m #[(.int p0), (.int p1), (.int p2)] maxLocals)) zt := by
    intro zt zk
    refine R55 zt ?_
    show Steps p.tables e below (T54.setTop (mkF m 135 #[.val (.int p0), .val (.int p1), .val (.int p2), .val (.int (p0 &&& (7 : Int32))), .val (.int (p1 &&& (255 : Int32))), .val (.ref r), .val (.ref q), .val (.ref t), .unset, .unset, .unset] [(.ref t), (.int (p0 &&& (7 : Int32))), (.ref b), (.ref b)])) _
    refine st56.trans ?_
    show Steps p.tables e below (T56.setTop (mkF m 138 #[.val (.int p0), .val (.int p1), .val (.int p2), .val (.int (p0 &&& (7 : Int32))), .val (.int (p1 &&& (255 : Int32))), .val (.ref r), .val (.ref q), .val (.ref t), .unset, .unset, .unset] [(.ref b)])) _
    refine XS.astore X56.here hx rfl (hb hby at_138) rfl rfl (l' := #[.val (.int p0), .val (.int p1), .val (.int p2), .val (.int (p0 &&& (7 : Int32))), .val (.int (p1 &&& (255 : Int32))), .val (.ref r), .val (.ref q), .val (.ref t), .val (.ref b), .unset, .unset]) rfl ?_
    show Steps p.tables e below (T56.setTop (mkF m 140 #[.val (.int p0), .val (.int p1), .val (.int p2), .val (.int (p0 &&& (7 : Int32))), .val (.int (p1 &&& (255 : Int32))), .val (.ref r), .val (.ref q), .val (.ref t), .val (.ref b), .unset, .unset] [])) _
    refine XS.aload X56.here hx rfl (hb hby at_140) rfl rfl ?_
    show Steps p.tables e below (T56.setTop (mkF m 142 #[.val (.int p0), .val (.int p1), .val (.int p2), .val (.int (p0 &&& (7 : Int32))), .val (.int (p1 &&& (255 : Int32))), .val (.ref r), .val (.ref q), .val (.ref t), .val (.ref b), .unset, .unset] [(.ref b)])) _
    refine XS.aload X56.here hx rfl (hb hby at_142) rfl rfl ?_
    exact zk
  obtain ⟨cq58, kq58, q58a, q58b, q58c⟩ := isOf hZ rfl E_b
  obtain ⟨_, _, ⟨T58, L58, k58, n58⟩, -, X58, ⟨Lc58, hQ58, l58, y58, z58⟩, st58⟩ := X56.virtualBack hx (y := (⟨"com/example/reset/reset/Expression$Variable", "degreeIn", "([Z)I"⟩ : MethodName)) (z := (⟨"com/example/reset/reset/Expression$Variable", "degreeIn", "([Z)I"⟩ : MethodName)) hown (mvT hZ (hw _ (List.mem_of_getElem? (i := 51) rfl))) (mvT hZ (hw _ (List.mem_of_getElem? (i := 52) rfl))) (notFace_of_selects (args := #[]) (mvT hZ (hw _ (List.mem_of_getElem? (i := 54) rfl)))) (mvT hZ (hw _ (List.mem_of_getElem? (i := 54) rfl))) (mvT hZ (hw _ (List.mem_of_getElem? (i := 53) rfl))) (by decide) (backOf (W := 0) (rm10 l Z a0 hw [] b r (p0 &&& (7 : Int32)) (own_bv (p1 &&& (255 : Int32)) (p0 &&& (7 : Int32))) k2 (own_bv (p1 &&& (255 : Int32)) (0 : Int32)) (own_bv (p1 &&& (255 : Int32)) (1 : Int32)) (own_bv (p1 &&& (255 : Int32)) (2 : Int32)) (own_bv (p1 &&& (255 : Int32)) (3 : Int32)) (own_bv (p1 &&& (255 : Int32)) (4 : Int32)) (own_bv (p1 &&& (255 : Int32)) (5 : Int32)) (own_bv (p1 &&& (255 : Int32)) (6 : Int32)) (own_bv (p1 &&& (255 : Int32)) (7 : Int32)) T56.heap n0 Sz56 F_index_b V_r (own_at (p1 &&& (255 : Int32)) p0).1 (own_at (p1 &&& (255 : Int32)) p0).2) hZ (hw _ (List.mem_of_getElem? (i := 55) rfl)) (hw _ (List.mem_of_getElem? (i := 37) rfl)) (by decide) (by decide)) q58a q58c (g := (mkF m 144 #[.val (.int p0), .val (.int p1), .val (.int p2), .val (.int (p0 &&& (7 : Int32))), .val (.int (p1 &&& (255 : Int32))), .val (.ref r), .val (.ref q), .val (.ref t), .val (.ref b), .unset, .unset] [(.ref r), (.ref b)])) rfl (by rw [hml]; rfl) (Steps.refl _) (argsL := [(.ref r)]) (rest := []) (lenOf pd_4 rfl) rfl (by show 2 * 0 + _ ≤ _; exact Nat.le_of_eq rfl) (hb hby at_144) (fun _ _ => ⟨rfl, rfl, (by decide : 5 + 0 ≤ _), (by decide : 16 + 0 ≤ _)⟩)
  dsimp only [Pt.U, Pt.locs, Pt.cells, Pt.slots] at X58 l58 y58 z58 st58 hQ58
  subst l58 y58 z58
  obtain ⟨rfl, Nq58, eq58⟩ := hQ58
  have N58 := Fr.app N56 Nq58
  have e58 : T58.heap = T56.heap := eq58
  have R59 : ∀ zt, Steps p.tables e below (T58.setTop (mkF m 155 #[.val (.int p0), .val (.int p1), .val (.int p2), .val (.int (p0 &&& (7 : Int32))), .val (.int (p1 &&& (255 : Int32))), .val (.ref r), .val (.ref q), .val (.ref t), .val (.ref b), .val (.int (if (own_bv (p1 &&& (255 : Int32)) (p0 &&& (7 : Int32))) = (0 : Int32) then (0 : Int32) else (1 : Int32))), .val (.int (0 : Int32))] [(.int (p0 &&& (7 : Int32))), (.int (p1 &&& (255 : Int32)))])) zt → Steps p.tables e below (s₁.setTop (entryFrame m #[(.int p0), (.int p1), (.int p2)] maxLocals)) zt := by
    intro zt zk
    refine R57 zt ?_
    show Steps p.tables e below (T56.setTop (mkF m 144 #[.val (.int p0), .val (.int p1), .val (.int p2), .val (.int (p0 &&& (7 : Int32))), .val (.int (p1 &&& (255 : Int32))), .val (.ref r), .val (.ref q), .val (.ref t), .val (.ref b), .unset, .unset] [(.ref r), (.ref b)])) _
    refine st58.trans ?_
    show Steps p.tables e below (T58.setTop (mkF m 147 #[.val (.int p0), .val (.int p1), .val (.int p2), .val (.int (p0 &&& (7 : Int32))), .val (.int (p1 &&& (255 : Int32))), .val (.ref r), .val (.ref q), .val (.ref t), .val (.ref b), .unset, .unset] [(.int (if (own_bv (p1 &&& (255 : Int32)) (p0 &&& (7 : Int32))) = (0 : Int32) then (0 : Int32) else (1 : Int32)))])) _
    refine XS.istore X58.here hx rfl (hb hby at_147) rfl (l' := #[.val (.int p0), .val (.int p1), .val (.int p2), .val (.int (p0 &&& (7 : Int32))), .val (.int (p1 &&& (255 : Int32))), .val (.ref r), .val (.ref q), .val (.ref t), .val (.ref b), .val (.int (if (own_bv (p1 &&& (255 : Int32)) (p0 &&& (7 : Int32))) = (0 : Int32) then (0 : Int32) else (1 : Int32))), .unset]) rfl ?_
    show Steps p.tables e below (T58.setTop (mkF m 149 #[.val (.int p0), .val (.int p1), .val (.int p2), .val (.int (p0 &&& (7 : Int32))), .val (.int (p1 &&& (255 : Int32))), .val (.ref r), .val (.ref q), .val (.ref t), .val (.ref b), .val (.int (if (own_bv (p1 &&& (255 : Int32)) (p0 &&& (7 : Int32))) = (0 : Int32) then (0 : Int32) else (1 : Int32))), .unset] [])) _
    refine XS.iconst X58.here hx rfl (hb hby at_149) ?_
    show Steps p.tables e below (T58.setTop (mkF m 150 #[.val (.int p0), .val (.int p1), .val (.int p2), .val (.int (p0 &&& (7 : Int32))), .val (.int (p1 &&& (255 : Int32))), .val (.ref r), .val (.ref q), .val (.ref t), .val (.ref b), .val (.int (if (own_bv (p1 &&& (255 : Int32)) (p0 &&& (7 : Int32))) = (0 : Int32) then (0 : Int32) else (1 : Int32))), .unset] [(.int (0 : Int32))])) _
    refine XS.istore X58.here hx rfl (hb hby at_150) rfl (l' := #[.val (.int p0), .val (.int p1), .val (.int p2), .val (.int (p0 &&& (7 : Int32))), .val (.int (p1 &&& (255 : Int32))), .val (.ref r), .val (.ref q), .val (.ref t), .val (.ref b), .val (.int (if (own_bv (p1 &&& (255 : Int32)) (p0 &&& (7 : Int32))) = (0 : Int32) then (0 : Int32) else (1 : Int32))), .val (.int (0 : Int32))]) rfl ?_
    show Steps p.tables e below (T58.setTop (mkF m 152 #[.val (.int p0), .val (.int p1), .val (.int p2), .val (.int (p0 &&& (7 : Int32))), .val (.int (p1 &&& (255 : Int32))), .val (.ref r), .val (.ref q), .val (.ref t), .val (.ref b), .val (.int (if (own_bv (p1 &&& (255 : Int32)) (p0 &&& (7 : Int32))) = (0 : Int32) then (0 : Int32) else (1 : Int32))), .val (.int (0 : Int32))] [])) _
    refine XS.iload X58.here hx rfl (hb hby at_152) rfl ?_
    show Steps p.tables e below (T58.setTop (mkF m 154 #[.val (.int p0), .val (.int p1), .val (.int p2), .val (.int (p0 &&& (7 : Int32))), .val (.int (p1 &&& (255 : Int32))), .val (.ref r), .val (.ref q), .val (.ref t), .val (.ref b), .val (.int (if (own_bv (p1 &&& (255 : Int32)) (p0 &&& (7 : Int32))) = (0 : Int32) then (0 : Int32) else (1 : Int32))), .val (.int (0 : Int32))] [(.int (p1 &&& (255 : Int32)))])) _
    refine XS.iloadN X58.here hx rfl (hb hby at_154) rfl ?_
    exact zk
  obtain ⟨_, _, ⟨T60, L60, k60, n60⟩, -, X60, ⟨Lc60, hQ60, l60, y60, z60⟩, st60⟩ := Jvm.LawKit.callS X58 hx (y := (⟨"com/example/reset/reset/VariableDegreeInPinLaw", "bit", "(II)Z"⟩ : MethodName)) hown (mvT hZ (hw _ (List.mem_of_getElem? (i := 1) rfl))) (mvT hZ (hw _ (List.mem_of_getElem? (i := 2) rfl))) (mvT hZ (hw _ (List.mem_of_getElem? (i := 3) rfl))) (mvT hZ (hw _ (List.mem_of_getElem? (i := 4) rfl))) (by decide) (backOf (W := 0) (rm1 l Z a0 hw [] (p1 &&& (255 : Int32)) (p0 &&& (7 : Int32)) T56.heap n0 Sz56) hZ (hw _ (List.mem_of_getElem? (i := 4) rfl)) (hw _ (List.mem_of_getElem? (i := 3) rfl)) (by decide) (by decide)) (g := (mkF m 155 #[.val (.int p0), .val (.int p1), .val (.int p2), .val (.int (p0 &&& (7 : Int32))), .val (.int (p1 &&& (255 : Int32))), .val (.ref r), .val (.ref q), .val (.ref t), .val (.ref b), .val (.int (if (own_bv (p1 &&& (255 : Int32)) (p0 &&& (7 : Int32))) = (0 : Int32) then (0 : Int32) else (1 : Int32))), .val (.int (0 : Int32))] [(.int (p0 &&& (7 : Int32))), (.int (p1 &&& (255 : Int32)))])) rfl (by rw [hml]; rfl) (argsL := [(.int (p1 &&& (255 : Int32))), (.int (p0 &&& (7 : Int32)))]) (rest := []) (lenOf pd_1 rfl) rfl (by show 2 * 0 + _ ≤ _; exact Nat.le_of_eq rfl) (hb hby at_155) (fun _ _ => ⟨rfl, e58, (by decide : 5 + 0 ≤ _), (by decide : 16 + 0 ≤ _)⟩)
  dsimp only [Pt.U, Pt.locs, Pt.cells, Pt.slots] at X60 l60 y60 z60 st60 hQ60
  subst l60 y60 z60
  obtain ⟨rfl, Nq60, eq60⟩ := hQ60
  have N60 := Fr.app N58 Nq60
  have e60 : T60.heap = T56.heap := eq60
  have R61 : ∀ zt, Steps p.tables e below (T60.setTop (mkF m 158 #[.val (.int p0), .val (.int p1), .val (.int p2), .val (.int (p0 &&& (7 : Int32))), .val (.int (p1 &&& (255 : Int32))), .val (.ref r), .val (.ref q), .val (.ref t), .val (.ref b), .val (.int (if (own_bv (p1 &&& (255 : Int32)) (p0 &&& (7 : Int32))) = (0 : Int32) then (0 : Int32) else (1 : Int32))), .val (.int (0 : Int32))] [(.int (own_bv (p1 &&& (255 : Int32)) (p0 &&& (7 : Int32))))])) zt → Steps p.tables e below (s₁.setTop (entryFrame m #[(.int p0), (.int p1), (.int p2)] maxLocals)) zt := by
    intro zt zk
    refine R59 zt ?_
    show Steps p.tables e below (T58.setTop (mkF m 155 #[.val (.int p0), .val (.int p1), .val (.int p2), .val (.int (p0 &&& (7 : Int32))), .val (.int (p1 &&& (255 : Int32))), .val (.ref r), .val (.ref q), .val (.ref t), .val (.ref b), .val (.int (if (own_bv (p1 &&& (255 : Int32)) (p0 &&& (7 : Int32))) = (0 : Int32) then (0 : Int32) else (1 : Int32))), .val (.int (0 : Int32))] [(.int (p0 &&& (7 : Int32))), (.int (p1 &&& (255 : Int32)))])) _
    refine st60 _ ?_
    exact zk
  have R62 : ∀ zt, Steps p.tables e below (T60.setTop (mkF m 164 #[.val (.int p0), .val (.int p1), .val (.int p2), .val (.int (p0 &&& (7 : Int32))), .val (.int (p1 &&& (255 : Int32))), .val (.ref r), .val (.ref q), .val (.ref t), .val (.ref b), .val (.int (if (own_bv (p1 &&& (255 : Int32)) (p0 &&& (7 : Int32))) = (0 : Int32) then (0 : Int32) else (1 : Int32))), .val (.int (if (own_bv (p1 &&& (255 : Int32)) (p0 &&& (7 : Int32))) = (0 : Int32) then (0 : Int32) else (1 : Int32) : Int32))] [])) zt → Steps p.tables e below (s₁.setTop (entryFrame m #[(.int p0), (.int p1), (.int p2)] maxLocals)) zt := by
    by_cases hc63 : (own_bv (p1 &&& (255 : Int32)) (p0 &&& (7 : Int32))) = (0 : Int32)
    ·
      skip
      have R64 : ∀ zt, Steps p.tables e below (T60.setTop (mkF m 164 #[.val (.int p0), .val (.int p1), .val (.int p2), .val (.int (p0 &&& (7 : Int32))), .val (.int (p1 &&& (255 : Int32))), .val (.ref r), .val (.ref q), .val (.ref t), .val (.ref b), .val (.int (if (own_bv (p1 &&& (255 : Int32)) (p0 &&& (7 : Int32))) = (0 : Int32) then (0 : Int32) else (1 : Int32))), .val (.int (0 : Int32))] [])) zt → Steps p.tables e below (s₁.setTop (entryFrame m #[(.int p0), (.int p1), (.int p2)] maxLocals)) zt := by
        intro zt zk
        refine R61 zt ?_
        show Steps p.tables e below (T60.setTop (mkF m 158 #[.val (.int p0), .val (.int p1), .val (.int p2), .val (.int (p0 &&& (7 : Int32))), .val (.int (p1 &&& (255 : Int32))), .val (.ref r), .val (.ref q), .val (.ref t), .val (.ref b), .val (.int (if (own_bv (p1 &&& (255 : Int32)) (p0 &&& (7 : Int32))) = (0 : Int32) then (0 : Int32) else (1 : Int32))), .val (.int (0 : Int32))] [(.int (own_bv (p1 &&& (255 : Int32)) (p0 &&& (7 : Int32))))])) _
        refine XS.ifYes X60.here hx rfl (pc0 := 158) (pc' := 164) rfl (hb hby at_158) rfl ((if0 _ _).trans (teq hc63).1) (by decide) (by decide) ?_
        exact zk
      refine fun zt zk => R64 zt ?_
      have q65 : (if (own_bv (p1 &&& (255 : Int32)) (p0 &&& (7 : Int32))) = (0 : Int32) then (0 : Int32) else (1 : Int32) : Int32) = (0 : Int32) := (if_pos hc63)
      rw [q65] at zk
      try rw [q65]
      exact zk
    ·
      skip
      have R66 : ∀ zt, Steps p.tables e below (T60.setTop (mkF m 164 #[.val (.int p0), .val (.int p1), .val (.int p2), .val (.int (p0 &&& (7 : Int32))), .val (.int (p1 &&& (255 : Int32))), .val (.ref r), .val (.ref q), .val (.ref t), .val (.ref b), .val (.int (if (own_bv (p1 &&& (255 : Int32)) (p0 &&& (7 : Int32))) = (0 : Int32) then (0 : Int32) else (1 : Int32))), .val (.int (1 : Int32))] [])) zt → Steps p.tables e below (s₁.setTop (entryFrame m #[(.int p0), (.int p1), (.int p2)] maxLocals)) zt := by
        intro zt zk
        refine R61 zt ?_
        show Steps p.tables e below (T60.setTop (mkF m 158 #[.val (.int p0), .val (.int p1), .val (.int p2), .val (.int (p0 &&& (7 : Int32))), .val (.int (p1 &&& (255 : Int32))), .val (.ref r), .val (.ref q), .val (.ref t), .val (.ref b), .val (.int (if (own_bv (p1 &&& (255 : Int32)) (p0 &&& (7 : Int32))) = (0 : Int32) then (0 : Int32) else (1 : Int32))), .val (.int (0 : Int32))] [(.int (own_bv (p1 &&& (255 : Int32)) (p0 &&& (7 : Int32))))])) _
        refine XS.ifNo X60.here hx rfl (hb hby at_158) rfl ((if0 _ _).trans (feq hc63).1) ?_
        show Steps p.tables e below (T60.setTop (mkF m 161 #[.val (.int p0), .val (.int p1), .val (.int p2), .val (.int (p0 &&& (7 : Int32))), .val (.int (p1 &&& (255 : Int32))), .val (.ref r), .val (.ref q), .val (.ref t), .val (.ref b), .val (.int (if (own_bv (p1 &&& (255 : Int32)) (p0 &&& (7 : Int32))) = (0 : Int32) then (0 : Int32) else (1 : Int32))), .val (.int (0 : Int32))] [])) _
        refine XS.iconst X60.here hx rfl (hb hby at_161) ?_
        show Steps p.tables e below (T60.setTop (mkF m 162 #[.val (.int p0), .val (.int p1), .val (.int p2), .val (.int (p0 &&& (7 : Int32))), .val (.int (p1 &&& (255 : Int32))), .val (.ref r), .val (.ref q), .val (.ref t), .val (.ref b), .val (.int (if (own_bv (p1 &&& (255 : Int32)) (p0 &&& (7 : Int32))) = (0 : Int32) then (0 : Int32) else (1 : Int32))), .val (.int (0 : Int32))] [(.int (1 : Int32))])) _
        refine XS.istore X60.here hx rfl (hb hby at_162) rfl (l' := #[.val (.int p0), .val (.int p1), .val (.int p2), .val (.int (p0 &&& (7 : Int32))), .val (.int (p1 &&& (255 : Int32))), .val (.ref r), .val (.ref q), .val (.ref t), .val (.ref b), .val (.int (if (own_bv (p1 &&& (255 : Int32)) (p0 &&& (7 : Int32))) = (0 : Int32) then (0 : Int32) else (1 : Int32))), .val (.int (1 : Int32))]) rfl ?_
        exact zk
      refine fun zt zk => R66 zt ?_
      have q67 : (if (own_bv (p1 &&& (255 : Int32)) (p0 &&& (7 : Int32))) = (0 : Int32) then (0 : Int32) else (1 : Int32) : Int32) = (1 : Int32) := (if_neg hc63)
      rw [q67] at zk
      try rw [q67]
      exact zk
  have R68 : ∀ zt, Steps p.tables e below (T60.setTop (mkF m 173 #[.val (.int p0), .val (.int p1), .val (.int p2), .val (.int (p0 &&& (7 : Int32))), .val (.int (p1 &&& (255 : Int32))), .val (.ref r), .val (.ref q), .val (.ref t), .val (.ref b), .val (.int (if (own_bv (p1 &&& (255 : Int32)) (p0 &&& (7 : Int32))) = (0 : Int32) then (0 : Int32) else (1 : Int32))), .val (.int (if (own_bv (p1 &&& (255 : Int32)) (p0 &&& (7 : Int32))) = (0 : Int32) then (0 : Int32) else (1 : Int32) : Int32))] [(.ref r)])) zt → Steps p.tables e below (s₁.setTop (entryFrame m #[(.int p0), (.int p1), (.int p2)] maxLocals)) zt := by
    intro zt zk
    refine R62 zt ?_
    show Steps p.tables e below (T60.setTop (mkF m 164 #[.val (.int p0), .val (.int p1), .val (.int p2), .val (.int (p0 &&& (7 : Int32))), .val (.int (p1 &&& (255 : Int32))), .val (.ref r), .val (.ref q), .val (.ref t), .val (.ref b), .val (.int (if (own_bv (p1 &&& (255 : Int32)) (p0 &&& (7 : Int32))) = (0 : Int32) then (0 : Int32) else (1 : Int32))), .val (.int (if (own_bv (p1 &&& (255 : Int32)) (p0 &&& (7 : Int32))) = (0 : Int32) then (0 : Int32) else (1 : Int32) : Int32))] [])) _
    refine XS.iload X60.here hx rfl (hb hby at_164) rfl ?_
    show Steps p.tables e below (T60.setTop (mkF m 166 #[.val (.int p0), .val (.int p1), .val (.int p2), .val (.int (p0 &&& (7 : Int32))), .val (.int (p1 &&& (255 : Int32))), .val (.ref r), .val (.ref q), .val (.ref t), .val (.ref b), .val (.int (if (own_bv (p1 &&& (255 : Int32)) (p0 &&& (7 : Int32))) = (0 : Int32) then (0 : Int32) else (1 : Int32))), .val (.int (if (own_bv (p1 &&& (255 : Int32)) (p0 &&& (7 : Int32))) = (0 : Int32) then (0 : Int32) else (1 : Int32) : Int32))] [(.int (if (own_bv (p1 &&& (255 : Int32)) (p0 &&& (7 : Int32))) = (0 : Int32) then (0 : Int32) else (1 : Int32)))])) _
    refine XS.iload X60.here hx rfl (hb hby at_166) rfl ?_
    show Steps p.tables e below (T60.setTop (mkF m 168 #[.val (.int p0), .val (.int p1), .val (.int p2), .val (.int (p0 &&& (7 : Int32))), .val (.int (p1 &&& (255 : Int32))), .val (.ref r), .val (.ref q), .val (.ref t), .val (.ref b), .val (.int (if (own_bv (p1 &&& (255 : Int32)) (p0 &&& (7 : Int32))) = (0 : Int32) then (0 : Int32) else (1 : Int32))), .val (.int (if (own_bv (p1 &&& (255 : Int32)) (p0 &&& (7 : Int32))) = (0 : Int32) then (0 : Int32) else (1 : Int32) : Int32))] [(.int (if (own_bv (p1 &&& (255 : Int32)) (p0 &&& (7 : Int32))) = (0 : Int32) then (0 : Int32) else (1 : Int32) : Int32)), (.int (if (own_bv (p1 &&& (255 : Int32)) (p0 &&& (7 : Int32))) = (0 : Int32) then (0 : Int32) else (1 : Int32)))])) _
    refine XS.icmpNo X60.here hx rfl (hb hby at_168) rfl (teq (rfl : (if (own_bv (p1 &&& (255 : Int32)) (p0 &&& (7 : Int32))) = (0 : Int32) then (0 : Int32) else (1 : Int32)) = (if (own_bv (p1 &&& (255 : Int32)) (p0 &&& (7 : Int32))) = (0 : Int32) then (0 : Int32) else (1 : Int32)))).2 ?_
    show Steps p.tables e below (T60.setTop (mkF m 171 #[.val (.int p0), .val (.int p1), .val (.int p2), .val (.int (p0 &&& (7 : Int32))), .val (.int (p1 &&& (255 : Int32))), .val (.ref r), .val (.ref q), .val (.ref t), .val (.ref b), .val (.int (if (own_bv (p1 &&& (255 : Int32)) (p0 &&& (7 : Int32))) = (0 : Int32) then (0 : Int32) else (1 : Int32))), .val (.int (if (own_bv (p1 &&& (255 : Int32)) (p0 &&& (7 : Int32))) = (0 : Int32) then (0 : Int32) else (1 : Int32) : Int32))] [])) _
    refine XS.aload X60.here hx rfl (hb hby at_171) rfl rfl ?_
    exact zk
  obtain ⟨_, _, ⟨T69, L69, k69, n69⟩, -, X69, ⟨Lc69, hQ69, l69, y69, z69⟩, st69⟩ := Jvm.LawKit.callS X60 hx (y := (⟨"com/example/reset/reset/VariableDegreeInPinLaw", "pack", "([Z)I"⟩ : MethodName)) hown (mvT hZ (hw _ (List.mem_of_getElem? (i := 56) rfl))) (mvT hZ (hw _ (List.mem_of_getElem? (i := 57) rfl))) (mvT hZ (hw _ (List.mem_of_getElem? (i := 3) rfl))) (mvT hZ (hw _ (List.mem_of_getElem? (i := 58) rfl))) (by decide) (backOf (W := 0) (rm11 l Z a0 hw [] r k2 (own_bv (p1 &&& (255 : Int32)) (0 : Int32)) (own_bv (p1 &&& (255 : Int32)) (1 : Int32)) (own_bv (p1 &&& (255 : Int32)) (2 : Int32)) (own_bv (p1 &&& (255 : Int32)) (3 : Int32)) (own_bv (p1 &&& (255 : Int32)) (4 : Int32)) (own_bv (p1 &&& (255 : Int32)) (5 : Int32)) (own_bv (p1 &&& (255 : Int32)) (6 : Int32)) (own_bv (p1 &&& (255 : Int32)) (7 : Int32)) T56.heap n0 Sz56 V_r) hZ (hw _ (List.mem_of_getElem? (i := 58) rfl)) (hw _ (List.mem_of_getElem? (i := 3) rfl)) (by decide) (by decide)) (g := (mkF m 173 #[.val (.int p0), .val (.int p1), .val (.int p2), .val (.int (p0 &&& (7 : Int32))), .val (.int (p1 &&& (255 : Int32))), .val (.ref r), .val (.ref q), .val (.ref t), .val (.ref b), .val (.int (if (own_bv (p1 &&& (255 : Int32)) (p0 &&& (7 : Int32))) = (0 : Int32) then (0 : Int32) else (1 : Int32))), .val (.int (if (own_bv (p1 &&& (255 : Int32)) (p0 &&& (7 : Int32))) = (0 : Int32) then (0 : Int32) else (1 : Int32) : Int32))] [(.ref r)])) rfl (by rw [hml]; rfl) (argsL := [(.ref r)]) (rest := []) (lenOf pd_4 rfl) rfl (by show 2 * 0 + _ ≤ _; exact Nat.le_of_eq rfl) (hb hby at_173) (fun _ _ => ⟨rfl, e60, (by decide : 5 + 0 ≤ _), (by decide : 16 + 0 ≤ _)⟩)
  dsimp only [Pt.U, Pt.locs, Pt.cells, Pt.slots] at X69 l69 y69 z69 st69 hQ69
  subst l69 y69 z69
  obtain ⟨rfl, Nq69, eq69⟩ := hQ69
  have N69 := Fr.app N60 Nq69
  have e69 : T69.heap = T56.heap := eq69
  have R70 : ∀ zt, Steps p.tables e below (T69.setTop (mkF m 186 #[.val (.int p0), .val (.int p1), .val (.int p2), .val (.int (p0 &&& (7 : Int32))), .val (.int (p1 &&& (255 : Int32))), .val (.ref r), .val (.ref q), .val (.ref t), .val (.ref b), .val (.int (if (own_bv (p1 &&& (255 : Int32)) (p0 &&& (7 : Int32))) = (0 : Int32) then (0 : Int32) else (1 : Int32))), .val (.int (if (own_bv (p1 &&& (255 : Int32)) (p0 &&& (7 : Int32))) = (0 : Int32) then (0 : Int32) else (1 : Int32) : Int32))] [(.int (1 : Int32))])) zt → Steps p.tables e below (s₁.setTop (entryFrame m #[(.int p0), (.int p1), (.int p2)] maxLocals)) zt := by
    intro zt zk
    refine R68 zt ?_
    show Steps p.tables e below (T60.setTop (mkF m 173 #[.val (.int p0), .val (.int p1), .val (.int p2), .val (.int (p0 &&& (7 : Int32))), .val (.int (p1 &&& (255 : Int32))), .val (.ref r), .val (.ref q), .val (.ref t), .val (.ref b), .val (.int (if (own_bv (p1 &&& (255 : Int32)) (p0 &&& (7 : Int32))) = (0 : Int32) then (0 : Int32) else (1 : Int32))), .val (.int (if (own_bv (p1 &&& (255 : Int32)) (p0 &&& (7 : Int32))) = (0 : Int32) then (0 : Int32) else (1 : Int32) : Int32))] [(.ref r)])) _
    refine st69 _ ?_
    show Steps p.tables e below (T69.setTop (mkF m 176 #[.val (.int p0), .val (.int p1), .val (.int p2), .val (.int (p0 &&& (7 : Int32))), .val (.int (p1 &&& (255 : Int32))), .val (.ref r), .val (.ref q), .val (.ref t), .val (.ref b), .val (.int (if (own_bv (p1 &&& (255 : Int32)) (p0 &&& (7 : Int32))) = (0 : Int32) then (0 : Int32) else (1 : Int32))), .val (.int (if (own_bv (p1 &&& (255 : Int32)) (p0 &&& (7 : Int32))) = (0 : Int32) then (0 : Int32) else (1 : Int32) : Int32))] [(.int (own_or (own_or (own_or (own_or (own_or (own_or (own_or (own_or (0 : Int32) (own_bv (p1 &&& (255 : Int32)) (0 : Int32)) (1 : Int32)) (own_bv (p1 &&& (255 : Int32)) (1 : Int32)) (2 : Int32)) (own_bv (p1 &&& (255 : Int32)) (2 : Int32)) (4 : Int32)) (own_bv (p1 &&& (255 : Int32)) (3 : Int32)) (8 : Int32)) (own_bv (p1 &&& (255 : Int32)) (4 : Int32)) (16 : Int32)) (own_bv (p1 &&& (255 : Int32)) (5 : Int32)) (32 : Int32)) (own_bv (p1 &&& (255 : Int32)) (6 : Int32)) (64 : Int32)) (own_bv (p1 &&& (255 : Int32)) (7 : Int32)) (128 : Int32)))])) _
    refine XS.iload X69.here hx rfl (hb hby at_176) rfl ?_
    show Steps p.tables e below (T69.setTop (mkF m 178 #[.val (.int p0), .val (.int p1), .val (.int p2), .val (.int (p0 &&& (7 : Int32))), .val (.int (p1 &&& (255 : Int32))), .val (.ref r), .val (.ref q), .val (.ref t), .val (.ref b), .val (.int (if (own_bv (p1 &&& (255 : Int32)) (p0 &&& (7 : Int32))) = (0 : Int32) then (0 : Int32) else (1 : Int32))), .val (.int (if (own_bv (p1 &&& (255 : Int32)) (p0 &&& (7 : Int32))) = (0 : Int32) then (0 : Int32) else (1 : Int32) : Int32))] [(.int (p1 &&& (255 : Int32))), (.int (own_or (own_or (own_or (own_or (own_or (own_or (own_or (own_or (0 : Int32) (own_bv (p1 &&& (255 : Int32)) (0 : Int32)) (1 : Int32)) (own_bv (p1 &&& (255 : Int32)) (1 : Int32)) (2 : Int32)) (own_bv (p1 &&& (255 : Int32)) (2 : Int32)) (4 : Int32)) (own_bv (p1 &&& (255 : Int32)) (3 : Int32)) (8 : Int32)) (own_bv (p1 &&& (255 : Int32)) (4 : Int32)) (16 : Int32)) (own_bv (p1 &&& (255 : Int32)) (5 : Int32)) (32 : Int32)) (own_bv (p1 &&& (255 : Int32)) (6 : Int32)) (64 : Int32)) (own_bv (p1 &&& (255 : Int32)) (7 : Int32)) (128 : Int32)))])) _
    refine XS.icmpNo X69.here hx rfl (hb hby at_178) rfl (teq (own_pk p1)).2 ?_
    show Steps p.tables e below (T69.setTop (mkF m 181 #[.val (.int p0), .val (.int p1), .val (.int p2), .val (.int (p0 &&& (7 : Int32))), .val (.int (p1 &&& (255 : Int32))), .val (.ref r), .val (.ref q), .val (.ref t), .val (.ref b), .val (.int (if (own_bv (p1 &&& (255 : Int32)) (p0 &&& (7 : Int32))) = (0 : Int32) then (0 : Int32) else (1 : Int32))), .val (.int (if (own_bv (p1 &&& (255 : Int32)) (p0 &&& (7 : Int32))) = (0 : Int32) then (0 : Int32) else (1 : Int32) : Int32))] [])) _
    refine XS.iconst X69.here hx rfl (hb hby at_181) ?_
    show Steps p.tables e below (T69.setTop (mkF m 182 #[.val (.int p0), .val (.int p1), .val (.int p2), .val (.int (p0 &&& (7 : Int32))), .val (.int (p1 &&& (255 : Int32))), .val (.ref r), .val (.ref q), .val (.ref t), .val (.ref b), .val (.int (if (own_bv (p1 &&& (255 : Int32)) (p0 &&& (7 : Int32))) = (0 : Int32) then (0 : Int32) else (1 : Int32))), .val (.int (if (own_bv (p1 &&& (255 : Int32)) (p0 &&& (7 : Int32))) = (0 : Int32) then (0 : Int32) else (1 : Int32) : Int32))] [(.int (1 : Int32))])) _
    refine XS.goto X69.here hx rfl (pc0 := 182) (pc' := 186) rfl (hb hby at_182) (by decide) (by decide) ?_
    exact zk
  obtain ⟨fs, hr, hrun, hended, hW, hsame⟩ := X69.leave (v := some (.int (1 : Int32))) (fun h => by rw [Bd.returns] at h; cases h)
  refine ⟨_, _, R70 _ ?_, hrun, hended, _, _, rfl, ?_, ⟨_, rfl⟩, hW, hsame.mono (by decide) (by decide)⟩
  · exact retN X69 hx (t := .boolean) Bd.returns (by simp) (hb hby at_186) hr
  · show Q0 Z p0 p1 p2 G1 h0 n0 _ T69.heap _
    rw [e69]
    exact ⟨rfl, N69⟩
set_option maxRecDepth 65536 in
set_option maxHeartbeats 40000000 in
theorem comes_1 {Post : Tables → Env → Array Value → State → Outcome → State → Prop} (hpost : ∀ tb e args s v u, (limb_1_1.after args s (.returned v) u = true ∧ limb_1_2.after args s (.returned v) u = true ∧ True) → FrameEnd s (.returned v) u (Jvm.fieldLocs frame_1_writes args s ++ Jvm.arrayLocs frame_1_arrays args s ++ Jvm.staticLocs frame_1_statics s) 24 128 → Post tb e args s (.returned v) u) :
    ArmFor flags0 classFile x code maxLocals ret World_1 tables_1 room_1 Calls_1 rest_1 Pre_1 Post := by
  intro l hfl _ _ p e ha hc hk s m args below hf hA hF happ hP
  obtain ⟨hcalls, hrest, hpre⟩ := hP
  obtain ⟨-, -, -, hnamed, -, -, -, hat⟩ := (Spec.applies_iff hf).mp happ
  obtain ⟨hg, hn⟩ := and_e (Cond.before_iff.mp (show (Jvm.Cond.and given_1 narrow_1).before args s = true from hpre))
  obtain ⟨hcount, hg0⟩ := and_e hg
  obtain ⟨hi0, hg1⟩ := and_e hg0
  obtain ⟨hi1, hg2⟩ := and_e hg1
  have hi2 := hg2
  obtain ⟨w0, w1, w2, rfl⟩ : ∃ w0 w1 w2 : Value, args = #[w0, w1, w2] := by
    have hs : args.size = 3 := by simpa [Cond.value, given_1] using hcount
    obtain ⟨L⟩ := args
    match L, hs with
    | [w0, w1, w2], _ => exact ⟨w0, w1, w2, rfl⟩
  have hw := fun d (hd : d ∈ tables_1) => atoms_spec (ws := Jvm.Cond.code x code maxLocals ret :: tables_1) hat d (List.mem_cons_of_mem _ hd)
  have hfit : Fit s := fun {y c} hc i hi => by
    obtain ⟨ha, rfl⟩ := Array.getElem?_eq_some_iff.mp hc
    have q := List.all_eq_true.mp ((Array.all_eq_true_iff_forall_mem.mp hF) _ (Array.getElem_mem ha)) i (List.mem_range.mpr hi)
    simpa [Array.getElem?_eq_getElem hi] using q
  obtain ⟨i0, ei0⟩ := is_v hi0
  obtain rfl : w0 = (.int i0) := Option.some.inj ei0
  obtain ⟨i1, ei1⟩ := is_v hi1
  obtain rfl : w1 = (.int i1) := Option.some.inj ei1
  obtain ⟨i2, ei2⟩ := is_v hi2
  obtain rfl : w2 = (.int i2) := Option.some.inj ei2
  obtain ⟨hsets, hown0⟩ := atoms_of _ (rest_1_c_eq ▸ (show rest_1_c.before _ s = true from hrest))
  have n5 := not_v (Cond.before_iff.mp (hsets _ (List.mem_of_getElem? (i := 2) rfl)))
  obtain ⟨G1, eG1⟩ := is_v (Cond.before_iff.mp (hsets _ (List.mem_of_getElem? (i := 1) rfl)))
  have SCS : Sta s s.heap "java/lang/String" "COMPACT_STRINGS" "Z" (.int G1) := Sta.start eG1 (Or.inl (hsets _ (List.mem_of_getElem? (i := 0) rfl)))
  have P5 : ¬ (G1 = (0 : Int32)) := gotF (Cond.eq_ints eG1 (Term.int_eval (0))) n5
  obtain ⟨n, o, h1, h2, h3, _, L, rfl, ⟨rfl, N⟩, hq⟩ := rm0 l s _ hw tables_1 i0 i1 i2 G1 s.heap s.heap.size (Nat.le_refl _) (Old.start s) SCS P5 p e ha hc hk s m _ below hf ((Spec.applies_iff_loose hf).mp happ).1 ⟨rfl, State.Warmed39.refl s, rfl⟩ trivial
  refine ⟨n, _, h1, h2, h3, hpost _ _ _ _ _ _ ⟨Cond.after_iff.mpr rfl, Cond.after_iff.mpr (eq_i res_at (Term.int_eval (1)) rfl), trivial⟩ ⟨hq.1, hq.2.1, (hq.2.2.sift fun y hy => Or.inr (N y hy)).mono (by decide) (by decide)⟩⟩
theorem main_1_1 : Claimed_1_1 := comes_1 fun _ _ _ _ _ _ h hF => ⟨h.1, hF⟩
theorem main_1_2 : Claimed_1_2 := comes_1 fun _ _ _ _ _ _ h hF => ⟨h.2.1, hF⟩
end Jvm.Pilot.@@N@@
namespace Jvm.Pilot.@@N@@
open Jvm Jvm.ClassFile Sem Op Lib Jvm.Free Jvm.Stand Jvm.Pilot.@@N@@.Jvm.D
/-! MADE BY PROGRAM (witnessworld.py) out of the Statement's table words and the real class files: 24 classes; the members and pool entries that the words name. The judged class is class 1, her method 3. -/
namespace start1
open Jvm.ClassFile
def u (s : String) : CpInfo := .utf8 (stringToUtf16 s)
/-- a pool by its gaps: so many unusable entries, then the entry; so many at the end -/
def gap : Nat → List CpInfo → List CpInfo
  | 0, r => r
  | n + 1, r => .unusable :: gap n r
def poolList (es : List (Nat × CpInfo)) (last : Nat) : List CpInfo := es.foldr (fun e r => gap e.1 (e.2 :: r)) (gap last [])
def pool (es : List (Nat × CpInfo)) (last : Nat) : Array CpInfo := ⟨poolList es last⟩
def fileOf (pool : Array CpInfo) (this : Nat) (attrs : Array Attribute := #[]) (ms : Array MethodInfo := #[]) (fl : Nat := 33) (sup : Nat := 0) (ifs : Array Nat := #[]) (fds : Array FieldInfo := #[]) : ClassFile where
  minorVersion := 0
  majorVersion := 65
  constantPool := pool
  accessFlags := fl
  thisClass := this
  superClass := sup
  interfaces := ifs
  fields := fds
  methods := ms
  attributes := attrs
def plain (name : String) (sup : Option ClassId) : Class where
  name := name
  kind := .ordinary
  loader := none
  accessFlags := 33
  super := sup
  interfaces := #[]
  cf := none
  fields := #[]
  methods := #[]
  instanceTypes := #[]
  staticTypes := #[]
  resolved := #[]
  callSites := []
  init := .initialized
  statics := none
  mirror := none

def pool0 : Array CpInfo := pool [(5, u "<init>"), (0, u "()V"), (1, .class_ 10), (1, u "java/lang/Object")] 113

def k0c0 : Code := { maxStack := 0, maxLocals := 1, code := object_method_1_code, exceptionTable := #[], attributes := #[] }
def k0m0 : Method := { name := "<init>", desc := "()V", sig := { parameters := [], returnType := none }, accessFlags := 1, code := some k0c0 }
/-- java/lang/Object -/
def k0 : Class := { plain "java/lang/Object" none with
  accessFlags := 33
  interfaces := #[]
  cf := some (fileOf pool0 8 #[] #[{ accessFlags := 1, nameIndex := 5, descriptorIndex := 6, attributes := #[] }] 33 0 #[] #[])
  fields := #[]
  methods := #[k0m0]
  instanceTypes := #[]
  staticTypes := #[]
  resolved := Array.replicate 124 none
  statics := none }

def pool1 : Array CpInfo := pool [(2, .class_ 4), (1, u "java/lang/Object"), (0, u "<init>"), (0, u "()V"), (0, .methodref 8 9), (0, .class_ 10), (0, .nameAndType 11 12), (0, u "com/example/reset/reset/VariableDegreeInPinLaw"), (0, u "bit"), (0, u "(II)Z"), (0, .class_ 14), (0, u "java/lang/String"), (0, .methodref 13 16), (0, .nameAndType 5 17), (0, u "([C)V"), (0, .class_ 19), (0, u "com/example/reset/reset/Expression$Variable"), (0, .methodref 18 21), (0, .nameAndType 5 22), (0, u "(ILjava/lang/String;)V"), (0, .methodref 18 24), (0, .nameAndType 25 26), (0, u "degreeIn"), (0, u "([Z)I"), (0, .methodref 8 28), (0, .nameAndType 29 26), (0, u "pack"), (3, u "law"), (0, u "(III)Z")] 10

def k1m0 : Method := { name := "<init>", desc := "()V", sig := { parameters := [], returnType := none }, accessFlags := 1, code := none }
def k1c1 : Code := { maxStack := 2, maxLocals := 2, code := method_2_code, exceptionTable := #[], attributes := #[] }
def k1m1 : Method := { name := "bit", desc := "(II)Z", sig := { parameters := [.int, .int], returnType := some .boolean }, accessFlags := 10, code := some k1c1 }
def k1c2 : Code := { maxStack := 2, maxLocals := 2, code := method_3_code, exceptionTable := #[], attributes := #[] }
def k1m2 : Method := { name := "pack", desc := "([Z)I", sig := { parameters := [(.array .boolean)], returnType := some .int }, accessFlags := 10, code := some k1c2 }
def k1c3 : Code := { maxStack := 4, maxLocals := 11, code := code, exceptionTable := #[], attributes := #[] }
def k1m3 : Method := { name := "law", desc := "(III)Z", sig := { parameters := [.int, .int, .int], returnType := some .boolean }, accessFlags := 9, code := some k1c3 }
/-- com/example/reset/reset/VariableDegreeInPinLaw -/
def k1 : Class := { plain "com/example/reset/reset/VariableDegreeInPinLaw" (some 0) with
  accessFlags := 49
  interfaces := #[]
  cf := some (fileOf pool1 8 #[] #[{ accessFlags := 1, nameIndex := 5, descriptorIndex := 6, attributes := #[] }, { accessFlags := 10, nameIndex := 11, descriptorIndex := 12, attributes := #[] }, { accessFlags := 10, nameIndex := 29, descriptorIndex := 26, attributes := #[] }, { accessFlags := 9, nameIndex := 33, descriptorIndex := 34, attributes := #[] }] 49 2 #[] #[])
  fields := #[]
  methods := #[k1m0, k1m1, k1m2, k1m3]
  instanceTypes := #[]
  staticTypes := #[]
  resolved := Array.replicate 45 none
  statics := none }

def pool2 : Array CpInfo := pool [(1, .class_ 2), (0, u "java/io/Serializable"), (0, .class_ 4), (0, u "java/lang/Object")] 2

/-- java/io/Serializable -/
def k2 : Class := { plain "java/io/Serializable" (some 0) with
  accessFlags := 1537
  interfaces := #[]
  cf := some (fileOf pool2 1 #[] #[] 1537 3 #[] #[])
  fields := #[]
  methods := #[]
  instanceTypes := #[]
  staticTypes := #[]
  resolved := Array.replicate 7 none
  statics := none }

def pool3 : Array CpInfo := pool [(1, .class_ 2), (0, u "java/lang/Comparable"), (0, .class_ 4), (0, u "java/lang/Object")] 7

/-- java/lang/Comparable -/
def k3 : Class := { plain "java/lang/Comparable" (some 0) with
  accessFlags := 1537
  interfaces := #[]
  cf := some (fileOf pool3 1 #[] #[] 1537 3 #[] #[])
  fields := #[]
  methods := #[]
  instanceTypes := #[]
  staticTypes := #[]
  resolved := Array.replicate 12 none
  statics := none }

def pool4 : Array CpInfo := pool [(2, .class_ 4), (1, u "java/lang/CharSequence"), (42, .class_ 48), (0, u "java/lang/CharSequence$1CodePointIterator"), (10, .class_ 60), (0, u "java/lang/CharSequence$1CharIterator"), (5, .class_ 67), (0, u "java/lang/Object")] 63

/-- java/lang/CharSequence -/
def k4 : Class := { plain "java/lang/CharSequence" (some 0) with
  accessFlags := 1537
  interfaces := #[]
  cf := some (fileOf pool4 2 #[.nestMembers #[47, 59]] #[] 1537 66 #[] #[])
  fields := #[]
  methods := #[]
  instanceTypes := #[]
  staticTypes := #[]
  resolved := Array.replicate 131 none
  statics := none }

def pool5 : Array CpInfo := pool [(1, .class_ 2), (0, u "java/lang/constant/Constable"), (0, .class_ 4), (0, u "java/lang/Object")] 6

/-- java/lang/constant/Constable -/
def k5 : Class := { plain "java/lang/constant/Constable" (some 0) with
  accessFlags := 1537
  interfaces := #[]
  cf := some (fileOf pool5 1 #[] #[] 1537 3 #[] #[])
  fields := #[]
  methods := #[]
  instanceTypes := #[]
  staticTypes := #[]
  resolved := Array.replicate 11 none
  statics := none }

def pool6 : Array CpInfo := pool [(1, .class_ 2), (0, u "java/lang/constant/ConstantDesc"), (0, .class_ 4), (0, u "java/lang/Object")] 32

/-- java/lang/constant/ConstantDesc -/
def k6 : Class := { plain "java/lang/constant/ConstantDesc" (some 0) with
  accessFlags := 1537
  interfaces := #[]
  cf := some (fileOf pool6 1 #[] #[] 1537 3 #[] #[])
  fields := #[]
  methods := #[]
  instanceTypes := #[]
  staticTypes := #[]
  resolved := Array.replicate 37 none
  statics := none }

def pool7 : Array CpInfo := pool [(1, .methodref 2 3), (0, .class_ 4), (0, .nameAndType 5 6), (0, u "java/lang/Object"), (0, u "<init>"), (0, u "()V"), (2, .fieldref 10 11), (0, .class_ 12), (0, .nameAndType 13 14), (0, u "java/lang/String"), (0, u "value"), (0, u "[B"), (0, .fieldref 10 16), (0, .nameAndType 17 18), (0, u "coder"), (0, u "B"), (2, u "hash"), (0, u "I"), (2, u "hashIsZero"), (0, u "Z"), (0, .methodref 10 28), (0, .nameAndType 5 29), (0, u "([CIILjava/lang/Void;)V"), (8, .fieldref 10 39), (0, .nameAndType 40 26), (0, u "COMPACT_STRINGS"), (1, .class_ 44), (1, u "java/lang/StringUTF16"), (0, u "compress"), (1, .methodref 42 48), (0, .nameAndType 49 50), (0, u "coderFromArrayLen"), (0, u "([BI)B"), (126, .methodref 42 178), (0, .nameAndType 45 179), (0, u "([CII)[B"), (395, .class_ 576), (0, u "java/lang/CharSequence"), (22, u "CASE_INSENSITIVE_ORDER"), (0, u "Ljava/util/Comparator;"), (409, u "([C)V"), (90, u "serialPersistentFields"), (0, u "[Ljava/io/ObjectStreamField;"), (0, .class_ 1104), (0, u "java/lang/String$CaseInsensitiveComparator"), (1, .class_ 1107), (0, u "java/io/Serializable"), (0, .class_ 1109), (0, u "java/lang/Comparable"), (0, .class_ 1111), (0, u "java/lang/constant/Constable"), (0, .class_ 1113), (0, u "java/lang/constant/ConstantDesc"), (2, u "serialVersionUID"), (0, u "J"), (3, u "REPL"), (0, u "C"), (2, u "LATIN1"), (1, u "UTF16")] 323

def k7m0 : Method := { name := "<init>", desc := "()V", sig := { parameters := [], returnType := none }, accessFlags := 1, code := none }
def k7c1 : Code := { maxStack := 5, maxLocals := 2, code := jdk_42_method_3_code, exceptionTable := #[], attributes := #[] }
def k7m1 : Method := { name := "<init>", desc := "([C)V", sig := { parameters := [(.array .char)], returnType := none }, accessFlags := 1, code := some k7c1 }
def k7c2 : Code := { maxStack := 4, maxLocals := 6, code := jdk_42_method_149_code, exceptionTable := #[], attributes := #[] }
def k7m2 : Method := { name := "<init>", desc := "([CIILjava/lang/Void;)V", sig := { parameters := [(.array .char), .int, .int, (.object "java/lang/Void")], returnType := none }, accessFlags := 2, code := some k7c2 }
/-- java/lang/String -/
def k7 : Class := { plain "java/lang/String" (some 0) with
  accessFlags := 49
  interfaces := #[2, 3, 4, 5, 6]
  cf := some (fileOf pool7 10 #[.nestMembers #[1103]] #[{ accessFlags := 1, nameIndex := 5, descriptorIndex := 6, attributes := #[] }, { accessFlags := 1, nameIndex := 5, descriptorIndex := 1010, attributes := #[] }, { accessFlags := 2, nameIndex := 5, descriptorIndex := 29, attributes := #[] }] 49 2 #[1106, 1108, 575, 1110, 1112] #[{ accessFlags := 18, nameIndex := 13, descriptorIndex := 14, attributes := #[] }, { accessFlags := 18, nameIndex := 17, descriptorIndex := 18, attributes := #[] }, { accessFlags := 2, nameIndex := 21, descriptorIndex := 22, attributes := #[] }, { accessFlags := 2, nameIndex := 25, descriptorIndex := 26, attributes := #[] }, { accessFlags := 26, nameIndex := 1116, descriptorIndex := 1117, attributes := #[] }, { accessFlags := 24, nameIndex := 40, descriptorIndex := 26, attributes := #[] }, { accessFlags := 26, nameIndex := 1101, descriptorIndex := 1102, attributes := #[] }, { accessFlags := 26, nameIndex := 1121, descriptorIndex := 1122, attributes := #[] }, { accessFlags := 25, nameIndex := 599, descriptorIndex := 600, attributes := #[] }, { accessFlags := 24, nameIndex := 1125, descriptorIndex := 18, attributes := #[] }, { accessFlags := 24, nameIndex := 1127, descriptorIndex := 18, attributes := #[] }])
  fields := #[{ name := "value", type := (.array .byte), accessFlags := 18, slot := 0, constantValue := 0 }, { name := "coder", type := .byte, accessFlags := 18, slot := 1, constantValue := 0 }, { name := "hash", type := .int, accessFlags := 2, slot := 2, constantValue := 0 }, { name := "hashIsZero", type := .boolean, accessFlags := 2, slot := 3, constantValue := 0 }, { name := "serialVersionUID", type := .long, accessFlags := 26, slot := 0, constantValue := 0 }, { name := "COMPACT_STRINGS", type := .boolean, accessFlags := 24, slot := 1, constantValue := 0 }, { name := "serialPersistentFields", type := (.array (.object "java/io/ObjectStreamField")), accessFlags := 26, slot := 2, constantValue := 0 }, { name := "REPL", type := .char, accessFlags := 26, slot := 3, constantValue := 0 }, { name := "CASE_INSENSITIVE_ORDER", type := (.object "java/util/Comparator"), accessFlags := 25, slot := 4, constantValue := 0 }, { name := "LATIN1", type := .byte, accessFlags := 24, slot := 5, constantValue := 0 }, { name := "UTF16", type := .byte, accessFlags := 24, slot := 6, constantValue := 0 }]
  methods := #[k7m0, k7m1, k7m2]
  instanceTypes := #[(.array .byte), .byte, .int, .boolean]
  staticTypes := #[.long, .boolean, (.array (.object "java/io/ObjectStreamField")), .char, (.object "java/util/Comparator"), .byte, .byte]
  resolved := Array.replicate 1451 none
  statics := some 0 }

def pool8 : Array CpInfo := pool [(6, .class_ 8), (1, u "java/lang/Object"), (0, u "<init>"), (0, u "()V"), (1, .class_ 14), (1, u "java/lang/StringUTF16"), (31, u "$assertionsDisabled"), (0, u "Z"), (13, u "HI_BYTE_SHIFT"), (0, u "I"), (2, u "LO_BYTE_SHIFT"), (49, .methodref 12 116), (0, .nameAndType 117 118), (0, u "compress"), (0, u "([CI[BII)I"), (3, u "([CII)[B"), (138, u "coderFromArrayLen"), (0, u "([BI)B"), (106, .class_ 371), (1, u "java/lang/StringUTF16$LinesSpliterator"), (58, u "MAX_LENGTH"), (196, .class_ 628), (0, u "java/lang/StringUTF16$CodePointsSpliterator"), (0, .class_ 630), (0, u "java/lang/StringUTF16$CharsSpliterator")] 4

def k8m0 : Method := { name := "<init>", desc := "()V", sig := { parameters := [], returnType := none }, accessFlags := 0, code := none }
def k8c1 : Code := { maxStack := 2, maxLocals := 2, code := jdk_52_method_15_code, exceptionTable := #[], attributes := #[] }
def k8m1 : Method := { name := "coderFromArrayLen", desc := "([BI)B", sig := { parameters := [(.array .byte), .int], returnType := some .byte }, accessFlags := 8, code := some k8c1 }
def k8c2 : Code := { maxStack := 5, maxLocals := 6, code := jdk_52_method_16_code, exceptionTable := #[], attributes := #[] }
def k8m2 : Method := { name := "compress", desc := "([CII)[B", sig := { parameters := [(.array .char), .int, .int], returnType := some (.array .byte) }, accessFlags := 9, code := some k8c2 }
def k8c3 : Code := { maxStack := 3, maxLocals := 7, code := jdk_52_method_21_code, exceptionTable := #[], attributes := #[] }
def k8m3 : Method := { name := "compress", desc := "([CI[BII)I", sig := { parameters := [(.array .char), .int, (.array .byte), .int, .int], returnType := some .int }, accessFlags := 9, code := some k8c3 }
/-- java/lang/StringUTF16 -/
def k8 : Class := { plain "java/lang/StringUTF16" (some 0) with
  accessFlags := 48
  interfaces := #[]
  cf := some (fileOf pool8 12 #[.nestMembers #[627, 629, 369]] #[{ accessFlags := 0, nameIndex := 9, descriptorIndex := 10, attributes := #[] }, { accessFlags := 8, nameIndex := 261, descriptorIndex := 262, attributes := #[] }, { accessFlags := 9, nameIndex := 117, descriptorIndex := 122, attributes := #[] }, { accessFlags := 9, nameIndex := 117, descriptorIndex := 118, attributes := #[] }] 48 6 #[] #[{ accessFlags := 26, nameIndex := 61, descriptorIndex := 62, attributes := #[] }, { accessFlags := 26, nameIndex := 65, descriptorIndex := 62, attributes := #[] }, { accessFlags := 24, nameIndex := 430, descriptorIndex := 62, attributes := #[] }, { accessFlags := 4120, nameIndex := 46, descriptorIndex := 47, attributes := #[] }])
  fields := #[{ name := "HI_BYTE_SHIFT", type := .int, accessFlags := 26, slot := 0, constantValue := 0 }, { name := "LO_BYTE_SHIFT", type := .int, accessFlags := 26, slot := 1, constantValue := 0 }, { name := "MAX_LENGTH", type := .int, accessFlags := 24, slot := 2, constantValue := 0 }, { name := "$assertionsDisabled", type := .boolean, accessFlags := 4120, slot := 3, constantValue := 0 }]
  methods := #[k8m0, k8m1, k8m2, k8m3]
  instanceTypes := #[]
  staticTypes := #[.int, .int, .int, .boolean]
  resolved := Array.replicate 635 none
  statics := none }

def pool9 : Array CpInfo := pool [(1, .methodref 2 3), (0, .class_ 4), (0, .nameAndType 5 6), (0, u "java/lang/Object"), (0, u "<init>"), (0, u "()V"), (0, .class_ 8), (0, u "java/lang/Record")] 13

def k9c0 : Code := { maxStack := 1, maxLocals := 1, code := jdk_30_method_1_code, exceptionTable := #[], attributes := #[] }
def k9m0 : Method := { name := "<init>", desc := "()V", sig := { parameters := [], returnType := none }, accessFlags := 4, code := some k9c0 }
/-- java/lang/Record -/
def k9 : Class := { plain "java/lang/Record" (some 0) with
  accessFlags := 1057
  interfaces := #[]
  cf := some (fileOf pool9 7 #[] #[{ accessFlags := 4, nameIndex := 5, descriptorIndex := 6, attributes := #[] }] 1057 2 #[] #[])
  fields := #[]
  methods := #[k9m0]
  instanceTypes := #[]
  staticTypes := #[]
  resolved := Array.replicate 22 none
  statics := none }

def pool10 : Array CpInfo := pool [(4, .class_ 6), (1, u "com/example/reset/reset/Expression"), (3, .class_ 12), (1, u "com/example/reset/reset/Expression$Operator"), (5, .class_ 19), (0, u "com/example/reset/reset/Expression$Literal"), (0, .class_ 21), (0, u "com/example/reset/reset/Expression$Operation"), (27, u "ZERO"), (0, u "Lcom/example/reset/reset/Expression$Literal;"), (4, .class_ 56), (0, u "com/example/reset/reset/Expression$Negation"), (3, .class_ 61), (0, u "java/lang/Object"), (0, u "NOT_POLYNOMIAL"), (0, u "I"), (19, .class_ 84), (0, u "com/example/reset/reset/Expression$Logarithm"), (0, .class_ 86), (0, u "com/example/reset/reset/Expression$Variable")] 8

/-- com/example/reset/reset/Expression -/
def k10 : Class := { plain "com/example/reset/reset/Expression" (some 0) with
  accessFlags := 1537
  interfaces := #[]
  cf := some (fileOf pool10 4 #[.nestMembers #[10, 83, 20, 55, 85, 18]] #[] 1537 60 #[] #[{ accessFlags := 25, nameIndex := 62, descriptorIndex := 63, attributes := #[] }, { accessFlags := 25, nameIndex := 49, descriptorIndex := 50, attributes := #[] }])
  fields := #[{ name := "NOT_POLYNOMIAL", type := .int, accessFlags := 25, slot := 0, constantValue := 0 }, { name := "ZERO", type := (.object "com/example/reset/reset/Expression$Literal"), accessFlags := 25, slot := 1, constantValue := 0 }]
  methods := #[]
  instanceTypes := #[]
  staticTypes := #[.int, (.object "com/example/reset/reset/Expression$Literal")]
  resolved := Array.replicate 95 none
  statics := none }

def pool11 : Array CpInfo := pool [(1, .methodref 2 3), (0, .class_ 4), (0, .nameAndType 5 6), (0, u "java/lang/Record"), (0, u "<init>"), (0, u "()V"), (0, .fieldref 8 9), (0, .class_ 10), (0, .nameAndType 11 12), (0, u "com/example/reset/reset/Expression$Variable"), (0, u "index"), (0, u "I"), (0, .fieldref 8 14), (0, .nameAndType 15 16), (0, u "name"), (0, u "Ljava/lang/String;"), (16, .class_ 34), (0, u "com/example/reset/reset/Expression"), (0, u "(ILjava/lang/String;)V"), (8, u "degreeIn"), (0, u "([Z)I")] 30

def k11c0 : Code := { maxStack := 2, maxLocals := 3, code := prog_19_method_1_code, exceptionTable := #[], attributes := #[] }
def k11m0 : Method := { name := "<init>", desc := "(ILjava/lang/String;)V", sig := { parameters := [.int, (.object "java/lang/String")], returnType := none }, accessFlags := 1, code := some k11c0 }
def k11c1 : Code := { maxStack := 2, maxLocals := 3, code := prog_19_method_4_code, exceptionTable := #[], attributes := #[] }
def k11m1 : Method := { name := "degreeIn", desc := "([Z)I", sig := { parameters := [(.array .boolean)], returnType := some .int }, accessFlags := 1, code := some k11c1 }
/-- com/example/reset/reset/Expression$Variable -/
def k11 : Class := { plain "com/example/reset/reset/Expression$Variable" (some 9) with
  accessFlags := 49
  interfaces := #[10]
  cf := some (fileOf pool11 8 #[.nestHost 33] #[{ accessFlags := 1, nameIndex := 5, descriptorIndex := 35, attributes := #[] }, { accessFlags := 1, nameIndex := 44, descriptorIndex := 45, attributes := #[] }] 49 2 #[33] #[{ accessFlags := 18, nameIndex := 11, descriptorIndex := 12, attributes := #[] }, { accessFlags := 18, nameIndex := 15, descriptorIndex := 16, attributes := #[] }])
  fields := #[{ name := "index", type := .int, accessFlags := 18, slot := 0, constantValue := 0 }, { name := "name", type := (.object "java/lang/String"), accessFlags := 18, slot := 1, constantValue := 0 }]
  methods := #[k11m0, k11m1]
  instanceTypes := #[.int, (.object "java/lang/String")]
  staticTypes := #[]
  resolved := Array.replicate 76 none
  statics := none }

def pool12 : Array CpInfo := pool [(4, .class_ 6), (1, u "java/lang/Object"), (0, u "<init>"), (0, u "()V"), (5, .class_ 16), (1, u "java/lang/StringLatin1"), (104, u "$assertionsDisabled"), (0, u "Z"), (98, .class_ 223), (1, u "java/lang/StringLatin1$LinesSpliterator"), (166, .class_ 391), (0, u "java/lang/StringLatin1$CharsSpliterator")] 3

def k12m0 : Method := { name := "<init>", desc := "()V", sig := { parameters := [], returnType := none }, accessFlags := 0, code := none }
/-- java/lang/StringLatin1 -/
def k12 : Class := { plain "java/lang/StringLatin1" (some 0) with
  accessFlags := 48
  interfaces := #[]
  cf := some (fileOf pool12 14 #[.nestMembers #[390, 221]] #[{ accessFlags := 0, nameIndex := 7, descriptorIndex := 8, attributes := #[] }] 48 4 #[] #[{ accessFlags := 4120, nameIndex := 121, descriptorIndex := 122, attributes := #[] }])
  fields := #[{ name := "$assertionsDisabled", type := .boolean, accessFlags := 4120, slot := 0, constantValue := 0 }]
  methods := #[k12m0]
  instanceTypes := #[]
  staticTypes := #[.boolean]
  resolved := Array.replicate 395 none
  statics := none }

def pool13 : Array CpInfo := pool [(2, .class_ 4), (1, u "java/lang/Object"), (0, u "<init>"), (0, u "()V"), (17, .class_ 26), (1, u "jdk/internal/util/Preconditions"), (28, .class_ 56), (0, u "jdk/internal/util/Preconditions$4"), (57, .class_ 115), (0, u "jdk/internal/util/Preconditions$1"), (7, u "SIOOBE_FORMATTER"), (0, u "Ljava/util/function/BiFunction;"), (0, .class_ 126), (0, u "jdk/internal/util/Preconditions$2"), (3, u "AIOOBE_FORMATTER"), (0, .class_ 132), (0, u "jdk/internal/util/Preconditions$3"), (3, u "IOOBE_FORMATTER")] 57

def k13m0 : Method := { name := "<init>", desc := "()V", sig := { parameters := [], returnType := none }, accessFlags := 1, code := none }
/-- jdk/internal/util/Preconditions -/
def k13 : Class := { plain "jdk/internal/util/Preconditions" (some 0) with
  accessFlags := 33
  interfaces := #[]
  cf := some (fileOf pool13 24 #[.nestMembers #[55, 131, 125, 114]] #[{ accessFlags := 1, nameIndex := 5, descriptorIndex := 6, attributes := #[] }] 33 2 #[] #[{ accessFlags := 25, nameIndex := 123, descriptorIndex := 124, attributes := #[] }, { accessFlags := 25, nameIndex := 130, descriptorIndex := 124, attributes := #[] }, { accessFlags := 25, nameIndex := 136, descriptorIndex := 124, attributes := #[] }])
  fields := #[{ name := "SIOOBE_FORMATTER", type := (.object "java/util/function/BiFunction"), accessFlags := 25, slot := 0, constantValue := 0 }, { name := "AIOOBE_FORMATTER", type := (.object "java/util/function/BiFunction"), accessFlags := 25, slot := 1, constantValue := 0 }, { name := "IOOBE_FORMATTER", type := (.object "java/util/function/BiFunction"), accessFlags := 25, slot := 2, constantValue := 0 }]
  methods := #[k13m0]
  instanceTypes := #[]
  staticTypes := #[(.object "java/util/function/BiFunction"), (.object "java/util/function/BiFunction"), (.object "java/util/function/BiFunction")]
  resolved := Array.replicate 194 none
  statics := some 1 }

def pool14 : Array CpInfo := pool [(9, u "<init>"), (6, .class_ 18), (1, u "java/lang/Object"), (0, u "()V"), (1, .class_ 23), (1, u "jdk/internal/util/ArraysSupport"), (0, u "LOG2_ARRAY_LONG_INDEX_SCALE"), (0, u "I"), (2, u "U"), (0, u "Ljdk/internal/misc/Unsafe;"), (8, u "BIG_ENDIAN"), (0, u "Z"), (8, u "LOG2_BYTE_BIT_SIZE"), (4, u "LOG2_ARRAY_INT_INDEX_SCALE"), (54, u "JLA"), (0, u "Ljdk/internal/access/JavaLangAccess;"), (11, u "LOG2_ARRAY_BOOLEAN_INDEX_SCALE"), (9, u "LOG2_ARRAY_BYTE_INDEX_SCALE"), (5, u "LOG2_ARRAY_CHAR_INDEX_SCALE"), (5, u "LOG2_ARRAY_SHORT_INDEX_SCALE"), (18, u "LOG2_ARRAY_FLOAT_INDEX_SCALE"), (24, u "LOG2_ARRAY_DOUBLE_INDEX_SCALE"), (89, u "T_BOOLEAN"), (2, u "T_CHAR"), (1, u "T_FLOAT"), (1, u "T_DOUBLE"), (1, u "T_BYTE"), (1, u "T_SHORT"), (1, u "T_INT"), (1, u "T_LONG"), (1, u "SOFT_MAX_ARRAY_LENGTH")] 83

def k14m0 : Method := { name := "<init>", desc := "()V", sig := { parameters := [], returnType := none }, accessFlags := 2, code := none }
/-- jdk/internal/util/ArraysSupport -/
def k14 : Class := { plain "jdk/internal/util/ArraysSupport" (some 0) with
  accessFlags := 33
  interfaces := #[]
  cf := some (fileOf pool14 21 #[] #[{ accessFlags := 2, nameIndex := 9, descriptorIndex := 19, attributes := #[] }] 33 16 #[] #[{ accessFlags := 24, nameIndex := 28, descriptorIndex := 29, attributes := #[] }, { accessFlags := 26, nameIndex := 38, descriptorIndex := 39, attributes := #[] }, { accessFlags := 25, nameIndex := 121, descriptorIndex := 25, attributes := #[] }, { accessFlags := 25, nameIndex := 131, descriptorIndex := 25, attributes := #[] }, { accessFlags := 25, nameIndex := 137, descriptorIndex := 25, attributes := #[] }, { accessFlags := 25, nameIndex := 143, descriptorIndex := 25, attributes := #[] }, { accessFlags := 25, nameIndex := 53, descriptorIndex := 25, attributes := #[] }, { accessFlags := 25, nameIndex := 24, descriptorIndex := 25, attributes := #[] }, { accessFlags := 25, nameIndex := 162, descriptorIndex := 25, attributes := #[] }, { accessFlags := 25, nameIndex := 187, descriptorIndex := 25, attributes := #[] }, { accessFlags := 26, nameIndex := 48, descriptorIndex := 25, attributes := #[] }, { accessFlags := 25, nameIndex := 277, descriptorIndex := 25, attributes := #[] }, { accessFlags := 25, nameIndex := 280, descriptorIndex := 25, attributes := #[] }, { accessFlags := 25, nameIndex := 282, descriptorIndex := 25, attributes := #[] }, { accessFlags := 25, nameIndex := 284, descriptorIndex := 25, attributes := #[] }, { accessFlags := 25, nameIndex := 286, descriptorIndex := 25, attributes := #[] }, { accessFlags := 25, nameIndex := 288, descriptorIndex := 25, attributes := #[] }, { accessFlags := 25, nameIndex := 290, descriptorIndex := 25, attributes := #[] }, { accessFlags := 25, nameIndex := 292, descriptorIndex := 25, attributes := #[] }, { accessFlags := 26, nameIndex := 108, descriptorIndex := 109, attributes := #[] }, { accessFlags := 25, nameIndex := 294, descriptorIndex := 25, attributes := #[] }])
  fields := #[{ name := "U", type := (.object "jdk/internal/misc/Unsafe"), accessFlags := 24, slot := 0, constantValue := 0 }, { name := "BIG_ENDIAN", type := .boolean, accessFlags := 26, slot := 1, constantValue := 0 }, { name := "LOG2_ARRAY_BOOLEAN_INDEX_SCALE", type := .int, accessFlags := 25, slot := 2, constantValue := 0 }, { name := "LOG2_ARRAY_BYTE_INDEX_SCALE", type := .int, accessFlags := 25, slot := 3, constantValue := 0 }, { name := "LOG2_ARRAY_CHAR_INDEX_SCALE", type := .int, accessFlags := 25, slot := 4, constantValue := 0 }, { name := "LOG2_ARRAY_SHORT_INDEX_SCALE", type := .int, accessFlags := 25, slot := 5, constantValue := 0 }, { name := "LOG2_ARRAY_INT_INDEX_SCALE", type := .int, accessFlags := 25, slot := 6, constantValue := 0 }, { name := "LOG2_ARRAY_LONG_INDEX_SCALE", type := .int, accessFlags := 25, slot := 7, constantValue := 0 }, { name := "LOG2_ARRAY_FLOAT_INDEX_SCALE", type := .int, accessFlags := 25, slot := 8, constantValue := 0 }, { name := "LOG2_ARRAY_DOUBLE_INDEX_SCALE", type := .int, accessFlags := 25, slot := 9, constantValue := 0 }, { name := "LOG2_BYTE_BIT_SIZE", type := .int, accessFlags := 26, slot := 10, constantValue := 0 }, { name := "T_BOOLEAN", type := .int, accessFlags := 25, slot := 11, constantValue := 0 }, { name := "T_CHAR", type := .int, accessFlags := 25, slot := 12, constantValue := 0 }, { name := "T_FLOAT", type := .int, accessFlags := 25, slot := 13, constantValue := 0 }, { name := "T_DOUBLE", type := .int, accessFlags := 25, slot := 14, constantValue := 0 }, { name := "T_BYTE", type := .int, accessFlags := 25, slot := 15, constantValue := 0 }, { name := "T_SHORT", type := .int, accessFlags := 25, slot := 16, constantValue := 0 }, { name := "T_INT", type := .int, accessFlags := 25, slot := 17, constantValue := 0 }, { name := "T_LONG", type := .int, accessFlags := 25, slot := 18, constantValue := 0 }, { name := "JLA", type := (.object "jdk/internal/access/JavaLangAccess"), accessFlags := 26, slot := 19, constantValue := 0 }, { name := "SOFT_MAX_ARRAY_LENGTH", type := .int, accessFlags := 25, slot := 20, constantValue := 0 }]
  methods := #[k14m0]
  instanceTypes := #[]
  staticTypes := #[(.object "jdk/internal/misc/Unsafe"), .boolean, .int, .int, .int, .int, .int, .int, .int, .int, .int, .int, .int, .int, .int, .int, .int, .int, .int, (.object "jdk/internal/access/JavaLangAccess"), .int]
  resolved := Array.replicate 378 none
  statics := none }

def pool15 : Array CpInfo := pool [(1, u "java/lang/Cloneable"), (0, .class_ 1), (0, u "java/lang/Object"), (0, .class_ 3)] 3

/-- java/lang/Cloneable -/
def k15 : Class := { plain "java/lang/Cloneable" (some 0) with
  accessFlags := 1537
  interfaces := #[]
  cf := some (fileOf pool15 2 #[] #[] 1537 4 #[] #[])
  fields := #[]
  methods := #[]
  instanceTypes := #[]
  staticTypes := #[]
  resolved := Array.replicate 8 none
  statics := none }

/-- the primitive boolean -/
def k16 : Class := { plain "boolean" none with kind := .primitive 'Z', accessFlags := 0x411 }
/-- [Z -/
def k17 : Class := { plain "[Z" (some 0) with kind := .array 16 .boolean, interfaces := #[15, 2], accessFlags := 1041 }

/-- the primitive byte -/
def k18 : Class := { plain "byte" none with kind := .primitive 'B', accessFlags := 0x411 }
/-- [B -/
def k19 : Class := { plain "[B" (some 0) with kind := .array 18 .byte, interfaces := #[15, 2], accessFlags := 1041 }

/-- the primitive char -/
def k20 : Class := { plain "char" none with kind := .primitive 'C', accessFlags := 0x411 }
/-- [C -/
def k21 : Class := { plain "[C" (some 0) with kind := .array 20 .char, interfaces := #[15, 2], accessFlags := 1041 }

/-- the primitive int -/
def k22 : Class := { plain "int" none with kind := .primitive 'I', accessFlags := 0x411 }
/-- [I -/
def k23 : Class := { plain "[I" (some 0) with kind := .array 22 .int, interfaces := #[15, 2], accessFlags := 1041 }

def heap : Heap := #[{ cls := 7, slots := #[.long 0, .int 1, .null, .int 0, .null, .int 0, .int 0], vm := .statics 7 },
  { cls := 13, slots := #[.null, .null, .null], vm := .statics 13 }]
def classes : Array Class := #[k0, k1, k2, k3, k4, k5, k6, k7, k8, k9, k10, k11, k12, k13, k14, k15, k16, k17, k18, k19, k20, k21, k22, k23]
def interned : List (Array UInt16 × Addr) := []
def slotsUsed : Nat := 10
def theMethod : MethodId := ⟨1, 3⟩
def args0 : Array Value := #[.int 5, .int 2, .int 3]
def aboutOver (below : List Frame) : State where
  vm := { classes := classes, interned := interned.toArray }
  heap := heap
  slotsUsed := slotsUsed
  threads := #[{ frames := .invoking theMethod args0 :: below }]
def below0 : List Frame := [.native { method := ⟨0, 0⟩, args := #[] }]
def about1 : State := aboutOver below0
def p0 : Program := .bare "" "" ""
def e0 : Env := launch0.env 0 0 0
theorem w_frames : about1.frames = Frame.invoking theMethod args0 :: below0 := rfl
set_option maxRecDepth 65536 in
theorem w_args : argsFit about1.vm theMethod args0 = true := by decide +kernel
set_option maxRecDepth 65536 in
theorem w_heap : heapFits about1 = true := by decide +kernel
set_option maxRecDepth 65536 in
theorem w_runnable : about1.curStatus? = some .runnable := by decide +kernel
set_option maxRecDepth 65536 in
theorem w_alone : about1.alone = true := by decide +kernel
set_option maxRecDepth 65536 in
theorem w_named : about1.methodNamed? x = some theMethod := by decide +kernel
set_option maxRecDepth 65536 in
theorem w_hears : about1.hears theMethod below0 = true := by decide +kernel
set_option maxRecDepth 65536 in
theorem w_ripe : about1.ripe theMethod args0 below0 = true := by decide +kernel
theorem w_running : about1.status = .running := rfl
set_option maxRecDepth 65536 in
theorem w_room : about1.hasRoom e0.platform room_1 = true :=
  launch0.hasRoom_least _ room_1 (by decide +kernel) (by decide +kernel) (by decide +kernel) (by decide +kernel) (by decide +kernel) (by decide +kernel)
theorem allAtoms_all (ts : List Jvm.Cond) (a : Array Jvm.Value) (st : Jvm.State) : (allAtoms ts).before a st = ts.all (fun c => c.before a st) := by
  induction ts with
  | nil => rfl
  | cons c t ih =>
    show (Jvm.Cond.and c (allAtoms t)).before a st = _
    rw [Jvm.Cond.before_and, ih, List.all_cons]
def words1 : List Jvm.Cond := Jvm.Cond.code x code maxLocals ret :: tables_1
/-- a 'code' word, met by the world's own term for the bytes: nothing is compared byte by byte -/
theorem code_word {y : MethodName} {bytes : ByteArray} {mx : Nat} {rt : Option FieldType} {a : Array Value} {s : State} {m : MethodId} {meth : Method} {c : Code} (h1 : s.methodNamed? y = some m) (h2 : s.vm.method? m = some meth) (h3 : meth.code = some c) (h4 : c.code = bytes)
    (h5 : (c.maxLocals == mx && c.exceptionTable.isEmpty && decide (c.maxStack ≤ mostOperands) && decide (meth.sig.returnType = rt) && !meth.locks && decide (parseMethodDescriptor y.desc = some meth.sig)) = true) : (Jvm.Cond.code y bytes mx rt).before a s = true := by
  simp only [Bool.and_eq_true, beq_iff_eq, Bool.not_eq_true', decide_eq_true_eq] at h5
  obtain ⟨⟨⟨⟨⟨g1, g2⟩, g3⟩, g4⟩, g5⟩, g6⟩ := h5
  simp [Cond.before, Cond.holds, Cond.value, h1, h2, h3, h4, g1, g2, g3, g4, g5, g6]
def isCode : Jvm.Cond → Bool
  | .code _ _ _ _ => true
  | _ => false
theorem all_split {L : List Jvm.Cond} {P : Jvm.Cond → Bool} (h1 : L.all (fun c => isCode c || P c) = true) (h2 : ∀ c ∈ L.filter isCode, P c = true) : L.all P = true := by
  refine List.all_eq_true.mpr fun c hc => ?_
  have h := List.all_eq_true.mp h1 c hc
  rcases Bool.eq_false_or_eq_true (isCode c) with hi | hi
  · exact h2 c (List.mem_filter.mpr ⟨hc, hi⟩)
  · simpa [hi] using h
set_option maxRecDepth 65536 in
theorem w_c0 : (Jvm.Cond.code x code maxLocals ret).before args0 about1 = true := code_word (m := ⟨1, 3⟩) (meth := k1m3) (c := k1c3) (by decide +kernel) rfl rfl rfl (by decide +kernel)
set_option maxRecDepth 65536 in
theorem w_c1 : (Jvm.Cond.code ({ cls := "com/example/reset/reset/VariableDegreeInPinLaw", name := "bit", desc := "(II)Z" } : Jvm.MethodName) method_2_code (2 : Nat) (Option.some Jvm.ClassFile.FieldType.boolean)).before args0 about1 = true := code_word (m := ⟨1, 1⟩) (meth := k1m1) (c := k1c1) (by decide +kernel) rfl rfl rfl (by decide +kernel)
set_option maxRecDepth 65536 in
theorem w_c2 : (Jvm.Cond.code ({ cls := "java/lang/String", name := "<init>", desc := "([C)V" } : Jvm.MethodName) jdk_42_method_3_code (2 : Nat) (Option.none : Option Jvm.ClassFile.FieldType)).before args0 about1 = true := code_word (m := ⟨7, 1⟩) (meth := k7m1) (c := k7c1) (by decide +kernel) rfl rfl rfl (by decide +kernel)
set_option maxRecDepth 65536 in
theorem w_c3 : (Jvm.Cond.code ({ cls := "java/lang/String", name := "<init>", desc := "([CIILjava/lang/Void;)V" } : Jvm.MethodName) jdk_42_method_149_code (6 : Nat) (Option.none : Option Jvm.ClassFile.FieldType)).before args0 about1 = true := code_word (m := ⟨7, 2⟩) (meth := k7m2) (c := k7c2) (by decide +kernel) rfl rfl rfl (by decide +kernel)
set_option maxRecDepth 65536 in
theorem w_c4 : (Jvm.Cond.code ({ cls := "java/lang/Object", name := "<init>", desc := "()V" } : Jvm.MethodName) object_method_1_code (1 : Nat) (Option.none : Option Jvm.ClassFile.FieldType)).before args0 about1 = true := code_word (m := ⟨0, 0⟩) (meth := k0m0) (c := k0c0) (by decide +kernel) rfl rfl rfl (by decide +kernel)
set_option maxRecDepth 65536 in
theorem w_c5 : (Jvm.Cond.code ({ cls := "java/lang/StringUTF16", name := "compress", desc := "([CII)[B" } : Jvm.MethodName) jdk_52_method_16_code (6 : Nat) (Option.some (Jvm.ClassFile.FieldType.array Jvm.ClassFile.FieldType.byte))).before args0 about1 = true := code_word (m := ⟨8, 2⟩) (meth := k8m2) (c := k8c2) (by decide +kernel) rfl rfl rfl (by decide +kernel)
set_option maxRecDepth 65536 in
theorem w_c6 : (Jvm.Cond.code ({ cls := "java/lang/StringUTF16", name := "compress", desc := "([CI[BII)I" } : Jvm.MethodName) jdk_52_method_21_code (7 : Nat) (Option.some Jvm.ClassFile.FieldType.int)).before args0 about1 = true := code_word (m := ⟨8, 3⟩) (meth := k8m3) (c := k8c3) (by decide +kernel) rfl rfl rfl (by decide +kernel)
set_option maxRecDepth 65536 in
theorem w_c7 : (Jvm.Cond.code ({ cls := "java/lang/StringUTF16", name := "coderFromArrayLen", desc := "([BI)B" } : Jvm.MethodName) jdk_52_method_15_code (2 : Nat) (Option.some Jvm.ClassFile.FieldType.byte)).before args0 about1 = true := code_word (m := ⟨8, 1⟩) (meth := k8m1) (c := k8c1) (by decide +kernel) rfl rfl rfl (by decide +kernel)
set_option maxRecDepth 65536 in
theorem w_c8 : (Jvm.Cond.code ({ cls := "com/example/reset/reset/Expression$Variable", name := "<init>", desc := "(ILjava/lang/String;)V" } : Jvm.MethodName) prog_19_method_1_code (3 : Nat) (Option.none : Option Jvm.ClassFile.FieldType)).before args0 about1 = true := code_word (m := ⟨11, 0⟩) (meth := k11m0) (c := k11c0) (by decide +kernel) rfl rfl rfl (by decide +kernel)
set_option maxRecDepth 65536 in
theorem w_c9 : (Jvm.Cond.code ({ cls := "java/lang/Record", name := "<init>", desc := "()V" } : Jvm.MethodName) jdk_30_method_1_code (1 : Nat) (Option.none : Option Jvm.ClassFile.FieldType)).before args0 about1 = true := code_word (m := ⟨9, 0⟩) (meth := k9m0) (c := k9c0) (by decide +kernel) rfl rfl rfl (by decide +kernel)
set_option maxRecDepth 65536 in
theorem w_c10 : (Jvm.Cond.code ({ cls := "com/example/reset/reset/Expression$Variable", name := "degreeIn", desc := "([Z)I" } : Jvm.MethodName) prog_19_method_4_code (3 : Nat) (Option.some Jvm.ClassFile.FieldType.int)).before args0 about1 = true := code_word (m := ⟨11, 1⟩) (meth := k11m1) (c := k11c1) (by decide +kernel) rfl rfl rfl (by decide +kernel)
set_option maxRecDepth 65536 in
theorem w_c11 : (Jvm.Cond.code ({ cls := "com/example/reset/reset/VariableDegreeInPinLaw", name := "pack", desc := "([Z)I" } : Jvm.MethodName) method_3_code (2 : Nat) (Option.some Jvm.ClassFile.FieldType.int)).before args0 about1 = true := code_word (m := ⟨1, 2⟩) (meth := k1m2) (c := k1c2) (by decide +kernel) rfl rfl rfl (by decide +kernel)
def codes1 : List Jvm.Cond := [Jvm.Cond.code x code maxLocals ret, Jvm.Cond.code ({ cls := "com/example/reset/reset/VariableDegreeInPinLaw", name := "bit", desc := "(II)Z" } : Jvm.MethodName) method_2_code (2 : Nat) (Option.some Jvm.ClassFile.FieldType.boolean), Jvm.Cond.code ({ cls := "java/lang/String", name := "<init>", desc := "([C)V" } : Jvm.MethodName) jdk_42_method_3_code (2 : Nat) (Option.none : Option Jvm.ClassFile.FieldType), Jvm.Cond.code ({ cls := "java/lang/String", name := "<init>", desc := "([CIILjava/lang/Void;)V" } : Jvm.MethodName) jdk_42_method_149_code (6 : Nat) (Option.none : Option Jvm.ClassFile.FieldType), Jvm.Cond.code ({ cls := "java/lang/Object", name := "<init>", desc := "()V" } : Jvm.MethodName) object_method_1_code (1 : Nat) (Option.none : Option Jvm.ClassFile.FieldType), Jvm.Cond.code ({ cls := "java/lang/StringUTF16", name := "compress", desc := "([CII)[B" } : Jvm.MethodName) jdk_52_method_16_code (6 : Nat) (Option.some (Jvm.ClassFile.FieldType.array Jvm.ClassFile.FieldType.byte)), Jvm.Cond.code ({ cls := "java/lang/StringUTF16", name := "compress", desc := "([CI[BII)I" } : Jvm.MethodName) jdk_52_method_21_code (7 : Nat) (Option.some Jvm.ClassFile.FieldType.int), Jvm.Cond.code ({ cls := "java/lang/StringUTF16", name := "coderFromArrayLen", desc := "([BI)B" } : Jvm.MethodName) jdk_52_method_15_code (2 : Nat) (Option.some Jvm.ClassFile.FieldType.byte), Jvm.Cond.code ({ cls := "com/example/reset/reset/Expression$Variable", name := "<init>", desc := "(ILjava/lang/String;)V" } : Jvm.MethodName) prog_19_method_1_code (3 : Nat) (Option.none : Option Jvm.ClassFile.FieldType), Jvm.Cond.code ({ cls := "java/lang/Record", name := "<init>", desc := "()V" } : Jvm.MethodName) jdk_30_method_1_code (1 : Nat) (Option.none : Option Jvm.ClassFile.FieldType), Jvm.Cond.code ({ cls := "com/example/reset/reset/Expression$Variable", name := "degreeIn", desc := "([Z)I" } : Jvm.MethodName) prog_19_method_4_code (3 : Nat) (Option.some Jvm.ClassFile.FieldType.int), Jvm.Cond.code ({ cls := "com/example/reset/reset/VariableDegreeInPinLaw", name := "pack", desc := "([Z)I" } : Jvm.MethodName) method_3_code (2 : Nat) (Option.some Jvm.ClassFile.FieldType.int)]
set_option maxRecDepth 65536 in
theorem codes_eq : words1.filter isCode = codes1 := rfl
theorem w_codes : ∀ c ∈ words1.filter isCode, c.before args0 about1 = true := by
  rw [codes_eq]
  intro c hc
  simp only [codes1, List.mem_cons, List.not_mem_nil, or_false] at hc
  rcases hc with rfl | rfl | rfl | rfl | rfl | rfl | rfl | rfl | rfl | rfl | rfl | rfl
  · exact w_c0
  · exact w_c1
  · exact w_c2
  · exact w_c3
  · exact w_c4
  · exact w_c5
  · exact w_c6
  · exact w_c7
  · exact w_c8
  · exact w_c9
  · exact w_c10
  · exact w_c11
set_option maxRecDepth 65536 in
theorem w_t1 : (words1.take 24).all (fun c => isCode c || c.before args0 about1) = true := by decide +kernel
set_option maxRecDepth 65536 in
theorem w_t2 : ((words1.drop 24).take 24).all (fun c => isCode c || c.before args0 about1) = true := by decide +kernel
set_option maxRecDepth 65536 in
theorem w_t3 : ((words1.drop 24).drop 24).all (fun c => isCode c || c.before args0 about1) = true := by decide +kernel
theorem w_tables : (allAtoms (Jvm.Cond.code x code maxLocals ret :: tables_1)).before args0 about1 = true := by
  rw [allAtoms_all]
  show words1.all (fun c => c.before args0 about1) = true
  refine all_split ?_ w_codes
  rw [← List.take_append_drop 24 words1, List.all_append, w_t1, ← List.take_append_drop 24 (words1.drop 24), List.all_append, w_t2, w_t3]
  rfl
set_option maxRecDepth 65536 in
theorem w_rest : rest_1_c.before args0 about1 = true := by decide +kernel
set_option maxRecDepth 65536 in
theorem w_case : (Jvm.Cond.and given_1 narrow_1).before args0 about1 = true := by decide +kernel
theorem w_applies : (headSpec (Jvm.Cond.code x code maxLocals ret :: tables_1) room_1).applies x e0.platform about1 = true :=
  (Spec.applies_iff w_frames).mpr ⟨w_running, w_runnable, w_alone, w_named, w_hears, w_ripe, w_room, w_tables⟩
theorem atStart : AtStart classFile x code maxLocals ret World_1 tables_1 room_1 Calls_1 rest_1 Pre_1 launch0 p0 e0 about1 theMethod args0 below0 :=
  ⟨lists_1, trivial, launch0.admits_env _ _ _, launch0.least_env, fairChoices_fair.cas, fairChoices_fair.clock, w_frames, w_args, w_heap, w_applies, trivial, w_rest, w_case⟩
end start1
theorem witness_1 : WitnessClaimed_1 := ⟨start1.p0, start1.e0, start1.about1, start1.theMethod, start1.args0, start1.below0, start1.atStart⟩
end Jvm.Pilot.@@N@@
