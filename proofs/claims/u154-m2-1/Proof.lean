import JvmDerived
import JvmDerived.Pilot.@@N@@Statement
import JvmDerived.Pilot.@@N@@Code
set_option linter.unusedVariables false
set_option linter.unusedSimpArgs false
namespace Jvm.RoadKit
open Sem ClassFile Op Lib Jvm.Stand Jvm.Free Jvm.LawKit
section New
variable {p : Program} {l : Launch} {e : Env} {R : Room} {s : State} {m : MethodId} {args : Array Value} {below : List Frame} {meth : Method} {c : Code} {T : State} {locs : List Loc} {cells slots : Nat}
theorem retI (X : Stand p l e R s m args below meth c T locs cells slots) (hx : p.tables.exec = Jvm.exec) {pc : Nat} {Ls : Array Slot} {z : Int32} {rest : List Value} (hret : meth.sig.returnType = some .int) (hd : decode c.code pc = .ok (.ireturn, 1)) {fs : List Frame}
    (hl : ∀ (f : JFrame) (acts : List Action), f.method = m → f.locked = none → f.entered = [] → (doReturn e (T.setTop f) acts (some (.int z))).1 = T.setFrames fs) : Steps p.tables e below (T.setTop (mkF m pc Ls (.int z :: rest))) (T.setFrames fs) := by
  have hm' : T.vm.method? m = some meth := X.method'
  have hn : narrow .int (.int z) = .int z := rfl
  show Steps p.tables e below (T.setTop { method := m, pc := pc, locals := Ls, stack := _ :: rest, locked := none }) _
  jvm_step X.here [X.here.top, hx, hd, hm', hret, hn]
  first | (intro acts; rw [hl _ acts rfl rfl rfl]) | rw [hl _ _ rfl rfl rfl]
  exact Steps.refl _
end New
end Jvm.RoadKit
/- laws to paste: Road.backV (cut by pick.py; bodies as the Statement names them) -/
namespace Jvm.Pilot.@@N@@
namespace StrChars
open Jvm Sem ClassFile Op Lib Jvm.Stand Jvm.Free.XT Jvm.Free.ALB Jvm.Free.JM Jvm.Free
open Jvm.Lib.Cold (StaticIs)
/-- a char array whose places are chars -/
def Ch (a : Addr) (A : Cell) (U : State) : Prop := Arr .char a A U ∧ Typed .char A
theorem Ch.mv {a : Addr} {A : Cell} {U U' : State} (h : Ch a A U) (hal : U.vm.Alike U'.vm) (hh : U'.heap = U.heap) : Ch a A U' := ⟨h.1.mv hal hh, h.2⟩
theorem Ch.keep {a : Addr} {A : Cell} {U U' : State} (h : Ch a A U) (hal : U.vm.Alike U'.vm) (hk : U'.heap[a]? = some A) : Ch a A U' := ⟨h.1.keep hal hk, h.2⟩
/-- what place i of a char[]'s cell holds -/
def cv (A : Cell) (i : Nat) : Int32 := match A.slots[i]? with | some (.int x) => x | _ => 0
theorem Ch.get {a : Addr} {A : Cell} {U : State} (h : Ch a A U) {i : Nat} (hi : i < A.slots.size) : A.slots[i]? = some (.int (cv A i)) := by
  have e := Array.getElem?_eq_getElem hi
  have f := h.2 i _ e
  unfold cv; rw [e]
  generalize A.slots[i] = v at f
  cases v <;> simp [fits] at f ⊢
/-- the byte that i2b leaves of a char -/
def lo8 (x : Int32) : Int32 := x.toInt8.toInt32
theorem fits_lo8 (y : Int32) : fits .byte (.int (lo8 y)) = true := by
  have h1 := y.toInt8.le_toInt
  have h2 := y.toInt8.toInt_lt
  simp only [lo8, fits, Bool.and_eq_true, decide_eq_true_eq, Int32.le_iff_toInt_le, Int8.toInt_toInt32, show (-128 : Int32).toInt = -128 from by decide, show (127 : Int32).toInt = 127 from by decide]
  omega
/-- A' is A but that each place j of lo .. hi - 1 holds f j -/
def Laid (A A' : Cell) (lo hi : Nat) (f : Nat → Value) : Prop := A'.cls = A.cls ∧ A'.vm = A.vm ∧ A'.slots.size = A.slots.size ∧ ∀ i, A'.slots[i]? = if lo ≤ i ∧ i < hi then some (f i) else A.slots[i]?
theorem Laid.zero (A : Cell) (lo : Nat) (f : Nat → Value) : Laid A A lo (lo + 0) f := ⟨rfl, rfl, rfl, fun i => by rw [if_neg (by omega)]⟩
theorem Laid.step {A Ak : Cell} {lo k : Nat} {f : Nat → Value} {v : Value} (h : Laid A Ak lo k f) (hlo : lo ≤ k) (hk : k < Ak.slots.size) (hv : v = f k) : Laid A (Ak.setSlot k v) lo (k + 1) f := by
  refine ⟨h.1, h.2.1, by simpa [Cell.setSlot] using h.2.2.1, fun i => ?_⟩
  by_cases e : k = i
  · subst e; rw [Cell.slots_setSlot_self v hk, if_pos (by omega), hv]
  · rw [Cell.slots_setSlot_ne v e, h.2.2.2 i]
    by_cases q : lo ≤ i ∧ i < k
    · rw [if_pos q, if_pos (by omega)]
    · rw [if_neg q, if_neg (by omega)]
def U16 : String := "java/lang/StringUTF16"
namespace Cmp5
def yN : MethodName := ⟨"java/lang/StringUTF16", "compress", "([CI[BII)I"⟩
abbrev yB : ByteArray := jdk_52_method_21_code
theorem d0 : decode yB 0 = .ok (.iconst 0, 1) := by decide +kernel
theorem d1 : decode yB 1 = .ok (.istore 5, 2) := by decide +kernel
theorem d3 : decode yB 3 = .ok (.iload 5, 2) := by decide +kernel
theorem d5 : decode yB 5 = .ok (.iload 4, 2) := by decide +kernel
theorem d7 : decode yB 7 = .ok (.if_icmp (.ge) 37, 3) := by decide +kernel
theorem d10 : decode yB 10 = .ok (.aload_n 0, 1) := by decide +kernel
theorem d11 : decode yB 11 = .ok (.iload_n 1, 1) := by decide +kernel
theorem d12 : decode yB 12 = .ok (.caload, 1) := by decide +kernel
theorem d13 : decode yB 13 = .ok (.istore 6, 2) := by decide +kernel
theorem d15 : decode yB 15 = .ok (.iload 6, 2) := by decide +kernel
theorem d17 : decode yB 17 = .ok (.sipush 255, 3) := by decide +kernel
theorem d20 : decode yB 20 = .ok (.if_icmp (.le) 6, 3) := by decide +kernel
theorem d26 : decode yB 26 = .ok (.aload_n 2, 1) := by decide +kernel
theorem d27 : decode yB 27 = .ok (.iload_n 3, 1) := by decide +kernel
theorem d28 : decode yB 28 = .ok (.iload 6, 2) := by decide +kernel
theorem d30 : decode yB 30 = .ok (.i2b, 1) := by decide +kernel
theorem d31 : decode yB 31 = .ok (.bastore, 1) := by decide +kernel
theorem d32 : decode yB 32 = .ok (.iinc 1 1, 3) := by decide +kernel
theorem d35 : decode yB 35 = .ok (.iinc 3 1, 3) := by decide +kernel
theorem d38 : decode yB 38 = .ok (.iinc 5 1, 3) := by decide +kernel
theorem d41 : decode yB 41 = .ok (.goto (-38), 3) := by decide +kernel
theorem d44 : decode yB 44 = .ok (.iload 4, 2) := by decide +kernel
theorem d46 : decode yB 46 = .ok (.ireturn, 1) := by decide +kernel
def site : List Cond := []
def tab : Cond := tabOf yN yB 7 (some .int) site
def P (b : Addr) (A : Cell) (d : Addr) (B : Cell) (o q len : Nat) (args : Array Value) (s : State) : Prop := args = #[.ref b, .int (Int32.ofNat o), .ref d, .int (Int32.ofNat q), .int (Int32.ofNat len)] ∧ Ch b A s ∧ Arr .byte d B s ∧ b ≠ d ∧ o + len ≤ A.slots.size ∧ q + len ≤ B.slots.size ∧ ∀ i, i < len → ¬ 255 < cv A (o + i)
def E (b : Addr) (A : Cell) (d : Addr) (B : Cell) (o q len : Nat) (r : Option Value) (s u : State) : Prop := r = some (.int (Int32.ofNat len)) ∧ ∃ B', Put d B' s u ∧ Laid B B' q (q + len) (fun j => Value.int (lo8 (cv A (o + (j - q)))))
/-- no char of the range above 255: len; the places written hold each char's low byte -/
theorem law (l : Launch) (b : Addr) (A : Cell) (d : Addr) (B : Cell) (o q len : Nat) : Law l yN 5 5 0 0 yB 7 (some .int) site (P b A d B o q len) (E b A d B o q len) (copyLocs d q len) 0 0 := by
  refine Law.of_walk (plainFor_of_name (by decide +kernel)) (by decide +kernel) (by decide +kernel) (by decide) (fun _ _ h => by rw [h.1]; rfl) (fun _ U U' hal hh h => ⟨h.1, h.2.1.mv hal hh, h.2.2.1.mv hal hh, h.2.2.2⟩) (fun r U U' V V' h1 hal h2 h => ⟨h.1, h.2.elim fun B' q => ⟨B', q.1.mv h1 h2, q.2⟩⟩) ?_
  intro p e s m args below meth c s₁ X0 hexec hbytes hml hret hlk hnm hown hh0 W hP
  obtain ⟨rfl, hA, hB, hne, l1, l2, hp⟩ := hP
  have c1 : Steps p.tables e below (s₁.setTop (entryFrame m #[.ref b, .int (Int32.ofNat o), .ref d, .int (Int32.ofNat q), .int (Int32.ofNat len)] 7)) (s₁.setTop (mkF m 0 #[.val (.ref b), .val (.int (Int32.ofNat o)), .val (.ref d), .val (.int (Int32.ofNat q)), .val (.int (Int32.ofNat len)), .unset, .unset] [])) := entry rfl
  have hA0 := hA.1.mv X0.warmed.alike hh0
  have hB0 := hB.mv X0.warmed.alike hh0
  have a31 := hA.1.2.2.2
  have c2 : Steps p.tables e below (s₁.setTop (entryFrame m #[.ref b, .int (Int32.ofNat o), .ref d, .int (Int32.ofNat q), .int (Int32.ofNat len)] 7)) (s₁.setTop (mkF m 3 #[.val (.ref b), .val (.int (Int32.ofNat o)), .val (.ref d), .val (.int (Int32.ofNat q)), .val (.int (Int32.ofNat len)), .val (.int 0), .unset] [])) := c1.trans (by
    refine iconstV X0.here hexec rfl 0 (hb hbytes d0) (by decide) ?_
    refine XS.istore X0.here hexec rfl (hb hbytes d1) rfl rfl ?_
    exact Steps.refl _)
  have loop : ∀ (r i : Nat), i + r = len → ∀ (z : Slot), (z = .unset ∨ ∃ w, z = .val w ∧ w.category = 1) → ∀ (Tl : State) (Bk : Cell), Stand p l e { frames := 0, locals := 0, cells := 0, slots := 0 } s m #[.ref b, .int (Int32.ofNat o), .ref d, .int (Int32.ofNat q), .int (Int32.ofNat len)] below meth c Tl ([] ++ copyLocs d q i) 0 0 → Put d Bk s₁ Tl → Laid B Bk q (q + i) (fun j => Value.int (lo8 (cv A (o + (j - q))))) →
      Steps p.tables e below (s₁.setTop (entryFrame m #[.ref b, .int (Int32.ofNat o), .ref d, .int (Int32.ofNat q), .int (Int32.ofNat len)] 7)) (Tl.setTop (mkF m 3 #[.val (.ref b), .val (.int (Int32.ofNat (o + i))), .val (.ref d), .val (.int (Int32.ofNat (q + i))), .val (.int (Int32.ofNat len)), .val (.int (Int32.ofNat i)), z] [])) → ∃ (T' : State) (B' : Cell) (z' : Slot), Stand p l e { frames := 0, locals := 0, cells := 0, slots := 0 } s m #[.ref b, .int (Int32.ofNat o), .ref d, .int (Int32.ofNat q), .int (Int32.ofNat len)] below meth c T' ([] ++ copyLocs d q len) 0 0 ∧ Put d B' s₁ T' ∧ Laid B B' q (q + len) (fun j => Value.int (lo8 (cv A (o + (j - q))))) ∧
      Steps p.tables e below (s₁.setTop (entryFrame m #[.ref b, .int (Int32.ofNat o), .ref d, .int (Int32.ofNat q), .int (Int32.ofNat len)] 7)) (T'.setTop (mkF m 3 #[.val (.ref b), .val (.int (Int32.ofNat (o + len))), .val (.ref d), .val (.int (Int32.ofNat (q + len))), .val (.int (Int32.ofNat len)), .val (.int (Int32.ofNat len)), z'] [])) := by
    intro r
    induction r with
    | zero =>
      intro i hi z hz Tl Bk Xl pl fl cl
      have hil : i = len := by omega
      rw [hil] at Xl fl cl
      exact ⟨Tl, Bk, z, Xl, pl, fl, cl⟩
    | succ r ih =>
      intro i hi z hz Tl Bk Xl pl fl cl
      have all := X0.warmed.alike.symm.trans Xl.warmed.alike
      have hAl := hA0.keep all (pl.other hne hA0.1)
      have hBk := hB0.like all pl.1 fl.1 fl.2.1 fl.2.2.1
      have hlt : q + i < Bk.slots.size := by rw [fl.2.2.1]; omega
      have c3 : Steps p.tables e below (s₁.setTop (entryFrame m #[.ref b, .int (Int32.ofNat o), .ref d, .int (Int32.ofNat q), .int (Int32.ofNat len)] 7)) (Tl.setTop (mkF m 12 #[.val (.ref b), .val (.int (Int32.ofNat (o + i))), .val (.ref d), .val (.int (Int32.ofNat (q + i))), .val (.int (Int32.ofNat len)), .val (.int (Int32.ofNat i)), z] [.int (Int32.ofNat (o + i)), .ref b])) := cl.trans (by
        refine XS.iload Xl.here hexec rfl (hb hbytes d3) rfl ?_
        refine XS.iload Xl.here hexec rfl (hb hbytes d5) rfl ?_
        refine XS.icmpNo Xl.here hexec rfl (hb hbytes d7) rfl (ii_ge_f (lt32 (by omega) (by omega))) ?_
        refine XS.aloadN Xl.here hexec rfl (hb hbytes d10) rfl rfl ?_
        refine XS.iloadN Xl.here hexec rfl (hb hbytes d11) rfl ?_
        exact Steps.refl _)
      have c4 : Steps p.tables e below (s₁.setTop (entryFrame m #[.ref b, .int (Int32.ofNat o), .ref d, .int (Int32.ofNat q), .int (Int32.ofNat len)] 7)) (Tl.setTop (mkF m 13 #[.val (.ref b), .val (.int (Int32.ofNat (o + i))), .val (.ref d), .val (.int (Int32.ofNat (q + i))), .val (.int (Int32.ofNat len)), .val (.int (Int32.ofNat i)), z] [.int (cv A (o + i))])) := c3.trans (by
        refine Xl.aget hexec hAl rfl (hA.get (i := o + i) (by omega)) rfl rfl (hb hbytes d12) ?_
        exact Steps.refl _)
      have c5 : Steps p.tables e below (s₁.setTop (entryFrame m #[.ref b, .int (Int32.ofNat o), .ref d, .int (Int32.ofNat q), .int (Int32.ofNat len)] 7)) (Tl.setTop (mkF m 15 #[.val (.ref b), .val (.int (Int32.ofNat (o + i))), .val (.ref d), .val (.int (Int32.ofNat (q + i))), .val (.int (Int32.ofNat len)), .val (.int (Int32.ofNat i)), .val (.int (cv A (o + i)))] [])) := c4.trans (by
        refine XS.istoreS Xl.here hexec rfl (hb hbytes d13) rfl rfl hz ?_
        exact Steps.refl _)
      have c6 : Steps p.tables e below (s₁.setTop (entryFrame m #[.ref b, .int (Int32.ofNat o), .ref d, .int (Int32.ofNat q), .int (Int32.ofNat len)] 7)) (Tl.setTop (mkF m 31 #[.val (.ref b), .val (.int (Int32.ofNat (o + i))), .val (.ref d), .val (.int (Int32.ofNat (q + i))), .val (.int (Int32.ofNat len)), .val (.int (Int32.ofNat i)), .val (.int (cv A (o + i)))] [.int (lo8 (cv A (o + i))), .int (Int32.ofNat (q + i)), .ref d])) := c5.trans (by
        refine XS.iload Xl.here hexec rfl (hb hbytes d15) rfl ?_
        refine sipushV Xl.here hexec rfl 255 (hb hbytes d17) (by decide) ?_
        refine XS.icmpYes Xl.here hexec rfl (pc0 := 20) rfl (hb hbytes d20) rfl (ii_le_t (hp i (by omega))) (by decide) rfl ?_
        refine XS.aloadN Xl.here hexec rfl (hb hbytes d26) rfl rfl ?_
        refine XS.iloadN Xl.here hexec rfl (hb hbytes d27) rfl ?_
        refine XS.iload Xl.here hexec rfl (hb hbytes d28) rfl ?_
        refine i2b Xl.here hexec rfl (hb hbytes d30) rfl ?_
        exact Steps.refl _)
      obtain ⟨T7, X7, p7, st7⟩ := Xl.aput hexec hBk rfl hlt rfl (fits_lo8 (cv A (o + i))) (g := (mkF m 31 #[.val (.ref b), .val (.int (Int32.ofNat (o + i))), .val (.ref d), .val (.int (Int32.ofNat (q + i))), .val (.int (Int32.ofNat len)), .val (.int (Int32.ofNat i)), .val (.int (cv A (o + i)))] [.int (lo8 (cv A (o + i))), .int (Int32.ofNat (q + i)), .ref d])) rfl (rest := []) rfl (hb hbytes d31)
      have c8 : Steps p.tables e below (s₁.setTop (entryFrame m #[.ref b, .int (Int32.ofNat o), .ref d, .int (Int32.ofNat q), .int (Int32.ofNat len)] 7)) (T7.setTop (mkF m 32 #[.val (.ref b), .val (.int (Int32.ofNat (o + i))), .val (.ref d), .val (.int (Int32.ofNat (q + i))), .val (.int (Int32.ofNat len)), .val (.int (Int32.ofNat i)), .val (.int (cv A (o + i)))] [])) := c6.trans (st7 _ (Steps.refl _))
      have c9 : Steps p.tables e below (s₁.setTop (entryFrame m #[.ref b, .int (Int32.ofNat o), .ref d, .int (Int32.ofNat q), .int (Int32.ofNat len)] 7)) (T7.setTop (mkF m 3 #[.val (.ref b), .val (.int (Int32.ofNat (o + i) + 1)), .val (.ref d), .val (.int (Int32.ofNat (q + i) + 1)), .val (.int (Int32.ofNat len)), .val (.int (Int32.ofNat i + 1)), .val (.int (cv A (o + i)))] [])) := c8.trans (by
        refine iincV X7.here hexec rfl 1 (hb hbytes d32) (by decide) rfl rfl ?_
        refine iincV X7.here hexec rfl 1 (hb hbytes d35) (by decide) rfl rfl ?_
        refine iincV X7.here hexec rfl 1 (hb hbytes d38) (by decide) rfl rfl ?_
        refine XS.goto X7.here hexec rfl (pc0 := 41) rfl (hb hbytes d41) (by decide) rfl ?_
        exact Steps.refl _)
      have c10 : Steps p.tables e below (s₁.setTop (entryFrame m #[.ref b, .int (Int32.ofNat o), .ref d, .int (Int32.ofNat q), .int (Int32.ofNat len)] 7)) (T7.setTop (mkF m 3 #[.val (.ref b), .val (.int (Int32.ofNat (o + (i + 1)))), .val (.ref d), .val (.int (Int32.ofNat (q + (i + 1)))), .val (.int (Int32.ofNat len)), .val (.int (Int32.ofNat (i + 1))), .val (.int (cv A (o + i)))] [])) := by
        have := c9
        rw [succ32, succ32, succ32] at this
        exact this
      exact ih (i + 1) (by omega) _ (Or.inr ⟨_, rfl, rfl⟩) T7 _ (by rw [copyLocs_step, ← List.append_assoc]; exact X7) (pl.trans p7) (fl.step (by omega) hlt (by simp)) c10
  obtain ⟨T9, B9, z9, X9, p9, f9, g9⟩ := loop len 0 (by omega) .unset (Or.inl rfl) s₁ B (by simpa [copyLocs] using X0) ⟨hB0.1, fun _ _ => rfl, rfl⟩ (Laid.zero _ _ _) c2
  have c11 : Steps p.tables e below (s₁.setTop (entryFrame m #[.ref b, .int (Int32.ofNat o), .ref d, .int (Int32.ofNat q), .int (Int32.ofNat len)] 7)) (T9.setTop (mkF m 46 #[.val (.ref b), .val (.int (Int32.ofNat (o + len))), .val (.ref d), .val (.int (Int32.ofNat (q + len))), .val (.int (Int32.ofNat len)), .val (.int (Int32.ofNat len)), z9] [.int (Int32.ofNat len)])) := g9.trans (by
    refine XS.iload X9.here hexec rfl (hb hbytes d3) rfl ?_
    refine XS.iload X9.here hexec rfl (hb hbytes d5) rfl ?_
    refine XS.icmpYes X9.here hexec rfl (pc0 := 7) rfl (hb hbytes d7) rfl (ii_ge_t (nlt32 (by omega) (Nat.le_refl _))) (by decide) rfl ?_
    refine XS.iload X9.here hexec rfl (hb hbytes d44) rfl ?_
    exact Steps.refl _)
  exact ⟨T9, some (.int (Int32.ofNat len)), _, _, _, X9, by simp, rfl, rfl, (fun h => by cases h), ⟨rfl, B9, p9.from hh0, f9⟩, fun fs hl => c11.trans (X9.ireturnOut hexec hret rfl (Or.inl rfl) (hb hbytes d46) hl)⟩
end Cmp5
namespace Cmp3
def yN : MethodName := ⟨"java/lang/StringUTF16", "compress", "([CII)[B"⟩
abbrev yB : ByteArray := jdk_52_method_16_code
theorem d0 : decode yB 0 = .ok (.iload_n 2, 1) := by decide +kernel
theorem d1 : decode yB 1 = .ok (.newarray .byte, 2) := by decide +kernel
theorem d3 : decode yB 3 = .ok (.astore_n 3, 1) := by decide +kernel
theorem d4 : decode yB 4 = .ok (.aload_n 0, 1) := by decide +kernel
theorem d5 : decode yB 5 = .ok (.iload_n 1, 1) := by decide +kernel
theorem d6 : decode yB 6 = .ok (.aload_n 3, 1) := by decide +kernel
theorem d7 : decode yB 7 = .ok (.iconst 0, 1) := by decide +kernel
theorem d8 : decode yB 8 = .ok (.iload_n 2, 1) := by decide +kernel
theorem d9 : decode yB 9 = .ok (.invokestatic 115, 3) := by decide +kernel
theorem d12 : decode yB 12 = .ok (.istore 4, 2) := by decide +kernel
theorem d14 : decode yB 14 = .ok (.iload 4, 2) := by decide +kernel
theorem d16 : decode yB 16 = .ok (.iload_n 2, 1) := by decide +kernel
theorem d17 : decode yB 17 = .ok (.if_icmp (.eq) 40, 3) := by decide +kernel
theorem d57 : decode yB 57 = .ok (.aload_n 3, 1) := by decide +kernel
theorem d58 : decode yB 58 = .ok (.areturn, 1) := by decide +kernel
def site : List Cond := [.arrayClass .byte, Cmp5.tab] ++ staticW U16 115 Cmp5.yN
def tab : Cond := tabOf yN yB 6 (some (.array .byte)) site
def P (b : Addr) (A : Cell) (o len : Nat) (args : Array Value) (s : State) : Prop := args = #[.ref b, .int (Int32.ofNat o), .int (Int32.ofNat len)] ∧ Ch b A s ∧ o + len ≤ A.slots.size ∧ len ≤ 536870912 ∧ ∀ i, i < len → ¬ 255 < cv A (o + i)
def E (b : Addr) (A : Cell) (o len : Nat) (r : Option Value) (s u : State) : Prop := NewArr .byte "[B" len (fun j => .int (lo8 (cv A (o + j)))) r s u ∧ u.heap.size = s.heap.size + 1
/-- no char of the range above 255: a new byte[] of their low bytes -/
theorem law (l : Launch) (b : Addr) (A : Cell) (o len : Nat) : Law l yN 3 3 1 18 yB 6 (some (.array .byte)) site (P b A o len) (E b A o len) [] 1 len := by
  refine Law.of_walk (plainFor_of_name (by decide +kernel)) (by decide +kernel) (by decide +kernel) (by decide) (fun _ _ h => by rw [h.1]; rfl) (fun _ U U' hal hh h => ⟨h.1, h.2.1.mv hal hh, h.2.2⟩) (fun r U U' V V' h1 hal h2 h => ⟨NewArr.mv r U U' V V' h1 hal h2 h.1, by rw [h1, h2]; exact h.2⟩) ?_
  intro p e s m args below meth c s₁ X0 hexec hbytes hml hret hlk hnm hown hh0 W hP
  obtain ⟨rfl, hA, l1, l2, hp⟩ := hP
  have a31 := hA.1.2.2.2
  have c1 : Steps p.tables e below (s₁.setTop (entryFrame m #[.ref b, .int (Int32.ofNat o), .int (Int32.ofNat len)] 6)) (s₁.setTop (mkF m 0 #[.val (.ref b), .val (.int (Int32.ofNat o)), .val (.int (Int32.ofNat len)), .unset, .unset, .unset] [])) := entry rfl
  have c2 : Steps p.tables e below (s₁.setTop (entryFrame m #[.ref b, .int (Int32.ofNat o), .int (Int32.ofNat len)] 6)) (s₁.setTop (mkF m 1 #[.val (.ref b), .val (.int (Int32.ofNat o)), .val (.int (Int32.ofNat len)), .unset, .unset, .unset] [.int (Int32.ofNat len)])) := c1.trans (by
    refine XS.iloadN X0.here hexec rfl (hb hbytes d0) rfl ?_
    exact Steps.refl _)
  obtain ⟨T3, B3, X3, ba3, bs3, bv3, bh3, bf3, st3⟩ := X0.anew hexec (atype := .byte) (wk W (.arrayClass .byte)) rfl (by show len * 1 ≤ _; omega) (by omega) (g := (mkF m 1 #[.val (.ref b), .val (.int (Int32.ofNat o)), .val (.int (Int32.ofNat len)), .unset, .unset, .unset] [.int (Int32.ofNat len)])) rfl (hb hbytes d1) (rest := []) rfl (Nat.le_refl _) (by show 0 + len ≤ len; omega)
  rw [hh0] at ba3 st3
  have kp3 : XT.Kept s T3 := (XT.Kept.of_eq hh0).push bh3
  have hA3 := hA.keep X3.warmed.alike (kp3 _ _ hA.1.1)
  have hne : b ≠ s.heap.size := hA.1.ne
  have c4 : Steps p.tables e below (s₁.setTop (entryFrame m #[.ref b, .int (Int32.ofNat o), .int (Int32.ofNat len)] 6)) (T3.setTop (mkF m 3 #[.val (.ref b), .val (.int (Int32.ofNat o)), .val (.int (Int32.ofNat len)), .unset, .unset, .unset] [.ref s.heap.size])) := c2.trans (st3 _ (Steps.refl _))
  have c5 : Steps p.tables e below (s₁.setTop (entryFrame m #[.ref b, .int (Int32.ofNat o), .int (Int32.ofNat len)] 6)) (T3.setTop (mkF m 9 #[.val (.ref b), .val (.int (Int32.ofNat o)), .val (.int (Int32.ofNat len)), .val (.ref s.heap.size), .unset, .unset] [.int (Int32.ofNat len), .int 0, .ref s.heap.size, .int (Int32.ofNat o), .ref b])) := c4.trans (by
    refine XS.astoreN X3.here hexec rfl (hb hbytes d3) rfl rfl rfl ?_
    refine XS.aloadN X3.here hexec rfl (hb hbytes d4) rfl rfl ?_
    refine XS.iloadN X3.here hexec rfl (hb hbytes d5) rfl ?_
    refine XS.aloadN X3.here hexec rfl (hb hbytes d6) rfl rfl ?_
    refine iconstV X3.here hexec rfl 0 (hb hbytes d7) (by decide) ?_
    refine XS.iloadN X3.here hexec rfl (hb hbytes d8) rfl ?_
    exact Steps.refl _)
  obtain ⟨v6, T6, X6, E6, g6⟩ := X3.callS hexec (Cmp5.law l b A s.heap.size B3 o 0 len) hown (wks W (staticW U16 115 Cmp5.yN)) (wk W Cmp5.tab) (W := 0) (Nat.le_of_ble_eq_true rfl) (Nat.le_of_ble_eq_true rfl) (Nat.le_refl _) (by show 0 + len + 0 ≤ len; omega) (g := (mkF m 9 #[.val (.ref b), .val (.int (Int32.ofNat o)), .val (.int (Int32.ofNat len)), .val (.ref s.heap.size), .unset, .unset] [.int (Int32.ofNat len), .int (Int32.ofNat 0), .ref s.heap.size, .int (Int32.ofNat o), .ref b])) rfl (by rw [hml]; rfl) c5 (argsL := [.ref b, .int (Int32.ofNat o), .ref s.heap.size, .int (Int32.ofNat 0), .int (Int32.ofNat len)]) (rest := []) rfl rfl (by show 2 * 0 + 0 ≤ _; decide) (hb hbytes d9) (⟨rfl, hA3, ba3, hne, l1, by rw [bs3]; simp, hp⟩)
  obtain ⟨rfl, B6, p6, f6⟩ := E6
  have c7 : Steps p.tables e below (s₁.setTop (entryFrame m #[.ref b, .int (Int32.ofNat o), .int (Int32.ofNat len)] 6)) (T6.setTop (mkF m 12 #[.val (.ref b), .val (.int (Int32.ofNat o)), .val (.int (Int32.ofNat len)), .val (.ref s.heap.size), .unset, .unset] [.int (Int32.ofNat len)])) := g6
  have c8 : Steps p.tables e below (s₁.setTop (entryFrame m #[.ref b, .int (Int32.ofNat o), .int (Int32.ofNat len)] 6)) (T6.setTop (mkF m 58 #[.val (.ref b), .val (.int (Int32.ofNat o)), .val (.int (Int32.ofNat len)), .val (.ref s.heap.size), .val (.int (Int32.ofNat len)), .unset] [.ref s.heap.size])) := c7.trans (by
    refine XS.istore X6.here hexec rfl (hb hbytes d12) rfl rfl ?_
    refine XS.iload X6.here hexec rfl (hb hbytes d14) rfl ?_
    refine XS.iloadN X6.here hexec rfl (hb hbytes d16) rfl ?_
    refine XS.icmpYes X6.here hexec rfl (pc0 := 17) rfl (hb hbytes d17) rfl (ii_eq_t rfl) (by decide) rfl ?_
    refine XS.aloadN X6.here hexec rfl (hb hbytes d57) rfl rfl ?_
    exact Steps.refl _)
  have X8 := X6.wide (L' := []) (cells' := 1) (slots' := len) (fun x hx hlt => by
    simp only [List.nil_append, copyLocs, List.mem_map, List.mem_range] at hx
    obtain ⟨i, -, rfl⟩ := hx
    exact absurd hlt (Nat.lt_irrefl _)) (Nat.le_refl _) (by omega)
  exact ⟨T6, some (.ref s.heap.size), _, _, _, X8, rfl, rfl, rfl, (fun h => by cases h), ⟨⟨rfl, B6, ba3.like (X3.warmed.alike.symm.trans X6.warmed.alike) p6.1 f6.1 f6.2.1 f6.2.2.1, f6.2.1.trans bv3, by rw [X6.warmed.alike.findClass, f6.1]; exact bf3, by rw [f6.2.2.1, bs3]; simp, fun j hj => by rw [f6.2.2.2 j, if_pos (by omega)]; rfl, kp3.put p6 (Nat.le_refl _)⟩, by rw [p6.2.2, bh3, hh0]; simp⟩, fun fs hl => c8.trans (X8.areturnOut hexec rfl hret rfl (hb hbytes d58) hl)⟩
end Cmp3
namespace CodL
def yN : MethodName := ⟨"java/lang/StringUTF16", "coderFromArrayLen", "([BI)B"⟩
abbrev yB : ByteArray := jdk_52_method_15_code
theorem d0 : decode yB 0 = .ok (.iload_n 1, 1) := by decide +kernel
theorem d1 : decode yB 1 = .ok (.aload_n 0, 1) := by decide +kernel
theorem d2 : decode yB 2 = .ok (.arraylength, 1) := by decide +kernel
theorem d3 : decode yB 3 = .ok (.isub, 1) := by decide +kernel
theorem d4 : decode yB 4 = .ok (.bipush 31, 2) := by decide +kernel
theorem d6 : decode yB 6 = .ok (.iushr, 1) := by decide +kernel
theorem d7 : decode yB 7 = .ok (.i2b, 1) := by decide +kernel
theorem d8 : decode yB 8 = .ok (.ireturn, 1) := by decide +kernel
def site : List Cond := []
def tab : Cond := tabOf yN yB 2 (some .byte) site
def P (d : Addr) (B : Cell) (args : Array Value) (s : State) : Prop := args = #[.ref d, .int (Int32.ofNat B.slots.size)] ∧ Arr .byte d B s
def E (r : Option Value) (s u : State) : Prop := XT.PureE (some (.int 0)) r s u
/-- an array as long as the number of chars: LATIN1 -/
theorem law (l : Launch) (d : Addr) (B : Cell) : Law l yN 2 2 0 0 yB 2 (some .byte) site (P d B) E [] 0 0 := by
  refine Law.of_walk (plainFor_of_name (by decide +kernel)) (by decide +kernel) (by decide +kernel) (by decide) (fun _ _ h => by rw [h.1]; rfl) (fun _ U U' hal hh h => ⟨h.1, h.2.mv hal hh⟩) (fun r U U' V V' h1 hal h2 h => XT.PureE.mv r U U' V V' h1 hal h2 h) ?_
  intro p e s m args below meth c s₁ X0 hexec hbytes hml hret hlk hnm hown hh0 W hP
  obtain ⟨rfl, hB⟩ := hP
  have hB0 := hB.mv X0.warmed.alike hh0
  have c1 : Steps p.tables e below (s₁.setTop (entryFrame m #[.ref d, .int (Int32.ofNat B.slots.size)] 2)) (s₁.setTop (mkF m 0 #[.val (.ref d), .val (.int (Int32.ofNat B.slots.size))] [])) := entry rfl
  have c2 : Steps p.tables e below (s₁.setTop (entryFrame m #[.ref d, .int (Int32.ofNat B.slots.size)] 2)) (s₁.setTop (mkF m 2 #[.val (.ref d), .val (.int (Int32.ofNat B.slots.size))] [.ref d, .int (Int32.ofNat B.slots.size)])) := c1.trans (by
    refine XS.iloadN X0.here hexec rfl (hb hbytes d0) rfl ?_
    refine XS.aloadN X0.here hexec rfl (hb hbytes d1) rfl rfl ?_
    exact Steps.refl _)
  have c3 : Steps p.tables e below (s₁.setTop (entryFrame m #[.ref d, .int (Int32.ofNat B.slots.size)] 2)) (s₁.setTop (mkF m 8 #[.val (.ref d), .val (.int (Int32.ofNat B.slots.size))] [.int (lo8 (ushr (Int32.ofNat B.slots.size - Int32.ofNat B.slots.size) 31))])) := c2.trans (by
    refine X0.alen hexec hB0 rfl rfl (hb hbytes d2) ?_
    refine XS.isub X0.here hexec rfl (hb hbytes d3) rfl ?_
    refine bipushV X0.here hexec rfl 31 (hb hbytes d4) (by decide) ?_
    refine iushr X0.here hexec rfl (hb hbytes d6) rfl ?_
    refine i2b X0.here hexec rfl (hb hbytes d7) rfl ?_
    exact Steps.refl _)
  have e0 : lo8 (ushr (Int32.ofNat B.slots.size - Int32.ofNat B.slots.size) 31) = 0 := by rw [Int32.sub_self]; decide
  rw [e0] at c3
  exact ⟨s₁, some (.int 0), _, _, _, X0, rfl, rfl, rfl, (fun h => by cases h), ⟨rfl, hh0⟩, fun fs hl => c3.trans (X0.ireturnOut hexec hret rfl (Or.inr (Or.inr (Or.inl rfl))) (hb hbytes d8) hl)⟩
end CodL
/-- the String at a is Latin-1 over a new byte[] (the heap's one new cell): the low bytes of the len chars of A from o on; every cell but a is kept -/
def Got (a : Addr) (D : Cell) (fV fC : Field) (A : Cell) (o len : Nat) (r : Option Value) (s u : State) : Prop := r = none ∧ ∃ D' V : Cell, Blank "java/lang/String" a D' u ∧ Same D D' [fV.slot, fC.slot] ∧ D'.slots[fV.slot]? = some (.ref s.heap.size) ∧ D'.slots[fC.slot]? = some (.int 0) ∧ Arr .byte s.heap.size V u ∧ V.vm = .none ∧ u.vm.findClass "[B" = some V.cls ∧ V.slots.size = len ∧ (∀ j, j < len → V.slots[j]? = some (.int (lo8 (cv A (o + j))))) ∧ (∀ (y : Addr) (c : Cell), y ≠ a → s.heap[y]? = some c → u.heap[y]? = some c) ∧ u.heap.size = s.heap.size + 1
theorem Got.mv {a : Addr} {D A : Cell} {fV fC : Field} {o len : Nat} : ∀ r (U U' V V' : State), U'.heap = U.heap → V.vm.Alike V'.vm → V'.heap = V.heap → Got a D fV fC A o len r U V → Got a D fV fC A o len r U' V' :=
  fun r U U' V V' h1 hal h2 ⟨e0, D', X, a1, a2, a3, a4, a5, a6, a7, a8, a9, a10, a11⟩ => ⟨e0, D', X, a1.mv hal h2, a2, by rw [h1]; exact a3, a4, by rw [h1]; exact a5.mv hal h2, a6, by rw [hal.findClass]; exact a7, a8, a9, by rw [h1, h2]; exact a10, by rw [h1, h2]; exact a11⟩
namespace New4
def yN : MethodName := ⟨"java/lang/String", "<init>", "([CIILjava/lang/Void;)V"⟩
abbrev yB : ByteArray := jdk_42_method_149_code
theorem d0 : decode yB 0 = .ok (.aload_n 0, 1) := by decide +kernel
theorem d1 : decode yB 1 = .ok (.invokespecial 1, 3) := by decide +kernel
theorem d4 : decode yB 4 = .ok (.iload_n 3, 1) := by decide +kernel
theorem d5 : decode yB 5 = .ok (.ifCond (.ne) 22, 3) := by decide +kernel
theorem d27 : decode yB 27 = .ok (.getstatic 38, 3) := by decide +kernel
theorem d30 : decode yB 30 = .ok (.ifCond (.eq) 28, 3) := by decide +kernel
theorem d33 : decode yB 33 = .ok (.aload_n 1, 1) := by decide +kernel
theorem d34 : decode yB 34 = .ok (.iload_n 2, 1) := by decide +kernel
theorem d35 : decode yB 35 = .ok (.iload_n 3, 1) := by decide +kernel
theorem d36 : decode yB 36 = .ok (.invokestatic 177, 3) := by decide +kernel
theorem d39 : decode yB 39 = .ok (.astore 5, 2) := by decide +kernel
theorem d41 : decode yB 41 = .ok (.aload_n 0, 1) := by decide +kernel
theorem d42 : decode yB 42 = .ok (.aload 5, 2) := by decide +kernel
theorem d44 : decode yB 44 = .ok (.iload_n 3, 1) := by decide +kernel
theorem d45 : decode yB 45 = .ok (.invokestatic 47, 3) := by decide +kernel
theorem d48 : decode yB 48 = .ok (.putfield 15, 3) := by decide +kernel
theorem d51 : decode yB 51 = .ok (.aload_n 0, 1) := by decide +kernel
theorem d52 : decode yB 52 = .ok (.aload 5, 2) := by decide +kernel
theorem d54 : decode yB 54 = .ok (.putfield 9, 3) := by decide +kernel
theorem d57 : decode yB 57 = .ok (.return_, 1) := by decide +kernel
def site : List Cond := [.fieldLink "java/lang/String" 38 "java/lang/String" "COMPACT_STRINGS" "Z", Cmp3.tab, CodL.tab, .laysFinal "java/lang/String" "java/lang/String" "value" "[B", .fieldLink "java/lang/String" 9 "java/lang/String" "value" "[B", .laysFinal "java/lang/String" "java/lang/String" "coder" "B", .fieldLink "java/lang/String" 15 "java/lang/String" "coder" "B"] ++ objW "java/lang/String" 1 ++ staticW "java/lang/String" 177 Cmp3.yN ++ staticW "java/lang/String" 47 CodL.yN
def tab : Cond := tabOf yN yB 6 none site
def P (a : Addr) (D : Cell) (fV fC : Field) (b : Addr) (A : Cell) (z : Int32) (o len : Nat) (args : Array Value) (s : State) : Prop := args = #[.ref a, .ref b, .int (Int32.ofNat o), .int (Int32.ofNat len), .null] ∧ Blank "java/lang/String" a D s ∧ Found "java/lang/String" "value" "[B" fV s ∧ Found "java/lang/String" "coder" "B" fC s ∧ Ch b A s ∧ StaticIs s "java/lang/String" "COMPACT_STRINGS" "Z" (.int z) ∧ ¬ z = 0 ∧ 0 < len ∧ o + len ≤ A.slots.size ∧ len ≤ 536870912 ∧ ∀ i, i < len → ¬ 255 < cv A (o + i)
def E (a : Addr) (D : Cell) (fV fC : Field) (A : Cell) (o len : Nat) (r : Option Value) (s u : State) : Prop := Got a D fV fC A o len r s u
/-- len > 0, no char of the range above 255: a Latin-1 String of their low bytes -/
theorem law (l : Launch) (a : Addr) (D : Cell) (fV fC : Field) (b : Addr) (A : Cell) (z : Int32) (o len : Nat) : Law l yN 5 4 2 35 yB 6 none site (P a D fV fC b A z o len) (E a D fV fC A o len) [⟨a, fC.slot⟩, ⟨a, fV.slot⟩] 1 len := by
  refine Law.of_walk (plainFor_of_name (by decide +kernel)) (by decide +kernel) (by decide +kernel) (by decide) (fun _ _ h => by rw [h.1]; rfl) (fun _ U U' hal hh h => ⟨h.1, h.2.1.mv hal hh, h.2.2.1.al hal, h.2.2.2.1.al hal, h.2.2.2.2.1.mv hal hh, h.2.2.2.2.2.1.there hal hh, h.2.2.2.2.2.2⟩) (fun r U U' V V' h1 hal h2 h => Got.mv r U U' V V' h1 hal h2 h) ?_
  intro p e s m args below meth c s₁ X0 hexec hbytes hml hret hlk hnm hown hh0 W hP
  obtain ⟨rfl, hB, f1, f2, hA, s1, hz, l0, l1, l2, hp⟩ := hP
  have a31 := hA.1.2.2.2
  have c1 : Steps p.tables e below (s₁.setTop (entryFrame m #[.ref a, .ref b, .int (Int32.ofNat o), .int (Int32.ofNat len), .null] 6)) (s₁.setTop (mkF m 0 #[.val (.ref a), .val (.ref b), .val (.int (Int32.ofNat o)), .val (.int (Int32.ofNat len)), .val .null, .unset] [])) := entry rfl
  have c2 : Steps p.tables e below (s₁.setTop (entryFrame m #[.ref a, .ref b, .int (Int32.ofNat o), .int (Int32.ofNat len), .null] 6)) (s₁.setTop (mkF m 1 #[.val (.ref a), .val (.ref b), .val (.int (Int32.ofNat o)), .val (.int (Int32.ofNat len)), .val .null, .unset] [.ref a])) := c1.trans (by
    refine XS.aloadN X0.here hexec rfl (hb hbytes d0) rfl rfl ?_
    exact Steps.refl _)
  obtain ⟨T3, X3, q3, st3⟩ := X0.oinit hexec hown (wks W (objW "java/lang/String" 1)) (g := (mkF m 1 #[.val (.ref a), .val (.ref b), .val (.int (Int32.ofNat o)), .val (.int (Int32.ofNat len)), .val .null, .unset] [.ref a])) rfl (by rw [hml]; rfl) (rest := []) rfl (hb hbytes d1) (W := 0) (by show 2 * 0 + 0 ≤ _; decide) (Nat.le_of_ble_eq_true rfl) (Nat.le_of_ble_eq_true rfl)
  have hh3 := q3.trans hh0
  have c4 : Steps p.tables e below (s₁.setTop (entryFrame m #[.ref a, .ref b, .int (Int32.ofNat o), .int (Int32.ofNat len), .null] 6)) (T3.setTop (mkF m 27 #[.val (.ref a), .val (.ref b), .val (.int (Int32.ofNat o)), .val (.int (Int32.ofNat len)), .val .null, .unset] [])) := (c2.trans (st3 _ (Steps.refl _))).trans (by
    refine XS.iloadN X3.here hexec rfl (hb hbytes d4) rfl ?_
    refine XS.ifYes X3.here hexec rfl (pc0 := 5) rfl (hb hbytes d5) rfl (i0_ne_t (nz32 (by omega) l0)) (by decide) rfl ?_
    exact Steps.refl _)
  obtain ⟨T5, X5, q5, st5⟩ := X3.sget hexec hown (wk W (.fieldLink "java/lang/String" 38 "java/lang/String" "COMPACT_STRINGS" "Z")) s1 (fun _ _ h => by rw [hh3]; exact h) (g := (mkF m 27 #[.val (.ref a), .val (.ref b), .val (.int (Int32.ofNat o)), .val (.int (Int32.ofNat len)), .val .null, .unset] [])) rfl (hb hbytes d27)
  have hh5 := q5.trans hh3
  have c6 : Steps p.tables e below (s₁.setTop (entryFrame m #[.ref a, .ref b, .int (Int32.ofNat o), .int (Int32.ofNat len), .null] 6)) (T5.setTop (mkF m 30 #[.val (.ref a), .val (.ref b), .val (.int (Int32.ofNat o)), .val (.int (Int32.ofNat len)), .val .null, .unset] [.int z])) := c4.trans (st5 _ (Steps.refl _))
  have c7 : Steps p.tables e below (s₁.setTop (entryFrame m #[.ref a, .ref b, .int (Int32.ofNat o), .int (Int32.ofNat len), .null] 6)) (T5.setTop (mkF m 36 #[.val (.ref a), .val (.ref b), .val (.int (Int32.ofNat o)), .val (.int (Int32.ofNat len)), .val .null, .unset] [.int (Int32.ofNat len), .int (Int32.ofNat o), .ref b])) := c6.trans (by
    refine XS.ifNo X5.here hexec rfl (hb hbytes d30) rfl (i0_eq_f hz) ?_
    refine XS.aloadN X5.here hexec rfl (hb hbytes d33) rfl rfl ?_
    refine XS.iloadN X5.here hexec rfl (hb hbytes d34) rfl ?_
    refine XS.iloadN X5.here hexec rfl (hb hbytes d35) rfl ?_
    exact Steps.refl _)
  obtain ⟨v8, T8, X8, E8, g8⟩ := X5.callS hexec (Cmp3.law l b A o len) hown (wks W (staticW "java/lang/String" 177 Cmp3.yN)) (wk W Cmp3.tab) (W := 0) (Nat.le_of_ble_eq_true rfl) (Nat.le_of_ble_eq_true rfl) (Nat.le_refl _) (by show 0 + len ≤ len; omega) (g := (mkF m 36 #[.val (.ref a), .val (.ref b), .val (.int (Int32.ofNat o)), .val (.int (Int32.ofNat len)), .val .null, .unset] [.int (Int32.ofNat len), .int (Int32.ofNat o), .ref b])) rfl (by rw [hml]; rfl) c7 (argsL := [.ref b, .int (Int32.ofNat o), .int (Int32.ofNat len)]) (rest := []) rfl rfl (by show 2 * 0 + 0 ≤ _; decide) (hb hbytes d36) (⟨rfl, hA.mv X5.warmed.alike hh5, l1, l2, hp⟩)
  obtain ⟨e8, z8⟩ := E8
  obtain ⟨rfl, N, n1, n2, n3, n4, n5, n6⟩ := NewArr.mv _ T5 s _ _ hh5.symm (Vm.Alike.refl _) rfl e8
  rw [hh5] at z8
  have hB1 := hB.keep X8.warmed.alike (n6 _ _ hB.1)
  have hne : s.heap.size ≠ a := (Nat.ne_of_lt (Array.getElem?_eq_some_iff.mp hB.1).1).symm
  have c9 : Steps p.tables e below (s₁.setTop (entryFrame m #[.ref a, .ref b, .int (Int32.ofNat o), .int (Int32.ofNat len), .null] 6)) (T8.setTop (mkF m 39 #[.val (.ref a), .val (.ref b), .val (.int (Int32.ofNat o)), .val (.int (Int32.ofNat len)), .val .null, .unset] [.ref s.heap.size])) := g8
  have c10 : Steps p.tables e below (s₁.setTop (entryFrame m #[.ref a, .ref b, .int (Int32.ofNat o), .int (Int32.ofNat len), .null] 6)) (T8.setTop (mkF m 45 #[.val (.ref a), .val (.ref b), .val (.int (Int32.ofNat o)), .val (.int (Int32.ofNat len)), .val .null, .val (.ref s.heap.size)] [.int (Int32.ofNat N.slots.size), .ref s.heap.size, .ref a])) := by
    have hc : Steps p.tables e below (s₁.setTop (entryFrame m #[.ref a, .ref b, .int (Int32.ofNat o), .int (Int32.ofNat len), .null] 6)) (T8.setTop (mkF m 45 #[.val (.ref a), .val (.ref b), .val (.int (Int32.ofNat o)), .val (.int (Int32.ofNat len)), .val .null, .val (.ref s.heap.size)] [.int (Int32.ofNat len), .ref s.heap.size, .ref a])) := c9.trans (by
      refine XS.astore X8.here hexec rfl (hb hbytes d39) rfl rfl rfl ?_
      refine XS.aloadN X8.here hexec rfl (hb hbytes d41) rfl rfl ?_
      refine XS.aload X8.here hexec rfl (hb hbytes d42) rfl rfl ?_
      refine XS.iloadN X8.here hexec rfl (hb hbytes d44) rfl ?_
      exact Steps.refl _)
    rw [n4]; exact hc
  obtain ⟨v11, T11, X11, E11, g11⟩ := X8.callS hexec (CodL.law l s.heap.size N) hown (wks W (staticW "java/lang/String" 47 CodL.yN)) (wk W CodL.tab) (W := 1) (Nat.le_of_ble_eq_true rfl) (Nat.le_of_ble_eq_true rfl) (Nat.le_refl _) (by show 0 + len + 0 ≤ len; omega) (g := (mkF m 45 #[.val (.ref a), .val (.ref b), .val (.int (Int32.ofNat o)), .val (.int (Int32.ofNat len)), .val .null, .val (.ref s.heap.size)] [.int (Int32.ofNat N.slots.size), .ref s.heap.size, .ref a])) rfl (by rw [hml]; rfl) c10 (argsL := [.ref s.heap.size, .int (Int32.ofNat N.slots.size)]) (rest := [.ref a]) rfl rfl (by show 2 * 0 + (1 + 0) ≤ _; decide) (hb hbytes d45) (⟨rfl, n1⟩)
  obtain ⟨rfl, q11⟩ := E11
  have hB11 := hB1.mv (X8.warmed.alike.symm.trans X11.warmed.alike) q11
  have c12 : Steps p.tables e below (s₁.setTop (entryFrame m #[.ref a, .ref b, .int (Int32.ofNat o), .int (Int32.ofNat len), .null] 6)) (T11.setTop (mkF m 48 #[.val (.ref a), .val (.ref b), .val (.int (Int32.ofNat o)), .val (.int (Int32.ofNat len)), .val .null, .val (.ref s.heap.size)] [.int 0, .ref a])) := g11
  obtain ⟨T13, X13, p13, bl13, sl13, st13⟩ := X11.finit hexec hown (wk W (.fieldLink "java/lang/String" 15 "java/lang/String" "coder" "B")) (Or.inr ⟨_, (wk W (.laysFinal "java/lang/String" "java/lang/String" "coder" "B"))⟩) (Or.inl ⟨rfl, hnm⟩) f2 (Or.inl rfl) hB11 (t := .byte) (by decide +kernel) rfl (g := (mkF m 48 #[.val (.ref a), .val (.ref b), .val (.int (Int32.ofNat o)), .val (.int (Int32.ofNat len)), .val .null, .val (.ref s.heap.size)] [.int 0, .ref a])) rfl (rest := []) rfl (hb hbytes d48)
  have c14 : Steps p.tables e below (s₁.setTop (entryFrame m #[.ref a, .ref b, .int (Int32.ofNat o), .int (Int32.ofNat len), .null] 6)) (T13.setTop (mkF m 54 #[.val (.ref a), .val (.ref b), .val (.int (Int32.ofNat o)), .val (.int (Int32.ofNat len)), .val .null, .val (.ref s.heap.size)] [.ref s.heap.size, .ref a])) := (c12.trans (st13 _ (Steps.refl _))).trans (by
    refine XS.aloadN X13.here hexec rfl (hb hbytes d51) rfl rfl ?_
    refine XS.aload X13.here hexec rfl (hb hbytes d52) rfl rfl ?_
    exact Steps.refl _)
  obtain ⟨T15, X15, p15, bl15, sl15, st15⟩ := X13.finit hexec hown (wk W (.fieldLink "java/lang/String" 9 "java/lang/String" "value" "[B")) (Or.inr ⟨_, (wk W (.laysFinal "java/lang/String" "java/lang/String" "value" "[B"))⟩) (Or.inl ⟨rfl, hnm⟩) f1 (Or.inl rfl) bl13 (t := (.array .byte)) (by decide +kernel) rfl (g := (mkF m 54 #[.val (.ref a), .val (.ref b), .val (.int (Int32.ofNat o)), .val (.int (Int32.ofNat len)), .val .null, .val (.ref s.heap.size)] [.ref s.heap.size, .ref a])) rfl (rest := []) rfl (hb hbytes d54)
  have c16 : Steps p.tables e below (s₁.setTop (entryFrame m #[.ref a, .ref b, .int (Int32.ofNat o), .int (Int32.ofNat len), .null] 6)) (T15.setTop (mkF m 57 #[.val (.ref a), .val (.ref b), .val (.int (Int32.ofNat o)), .val (.int (Int32.ofNat len)), .val .null, .val (.ref s.heap.size)] [])) := c14.trans (st15 _ (Steps.refl _))
  have ap := apart (Or.inr ⟨_, (wk W (.laysFinal "java/lang/String" "java/lang/String" "value" "[B"))⟩) (Or.inr ⟨_, (wk W (.laysFinal "java/lang/String" "java/lang/String" "coder" "B"))⟩) f1 f2 (t₁ := .array .byte) (t₂ := .byte) (by decide +kernel) (by decide +kernel) (by decide)
  have al := X8.warmed.alike.symm.trans X15.warmed.alike
  have n7 : T11.heap[s.heap.size]? = some N := by rw [q11]; exact n1.1
  exact ⟨T15, none, _, _, _, X15, by simp, rfl, by omega, (fun _ => rfl), ⟨rfl, _, N, bl15, ((Same.refl D _).set _ (by simp)).set _ (by simp), sl15, (Cell.slots_setSlot_ne _ ap).trans sl13, n1.keep al (p15.other hne (p13.other hne n7)), n2, by rw [al.findClass]; exact n3, n4, n5, fun y c h1 h2 => p15.other h1 (p13.other h1 (by rw [q11]; exact n6 y c h2)), by rw [p15.2.2, p13.2.2, q11]; exact z8⟩, fun fs hl => c16.trans (X15.returnOut hexec hret (hb hbytes d57) hl)⟩
end New4
namespace New1
def yN : MethodName := ⟨"java/lang/String", "<init>", "([C)V"⟩
abbrev yB : ByteArray := jdk_42_method_3_code
theorem d0 : decode yB 0 = .ok (.aload_n 0, 1) := by decide +kernel
theorem d1 : decode yB 1 = .ok (.aload_n 1, 1) := by decide +kernel
theorem d2 : decode yB 2 = .ok (.iconst 0, 1) := by decide +kernel
theorem d3 : decode yB 3 = .ok (.aload_n 1, 1) := by decide +kernel
theorem d4 : decode yB 4 = .ok (.arraylength, 1) := by decide +kernel
theorem d5 : decode yB 5 = .ok (.aconst_null, 1) := by decide +kernel
theorem d6 : decode yB 6 = .ok (.invokespecial 27, 3) := by decide +kernel
theorem d9 : decode yB 9 = .ok (.return_, 1) := by decide +kernel
def site : List Cond := [New4.tab] ++ initW "java/lang/String" 27 New4.yN
def tab : Cond := tabOf yN yB 2 none site
def P (a : Addr) (D : Cell) (fV fC : Field) (b : Addr) (A : Cell) (z : Int32) (args : Array Value) (s : State) : Prop := args = #[.ref a, .ref b] ∧ Blank "java/lang/String" a D s ∧ Found "java/lang/String" "value" "[B" fV s ∧ Found "java/lang/String" "coder" "B" fC s ∧ Ch b A s ∧ StaticIs s "java/lang/String" "COMPACT_STRINGS" "Z" (.int z) ∧ ¬ z = 0 ∧ 0 < A.slots.size ∧ A.slots.size ≤ 536870912 ∧ ∀ i, i < A.slots.size → ¬ 255 < cv A i
def E (a : Addr) (D : Cell) (fV fC : Field) (A : Cell) (r : Option Value) (s u : State) : Prop := Got a D fV fC A 0 A.slots.size r s u
/-- new String(chars), not empty, no char above 255: a Latin-1 String of their low bytes -/
theorem law (l : Launch) (a : Addr) (D : Cell) (fV fC : Field) (b : Addr) (A : Cell) (z : Int32) : Law l yN 2 1 3 52 yB 2 none site (P a D fV fC b A z) (E a D fV fC A) [⟨a, fC.slot⟩, ⟨a, fV.slot⟩] 1 A.slots.size := by
  refine Law.of_walk (plainFor_of_name (by decide +kernel)) (by decide +kernel) (by decide +kernel) (by decide) (fun _ _ h => by rw [h.1]; rfl) (fun _ U U' hal hh h => ⟨h.1, h.2.1.mv hal hh, h.2.2.1.al hal, h.2.2.2.1.al hal, h.2.2.2.2.1.mv hal hh, h.2.2.2.2.2.1.there hal hh, h.2.2.2.2.2.2⟩) (fun r U U' V V' h1 hal h2 h => Got.mv r U U' V V' h1 hal h2 h) ?_
  intro p e s m args below meth c s₁ X0 hexec hbytes hml hret hlk hnm hown hh0 W hP
  obtain ⟨rfl, hB, f1, f2, hA, s1, hz, l0, l2, hp⟩ := hP
  have c1 : Steps p.tables e below (s₁.setTop (entryFrame m #[.ref a, .ref b] 2)) (s₁.setTop (mkF m 0 #[.val (.ref a), .val (.ref b)] [])) := entry rfl
  have c2 : Steps p.tables e below (s₁.setTop (entryFrame m #[.ref a, .ref b] 2)) (s₁.setTop (mkF m 6 #[.val (.ref a), .val (.ref b)] [.null, .int (Int32.ofNat A.slots.size), .int 0, .ref b, .ref a])) := c1.trans (by
    refine XS.aloadN X0.here hexec rfl (hb hbytes d0) rfl rfl ?_
    refine XS.aloadN X0.here hexec rfl (hb hbytes d1) rfl rfl ?_
    refine iconstV X0.here hexec rfl 0 (hb hbytes d2) (by decide) ?_
    refine XS.aloadN X0.here hexec rfl (hb hbytes d3) rfl rfl ?_
    refine X0.alen hexec (hA.1.mv X0.warmed.alike hh0) rfl rfl (hb hbytes d4) ?_
    refine XS.aconstNull X0.here hexec rfl (hb hbytes d5) ?_
    exact Steps.refl _)
  obtain ⟨v3, T3, X3, E3, g3⟩ := X0.callN hexec (New4.law l a D fV fC b A z 0 A.slots.size) rfl hown (wks W (initW "java/lang/String" 27 New4.yN)) (W New4.tab (by simp only [site, List.mem_cons, List.mem_append, true_or, or_true])) (W := 0) (Nat.le_of_ble_eq_true rfl) (Nat.le_of_ble_eq_true rfl) (Nat.le_refl _) (by show 0 + A.slots.size ≤ A.slots.size; omega) (g := (mkF m 6 #[.val (.ref a), .val (.ref b)] [.null, .int (Int32.ofNat A.slots.size), .int (Int32.ofNat 0), .ref b, .ref a])) rfl (by rw [hml]; rfl) c2 (argsL := [.ref b, .int (Int32.ofNat 0), .int (Int32.ofNat A.slots.size), .null]) (rest := []) rfl rfl (by show 2 * 0 + 0 ≤ _; decide) (hb hbytes d6) (⟨rfl, hB.mv X0.warmed.alike hh0, f1.al X0.warmed.alike, f2.al X0.warmed.alike, hA.mv X0.warmed.alike hh0, s1.there X0.warmed.alike hh0, hz, l0, by omega, l2, fun i hi => by rw [Nat.zero_add]; exact hp i hi⟩)
  have e0 := Got.mv _ s₁ s _ _ hh0.symm (Vm.Alike.refl _) rfl E3
  obtain rfl := e0.1
  have c4 : Steps p.tables e below (s₁.setTop (entryFrame m #[.ref a, .ref b] 2)) (T3.setTop (mkF m 9 #[.val (.ref a), .val (.ref b)] [])) := g3
  exact ⟨T3, none, _, _, _, X3, by simp, rfl, by omega, (fun _ => rfl), e0, fun fs hl => c4.trans (X3.returnOut hexec hret (hb hbytes d9) hl)⟩
theorem pays {l : Launch} {R : Room} {p : Program} {e : Env} {below : List Frame} {s : State} {sargs : Array Value} {len W : Nat} (a : Addr) (D : Cell) (fV fC : Field) (b : Addr) (A : Cell) (z : Int32) (htab : tab.before sargs s = true) (hfr : 4 ≤ R.frames) (hlo : W + 65 ≤ R.locals) :
    Back l R p e below s sargs yN len W (fun A₁ a₁ => A₁.cells + 1 ≤ R.cells ∧ A₁.slots + A.slots.size ≤ R.slots ∧ P a D fV fC b A z a₁ A₁.U) (fun A₁ _ v₁ B₁ => E a D fV fC A v₁ A₁.U B₁.U ∧ B₁.locs = A₁.locs ++ [⟨a, fC.slot⟩, ⟨a, fV.slot⟩] ∧ B₁.cells = A₁.cells + 1 ∧ B₁.slots = A₁.slots + A.slots.size) :=
  (law l a D fV fC b A z).pays htab hfr (by omega)
end New1
end StrChars
namespace StrChars.Road
open Jvm Sem ClassFile Op Lib Jvm.Stand Jvm.Free Jvm.Free.XT
open Jvm.Lib.Cold (StaticIs)
abbrev ST : String := "java/lang/String"
/-- every table word that New1's law asks, flat -/
abbrev words : List Jvm.Cond := [.code New1.yN New1.yB 2 none, .initialized ST, .methodLink ST 27 New4.yN, .instanceMethod New4.yN,
  .code New4.yN New4.yB 6 none, .fieldLink ST 38 ST "COMPACT_STRINGS" "Z", .laysFinal ST ST "value" "[B", .fieldLink ST 9 ST "value" "[B", .laysFinal ST ST "coder" "B", .fieldLink ST 15 ST "coder" "B",
  .methodLink ST 1 Lib.objectInit, .instanceMethod Lib.objectInit, .code Lib.objectInit ⟨#[0xb1]⟩ 1 none, .methodLink ST 177 Cmp3.yN, .static Cmp3.yN, .methodLink ST 47 CodL.yN, .static CodL.yN,
  .code Cmp3.yN Cmp3.yB 6 (some (.array .byte)), .initialized U16, .arrayClass .byte, .methodLink U16 115 Cmp5.yN, .static Cmp5.yN, .code Cmp5.yN Cmp5.yB 7 (some .int), .code CodL.yN CodL.yB 2 (some .byte)]
theorem tab_of {a : Array Value} {s : State} (h : ∀ w ∈ words, w.before a s = true) : New1.tab.before a s = true := by
  have h5 : Cmp5.tab.before a s = true := unparts (wk h (.code Cmp5.yN Cmp5.yB 7 (some .int))) (wks h (.initialized Cmp5.yN.cls :: Cmp5.site))
  have hc : CodL.tab.before a s = true := unparts (wk h (.code CodL.yN CodL.yB 2 (some .byte))) (wks h (.initialized CodL.yN.cls :: CodL.site))
  have q5 : ∀ w ∈ Cmp5.tab :: words, w.before a s = true := fun w hw => (List.mem_cons.mp hw).elim (fun e => e ▸ h5) (h w)
  have h3 : Cmp3.tab.before a s = true := unparts (wk q5 (.code Cmp3.yN Cmp3.yB 6 (some (.array .byte)))) (wks q5 (.initialized Cmp3.yN.cls :: Cmp3.site))
  have q3 : ∀ w ∈ Cmp3.tab :: CodL.tab :: words, w.before a s = true := fun w hw => (List.mem_cons.mp hw).elim (fun e => e ▸ h3) fun hw => (List.mem_cons.mp hw).elim (fun e => e ▸ hc) (h w)
  have h4 : New4.tab.before a s = true := unparts (wk q3 (.code New4.yN New4.yB 6 none)) (wks q3 (.initialized New4.yN.cls :: New4.site))
  have q4 : ∀ w ∈ New4.tab :: words, w.before a s = true := fun w hw => (List.mem_cons.mp hw).elim (fun e => e ▸ h4) (h w)
  exact unparts (wk q4 (.code New1.yN New1.yB 2 none)) (wks q4 (.initialized New1.yN.cls :: New1.site))
/-- the words ride from the start Z to the walk's own state -/
theorem moved {Z s : State} {a0 args : Array Value} (hZ : Z.Warmed39 s.vm) (hw : ∀ d ∈ words, d.before a0 Z = true) : ∀ d ∈ words, d.before args s = true := fun d hd => by
  have q := hw d hd
  have t : ∀ d ∈ words, d = .arrayClass .byte ∨ (d.onTables && d.keepsFace) = true := by decide +kernel
  rcases t d hd with rfl | t
  · exact RoadKit.mvA hZ q
  · exact RoadKit.mv hZ q t
/-- WHAT COMES BACK, over the tables of the start Z: h the heap at the call, h' behind it -/
def Q (Z : State) (x : Addr) (A : Cell) (h : Heap) (v : Option Value) (h' : Heap) (L : List Loc) : Prop := v = none ∧ (∀ y ∈ L, y.base = x) ∧ RoadKit.Keep h h' [x] ∧ h'.size = h.size + 1 ∧ RoadKit.Exa Z h' x ST ∧ RoadKit.Fld Z h' x ST "value" "[B" (.ref h.size) ∧ RoadKit.Fld Z h' x ST "coder" "B" (.int 0) ∧
  (∃ V : Cell, RoadKit.Arr Z h' h.size V .byte ∧ V.vm = .none ∧ Z.vm.findClass "[B" = some V.cls ∧ V.slots.size = A.slots.size ∧ ∀ j, j < A.slots.size → V.slots[j]? = some (.int (lo8 (cv A j)))) ∧
  ∀ (O n d : String) (w : Value), RoadKit.Fld Z h x O n d w → RoadKit.slotOf Z O n d ≠ RoadKit.slotOf Z ST "value" "[B" → RoadKit.slotOf Z O n d ≠ RoadKit.slotOf Z ST "coder" "B" → RoadKit.Fld Z h' x O n d w
/-- **new String(chars) AT A CALL, IN THE ROAD'S FORM**: for specialBack behind newO: x the fresh String, b the char[] with the cell A -/
theorem back {p : Program} {l : Launch} {e : Env} {R : Room} {s : State} {args : Array Value} {below : List Frame} {len W : Nat} {Z : State} {a0 : Array Value} {h : Heap} (hZ : Z.Warmed39 s.vm) (hw : ∀ d ∈ words, d.before a0 Z = true) {kI : Nat} (wi : (Jvm.Cond.instantiable ST kI).before a0 Z = true)
    {x b : Addr} {A : Cell} {z : Int32} {v0 c0 : Value} (E : RoadKit.Exa Z h x ST) (V : RoadKit.Fld Z h x ST "value" "[B" v0) (C : RoadKit.Fld Z h x ST "coder" "B" c0) (K : RoadKit.Arr Z h b A .char) (hty : Typed .char A) (S : RoadKit.Sta Z h ST "COMPACT_STRINGS" "Z" (.int z)) (hz : ¬ z = 0)
    (l0 : 0 < A.slots.size) (l2 : A.slots.size ≤ 536870912) (hp : ∀ i, i < A.slots.size → ¬ 255 < cv A i) (hfr : 4 ≤ R.frames) (hlo : W + 65 ≤ R.locals) :
    Back l R p e below s args New1.yN len W (fun P a => a = #[.ref x, .ref b] ∧ P.U.heap = h ∧ P.cells + 1 ≤ R.cells ∧ P.slots + A.slots.size ≤ R.slots)
      (fun P _ v B => ∃ L, Q Z x A h v B.U.heap L ∧ B.locs = P.locs ++ L ∧ B.cells = P.cells + 1 ∧ B.slots = P.slots + A.slots.size) := by
  intro m meth c P g ig mk a X hg hsize hdg hW hn hp'
  obtain ⟨rfl, rfl, r1, r2⟩ := hp'
  have al : Z.vm.Alike P.U.vm := hZ.alike.trans X.warmed.alike
  obtain ⟨D, cfV, kV, iV, fV, hD, gV, stV, knV, obV, asV, slV⟩ := id V
  obtain ⟨D', cfC, kC, iC, fC, hD', gC, stC, -, -, asC, slC⟩ := id C
  cases hD.symm.trans hD'
  obtain ⟨D2, kD, e1, e2, e3, e4, e5⟩ := id E
  cases hD.symm.trans e1
  obtain ⟨c2, k2, i1, i2, i3, -⟩ := Cond.instantiable_spec wi
  cases e2.symm.trans i1
  cases e3.symm.trans i2
  obtain ⟨kU, u1, u2⟩ := al.2.2 _ _ e3
  have hB : Blank ST x D P.U := ⟨hD, ⟨knV, fun q hq => by rw [hq] at obV; cases obV⟩, by rw [al.findClass]; exact e2, kU, u1, by rw [u2]; exact i3, by rw [u2]; exact e5 i3⟩
  have F1 : Found ST "value" "[B" fV P.U := ⟨SBG.found_only al ⟨cfV, kV, iV, gV⟩, stV⟩
  have F2 : Found ST "coder" "B" fC P.U := ⟨SBG.found_only al ⟨cfC, kC, iC, gC⟩, stC⟩
  have hA : Ch b A P.U := ⟨⟨K.1, State.isArrayOf_alike al K.2.1, K.2.2, by omega⟩, hty⟩
  have hS : StaticIs P.U ST "COMPACT_STRINGS" "Z" (.int z) := by
    obtain ⟨cfS, iS, kS, fS, st, cS, t1, t2, t3, t4, t5, t6, t7⟩ := S
    exact StaticIs.there (s := { Z with heap := P.U.heap }) ⟨cfS, iS, kS, fS, st, cS, t1, t2, t3, t4, t5, (fun q => by rw [q] at t6; cases t6), t7⟩ al rfl
  obtain ⟨v, B, X', ⟨⟨hv, E', V', q1, q2, q3, q4, q5, q6, q7, q8, q9, q10, q11⟩, hl, hc, hs⟩, st⟩ := New1.pays x D fV fC b A z (tab_of (moved hZ hw)) hfr hlo m meth c P g ig mk _ X hg hsize hdg hW hn ⟨r1, r2, rfl, hB, F1, F2, hA, hS, hz, l0, l2, hp⟩
  have al' : Z.vm.Alike B.U.vm := hZ.alike.trans X'.warmed.alike
  have hsz : E'.slots.size = D.slots.size := by
    obtain ⟨-, -, -, kB, w1, w2, w3⟩ := q1
    obtain ⟨kB', y1, y2⟩ := al'.2.2 _ _ e3
    rw [q2.2.1] at w1
    cases w1.symm.trans y1
    rw [w3, e5 i3, y2]
  refine ⟨v, B, X', ⟨_, ⟨hv, ?_, ⟨by omega, fun y cy hy hn' => q10 y cy (by simpa using hn') hy, fun y cy hy => ?_⟩, q11, ⟨E', _, q1.1, by rw [q2.2.1]; exact e2, by rw [q2.2.1]; exact e3, by rw [q2.1]; exact obV, fun _ => by rw [hsz]; exact e5 i3⟩,
    ⟨E', cfV, kV, iV, fV, q1.1, gV, stV, by rw [q2.1]; exact knV, by rw [q2.1]; exact obV, by rw [q2.2.1]; exact asV, q3⟩, ⟨E', cfC, kC, iC, fC, q1.1, gC, stC, by rw [q2.1]; exact knV, by rw [q2.1]; exact obV, by rw [q2.2.1]; exact asC, q4⟩,
    ⟨V', ⟨q5.1, State.isArrayOf_alike al'.symm q5.2.1, q5.2.2.1⟩, q6, by rw [← al'.findClass]; exact q7, q8, fun j hj => by have := q9 j hj; rwa [Nat.zero_add] at this⟩, fun O n d w F n1 n2 => ?_⟩, hl, hc, hs⟩, st⟩
  · intro y hy
    simp only [List.mem_cons, List.not_mem_nil, or_false] at hy
    rcases hy with rfl | rfl <;> rfl
  · by_cases q : y = x
    · subst q
      cases hD.symm.trans hy
      exact ⟨E', q1.1, q2.2.1, q2.1, hsz⟩
    · exact ⟨cy, q10 y cy q hy, rfl, rfl, rfl⟩
  · obtain ⟨D3, cf, k, i, f, g1, g2, g3, g4, g5, g6, g7⟩ := F
    cases hD.symm.trans g1
    simp only [RoadKit.slotOf, g2, gV, gC, Option.map_some, Option.getD_some] at n1 n2
    exact ⟨E', cf, k, i, f, q1.1, g2, g3, by rw [q2.1]; exact g4, by rw [q2.1]; exact g5, by rw [q2.2.1]; exact g6, by rw [q2.2.2 f.slot (by simp [n1, n2])]; exact g7⟩
end StrChars.Road
namespace StrChars.Road
open Jvm Sem ClassFile Op Lib Jvm.Stand Jvm.Free Jvm.Free.XT
/-- WHAT COMES BACK, the byte[] as a list of values -/
def QA (Z : State) (x : Addr) (zn : Int32) (cs : List Int32) (h : Heap) (v : Option Value) (h' : Heap) (L : List Loc) : Prop := v = none ∧ (∀ y ∈ L, y.base = x) ∧ RoadKit.Keep h h' [x] ∧ h'.size = h.size + 1 ∧ RoadKit.Exa Z h' x ST ∧ RoadKit.Fld Z h' x ST "value" "[B" (.ref h.size) ∧ RoadKit.Fld Z h' x ST "coder" "B" (.int 0) ∧
  (∃ kb, Z.vm.findClass "[B" = some kb ∧ RoadKit.Arv Z h' h.size kb .byte zn (cs.map fun c => .int (lo8 c)) (.int 0)) ∧
  ∀ (O n d : String) (w : Value), RoadKit.Fld Z h x O n d w → RoadKit.slotOf Z O n d ≠ RoadKit.slotOf Z ST "value" "[B" → RoadKit.slotOf Z O n d ≠ RoadKit.slotOf Z ST "coder" "B" → RoadKit.Fld Z h' x O n d w
/-- **new String(chars) AT A CALL, THE ARRAYS AS LISTS**: the char[] at b holds cs, not empty, no char above 255 -/
theorem backArv {p : Program} {l : Launch} {e : Env} {R : Room} {s : State} {args : Array Value} {below : List Frame} {len W : Nat} {Z : State} {a0 : Array Value} {h : Heap} (hZ : Z.Warmed39 s.vm) (hw : ∀ d ∈ words, d.before a0 Z = true) {kI : Nat} (wi : (Jvm.Cond.instantiable ST kI).before a0 Z = true)
    {x b : Addr} {k : ClassId} {zn z : Int32} {cs : List Int32} {dv v0 c0 : Value} (E : RoadKit.Exa Z h x ST) (V : RoadKit.Fld Z h x ST "value" "[B" v0) (C : RoadKit.Fld Z h x ST "coder" "B" c0) (K : RoadKit.Arv Z h b k .char zn (cs.map Value.int) dv) (S : RoadKit.Sta Z h ST "COMPACT_STRINGS" "Z" (.int z)) (hz : ¬ z = 0)
    (hlen : zn.toNatClampNeg = cs.length) (h0 : 0 < cs.length) (hbig : cs.length ≤ 536870912) (hall : ∀ c ∈ cs, ¬ 255 < c) (hfr : 4 ≤ R.frames) (hlo : W + 65 ≤ R.locals) :
    Back l R p e below s args New1.yN len W (fun P a => a = #[.ref x, .ref b] ∧ P.U.heap = h ∧ P.cells + 1 ≤ R.cells ∧ P.slots + cs.length ≤ R.slots)
      (fun P _ v B => ∃ L, QA Z x zn cs h v B.U.heap L ∧ B.locs = P.locs ++ L ∧ B.cells = P.cells + 1 ∧ B.slots = P.slots + cs.length) := by
  obtain ⟨A, K1, K2, K3, K4, K5, K6⟩ := K
  have e : A.slots.size = cs.length := K3.trans hlen
  have hat : ∀ (i : Nat) (hi : i < cs.length), A.slots[i]? = some (.int cs[i]) := fun i hi => by rw [K5 i (by omega)]; simp [List.getD_eq_getElem?_getD, hi]
  have hcv : ∀ (i : Nat) (hi : i < cs.length), cv A i = cs[i] := fun i hi => by unfold cv; rw [hat i hi]
  have hty : Typed .char A := fun i v hv => by
    have hi : i < A.slots.size := (Array.getElem?_eq_some_iff.mp hv).1
    have q := K5 i hi
    rw [hv] at q
    rw [Option.some.inj q]
    exact K6 i hi
  refine Back.mono (back hZ hw wi E V C K1 hty S hz (by omega) (by omega) (fun i hi => by rw [hcv i (by omega)]; exact hall _ (List.getElem_mem _)) hfr hlo) (fun P a hp => ⟨hp.1, hp.2.1, hp.2.2.1, by rw [e]; exact hp.2.2.2⟩) (fun P a v B hp hq => ?_)
  obtain ⟨L, ⟨q1, q2, q3, q4, q5, q6, q7, ⟨V', v1, v2, v3, v4, v5⟩, q9⟩, hl, hc, hs⟩ := hq
  refine ⟨L, ⟨q1, q2, q3, q4, q5, q6, q7, ⟨V'.cls, v3, V', v1, rfl, by rw [v4, e, hlen], K4, fun i hi => ?_, fun i hi => ?_⟩, q9⟩, hl, hc, by rw [hs, e]⟩
  · have hi' : i < cs.length := by omega
    rw [v5 i (by omega), hcv i hi']; simp [List.getD_eq_getElem?_getD, hi']
  · have hi' : i < cs.length := by omega
    simp only [List.getD_eq_getElem?_getD, List.getElem?_map, List.getElem?_eq_getElem hi', Option.map_some, Option.getD_some]
    exact fits_lo8 _
end StrChars.Road
namespace StrChars.Road
open Jvm Sem ClassFile Op Lib Jvm.Stand Jvm.Free Jvm.Free.XT
/-- WHAT COMES BACK, in the writer's own shape -/
def QV (Z : State) (x : Addr) (N : Int32) (bs : List Int32) (h : Heap) (n0 : Nat) (v : Option Value) (h' : Heap) (L : List Loc) : Prop := v = none ∧ RoadKit.Fr n0 L ∧ RoadKit.Keep h h' [x] ∧ RoadKit.Exa Z h' x ST ∧ RoadKit.Fld Z h' x ST "coder" "B" (.int 0) ∧
  ∃ (t : Addr) (kb : ClassId), n0 ≤ t ∧ h.size ≤ t ∧ ¬ t = x ∧ RoadKit.Fld Z h' x ST "value" "[B" (.ref t) ∧ RoadKit.Arv Z h' t kb .byte N (bs.map Value.int) (.int 0)
/-- **new String(chars) AT A CALL, FOR THE WRITER**: a char[] of n known ints, each 0 to 255 -/
theorem backV {p : Program} {l : Launch} {e : Env} {R : Room} {s : State} {args : Array Value} {below : List Frame} {len W : Nat} {Z : State} {a0 : Array Value} {h : Heap} (hZ : Z.Warmed39 s.vm) (hw : ∀ d ∈ words, d.before a0 Z = true) {kI : Nat} (wi : (Jvm.Cond.instantiable ST kI).before a0 Z = true)
    {x b : Addr} {kC : ClassId} {cs bs : List Int32} {d v0 c0 : Value} {z N : Int32} {n n0 : Nat} (hx0 : n0 ≤ x) (hh0 : n0 ≤ h.size) (E : RoadKit.Exa Z h x ST) (V : RoadKit.Fld Z h x ST "value" "[B" v0) (C : RoadKit.Fld Z h x ST "coder" "B" c0) (K : RoadKit.Arv Z h b kC .char N (cs.map Value.int) d) (S : RoadKit.Sta Z h ST "COMPACT_STRINGS" "Z" (.int z)) (hz : ¬ z = 0)
    (hn : cs.length = n) (hN : N = Int32.ofNat n) (l0 : 0 < n) (l2 : n ≤ 4000) (hp : ∀ c ∈ cs, ¬ c < 0 ∧ ¬ (255 : Int32) < c) (hb : bs = cs.map (fun c => c.toInt8.toInt32)) (hfr : 4 ≤ R.frames) (hlo : W + 65 ≤ R.locals) :
    Back l R p e below s args (⟨"java/lang/String", "<init>", "([C)V"⟩ : MethodName) len W (fun P a => a = #[.ref x, .ref b] ∧ P.U.heap = h ∧ P.cells + 1 ≤ R.cells ∧ P.slots + n ≤ R.slots)
      (fun P _ v B => ∃ L, QV Z x N bs h n0 v B.U.heap L ∧ B.locs = P.locs ++ L ∧ B.cells = P.cells + 1 ∧ B.slots = P.slots + n) := by
  subst hn hN hb
  refine Back.mono (backArv hZ hw wi E V C K S hz (n32 (by omega)) l0 (by omega) (fun c hc => (hp c hc).2) hfr hlo) (fun P a hp => hp) (fun P a v B hp hq => ?_)
  obtain ⟨L, ⟨q1, q2, q3, q4, q5, q6, q7, ⟨kb, v1, v2⟩, q9⟩, hl, hc, hs⟩ := hq
  exact ⟨L, ⟨q1, fun y hy => by rw [q2 y hy]; exact hx0, q3, q5, q7, h.size, kb, hh0, Nat.le_refl _, Nat.ne_of_gt E.lt, q6, by rw [List.map_map]; exact v2⟩, hl, hc, hs⟩
end StrChars.Road
end Jvm.Pilot.@@N@@
namespace Jvm.Pilot.@@N@@
open Jvm Jvm.ClassFile Sem Op Lib Jvm.Free Jvm.Stand Jvm.LawKit Jvm.RoadKit Bundle Jvm.Pilot.@@N@@.Jvm.D
theorem own_hws {Z : State} {a0 : Array Value} (hw : ∀ d ∈ tables_1, d.before a0 Z = true) : ∀ d ∈ StrChars.Road.words, d.before a0 Z = true := List.forall_mem_cons.mpr ⟨(hw _ (List.mem_of_getElem? (i := 6) rfl)), List.forall_mem_cons.mpr ⟨(hw _ (List.mem_of_getElem? (i := 2) rfl)), List.forall_mem_cons.mpr ⟨(hw _ (List.mem_of_getElem? (i := 7) rfl)), List.forall_mem_cons.mpr ⟨(hw _ (List.mem_of_getElem? (i := 8) rfl)), List.forall_mem_cons.mpr ⟨(hw _ (List.mem_of_getElem? (i := 10) rfl)), List.forall_mem_cons.mpr ⟨(hw _ (List.mem_of_getElem? (i := 14) rfl)), List.forall_mem_cons.mpr ⟨(hw _ (List.mem_of_getElem? (i := 29) rfl)), List.forall_mem_cons.mpr ⟨(hw _ (List.mem_of_getElem? (i := 28) rfl)), List.forall_mem_cons.mpr ⟨(hw _ (List.mem_of_getElem? (i := 27) rfl)), List.forall_mem_cons.mpr ⟨(hw _ (List.mem_of_getElem? (i := 26) rfl)), List.forall_mem_cons.mpr ⟨(hw _ (List.mem_of_getElem? (i := 11) rfl)), List.forall_mem_cons.mpr ⟨(hw _ (List.mem_of_getElem? (i := 12) rfl)), List.forall_mem_cons.mpr ⟨(hw _ (List.mem_of_getElem? (i := 13) rfl)), List.forall_mem_cons.mpr ⟨(hw _ (List.mem_of_getElem? (i := 15) rfl)), List.forall_mem_cons.mpr ⟨(hw _ (List.mem_of_getElem? (i := 16) rfl)), List.forall_mem_cons.mpr ⟨(hw _ (List.mem_of_getElem? (i := 23) rfl)), List.forall_mem_cons.mpr ⟨(hw _ (List.mem_of_getElem? (i := 24) rfl)), List.forall_mem_cons.mpr ⟨(hw _ (List.mem_of_getElem? (i := 18) rfl)), List.forall_mem_cons.mpr ⟨(hw _ (List.mem_of_getElem? (i := 17) rfl)), List.forall_mem_cons.mpr ⟨(hw _ (List.mem_of_getElem? (i := 19) rfl)), List.forall_mem_cons.mpr ⟨(hw _ (List.mem_of_getElem? (i := 20) rfl)), List.forall_mem_cons.mpr ⟨(hw _ (List.mem_of_getElem? (i := 21) rfl)), List.forall_mem_cons.mpr ⟨(hw _ (List.mem_of_getElem? (i := 22) rfl)), List.forall_mem_cons.mpr ⟨(hw _ (List.mem_of_getElem? (i := 25) rfl)), fun _ hd => nomatch hd⟩⟩⟩⟩⟩⟩⟩⟩⟩⟩⟩⟩⟩⟩⟩⟩⟩⟩⟩⟩⟩⟩⟩⟩
theorem own_ch (v : Int32) : ¬ nar .char ((v &&& (255 : Int32)).toUInt32.toUInt16.toUInt32.toInt32) < 0 ∧ ¬ (255 : Int32) < nar .char ((v &&& (255 : Int32)).toUInt32.toUInt16.toUInt32.toInt32) := by
  have e : nar .char ((v &&& (255 : Int32)).toUInt32.toUInt16.toUInt32.toInt32) = v &&& 255 := by
    show ((v &&& (255 : Int32)).toUInt32.toUInt16.toUInt32.toInt32).toUInt32.toUInt16.toUInt32.toInt32 = _
    rw [i2c_mask, i2c_mask]
  have m := c_mask v 255 8 (by decide) (by decide)
  rw [e, Int32.lt_iff_toInt_lt, Int32.lt_iff_toInt_lt]
  have h0 : (0 : Int32).toInt = 0 := rfl
  have h1 : (255 : Int32).toInt = 255 := rfl
  omega
theorem own_all1 {P : Int32 → Prop} {a : Int32} (h : P a) : ∀ c ∈ ([a] : List Int32), P c := fun c hc => by cases List.mem_singleton.mp hc; exact h
theorem own_all2 {P : Int32 → Prop} {a b : Int32} (h : P a) (h2 : P b) : ∀ c ∈ ([a, b] : List Int32), P c := fun c hc => by
  simp only [List.mem_cons, List.not_mem_nil, or_false] at hc
  rcases hc with rfl | rfl <;> assumption
theorem own_cR (z : Addr) : (Value.ref z).category = 1 := rfl
theorem own_cI (z : Int32) : (Value.int z).category = 1 := rfl
theorem own_cN : Value.null.category = 1 := rfl
theorem own_cat {v : Value} (h : v.isRef = true) : v.category = 1 := by rcases ref_cases h with rfl | ⟨z, rfl⟩ <;> rfl
theorem own_narO {v : Value} {c : String} (h : v.isRef = true) : narrow (.object c) v = v := by rcases ref_cases h with rfl | ⟨z, rfl⟩ <;> rfl
theorem own_narA {v : Value} {t : FieldType} (h : v.isRef = true) : narrow (.array t) v = v := by rcases ref_cases h with rfl | ⟨z, rfl⟩ <;> rfl
theorem own_fitO {v : Value} {c : String} (h : v.isRef = true) : fits (.object c) v = true := by rcases ref_cases h with rfl | ⟨z, rfl⟩ <;> rfl
theorem own_fitA {v : Value} {t : FieldType} (h : v.isRef = true) : fits (.array t) v = true := by rcases ref_cases h with rfl | ⟨z, rfl⟩ <;> rfl
theorem own_b8 (v : Int32) : nar .byte (v.toInt8.toInt32) = v.toInt8.toInt32 := by
  show v.toInt8.toInt32.toInt8.toInt32 = _
  rw [Int8.toInt8_toInt32]
theorem ef8 (m : MethodId) (x0 : Addr) : entryFrame m #[(.ref x0)] 1 = mkF m 0 #[.val (.ref x0)] [] := by first | (simp [entryFrame, mkF, argsToLocals, Value.category]; done) | rfl
theorem pn_0 : plainName "java/lang/Record" = true := by first | (simp [plainName, overriddenIn]; done) | decide +kernel
theorem d8_0 : decode jdk_30_method_1_code 0 = .ok (.aload_n 0, 1) := by decide +kernel
theorem d8_1 : decode jdk_30_method_1_code 1 = .ok (.invokespecial 1, 3) := by decide +kernel
theorem d8_4 : decode jdk_30_method_1_code 4 = .ok (.return_, 1) := by decide +kernel
def Q8 (Z : State) (a : Addr) (h0 : Heap) (n0 : Nat) (v : Option Value) (h : Heap) (L : List Loc) : Prop := v = none ∧ Fr n0 L ∧ h = h0
set_option maxRecDepth 65536 in
set_option maxHeartbeats 40000000 in
theorem rm8 (l : Launch) (Z : State) (a0 : Array Value) (hw : ∀ d ∈ tables_1, d.before a0 Z = true) (ws : List Jvm.Cond) (a : Addr) (h0 : Heap) (n0 : Nat) (Z0 : n0 ≤ h0.size)  :
    MetFree l (⟨"java/lang/Record", "<init>", "()V"⟩ : MethodName) (head1 (Jvm.Cond.code (⟨"java/lang/Record", "<init>", "()V"⟩ : MethodName) jdk_30_method_1_code 1 none :: ws) ({ frames := 1, cells := 0, slots := 0, locals := 12 } : Room)) (fun zza zzU => zza = #[(.ref a)] ∧ Z.Warmed39 zzU.vm ∧ zzU.heap = h0) (fun _ _ _ _ _ => True) (fun _ zzU zzo zzV => ∃ zzv zzL, zzo = .returned zzv ∧ Q8 Z a h0 n0 zzv zzV.heap zzL ∧ FrameEnd zzU zzo zzV zzL ({ frames := 1, cells := 0, slots := 0, locals := 12 } : Room).cells ({ frames := 1, cells := 0, slots := 0, locals := 12 } : Room).slots) := by
  refine MetFree.of_bodySF (plainFor_of_name pn_0) hisR ?_
  intro p e s m args below meth c s₁ Bd hml0 hP hK
  obtain ⟨rfl, hZ, hh⟩ := hP
  have hx := Bd.exec
  have hby := Bd.bytes
  have hml : c.maxLocals = 1 := hml0
  have hown : s.vm.findClass "java/lang/Record" = some m.cls := findClass_of_methodNamed Bd.named
  have hnm := (name_of_methodNamed Bd.named Bd.method).1
  have X0 : Stand p l e ({ frames := 1, cells := 0, slots := 0, locals := 12 } : Room) s m #[(.ref a)] below meth c s₁ [] 0 0 := Stand.of_body Bd
  have e0 : s₁.heap = h0 := by rw [← hh, Bd.state]; rfl
  have N0 := Fr.nil n0
  have R0 : ∀ zt, Steps p.tables e below (s₁.setTop (mkF m 0 #[.val (.ref a)] [])) zt → Steps p.tables e below (s₁.setTop (entryFrame m #[(.ref a)] 1)) zt := fun zt zk => castTop (ef8 m a) zk
  have R1 : ∀ zt, Steps p.tables e below (s₁.setTop (mkF m 1 #[.val (.ref a)] [(.ref a)])) zt → Steps p.tables e below (s₁.setTop (entryFrame m #[(.ref a)] 1)) zt := by
    intro zt zk
    refine R0 zt ?_
    show Steps p.tables e below (s₁.setTop (mkF m 0 #[.val (.ref a)] [])) _
    refine XS.aloadN X0.here hx rfl (hb hby d8_0) rfl rfl ?_
    exact zk
  obtain ⟨T2, X2, e2, st2⟩ := initO X0 hx hZ hown (hw _ (List.mem_of_getElem? (i := 41) rfl)) (hw _ (List.mem_of_getElem? (i := 12) rfl)) (hw _ (List.mem_of_getElem? (i := 13) rfl)) e0 (g := (mkF m 1 #[.val (.ref a)] [(.ref a)])) rfl (by rw [hml]; rfl) rfl (hb hby d8_1) (by decide) (W := 0) (by show 2 * 0 + _ ≤ _; exact Nat.le_of_eq rfl) (by decide)
  have R3 : ∀ zt, Steps p.tables e below (T2.setTop (mkF m 4 #[.val (.ref a)] [])) zt → Steps p.tables e below (s₁.setTop (entryFrame m #[(.ref a)] 1)) zt := by
    intro zt zk
    refine R1 zt ?_
    show Steps p.tables e below (s₁.setTop (mkF m 1 #[.val (.ref a)] [(.ref a)])) _
    refine st2 _ ?_
    exact zk
  obtain ⟨fs, hr, hrun, hended, hW, hsame⟩ := X2.leave (v := none) (fun _ => rfl)
  refine ⟨_, _, R3 _ ?_, hrun, hended, _, _, rfl, ?_, ⟨_, rfl⟩, hW, hsame.mono (by decide) (by decide)⟩
  · exact X2.returnOut hx Bd.returns (hb hby d8_4) hr
  · show Q8 Z a h0 n0 _ T2.heap _
    rw [e2]
    exact ⟨rfl, N0, rfl⟩
theorem ef7 (m : MethodId) (x0 : Addr) (x1 : Addr) (x2 : Addr) (x3 : Addr) (x4 : Value) (hx4 : x4.category = 1) (x6 : Int32) (x7 : Int32) (x8 : Int32) (x9 : Int32) : entryFrame m #[(.ref x0), (.ref x1), (.ref x2), (.ref x3), x4, .null, (.int x6), (.int x7), (.int x8), (.int x9)] 10 = mkF m 0 #[.val (.ref x0), .val (.ref x1), .val (.ref x2), .val (.ref x3), .val x4, .val .null, .val (.int x6), .val (.int x7), .val (.int x8), .val (.int x9)] [] := by first | (simp [entryFrame, mkF, argsToLocals, own_cR, own_cI, own_cN, hx4]; done) | skip
theorem pn_1 : plainName "com/example/accesstrail/accesstrail/server/RequestReader$Head" = true := by first | (simp [plainName, overriddenIn]; done) | decide +kernel
theorem d7_0 : decode prog_28_method_1_code 0 = .ok (.aload_n 0, 1) := by decide +kernel
theorem pd_0 : parseMethodDescriptor "()V" = some ⟨[], none⟩ := by decide +kernel
theorem d7_1 : decode prog_28_method_1_code 1 = .ok (.invokespecial 1, 3) := by decide +kernel
theorem d7_4 : decode prog_28_method_1_code 4 = .ok (.aload_n 0, 1) := by decide +kernel
theorem d7_5 : decode prog_28_method_1_code 5 = .ok (.aload_n 1, 1) := by decide +kernel
theorem d7_6 : decode prog_28_method_1_code 6 = .ok (.putfield 7, 3) := by decide +kernel
theorem d7_9 : decode prog_28_method_1_code 9 = .ok (.aload_n 0, 1) := by decide +kernel
theorem d7_10 : decode prog_28_method_1_code 10 = .ok (.aload_n 2, 1) := by decide +kernel
theorem d7_11 : decode prog_28_method_1_code 11 = .ok (.putfield 13, 3) := by decide +kernel
theorem d7_14 : decode prog_28_method_1_code 14 = .ok (.aload_n 0, 1) := by decide +kernel
theorem d7_15 : decode prog_28_method_1_code 15 = .ok (.aload_n 3, 1) := by decide +kernel
theorem d7_16 : decode prog_28_method_1_code 16 = .ok (.putfield 16, 3) := by decide +kernel
theorem d7_19 : decode prog_28_method_1_code 19 = .ok (.aload_n 0, 1) := by decide +kernel
theorem d7_20 : decode prog_28_method_1_code 20 = .ok (.aload 4, 2) := by decide +kernel
theorem d7_22 : decode prog_28_method_1_code 22 = .ok (.putfield 19, 3) := by decide +kernel
theorem d7_25 : decode prog_28_method_1_code 25 = .ok (.aload_n 0, 1) := by decide +kernel
theorem d7_26 : decode prog_28_method_1_code 26 = .ok (.aload 5, 2) := by decide +kernel
theorem d7_28 : decode prog_28_method_1_code 28 = .ok (.putfield 22, 3) := by decide +kernel
theorem d7_31 : decode prog_28_method_1_code 31 = .ok (.aload_n 0, 1) := by decide +kernel
theorem d7_32 : decode prog_28_method_1_code 32 = .ok (.iload 6, 2) := by decide +kernel
theorem d7_34 : decode prog_28_method_1_code 34 = .ok (.putfield 26, 3) := by decide +kernel
theorem d7_37 : decode prog_28_method_1_code 37 = .ok (.aload_n 0, 1) := by decide +kernel
theorem d7_38 : decode prog_28_method_1_code 38 = .ok (.iload 7, 2) := by decide +kernel
theorem d7_40 : decode prog_28_method_1_code 40 = .ok (.putfield 30, 3) := by decide +kernel
theorem d7_43 : decode prog_28_method_1_code 43 = .ok (.aload_n 0, 1) := by decide +kernel
theorem d7_44 : decode prog_28_method_1_code 44 = .ok (.iload 8, 2) := by decide +kernel
theorem d7_46 : decode prog_28_method_1_code 46 = .ok (.putfield 34, 3) := by decide +kernel
theorem d7_49 : decode prog_28_method_1_code 49 = .ok (.aload_n 0, 1) := by decide +kernel
theorem d7_50 : decode prog_28_method_1_code 50 = .ok (.iload 9, 2) := by decide +kernel
theorem d7_52 : decode prog_28_method_1_code 52 = .ok (.putfield 37, 3) := by decide +kernel
theorem d7_55 : decode prog_28_method_1_code 55 = .ok (.return_, 1) := by decide +kernel
def Q7 (Z : State) (a : Addr) (s1 : Addr) (s2 : Addr) (s3 : Addr) (qv : Value) (i6 : Int32) (i7 : Int32) (i8 : Int32) (i9 : Int32) (h0 : Heap) (n0 : Nat) (v : Option Value) (h : Heap) (L : List Loc) : Prop := v = none ∧ Fr n0 L ∧ Keep h0 h [a] ∧ Fld Z h a "com/example/accesstrail/accesstrail/server/RequestReader$Head" "method" "Ljava/lang/String;" (.ref s1) ∧ Fld Z h a "com/example/accesstrail/accesstrail/server/RequestReader$Head" "target" "Ljava/lang/String;" (.ref s2) ∧ Fld Z h a "com/example/accesstrail/accesstrail/server/RequestReader$Head" "path" "Ljava/lang/String;" (.ref s3) ∧ Fld Z h a "com/example/accesstrail/accesstrail/server/RequestReader$Head" "query" "Ljava/lang/String;" qv ∧ Fld Z h a "com/example/accesstrail/accesstrail/server/RequestReader$Head" "fields" "Ljava/util/Map;" .null
set_option maxRecDepth 65536 in
set_option maxHeartbeats 40000000 in
theorem rm7 (l : Launch) (Z : State) (a0 : Array Value) (hw : ∀ d ∈ tables_1, d.before a0 Z = true) (ws : List Jvm.Cond) (a : Addr) (s1 : Addr) (s2 : Addr) (s3 : Addr) (qv : Value) (i6 : Int32) (i7 : Int32) (i8 : Int32) (i9 : Int32) (h0 : Heap) (n0 : Nat) (Z0 : n0 ≤ h0.size) (E_a : Exa Z h0 a "com/example/accesstrail/accesstrail/server/RequestReader$Head") (F_method_a : Fld Z h0 a "com/example/accesstrail/accesstrail/server/RequestReader$Head" "method" "Ljava/lang/String;" .null) (F_target_a : Fld Z h0 a "com/example/accesstrail/accesstrail/server/RequestReader$Head" "target" "Ljava/lang/String;" .null) (F_path_a : Fld Z h0 a "com/example/accesstrail/accesstrail/server/RequestReader$Head" "path" "Ljava/lang/String;" .null) (F_query_a : Fld Z h0 a "com/example/accesstrail/accesstrail/server/RequestReader$Head" "query" "Ljava/lang/String;" .null) (F_fields_a : Fld Z h0 a "com/example/accesstrail/accesstrail/server/RequestReader$Head" "fields" "Ljava/util/Map;" .null) (F_length_a : Fld Z h0 a "com/example/accesstrail/accesstrail/server/RequestReader$Head" "length" "I" (.int (0 : Int32))) (F_persistent_a : Fld Z h0 a "com/example/accesstrail/accesstrail/server/RequestReader$Head" "persistent" "Z" (.int (0 : Int32))) (F_expectsContinue_a : Fld Z h0 a "com/example/accesstrail/accesstrail/server/RequestReader$Head" "expectsContinue" "Z" (.int (0 : Int32))) (F_takesChunked_a : Fld Z h0 a "com/example/accesstrail/accesstrail/server/RequestReader$Head" "takesChunked" "Z" (.int (0 : Int32))) (ge_a : n0 ≤ a) (hr_qv : qv.isRef = true) :
    MetFree l (⟨"com/example/accesstrail/accesstrail/server/RequestReader$Head", "<init>", "(Ljava/lang/String;Ljava/lang/String;Ljava/lang/String;Ljava/lang/String;Ljava/util/Map;IZZZ)V"⟩ : MethodName) (head1 (Jvm.Cond.code (⟨"com/example/accesstrail/accesstrail/server/RequestReader$Head", "<init>", "(Ljava/lang/String;Ljava/lang/String;Ljava/lang/String;Ljava/lang/String;Ljava/util/Map;IZZZ)V"⟩ : MethodName) prog_28_method_1_code 10 none :: ws) ({ frames := 2, cells := 0, slots := 0, locals := 24 } : Room)) (fun zza zzU => zza = #[(.ref a), (.ref s1), (.ref s2), (.ref s3), qv, .null, (.int i6), (.int i7), (.int i8), (.int i9)] ∧ Z.Warmed39 zzU.vm ∧ zzU.heap = h0) (fun _ _ _ _ _ => True) (fun _ zzU zzo zzV => ∃ zzv zzL, zzo = .returned zzv ∧ Q7 Z a s1 s2 s3 qv i6 i7 i8 i9 h0 n0 zzv zzV.heap zzL ∧ FrameEnd zzU zzo zzV zzL ({ frames := 2, cells := 0, slots := 0, locals := 24 } : Room).cells ({ frames := 2, cells := 0, slots := 0, locals := 24 } : Room).slots) := by
  refine MetFree.of_bodySF (plainFor_of_name pn_1) hisR ?_
  intro p e s m args below meth c s₁ Bd hml0 hP hK
  obtain ⟨rfl, hZ, hh⟩ := hP
  have hx := Bd.exec
  have hby := Bd.bytes
  have hml : c.maxLocals = 10 := hml0
  have hown : s.vm.findClass "com/example/accesstrail/accesstrail/server/RequestReader$Head" = some m.cls := findClass_of_methodNamed Bd.named
  have hnm := (name_of_methodNamed Bd.named Bd.method).1
  have X0 : Stand p l e ({ frames := 2, cells := 0, slots := 0, locals := 24 } : Room) s m #[(.ref a), (.ref s1), (.ref s2), (.ref s3), qv, .null, (.int i6), (.int i7), (.int i8), (.int i9)] below meth c s₁ [] 0 0 := Stand.of_body Bd
  have e0 : s₁.heap = h0 := by rw [← hh, Bd.state]; rfl
  have N0 := Fr.nil n0
  have R0 : ∀ zt, Steps p.tables e below (s₁.setTop (mkF m 0 #[.val (.ref a), .val (.ref s1), .val (.ref s2), .val (.ref s3), .val qv, .val .null, .val (.int i6), .val (.int i7), .val (.int i8), .val (.int i9)] [])) zt → Steps p.tables e below (s₁.setTop (entryFrame m #[(.ref a), (.ref s1), (.ref s2), (.ref s3), qv, .null, (.int i6), (.int i7), (.int i8), (.int i9)] 10)) zt := fun zt zk => castTop (ef7 m a s1 s2 s3 qv (own_cat hr_qv) i6 i7 i8 i9) zk
  have KP := Keep.refl h0 [a]
  have R1 : ∀ zt, Steps p.tables e below (s₁.setTop (mkF m 1 #[.val (.ref a), .val (.ref s1), .val (.ref s2), .val (.ref s3), .val qv, .val .null, .val (.int i6), .val (.int i7), .val (.int i8), .val (.int i9)] [(.ref a)])) zt → Steps p.tables e below (s₁.setTop (entryFrame m #[(.ref a), (.ref s1), (.ref s2), (.ref s3), qv, .null, (.int i6), (.int i7), (.int i8), (.int i9)] 10)) zt := by
    intro zt zk
    refine R0 zt ?_
    show Steps p.tables e below (s₁.setTop (mkF m 0 #[.val (.ref a), .val (.ref s1), .val (.ref s2), .val (.ref s3), .val qv, .val .null, .val (.int i6), .val (.int i7), .val (.int i8), .val (.int i9)] [])) _
    refine XS.aloadN X0.here hx rfl (hb hby d7_0) rfl rfl ?_
    exact zk
  obtain ⟨_, _, ⟨T2, L2, k2, n2⟩, -, X2, ⟨Lc2, hQ2, l2, y2, z2⟩, st2⟩ := X0.specialBack hx (y := (⟨"java/lang/Record", "<init>", "()V"⟩ : MethodName)) rfl hown (mvT hZ (hw _ (List.mem_of_getElem? (i := 36) rfl))) (mvT hZ (hw _ (List.mem_of_getElem? (i := 37) rfl))) (mvT hZ (hw _ (List.mem_of_getElem? (i := 40) rfl))) (by decide) (backOf (W := 0) (rm8 l Z a0 hw [] a h0 n0 Z0) hZ (hw _ (List.mem_of_getElem? (i := 40) rfl)) (hw _ (List.mem_of_getElem? (i := 39) rfl)) (by decide) (by decide)) (g := (mkF m 1 #[.val (.ref a), .val (.ref s1), .val (.ref s2), .val (.ref s3), .val qv, .val .null, .val (.int i6), .val (.int i7), .val (.int i8), .val (.int i9)] [(.ref a)])) rfl (by rw [hml]; rfl) (Steps.refl _) (a := a) (argsL := []) (rest := []) (lenOf pd_0 rfl) rfl (by show 2 * 0 + _ ≤ _; exact Nat.le_of_eq rfl) (hb hby d7_1) (fun _ _ => ⟨rfl, e0, (by decide : 0 + 0 ≤ _), (by decide : 0 + 0 ≤ _)⟩)
  dsimp only [Pt.U, Pt.locs, Pt.cells, Pt.slots] at X2 l2 y2 z2 st2 hQ2
  rw [y2, z2] at X2
  have X2 : Stand p l e ({ frames := 2, cells := 0, slots := 0, locals := 24 } : Room) s m #[(.ref a), (.ref s1), (.ref s2), (.ref s3), qv, .null, (.int i6), (.int i7), (.int i8), (.int i9)] below meth c T2 L2 0 0 := X2
  obtain ⟨rfl, Nq2, eq2⟩ := hQ2
  have N2 : Fr n0 L2 := by rw [l2]; exact Fr.app N0 Nq2
  clear l2 y2 z2
  have e2 : T2.heap = h0 := eq2
  have R3 : ∀ zt, Steps p.tables e below (T2.setTop (mkF m 6 #[.val (.ref a), .val (.ref s1), .val (.ref s2), .val (.ref s3), .val qv, .val .null, .val (.int i6), .val (.int i7), .val (.int i8), .val (.int i9)] [(.ref s1), (.ref a)])) zt → Steps p.tables e below (s₁.setTop (entryFrame m #[(.ref a), (.ref s1), (.ref s2), (.ref s3), qv, .null, (.int i6), (.int i7), (.int i8), (.int i9)] 10)) zt := by
    intro zt zk
    refine R1 zt ?_
    show Steps p.tables e below (s₁.setTop (mkF m 1 #[.val (.ref a), .val (.ref s1), .val (.ref s2), .val (.ref s3), .val qv, .val .null, .val (.int i6), .val (.int i7), .val (.int i8), .val (.int i9)] [(.ref a)])) _
    refine st2.trans ?_
    show Steps p.tables e below (T2.setTop (mkF m 4 #[.val (.ref a), .val (.ref s1), .val (.ref s2), .val (.ref s3), .val qv, .val .null, .val (.int i6), .val (.int i7), .val (.int i8), .val (.int i9)] [])) _
    refine XS.aloadN X2.here hx rfl (hb hby d7_4) rfl rfl ?_
    show Steps p.tables e below (T2.setTop (mkF m 5 #[.val (.ref a), .val (.ref s1), .val (.ref s2), .val (.ref s3), .val qv, .val .null, .val (.int i6), .val (.int i7), .val (.int i8), .val (.int i9)] [(.ref a)])) _
    refine XS.aloadN X2.here hx rfl (hb hby d7_5) rfl rfl ?_
    exact zk
  obtain ⟨T4, h4, X4, e4, W4, st4⟩ := putF X2 hx hZ hown (host := "") (Or.inl (hw _ (List.mem_of_getElem? (i := 42) rfl))) Via.refl e2 F_method_a E_a (Or.inr ⟨(hw _ (List.mem_of_getElem? (i := 43) rfl)), rfl, hnm⟩) (hw _ (List.mem_of_getElem? (i := 31) rfl)) (ty := (.object "java/lang/String")) (by decide) rfl rfl (g := (mkF m 6 #[.val (.ref a), .val (.ref s1), .val (.ref s2), .val (.ref s3), .val qv, .val .null, .val (.int i6), .val (.int i7), .val (.int i8), .val (.int i9)] [(.ref s1), (.ref a)])) rfl rfl (hb hby d7_6)
  have N4 := Fr.snoc X4 N2 ge_a
  have Sz4 := Nat.le_trans Z0 (Keep.of_wr W4).1
  have E_a := E_a.wr W4
  have F_target_a := F_target_a.other W4 (Or.inr (slot_ne (Or.inr (hw _ (List.mem_of_getElem? (i := 45) rfl))) (Or.inr (hw _ (List.mem_of_getElem? (i := 43) rfl))) (by decide) (t := (.object "java/lang/String")) (t' := (.object "java/lang/String")) (by decide) (by decide)))
  have F_path_a := F_path_a.other W4 (Or.inr (slot_ne (Or.inr (hw _ (List.mem_of_getElem? (i := 47) rfl))) (Or.inr (hw _ (List.mem_of_getElem? (i := 43) rfl))) (by decide) (t := (.object "java/lang/String")) (t' := (.object "java/lang/String")) (by decide) (by decide)))
  have F_query_a := F_query_a.other W4 (Or.inr (slot_ne (Or.inr (hw _ (List.mem_of_getElem? (i := 49) rfl))) (Or.inr (hw _ (List.mem_of_getElem? (i := 43) rfl))) (by decide) (t := (.object "java/lang/String")) (t' := (.object "java/lang/String")) (by decide) (by decide)))
  have F_fields_a := F_fields_a.other W4 (Or.inr (slot_ne (Or.inr (hw _ (List.mem_of_getElem? (i := 51) rfl))) (Or.inr (hw _ (List.mem_of_getElem? (i := 43) rfl))) (by decide) (t := (.object "java/util/Map")) (t' := (.object "java/lang/String")) (by decide) (by decide)))
  have F_length_a := F_length_a.other W4 (Or.inr (slot_ne (Or.inr (hw _ (List.mem_of_getElem? (i := 53) rfl))) (Or.inr (hw _ (List.mem_of_getElem? (i := 43) rfl))) (by decide) (t := .int) (t' := (.object "java/lang/String")) (by decide) (by decide)))
  have F_persistent_a := F_persistent_a.other W4 (Or.inr (slot_ne (Or.inr (hw _ (List.mem_of_getElem? (i := 55) rfl))) (Or.inr (hw _ (List.mem_of_getElem? (i := 43) rfl))) (by decide) (t := .boolean) (t' := (.object "java/lang/String")) (by decide) (by decide)))
  have F_expectsContinue_a := F_expectsContinue_a.other W4 (Or.inr (slot_ne (Or.inr (hw _ (List.mem_of_getElem? (i := 57) rfl))) (Or.inr (hw _ (List.mem_of_getElem? (i := 43) rfl))) (by decide) (t := .boolean) (t' := (.object "java/lang/String")) (by decide) (by decide)))
  have F_takesChunked_a := F_takesChunked_a.other W4 (Or.inr (slot_ne (Or.inr (hw _ (List.mem_of_getElem? (i := 59) rfl))) (Or.inr (hw _ (List.mem_of_getElem? (i := 43) rfl))) (by decide) (t := .boolean) (t' := (.object "java/lang/String")) (by decide) (by decide)))
  have F_method_a := F_method_a.same W4
  have KP := KP.wr W4 (Or.inl (List.mem_of_getElem? (i := 0) rfl))
  have R5 : ∀ zt, Steps p.tables e below (T4.setTop (mkF m 11 #[.val (.ref a), .val (.ref s1), .val (.ref s2), .val (.ref s3), .val qv, .val .null, .val (.int i6), .val (.int i7), .val (.int i8), .val (.int i9)] [(.ref s2), (.ref a)])) zt → Steps p.tables e below (s₁.setTop (entryFrame m #[(.ref a), (.ref s1), (.ref s2), (.ref s3), qv, .null, (.int i6), (.int i7), (.int i8), (.int i9)] 10)) zt := by
    intro zt zk
    refine R3 zt ?_
    show Steps p.tables e below (T2.setTop (mkF m 6 #[.val (.ref a), .val (.ref s1), .val (.ref s2), .val (.ref s3), .val qv, .val .null, .val (.int i6), .val (.int i7), .val (.int i8), .val (.int i9)] [(.ref s1), (.ref a)])) _
    refine st4 _ ?_
    show Steps p.tables e below (T4.setTop (mkF m 9 #[.val (.ref a), .val (.ref s1), .val (.ref s2), .val (.ref s3), .val qv, .val .null, .val (.int i6), .val (.int i7), .val (.int i8), .val (.int i9)] [])) _
    refine XS.aloadN X4.here hx rfl (hb hby d7_9) rfl rfl ?_
    show Steps p.tables e below (T4.setTop (mkF m 10 #[.val (.ref a), .val (.ref s1), .val (.ref s2), .val (.ref s3), .val qv, .val .null, .val (.int i6), .val (.int i7), .val (.int i8), .val (.int i9)] [(.ref a)])) _
    refine XS.aloadN X4.here hx rfl (hb hby d7_10) rfl rfl ?_
    exact zk
  obtain ⟨T6, h6, X6, e6, W6, st6⟩ := putF X4 hx hZ hown (host := "") (Or.inl (hw _ (List.mem_of_getElem? (i := 44) rfl))) Via.refl e4 F_target_a E_a (Or.inr ⟨(hw _ (List.mem_of_getElem? (i := 45) rfl)), rfl, hnm⟩) (hw _ (List.mem_of_getElem? (i := 31) rfl)) (ty := (.object "java/lang/String")) (by decide) rfl rfl (g := (mkF m 11 #[.val (.ref a), .val (.ref s1), .val (.ref s2), .val (.ref s3), .val qv, .val .null, .val (.int i6), .val (.int i7), .val (.int i8), .val (.int i9)] [(.ref s2), (.ref a)])) rfl rfl (hb hby d7_11)
  have N6 := Fr.snoc X6 N4 ge_a
  have Sz6 := Nat.le_trans Sz4 (Keep.of_wr W6).1
  have E_a := E_a.wr W6
  have F_method_a := F_method_a.other W6 (Or.inr (slot_ne (Or.inr (hw _ (List.mem_of_getElem? (i := 43) rfl))) (Or.inr (hw _ (List.mem_of_getElem? (i := 45) rfl))) (by decide) (t := (.object "java/lang/String")) (t' := (.object "java/lang/String")) (by decide) (by decide)))
  have F_path_a := F_path_a.other W6 (Or.inr (slot_ne (Or.inr (hw _ (List.mem_of_getElem? (i := 47) rfl))) (Or.inr (hw _ (List.mem_of_getElem? (i := 45) rfl))) (by decide) (t := (.object "java/lang/String")) (t' := (.object "java/lang/String")) (by decide) (by decide)))
  have F_query_a := F_query_a.other W6 (Or.inr (slot_ne (Or.inr (hw _ (List.mem_of_getElem? (i := 49) rfl))) (Or.inr (hw _ (List.mem_of_getElem? (i := 45) rfl))) (by decide) (t := (.object "java/lang/String")) (t' := (.object "java/lang/String")) (by decide) (by decide)))
  have F_fields_a := F_fields_a.other W6 (Or.inr (slot_ne (Or.inr (hw _ (List.mem_of_getElem? (i := 51) rfl))) (Or.inr (hw _ (List.mem_of_getElem? (i := 45) rfl))) (by decide) (t := (.object "java/util/Map")) (t' := (.object "java/lang/String")) (by decide) (by decide)))
  have F_length_a := F_length_a.other W6 (Or.inr (slot_ne (Or.inr (hw _ (List.mem_of_getElem? (i := 53) rfl))) (Or.inr (hw _ (List.mem_of_getElem? (i := 45) rfl))) (by decide) (t := .int) (t' := (.object "java/lang/String")) (by decide) (by decide)))
  have F_persistent_a := F_persistent_a.other W6 (Or.inr (slot_ne (Or.inr (hw _ (List.mem_of_getElem? (i := 55) rfl))) (Or.inr (hw _ (List.mem_of_getElem? (i := 45) rfl))) (by decide) (t := .boolean) (t' := (.object "java/lang/String")) (by decide) (by decide)))
  have F_expectsContinue_a := F_expectsContinue_a.other W6 (Or.inr (slot_ne (Or.inr (hw _ (List.mem_of_getElem? (i := 57) rfl))) (Or.inr (hw _ (List.mem_of_getElem? (i := 45) rfl))) (by decide) (t := .boolean) (t' := (.object "java/lang/String")) (by decide) (by decide)))
  have F_takesChunked_a := F_takesChunked_a.other W6 (Or.inr (slot_ne (Or.inr (hw _ (List.mem_of_getElem? (i := 59) rfl))) (Or.inr (hw _ (List.mem_of_getElem? (i := 45) rfl))) (by decide) (t := .boolean) (t' := (.object "java/lang/String")) (by decide) (by decide)))
  have F_target_a := F_target_a.same W6
  have KP := KP.wr W6 (Or.inl (List.mem_of_getElem? (i := 0) rfl))
  have R7 : ∀ zt, Steps p.tables e below (T6.setTop (mkF m 16 #[.val (.ref a), .val (.ref s1), .val (.ref s2), .val (.ref s3), .val qv, .val .null, .val (.int i6), .val (.int i7), .val (.int i8), .val (.int i9)] [(.ref s3), (.ref a)])) zt → Steps p.tables e below (s₁.setTop (entryFrame m #[(.ref a), (.ref s1), (.ref s2), (.ref s3), qv, .null, (.int i6), (.int i7), (.int i8), (.int i9)] 10)) zt := by
    intro zt zk
    refine R5 zt ?_
    show Steps p.tables e below (T4.setTop (mkF m 11 #[.val (.ref a), .val (.ref s1), .val (.ref s2), .val (.ref s3), .val qv, .val .null, .val (.int i6), .val (.int i7), .val (.int i8), .val (.int i9)] [(.ref s2), (.ref a)])) _
    refine st6 _ ?_
    show Steps p.tables e below (T6.setTop (mkF m 14 #[.val (.ref a), .val (.ref s1), .val (.ref s2), .val (.ref s3), .val qv, .val .null, .val (.int i6), .val (.int i7), .val (.int i8), .val (.int i9)] [])) _
    refine XS.aloadN X6.here hx rfl (hb hby d7_14) rfl rfl ?_
    show Steps p.tables e below (T6.setTop (mkF m 15 #[.val (.ref a), .val (.ref s1), .val (.ref s2), .val (.ref s3), .val qv, .val .null, .val (.int i6), .val (.int i7), .val (.int i8), .val (.int i9)] [(.ref a)])) _
    refine XS.aloadN X6.here hx rfl (hb hby d7_15) rfl rfl ?_
    exact zk
  obtain ⟨T8, h8, X8, e8, W8, st8⟩ := putF X6 hx hZ hown (host := "") (Or.inl (hw _ (List.mem_of_getElem? (i := 46) rfl))) Via.refl e6 F_path_a E_a (Or.inr ⟨(hw _ (List.mem_of_getElem? (i := 47) rfl)), rfl, hnm⟩) (hw _ (List.mem_of_getElem? (i := 31) rfl)) (ty := (.object "java/lang/String")) (by decide) rfl rfl (g := (mkF m 16 #[.val (.ref a), .val (.ref s1), .val (.ref s2), .val (.ref s3), .val qv, .val .null, .val (.int i6), .val (.int i7), .val (.int i8), .val (.int i9)] [(.ref s3), (.ref a)])) rfl rfl (hb hby d7_16)
  have N8 := Fr.snoc X8 N6 ge_a
  have Sz8 := Nat.le_trans Sz6 (Keep.of_wr W8).1
  have E_a := E_a.wr W8
  have F_method_a := F_method_a.other W8 (Or.inr (slot_ne (Or.inr (hw _ (List.mem_of_getElem? (i := 43) rfl))) (Or.inr (hw _ (List.mem_of_getElem? (i := 47) rfl))) (by decide) (t := (.object "java/lang/String")) (t' := (.object "java/lang/String")) (by decide) (by decide)))
  have F_target_a := F_target_a.other W8 (Or.inr (slot_ne (Or.inr (hw _ (List.mem_of_getElem? (i := 45) rfl))) (Or.inr (hw _ (List.mem_of_getElem? (i := 47) rfl))) (by decide) (t := (.object "java/lang/String")) (t' := (.object "java/lang/String")) (by decide) (by decide)))
  have F_query_a := F_query_a.other W8 (Or.inr (slot_ne (Or.inr (hw _ (List.mem_of_getElem? (i := 49) rfl))) (Or.inr (hw _ (List.mem_of_getElem? (i := 47) rfl))) (by decide) (t := (.object "java/lang/String")) (t' := (.object "java/lang/String")) (by decide) (by decide)))
  have F_fields_a := F_fields_a.other W8 (Or.inr (slot_ne (Or.inr (hw _ (List.mem_of_getElem? (i := 51) rfl))) (Or.inr (hw _ (List.mem_of_getElem? (i := 47) rfl))) (by decide) (t := (.object "java/util/Map")) (t' := (.object "java/lang/String")) (by decide) (by decide)))
  have F_length_a := F_length_a.other W8 (Or.inr (slot_ne (Or.inr (hw _ (List.mem_of_getElem? (i := 53) rfl))) (Or.inr (hw _ (List.mem_of_getElem? (i := 47) rfl))) (by decide) (t := .int) (t' := (.object "java/lang/String")) (by decide) (by decide)))
  have F_persistent_a := F_persistent_a.other W8 (Or.inr (slot_ne (Or.inr (hw _ (List.mem_of_getElem? (i := 55) rfl))) (Or.inr (hw _ (List.mem_of_getElem? (i := 47) rfl))) (by decide) (t := .boolean) (t' := (.object "java/lang/String")) (by decide) (by decide)))
  have F_expectsContinue_a := F_expectsContinue_a.other W8 (Or.inr (slot_ne (Or.inr (hw _ (List.mem_of_getElem? (i := 57) rfl))) (Or.inr (hw _ (List.mem_of_getElem? (i := 47) rfl))) (by decide) (t := .boolean) (t' := (.object "java/lang/String")) (by decide) (by decide)))
  have F_takesChunked_a := F_takesChunked_a.other W8 (Or.inr (slot_ne (Or.inr (hw _ (List.mem_of_getElem? (i := 59) rfl))) (Or.inr (hw _ (List.mem_of_getElem? (i := 47) rfl))) (by decide) (t := .boolean) (t' := (.object "java/lang/String")) (by decide) (by decide)))
  have F_path_a := F_path_a.same W8
  have KP := KP.wr W8 (Or.inl (List.mem_of_getElem? (i := 0) rfl))
  have R9 : ∀ zt, Steps p.tables e below (T8.setTop (mkF m 22 #[.val (.ref a), .val (.ref s1), .val (.ref s2), .val (.ref s3), .val qv, .val .null, .val (.int i6), .val (.int i7), .val (.int i8), .val (.int i9)] [qv, (.ref a)])) zt → Steps p.tables e below (s₁.setTop (entryFrame m #[(.ref a), (.ref s1), (.ref s2), (.ref s3), qv, .null, (.int i6), (.int i7), (.int i8), (.int i9)] 10)) zt := by
    intro zt zk
    refine R7 zt ?_
    show Steps p.tables e below (T6.setTop (mkF m 16 #[.val (.ref a), .val (.ref s1), .val (.ref s2), .val (.ref s3), .val qv, .val .null, .val (.int i6), .val (.int i7), .val (.int i8), .val (.int i9)] [(.ref s3), (.ref a)])) _
    refine st8 _ ?_
    show Steps p.tables e below (T8.setTop (mkF m 19 #[.val (.ref a), .val (.ref s1), .val (.ref s2), .val (.ref s3), .val qv, .val .null, .val (.int i6), .val (.int i7), .val (.int i8), .val (.int i9)] [])) _
    refine XS.aloadN X8.here hx rfl (hb hby d7_19) rfl rfl ?_
    show Steps p.tables e below (T8.setTop (mkF m 20 #[.val (.ref a), .val (.ref s1), .val (.ref s2), .val (.ref s3), .val qv, .val .null, .val (.int i6), .val (.int i7), .val (.int i8), .val (.int i9)] [(.ref a)])) _
    refine XS.aload X8.here hx rfl (hb hby d7_20) rfl hr_qv ?_
    exact zk
  obtain ⟨T10, h10, X10, e10, W10, st10⟩ := putF X8 hx hZ hown (host := "") (Or.inl (hw _ (List.mem_of_getElem? (i := 48) rfl))) Via.refl e8 F_query_a E_a (Or.inr ⟨(hw _ (List.mem_of_getElem? (i := 49) rfl)), rfl, hnm⟩) (hw _ (List.mem_of_getElem? (i := 31) rfl)) (ty := (.object "java/lang/String")) (by decide) (own_narO hr_qv) (own_fitO hr_qv) (g := (mkF m 22 #[.val (.ref a), .val (.ref s1), .val (.ref s2), .val (.ref s3), .val qv, .val .null, .val (.int i6), .val (.int i7), .val (.int i8), .val (.int i9)] [qv, (.ref a)])) rfl rfl (hb hby d7_22)
  have N10 := Fr.snoc X10 N8 ge_a
  have Sz10 := Nat.le_trans Sz8 (Keep.of_wr W10).1
  have E_a := E_a.wr W10
  have F_method_a := F_method_a.other W10 (Or.inr (slot_ne (Or.inr (hw _ (List.mem_of_getElem? (i := 43) rfl))) (Or.inr (hw _ (List.mem_of_getElem? (i := 49) rfl))) (by decide) (t := (.object "java/lang/String")) (t' := (.object "java/lang/String")) (by decide) (by decide)))
  have F_target_a := F_target_a.other W10 (Or.inr (slot_ne (Or.inr (hw _ (List.mem_of_getElem? (i := 45) rfl))) (Or.inr (hw _ (List.mem_of_getElem? (i := 49) rfl))) (by decide) (t := (.object "java/lang/String")) (t' := (.object "java/lang/String")) (by decide) (by decide)))
  have F_path_a := F_path_a.other W10 (Or.inr (slot_ne (Or.inr (hw _ (List.mem_of_getElem? (i := 47) rfl))) (Or.inr (hw _ (List.mem_of_getElem? (i := 49) rfl))) (by decide) (t := (.object "java/lang/String")) (t' := (.object "java/lang/String")) (by decide) (by decide)))
  have F_fields_a := F_fields_a.other W10 (Or.inr (slot_ne (Or.inr (hw _ (List.mem_of_getElem? (i := 51) rfl))) (Or.inr (hw _ (List.mem_of_getElem? (i := 49) rfl))) (by decide) (t := (.object "java/util/Map")) (t' := (.object "java/lang/String")) (by decide) (by decide)))
  have F_length_a := F_length_a.other W10 (Or.inr (slot_ne (Or.inr (hw _ (List.mem_of_getElem? (i := 53) rfl))) (Or.inr (hw _ (List.mem_of_getElem? (i := 49) rfl))) (by decide) (t := .int) (t' := (.object "java/lang/String")) (by decide) (by decide)))
  have F_persistent_a := F_persistent_a.other W10 (Or.inr (slot_ne (Or.inr (hw _ (List.mem_of_getElem? (i := 55) rfl))) (Or.inr (hw _ (List.mem_of_getElem? (i := 49) rfl))) (by decide) (t := .boolean) (t' := (.object "java/lang/String")) (by decide) (by decide)))
  have F_expectsContinue_a := F_expectsContinue_a.other W10 (Or.inr (slot_ne (Or.inr (hw _ (List.mem_of_getElem? (i := 57) rfl))) (Or.inr (hw _ (List.mem_of_getElem? (i := 49) rfl))) (by decide) (t := .boolean) (t' := (.object "java/lang/String")) (by decide) (by decide)))
  have F_takesChunked_a := F_takesChunked_a.other W10 (Or.inr (slot_ne (Or.inr (hw _ (List.mem_of_getElem? (i := 59) rfl))) (Or.inr (hw _ (List.mem_of_getElem? (i := 49) rfl))) (by decide) (t := .boolean) (t' := (.object "java/lang/String")) (by decide) (by decide)))
  have F_query_a := F_query_a.same W10
  have KP := KP.wr W10 (Or.inl (List.mem_of_getElem? (i := 0) rfl))
  have R11 : ∀ zt, Steps p.tables e below (T10.setTop (mkF m 28 #[.val (.ref a), .val (.ref s1), .val (.ref s2), .val (.ref s3), .val qv, .val .null, .val (.int i6), .val (.int i7), .val (.int i8), .val (.int i9)] [.null, (.ref a)])) zt → Steps p.tables e below (s₁.setTop (entryFrame m #[(.ref a), (.ref s1), (.ref s2), (.ref s3), qv, .null, (.int i6), (.int i7), (.int i8), (.int i9)] 10)) zt := by
    intro zt zk
    refine R9 zt ?_
    show Steps p.tables e below (T8.setTop (mkF m 22 #[.val (.ref a), .val (.ref s1), .val (.ref s2), .val (.ref s3), .val qv, .val .null, .val (.int i6), .val (.int i7), .val (.int i8), .val (.int i9)] [qv, (.ref a)])) _
    refine st10 _ ?_
    show Steps p.tables e below (T10.setTop (mkF m 25 #[.val (.ref a), .val (.ref s1), .val (.ref s2), .val (.ref s3), .val qv, .val .null, .val (.int i6), .val (.int i7), .val (.int i8), .val (.int i9)] [])) _
    refine XS.aloadN X10.here hx rfl (hb hby d7_25) rfl rfl ?_
    show Steps p.tables e below (T10.setTop (mkF m 26 #[.val (.ref a), .val (.ref s1), .val (.ref s2), .val (.ref s3), .val qv, .val .null, .val (.int i6), .val (.int i7), .val (.int i8), .val (.int i9)] [(.ref a)])) _
    refine XS.aload X10.here hx rfl (hb hby d7_26) rfl rfl ?_
    exact zk
  obtain ⟨T12, h12, X12, e12, W12, st12⟩ := putF X10 hx hZ hown (host := "") (Or.inl (hw _ (List.mem_of_getElem? (i := 50) rfl))) Via.refl e10 F_fields_a E_a (Or.inr ⟨(hw _ (List.mem_of_getElem? (i := 51) rfl)), rfl, hnm⟩) (hw _ (List.mem_of_getElem? (i := 31) rfl)) (ty := (.object "java/util/Map")) (by decide) rfl rfl (g := (mkF m 28 #[.val (.ref a), .val (.ref s1), .val (.ref s2), .val (.ref s3), .val qv, .val .null, .val (.int i6), .val (.int i7), .val (.int i8), .val (.int i9)] [.null, (.ref a)])) rfl rfl (hb hby d7_28)
  have N12 := Fr.snoc X12 N10 ge_a
  have Sz12 := Nat.le_trans Sz10 (Keep.of_wr W12).1
  have E_a := E_a.wr W12
  have F_method_a := F_method_a.other W12 (Or.inr (slot_ne (Or.inr (hw _ (List.mem_of_getElem? (i := 43) rfl))) (Or.inr (hw _ (List.mem_of_getElem? (i := 51) rfl))) (by decide) (t := (.object "java/lang/String")) (t' := (.object "java/util/Map")) (by decide) (by decide)))
  have F_target_a := F_target_a.other W12 (Or.inr (slot_ne (Or.inr (hw _ (List.mem_of_getElem? (i := 45) rfl))) (Or.inr (hw _ (List.mem_of_getElem? (i := 51) rfl))) (by decide) (t := (.object "java/lang/String")) (t' := (.object "java/util/Map")) (by decide) (by decide)))
  have F_path_a := F_path_a.other W12 (Or.inr (slot_ne (Or.inr (hw _ (List.mem_of_getElem? (i := 47) rfl))) (Or.inr (hw _ (List.mem_of_getElem? (i := 51) rfl))) (by decide) (t := (.object "java/lang/String")) (t' := (.object "java/util/Map")) (by decide) (by decide)))
  have F_query_a := F_query_a.other W12 (Or.inr (slot_ne (Or.inr (hw _ (List.mem_of_getElem? (i := 49) rfl))) (Or.inr (hw _ (List.mem_of_getElem? (i := 51) rfl))) (by decide) (t := (.object "java/lang/String")) (t' := (.object "java/util/Map")) (by decide) (by decide)))
  have F_length_a := F_length_a.other W12 (Or.inr (slot_ne (Or.inr (hw _ (List.mem_of_getElem? (i := 53) rfl))) (Or.inr (hw _ (List.mem_of_getElem? (i := 51) rfl))) (by decide) (t := .int) (t' := (.object "java/util/Map")) (by decide) (by decide)))
  have F_persistent_a := F_persistent_a.other W12 (Or.inr (slot_ne (Or.inr (hw _ (List.mem_of_getElem? (i := 55) rfl))) (Or.inr (hw _ (List.mem_of_getElem? (i := 51) rfl))) (by decide) (t := .boolean) (t' := (.object "java/util/Map")) (by decide) (by decide)))
  have F_expectsContinue_a := F_expectsContinue_a.other W12 (Or.inr (slot_ne (Or.inr (hw _ (List.mem_of_getElem? (i := 57) rfl))) (Or.inr (hw _ (List.mem_of_getElem? (i := 51) rfl))) (by decide) (t := .boolean) (t' := (.object "java/util/Map")) (by decide) (by decide)))
  have F_takesChunked_a := F_takesChunked_a.other W12 (Or.inr (slot_ne (Or.inr (hw _ (List.mem_of_getElem? (i := 59) rfl))) (Or.inr (hw _ (List.mem_of_getElem? (i := 51) rfl))) (by decide) (t := .boolean) (t' := (.object "java/util/Map")) (by decide) (by decide)))
  have F_fields_a := F_fields_a.same W12
  have KP := KP.wr W12 (Or.inl (List.mem_of_getElem? (i := 0) rfl))
  have R13 : ∀ zt, Steps p.tables e below (T12.setTop (mkF m 34 #[.val (.ref a), .val (.ref s1), .val (.ref s2), .val (.ref s3), .val qv, .val .null, .val (.int i6), .val (.int i7), .val (.int i8), .val (.int i9)] [(.int i6), (.ref a)])) zt → Steps p.tables e below (s₁.setTop (entryFrame m #[(.ref a), (.ref s1), (.ref s2), (.ref s3), qv, .null, (.int i6), (.int i7), (.int i8), (.int i9)] 10)) zt := by
    intro zt zk
    refine R11 zt ?_
    show Steps p.tables e below (T10.setTop (mkF m 28 #[.val (.ref a), .val (.ref s1), .val (.ref s2), .val (.ref s3), .val qv, .val .null, .val (.int i6), .val (.int i7), .val (.int i8), .val (.int i9)] [.null, (.ref a)])) _
    refine st12 _ ?_
    show Steps p.tables e below (T12.setTop (mkF m 31 #[.val (.ref a), .val (.ref s1), .val (.ref s2), .val (.ref s3), .val qv, .val .null, .val (.int i6), .val (.int i7), .val (.int i8), .val (.int i9)] [])) _
    refine XS.aloadN X12.here hx rfl (hb hby d7_31) rfl rfl ?_
    show Steps p.tables e below (T12.setTop (mkF m 32 #[.val (.ref a), .val (.ref s1), .val (.ref s2), .val (.ref s3), .val qv, .val .null, .val (.int i6), .val (.int i7), .val (.int i8), .val (.int i9)] [(.ref a)])) _
    refine XS.iload X12.here hx rfl (hb hby d7_32) rfl ?_
    exact zk
  obtain ⟨T14, h14, X14, e14, W14, st14⟩ := putF X12 hx hZ hown (host := "") (Or.inl (hw _ (List.mem_of_getElem? (i := 52) rfl))) Via.refl e12 F_length_a E_a (Or.inr ⟨(hw _ (List.mem_of_getElem? (i := 53) rfl)), rfl, hnm⟩) (hw _ (List.mem_of_getElem? (i := 31) rfl)) (ty := .int) (by decide) rfl rfl (g := (mkF m 34 #[.val (.ref a), .val (.ref s1), .val (.ref s2), .val (.ref s3), .val qv, .val .null, .val (.int i6), .val (.int i7), .val (.int i8), .val (.int i9)] [(.int i6), (.ref a)])) rfl rfl (hb hby d7_34)
  have N14 := Fr.snoc X14 N12 ge_a
  have Sz14 := Nat.le_trans Sz12 (Keep.of_wr W14).1
  have E_a := E_a.wr W14
  have F_method_a := F_method_a.other W14 (Or.inr (slot_ne (Or.inr (hw _ (List.mem_of_getElem? (i := 43) rfl))) (Or.inr (hw _ (List.mem_of_getElem? (i := 53) rfl))) (by decide) (t := (.object "java/lang/String")) (t' := .int) (by decide) (by decide)))
  have F_target_a := F_target_a.other W14 (Or.inr (slot_ne (Or.inr (hw _ (List.mem_of_getElem? (i := 45) rfl))) (Or.inr (hw _ (List.mem_of_getElem? (i := 53) rfl))) (by decide) (t := (.object "java/lang/String")) (t' := .int) (by decide) (by decide)))
  have F_path_a := F_path_a.other W14 (Or.inr (slot_ne (Or.inr (hw _ (List.mem_of_getElem? (i := 47) rfl))) (Or.inr (hw _ (List.mem_of_getElem? (i := 53) rfl))) (by decide) (t := (.object "java/lang/String")) (t' := .int) (by decide) (by decide)))
  have F_query_a := F_query_a.other W14 (Or.inr (slot_ne (Or.inr (hw _ (List.mem_of_getElem? (i := 49) rfl))) (Or.inr (hw _ (List.mem_of_getElem? (i := 53) rfl))) (by decide) (t := (.object "java/lang/String")) (t' := .int) (by decide) (by decide)))
  have F_fields_a := F_fields_a.other W14 (Or.inr (slot_ne (Or.inr (hw _ (List.mem_of_getElem? (i := 51) rfl))) (Or.inr (hw _ (List.mem_of_getElem? (i := 53) rfl))) (by decide) (t := (.object "java/util/Map")) (t' := .int) (by decide) (by decide)))
  have F_persistent_a := F_persistent_a.other W14 (Or.inr (slot_ne (Or.inr (hw _ (List.mem_of_getElem? (i := 55) rfl))) (Or.inr (hw _ (List.mem_of_getElem? (i := 53) rfl))) (by decide) (t := .boolean) (t' := .int) (by decide) (by decide)))
  have F_expectsContinue_a := F_expectsContinue_a.other W14 (Or.inr (slot_ne (Or.inr (hw _ (List.mem_of_getElem? (i := 57) rfl))) (Or.inr (hw _ (List.mem_of_getElem? (i := 53) rfl))) (by decide) (t := .boolean) (t' := .int) (by decide) (by decide)))
  have F_takesChunked_a := F_takesChunked_a.other W14 (Or.inr (slot_ne (Or.inr (hw _ (List.mem_of_getElem? (i := 59) rfl))) (Or.inr (hw _ (List.mem_of_getElem? (i := 53) rfl))) (by decide) (t := .boolean) (t' := .int) (by decide) (by decide)))
  have F_length_a := F_length_a.same W14
  have KP := KP.wr W14 (Or.inl (List.mem_of_getElem? (i := 0) rfl))
  have R15 : ∀ zt, Steps p.tables e below (T14.setTop (mkF m 40 #[.val (.ref a), .val (.ref s1), .val (.ref s2), .val (.ref s3), .val qv, .val .null, .val (.int i6), .val (.int i7), .val (.int i8), .val (.int i9)] [(.int i7), (.ref a)])) zt → Steps p.tables e below (s₁.setTop (entryFrame m #[(.ref a), (.ref s1), (.ref s2), (.ref s3), qv, .null, (.int i6), (.int i7), (.int i8), (.int i9)] 10)) zt := by
    intro zt zk
    refine R13 zt ?_
    show Steps p.tables e below (T12.setTop (mkF m 34 #[.val (.ref a), .val (.ref s1), .val (.ref s2), .val (.ref s3), .val qv, .val .null, .val (.int i6), .val (.int i7), .val (.int i8), .val (.int i9)] [(.int i6), (.ref a)])) _
    refine st14 _ ?_
    show Steps p.tables e below (T14.setTop (mkF m 37 #[.val (.ref a), .val (.ref s1), .val (.ref s2), .val (.ref s3), .val qv, .val .null, .val (.int i6), .val (.int i7), .val (.int i8), .val (.int i9)] [])) _
    refine XS.aloadN X14.here hx rfl (hb hby d7_37) rfl rfl ?_
    show Steps p.tables e below (T14.setTop (mkF m 38 #[.val (.ref a), .val (.ref s1), .val (.ref s2), .val (.ref s3), .val qv, .val .null, .val (.int i6), .val (.int i7), .val (.int i8), .val (.int i9)] [(.ref a)])) _
    refine XS.iload X14.here hx rfl (hb hby d7_38) rfl ?_
    exact zk
  obtain ⟨T16, h16, X16, e16, W16, st16⟩ := putFN X14 hx hZ hown (hw _ (List.mem_of_getElem? (i := 54) rfl)) Via.refl e14 F_persistent_a E_a (Or.inr ⟨(hw _ (List.mem_of_getElem? (i := 55) rfl)), rfl, hnm⟩) (hw _ (List.mem_of_getElem? (i := 31) rfl)) (ty := .boolean) (v' := (.int (nar .boolean i7))) (by decide) rfl (fits_nar_bool _) (g := (mkF m 40 #[.val (.ref a), .val (.ref s1), .val (.ref s2), .val (.ref s3), .val qv, .val .null, .val (.int i6), .val (.int i7), .val (.int i8), .val (.int i9)] [(.int i7), (.ref a)])) rfl rfl (hb hby d7_40)
  have N16 := Fr.snoc X16 N14 ge_a
  have Sz16 := Nat.le_trans Sz14 (Keep.of_wr W16).1
  have E_a := E_a.wr W16
  have F_method_a := F_method_a.other W16 (Or.inr (slot_ne (Or.inr (hw _ (List.mem_of_getElem? (i := 43) rfl))) (Or.inr (hw _ (List.mem_of_getElem? (i := 55) rfl))) (by decide) (t := (.object "java/lang/String")) (t' := .boolean) (by decide) (by decide)))
  have F_target_a := F_target_a.other W16 (Or.inr (slot_ne (Or.inr (hw _ (List.mem_of_getElem? (i := 45) rfl))) (Or.inr (hw _ (List.mem_of_getElem? (i := 55) rfl))) (by decide) (t := (.object "java/lang/String")) (t' := .boolean) (by decide) (by decide)))
  have F_path_a := F_path_a.other W16 (Or.inr (slot_ne (Or.inr (hw _ (List.mem_of_getElem? (i := 47) rfl))) (Or.inr (hw _ (List.mem_of_getElem? (i := 55) rfl))) (by decide) (t := (.object "java/lang/String")) (t' := .boolean) (by decide) (by decide)))
  have F_query_a := F_query_a.other W16 (Or.inr (slot_ne (Or.inr (hw _ (List.mem_of_getElem? (i := 49) rfl))) (Or.inr (hw _ (List.mem_of_getElem? (i := 55) rfl))) (by decide) (t := (.object "java/lang/String")) (t' := .boolean) (by decide) (by decide)))
  have F_fields_a := F_fields_a.other W16 (Or.inr (slot_ne (Or.inr (hw _ (List.mem_of_getElem? (i := 51) rfl))) (Or.inr (hw _ (List.mem_of_getElem? (i := 55) rfl))) (by decide) (t := (.object "java/util/Map")) (t' := .boolean) (by decide) (by decide)))
  have F_expectsContinue_a := F_expectsContinue_a.other W16 (Or.inr (slot_ne (Or.inr (hw _ (List.mem_of_getElem? (i := 57) rfl))) (Or.inr (hw _ (List.mem_of_getElem? (i := 55) rfl))) (by decide) (t := .boolean) (t' := .boolean) (by decide) (by decide)))
  have F_takesChunked_a := F_takesChunked_a.other W16 (Or.inr (slot_ne (Or.inr (hw _ (List.mem_of_getElem? (i := 59) rfl))) (Or.inr (hw _ (List.mem_of_getElem? (i := 55) rfl))) (by decide) (t := .boolean) (t' := .boolean) (by decide) (by decide)))
  have F_persistent_a := F_persistent_a.same W16
  have KP := KP.wr W16 (Or.inl (List.mem_of_getElem? (i := 0) rfl))
  have R17 : ∀ zt, Steps p.tables e below (T16.setTop (mkF m 46 #[.val (.ref a), .val (.ref s1), .val (.ref s2), .val (.ref s3), .val qv, .val .null, .val (.int i6), .val (.int i7), .val (.int i8), .val (.int i9)] [(.int i8), (.ref a)])) zt → Steps p.tables e below (s₁.setTop (entryFrame m #[(.ref a), (.ref s1), (.ref s2), (.ref s3), qv, .null, (.int i6), (.int i7), (.int i8), (.int i9)] 10)) zt := by
    intro zt zk
    refine R15 zt ?_
    show Steps p.tables e below (T14.setTop (mkF m 40 #[.val (.ref a), .val (.ref s1), .val (.ref s2), .val (.ref s3), .val qv, .val .null, .val (.int i6), .val (.int i7), .val (.int i8), .val (.int i9)] [(.int i7), (.ref a)])) _
    refine st16 _ ?_
    show Steps p.tables e below (T16.setTop (mkF m 43 #[.val (.ref a), .val (.ref s1), .val (.ref s2), .val (.ref s3), .val qv, .val .null, .val (.int i6), .val (.int i7), .val (.int i8), .val (.int i9)] [])) _
    refine XS.aloadN X16.here hx rfl (hb hby d7_43) rfl rfl ?_
    show Steps p.tables e below (T16.setTop (mkF m 44 #[.val (.ref a), .val (.ref s1), .val (.ref s2), .val (.ref s3), .val qv, .val .null, .val (.int i6), .val (.int i7), .val (.int i8), .val (.int i9)] [(.ref a)])) _
    refine XS.iload X16.here hx rfl (hb hby d7_44) rfl ?_
    exact zk
  obtain ⟨T18, h18, X18, e18, W18, st18⟩ := putFN X16 hx hZ hown (hw _ (List.mem_of_getElem? (i := 56) rfl)) Via.refl e16 F_expectsContinue_a E_a (Or.inr ⟨(hw _ (List.mem_of_getElem? (i := 57) rfl)), rfl, hnm⟩) (hw _ (List.mem_of_getElem? (i := 31) rfl)) (ty := .boolean) (v' := (.int (nar .boolean i8))) (by decide) rfl (fits_nar_bool _) (g := (mkF m 46 #[.val (.ref a), .val (.ref s1), .val (.ref s2), .val (.ref s3), .val qv, .val .null, .val (.int i6), .val (.int i7), .val (.int i8), .val (.int i9)] [(.int i8), (.ref a)])) rfl rfl (hb hby d7_46)
  have N18 := Fr.snoc X18 N16 ge_a
  have Sz18 := Nat.le_trans Sz16 (Keep.of_wr W18).1
  have E_a := E_a.wr W18
  have F_method_a := F_method_a.other W18 (Or.inr (slot_ne (Or.inr (hw _ (List.mem_of_getElem? (i := 43) rfl))) (Or.inr (hw _ (List.mem_of_getElem? (i := 57) rfl))) (by decide) (t := (.object "java/lang/String")) (t' := .boolean) (by decide) (by decide)))
  have F_target_a := F_target_a.other W18 (Or.inr (slot_ne (Or.inr (hw _ (List.mem_of_getElem? (i := 45) rfl))) (Or.inr (hw _ (List.mem_of_getElem? (i := 57) rfl))) (by decide) (t := (.object "java/lang/String")) (t' := .boolean) (by decide) (by decide)))
  have F_path_a := F_path_a.other W18 (Or.inr (slot_ne (Or.inr (hw _ (List.mem_of_getElem? (i := 47) rfl))) (Or.inr (hw _ (List.mem_of_getElem? (i := 57) rfl))) (by decide) (t := (.object "java/lang/String")) (t' := .boolean) (by decide) (by decide)))
  have F_query_a := F_query_a.other W18 (Or.inr (slot_ne (Or.inr (hw _ (List.mem_of_getElem? (i := 49) rfl))) (Or.inr (hw _ (List.mem_of_getElem? (i := 57) rfl))) (by decide) (t := (.object "java/lang/String")) (t' := .boolean) (by decide) (by decide)))
  have F_fields_a := F_fields_a.other W18 (Or.inr (slot_ne (Or.inr (hw _ (List.mem_of_getElem? (i := 51) rfl))) (Or.inr (hw _ (List.mem_of_getElem? (i := 57) rfl))) (by decide) (t := (.object "java/util/Map")) (t' := .boolean) (by decide) (by decide)))
  have F_takesChunked_a := F_takesChunked_a.other W18 (Or.inr (slot_ne (Or.inr (hw _ (List.mem_of_getElem? (i := 59) rfl))) (Or.inr (hw _ (List.mem_of_getElem? (i := 57) rfl))) (by decide) (t := .boolean) (t' := .boolean) (by decide) (by decide)))
  have F_expectsContinue_a := F_expectsContinue_a.same W18
  have KP := KP.wr W18 (Or.inl (List.mem_of_getElem? (i := 0) rfl))
  have R19 : ∀ zt, Steps p.tables e below (T18.setTop (mkF m 52 #[.val (.ref a), .val (.ref s1), .val (.ref s2), .val (.ref s3), .val qv, .val .null, .val (.int i6), .val (.int i7), .val (.int i8), .val (.int i9)] [(.int i9), (.ref a)])) zt → Steps p.tables e below (s₁.setTop (entryFrame m #[(.ref a), (.ref s1), (.ref s2), (.ref s3), qv, .null, (.int i6), (.int i7), (.int i8), (.int i9)] 10)) zt := by
    intro zt zk
    refine R17 zt ?_
    show Steps p.tables e below (T16.setTop (mkF m 46 #[.val (.ref a), .val (.ref s1), .val (.ref s2), .val (.ref s3), .val qv, .val .null, .val (.int i6), .val (.int i7), .val (.int i8), .val (.int i9)] [(.int i8), (.ref a)])) _
    refine st18 _ ?_
    show Steps p.tables e below (T18.setTop (mkF m 49 #[.val (.ref a), .val (.ref s1), .val (.ref s2), .val (.ref s3), .val qv, .val .null, .val (.int i6), .val (.int i7), .val (.int i8), .val (.int i9)] [])) _
    refine XS.aloadN X18.here hx rfl (hb hby d7_49) rfl rfl ?_
    show Steps p.tables e below (T18.setTop (mkF m 50 #[.val (.ref a), .val (.ref s1), .val (.ref s2), .val (.ref s3), .val qv, .val .null, .val (.int i6), .val (.int i7), .val (.int i8), .val (.int i9)] [(.ref a)])) _
    refine XS.iload X18.here hx rfl (hb hby d7_50) rfl ?_
    exact zk
  obtain ⟨T20, h20, X20, e20, W20, st20⟩ := putFN X18 hx hZ hown (hw _ (List.mem_of_getElem? (i := 58) rfl)) Via.refl e18 F_takesChunked_a E_a (Or.inr ⟨(hw _ (List.mem_of_getElem? (i := 59) rfl)), rfl, hnm⟩) (hw _ (List.mem_of_getElem? (i := 31) rfl)) (ty := .boolean) (v' := (.int (nar .boolean i9))) (by decide) rfl (fits_nar_bool _) (g := (mkF m 52 #[.val (.ref a), .val (.ref s1), .val (.ref s2), .val (.ref s3), .val qv, .val .null, .val (.int i6), .val (.int i7), .val (.int i8), .val (.int i9)] [(.int i9), (.ref a)])) rfl rfl (hb hby d7_52)
  have N20 := Fr.snoc X20 N18 ge_a
  have Sz20 := Nat.le_trans Sz18 (Keep.of_wr W20).1
  have E_a := E_a.wr W20
  have F_method_a := F_method_a.other W20 (Or.inr (slot_ne (Or.inr (hw _ (List.mem_of_getElem? (i := 43) rfl))) (Or.inr (hw _ (List.mem_of_getElem? (i := 59) rfl))) (by decide) (t := (.object "java/lang/String")) (t' := .boolean) (by decide) (by decide)))
  have F_target_a := F_target_a.other W20 (Or.inr (slot_ne (Or.inr (hw _ (List.mem_of_getElem? (i := 45) rfl))) (Or.inr (hw _ (List.mem_of_getElem? (i := 59) rfl))) (by decide) (t := (.object "java/lang/String")) (t' := .boolean) (by decide) (by decide)))
  have F_path_a := F_path_a.other W20 (Or.inr (slot_ne (Or.inr (hw _ (List.mem_of_getElem? (i := 47) rfl))) (Or.inr (hw _ (List.mem_of_getElem? (i := 59) rfl))) (by decide) (t := (.object "java/lang/String")) (t' := .boolean) (by decide) (by decide)))
  have F_query_a := F_query_a.other W20 (Or.inr (slot_ne (Or.inr (hw _ (List.mem_of_getElem? (i := 49) rfl))) (Or.inr (hw _ (List.mem_of_getElem? (i := 59) rfl))) (by decide) (t := (.object "java/lang/String")) (t' := .boolean) (by decide) (by decide)))
  have F_fields_a := F_fields_a.other W20 (Or.inr (slot_ne (Or.inr (hw _ (List.mem_of_getElem? (i := 51) rfl))) (Or.inr (hw _ (List.mem_of_getElem? (i := 59) rfl))) (by decide) (t := (.object "java/util/Map")) (t' := .boolean) (by decide) (by decide)))
  have F_takesChunked_a := F_takesChunked_a.same W20
  have KP := KP.wr W20 (Or.inl (List.mem_of_getElem? (i := 0) rfl))
  have R21 : ∀ zt, Steps p.tables e below (T20.setTop (mkF m 55 #[.val (.ref a), .val (.ref s1), .val (.ref s2), .val (.ref s3), .val qv, .val .null, .val (.int i6), .val (.int i7), .val (.int i8), .val (.int i9)] [])) zt → Steps p.tables e below (s₁.setTop (entryFrame m #[(.ref a), (.ref s1), (.ref s2), (.ref s3), qv, .null, (.int i6), (.int i7), (.int i8), (.int i9)] 10)) zt := by
    intro zt zk
    refine R19 zt ?_
    show Steps p.tables e below (T18.setTop (mkF m 52 #[.val (.ref a), .val (.ref s1), .val (.ref s2), .val (.ref s3), .val qv, .val .null, .val (.int i6), .val (.int i7), .val (.int i8), .val (.int i9)] [(.int i9), (.ref a)])) _
    refine st20 _ ?_
    exact zk
  obtain ⟨fs, hr, hrun, hended, hW, hsame⟩ := X20.leave (v := none) (fun _ => rfl)
  refine ⟨_, _, R21 _ ?_, hrun, hended, _, _, rfl, ?_, ⟨_, rfl⟩, hW, hsame.mono (by decide) (by decide)⟩
  · exact X20.returnOut hx Bd.returns (hb hby d7_55) hr
  · show Q7 Z a s1 s2 s3 qv i6 i7 i8 i9 h0 n0 _ T20.heap _
    rw [e20]
    exact ⟨rfl, N20, KP, F_method_a, F_target_a, F_path_a, F_query_a, F_fields_a⟩
theorem ef10 (m : MethodId) (x0 : Addr) (x1 : Addr) (x2 : Addr) (x3 : Addr) (x4 : Value) (hx4 : x4.category = 1) (x6 : Value) (hx6 : x6.category = 1) : entryFrame m #[(.ref x0), (.ref x1), (.ref x2), (.ref x3), x4, .null, x6] 7 = mkF m 0 #[.val (.ref x0), .val (.ref x1), .val (.ref x2), .val (.ref x3), .val x4, .val .null, .val x6] [] := by first | (simp [entryFrame, mkF, argsToLocals, own_cR, own_cI, own_cN, hx4, hx6]; done) | skip
theorem pn_2 : plainName "com/example/accesstrail/accesstrail/server/Request" = true := by first | (simp [plainName, overriddenIn]; done) | decide +kernel
theorem d10_0 : decode prog_25_method_1_code 0 = .ok (.aload_n 0, 1) := by decide +kernel
theorem d10_1 : decode prog_25_method_1_code 1 = .ok (.invokespecial 1, 3) := by decide +kernel
theorem d10_4 : decode prog_25_method_1_code 4 = .ok (.aload_n 0, 1) := by decide +kernel
theorem d10_5 : decode prog_25_method_1_code 5 = .ok (.aload_n 1, 1) := by decide +kernel
theorem d10_6 : decode prog_25_method_1_code 6 = .ok (.putfield 7, 3) := by decide +kernel
theorem d10_9 : decode prog_25_method_1_code 9 = .ok (.aload_n 0, 1) := by decide +kernel
theorem d10_10 : decode prog_25_method_1_code 10 = .ok (.aload_n 2, 1) := by decide +kernel
theorem d10_11 : decode prog_25_method_1_code 11 = .ok (.putfield 13, 3) := by decide +kernel
theorem d10_14 : decode prog_25_method_1_code 14 = .ok (.aload_n 0, 1) := by decide +kernel
theorem d10_15 : decode prog_25_method_1_code 15 = .ok (.aload_n 3, 1) := by decide +kernel
theorem d10_16 : decode prog_25_method_1_code 16 = .ok (.putfield 16, 3) := by decide +kernel
theorem d10_19 : decode prog_25_method_1_code 19 = .ok (.aload_n 0, 1) := by decide +kernel
theorem d10_20 : decode prog_25_method_1_code 20 = .ok (.aload 4, 2) := by decide +kernel
theorem d10_22 : decode prog_25_method_1_code 22 = .ok (.putfield 19, 3) := by decide +kernel
theorem d10_25 : decode prog_25_method_1_code 25 = .ok (.aload_n 0, 1) := by decide +kernel
theorem d10_26 : decode prog_25_method_1_code 26 = .ok (.aload 5, 2) := by decide +kernel
theorem d10_28 : decode prog_25_method_1_code 28 = .ok (.putfield 22, 3) := by decide +kernel
theorem d10_31 : decode prog_25_method_1_code 31 = .ok (.aload_n 0, 1) := by decide +kernel
theorem d10_32 : decode prog_25_method_1_code 32 = .ok (.aload 6, 2) := by decide +kernel
theorem d10_34 : decode prog_25_method_1_code 34 = .ok (.putfield 26, 3) := by decide +kernel
theorem d10_37 : decode prog_25_method_1_code 37 = .ok (.return_, 1) := by decide +kernel
def Q10 (Z : State) (a : Addr) (s1 : Addr) (s2 : Addr) (s3 : Addr) (qv : Value) (bv : Value) (h0 : Heap) (n0 : Nat) (v : Option Value) (h : Heap) (L : List Loc) : Prop := v = none ∧ Fr n0 L ∧ Keep h0 h [a] ∧ Fld Z h a "com/example/accesstrail/accesstrail/server/Request" "method" "Ljava/lang/String;" (.ref s1) ∧ Fld Z h a "com/example/accesstrail/accesstrail/server/Request" "target" "Ljava/lang/String;" (.ref s2) ∧ Fld Z h a "com/example/accesstrail/accesstrail/server/Request" "path" "Ljava/lang/String;" (.ref s3) ∧ Fld Z h a "com/example/accesstrail/accesstrail/server/Request" "query" "Ljava/lang/String;" qv ∧ Fld Z h a "com/example/accesstrail/accesstrail/server/Request" "fields" "Ljava/util/Map;" .null ∧ Fld Z h a "com/example/accesstrail/accesstrail/server/Request" "body" "[B" bv
set_option maxRecDepth 65536 in
set_option maxHeartbeats 40000000 in
theorem rm10 (l : Launch) (Z : State) (a0 : Array Value) (hw : ∀ d ∈ tables_1, d.before a0 Z = true) (ws : List Jvm.Cond) (a : Addr) (s1 : Addr) (s2 : Addr) (s3 : Addr) (qv : Value) (bv : Value) (h0 : Heap) (n0 : Nat) (Z0 : n0 ≤ h0.size) (E_a : Exa Z h0 a "com/example/accesstrail/accesstrail/server/Request") (F_method_a : Fld Z h0 a "com/example/accesstrail/accesstrail/server/Request" "method" "Ljava/lang/String;" .null) (F_target_a : Fld Z h0 a "com/example/accesstrail/accesstrail/server/Request" "target" "Ljava/lang/String;" .null) (F_path_a : Fld Z h0 a "com/example/accesstrail/accesstrail/server/Request" "path" "Ljava/lang/String;" .null) (F_query_a : Fld Z h0 a "com/example/accesstrail/accesstrail/server/Request" "query" "Ljava/lang/String;" .null) (F_fields_a : Fld Z h0 a "com/example/accesstrail/accesstrail/server/Request" "fields" "Ljava/util/Map;" .null) (F_body_a : Fld Z h0 a "com/example/accesstrail/accesstrail/server/Request" "body" "[B" .null) (ge_a : n0 ≤ a) (hr_qv : qv.isRef = true) (hr_bv : bv.isRef = true) :
    MetFree l (⟨"com/example/accesstrail/accesstrail/server/Request", "<init>", "(Ljava/lang/String;Ljava/lang/String;Ljava/lang/String;Ljava/lang/String;Ljava/util/Map;[B)V"⟩ : MethodName) (head1 (Jvm.Cond.code (⟨"com/example/accesstrail/accesstrail/server/Request", "<init>", "(Ljava/lang/String;Ljava/lang/String;Ljava/lang/String;Ljava/lang/String;Ljava/util/Map;[B)V"⟩ : MethodName) prog_25_method_1_code 7 none :: ws) ({ frames := 2, cells := 0, slots := 0, locals := 24 } : Room)) (fun zza zzU => zza = #[(.ref a), (.ref s1), (.ref s2), (.ref s3), qv, .null, bv] ∧ Z.Warmed39 zzU.vm ∧ zzU.heap = h0) (fun _ _ _ _ _ => True) (fun _ zzU zzo zzV => ∃ zzv zzL, zzo = .returned zzv ∧ Q10 Z a s1 s2 s3 qv bv h0 n0 zzv zzV.heap zzL ∧ FrameEnd zzU zzo zzV zzL ({ frames := 2, cells := 0, slots := 0, locals := 24 } : Room).cells ({ frames := 2, cells := 0, slots := 0, locals := 24 } : Room).slots) := by
  refine MetFree.of_bodySF (plainFor_of_name pn_2) hisR ?_
  intro p e s m args below meth c s₁ Bd hml0 hP hK
  obtain ⟨rfl, hZ, hh⟩ := hP
  have hx := Bd.exec
  have hby := Bd.bytes
  have hml : c.maxLocals = 7 := hml0
  have hown : s.vm.findClass "com/example/accesstrail/accesstrail/server/Request" = some m.cls := findClass_of_methodNamed Bd.named
  have hnm := (name_of_methodNamed Bd.named Bd.method).1
  have X0 : Stand p l e ({ frames := 2, cells := 0, slots := 0, locals := 24 } : Room) s m #[(.ref a), (.ref s1), (.ref s2), (.ref s3), qv, .null, bv] below meth c s₁ [] 0 0 := Stand.of_body Bd
  have e0 : s₁.heap = h0 := by rw [← hh, Bd.state]; rfl
  have N0 := Fr.nil n0
  have R0 : ∀ zt, Steps p.tables e below (s₁.setTop (mkF m 0 #[.val (.ref a), .val (.ref s1), .val (.ref s2), .val (.ref s3), .val qv, .val .null, .val bv] [])) zt → Steps p.tables e below (s₁.setTop (entryFrame m #[(.ref a), (.ref s1), (.ref s2), (.ref s3), qv, .null, bv] 7)) zt := fun zt zk => castTop (ef10 m a s1 s2 s3 qv (own_cat hr_qv) bv (own_cat hr_bv)) zk
  have KP := Keep.refl h0 [a]
  have R1 : ∀ zt, Steps p.tables e below (s₁.setTop (mkF m 1 #[.val (.ref a), .val (.ref s1), .val (.ref s2), .val (.ref s3), .val qv, .val .null, .val bv] [(.ref a)])) zt → Steps p.tables e below (s₁.setTop (entryFrame m #[(.ref a), (.ref s1), (.ref s2), (.ref s3), qv, .null, bv] 7)) zt := by
    intro zt zk
    refine R0 zt ?_
    show Steps p.tables e below (s₁.setTop (mkF m 0 #[.val (.ref a), .val (.ref s1), .val (.ref s2), .val (.ref s3), .val qv, .val .null, .val bv] [])) _
    refine XS.aloadN X0.here hx rfl (hb hby d10_0) rfl rfl ?_
    exact zk
  obtain ⟨_, _, ⟨T2, L2, k2, n2⟩, -, X2, ⟨Lc2, hQ2, l2, y2, z2⟩, st2⟩ := X0.specialBack hx (y := (⟨"java/lang/Record", "<init>", "()V"⟩ : MethodName)) rfl hown (mvT hZ (hw _ (List.mem_of_getElem? (i := 71) rfl))) (mvT hZ (hw _ (List.mem_of_getElem? (i := 37) rfl))) (mvT hZ (hw _ (List.mem_of_getElem? (i := 40) rfl))) (by decide) (backOf (W := 0) (rm8 l Z a0 hw [] a h0 n0 Z0) hZ (hw _ (List.mem_of_getElem? (i := 40) rfl)) (hw _ (List.mem_of_getElem? (i := 39) rfl)) (by decide) (by decide)) (g := (mkF m 1 #[.val (.ref a), .val (.ref s1), .val (.ref s2), .val (.ref s3), .val qv, .val .null, .val bv] [(.ref a)])) rfl (by rw [hml]; rfl) (Steps.refl _) (a := a) (argsL := []) (rest := []) (lenOf pd_0 rfl) rfl (by show 2 * 0 + _ ≤ _; exact Nat.le_of_eq rfl) (hb hby d10_1) (fun _ _ => ⟨rfl, e0, (by decide : 0 + 0 ≤ _), (by decide : 0 + 0 ≤ _)⟩)
  dsimp only [Pt.U, Pt.locs, Pt.cells, Pt.slots] at X2 l2 y2 z2 st2 hQ2
  rw [y2, z2] at X2
  have X2 : Stand p l e ({ frames := 2, cells := 0, slots := 0, locals := 24 } : Room) s m #[(.ref a), (.ref s1), (.ref s2), (.ref s3), qv, .null, bv] below meth c T2 L2 0 0 := X2
  obtain ⟨rfl, Nq2, eq2⟩ := hQ2
  have N2 : Fr n0 L2 := by rw [l2]; exact Fr.app N0 Nq2
  clear l2 y2 z2
  have e2 : T2.heap = h0 := eq2
  have R3 : ∀ zt, Steps p.tables e below (T2.setTop (mkF m 6 #[.val (.ref a), .val (.ref s1), .val (.ref s2), .val (.ref s3), .val qv, .val .null, .val bv] [(.ref s1), (.ref a)])) zt → Steps p.tables e below (s₁.setTop (entryFrame m #[(.ref a), (.ref s1), (.ref s2), (.ref s3), qv, .null, bv] 7)) zt := by
    intro zt zk
    refine R1 zt ?_
    show Steps p.tables e below (s₁.setTop (mkF m 1 #[.val (.ref a), .val (.ref s1), .val (.ref s2), .val (.ref s3), .val qv, .val .null, .val bv] [(.ref a)])) _
    refine st2.trans ?_
    show Steps p.tables e below (T2.setTop (mkF m 4 #[.val (.ref a), .val (.ref s1), .val (.ref s2), .val (.ref s3), .val qv, .val .null, .val bv] [])) _
    refine XS.aloadN X2.here hx rfl (hb hby d10_4) rfl rfl ?_
    show Steps p.tables e below (T2.setTop (mkF m 5 #[.val (.ref a), .val (.ref s1), .val (.ref s2), .val (.ref s3), .val qv, .val .null, .val bv] [(.ref a)])) _
    refine XS.aloadN X2.here hx rfl (hb hby d10_5) rfl rfl ?_
    exact zk
  obtain ⟨T4, h4, X4, e4, W4, st4⟩ := putF X2 hx hZ hown (host := "") (Or.inl (hw _ (List.mem_of_getElem? (i := 72) rfl))) Via.refl e2 F_method_a E_a (Or.inr ⟨(hw _ (List.mem_of_getElem? (i := 73) rfl)), rfl, hnm⟩) (hw _ (List.mem_of_getElem? (i := 66) rfl)) (ty := (.object "java/lang/String")) (by decide) rfl rfl (g := (mkF m 6 #[.val (.ref a), .val (.ref s1), .val (.ref s2), .val (.ref s3), .val qv, .val .null, .val bv] [(.ref s1), (.ref a)])) rfl rfl (hb hby d10_6)
  have N4 := Fr.snoc X4 N2 ge_a
  have Sz4 := Nat.le_trans Z0 (Keep.of_wr W4).1
  have E_a := E_a.wr W4
  have F_target_a := F_target_a.other W4 (Or.inr (slot_ne (Or.inr (hw _ (List.mem_of_getElem? (i := 75) rfl))) (Or.inr (hw _ (List.mem_of_getElem? (i := 73) rfl))) (by decide) (t := (.object "java/lang/String")) (t' := (.object "java/lang/String")) (by decide) (by decide)))
  have F_path_a := F_path_a.other W4 (Or.inr (slot_ne (Or.inr (hw _ (List.mem_of_getElem? (i := 77) rfl))) (Or.inr (hw _ (List.mem_of_getElem? (i := 73) rfl))) (by decide) (t := (.object "java/lang/String")) (t' := (.object "java/lang/String")) (by decide) (by decide)))
  have F_query_a := F_query_a.other W4 (Or.inr (slot_ne (Or.inr (hw _ (List.mem_of_getElem? (i := 79) rfl))) (Or.inr (hw _ (List.mem_of_getElem? (i := 73) rfl))) (by decide) (t := (.object "java/lang/String")) (t' := (.object "java/lang/String")) (by decide) (by decide)))
  have F_fields_a := F_fields_a.other W4 (Or.inr (slot_ne (Or.inr (hw _ (List.mem_of_getElem? (i := 81) rfl))) (Or.inr (hw _ (List.mem_of_getElem? (i := 73) rfl))) (by decide) (t := (.object "java/util/Map")) (t' := (.object "java/lang/String")) (by decide) (by decide)))
  have F_body_a := F_body_a.other W4 (Or.inr (slot_ne (Or.inr (hw _ (List.mem_of_getElem? (i := 83) rfl))) (Or.inr (hw _ (List.mem_of_getElem? (i := 73) rfl))) (by decide) (t := (.array .byte)) (t' := (.object "java/lang/String")) (by decide) (by decide)))
  have F_method_a := F_method_a.same W4
  have KP := KP.wr W4 (Or.inl (List.mem_of_getElem? (i := 0) rfl))
  have R5 : ∀ zt, Steps p.tables e below (T4.setTop (mkF m 11 #[.val (.ref a), .val (.ref s1), .val (.ref s2), .val (.ref s3), .val qv, .val .null, .val bv] [(.ref s2), (.ref a)])) zt → Steps p.tables e below (s₁.setTop (entryFrame m #[(.ref a), (.ref s1), (.ref s2), (.ref s3), qv, .null, bv] 7)) zt := by
    intro zt zk
    refine R3 zt ?_
    show Steps p.tables e below (T2.setTop (mkF m 6 #[.val (.ref a), .val (.ref s1), .val (.ref s2), .val (.ref s3), .val qv, .val .null, .val bv] [(.ref s1), (.ref a)])) _
    refine st4 _ ?_
    show Steps p.tables e below (T4.setTop (mkF m 9 #[.val (.ref a), .val (.ref s1), .val (.ref s2), .val (.ref s3), .val qv, .val .null, .val bv] [])) _
    refine XS.aloadN X4.here hx rfl (hb hby d10_9) rfl rfl ?_
    show Steps p.tables e below (T4.setTop (mkF m 10 #[.val (.ref a), .val (.ref s1), .val (.ref s2), .val (.ref s3), .val qv, .val .null, .val bv] [(.ref a)])) _
    refine XS.aloadN X4.here hx rfl (hb hby d10_10) rfl rfl ?_
    exact zk
  obtain ⟨T6, h6, X6, e6, W6, st6⟩ := putF X4 hx hZ hown (host := "") (Or.inl (hw _ (List.mem_of_getElem? (i := 74) rfl))) Via.refl e4 F_target_a E_a (Or.inr ⟨(hw _ (List.mem_of_getElem? (i := 75) rfl)), rfl, hnm⟩) (hw _ (List.mem_of_getElem? (i := 66) rfl)) (ty := (.object "java/lang/String")) (by decide) rfl rfl (g := (mkF m 11 #[.val (.ref a), .val (.ref s1), .val (.ref s2), .val (.ref s3), .val qv, .val .null, .val bv] [(.ref s2), (.ref a)])) rfl rfl (hb hby d10_11)
  have N6 := Fr.snoc X6 N4 ge_a
  have Sz6 := Nat.le_trans Sz4 (Keep.of_wr W6).1
  have E_a := E_a.wr W6
  have F_method_a := F_method_a.other W6 (Or.inr (slot_ne (Or.inr (hw _ (List.mem_of_getElem? (i := 73) rfl))) (Or.inr (hw _ (List.mem_of_getElem? (i := 75) rfl))) (by decide) (t := (.object "java/lang/String")) (t' := (.object "java/lang/String")) (by decide) (by decide)))
  have F_path_a := F_path_a.other W6 (Or.inr (slot_ne (Or.inr (hw _ (List.mem_of_getElem? (i := 77) rfl))) (Or.inr (hw _ (List.mem_of_getElem? (i := 75) rfl))) (by decide) (t := (.object "java/lang/String")) (t' := (.object "java/lang/String")) (by decide) (by decide)))
  have F_query_a := F_query_a.other W6 (Or.inr (slot_ne (Or.inr (hw _ (List.mem_of_getElem? (i := 79) rfl))) (Or.inr (hw _ (List.mem_of_getElem? (i := 75) rfl))) (by decide) (t := (.object "java/lang/String")) (t' := (.object "java/lang/String")) (by decide) (by decide)))
  have F_fields_a := F_fields_a.other W6 (Or.inr (slot_ne (Or.inr (hw _ (List.mem_of_getElem? (i := 81) rfl))) (Or.inr (hw _ (List.mem_of_getElem? (i := 75) rfl))) (by decide) (t := (.object "java/util/Map")) (t' := (.object "java/lang/String")) (by decide) (by decide)))
  have F_body_a := F_body_a.other W6 (Or.inr (slot_ne (Or.inr (hw _ (List.mem_of_getElem? (i := 83) rfl))) (Or.inr (hw _ (List.mem_of_getElem? (i := 75) rfl))) (by decide) (t := (.array .byte)) (t' := (.object "java/lang/String")) (by decide) (by decide)))
  have F_target_a := F_target_a.same W6
  have KP := KP.wr W6 (Or.inl (List.mem_of_getElem? (i := 0) rfl))
  have R7 : ∀ zt, Steps p.tables e below (T6.setTop (mkF m 16 #[.val (.ref a), .val (.ref s1), .val (.ref s2), .val (.ref s3), .val qv, .val .null, .val bv] [(.ref s3), (.ref a)])) zt → Steps p.tables e below (s₁.setTop (entryFrame m #[(.ref a), (.ref s1), (.ref s2), (.ref s3), qv, .null, bv] 7)) zt := by
    intro zt zk
    refine R5 zt ?_
    show Steps p.tables e below (T4.setTop (mkF m 11 #[.val (.ref a), .val (.ref s1), .val (.ref s2), .val (.ref s3), .val qv, .val .null, .val bv] [(.ref s2), (.ref a)])) _
    refine st6 _ ?_
    show Steps p.tables e below (T6.setTop (mkF m 14 #[.val (.ref a), .val (.ref s1), .val (.ref s2), .val (.ref s3), .val qv, .val .null, .val bv] [])) _
    refine XS.aloadN X6.here hx rfl (hb hby d10_14) rfl rfl ?_
    show Steps p.tables e below (T6.setTop (mkF m 15 #[.val (.ref a), .val (.ref s1), .val (.ref s2), .val (.ref s3), .val qv, .val .null, .val bv] [(.ref a)])) _
    refine XS.aloadN X6.here hx rfl (hb hby d10_15) rfl rfl ?_
    exact zk
  obtain ⟨T8, h8, X8, e8, W8, st8⟩ := putF X6 hx hZ hown (host := "") (Or.inl (hw _ (List.mem_of_getElem? (i := 76) rfl))) Via.refl e6 F_path_a E_a (Or.inr ⟨(hw _ (List.mem_of_getElem? (i := 77) rfl)), rfl, hnm⟩) (hw _ (List.mem_of_getElem? (i := 66) rfl)) (ty := (.object "java/lang/String")) (by decide) rfl rfl (g := (mkF m 16 #[.val (.ref a), .val (.ref s1), .val (.ref s2), .val (.ref s3), .val qv, .val .null, .val bv] [(.ref s3), (.ref a)])) rfl rfl (hb hby d10_16)
  have N8 := Fr.snoc X8 N6 ge_a
  have Sz8 := Nat.le_trans Sz6 (Keep.of_wr W8).1
  have E_a := E_a.wr W8
  have F_method_a := F_method_a.other W8 (Or.inr (slot_ne (Or.inr (hw _ (List.mem_of_getElem? (i := 73) rfl))) (Or.inr (hw _ (List.mem_of_getElem? (i := 77) rfl))) (by decide) (t := (.object "java/lang/String")) (t' := (.object "java/lang/String")) (by decide) (by decide)))
  have F_target_a := F_target_a.other W8 (Or.inr (slot_ne (Or.inr (hw _ (List.mem_of_getElem? (i := 75) rfl))) (Or.inr (hw _ (List.mem_of_getElem? (i := 77) rfl))) (by decide) (t := (.object "java/lang/String")) (t' := (.object "java/lang/String")) (by decide) (by decide)))
  have F_query_a := F_query_a.other W8 (Or.inr (slot_ne (Or.inr (hw _ (List.mem_of_getElem? (i := 79) rfl))) (Or.inr (hw _ (List.mem_of_getElem? (i := 77) rfl))) (by decide) (t := (.object "java/lang/String")) (t' := (.object "java/lang/String")) (by decide) (by decide)))
  have F_fields_a := F_fields_a.other W8 (Or.inr (slot_ne (Or.inr (hw _ (List.mem_of_getElem? (i := 81) rfl))) (Or.inr (hw _ (List.mem_of_getElem? (i := 77) rfl))) (by decide) (t := (.object "java/util/Map")) (t' := (.object "java/lang/String")) (by decide) (by decide)))
  have F_body_a := F_body_a.other W8 (Or.inr (slot_ne (Or.inr (hw _ (List.mem_of_getElem? (i := 83) rfl))) (Or.inr (hw _ (List.mem_of_getElem? (i := 77) rfl))) (by decide) (t := (.array .byte)) (t' := (.object "java/lang/String")) (by decide) (by decide)))
  have F_path_a := F_path_a.same W8
  have KP := KP.wr W8 (Or.inl (List.mem_of_getElem? (i := 0) rfl))
  have R9 : ∀ zt, Steps p.tables e below (T8.setTop (mkF m 22 #[.val (.ref a), .val (.ref s1), .val (.ref s2), .val (.ref s3), .val qv, .val .null, .val bv] [qv, (.ref a)])) zt → Steps p.tables e below (s₁.setTop (entryFrame m #[(.ref a), (.ref s1), (.ref s2), (.ref s3), qv, .null, bv] 7)) zt := by
    intro zt zk
    refine R7 zt ?_
    show Steps p.tables e below (T6.setTop (mkF m 16 #[.val (.ref a), .val (.ref s1), .val (.ref s2), .val (.ref s3), .val qv, .val .null, .val bv] [(.ref s3), (.ref a)])) _
    refine st8 _ ?_
    show Steps p.tables e below (T8.setTop (mkF m 19 #[.val (.ref a), .val (.ref s1), .val (.ref s2), .val (.ref s3), .val qv, .val .null, .val bv] [])) _
    refine XS.aloadN X8.here hx rfl (hb hby d10_19) rfl rfl ?_
    show Steps p.tables e below (T8.setTop (mkF m 20 #[.val (.ref a), .val (.ref s1), .val (.ref s2), .val (.ref s3), .val qv, .val .null, .val bv] [(.ref a)])) _
    refine XS.aload X8.here hx rfl (hb hby d10_20) rfl hr_qv ?_
    exact zk
  obtain ⟨T10, h10, X10, e10, W10, st10⟩ := putF X8 hx hZ hown (host := "") (Or.inl (hw _ (List.mem_of_getElem? (i := 78) rfl))) Via.refl e8 F_query_a E_a (Or.inr ⟨(hw _ (List.mem_of_getElem? (i := 79) rfl)), rfl, hnm⟩) (hw _ (List.mem_of_getElem? (i := 66) rfl)) (ty := (.object "java/lang/String")) (by decide) (own_narO hr_qv) (own_fitO hr_qv) (g := (mkF m 22 #[.val (.ref a), .val (.ref s1), .val (.ref s2), .val (.ref s3), .val qv, .val .null, .val bv] [qv, (.ref a)])) rfl rfl (hb hby d10_22)
  have N10 := Fr.snoc X10 N8 ge_a
  have Sz10 := Nat.le_trans Sz8 (Keep.of_wr W10).1
  have E_a := E_a.wr W10
  have F_method_a := F_method_a.other W10 (Or.inr (slot_ne (Or.inr (hw _ (List.mem_of_getElem? (i := 73) rfl))) (Or.inr (hw _ (List.mem_of_getElem? (i := 79) rfl))) (by decide) (t := (.object "java/lang/String")) (t' := (.object "java/lang/String")) (by decide) (by decide)))
  have F_target_a := F_target_a.other W10 (Or.inr (slot_ne (Or.inr (hw _ (List.mem_of_getElem? (i := 75) rfl))) (Or.inr (hw _ (List.mem_of_getElem? (i := 79) rfl))) (by decide) (t := (.object "java/lang/String")) (t' := (.object "java/lang/String")) (by decide) (by decide)))
  have F_path_a := F_path_a.other W10 (Or.inr (slot_ne (Or.inr (hw _ (List.mem_of_getElem? (i := 77) rfl))) (Or.inr (hw _ (List.mem_of_getElem? (i := 79) rfl))) (by decide) (t := (.object "java/lang/String")) (t' := (.object "java/lang/String")) (by decide) (by decide)))
  have F_fields_a := F_fields_a.other W10 (Or.inr (slot_ne (Or.inr (hw _ (List.mem_of_getElem? (i := 81) rfl))) (Or.inr (hw _ (List.mem_of_getElem? (i := 79) rfl))) (by decide) (t := (.object "java/util/Map")) (t' := (.object "java/lang/String")) (by decide) (by decide)))
  have F_body_a := F_body_a.other W10 (Or.inr (slot_ne (Or.inr (hw _ (List.mem_of_getElem? (i := 83) rfl))) (Or.inr (hw _ (List.mem_of_getElem? (i := 79) rfl))) (by decide) (t := (.array .byte)) (t' := (.object "java/lang/String")) (by decide) (by decide)))
  have F_query_a := F_query_a.same W10
  have KP := KP.wr W10 (Or.inl (List.mem_of_getElem? (i := 0) rfl))
  have R11 : ∀ zt, Steps p.tables e below (T10.setTop (mkF m 28 #[.val (.ref a), .val (.ref s1), .val (.ref s2), .val (.ref s3), .val qv, .val .null, .val bv] [.null, (.ref a)])) zt → Steps p.tables e below (s₁.setTop (entryFrame m #[(.ref a), (.ref s1), (.ref s2), (.ref s3), qv, .null, bv] 7)) zt := by
    intro zt zk
    refine R9 zt ?_
    show Steps p.tables e below (T8.setTop (mkF m 22 #[.val (.ref a), .val (.ref s1), .val (.ref s2), .val (.ref s3), .val qv, .val .null, .val bv] [qv, (.ref a)])) _
    refine st10 _ ?_
    show Steps p.tables e below (T10.setTop (mkF m 25 #[.val (.ref a), .val (.ref s1), .val (.ref s2), .val (.ref s3), .val qv, .val .null, .val bv] [])) _
    refine XS.aloadN X10.here hx rfl (hb hby d10_25) rfl rfl ?_
    show Steps p.tables e below (T10.setTop (mkF m 26 #[.val (.ref a), .val (.ref s1), .val (.ref s2), .val (.ref s3), .val qv, .val .null, .val bv] [(.ref a)])) _
    refine XS.aload X10.here hx rfl (hb hby d10_26) rfl rfl ?_
    exact zk
  obtain ⟨T12, h12, X12, e12, W12, st12⟩ := putF X10 hx hZ hown (host := "") (Or.inl (hw _ (List.mem_of_getElem? (i := 80) rfl))) Via.refl e10 F_fields_a E_a (Or.inr ⟨(hw _ (List.mem_of_getElem? (i := 81) rfl)), rfl, hnm⟩) (hw _ (List.mem_of_getElem? (i := 66) rfl)) (ty := (.object "java/util/Map")) (by decide) rfl rfl (g := (mkF m 28 #[.val (.ref a), .val (.ref s1), .val (.ref s2), .val (.ref s3), .val qv, .val .null, .val bv] [.null, (.ref a)])) rfl rfl (hb hby d10_28)
  have N12 := Fr.snoc X12 N10 ge_a
  have Sz12 := Nat.le_trans Sz10 (Keep.of_wr W12).1
  have E_a := E_a.wr W12
  have F_method_a := F_method_a.other W12 (Or.inr (slot_ne (Or.inr (hw _ (List.mem_of_getElem? (i := 73) rfl))) (Or.inr (hw _ (List.mem_of_getElem? (i := 81) rfl))) (by decide) (t := (.object "java/lang/String")) (t' := (.object "java/util/Map")) (by decide) (by decide)))
  have F_target_a := F_target_a.other W12 (Or.inr (slot_ne (Or.inr (hw _ (List.mem_of_getElem? (i := 75) rfl))) (Or.inr (hw _ (List.mem_of_getElem? (i := 81) rfl))) (by decide) (t := (.object "java/lang/String")) (t' := (.object "java/util/Map")) (by decide) (by decide)))
  have F_path_a := F_path_a.other W12 (Or.inr (slot_ne (Or.inr (hw _ (List.mem_of_getElem? (i := 77) rfl))) (Or.inr (hw _ (List.mem_of_getElem? (i := 81) rfl))) (by decide) (t := (.object "java/lang/String")) (t' := (.object "java/util/Map")) (by decide) (by decide)))
  have F_query_a := F_query_a.other W12 (Or.inr (slot_ne (Or.inr (hw _ (List.mem_of_getElem? (i := 79) rfl))) (Or.inr (hw _ (List.mem_of_getElem? (i := 81) rfl))) (by decide) (t := (.object "java/lang/String")) (t' := (.object "java/util/Map")) (by decide) (by decide)))
  have F_body_a := F_body_a.other W12 (Or.inr (slot_ne (Or.inr (hw _ (List.mem_of_getElem? (i := 83) rfl))) (Or.inr (hw _ (List.mem_of_getElem? (i := 81) rfl))) (by decide) (t := (.array .byte)) (t' := (.object "java/util/Map")) (by decide) (by decide)))
  have F_fields_a := F_fields_a.same W12
  have KP := KP.wr W12 (Or.inl (List.mem_of_getElem? (i := 0) rfl))
  have R13 : ∀ zt, Steps p.tables e below (T12.setTop (mkF m 34 #[.val (.ref a), .val (.ref s1), .val (.ref s2), .val (.ref s3), .val qv, .val .null, .val bv] [bv, (.ref a)])) zt → Steps p.tables e below (s₁.setTop (entryFrame m #[(.ref a), (.ref s1), (.ref s2), (.ref s3), qv, .null, bv] 7)) zt := by
    intro zt zk
    refine R11 zt ?_
    show Steps p.tables e below (T10.setTop (mkF m 28 #[.val (.ref a), .val (.ref s1), .val (.ref s2), .val (.ref s3), .val qv, .val .null, .val bv] [.null, (.ref a)])) _
    refine st12 _ ?_
    show Steps p.tables e below (T12.setTop (mkF m 31 #[.val (.ref a), .val (.ref s1), .val (.ref s2), .val (.ref s3), .val qv, .val .null, .val bv] [])) _
    refine XS.aloadN X12.here hx rfl (hb hby d10_31) rfl rfl ?_
    show Steps p.tables e below (T12.setTop (mkF m 32 #[.val (.ref a), .val (.ref s1), .val (.ref s2), .val (.ref s3), .val qv, .val .null, .val bv] [(.ref a)])) _
    refine XS.aload X12.here hx rfl (hb hby d10_32) rfl hr_bv ?_
    exact zk
  obtain ⟨T14, h14, X14, e14, W14, st14⟩ := putF X12 hx hZ hown (host := "") (Or.inl (hw _ (List.mem_of_getElem? (i := 82) rfl))) Via.refl e12 F_body_a E_a (Or.inr ⟨(hw _ (List.mem_of_getElem? (i := 83) rfl)), rfl, hnm⟩) (hw _ (List.mem_of_getElem? (i := 66) rfl)) (ty := (.array .byte)) (by decide) (own_narA hr_bv) (own_fitA hr_bv) (g := (mkF m 34 #[.val (.ref a), .val (.ref s1), .val (.ref s2), .val (.ref s3), .val qv, .val .null, .val bv] [bv, (.ref a)])) rfl rfl (hb hby d10_34)
  have N14 := Fr.snoc X14 N12 ge_a
  have Sz14 := Nat.le_trans Sz12 (Keep.of_wr W14).1
  have E_a := E_a.wr W14
  have F_method_a := F_method_a.other W14 (Or.inr (slot_ne (Or.inr (hw _ (List.mem_of_getElem? (i := 73) rfl))) (Or.inr (hw _ (List.mem_of_getElem? (i := 83) rfl))) (by decide) (t := (.object "java/lang/String")) (t' := (.array .byte)) (by decide) (by decide)))
  have F_target_a := F_target_a.other W14 (Or.inr (slot_ne (Or.inr (hw _ (List.mem_of_getElem? (i := 75) rfl))) (Or.inr (hw _ (List.mem_of_getElem? (i := 83) rfl))) (by decide) (t := (.object "java/lang/String")) (t' := (.array .byte)) (by decide) (by decide)))
  have F_path_a := F_path_a.other W14 (Or.inr (slot_ne (Or.inr (hw _ (List.mem_of_getElem? (i := 77) rfl))) (Or.inr (hw _ (List.mem_of_getElem? (i := 83) rfl))) (by decide) (t := (.object "java/lang/String")) (t' := (.array .byte)) (by decide) (by decide)))
  have F_query_a := F_query_a.other W14 (Or.inr (slot_ne (Or.inr (hw _ (List.mem_of_getElem? (i := 79) rfl))) (Or.inr (hw _ (List.mem_of_getElem? (i := 83) rfl))) (by decide) (t := (.object "java/lang/String")) (t' := (.array .byte)) (by decide) (by decide)))
  have F_fields_a := F_fields_a.other W14 (Or.inr (slot_ne (Or.inr (hw _ (List.mem_of_getElem? (i := 81) rfl))) (Or.inr (hw _ (List.mem_of_getElem? (i := 83) rfl))) (by decide) (t := (.object "java/util/Map")) (t' := (.array .byte)) (by decide) (by decide)))
  have F_body_a := F_body_a.same W14
  have KP := KP.wr W14 (Or.inl (List.mem_of_getElem? (i := 0) rfl))
  have R15 : ∀ zt, Steps p.tables e below (T14.setTop (mkF m 37 #[.val (.ref a), .val (.ref s1), .val (.ref s2), .val (.ref s3), .val qv, .val .null, .val bv] [])) zt → Steps p.tables e below (s₁.setTop (entryFrame m #[(.ref a), (.ref s1), (.ref s2), (.ref s3), qv, .null, bv] 7)) zt := by
    intro zt zk
    refine R13 zt ?_
    show Steps p.tables e below (T12.setTop (mkF m 34 #[.val (.ref a), .val (.ref s1), .val (.ref s2), .val (.ref s3), .val qv, .val .null, .val bv] [bv, (.ref a)])) _
    refine st14 _ ?_
    exact zk
  obtain ⟨fs, hr, hrun, hended, hW, hsame⟩ := X14.leave (v := none) (fun _ => rfl)
  refine ⟨_, _, R15 _ ?_, hrun, hended, _, _, rfl, ?_, ⟨_, rfl⟩, hW, hsame.mono (by decide) (by decide)⟩
  · exact X14.returnOut hx Bd.returns (hb hby d10_37) hr
  · show Q10 Z a s1 s2 s3 qv bv h0 n0 _ T14.heap _
    rw [e14]
    exact ⟨rfl, N14, KP, F_method_a, F_target_a, F_path_a, F_query_a, F_fields_a, F_body_a⟩
theorem ef9 (m : MethodId) (x0 : Addr) (x1 : Value) (hx1 : x1.category = 1) : entryFrame m #[(.ref x0), x1] 2 = mkF m 0 #[.val (.ref x0), .val x1] [] := by first | (simp [entryFrame, mkF, argsToLocals, own_cR, own_cI, own_cN, hx1]; done) | skip
theorem d9_0 : decode prog_28_method_2_code 0 = .ok (.new 40, 3) := by decide +kernel
theorem d9_3 : decode prog_28_method_2_code 3 = .ok (.dup, 1) := by decide +kernel
theorem d9_4 : decode prog_28_method_2_code 4 = .ok (.aload_n 0, 1) := by decide +kernel
theorem d9_5 : decode prog_28_method_2_code 5 = .ok (.getfield 7, 3) := by decide +kernel
theorem d9_8 : decode prog_28_method_2_code 8 = .ok (.aload_n 0, 1) := by decide +kernel
theorem d9_9 : decode prog_28_method_2_code 9 = .ok (.getfield 13, 3) := by decide +kernel
theorem d9_12 : decode prog_28_method_2_code 12 = .ok (.aload_n 0, 1) := by decide +kernel
theorem d9_13 : decode prog_28_method_2_code 13 = .ok (.getfield 16, 3) := by decide +kernel
theorem d9_16 : decode prog_28_method_2_code 16 = .ok (.aload_n 0, 1) := by decide +kernel
theorem d9_17 : decode prog_28_method_2_code 17 = .ok (.getfield 19, 3) := by decide +kernel
theorem d9_20 : decode prog_28_method_2_code 20 = .ok (.aload_n 0, 1) := by decide +kernel
theorem d9_21 : decode prog_28_method_2_code 21 = .ok (.getfield 22, 3) := by decide +kernel
theorem d9_24 : decode prog_28_method_2_code 24 = .ok (.aload_n 1, 1) := by decide +kernel
theorem pd_1 : parseMethodDescriptor "(Ljava/lang/String;Ljava/lang/String;Ljava/lang/String;Ljava/lang/String;Ljava/util/Map;[B)V" = some ⟨[(.object "java/lang/String"), (.object "java/lang/String"), (.object "java/lang/String"), (.object "java/lang/String"), (.object "java/util/Map"), (.array .byte)], none⟩ := by decide +kernel
theorem d9_25 : decode prog_28_method_2_code 25 = .ok (.invokespecial 42, 3) := by decide +kernel
theorem d9_28 : decode prog_28_method_2_code 28 = .ok (.areturn, 1) := by decide +kernel
def Q9 (Z : State) (a : Addr) (bv : Value) (s1 : Addr) (s2 : Addr) (s3 : Addr) (qv : Value) (h0 : Heap) (n0 : Nat) (v : Option Value) (h : Heap) (L : List Loc) : Prop := v = some (.ref h0.size) ∧ Fr n0 L ∧ Keep h0 h [] ∧ Exa Z h h0.size "com/example/accesstrail/accesstrail/server/Request" ∧ Fld Z h h0.size "com/example/accesstrail/accesstrail/server/Request" "method" "Ljava/lang/String;" (.ref s1) ∧ Fld Z h h0.size "com/example/accesstrail/accesstrail/server/Request" "target" "Ljava/lang/String;" (.ref s2) ∧ Fld Z h h0.size "com/example/accesstrail/accesstrail/server/Request" "path" "Ljava/lang/String;" (.ref s3) ∧ Fld Z h h0.size "com/example/accesstrail/accesstrail/server/Request" "query" "Ljava/lang/String;" qv ∧ Fld Z h h0.size "com/example/accesstrail/accesstrail/server/Request" "fields" "Ljava/util/Map;" .null ∧ Fld Z h h0.size "com/example/accesstrail/accesstrail/server/Request" "body" "[B" bv
set_option maxRecDepth 65536 in
set_option maxHeartbeats 40000000 in
theorem rm9 (l : Launch) (Z : State) (a0 : Array Value) (hw : ∀ d ∈ tables_1, d.before a0 Z = true) (ws : List Jvm.Cond) (a : Addr) (bv : Value) (s1 : Addr) (s2 : Addr) (s3 : Addr) (qv : Value) (h0 : Heap) (n0 : Nat) (Z0 : n0 ≤ h0.size) (F_method_a : Fld Z h0 a "com/example/accesstrail/accesstrail/server/RequestReader$Head" "method" "Ljava/lang/String;" (.ref s1)) (F_target_a : Fld Z h0 a "com/example/accesstrail/accesstrail/server/RequestReader$Head" "target" "Ljava/lang/String;" (.ref s2)) (F_path_a : Fld Z h0 a "com/example/accesstrail/accesstrail/server/RequestReader$Head" "path" "Ljava/lang/String;" (.ref s3)) (F_query_a : Fld Z h0 a "com/example/accesstrail/accesstrail/server/RequestReader$Head" "query" "Ljava/lang/String;" qv) (F_fields_a : Fld Z h0 a "com/example/accesstrail/accesstrail/server/RequestReader$Head" "fields" "Ljava/util/Map;" .null) (hr_qv : qv.isRef = true) (hr_bv : bv.isRef = true) :
    MetFree l (⟨"com/example/accesstrail/accesstrail/server/RequestReader$Head", "with", "([B)Lcom/example/accesstrail/accesstrail/server/Request;"⟩ : MethodName) (head1 (Jvm.Cond.code (⟨"com/example/accesstrail/accesstrail/server/RequestReader$Head", "with", "([B)Lcom/example/accesstrail/accesstrail/server/Request;"⟩ : MethodName) prog_28_method_2_code 2 (some (.object "com/example/accesstrail/accesstrail/server/Request")) :: ws) ({ frames := 3, cells := 1, slots := 6, locals := 43 } : Room)) (fun zza zzU => zza = #[(.ref a), bv] ∧ Z.Warmed39 zzU.vm ∧ zzU.heap = h0) (fun _ _ _ _ _ => True) (fun _ zzU zzo zzV => ∃ zzv zzL, zzo = .returned zzv ∧ Q9 Z a bv s1 s2 s3 qv h0 n0 zzv zzV.heap zzL ∧ FrameEnd zzU zzo zzV zzL ({ frames := 3, cells := 1, slots := 6, locals := 43 } : Room).cells ({ frames := 3, cells := 1, slots := 6, locals := 43 } : Room).slots) := by
  refine MetFree.of_bodySF (plainFor_of_name pn_1) hisR ?_
  intro p e s m args below meth c s₁ Bd hml0 hP hK
  obtain ⟨rfl, hZ, hh⟩ := hP
  have hx := Bd.exec
  have hby := Bd.bytes
  have hml : c.maxLocals = 2 := hml0
  have hown : s.vm.findClass "com/example/accesstrail/accesstrail/server/RequestReader$Head" = some m.cls := findClass_of_methodNamed Bd.named
  have hnm := (name_of_methodNamed Bd.named Bd.method).1
  have X0 : Stand p l e ({ frames := 3, cells := 1, slots := 6, locals := 43 } : Room) s m #[(.ref a), bv] below meth c s₁ [] 0 0 := Stand.of_body Bd
  have e0 : s₁.heap = h0 := by rw [← hh, Bd.state]; rfl
  have N0 := Fr.nil n0
  have R0 : ∀ zt, Steps p.tables e below (s₁.setTop (mkF m 0 #[.val (.ref a), .val bv] [])) zt → Steps p.tables e below (s₁.setTop (entryFrame m #[(.ref a), bv] 2)) zt := fun zt zk => castTop (ef9 m a bv (own_cat hr_bv)) zk
  have KP := Keep.refl h0 []
  obtain ⟨T1, h1, X1, e1, E1, A1, D1, -, st1⟩ := newO X0 hx hZ hown (hw _ (List.mem_of_getElem? (i := 65) rfl)) (hw _ (List.mem_of_getElem? (i := 66) rfl)) (hw _ (List.mem_of_getElem? (i := 67) rfl)) e0 (g := (mkF m 0 #[.val (.ref a), .val bv] [])) rfl (hb hby d9_0) (by decide) (by decide)
  obtain ⟨b, g1⟩ : ∃ z, z = h0.size := ⟨_, rfl⟩
  rw [← g1] at A1 D1 st1
  have ge_b : n0 ≤ b := by rw [g1]; exact Z0
  have Sz1 := Nat.le_trans Z0 E1.1
  have sz0_b : h0.size ≤ b := by rw [g1]; exact KP.1
  have KP := KP.ext E1
  have ne_a_b : a ≠ b := Nat.ne_of_lt (Nat.lt_of_lt_of_le F_method_a.lt (Nat.le_of_eq g1.symm))
  have F_method_a := F_method_a.ext E1
  have F_target_a := F_target_a.ext E1
  have F_path_a := F_path_a.ext E1
  have F_query_a := F_query_a.ext E1
  have F_fields_a := F_fields_a.ext E1
  have E_b := A1
  have F_method_b : Fld Z h1 b "com/example/accesstrail/accesstrail/server/Request" "method" "Ljava/lang/String;" .null := D1 (Or.inr (hw _ (List.mem_of_getElem? (i := 73) rfl))) (ty := (.object "java/lang/String")) (by decide)
  have F_target_b : Fld Z h1 b "com/example/accesstrail/accesstrail/server/Request" "target" "Ljava/lang/String;" .null := D1 (Or.inr (hw _ (List.mem_of_getElem? (i := 75) rfl))) (ty := (.object "java/lang/String")) (by decide)
  have F_path_b : Fld Z h1 b "com/example/accesstrail/accesstrail/server/Request" "path" "Ljava/lang/String;" .null := D1 (Or.inr (hw _ (List.mem_of_getElem? (i := 77) rfl))) (ty := (.object "java/lang/String")) (by decide)
  have F_query_b : Fld Z h1 b "com/example/accesstrail/accesstrail/server/Request" "query" "Ljava/lang/String;" .null := D1 (Or.inr (hw _ (List.mem_of_getElem? (i := 79) rfl))) (ty := (.object "java/lang/String")) (by decide)
  have F_fields_b : Fld Z h1 b "com/example/accesstrail/accesstrail/server/Request" "fields" "Ljava/util/Map;" .null := D1 (Or.inr (hw _ (List.mem_of_getElem? (i := 81) rfl))) (ty := (.object "java/util/Map")) (by decide)
  have F_body_b : Fld Z h1 b "com/example/accesstrail/accesstrail/server/Request" "body" "[B" .null := D1 (Or.inr (hw _ (List.mem_of_getElem? (i := 83) rfl))) (ty := (.array .byte)) (by decide)
  have R2 : ∀ zt, Steps p.tables e below (T1.setTop (mkF m 5 #[.val (.ref a), .val bv] [(.ref a), (.ref b), (.ref b)])) zt → Steps p.tables e below (s₁.setTop (entryFrame m #[(.ref a), bv] 2)) zt := by
    intro zt zk
    refine R0 zt ?_
    show Steps p.tables e below (s₁.setTop (mkF m 0 #[.val (.ref a), .val bv] [])) _
    refine st1 _ ?_
    show Steps p.tables e below (T1.setTop (mkF m 3 #[.val (.ref a), .val bv] [(.ref b)])) _
    refine XS.dup X1.here hx rfl (hb hby d9_3) rfl rfl ?_
    show Steps p.tables e below (T1.setTop (mkF m 4 #[.val (.ref a), .val bv] [(.ref b), (.ref b)])) _
    refine XS.aloadN X1.here hx rfl (hb hby d9_4) rfl rfl ?_
    exact zk
  obtain ⟨T3, X3, e3, st3⟩ := getF X1 hx hZ hown (host := "") (Or.inl (hw _ (List.mem_of_getElem? (i := 42) rfl))) Via.refl e1 F_method_a (g := (mkF m 5 #[.val (.ref a), .val bv] [(.ref a), (.ref b), (.ref b)])) rfl rfl (hb hby d9_5)
  have R4 : ∀ zt, Steps p.tables e below (T3.setTop (mkF m 9 #[.val (.ref a), .val bv] [(.ref a), (.ref s1), (.ref b), (.ref b)])) zt → Steps p.tables e below (s₁.setTop (entryFrame m #[(.ref a), bv] 2)) zt := by
    intro zt zk
    refine R2 zt ?_
    show Steps p.tables e below (T1.setTop (mkF m 5 #[.val (.ref a), .val bv] [(.ref a), (.ref b), (.ref b)])) _
    refine st3 _ ?_
    show Steps p.tables e below (T3.setTop (mkF m 8 #[.val (.ref a), .val bv] [(.ref s1), (.ref b), (.ref b)])) _
    refine XS.aloadN X3.here hx rfl (hb hby d9_8) rfl rfl ?_
    exact zk
  obtain ⟨T5, X5, e5, st5⟩ := getF X3 hx hZ hown (host := "") (Or.inl (hw _ (List.mem_of_getElem? (i := 44) rfl))) Via.refl e3 F_target_a (g := (mkF m 9 #[.val (.ref a), .val bv] [(.ref a), (.ref s1), (.ref b), (.ref b)])) rfl rfl (hb hby d9_9)
  have R6 : ∀ zt, Steps p.tables e below (T5.setTop (mkF m 13 #[.val (.ref a), .val bv] [(.ref a), (.ref s2), (.ref s1), (.ref b), (.ref b)])) zt → Steps p.tables e below (s₁.setTop (entryFrame m #[(.ref a), bv] 2)) zt := by
    intro zt zk
    refine R4 zt ?_
    show Steps p.tables e below (T3.setTop (mkF m 9 #[.val (.ref a), .val bv] [(.ref a), (.ref s1), (.ref b), (.ref b)])) _
    refine st5 _ ?_
    show Steps p.tables e below (T5.setTop (mkF m 12 #[.val (.ref a), .val bv] [(.ref s2), (.ref s1), (.ref b), (.ref b)])) _
    refine XS.aloadN X5.here hx rfl (hb hby d9_12) rfl rfl ?_
    exact zk
  obtain ⟨T7, X7, e7, st7⟩ := getF X5 hx hZ hown (host := "") (Or.inl (hw _ (List.mem_of_getElem? (i := 46) rfl))) Via.refl e5 F_path_a (g := (mkF m 13 #[.val (.ref a), .val bv] [(.ref a), (.ref s2), (.ref s1), (.ref b), (.ref b)])) rfl rfl (hb hby d9_13)
  have R8 : ∀ zt, Steps p.tables e below (T7.setTop (mkF m 17 #[.val (.ref a), .val bv] [(.ref a), (.ref s3), (.ref s2), (.ref s1), (.ref b), (.ref b)])) zt → Steps p.tables e below (s₁.setTop (entryFrame m #[(.ref a), bv] 2)) zt := by
    intro zt zk
    refine R6 zt ?_
    show Steps p.tables e below (T5.setTop (mkF m 13 #[.val (.ref a), .val bv] [(.ref a), (.ref s2), (.ref s1), (.ref b), (.ref b)])) _
    refine st7 _ ?_
    show Steps p.tables e below (T7.setTop (mkF m 16 #[.val (.ref a), .val bv] [(.ref s3), (.ref s2), (.ref s1), (.ref b), (.ref b)])) _
    refine XS.aloadN X7.here hx rfl (hb hby d9_16) rfl rfl ?_
    exact zk
  obtain ⟨T9, X9, e9, st9⟩ := getF X7 hx hZ hown (host := "") (Or.inl (hw _ (List.mem_of_getElem? (i := 48) rfl))) Via.refl e7 F_query_a (g := (mkF m 17 #[.val (.ref a), .val bv] [(.ref a), (.ref s3), (.ref s2), (.ref s1), (.ref b), (.ref b)])) rfl rfl (hb hby d9_17)
  have R10 : ∀ zt, Steps p.tables e below (T9.setTop (mkF m 21 #[.val (.ref a), .val bv] [(.ref a), qv, (.ref s3), (.ref s2), (.ref s1), (.ref b), (.ref b)])) zt → Steps p.tables e below (s₁.setTop (entryFrame m #[(.ref a), bv] 2)) zt := by
    intro zt zk
    refine R8 zt ?_
    show Steps p.tables e below (T7.setTop (mkF m 17 #[.val (.ref a), .val bv] [(.ref a), (.ref s3), (.ref s2), (.ref s1), (.ref b), (.ref b)])) _
    refine st9 _ ?_
    show Steps p.tables e below (T9.setTop (mkF m 20 #[.val (.ref a), .val bv] [qv, (.ref s3), (.ref s2), (.ref s1), (.ref b), (.ref b)])) _
    refine XS.aloadN X9.here hx rfl (hb hby d9_20) rfl rfl ?_
    exact zk
  obtain ⟨T11, X11, e11, st11⟩ := getF X9 hx hZ hown (host := "") (Or.inl (hw _ (List.mem_of_getElem? (i := 50) rfl))) Via.refl e9 F_fields_a (g := (mkF m 21 #[.val (.ref a), .val bv] [(.ref a), qv, (.ref s3), (.ref s2), (.ref s1), (.ref b), (.ref b)])) rfl rfl (hb hby d9_21)
  have R12 : ∀ zt, Steps p.tables e below (T11.setTop (mkF m 25 #[.val (.ref a), .val bv] [bv, .null, qv, (.ref s3), (.ref s2), (.ref s1), (.ref b), (.ref b)])) zt → Steps p.tables e below (s₁.setTop (entryFrame m #[(.ref a), bv] 2)) zt := by
    intro zt zk
    refine R10 zt ?_
    show Steps p.tables e below (T9.setTop (mkF m 21 #[.val (.ref a), .val bv] [(.ref a), qv, (.ref s3), (.ref s2), (.ref s1), (.ref b), (.ref b)])) _
    refine st11 _ ?_
    show Steps p.tables e below (T11.setTop (mkF m 24 #[.val (.ref a), .val bv] [.null, qv, (.ref s3), (.ref s2), (.ref s1), (.ref b), (.ref b)])) _
    refine XS.aloadN X11.here hx rfl (hb hby d9_24) rfl hr_bv ?_
    exact zk
  obtain ⟨_, _, ⟨T13, L13, k13, n13⟩, -, X13, ⟨Lc13, hQ13, l13, y13, z13⟩, st13⟩ := X11.specialBack hx (y := (⟨"com/example/accesstrail/accesstrail/server/Request", "<init>", "(Ljava/lang/String;Ljava/lang/String;Ljava/lang/String;Ljava/lang/String;Ljava/util/Map;[B)V"⟩ : MethodName)) rfl hown (mvT hZ (hw _ (List.mem_of_getElem? (i := 68) rfl))) (mvT hZ (hw _ (List.mem_of_getElem? (i := 69) rfl))) (mvT hZ (hw _ (List.mem_of_getElem? (i := 70) rfl))) (by decide) (backOf (W := 1) (rm10 l Z a0 hw [] b s1 s2 s3 qv bv h1 n0 Sz1 E_b F_method_b F_target_b F_path_b F_query_b F_fields_b F_body_b ge_b hr_qv hr_bv) hZ (hw _ (List.mem_of_getElem? (i := 70) rfl)) (hw _ (List.mem_of_getElem? (i := 67) rfl)) (by decide) (by decide)) (g := (mkF m 25 #[.val (.ref a), .val bv] [bv, .null, qv, (.ref s3), (.ref s2), (.ref s1), (.ref b), (.ref b)])) rfl (by rw [hml]; rfl) (Steps.refl _) (a := b) (argsL := [(.ref s1), (.ref s2), (.ref s3), qv, .null, bv]) (rest := [(.ref b)]) (lenOf pd_1 rfl) rfl (by show 2 * 0 + _ ≤ _; exact Nat.le_of_eq rfl) (hb hby d9_25) (fun _ _ => ⟨rfl, e11, (by decide : 1 + 0 ≤ _), (by decide : 6 + 0 ≤ _)⟩)
  dsimp only [Pt.U, Pt.locs, Pt.cells, Pt.slots] at X13 l13 y13 z13 st13 hQ13
  rw [y13, z13] at X13
  have X13 : Stand p l e ({ frames := 3, cells := 1, slots := 6, locals := 43 } : Room) s m #[(.ref a), bv] below meth c T13 L13 1 6 := X13
  obtain ⟨rfl, Nq13, K13, F_method_b, F_target_b, F_path_b, F_query_b, F_fields_b, F_body_b⟩ := hQ13
  have N13 : Fr n0 L13 := by rw [l13]; exact Fr.app N0 Nq13
  clear l13 y13 z13
  have Sz13 := Nat.le_trans Sz1 K13.1
  have F_method_a := F_method_a.keep K13 (ninS ne_a_b nin0)
  have F_target_a := F_target_a.keep K13 (ninS ne_a_b nin0)
  have F_path_a := F_path_a.keep K13 (ninS ne_a_b nin0)
  have F_query_a := F_query_a.keep K13 (ninS ne_a_b nin0)
  have F_fields_a := F_fields_a.keep K13 (ninS ne_a_b nin0)
  have E_b := E_b.keep K13
  have KP := KP.trans K13 (allS (Or.inr sz0_b) all0)
  have R14 : ∀ zt, Steps p.tables e below (T13.setTop (mkF m 28 #[.val (.ref a), .val bv] [(.ref b)])) zt → Steps p.tables e below (s₁.setTop (entryFrame m #[(.ref a), bv] 2)) zt := by
    intro zt zk
    refine R12 zt ?_
    show Steps p.tables e below (T11.setTop (mkF m 25 #[.val (.ref a), .val bv] [bv, .null, qv, (.ref s3), (.ref s2), (.ref s1), (.ref b), (.ref b)])) _
    refine st13.trans ?_
    exact zk
  have gb : b = h0.size := g1
  obtain ⟨fs, hr, hrun, hended, hW, hsame⟩ := X13.leave (v := some (.ref b)) (fun h => by rw [Bd.returns] at h; cases h)
  refine ⟨_, _, R14 _ ?_, hrun, hended, _, _, rfl, ?_, ⟨_, rfl⟩, hW, hsame.mono (by decide) (by decide)⟩
  · exact retOut X13 hx Bd.returns rfl (Or.inr (Or.inr (Or.inr (Or.inr ⟨rfl, rfl, rfl⟩)))) (hb hby d9_28) hr
  · show Q9 Z a bv s1 s2 s3 qv h0 n0 _ T13.heap _
    exact ⟨(by rw [gb]), N13, KP, gb ▸ E_b, gb ▸ F_method_b, gb ▸ F_target_b, gb ▸ F_path_b, gb ▸ F_query_b, gb ▸ F_fields_b, gb ▸ F_body_b⟩
theorem ef11 (m : MethodId) (x0 : Addr) : entryFrame m #[(.ref x0)] 1 = mkF m 0 #[.val (.ref x0)] [] := by first | (simp [entryFrame, mkF, argsToLocals, Value.category]; done) | rfl
theorem d11_0 : decode prog_25_method_6_code 0 = .ok (.aload_n 0, 1) := by decide +kernel
theorem d11_1 : decode prog_25_method_6_code 1 = .ok (.getfield 7, 3) := by decide +kernel
theorem d11_4 : decode prog_25_method_6_code 4 = .ok (.areturn, 1) := by decide +kernel
def Q11 (Z : State) (a : Addr) (yv : Addr) (h0 : Heap) (n0 : Nat) (v : Option Value) (h : Heap) (L : List Loc) : Prop := v = some (.ref yv) ∧ Fr n0 L ∧ h = h0
set_option maxRecDepth 65536 in
set_option maxHeartbeats 40000000 in
theorem rm11 (l : Launch) (Z : State) (a0 : Array Value) (hw : ∀ d ∈ tables_1, d.before a0 Z = true) (ws : List Jvm.Cond) (a : Addr) (yv : Addr) (h0 : Heap) (n0 : Nat) (Z0 : n0 ≤ h0.size) (F_a : Fld Z h0 a "com/example/accesstrail/accesstrail/server/Request" "method" "Ljava/lang/String;" (.ref yv)) :
    MetFree l (⟨"com/example/accesstrail/accesstrail/server/Request", "method", "()Ljava/lang/String;"⟩ : MethodName) (head1 (Jvm.Cond.code (⟨"com/example/accesstrail/accesstrail/server/Request", "method", "()Ljava/lang/String;"⟩ : MethodName) prog_25_method_6_code 1 (some (.object "java/lang/String")) :: ws) ({ frames := 0, cells := 0, slots := 0, locals := 0 } : Room)) (fun zza zzU => zza = #[(.ref a)] ∧ Z.Warmed39 zzU.vm ∧ zzU.heap = h0) (fun _ _ _ _ _ => True) (fun _ zzU zzo zzV => ∃ zzv zzL, zzo = .returned zzv ∧ Q11 Z a yv h0 n0 zzv zzV.heap zzL ∧ FrameEnd zzU zzo zzV zzL ({ frames := 0, cells := 0, slots := 0, locals := 0 } : Room).cells ({ frames := 0, cells := 0, slots := 0, locals := 0 } : Room).slots) := by
  refine MetFree.of_bodySF (plainFor_of_name pn_2) hisR ?_
  intro p e s m args below meth c s₁ Bd hml0 hP hK
  obtain ⟨rfl, hZ, hh⟩ := hP
  have hx := Bd.exec
  have hby := Bd.bytes
  have hml : c.maxLocals = 1 := hml0
  have hown : s.vm.findClass "com/example/accesstrail/accesstrail/server/Request" = some m.cls := findClass_of_methodNamed Bd.named
  have hnm := (name_of_methodNamed Bd.named Bd.method).1
  have X0 : Stand p l e ({ frames := 0, cells := 0, slots := 0, locals := 0 } : Room) s m #[(.ref a)] below meth c s₁ [] 0 0 := Stand.of_body Bd
  have e0 : s₁.heap = h0 := by rw [← hh, Bd.state]; rfl
  have N0 := Fr.nil n0
  have R0 : ∀ zt, Steps p.tables e below (s₁.setTop (mkF m 0 #[.val (.ref a)] [])) zt → Steps p.tables e below (s₁.setTop (entryFrame m #[(.ref a)] 1)) zt := fun zt zk => castTop (ef11 m a) zk
  have R1 : ∀ zt, Steps p.tables e below (s₁.setTop (mkF m 1 #[.val (.ref a)] [(.ref a)])) zt → Steps p.tables e below (s₁.setTop (entryFrame m #[(.ref a)] 1)) zt := by
    intro zt zk
    refine R0 zt ?_
    show Steps p.tables e below (s₁.setTop (mkF m 0 #[.val (.ref a)] [])) _
    refine XS.aloadN X0.here hx rfl (hb hby d11_0) rfl rfl ?_
    exact zk
  obtain ⟨T2, X2, e2, st2⟩ := getF X0 hx hZ hown (host := "") (Or.inl (hw _ (List.mem_of_getElem? (i := 72) rfl))) Via.refl e0 F_a (g := (mkF m 1 #[.val (.ref a)] [(.ref a)])) rfl rfl (hb hby d11_1)
  have R3 : ∀ zt, Steps p.tables e below (T2.setTop (mkF m 4 #[.val (.ref a)] [(.ref yv)])) zt → Steps p.tables e below (s₁.setTop (entryFrame m #[(.ref a)] 1)) zt := by
    intro zt zk
    refine R1 zt ?_
    show Steps p.tables e below (s₁.setTop (mkF m 1 #[.val (.ref a)] [(.ref a)])) _
    refine st2 _ ?_
    exact zk
  obtain ⟨fs, hr, hrun, hended, hW, hsame⟩ := X2.leave (v := some (.ref yv)) (fun h => by rw [Bd.returns] at h; cases h)
  refine ⟨_, _, R3 _ ?_, hrun, hended, _, _, rfl, ?_, ⟨_, rfl⟩, hW, hsame.mono (by decide) (by decide)⟩
  · exact retOut X2 hx Bd.returns rfl (Or.inr (Or.inr (Or.inr (Or.inr ⟨rfl, rfl, rfl⟩)))) (hb hby d11_4) hr
  · show Q11 Z a yv h0 n0 _ T2.heap _
    rw [e2]
    exact ⟨rfl, N0, rfl⟩
theorem ef12 (m : MethodId) (x0 : Addr) : entryFrame m #[(.ref x0)] 1 = mkF m 0 #[.val (.ref x0)] [] := by first | (simp [entryFrame, mkF, argsToLocals, Value.category]; done) | rfl
theorem d12_0 : decode prog_25_method_7_code 0 = .ok (.aload_n 0, 1) := by decide +kernel
theorem d12_1 : decode prog_25_method_7_code 1 = .ok (.getfield 13, 3) := by decide +kernel
theorem d12_4 : decode prog_25_method_7_code 4 = .ok (.areturn, 1) := by decide +kernel
def Q12 (Z : State) (a : Addr) (yv : Addr) (h0 : Heap) (n0 : Nat) (v : Option Value) (h : Heap) (L : List Loc) : Prop := v = some (.ref yv) ∧ Fr n0 L ∧ h = h0
set_option maxRecDepth 65536 in
set_option maxHeartbeats 40000000 in
theorem rm12 (l : Launch) (Z : State) (a0 : Array Value) (hw : ∀ d ∈ tables_1, d.before a0 Z = true) (ws : List Jvm.Cond) (a : Addr) (yv : Addr) (h0 : Heap) (n0 : Nat) (Z0 : n0 ≤ h0.size) (F_a : Fld Z h0 a "com/example/accesstrail/accesstrail/server/Request" "target" "Ljava/lang/String;" (.ref yv)) :
    MetFree l (⟨"com/example/accesstrail/accesstrail/server/Request", "target", "()Ljava/lang/String;"⟩ : MethodName) (head1 (Jvm.Cond.code (⟨"com/example/accesstrail/accesstrail/server/Request", "target", "()Ljava/lang/String;"⟩ : MethodName) prog_25_method_7_code 1 (some (.object "java/lang/String")) :: ws) ({ frames := 0, cells := 0, slots := 0, locals := 0 } : Room)) (fun zza zzU => zza = #[(.ref a)] ∧ Z.Warmed39 zzU.vm ∧ zzU.heap = h0) (fun _ _ _ _ _ => True) (fun _ zzU zzo zzV => ∃ zzv zzL, zzo = .returned zzv ∧ Q12 Z a yv h0 n0 zzv zzV.heap zzL ∧ FrameEnd zzU zzo zzV zzL ({ frames := 0, cells := 0, slots := 0, locals := 0 } : Room).cells ({ frames := 0, cells := 0, slots := 0, locals := 0 } : Room).slots) := by
  refine MetFree.of_bodySF (plainFor_of_name pn_2) hisR ?_
  intro p e s m args below meth c s₁ Bd hml0 hP hK
  obtain ⟨rfl, hZ, hh⟩ := hP
  have hx := Bd.exec
  have hby := Bd.bytes
  have hml : c.maxLocals = 1 := hml0
  have hown : s.vm.findClass "com/example/accesstrail/accesstrail/server/Request" = some m.cls := findClass_of_methodNamed Bd.named
  have hnm := (name_of_methodNamed Bd.named Bd.method).1
  have X0 : Stand p l e ({ frames := 0, cells := 0, slots := 0, locals := 0 } : Room) s m #[(.ref a)] below meth c s₁ [] 0 0 := Stand.of_body Bd
  have e0 : s₁.heap = h0 := by rw [← hh, Bd.state]; rfl
  have N0 := Fr.nil n0
  have R0 : ∀ zt, Steps p.tables e below (s₁.setTop (mkF m 0 #[.val (.ref a)] [])) zt → Steps p.tables e below (s₁.setTop (entryFrame m #[(.ref a)] 1)) zt := fun zt zk => castTop (ef12 m a) zk
  have R1 : ∀ zt, Steps p.tables e below (s₁.setTop (mkF m 1 #[.val (.ref a)] [(.ref a)])) zt → Steps p.tables e below (s₁.setTop (entryFrame m #[(.ref a)] 1)) zt := by
    intro zt zk
    refine R0 zt ?_
    show Steps p.tables e below (s₁.setTop (mkF m 0 #[.val (.ref a)] [])) _
    refine XS.aloadN X0.here hx rfl (hb hby d12_0) rfl rfl ?_
    exact zk
  obtain ⟨T2, X2, e2, st2⟩ := getF X0 hx hZ hown (host := "") (Or.inl (hw _ (List.mem_of_getElem? (i := 74) rfl))) Via.refl e0 F_a (g := (mkF m 1 #[.val (.ref a)] [(.ref a)])) rfl rfl (hb hby d12_1)
  have R3 : ∀ zt, Steps p.tables e below (T2.setTop (mkF m 4 #[.val (.ref a)] [(.ref yv)])) zt → Steps p.tables e below (s₁.setTop (entryFrame m #[(.ref a)] 1)) zt := by
    intro zt zk
    refine R1 zt ?_
    show Steps p.tables e below (s₁.setTop (mkF m 1 #[.val (.ref a)] [(.ref a)])) _
    refine st2 _ ?_
    exact zk
  obtain ⟨fs, hr, hrun, hended, hW, hsame⟩ := X2.leave (v := some (.ref yv)) (fun h => by rw [Bd.returns] at h; cases h)
  refine ⟨_, _, R3 _ ?_, hrun, hended, _, _, rfl, ?_, ⟨_, rfl⟩, hW, hsame.mono (by decide) (by decide)⟩
  · exact retOut X2 hx Bd.returns rfl (Or.inr (Or.inr (Or.inr (Or.inr ⟨rfl, rfl, rfl⟩)))) (hb hby d12_4) hr
  · show Q12 Z a yv h0 n0 _ T2.heap _
    rw [e2]
    exact ⟨rfl, N0, rfl⟩
theorem ef13 (m : MethodId) (x0 : Addr) : entryFrame m #[(.ref x0)] 1 = mkF m 0 #[.val (.ref x0)] [] := by first | (simp [entryFrame, mkF, argsToLocals, Value.category]; done) | rfl
theorem d13_0 : decode prog_25_method_8_code 0 = .ok (.aload_n 0, 1) := by decide +kernel
theorem d13_1 : decode prog_25_method_8_code 1 = .ok (.getfield 16, 3) := by decide +kernel
theorem d13_4 : decode prog_25_method_8_code 4 = .ok (.areturn, 1) := by decide +kernel
def Q13 (Z : State) (a : Addr) (yv : Addr) (h0 : Heap) (n0 : Nat) (v : Option Value) (h : Heap) (L : List Loc) : Prop := v = some (.ref yv) ∧ Fr n0 L ∧ h = h0
set_option maxRecDepth 65536 in
set_option maxHeartbeats 40000000 in
theorem rm13 (l : Launch) (Z : State) (a0 : Array Value) (hw : ∀ d ∈ tables_1, d.before a0 Z = true) (ws : List Jvm.Cond) (a : Addr) (yv : Addr) (h0 : Heap) (n0 : Nat) (Z0 : n0 ≤ h0.size) (F_a : Fld Z h0 a "com/example/accesstrail/accesstrail/server/Request" "path" "Ljava/lang/String;" (.ref yv)) :
    MetFree l (⟨"com/example/accesstrail/accesstrail/server/Request", "path", "()Ljava/lang/String;"⟩ : MethodName) (head1 (Jvm.Cond.code (⟨"com/example/accesstrail/accesstrail/server/Request", "path", "()Ljava/lang/String;"⟩ : MethodName) prog_25_method_8_code 1 (some (.object "java/lang/String")) :: ws) ({ frames := 0, cells := 0, slots := 0, locals := 0 } : Room)) (fun zza zzU => zza = #[(.ref a)] ∧ Z.Warmed39 zzU.vm ∧ zzU.heap = h0) (fun _ _ _ _ _ => True) (fun _ zzU zzo zzV => ∃ zzv zzL, zzo = .returned zzv ∧ Q13 Z a yv h0 n0 zzv zzV.heap zzL ∧ FrameEnd zzU zzo zzV zzL ({ frames := 0, cells := 0, slots := 0, locals := 0 } : Room).cells ({ frames := 0, cells := 0, slots := 0, locals := 0 } : Room).slots) := by
  refine MetFree.of_bodySF (plainFor_of_name pn_2) hisR ?_
  intro p e s m args below meth c s₁ Bd hml0 hP hK
  obtain ⟨rfl, hZ, hh⟩ := hP
  have hx := Bd.exec
  have hby := Bd.bytes
  have hml : c.maxLocals = 1 := hml0
  have hown : s.vm.findClass "com/example/accesstrail/accesstrail/server/Request" = some m.cls := findClass_of_methodNamed Bd.named
  have hnm := (name_of_methodNamed Bd.named Bd.method).1
  have X0 : Stand p l e ({ frames := 0, cells := 0, slots := 0, locals := 0 } : Room) s m #[(.ref a)] below meth c s₁ [] 0 0 := Stand.of_body Bd
  have e0 : s₁.heap = h0 := by rw [← hh, Bd.state]; rfl
  have N0 := Fr.nil n0
  have R0 : ∀ zt, Steps p.tables e below (s₁.setTop (mkF m 0 #[.val (.ref a)] [])) zt → Steps p.tables e below (s₁.setTop (entryFrame m #[(.ref a)] 1)) zt := fun zt zk => castTop (ef13 m a) zk
  have R1 : ∀ zt, Steps p.tables e below (s₁.setTop (mkF m 1 #[.val (.ref a)] [(.ref a)])) zt → Steps p.tables e below (s₁.setTop (entryFrame m #[(.ref a)] 1)) zt := by
    intro zt zk
    refine R0 zt ?_
    show Steps p.tables e below (s₁.setTop (mkF m 0 #[.val (.ref a)] [])) _
    refine XS.aloadN X0.here hx rfl (hb hby d13_0) rfl rfl ?_
    exact zk
  obtain ⟨T2, X2, e2, st2⟩ := getF X0 hx hZ hown (host := "") (Or.inl (hw _ (List.mem_of_getElem? (i := 76) rfl))) Via.refl e0 F_a (g := (mkF m 1 #[.val (.ref a)] [(.ref a)])) rfl rfl (hb hby d13_1)
  have R3 : ∀ zt, Steps p.tables e below (T2.setTop (mkF m 4 #[.val (.ref a)] [(.ref yv)])) zt → Steps p.tables e below (s₁.setTop (entryFrame m #[(.ref a)] 1)) zt := by
    intro zt zk
    refine R1 zt ?_
    show Steps p.tables e below (s₁.setTop (mkF m 1 #[.val (.ref a)] [(.ref a)])) _
    refine st2 _ ?_
    exact zk
  obtain ⟨fs, hr, hrun, hended, hW, hsame⟩ := X2.leave (v := some (.ref yv)) (fun h => by rw [Bd.returns] at h; cases h)
  refine ⟨_, _, R3 _ ?_, hrun, hended, _, _, rfl, ?_, ⟨_, rfl⟩, hW, hsame.mono (by decide) (by decide)⟩
  · exact retOut X2 hx Bd.returns rfl (Or.inr (Or.inr (Or.inr (Or.inr ⟨rfl, rfl, rfl⟩)))) (hb hby d13_4) hr
  · show Q13 Z a yv h0 n0 _ T2.heap _
    rw [e2]
    exact ⟨rfl, N0, rfl⟩
theorem ef14 (m : MethodId) (x0 : Addr) : entryFrame m #[(.ref x0)] 1 = mkF m 0 #[.val (.ref x0)] [] := by first | (simp [entryFrame, mkF, argsToLocals, Value.category]; done) | rfl
theorem d14_0 : decode prog_25_method_9_code 0 = .ok (.aload_n 0, 1) := by decide +kernel
theorem d14_1 : decode prog_25_method_9_code 1 = .ok (.getfield 19, 3) := by decide +kernel
theorem d14_4 : decode prog_25_method_9_code 4 = .ok (.areturn, 1) := by decide +kernel
def Q14 (Z : State) (a : Addr) (yv : Value) (h0 : Heap) (n0 : Nat) (v : Option Value) (h : Heap) (L : List Loc) : Prop := v = some yv ∧ Fr n0 L ∧ h = h0
set_option maxRecDepth 65536 in
set_option maxHeartbeats 40000000 in
theorem rm14 (l : Launch) (Z : State) (a0 : Array Value) (hw : ∀ d ∈ tables_1, d.before a0 Z = true) (ws : List Jvm.Cond) (a : Addr) (yv : Value) (h0 : Heap) (n0 : Nat) (Z0 : n0 ≤ h0.size) (F_a : Fld Z h0 a "com/example/accesstrail/accesstrail/server/Request" "query" "Ljava/lang/String;" yv) (hr_yv : yv.isRef = true) :
    MetFree l (⟨"com/example/accesstrail/accesstrail/server/Request", "query", "()Ljava/lang/String;"⟩ : MethodName) (head1 (Jvm.Cond.code (⟨"com/example/accesstrail/accesstrail/server/Request", "query", "()Ljava/lang/String;"⟩ : MethodName) prog_25_method_9_code 1 (some (.object "java/lang/String")) :: ws) ({ frames := 0, cells := 0, slots := 0, locals := 0 } : Room)) (fun zza zzU => zza = #[(.ref a)] ∧ Z.Warmed39 zzU.vm ∧ zzU.heap = h0) (fun _ _ _ _ _ => True) (fun _ zzU zzo zzV => ∃ zzv zzL, zzo = .returned zzv ∧ Q14 Z a yv h0 n0 zzv zzV.heap zzL ∧ FrameEnd zzU zzo zzV zzL ({ frames := 0, cells := 0, slots := 0, locals := 0 } : Room).cells ({ frames := 0, cells := 0, slots := 0, locals := 0 } : Room).slots) := by
  refine MetFree.of_bodySF (plainFor_of_name pn_2) hisR ?_
  intro p e s m args below meth c s₁ Bd hml0 hP hK
  obtain ⟨rfl, hZ, hh⟩ := hP
  have hx := Bd.exec
  have hby := Bd.bytes
  have hml : c.maxLocals = 1 := hml0
  have hown : s.vm.findClass "com/example/accesstrail/accesstrail/server/Request" = some m.cls := findClass_of_methodNamed Bd.named
  have hnm := (name_of_methodNamed Bd.named Bd.method).1
  have X0 : Stand p l e ({ frames := 0, cells := 0, slots := 0, locals := 0 } : Room) s m #[(.ref a)] below meth c s₁ [] 0 0 := Stand.of_body Bd
  have e0 : s₁.heap = h0 := by rw [← hh, Bd.state]; rfl
  have N0 := Fr.nil n0
  have R0 : ∀ zt, Steps p.tables e below (s₁.setTop (mkF m 0 #[.val (.ref a)] [])) zt → Steps p.tables e below (s₁.setTop (entryFrame m #[(.ref a)] 1)) zt := fun zt zk => castTop (ef14 m a) zk
  have R1 : ∀ zt, Steps p.tables e below (s₁.setTop (mkF m 1 #[.val (.ref a)] [(.ref a)])) zt → Steps p.tables e below (s₁.setTop (entryFrame m #[(.ref a)] 1)) zt := by
    intro zt zk
    refine R0 zt ?_
    show Steps p.tables e below (s₁.setTop (mkF m 0 #[.val (.ref a)] [])) _
    refine XS.aloadN X0.here hx rfl (hb hby d14_0) rfl rfl ?_
    exact zk
  obtain ⟨T2, X2, e2, st2⟩ := getF X0 hx hZ hown (host := "") (Or.inl (hw _ (List.mem_of_getElem? (i := 78) rfl))) Via.refl e0 F_a (g := (mkF m 1 #[.val (.ref a)] [(.ref a)])) rfl rfl (hb hby d14_1)
  have R3 : ∀ zt, Steps p.tables e below (T2.setTop (mkF m 4 #[.val (.ref a)] [yv])) zt → Steps p.tables e below (s₁.setTop (entryFrame m #[(.ref a)] 1)) zt := by
    intro zt zk
    refine R1 zt ?_
    show Steps p.tables e below (s₁.setTop (mkF m 1 #[.val (.ref a)] [(.ref a)])) _
    refine st2 _ ?_
    exact zk
  obtain ⟨fs, hr, hrun, hended, hW, hsame⟩ := X2.leave (v := some yv) (fun h => by rw [Bd.returns] at h; cases h)
  refine ⟨_, _, R3 _ ?_, hrun, hended, _, _, rfl, ?_, ⟨_, rfl⟩, hW, hsame.mono (by decide) (by decide)⟩
  · exact retOut X2 hx Bd.returns (own_narO hr_yv) (Or.inr (Or.inr (Or.inr (Or.inr ⟨rfl, rfl, hr_yv⟩)))) (hb hby d14_4) hr
  · show Q14 Z a yv h0 n0 _ T2.heap _
    rw [e2]
    exact ⟨rfl, N0, rfl⟩
theorem ef15 (m : MethodId) (x0 : Addr) : entryFrame m #[(.ref x0)] 1 = mkF m 0 #[.val (.ref x0)] [] := by first | (simp [entryFrame, mkF, argsToLocals, Value.category]; done) | rfl
theorem d15_0 : decode prog_25_method_10_code 0 = .ok (.aload_n 0, 1) := by decide +kernel
theorem d15_1 : decode prog_25_method_10_code 1 = .ok (.getfield 22, 3) := by decide +kernel
theorem d15_4 : decode prog_25_method_10_code 4 = .ok (.areturn, 1) := by decide +kernel
def Q15 (Z : State) (a : Addr) (h0 : Heap) (n0 : Nat) (v : Option Value) (h : Heap) (L : List Loc) : Prop := v = some .null ∧ Fr n0 L ∧ h = h0
set_option maxRecDepth 65536 in
set_option maxHeartbeats 40000000 in
theorem rm15 (l : Launch) (Z : State) (a0 : Array Value) (hw : ∀ d ∈ tables_1, d.before a0 Z = true) (ws : List Jvm.Cond) (a : Addr) (h0 : Heap) (n0 : Nat) (Z0 : n0 ≤ h0.size) (F_a : Fld Z h0 a "com/example/accesstrail/accesstrail/server/Request" "fields" "Ljava/util/Map;" .null) :
    MetFree l (⟨"com/example/accesstrail/accesstrail/server/Request", "fields", "()Ljava/util/Map;"⟩ : MethodName) (head1 (Jvm.Cond.code (⟨"com/example/accesstrail/accesstrail/server/Request", "fields", "()Ljava/util/Map;"⟩ : MethodName) prog_25_method_10_code 1 (some (.object "java/util/Map")) :: ws) ({ frames := 0, cells := 0, slots := 0, locals := 0 } : Room)) (fun zza zzU => zza = #[(.ref a)] ∧ Z.Warmed39 zzU.vm ∧ zzU.heap = h0) (fun _ _ _ _ _ => True) (fun _ zzU zzo zzV => ∃ zzv zzL, zzo = .returned zzv ∧ Q15 Z a h0 n0 zzv zzV.heap zzL ∧ FrameEnd zzU zzo zzV zzL ({ frames := 0, cells := 0, slots := 0, locals := 0 } : Room).cells ({ frames := 0, cells := 0, slots := 0, locals := 0 } : Room).slots) := by
  refine MetFree.of_bodySF (plainFor_of_name pn_2) hisR ?_
  intro p e s m args below meth c s₁ Bd hml0 hP hK
  obtain ⟨rfl, hZ, hh⟩ := hP
  have hx := Bd.exec
  have hby := Bd.bytes
  have hml : c.maxLocals = 1 := hml0
  have hown : s.vm.findClass "com/example/accesstrail/accesstrail/server/Request" = some m.cls := findClass_of_methodNamed Bd.named
  have hnm := (name_of_methodNamed Bd.named Bd.method).1
  have X0 : Stand p l e ({ frames := 0, cells := 0, slots := 0, locals := 0 } : Room) s m #[(.ref a)] below meth c s₁ [] 0 0 := Stand.of_body Bd
  have e0 : s₁.heap = h0 := by rw [← hh, Bd.state]; rfl
  have N0 := Fr.nil n0
  have R0 : ∀ zt, Steps p.tables e below (s₁.setTop (mkF m 0 #[.val (.ref a)] [])) zt → Steps p.tables e below (s₁.setTop (entryFrame m #[(.ref a)] 1)) zt := fun zt zk => castTop (ef15 m a) zk
  have R1 : ∀ zt, Steps p.tables e below (s₁.setTop (mkF m 1 #[.val (.ref a)] [(.ref a)])) zt → Steps p.tables e below (s₁.setTop (entryFrame m #[(.ref a)] 1)) zt := by
    intro zt zk
    refine R0 zt ?_
    show Steps p.tables e below (s₁.setTop (mkF m 0 #[.val (.ref a)] [])) _
    refine XS.aloadN X0.here hx rfl (hb hby d15_0) rfl rfl ?_
    exact zk
  obtain ⟨T2, X2, e2, st2⟩ := getF X0 hx hZ hown (host := "") (Or.inl (hw _ (List.mem_of_getElem? (i := 80) rfl))) Via.refl e0 F_a (g := (mkF m 1 #[.val (.ref a)] [(.ref a)])) rfl rfl (hb hby d15_1)
  have R3 : ∀ zt, Steps p.tables e below (T2.setTop (mkF m 4 #[.val (.ref a)] [.null])) zt → Steps p.tables e below (s₁.setTop (entryFrame m #[(.ref a)] 1)) zt := by
    intro zt zk
    refine R1 zt ?_
    show Steps p.tables e below (s₁.setTop (mkF m 1 #[.val (.ref a)] [(.ref a)])) _
    refine st2 _ ?_
    exact zk
  obtain ⟨fs, hr, hrun, hended, hW, hsame⟩ := X2.leave (v := some .null) (fun h => by rw [Bd.returns] at h; cases h)
  refine ⟨_, _, R3 _ ?_, hrun, hended, _, _, rfl, ?_, ⟨_, rfl⟩, hW, hsame.mono (by decide) (by decide)⟩
  · exact retOut X2 hx Bd.returns rfl (Or.inr (Or.inr (Or.inr (Or.inr ⟨rfl, rfl, rfl⟩)))) (hb hby d15_4) hr
  · show Q15 Z a h0 n0 _ T2.heap _
    rw [e2]
    exact ⟨rfl, N0, rfl⟩
theorem ef16 (m : MethodId) (x0 : Addr) : entryFrame m #[(.ref x0)] 1 = mkF m 0 #[.val (.ref x0)] [] := by first | (simp [entryFrame, mkF, argsToLocals, Value.category]; done) | rfl
theorem d16_0 : decode prog_25_method_11_code 0 = .ok (.aload_n 0, 1) := by decide +kernel
theorem d16_1 : decode prog_25_method_11_code 1 = .ok (.getfield 26, 3) := by decide +kernel
theorem d16_4 : decode prog_25_method_11_code 4 = .ok (.areturn, 1) := by decide +kernel
def Q16 (Z : State) (a : Addr) (yv : Value) (h0 : Heap) (n0 : Nat) (v : Option Value) (h : Heap) (L : List Loc) : Prop := v = some yv ∧ Fr n0 L ∧ h = h0
set_option maxRecDepth 65536 in
set_option maxHeartbeats 40000000 in
theorem rm16 (l : Launch) (Z : State) (a0 : Array Value) (hw : ∀ d ∈ tables_1, d.before a0 Z = true) (ws : List Jvm.Cond) (a : Addr) (yv : Value) (h0 : Heap) (n0 : Nat) (Z0 : n0 ≤ h0.size) (F_a : Fld Z h0 a "com/example/accesstrail/accesstrail/server/Request" "body" "[B" yv) (hr_yv : yv.isRef = true) :
    MetFree l (⟨"com/example/accesstrail/accesstrail/server/Request", "body", "()[B"⟩ : MethodName) (head1 (Jvm.Cond.code (⟨"com/example/accesstrail/accesstrail/server/Request", "body", "()[B"⟩ : MethodName) prog_25_method_11_code 1 (some (.array .byte)) :: ws) ({ frames := 0, cells := 0, slots := 0, locals := 0 } : Room)) (fun zza zzU => zza = #[(.ref a)] ∧ Z.Warmed39 zzU.vm ∧ zzU.heap = h0) (fun _ _ _ _ _ => True) (fun _ zzU zzo zzV => ∃ zzv zzL, zzo = .returned zzv ∧ Q16 Z a yv h0 n0 zzv zzV.heap zzL ∧ FrameEnd zzU zzo zzV zzL ({ frames := 0, cells := 0, slots := 0, locals := 0 } : Room).cells ({ frames := 0, cells := 0, slots := 0, locals := 0 } : Room).slots) := by
  refine MetFree.of_bodySF (plainFor_of_name pn_2) hisR ?_
  intro p e s m args below meth c s₁ Bd hml0 hP hK
  obtain ⟨rfl, hZ, hh⟩ := hP
  have hx := Bd.exec
  have hby := Bd.bytes
  have hml : c.maxLocals = 1 := hml0
  have hown : s.vm.findClass "com/example/accesstrail/accesstrail/server/Request" = some m.cls := findClass_of_methodNamed Bd.named
  have hnm := (name_of_methodNamed Bd.named Bd.method).1
  have X0 : Stand p l e ({ frames := 0, cells := 0, slots := 0, locals := 0 } : Room) s m #[(.ref a)] below meth c s₁ [] 0 0 := Stand.of_body Bd
  have e0 : s₁.heap = h0 := by rw [← hh, Bd.state]; rfl
  have N0 := Fr.nil n0
  have R0 : ∀ zt, Steps p.tables e below (s₁.setTop (mkF m 0 #[.val (.ref a)] [])) zt → Steps p.tables e below (s₁.setTop (entryFrame m #[(.ref a)] 1)) zt := fun zt zk => castTop (ef16 m a) zk
  have R1 : ∀ zt, Steps p.tables e below (s₁.setTop (mkF m 1 #[.val (.ref a)] [(.ref a)])) zt → Steps p.tables e below (s₁.setTop (entryFrame m #[(.ref a)] 1)) zt := by
    intro zt zk
    refine R0 zt ?_
    show Steps p.tables e below (s₁.setTop (mkF m 0 #[.val (.ref a)] [])) _
    refine XS.aloadN X0.here hx rfl (hb hby d16_0) rfl rfl ?_
    exact zk
  obtain ⟨T2, X2, e2, st2⟩ := getF X0 hx hZ hown (host := "") (Or.inl (hw _ (List.mem_of_getElem? (i := 82) rfl))) Via.refl e0 F_a (g := (mkF m 1 #[.val (.ref a)] [(.ref a)])) rfl rfl (hb hby d16_1)
  have R3 : ∀ zt, Steps p.tables e below (T2.setTop (mkF m 4 #[.val (.ref a)] [yv])) zt → Steps p.tables e below (s₁.setTop (entryFrame m #[(.ref a)] 1)) zt := by
    intro zt zk
    refine R1 zt ?_
    show Steps p.tables e below (s₁.setTop (mkF m 1 #[.val (.ref a)] [(.ref a)])) _
    refine st2 _ ?_
    exact zk
  obtain ⟨fs, hr, hrun, hended, hW, hsame⟩ := X2.leave (v := some yv) (fun h => by rw [Bd.returns] at h; cases h)
  refine ⟨_, _, R3 _ ?_, hrun, hended, _, _, rfl, ?_, ⟨_, rfl⟩, hW, hsame.mono (by decide) (by decide)⟩
  · exact retOut X2 hx Bd.returns (own_narA hr_yv) (Or.inr (Or.inr (Or.inr (Or.inr ⟨rfl, rfl, hr_yv⟩)))) (hb hby d16_4) hr
  · show Q16 Z a yv h0 n0 _ T2.heap _
    rw [e2]
    exact ⟨rfl, N0, rfl⟩
theorem ef0 (m : MethodId) (x0 : Int32) (x1 : Int32) (x2 : Int32) (x3 : Int32) (x4 : Int32) (x5 : Int32) : entryFrame m #[(.int x0), (.int x1), (.int x2), (.int x3), (.int x4), (.int x5)] maxLocals = mkF m 0 #[.val (.int x0), .val (.int x1), .val (.int x2), .val (.int x3), .val (.int x4), .val (.int x5), .unset, .unset, .unset, .unset, .unset, .unset, .unset, .unset, .unset, .unset, .unset, .unset, .unset] [] := by first | (simp [entryFrame, mkF, argsToLocals, Value.category, maxLocals]; done) | rfl
theorem pn_3 : plainName "com/example/accesstrail/accesstrail/server/HeadWithPinLaw" = true := by first | (simp [plainName, overriddenIn]; done) | decide +kernel
theorem pd_2 : parseMethodDescriptor "([C)V" = some ⟨[(.array .char)], none⟩ := by decide +kernel
theorem pd_3 : parseMethodDescriptor "(Ljava/lang/String;Ljava/lang/String;Ljava/lang/String;Ljava/lang/String;Ljava/util/Map;IZZZ)V" = some ⟨[(.object "java/lang/String"), (.object "java/lang/String"), (.object "java/lang/String"), (.object "java/lang/String"), (.object "java/util/Map"), .int, .boolean, .boolean, .boolean], none⟩ := by decide +kernel
theorem pd_4 : parseMethodDescriptor "([B)Lcom/example/accesstrail/accesstrail/server/Request;" = some ⟨[(.array .byte)], some (.object "com/example/accesstrail/accesstrail/server/Request")⟩ := by decide +kernel
theorem pd_5 : parseMethodDescriptor "()Ljava/lang/String;" = some ⟨[], some (.object "java/lang/String")⟩ := by decide +kernel
theorem pd_6 : parseMethodDescriptor "()Ljava/util/Map;" = some ⟨[], some (.object "java/util/Map")⟩ := by decide +kernel
theorem pd_7 : parseMethodDescriptor "()[B" = some ⟨[], some (.array .byte)⟩ := by decide +kernel
def Q0 (Z : State) (p0 : Int32) (p1 : Int32) (p2 : Int32) (p3 : Int32) (p4 : Int32) (p5 : Int32) (G1 : Int32) (h0 : Heap) (n0 : Nat) (v : Option Value) (h : Heap) (L : List Loc) : Prop := v = some (.int (1 : Int32)) ∧ Fr n0 L
set_option maxRecDepth 65536 in
set_option maxHeartbeats 40000000 in
theorem rm0 (l : Launch) (Z : State) (a0 : Array Value) (hw : ∀ d ∈ tables_1, d.before a0 Z = true) (ws : List Jvm.Cond) (p0 : Int32) (p1 : Int32) (p2 : Int32) (p3 : Int32) (p4 : Int32) (p5 : Int32) (G1 : Int32) (h0 : Heap) (n0 : Nat) (Z0 : n0 ≤ h0.size) (O : Old Z n0 h0) (SCS : Sta Z Z.heap "java/lang/String" "COMPACT_STRINGS" "Z" (.int G1)) (P5 : ¬ (G1 = (0 : Int32))) :
    MetFree l x (head1 (Jvm.Cond.code x code maxLocals ret :: ws) room_1) (fun zza zzU => zza = #[(.int p0), (.int p1), (.int p2), (.int p3), (.int p4), (.int p5)] ∧ Z.Warmed39 zzU.vm ∧ zzU.heap = h0) (fun _ _ _ _ _ => True) (fun _ zzU zzo zzV => ∃ zzv zzL, zzo = .returned zzv ∧ Q0 Z p0 p1 p2 p3 p4 p5 G1 h0 n0 zzv zzV.heap zzL ∧ FrameEnd zzU zzo zzV zzL 40 192) := by
  refine MetFree.of_bodySF (plainFor_of_name pn_3) hisR ?_
  intro p e s m args below meth c s₁ Bd hml0 hP hK
  obtain ⟨rfl, hZ, hh⟩ := hP
  have hx := Bd.exec
  have hby := Bd.bytes
  have hml : c.maxLocals = 19 := hml0
  have hown : s.vm.findClass "com/example/accesstrail/accesstrail/server/HeadWithPinLaw" = some m.cls := findClass_of_methodNamed Bd.named
  have hnm := (name_of_methodNamed Bd.named Bd.method).1
  have X0 : Stand p l e room_1 s m #[(.int p0), (.int p1), (.int p2), (.int p3), (.int p4), (.int p5)] below meth c s₁ [] 0 0 := Stand.of_body Bd
  have e0 : s₁.heap = h0 := by rw [← hh, Bd.state]; rfl
  have N0 := Fr.nil n0
  have R0 : ∀ zt, Steps p.tables e below (s₁.setTop (mkF m 0 #[.val (.int p0), .val (.int p1), .val (.int p2), .val (.int p3), .val (.int p4), .val (.int p5), .unset, .unset, .unset, .unset, .unset, .unset, .unset, .unset, .unset, .unset, .unset, .unset, .unset] [])) zt → Steps p.tables e below (s₁.setTop (entryFrame m #[(.int p0), (.int p1), (.int p2), (.int p3), (.int p4), (.int p5)] maxLocals)) zt := fun zt zk => castTop (ef0 m p0 p1 p2 p3 p4 p5) zk
  obtain ⟨T1, h1, X1, e1, E1, A1, D1, -, st1⟩ := newO X0 hx hZ hown (hw _ (List.mem_of_getElem? (i := 0) rfl)) (hw _ (List.mem_of_getElem? (i := 1) rfl)) (hw _ (List.mem_of_getElem? (i := 2) rfl)) e0 (g := (mkF m 0 #[.val (.int p0), .val (.int p1), .val (.int p2), .val (.int p3), .val (.int p4), .val (.int p5), .unset, .unset, .unset, .unset, .unset, .unset, .unset, .unset, .unset, .unset, .unset, .unset, .unset] [])) rfl (hb hby at_0) (by decide) (by decide)
  obtain ⟨s1, g1⟩ : ∃ z, z = h0.size := ⟨_, rfl⟩
  rw [← g1] at A1 D1 st1
  have ge_s1 : n0 ≤ s1 := by rw [g1]; exact Z0
  have Sz1 := Nat.le_trans Z0 E1.1
  have O := O.ext E1
  have E_s1 := A1
  have F_coder_s1 : Fld Z h1 s1 "java/lang/String" "coder" "B" (.int (0 : Int32)) := D1 (Or.inr (hw _ (List.mem_of_getElem? (i := 27) rfl))) (ty := .byte) (by decide)
  have F_value_s1 : Fld Z h1 s1 "java/lang/String" "value" "[B" .null := D1 (Or.inr (hw _ (List.mem_of_getElem? (i := 29) rfl))) (ty := (.array .byte)) (by decide)
  have R2 : ∀ zt, Steps p.tables e below (T1.setTop (mkF m 5 #[.val (.int p0), .val (.int p1), .val (.int p2), .val (.int p3), .val (.int p4), .val (.int p5), .unset, .unset, .unset, .unset, .unset, .unset, .unset, .unset, .unset, .unset, .unset, .unset, .unset] [(.int (2 : Int32)), (.ref s1), (.ref s1)])) zt → Steps p.tables e below (s₁.setTop (entryFrame m #[(.int p0), (.int p1), (.int p2), (.int p3), (.int p4), (.int p5)] maxLocals)) zt := by
    intro zt zk
    refine R0 zt ?_
    show Steps p.tables e below (s₁.setTop (mkF m 0 #[.val (.int p0), .val (.int p1), .val (.int p2), .val (.int p3), .val (.int p4), .val (.int p5), .unset, .unset, .unset, .unset, .unset, .unset, .unset, .unset, .unset, .unset, .unset, .unset, .unset] [])) _
    refine st1 _ ?_
    show Steps p.tables e below (T1.setTop (mkF m 3 #[.val (.int p0), .val (.int p1), .val (.int p2), .val (.int p3), .val (.int p4), .val (.int p5), .unset, .unset, .unset, .unset, .unset, .unset, .unset, .unset, .unset, .unset, .unset, .unset, .unset] [(.ref s1)])) _
    refine XS.dup X1.here hx rfl (hb hby at_3) rfl rfl ?_
    show Steps p.tables e below (T1.setTop (mkF m 4 #[.val (.int p0), .val (.int p1), .val (.int p2), .val (.int p3), .val (.int p4), .val (.int p5), .unset, .unset, .unset, .unset, .unset, .unset, .unset, .unset, .unset, .unset, .unset, .unset, .unset] [(.ref s1), (.ref s1)])) _
    refine XS.iconst X1.here hx rfl (hb hby at_4) ?_
    exact zk
  obtain ⟨T3, h3, k3, X3, e3, E3, A3, st3⟩ := newP X1 hx hZ (hw _ (List.mem_of_getElem? (i := 3) rfl)) e1 (g := (mkF m 5 #[.val (.int p0), .val (.int p1), .val (.int p2), .val (.int p3), .val (.int p4), .val (.int p5), .unset, .unset, .unset, .unset, .unset, .unset, .unset, .unset, .unset, .unset, .unset, .unset, .unset] [(.int (2 : Int32)), (.ref s1), (.ref s1)])) rfl (hb hby at_5) rfl (by decide) (cap := 2) (by decide) (by decide) (by decide) (by decide)
  obtain ⟨c1, g3⟩ : ∃ z, z = h1.size := ⟨_, rfl⟩
  rw [← g3] at A3 st3
  have ge_c1 : n0 ≤ c1 := by rw [g3]; exact Sz1
  have Sz3 := Nat.le_trans Sz1 E3.1
  have ne_s1_c1 : s1 ≠ c1 := Nat.ne_of_lt (Nat.lt_of_lt_of_le E_s1.lt (Nat.le_of_eq g3.symm))
  have O := O.ext E3
  have E_s1 := E_s1.ext E3
  have F_coder_s1 := F_coder_s1.ext E3
  have F_value_s1 := F_value_s1.ext E3
  have V_c1 : Arv Z h3 c1 k3 .char (2 : Int32) [(.int (0 : Int32)), (.int (0 : Int32))] (.int (0 : Int32)) := (Arv.new A3 (by decide)).pad (pad_rep [] (.int (0 : Int32)) 2)
  have R4 : ∀ zt, Steps p.tables e below (T3.setTop (mkF m 15 #[.val (.int p0), .val (.int p1), .val (.int p2), .val (.int p3), .val (.int p4), .val (.int p5), .unset, .unset, .unset, .unset, .unset, .unset, .unset, .unset, .unset, .unset, .unset, .unset, .unset] [(.int (((p0 &&& (255 : Int32))).toUInt32.toUInt16.toUInt32.toInt32)), (.int (0 : Int32)), (.ref c1), (.ref c1), (.ref s1), (.ref s1)])) zt → Steps p.tables e below (s₁.setTop (entryFrame m #[(.int p0), (.int p1), (.int p2), (.int p3), (.int p4), (.int p5)] maxLocals)) zt := by
    intro zt zk
    refine R2 zt ?_
    show Steps p.tables e below (T1.setTop (mkF m 5 #[.val (.int p0), .val (.int p1), .val (.int p2), .val (.int p3), .val (.int p4), .val (.int p5), .unset, .unset, .unset, .unset, .unset, .unset, .unset, .unset, .unset, .unset, .unset, .unset, .unset] [(.int (2 : Int32)), (.ref s1), (.ref s1)])) _
    refine st3 _ ?_
    show Steps p.tables e below (T3.setTop (mkF m 7 #[.val (.int p0), .val (.int p1), .val (.int p2), .val (.int p3), .val (.int p4), .val (.int p5), .unset, .unset, .unset, .unset, .unset, .unset, .unset, .unset, .unset, .unset, .unset, .unset, .unset] [(.ref c1), (.ref s1), (.ref s1)])) _
    refine XS.dup X3.here hx rfl (hb hby at_7) rfl rfl ?_
    show Steps p.tables e below (T3.setTop (mkF m 8 #[.val (.int p0), .val (.int p1), .val (.int p2), .val (.int p3), .val (.int p4), .val (.int p5), .unset, .unset, .unset, .unset, .unset, .unset, .unset, .unset, .unset, .unset, .unset, .unset, .unset] [(.ref c1), (.ref c1), (.ref s1), (.ref s1)])) _
    refine XS.iconst X3.here hx rfl (hb hby at_8) ?_
    show Steps p.tables e below (T3.setTop (mkF m 9 #[.val (.int p0), .val (.int p1), .val (.int p2), .val (.int p3), .val (.int p4), .val (.int p5), .unset, .unset, .unset, .unset, .unset, .unset, .unset, .unset, .unset, .unset, .unset, .unset, .unset] [(.int (0 : Int32)), (.ref c1), (.ref c1), (.ref s1), (.ref s1)])) _
    refine XS.iloadN X3.here hx rfl (hb hby at_9) rfl ?_
    show Steps p.tables e below (T3.setTop (mkF m 10 #[.val (.int p0), .val (.int p1), .val (.int p2), .val (.int p3), .val (.int p4), .val (.int p5), .unset, .unset, .unset, .unset, .unset, .unset, .unset, .unset, .unset, .unset, .unset, .unset, .unset] [(.int p0), (.int (0 : Int32)), (.ref c1), (.ref c1), (.ref s1), (.ref s1)])) _
    refine XS.sipush X3.here hx rfl (hb hby at_10) ?_
    show Steps p.tables e below (T3.setTop (mkF m 13 #[.val (.int p0), .val (.int p1), .val (.int p2), .val (.int p3), .val (.int p4), .val (.int p5), .unset, .unset, .unset, .unset, .unset, .unset, .unset, .unset, .unset, .unset, .unset, .unset, .unset] [(.int (255 : Int32)), (.int p0), (.int (0 : Int32)), (.ref c1), (.ref c1), (.ref s1), (.ref s1)])) _
    refine XS.iand X3.here hx rfl (hb hby at_13) rfl ?_
    show Steps p.tables e below (T3.setTop (mkF m 14 #[.val (.int p0), .val (.int p1), .val (.int p2), .val (.int p3), .val (.int p4), .val (.int p5), .unset, .unset, .unset, .unset, .unset, .unset, .unset, .unset, .unset, .unset, .unset, .unset, .unset] [(.int (p0 &&& (255 : Int32))), (.int (0 : Int32)), (.ref c1), (.ref c1), (.ref s1), (.ref s1)])) _
    refine XS.i2c X3.here hx rfl (hb hby at_14) rfl ?_
    exact zk
  obtain ⟨cl5, Ar5, Aq5, As5, An5, Ah5, Ag5⟩ := id V_c1
  have hin5 : ¬ ((0 : Int32) < 0 ∨ cl5.slots.size ≤ ((0 : Int32)).toNatClampNeg) := inb_of As5 ⟨by decide, by decide⟩
  obtain ⟨T6, h6, X6, e6, W6, st6⟩ := stC X3 hx hZ e3 Ar5 (j := (0 : Int32)) hin5 (g := (mkF m 15 #[.val (.int p0), .val (.int p1), .val (.int p2), .val (.int p3), .val (.int p4), .val (.int p5), .unset, .unset, .unset, .unset, .unset, .unset, .unset, .unset, .unset, .unset, .unset, .unset, .unset] [(.int (((p0 &&& (255 : Int32))).toUInt32.toUInt16.toUInt32.toInt32)), (.int (0 : Int32)), (.ref c1), (.ref c1), (.ref s1), (.ref s1)])) rfl rfl (hb hby at_15)
  have N6 := Fr.snoc X6 N0 ge_c1
  have Sz6 := Nat.le_trans Sz3 (Keep.of_wr W6).1
  have O := O.wr W6 ge_c1
  have E_s1 := E_s1.wr W6
  have F_coder_s1 := F_coder_s1.other W6 (Or.inl ne_s1_c1)
  have F_value_s1 := F_value_s1.other W6 (Or.inl ne_s1_c1)
  have V_c1 : Arv Z h6 c1 k3 .char (2 : Int32) [(.int (nar .char (((p0 &&& (255 : Int32))).toUInt32.toUInt16.toUInt32.toInt32))), (.int (0 : Int32))] (.int (0 : Int32)) := Arv.set Ar5 Aq5 As5 An5 Ah5 Ag5 (fits_nar_char _) W6 0 rfl (Nat.le_of_ble_eq_true rfl)
  have R7 : ∀ zt, Steps p.tables e below (T6.setTop (mkF m 27 #[.val (.int p0), .val (.int p1), .val (.int p2), .val (.int p3), .val (.int p4), .val (.int p5), .unset, .unset, .unset, .unset, .unset, .unset, .unset, .unset, .unset, .unset, .unset, .unset, .unset] [(.int ((((((p0).toUInt32 >>> ((8 : Int32) &&& 31).toUInt32).toInt32) &&& (255 : Int32))).toUInt32.toUInt16.toUInt32.toInt32)), (.int (1 : Int32)), (.ref c1), (.ref c1), (.ref s1), (.ref s1)])) zt → Steps p.tables e below (s₁.setTop (entryFrame m #[(.int p0), (.int p1), (.int p2), (.int p3), (.int p4), (.int p5)] maxLocals)) zt := by
    intro zt zk
    refine R4 zt ?_
    show Steps p.tables e below (T3.setTop (mkF m 15 #[.val (.int p0), .val (.int p1), .val (.int p2), .val (.int p3), .val (.int p4), .val (.int p5), .unset, .unset, .unset, .unset, .unset, .unset, .unset, .unset, .unset, .unset, .unset, .unset, .unset] [(.int (((p0 &&& (255 : Int32))).toUInt32.toUInt16.toUInt32.toInt32)), (.int (0 : Int32)), (.ref c1), (.ref c1), (.ref s1), (.ref s1)])) _
    refine st6 _ ?_
    show Steps p.tables e below (T6.setTop (mkF m 16 #[.val (.int p0), .val (.int p1), .val (.int p2), .val (.int p3), .val (.int p4), .val (.int p5), .unset, .unset, .unset, .unset, .unset, .unset, .unset, .unset, .unset, .unset, .unset, .unset, .unset] [(.ref c1), (.ref s1), (.ref s1)])) _
    refine XS.dup X6.here hx rfl (hb hby at_16) rfl rfl ?_
    show Steps p.tables e below (T6.setTop (mkF m 17 #[.val (.int p0), .val (.int p1), .val (.int p2), .val (.int p3), .val (.int p4), .val (.int p5), .unset, .unset, .unset, .unset, .unset, .unset, .unset, .unset, .unset, .unset, .unset, .unset, .unset] [(.ref c1), (.ref c1), (.ref s1), (.ref s1)])) _
    refine XS.iconst X6.here hx rfl (hb hby at_17) ?_
    show Steps p.tables e below (T6.setTop (mkF m 18 #[.val (.int p0), .val (.int p1), .val (.int p2), .val (.int p3), .val (.int p4), .val (.int p5), .unset, .unset, .unset, .unset, .unset, .unset, .unset, .unset, .unset, .unset, .unset, .unset, .unset] [(.int (1 : Int32)), (.ref c1), (.ref c1), (.ref s1), (.ref s1)])) _
    refine XS.iloadN X6.here hx rfl (hb hby at_18) rfl ?_
    show Steps p.tables e below (T6.setTop (mkF m 19 #[.val (.int p0), .val (.int p1), .val (.int p2), .val (.int p3), .val (.int p4), .val (.int p5), .unset, .unset, .unset, .unset, .unset, .unset, .unset, .unset, .unset, .unset, .unset, .unset, .unset] [(.int p0), (.int (1 : Int32)), (.ref c1), (.ref c1), (.ref s1), (.ref s1)])) _
    refine XS.bipush X6.here hx rfl (hb hby at_19) ?_
    show Steps p.tables e below (T6.setTop (mkF m 21 #[.val (.int p0), .val (.int p1), .val (.int p2), .val (.int p3), .val (.int p4), .val (.int p5), .unset, .unset, .unset, .unset, .unset, .unset, .unset, .unset, .unset, .unset, .unset, .unset, .unset] [(.int (8 : Int32)), (.int p0), (.int (1 : Int32)), (.ref c1), (.ref c1), (.ref s1), (.ref s1)])) _
    refine XS.iushr X6.here hx rfl (hb hby at_21) rfl ?_
    show Steps p.tables e below (T6.setTop (mkF m 22 #[.val (.int p0), .val (.int p1), .val (.int p2), .val (.int p3), .val (.int p4), .val (.int p5), .unset, .unset, .unset, .unset, .unset, .unset, .unset, .unset, .unset, .unset, .unset, .unset, .unset] [(.int (((p0).toUInt32 >>> ((8 : Int32) &&& 31).toUInt32).toInt32)), (.int (1 : Int32)), (.ref c1), (.ref c1), (.ref s1), (.ref s1)])) _
    refine XS.sipush X6.here hx rfl (hb hby at_22) ?_
    show Steps p.tables e below (T6.setTop (mkF m 25 #[.val (.int p0), .val (.int p1), .val (.int p2), .val (.int p3), .val (.int p4), .val (.int p5), .unset, .unset, .unset, .unset, .unset, .unset, .unset, .unset, .unset, .unset, .unset, .unset, .unset] [(.int (255 : Int32)), (.int (((p0).toUInt32 >>> ((8 : Int32) &&& 31).toUInt32).toInt32)), (.int (1 : Int32)), (.ref c1), (.ref c1), (.ref s1), (.ref s1)])) _
    refine XS.iand X6.here hx rfl (hb hby at_25) rfl ?_
    show Steps p.tables e below (T6.setTop (mkF m 26 #[.val (.int p0), .val (.int p1), .val (.int p2), .val (.int p3), .val (.int p4), .val (.int p5), .unset, .unset, .unset, .unset, .unset, .unset, .unset, .unset, .unset, .unset, .unset, .unset, .unset] [(.int ((((p0).toUInt32 >>> ((8 : Int32) &&& 31).toUInt32).toInt32) &&& (255 : Int32))), (.int (1 : Int32)), (.ref c1), (.ref c1), (.ref s1), (.ref s1)])) _
    refine XS.i2c X6.here hx rfl (hb hby at_26) rfl ?_
    exact zk
  obtain ⟨cl8, Ar8, Aq8, As8, An8, Ah8, Ag8⟩ := id V_c1
  have hin8 : ¬ ((1 : Int32) < 0 ∨ cl8.slots.size ≤ ((1 : Int32)).toNatClampNeg) := inb_of As8 ⟨by decide, by decide⟩
  obtain ⟨T9, h9, X9, e9, W9, st9⟩ := stC X6 hx hZ e6 Ar8 (j := (1 : Int32)) hin8 (g := (mkF m 27 #[.val (.int p0), .val (.int p1), .val (.int p2), .val (.int p3), .val (.int p4), .val (.int p5), .unset, .unset, .unset, .unset, .unset, .unset, .unset, .unset, .unset, .unset, .unset, .unset, .unset] [(.int ((((((p0).toUInt32 >>> ((8 : Int32) &&& 31).toUInt32).toInt32) &&& (255 : Int32))).toUInt32.toUInt16.toUInt32.toInt32)), (.int (1 : Int32)), (.ref c1), (.ref c1), (.ref s1), (.ref s1)])) rfl rfl (hb hby at_27)
  have N9 := Fr.snoc X9 N6 ge_c1
  have Sz9 := Nat.le_trans Sz6 (Keep.of_wr W9).1
  have O := O.wr W9 ge_c1
  have E_s1 := E_s1.wr W9
  have F_coder_s1 := F_coder_s1.other W9 (Or.inl ne_s1_c1)
  have F_value_s1 := F_value_s1.other W9 (Or.inl ne_s1_c1)
  have V_c1 : Arv Z h9 c1 k3 .char (2 : Int32) [(.int (nar .char (((p0 &&& (255 : Int32))).toUInt32.toUInt16.toUInt32.toInt32))), (.int (nar .char ((((((p0).toUInt32 >>> ((8 : Int32) &&& 31).toUInt32).toInt32) &&& (255 : Int32))).toUInt32.toUInt16.toUInt32.toInt32)))] (.int (0 : Int32)) := Arv.set Ar8 Aq8 As8 An8 Ah8 Ag8 (fits_nar_char _) W9 1 rfl (Nat.le_of_ble_eq_true rfl)
  have R10 : ∀ zt, Steps p.tables e below (T9.setTop (mkF m 28 #[.val (.int p0), .val (.int p1), .val (.int p2), .val (.int p3), .val (.int p4), .val (.int p5), .unset, .unset, .unset, .unset, .unset, .unset, .unset, .unset, .unset, .unset, .unset, .unset, .unset] [(.ref c1), (.ref s1), (.ref s1)])) zt → Steps p.tables e below (s₁.setTop (entryFrame m #[(.int p0), (.int p1), (.int p2), (.int p3), (.int p4), (.int p5)] maxLocals)) zt := by
    intro zt zk
    refine R7 zt ?_
    show Steps p.tables e below (T6.setTop (mkF m 27 #[.val (.int p0), .val (.int p1), .val (.int p2), .val (.int p3), .val (.int p4), .val (.int p5), .unset, .unset, .unset, .unset, .unset, .unset, .unset, .unset, .unset, .unset, .unset, .unset, .unset] [(.int ((((((p0).toUInt32 >>> ((8 : Int32) &&& 31).toUInt32).toInt32) &&& (255 : Int32))).toUInt32.toUInt16.toUInt32.toInt32)), (.int (1 : Int32)), (.ref c1), (.ref c1), (.ref s1), (.ref s1)])) _
    refine st9 _ ?_
    exact zk
  have hws := own_hws hw
  have hp11 : ∀ c ∈ ([nar .char (((p0 &&& (255 : Int32))).toUInt32.toUInt16.toUInt32.toInt32), nar .char ((((((p0).toUInt32 >>> ((8 : Int32) &&& 31).toUInt32).toInt32) &&& (255 : Int32))).toUInt32.toUInt16.toUInt32.toInt32)] : List Int32), ¬ c < 0 ∧ ¬ (255 : Int32) < c := (own_all2 (own_ch _) (own_ch _))
  obtain ⟨_, _, ⟨T12, L12, k12, n12⟩, -, X12, ⟨Lc12, hQ12, l12, y12, z12⟩, st12⟩ := X9.specialBack hx (y := (⟨"java/lang/String", "<init>", "([C)V"⟩ : MethodName)) rfl hown (mvT hZ (hw _ (List.mem_of_getElem? (i := 4) rfl))) (mvT hZ (hw _ (List.mem_of_getElem? (i := 5) rfl))) (mvT hZ (hw _ (List.mem_of_getElem? (i := 6) rfl))) (by decide) (StrChars.Road.backV (W := 1) hZ hws (kI := 4) (hw _ (List.mem_of_getElem? (i := 1) rfl)) (cs := ([nar .char (((p0 &&& (255 : Int32))).toUInt32.toUInt16.toUInt32.toInt32), nar .char ((((((p0).toUInt32 >>> ((8 : Int32) &&& 31).toUInt32).toInt32) &&& (255 : Int32))).toUInt32.toUInt16.toUInt32.toInt32)] : List Int32)) (bs := ([nar .char (((p0 &&& (255 : Int32))).toUInt32.toUInt16.toUInt32.toInt32), nar .char ((((((p0).toUInt32 >>> ((8 : Int32) &&& 31).toUInt32).toInt32) &&& (255 : Int32))).toUInt32.toUInt16.toUInt32.toInt32)] : List Int32).map (fun c => c.toInt8.toInt32)) (n := 2) ge_s1 Sz9 E_s1 F_value_s1 F_coder_s1 V_c1 (SCS.ext O.2) P5 rfl rfl (by decide) (by decide) hp11 rfl (by decide) (by decide)) (g := (mkF m 28 #[.val (.int p0), .val (.int p1), .val (.int p2), .val (.int p3), .val (.int p4), .val (.int p5), .unset, .unset, .unset, .unset, .unset, .unset, .unset, .unset, .unset, .unset, .unset, .unset, .unset] [(.ref c1), (.ref s1), (.ref s1)])) rfl (by rw [hml]; rfl) (Steps.refl _) (a := s1) (argsL := [(.ref c1)]) (rest := [(.ref s1)]) (lenOf pd_2 rfl) rfl (by show 2 * 0 + _ ≤ _; exact Nat.le_of_eq rfl) (hb hby at_28) (fun _ _ => ⟨rfl, e9, (by decide : 2 + 1 ≤ _), (by decide : 6 + 2 ≤ _)⟩)
  dsimp only [Pt.U, Pt.locs, Pt.cells, Pt.slots] at X12 l12 y12 z12 st12 hQ12
  rw [y12, z12] at X12
  have X12 : Stand p l e room_1 s m #[(.int p0), (.int p1), (.int p2), (.int p3), (.int p4), (.int p5)] below meth c T12 L12 3 8 := X12
  obtain ⟨rfl, Nq12, K12, E_s1, F_coder_s1, t_s1, kb_s1, tge_s1, tsz_s1, tne_s1, F_value_s1, V_t_s1⟩ := hQ12
  have N12 : Fr n0 L12 := by rw [l12]; exact Fr.app N9 Nq12
  clear l12 y12 z12
  have Sz12 := Nat.le_trans Sz9 K12.1
  have O := O.keep K12 (allS ge_s1 all0)
  have V_c1 := V_c1.keep K12 (ninS ne_s1_c1.symm nin0)
  have R13 : ∀ zt, Steps p.tables e below (T12.setTop (mkF m 33 #[.val (.int p0), .val (.int p1), .val (.int p2), .val (.int p3), .val (.int p4), .val (.int p5), .val (.ref s1), .unset, .unset, .unset, .unset, .unset, .unset, .unset, .unset, .unset, .unset, .unset, .unset] [])) zt → Steps p.tables e below (s₁.setTop (entryFrame m #[(.int p0), (.int p1), (.int p2), (.int p3), (.int p4), (.int p5)] maxLocals)) zt := by
    intro zt zk
    refine R10 zt ?_
    show Steps p.tables e below (T9.setTop (mkF m 28 #[.val (.int p0), .val (.int p1), .val (.int p2), .val (.int p3), .val (.int p4), .val (.int p5), .unset, .unset, .unset, .unset, .unset, .unset, .unset, .unset, .unset, .unset, .unset, .unset, .unset] [(.ref c1), (.ref s1), (.ref s1)])) _
    refine st12.trans ?_
    show Steps p.tables e below (T12.setTop (mkF m 31 #[.val (.int p0), .val (.int p1), .val (.int p2), .val (.int p3), .val (.int p4), .val (.int p5), .unset, .unset, .unset, .unset, .unset, .unset, .unset, .unset, .unset, .unset, .unset, .unset, .unset] [(.ref s1)])) _
    refine XS.astore X12.here hx rfl (hb hby at_31) rfl rfl (l' := #[.val (.int p0), .val (.int p1), .val (.int p2), .val (.int p3), .val (.int p4), .val (.int p5), .val (.ref s1), .unset, .unset, .unset, .unset, .unset, .unset, .unset, .unset, .unset, .unset, .unset, .unset]) rfl ?_
    exact zk
  obtain ⟨T14, h14, X14, e14, E14, A14, D14, -, st14⟩ := newO X12 hx hZ hown (hw _ (List.mem_of_getElem? (i := 0) rfl)) (hw _ (List.mem_of_getElem? (i := 1) rfl)) (hw _ (List.mem_of_getElem? (i := 2) rfl)) rfl (g := (mkF m 33 #[.val (.int p0), .val (.int p1), .val (.int p2), .val (.int p3), .val (.int p4), .val (.int p5), .val (.ref s1), .unset, .unset, .unset, .unset, .unset, .unset, .unset, .unset, .unset, .unset, .unset, .unset] [])) rfl (hb hby at_33) (by decide) (by decide)
  obtain ⟨s2, g14⟩ : ∃ z, z = T12.heap.size := ⟨_, rfl⟩
  rw [← g14] at A14 D14 st14
  have ge_s2 : n0 ≤ s2 := by rw [g14]; exact Sz12
  have Sz14 := Nat.le_trans Sz12 E14.1
  have O := O.ext E14
  have E_s2 := A14
  have F_coder_s2 : Fld Z h14 s2 "java/lang/String" "coder" "B" (.int (0 : Int32)) := D14 (Or.inr (hw _ (List.mem_of_getElem? (i := 27) rfl))) (ty := .byte) (by decide)
  have F_value_s2 : Fld Z h14 s2 "java/lang/String" "value" "[B" .null := D14 (Or.inr (hw _ (List.mem_of_getElem? (i := 29) rfl))) (ty := (.array .byte)) (by decide)
  have R15 : ∀ zt, Steps p.tables e below (T14.setTop (mkF m 38 #[.val (.int p0), .val (.int p1), .val (.int p2), .val (.int p3), .val (.int p4), .val (.int p5), .val (.ref s1), .unset, .unset, .unset, .unset, .unset, .unset, .unset, .unset, .unset, .unset, .unset, .unset] [(.int (2 : Int32)), (.ref s2), (.ref s2)])) zt → Steps p.tables e below (s₁.setTop (entryFrame m #[(.int p0), (.int p1), (.int p2), (.int p3), (.int p4), (.int p5)] maxLocals)) zt := by
    intro zt zk
    refine R13 zt ?_
    show Steps p.tables e below (T12.setTop (mkF m 33 #[.val (.int p0), .val (.int p1), .val (.int p2), .val (.int p3), .val (.int p4), .val (.int p5), .val (.ref s1), .unset, .unset, .unset, .unset, .unset, .unset, .unset, .unset, .unset, .unset, .unset, .unset] [])) _
    refine st14 _ ?_
    show Steps p.tables e below (T14.setTop (mkF m 36 #[.val (.int p0), .val (.int p1), .val (.int p2), .val (.int p3), .val (.int p4), .val (.int p5), .val (.ref s1), .unset, .unset, .unset, .unset, .unset, .unset, .unset, .unset, .unset, .unset, .unset, .unset] [(.ref s2)])) _
    refine XS.dup X14.here hx rfl (hb hby at_36) rfl rfl ?_
    show Steps p.tables e below (T14.setTop (mkF m 37 #[.val (.int p0), .val (.int p1), .val (.int p2), .val (.int p3), .val (.int p4), .val (.int p5), .val (.ref s1), .unset, .unset, .unset, .unset, .unset, .unset, .unset, .unset, .unset, .unset, .unset, .unset] [(.ref s2), (.ref s2)])) _
    refine XS.iconst X14.here hx rfl (hb hby at_37) ?_
    exact zk
  obtain ⟨T16, h16, k16, X16, e16, E16, A16, st16⟩ := newP X14 hx hZ (hw _ (List.mem_of_getElem? (i := 3) rfl)) e14 (g := (mkF m 38 #[.val (.int p0), .val (.int p1), .val (.int p2), .val (.int p3), .val (.int p4), .val (.int p5), .val (.ref s1), .unset, .unset, .unset, .unset, .unset, .unset, .unset, .unset, .unset, .unset, .unset, .unset] [(.int (2 : Int32)), (.ref s2), (.ref s2)])) rfl (hb hby at_38) rfl (by decide) (cap := 2) (by decide) (by decide) (by decide) (by decide)
  obtain ⟨c2, g16⟩ : ∃ z, z = h14.size := ⟨_, rfl⟩
  rw [← g16] at A16 st16
  have ge_c2 : n0 ≤ c2 := by rw [g16]; exact Sz14
  have Sz16 := Nat.le_trans Sz14 E16.1
  have ne_s2_c2 : s2 ≠ c2 := Nat.ne_of_lt (Nat.lt_of_lt_of_le E_s2.lt (Nat.le_of_eq g16.symm))
  have O := O.ext E16
  have E_s2 := E_s2.ext E16
  have F_coder_s2 := F_coder_s2.ext E16
  have F_value_s2 := F_value_s2.ext E16
  have V_c2 : Arv Z h16 c2 k16 .char (2 : Int32) [(.int (0 : Int32)), (.int (0 : Int32))] (.int (0 : Int32)) := (Arv.new A16 (by decide)).pad (pad_rep [] (.int (0 : Int32)) 2)
  have R17 : ∀ zt, Steps p.tables e below (T16.setTop (mkF m 48 #[.val (.int p0), .val (.int p1), .val (.int p2), .val (.int p3), .val (.int p4), .val (.int p5), .val (.ref s1), .unset, .unset, .unset, .unset, .unset, .unset, .unset, .unset, .unset, .unset, .unset, .unset] [(.int (((p1 &&& (255 : Int32))).toUInt32.toUInt16.toUInt32.toInt32)), (.int (0 : Int32)), (.ref c2), (.ref c2), (.ref s2), (.ref s2)])) zt → Steps p.tables e below (s₁.setTop (entryFrame m #[(.int p0), (.int p1), (.int p2), (.int p3), (.int p4), (.int p5)] maxLocals)) zt := by
    intro zt zk
    refine R15 zt ?_
    show Steps p.tables e below (T14.setTop (mkF m 38 #[.val (.int p0), .val (.int p1), .val (.int p2), .val (.int p3), .val (.int p4), .val (.int p5), .val (.ref s1), .unset, .unset, .unset, .unset, .unset, .unset, .unset, .unset, .unset, .unset, .unset, .unset] [(.int (2 : Int32)), (.ref s2), (.ref s2)])) _
    refine st16 _ ?_
    show Steps p.tables e below (T16.setTop (mkF m 40 #[.val (.int p0), .val (.int p1), .val (.int p2), .val (.int p3), .val (.int p4), .val (.int p5), .val (.ref s1), .unset, .unset, .unset, .unset, .unset, .unset, .unset, .unset, .unset, .unset, .unset, .unset] [(.ref c2), (.ref s2), (.ref s2)])) _
    refine XS.dup X16.here hx rfl (hb hby at_40) rfl rfl ?_
    show Steps p.tables e below (T16.setTop (mkF m 41 #[.val (.int p0), .val (.int p1), .val (.int p2), .val (.int p3), .val (.int p4), .val (.int p5), .val (.ref s1), .unset, .unset, .unset, .unset, .unset, .unset, .unset, .unset, .unset, .unset, .unset, .unset] [(.ref c2), (.ref c2), (.ref s2), (.ref s2)])) _
    refine XS.iconst X16.here hx rfl (hb hby at_41) ?_
    show Steps p.tables e below (T16.setTop (mkF m 42 #[.val (.int p0), .val (.int p1), .val (.int p2), .val (.int p3), .val (.int p4), .val (.int p5), .val (.ref s1), .unset, .unset, .unset, .unset, .unset, .unset, .unset, .unset, .unset, .unset, .unset, .unset] [(.int (0 : Int32)), (.ref c2), (.ref c2), (.ref s2), (.ref s2)])) _
    refine XS.iloadN X16.here hx rfl (hb hby at_42) rfl ?_
    show Steps p.tables e below (T16.setTop (mkF m 43 #[.val (.int p0), .val (.int p1), .val (.int p2), .val (.int p3), .val (.int p4), .val (.int p5), .val (.ref s1), .unset, .unset, .unset, .unset, .unset, .unset, .unset, .unset, .unset, .unset, .unset, .unset] [(.int p1), (.int (0 : Int32)), (.ref c2), (.ref c2), (.ref s2), (.ref s2)])) _
    refine XS.sipush X16.here hx rfl (hb hby at_43) ?_
    show Steps p.tables e below (T16.setTop (mkF m 46 #[.val (.int p0), .val (.int p1), .val (.int p2), .val (.int p3), .val (.int p4), .val (.int p5), .val (.ref s1), .unset, .unset, .unset, .unset, .unset, .unset, .unset, .unset, .unset, .unset, .unset, .unset] [(.int (255 : Int32)), (.int p1), (.int (0 : Int32)), (.ref c2), (.ref c2), (.ref s2), (.ref s2)])) _
    refine XS.iand X16.here hx rfl (hb hby at_46) rfl ?_
    show Steps p.tables e below (T16.setTop (mkF m 47 #[.val (.int p0), .val (.int p1), .val (.int p2), .val (.int p3), .val (.int p4), .val (.int p5), .val (.ref s1), .unset, .unset, .unset, .unset, .unset, .unset, .unset, .unset, .unset, .unset, .unset, .unset] [(.int (p1 &&& (255 : Int32))), (.int (0 : Int32)), (.ref c2), (.ref c2), (.ref s2), (.ref s2)])) _
    refine XS.i2c X16.here hx rfl (hb hby at_47) rfl ?_
    exact zk
  obtain ⟨cl18, Ar18, Aq18, As18, An18, Ah18, Ag18⟩ := id V_c2
  have hin18 : ¬ ((0 : Int32) < 0 ∨ cl18.slots.size ≤ ((0 : Int32)).toNatClampNeg) := inb_of As18 ⟨by decide, by decide⟩
  obtain ⟨T19, h19, X19, e19, W19, st19⟩ := stC X16 hx hZ e16 Ar18 (j := (0 : Int32)) hin18 (g := (mkF m 48 #[.val (.int p0), .val (.int p1), .val (.int p2), .val (.int p3), .val (.int p4), .val (.int p5), .val (.ref s1), .unset, .unset, .unset, .unset, .unset, .unset, .unset, .unset, .unset, .unset, .unset, .unset] [(.int (((p1 &&& (255 : Int32))).toUInt32.toUInt16.toUInt32.toInt32)), (.int (0 : Int32)), (.ref c2), (.ref c2), (.ref s2), (.ref s2)])) rfl rfl (hb hby at_48)
  have N19 := Fr.snoc X19 N12 ge_c2
  have Sz19 := Nat.le_trans Sz16 (Keep.of_wr W19).1
  have O := O.wr W19 ge_c2
  have E_s2 := E_s2.wr W19
  have F_coder_s2 := F_coder_s2.other W19 (Or.inl ne_s2_c2)
  have F_value_s2 := F_value_s2.other W19 (Or.inl ne_s2_c2)
  have V_c2 : Arv Z h19 c2 k16 .char (2 : Int32) [(.int (nar .char (((p1 &&& (255 : Int32))).toUInt32.toUInt16.toUInt32.toInt32))), (.int (0 : Int32))] (.int (0 : Int32)) := Arv.set Ar18 Aq18 As18 An18 Ah18 Ag18 (fits_nar_char _) W19 0 rfl (Nat.le_of_ble_eq_true rfl)
  have R20 : ∀ zt, Steps p.tables e below (T19.setTop (mkF m 60 #[.val (.int p0), .val (.int p1), .val (.int p2), .val (.int p3), .val (.int p4), .val (.int p5), .val (.ref s1), .unset, .unset, .unset, .unset, .unset, .unset, .unset, .unset, .unset, .unset, .unset, .unset] [(.int ((((((p1).toUInt32 >>> ((8 : Int32) &&& 31).toUInt32).toInt32) &&& (255 : Int32))).toUInt32.toUInt16.toUInt32.toInt32)), (.int (1 : Int32)), (.ref c2), (.ref c2), (.ref s2), (.ref s2)])) zt → Steps p.tables e below (s₁.setTop (entryFrame m #[(.int p0), (.int p1), (.int p2), (.int p3), (.int p4), (.int p5)] maxLocals)) zt := by
    intro zt zk
    refine R17 zt ?_
    show Steps p.tables e below (T16.setTop (mkF m 48 #[.val (.int p0), .val (.int p1), .val (.int p2), .val (.int p3), .val (.int p4), .val (.int p5), .val (.ref s1), .unset, .unset, .unset, .unset, .unset, .unset, .unset, .unset, .unset, .unset, .unset, .unset] [(.int (((p1 &&& (255 : Int32))).toUInt32.toUInt16.toUInt32.toInt32)), (.int (0 : Int32)), (.ref c2), (.ref c2), (.ref s2), (.ref s2)])) _
    refine st19 _ ?_
    show Steps p.tables e below (T19.setTop (mkF m 49 #[.val (.int p0), .val (.int p1), .val (.int p2), .val (.int p3), .val (.int p4), .val (.int p5), .val (.ref s1), .unset, .unset, .unset, .unset, .unset, .unset, .unset, .unset, .unset, .unset, .unset, .unset] [(.ref c2), (.ref s2), (.ref s2)])) _
    refine XS.dup X19.here hx rfl (hb hby at_49) rfl rfl ?_
    show Steps p.tables e below (T19.setTop (mkF m 50 #[.val (.int p0), .val (.int p1), .val (.int p2), .val (.int p3), .val (.int p4), .val (.int p5), .val (.ref s1), .unset, .unset, .unset, .unset, .unset, .unset, .unset, .unset, .unset, .unset, .unset, .unset] [(.ref c2), (.ref c2), (.ref s2), (.ref s2)])) _
    refine XS.iconst X19.here hx rfl (hb hby at_50) ?_
    show Steps p.tables e below (T19.setTop (mkF m 51 #[.val (.int p0), .val (.int p1), .val (.int p2), .val (.int p3), .val (.int p4), .val (.int p5), .val (.ref s1), .unset, .unset, .unset, .unset, .unset, .unset, .unset, .unset, .unset, .unset, .unset, .unset] [(.int (1 : Int32)), (.ref c2), (.ref c2), (.ref s2), (.ref s2)])) _
    refine XS.iloadN X19.here hx rfl (hb hby at_51) rfl ?_
    show Steps p.tables e below (T19.setTop (mkF m 52 #[.val (.int p0), .val (.int p1), .val (.int p2), .val (.int p3), .val (.int p4), .val (.int p5), .val (.ref s1), .unset, .unset, .unset, .unset, .unset, .unset, .unset, .unset, .unset, .unset, .unset, .unset] [(.int p1), (.int (1 : Int32)), (.ref c2), (.ref c2), (.ref s2), (.ref s2)])) _
    refine XS.bipush X19.here hx rfl (hb hby at_52) ?_
    show Steps p.tables e below (T19.setTop (mkF m 54 #[.val (.int p0), .val (.int p1), .val (.int p2), .val (.int p3), .val (.int p4), .val (.int p5), .val (.ref s1), .unset, .unset, .unset, .unset, .unset, .unset, .unset, .unset, .unset, .unset, .unset, .unset] [(.int (8 : Int32)), (.int p1), (.int (1 : Int32)), (.ref c2), (.ref c2), (.ref s2), (.ref s2)])) _
    refine XS.iushr X19.here hx rfl (hb hby at_54) rfl ?_
    show Steps p.tables e below (T19.setTop (mkF m 55 #[.val (.int p0), .val (.int p1), .val (.int p2), .val (.int p3), .val (.int p4), .val (.int p5), .val (.ref s1), .unset, .unset, .unset, .unset, .unset, .unset, .unset, .unset, .unset, .unset, .unset, .unset] [(.int (((p1).toUInt32 >>> ((8 : Int32) &&& 31).toUInt32).toInt32)), (.int (1 : Int32)), (.ref c2), (.ref c2), (.ref s2), (.ref s2)])) _
    refine XS.sipush X19.here hx rfl (hb hby at_55) ?_
    show Steps p.tables e below (T19.setTop (mkF m 58 #[.val (.int p0), .val (.int p1), .val (.int p2), .val (.int p3), .val (.int p4), .val (.int p5), .val (.ref s1), .unset, .unset, .unset, .unset, .unset, .unset, .unset, .unset, .unset, .unset, .unset, .unset] [(.int (255 : Int32)), (.int (((p1).toUInt32 >>> ((8 : Int32) &&& 31).toUInt32).toInt32)), (.int (1 : Int32)), (.ref c2), (.ref c2), (.ref s2), (.ref s2)])) _
    refine XS.iand X19.here hx rfl (hb hby at_58) rfl ?_
    show Steps p.tables e below (T19.setTop (mkF m 59 #[.val (.int p0), .val (.int p1), .val (.int p2), .val (.int p3), .val (.int p4), .val (.int p5), .val (.ref s1), .unset, .unset, .unset, .unset, .unset, .unset, .unset, .unset, .unset, .unset, .unset, .unset] [(.int ((((p1).toUInt32 >>> ((8 : Int32) &&& 31).toUInt32).toInt32) &&& (255 : Int32))), (.int (1 : Int32)), (.ref c2), (.ref c2), (.ref s2), (.ref s2)])) _
    refine XS.i2c X19.here hx rfl (hb hby at_59) rfl ?_
    exact zk
  obtain ⟨cl21, Ar21, Aq21, As21, An21, Ah21, Ag21⟩ := id V_c2
  have hin21 : ¬ ((1 : Int32) < 0 ∨ cl21.slots.size ≤ ((1 : Int32)).toNatClampNeg) := inb_of As21 ⟨by decide, by decide⟩
  obtain ⟨T22, h22, X22, e22, W22, st22⟩ := stC X19 hx hZ e19 Ar21 (j := (1 : Int32)) hin21 (g := (mkF m 60 #[.val (.int p0), .val (.int p1), .val (.int p2), .val (.int p3), .val (.int p4), .val (.int p5), .val (.ref s1), .unset, .unset, .unset, .unset, .unset, .unset, .unset, .unset, .unset, .unset, .unset, .unset] [(.int ((((((p1).toUInt32 >>> ((8 : Int32) &&& 31).toUInt32).toInt32) &&& (255 : Int32))).toUInt32.toUInt16.toUInt32.toInt32)), (.int (1 : Int32)), (.ref c2), (.ref c2), (.ref s2), (.ref s2)])) rfl rfl (hb hby at_60)
  have N22 := Fr.snoc X22 N19 ge_c2
  have Sz22 := Nat.le_trans Sz19 (Keep.of_wr W22).1
  have O := O.wr W22 ge_c2
  have E_s2 := E_s2.wr W22
  have F_coder_s2 := F_coder_s2.other W22 (Or.inl ne_s2_c2)
  have F_value_s2 := F_value_s2.other W22 (Or.inl ne_s2_c2)
  have V_c2 : Arv Z h22 c2 k16 .char (2 : Int32) [(.int (nar .char (((p1 &&& (255 : Int32))).toUInt32.toUInt16.toUInt32.toInt32))), (.int (nar .char ((((((p1).toUInt32 >>> ((8 : Int32) &&& 31).toUInt32).toInt32) &&& (255 : Int32))).toUInt32.toUInt16.toUInt32.toInt32)))] (.int (0 : Int32)) := Arv.set Ar21 Aq21 As21 An21 Ah21 Ag21 (fits_nar_char _) W22 1 rfl (Nat.le_of_ble_eq_true rfl)
  have R23 : ∀ zt, Steps p.tables e below (T22.setTop (mkF m 61 #[.val (.int p0), .val (.int p1), .val (.int p2), .val (.int p3), .val (.int p4), .val (.int p5), .val (.ref s1), .unset, .unset, .unset, .unset, .unset, .unset, .unset, .unset, .unset, .unset, .unset, .unset] [(.ref c2), (.ref s2), (.ref s2)])) zt → Steps p.tables e below (s₁.setTop (entryFrame m #[(.int p0), (.int p1), (.int p2), (.int p3), (.int p4), (.int p5)] maxLocals)) zt := by
    intro zt zk
    refine R20 zt ?_
    show Steps p.tables e below (T19.setTop (mkF m 60 #[.val (.int p0), .val (.int p1), .val (.int p2), .val (.int p3), .val (.int p4), .val (.int p5), .val (.ref s1), .unset, .unset, .unset, .unset, .unset, .unset, .unset, .unset, .unset, .unset, .unset, .unset] [(.int ((((((p1).toUInt32 >>> ((8 : Int32) &&& 31).toUInt32).toInt32) &&& (255 : Int32))).toUInt32.toUInt16.toUInt32.toInt32)), (.int (1 : Int32)), (.ref c2), (.ref c2), (.ref s2), (.ref s2)])) _
    refine st22 _ ?_
    exact zk
  have hp24 : ∀ c ∈ ([nar .char (((p1 &&& (255 : Int32))).toUInt32.toUInt16.toUInt32.toInt32), nar .char ((((((p1).toUInt32 >>> ((8 : Int32) &&& 31).toUInt32).toInt32) &&& (255 : Int32))).toUInt32.toUInt16.toUInt32.toInt32)] : List Int32), ¬ c < 0 ∧ ¬ (255 : Int32) < c := (own_all2 (own_ch _) (own_ch _))
  obtain ⟨_, _, ⟨T25, L25, k25, n25⟩, -, X25, ⟨Lc25, hQ25, l25, y25, z25⟩, st25⟩ := X22.specialBack hx (y := (⟨"java/lang/String", "<init>", "([C)V"⟩ : MethodName)) rfl hown (mvT hZ (hw _ (List.mem_of_getElem? (i := 4) rfl))) (mvT hZ (hw _ (List.mem_of_getElem? (i := 5) rfl))) (mvT hZ (hw _ (List.mem_of_getElem? (i := 6) rfl))) (by decide) (StrChars.Road.backV (W := 1) hZ hws (kI := 4) (hw _ (List.mem_of_getElem? (i := 1) rfl)) (cs := ([nar .char (((p1 &&& (255 : Int32))).toUInt32.toUInt16.toUInt32.toInt32), nar .char ((((((p1).toUInt32 >>> ((8 : Int32) &&& 31).toUInt32).toInt32) &&& (255 : Int32))).toUInt32.toUInt16.toUInt32.toInt32)] : List Int32)) (bs := ([nar .char (((p1 &&& (255 : Int32))).toUInt32.toUInt16.toUInt32.toInt32), nar .char ((((((p1).toUInt32 >>> ((8 : Int32) &&& 31).toUInt32).toInt32) &&& (255 : Int32))).toUInt32.toUInt16.toUInt32.toInt32)] : List Int32).map (fun c => c.toInt8.toInt32)) (n := 2) ge_s2 Sz22 E_s2 F_value_s2 F_coder_s2 V_c2 (SCS.ext O.2) P5 rfl rfl (by decide) (by decide) hp24 rfl (by decide) (by decide)) (g := (mkF m 61 #[.val (.int p0), .val (.int p1), .val (.int p2), .val (.int p3), .val (.int p4), .val (.int p5), .val (.ref s1), .unset, .unset, .unset, .unset, .unset, .unset, .unset, .unset, .unset, .unset, .unset, .unset] [(.ref c2), (.ref s2), (.ref s2)])) rfl (by rw [hml]; rfl) (Steps.refl _) (a := s2) (argsL := [(.ref c2)]) (rest := [(.ref s2)]) (lenOf pd_2 rfl) rfl (by show 2 * 0 + _ ≤ _; exact Nat.le_of_eq rfl) (hb hby at_61) (fun _ _ => ⟨rfl, e22, (by decide : 5 + 1 ≤ _), (by decide : 14 + 2 ≤ _)⟩)
  dsimp only [Pt.U, Pt.locs, Pt.cells, Pt.slots] at X25 l25 y25 z25 st25 hQ25
  rw [y25, z25] at X25
  have X25 : Stand p l e room_1 s m #[(.int p0), (.int p1), (.int p2), (.int p3), (.int p4), (.int p5)] below meth c T25 L25 6 16 := X25
  obtain ⟨rfl, Nq25, K25, E_s2, F_coder_s2, t_s2, kb_s2, tge_s2, tsz_s2, tne_s2, F_value_s2, V_t_s2⟩ := hQ25
  have N25 : Fr n0 L25 := by rw [l25]; exact Fr.app N22 Nq25
  clear l25 y25 z25
  have Sz25 := Nat.le_trans Sz22 K25.1
  have O := O.keep K25 (allS ge_s2 all0)
  have V_c2 := V_c2.keep K25 (ninS ne_s2_c2.symm nin0)
  have R26 : ∀ zt, Steps p.tables e below (T25.setTop (mkF m 66 #[.val (.int p0), .val (.int p1), .val (.int p2), .val (.int p3), .val (.int p4), .val (.int p5), .val (.ref s1), .val (.ref s2), .unset, .unset, .unset, .unset, .unset, .unset, .unset, .unset, .unset, .unset, .unset] [])) zt → Steps p.tables e below (s₁.setTop (entryFrame m #[(.int p0), (.int p1), (.int p2), (.int p3), (.int p4), (.int p5)] maxLocals)) zt := by
    intro zt zk
    refine R23 zt ?_
    show Steps p.tables e below (T22.setTop (mkF m 61 #[.val (.int p0), .val (.int p1), .val (.int p2), .val (.int p3), .val (.int p4), .val (.int p5), .val (.ref s1), .unset, .unset, .unset, .unset, .unset, .unset, .unset, .unset, .unset, .unset, .unset, .unset] [(.ref c2), (.ref s2), (.ref s2)])) _
    refine st25.trans ?_
    show Steps p.tables e below (T25.setTop (mkF m 64 #[.val (.int p0), .val (.int p1), .val (.int p2), .val (.int p3), .val (.int p4), .val (.int p5), .val (.ref s1), .unset, .unset, .unset, .unset, .unset, .unset, .unset, .unset, .unset, .unset, .unset, .unset] [(.ref s2)])) _
    refine XS.astore X25.here hx rfl (hb hby at_64) rfl rfl (l' := #[.val (.int p0), .val (.int p1), .val (.int p2), .val (.int p3), .val (.int p4), .val (.int p5), .val (.ref s1), .val (.ref s2), .unset, .unset, .unset, .unset, .unset, .unset, .unset, .unset, .unset, .unset, .unset]) rfl ?_
    exact zk
  obtain ⟨T27, h27, X27, e27, E27, A27, D27, -, st27⟩ := newO X25 hx hZ hown (hw _ (List.mem_of_getElem? (i := 0) rfl)) (hw _ (List.mem_of_getElem? (i := 1) rfl)) (hw _ (List.mem_of_getElem? (i := 2) rfl)) rfl (g := (mkF m 66 #[.val (.int p0), .val (.int p1), .val (.int p2), .val (.int p3), .val (.int p4), .val (.int p5), .val (.ref s1), .val (.ref s2), .unset, .unset, .unset, .unset, .unset, .unset, .unset, .unset, .unset, .unset, .unset] [])) rfl (hb hby at_66) (by decide) (by decide)
  obtain ⟨s3, g27⟩ : ∃ z, z = T25.heap.size := ⟨_, rfl⟩
  rw [← g27] at A27 D27 st27
  have ge_s3 : n0 ≤ s3 := by rw [g27]; exact Sz25
  have Sz27 := Nat.le_trans Sz25 E27.1
  have O := O.ext E27
  have E_s3 := A27
  have F_coder_s3 : Fld Z h27 s3 "java/lang/String" "coder" "B" (.int (0 : Int32)) := D27 (Or.inr (hw _ (List.mem_of_getElem? (i := 27) rfl))) (ty := .byte) (by decide)
  have F_value_s3 : Fld Z h27 s3 "java/lang/String" "value" "[B" .null := D27 (Or.inr (hw _ (List.mem_of_getElem? (i := 29) rfl))) (ty := (.array .byte)) (by decide)
  have R28 : ∀ zt, Steps p.tables e below (T27.setTop (mkF m 71 #[.val (.int p0), .val (.int p1), .val (.int p2), .val (.int p3), .val (.int p4), .val (.int p5), .val (.ref s1), .val (.ref s2), .unset, .unset, .unset, .unset, .unset, .unset, .unset, .unset, .unset, .unset, .unset] [(.int (2 : Int32)), (.ref s3), (.ref s3)])) zt → Steps p.tables e below (s₁.setTop (entryFrame m #[(.int p0), (.int p1), (.int p2), (.int p3), (.int p4), (.int p5)] maxLocals)) zt := by
    intro zt zk
    refine R26 zt ?_
    show Steps p.tables e below (T25.setTop (mkF m 66 #[.val (.int p0), .val (.int p1), .val (.int p2), .val (.int p3), .val (.int p4), .val (.int p5), .val (.ref s1), .val (.ref s2), .unset, .unset, .unset, .unset, .unset, .unset, .unset, .unset, .unset, .unset, .unset] [])) _
    refine st27 _ ?_
    show Steps p.tables e below (T27.setTop (mkF m 69 #[.val (.int p0), .val (.int p1), .val (.int p2), .val (.int p3), .val (.int p4), .val (.int p5), .val (.ref s1), .val (.ref s2), .unset, .unset, .unset, .unset, .unset, .unset, .unset, .unset, .unset, .unset, .unset] [(.ref s3)])) _
    refine XS.dup X27.here hx rfl (hb hby at_69) rfl rfl ?_
    show Steps p.tables e below (T27.setTop (mkF m 70 #[.val (.int p0), .val (.int p1), .val (.int p2), .val (.int p3), .val (.int p4), .val (.int p5), .val (.ref s1), .val (.ref s2), .unset, .unset, .unset, .unset, .unset, .unset, .unset, .unset, .unset, .unset, .unset] [(.ref s3), (.ref s3)])) _
    refine XS.iconst X27.here hx rfl (hb hby at_70) ?_
    exact zk
  obtain ⟨T29, h29, k29, X29, e29, E29, A29, st29⟩ := newP X27 hx hZ (hw _ (List.mem_of_getElem? (i := 3) rfl)) e27 (g := (mkF m 71 #[.val (.int p0), .val (.int p1), .val (.int p2), .val (.int p3), .val (.int p4), .val (.int p5), .val (.ref s1), .val (.ref s2), .unset, .unset, .unset, .unset, .unset, .unset, .unset, .unset, .unset, .unset, .unset] [(.int (2 : Int32)), (.ref s3), (.ref s3)])) rfl (hb hby at_71) rfl (by decide) (cap := 2) (by decide) (by decide) (by decide) (by decide)
  obtain ⟨c3, g29⟩ : ∃ z, z = h27.size := ⟨_, rfl⟩
  rw [← g29] at A29 st29
  have ge_c3 : n0 ≤ c3 := by rw [g29]; exact Sz27
  have Sz29 := Nat.le_trans Sz27 E29.1
  have ne_s3_c3 : s3 ≠ c3 := Nat.ne_of_lt (Nat.lt_of_lt_of_le E_s3.lt (Nat.le_of_eq g29.symm))
  have O := O.ext E29
  have E_s3 := E_s3.ext E29
  have F_coder_s3 := F_coder_s3.ext E29
  have F_value_s3 := F_value_s3.ext E29
  have V_c3 : Arv Z h29 c3 k29 .char (2 : Int32) [(.int (0 : Int32)), (.int (0 : Int32))] (.int (0 : Int32)) := (Arv.new A29 (by decide)).pad (pad_rep [] (.int (0 : Int32)) 2)
  have R30 : ∀ zt, Steps p.tables e below (T29.setTop (mkF m 84 #[.val (.int p0), .val (.int p1), .val (.int p2), .val (.int p3), .val (.int p4), .val (.int p5), .val (.ref s1), .val (.ref s2), .unset, .unset, .unset, .unset, .unset, .unset, .unset, .unset, .unset, .unset, .unset] [(.int ((((((p1).toUInt32 >>> ((16 : Int32) &&& 31).toUInt32).toInt32) &&& (255 : Int32))).toUInt32.toUInt16.toUInt32.toInt32)), (.int (0 : Int32)), (.ref c3), (.ref c3), (.ref s3), (.ref s3)])) zt → Steps p.tables e below (s₁.setTop (entryFrame m #[(.int p0), (.int p1), (.int p2), (.int p3), (.int p4), (.int p5)] maxLocals)) zt := by
    intro zt zk
    refine R28 zt ?_
    show Steps p.tables e below (T27.setTop (mkF m 71 #[.val (.int p0), .val (.int p1), .val (.int p2), .val (.int p3), .val (.int p4), .val (.int p5), .val (.ref s1), .val (.ref s2), .unset, .unset, .unset, .unset, .unset, .unset, .unset, .unset, .unset, .unset, .unset] [(.int (2 : Int32)), (.ref s3), (.ref s3)])) _
    refine st29 _ ?_
    show Steps p.tables e below (T29.setTop (mkF m 73 #[.val (.int p0), .val (.int p1), .val (.int p2), .val (.int p3), .val (.int p4), .val (.int p5), .val (.ref s1), .val (.ref s2), .unset, .unset, .unset, .unset, .unset, .unset, .unset, .unset, .unset, .unset, .unset] [(.ref c3), (.ref s3), (.ref s3)])) _
    refine XS.dup X29.here hx rfl (hb hby at_73) rfl rfl ?_
    show Steps p.tables e below (T29.setTop (mkF m 74 #[.val (.int p0), .val (.int p1), .val (.int p2), .val (.int p3), .val (.int p4), .val (.int p5), .val (.ref s1), .val (.ref s2), .unset, .unset, .unset, .unset, .unset, .unset, .unset, .unset, .unset, .unset, .unset] [(.ref c3), (.ref c3), (.ref s3), (.ref s3)])) _
    refine XS.iconst X29.here hx rfl (hb hby at_74) ?_
    show Steps p.tables e below (T29.setTop (mkF m 75 #[.val (.int p0), .val (.int p1), .val (.int p2), .val (.int p3), .val (.int p4), .val (.int p5), .val (.ref s1), .val (.ref s2), .unset, .unset, .unset, .unset, .unset, .unset, .unset, .unset, .unset, .unset, .unset] [(.int (0 : Int32)), (.ref c3), (.ref c3), (.ref s3), (.ref s3)])) _
    refine XS.iloadN X29.here hx rfl (hb hby at_75) rfl ?_
    show Steps p.tables e below (T29.setTop (mkF m 76 #[.val (.int p0), .val (.int p1), .val (.int p2), .val (.int p3), .val (.int p4), .val (.int p5), .val (.ref s1), .val (.ref s2), .unset, .unset, .unset, .unset, .unset, .unset, .unset, .unset, .unset, .unset, .unset] [(.int p1), (.int (0 : Int32)), (.ref c3), (.ref c3), (.ref s3), (.ref s3)])) _
    refine XS.bipush X29.here hx rfl (hb hby at_76) ?_
    show Steps p.tables e below (T29.setTop (mkF m 78 #[.val (.int p0), .val (.int p1), .val (.int p2), .val (.int p3), .val (.int p4), .val (.int p5), .val (.ref s1), .val (.ref s2), .unset, .unset, .unset, .unset, .unset, .unset, .unset, .unset, .unset, .unset, .unset] [(.int (16 : Int32)), (.int p1), (.int (0 : Int32)), (.ref c3), (.ref c3), (.ref s3), (.ref s3)])) _
    refine XS.iushr X29.here hx rfl (hb hby at_78) rfl ?_
    show Steps p.tables e below (T29.setTop (mkF m 79 #[.val (.int p0), .val (.int p1), .val (.int p2), .val (.int p3), .val (.int p4), .val (.int p5), .val (.ref s1), .val (.ref s2), .unset, .unset, .unset, .unset, .unset, .unset, .unset, .unset, .unset, .unset, .unset] [(.int (((p1).toUInt32 >>> ((16 : Int32) &&& 31).toUInt32).toInt32)), (.int (0 : Int32)), (.ref c3), (.ref c3), (.ref s3), (.ref s3)])) _
    refine XS.sipush X29.here hx rfl (hb hby at_79) ?_
    show Steps p.tables e below (T29.setTop (mkF m 82 #[.val (.int p0), .val (.int p1), .val (.int p2), .val (.int p3), .val (.int p4), .val (.int p5), .val (.ref s1), .val (.ref s2), .unset, .unset, .unset, .unset, .unset, .unset, .unset, .unset, .unset, .unset, .unset] [(.int (255 : Int32)), (.int (((p1).toUInt32 >>> ((16 : Int32) &&& 31).toUInt32).toInt32)), (.int (0 : Int32)), (.ref c3), (.ref c3), (.ref s3), (.ref s3)])) _
    refine XS.iand X29.here hx rfl (hb hby at_82) rfl ?_
    show Steps p.tables e below (T29.setTop (mkF m 83 #[.val (.int p0), .val (.int p1), .val (.int p2), .val (.int p3), .val (.int p4), .val (.int p5), .val (.ref s1), .val (.ref s2), .unset, .unset, .unset, .unset, .unset, .unset, .unset, .unset, .unset, .unset, .unset] [(.int ((((p1).toUInt32 >>> ((16 : Int32) &&& 31).toUInt32).toInt32) &&& (255 : Int32))), (.int (0 : Int32)), (.ref c3), (.ref c3), (.ref s3), (.ref s3)])) _
    refine XS.i2c X29.here hx rfl (hb hby at_83) rfl ?_
    exact zk
  obtain ⟨cl31, Ar31, Aq31, As31, An31, Ah31, Ag31⟩ := id V_c3
  have hin31 : ¬ ((0 : Int32) < 0 ∨ cl31.slots.size ≤ ((0 : Int32)).toNatClampNeg) := inb_of As31 ⟨by decide, by decide⟩
  obtain ⟨T32, h32, X32, e32, W32, st32⟩ := stC X29 hx hZ e29 Ar31 (j := (0 : Int32)) hin31 (g := (mkF m 84 #[.val (.int p0), .val (.int p1), .val (.int p2), .val (.int p3), .val (.int p4), .val (.int p5), .val (.ref s1), .val (.ref s2), .unset, .unset, .unset, .unset, .unset, .unset, .unset, .unset, .unset, .unset, .unset] [(.int ((((((p1).toUInt32 >>> ((16 : Int32) &&& 31).toUInt32).toInt32) &&& (255 : Int32))).toUInt32.toUInt16.toUInt32.toInt32)), (.int (0 : Int32)), (.ref c3), (.ref c3), (.ref s3), (.ref s3)])) rfl rfl (hb hby at_84)
  have N32 := Fr.snoc X32 N25 ge_c3
  have Sz32 := Nat.le_trans Sz29 (Keep.of_wr W32).1
  have O := O.wr W32 ge_c3
  have E_s3 := E_s3.wr W32
  have F_coder_s3 := F_coder_s3.other W32 (Or.inl ne_s3_c3)
  have F_value_s3 := F_value_s3.other W32 (Or.inl ne_s3_c3)
  have V_c3 : Arv Z h32 c3 k29 .char (2 : Int32) [(.int (nar .char ((((((p1).toUInt32 >>> ((16 : Int32) &&& 31).toUInt32).toInt32) &&& (255 : Int32))).toUInt32.toUInt16.toUInt32.toInt32))), (.int (0 : Int32))] (.int (0 : Int32)) := Arv.set Ar31 Aq31 As31 An31 Ah31 Ag31 (fits_nar_char _) W32 0 rfl (Nat.le_of_ble_eq_true rfl)
  have R33 : ∀ zt, Steps p.tables e below (T32.setTop (mkF m 96 #[.val (.int p0), .val (.int p1), .val (.int p2), .val (.int p3), .val (.int p4), .val (.int p5), .val (.ref s1), .val (.ref s2), .unset, .unset, .unset, .unset, .unset, .unset, .unset, .unset, .unset, .unset, .unset] [(.int ((((((p1).toUInt32 >>> ((24 : Int32) &&& 31).toUInt32).toInt32) &&& (255 : Int32))).toUInt32.toUInt16.toUInt32.toInt32)), (.int (1 : Int32)), (.ref c3), (.ref c3), (.ref s3), (.ref s3)])) zt → Steps p.tables e below (s₁.setTop (entryFrame m #[(.int p0), (.int p1), (.int p2), (.int p3), (.int p4), (.int p5)] maxLocals)) zt := by
    intro zt zk
    refine R30 zt ?_
    show Steps p.tables e below (T29.setTop (mkF m 84 #[.val (.int p0), .val (.int p1), .val (.int p2), .val (.int p3), .val (.int p4), .val (.int p5), .val (.ref s1), .val (.ref s2), .unset, .unset, .unset, .unset, .unset, .unset, .unset, .unset, .unset, .unset, .unset] [(.int ((((((p1).toUInt32 >>> ((16 : Int32) &&& 31).toUInt32).toInt32) &&& (255 : Int32))).toUInt32.toUInt16.toUInt32.toInt32)), (.int (0 : Int32)), (.ref c3), (.ref c3), (.ref s3), (.ref s3)])) _
    refine st32 _ ?_
    show Steps p.tables e below (T32.setTop (mkF m 85 #[.val (.int p0), .val (.int p1), .val (.int p2), .val (.int p3), .val (.int p4), .val (.int p5), .val (.ref s1), .val (.ref s2), .unset, .unset, .unset, .unset, .unset, .unset, .unset, .unset, .unset, .unset, .unset] [(.ref c3), (.ref s3), (.ref s3)])) _
    refine XS.dup X32.here hx rfl (hb hby at_85) rfl rfl ?_
    show Steps p.tables e below (T32.setTop (mkF m 86 #[.val (.int p0), .val (.int p1), .val (.int p2), .val (.int p3), .val (.int p4), .val (.int p5), .val (.ref s1), .val (.ref s2), .unset, .unset, .unset, .unset, .unset, .unset, .unset, .unset, .unset, .unset, .unset] [(.ref c3), (.ref c3), (.ref s3), (.ref s3)])) _
    refine XS.iconst X32.here hx rfl (hb hby at_86) ?_
    show Steps p.tables e below (T32.setTop (mkF m 87 #[.val (.int p0), .val (.int p1), .val (.int p2), .val (.int p3), .val (.int p4), .val (.int p5), .val (.ref s1), .val (.ref s2), .unset, .unset, .unset, .unset, .unset, .unset, .unset, .unset, .unset, .unset, .unset] [(.int (1 : Int32)), (.ref c3), (.ref c3), (.ref s3), (.ref s3)])) _
    refine XS.iloadN X32.here hx rfl (hb hby at_87) rfl ?_
    show Steps p.tables e below (T32.setTop (mkF m 88 #[.val (.int p0), .val (.int p1), .val (.int p2), .val (.int p3), .val (.int p4), .val (.int p5), .val (.ref s1), .val (.ref s2), .unset, .unset, .unset, .unset, .unset, .unset, .unset, .unset, .unset, .unset, .unset] [(.int p1), (.int (1 : Int32)), (.ref c3), (.ref c3), (.ref s3), (.ref s3)])) _
    refine XS.bipush X32.here hx rfl (hb hby at_88) ?_
    show Steps p.tables e below (T32.setTop (mkF m 90 #[.val (.int p0), .val (.int p1), .val (.int p2), .val (.int p3), .val (.int p4), .val (.int p5), .val (.ref s1), .val (.ref s2), .unset, .unset, .unset, .unset, .unset, .unset, .unset, .unset, .unset, .unset, .unset] [(.int (24 : Int32)), (.int p1), (.int (1 : Int32)), (.ref c3), (.ref c3), (.ref s3), (.ref s3)])) _
    refine XS.iushr X32.here hx rfl (hb hby at_90) rfl ?_
    show Steps p.tables e below (T32.setTop (mkF m 91 #[.val (.int p0), .val (.int p1), .val (.int p2), .val (.int p3), .val (.int p4), .val (.int p5), .val (.ref s1), .val (.ref s2), .unset, .unset, .unset, .unset, .unset, .unset, .unset, .unset, .unset, .unset, .unset] [(.int (((p1).toUInt32 >>> ((24 : Int32) &&& 31).toUInt32).toInt32)), (.int (1 : Int32)), (.ref c3), (.ref c3), (.ref s3), (.ref s3)])) _
    refine XS.sipush X32.here hx rfl (hb hby at_91) ?_
    show Steps p.tables e below (T32.setTop (mkF m 94 #[.val (.int p0), .val (.int p1), .val (.int p2), .val (.int p3), .val (.int p4), .val (.int p5), .val (.ref s1), .val (.ref s2), .unset, .unset, .unset, .unset, .unset, .unset, .unset, .unset, .unset, .unset, .unset] [(.int (255 : Int32)), (.int (((p1).toUInt32 >>> ((24 : Int32) &&& 31).toUInt32).toInt32)), (.int (1 : Int32)), (.ref c3), (.ref c3), (.ref s3), (.ref s3)])) _
    refine XS.iand X32.here hx rfl (hb hby at_94) rfl ?_
    show Steps p.tables e below (T32.setTop (mkF m 95 #[.val (.int p0), .val (.int p1), .val (.int p2), .val (.int p3), .val (.int p4), .val (.int p5), .val (.ref s1), .val (.ref s2), .unset, .unset, .unset, .unset, .unset, .unset, .unset, .unset, .unset, .unset, .unset] [(.int ((((p1).toUInt32 >>> ((24 : Int32) &&& 31).toUInt32).toInt32) &&& (255 : Int32))), (.int (1 : Int32)), (.ref c3), (.ref c3), (.ref s3), (.ref s3)])) _
    refine XS.i2c X32.here hx rfl (hb hby at_95) rfl ?_
    exact zk
  obtain ⟨cl34, Ar34, Aq34, As34, An34, Ah34, Ag34⟩ := id V_c3
  have hin34 : ¬ ((1 : Int32) < 0 ∨ cl34.slots.size ≤ ((1 : Int32)).toNatClampNeg) := inb_of As34 ⟨by decide, by decide⟩
  obtain ⟨T35, h35, X35, e35, W35, st35⟩ := stC X32 hx hZ e32 Ar34 (j := (1 : Int32)) hin34 (g := (mkF m 96 #[.val (.int p0), .val (.int p1), .val (.int p2), .val (.int p3), .val (.int p4), .val (.int p5), .val (.ref s1), .val (.ref s2), .unset, .unset, .unset, .unset, .unset, .unset, .unset, .unset, .unset, .unset, .unset] [(.int ((((((p1).toUInt32 >>> ((24 : Int32) &&& 31).toUInt32).toInt32) &&& (255 : Int32))).toUInt32.toUInt16.toUInt32.toInt32)), (.int (1 : Int32)), (.ref c3), (.ref c3), (.ref s3), (.ref s3)])) rfl rfl (hb hby at_96)
  have N35 := Fr.snoc X35 N32 ge_c3
  have Sz35 := Nat.le_trans Sz32 (Keep.of_wr W35).1
  have O := O.wr W35 ge_c3
  have E_s3 := E_s3.wr W35
  have F_coder_s3 := F_coder_s3.other W35 (Or.inl ne_s3_c3)
  have F_value_s3 := F_value_s3.other W35 (Or.inl ne_s3_c3)
  have V_c3 : Arv Z h35 c3 k29 .char (2 : Int32) [(.int (nar .char ((((((p1).toUInt32 >>> ((16 : Int32) &&& 31).toUInt32).toInt32) &&& (255 : Int32))).toUInt32.toUInt16.toUInt32.toInt32))), (.int (nar .char ((((((p1).toUInt32 >>> ((24 : Int32) &&& 31).toUInt32).toInt32) &&& (255 : Int32))).toUInt32.toUInt16.toUInt32.toInt32)))] (.int (0 : Int32)) := Arv.set Ar34 Aq34 As34 An34 Ah34 Ag34 (fits_nar_char _) W35 1 rfl (Nat.le_of_ble_eq_true rfl)
  have R36 : ∀ zt, Steps p.tables e below (T35.setTop (mkF m 97 #[.val (.int p0), .val (.int p1), .val (.int p2), .val (.int p3), .val (.int p4), .val (.int p5), .val (.ref s1), .val (.ref s2), .unset, .unset, .unset, .unset, .unset, .unset, .unset, .unset, .unset, .unset, .unset] [(.ref c3), (.ref s3), (.ref s3)])) zt → Steps p.tables e below (s₁.setTop (entryFrame m #[(.int p0), (.int p1), (.int p2), (.int p3), (.int p4), (.int p5)] maxLocals)) zt := by
    intro zt zk
    refine R33 zt ?_
    show Steps p.tables e below (T32.setTop (mkF m 96 #[.val (.int p0), .val (.int p1), .val (.int p2), .val (.int p3), .val (.int p4), .val (.int p5), .val (.ref s1), .val (.ref s2), .unset, .unset, .unset, .unset, .unset, .unset, .unset, .unset, .unset, .unset, .unset] [(.int ((((((p1).toUInt32 >>> ((24 : Int32) &&& 31).toUInt32).toInt32) &&& (255 : Int32))).toUInt32.toUInt16.toUInt32.toInt32)), (.int (1 : Int32)), (.ref c3), (.ref c3), (.ref s3), (.ref s3)])) _
    refine st35 _ ?_
    exact zk
  have hp37 : ∀ c ∈ ([nar .char ((((((p1).toUInt32 >>> ((16 : Int32) &&& 31).toUInt32).toInt32) &&& (255 : Int32))).toUInt32.toUInt16.toUInt32.toInt32), nar .char ((((((p1).toUInt32 >>> ((24 : Int32) &&& 31).toUInt32).toInt32) &&& (255 : Int32))).toUInt32.toUInt16.toUInt32.toInt32)] : List Int32), ¬ c < 0 ∧ ¬ (255 : Int32) < c := (own_all2 (own_ch _) (own_ch _))
  obtain ⟨_, _, ⟨T38, L38, k38, n38⟩, -, X38, ⟨Lc38, hQ38, l38, y38, z38⟩, st38⟩ := X35.specialBack hx (y := (⟨"java/lang/String", "<init>", "([C)V"⟩ : MethodName)) rfl hown (mvT hZ (hw _ (List.mem_of_getElem? (i := 4) rfl))) (mvT hZ (hw _ (List.mem_of_getElem? (i := 5) rfl))) (mvT hZ (hw _ (List.mem_of_getElem? (i := 6) rfl))) (by decide) (StrChars.Road.backV (W := 1) hZ hws (kI := 4) (hw _ (List.mem_of_getElem? (i := 1) rfl)) (cs := ([nar .char ((((((p1).toUInt32 >>> ((16 : Int32) &&& 31).toUInt32).toInt32) &&& (255 : Int32))).toUInt32.toUInt16.toUInt32.toInt32), nar .char ((((((p1).toUInt32 >>> ((24 : Int32) &&& 31).toUInt32).toInt32) &&& (255 : Int32))).toUInt32.toUInt16.toUInt32.toInt32)] : List Int32)) (bs := ([nar .char ((((((p1).toUInt32 >>> ((16 : Int32) &&& 31).toUInt32).toInt32) &&& (255 : Int32))).toUInt32.toUInt16.toUInt32.toInt32), nar .char ((((((p1).toUInt32 >>> ((24 : Int32) &&& 31).toUInt32).toInt32) &&& (255 : Int32))).toUInt32.toUInt16.toUInt32.toInt32)] : List Int32).map (fun c => c.toInt8.toInt32)) (n := 2) ge_s3 Sz35 E_s3 F_value_s3 F_coder_s3 V_c3 (SCS.ext O.2) P5 rfl rfl (by decide) (by decide) hp37 rfl (by decide) (by decide)) (g := (mkF m 97 #[.val (.int p0), .val (.int p1), .val (.int p2), .val (.int p3), .val (.int p4), .val (.int p5), .val (.ref s1), .val (.ref s2), .unset, .unset, .unset, .unset, .unset, .unset, .unset, .unset, .unset, .unset, .unset] [(.ref c3), (.ref s3), (.ref s3)])) rfl (by rw [hml]; rfl) (Steps.refl _) (a := s3) (argsL := [(.ref c3)]) (rest := [(.ref s3)]) (lenOf pd_2 rfl) rfl (by show 2 * 0 + _ ≤ _; exact Nat.le_of_eq rfl) (hb hby at_97) (fun _ _ => ⟨rfl, e35, (by decide : 8 + 1 ≤ _), (by decide : 22 + 2 ≤ _)⟩)
  dsimp only [Pt.U, Pt.locs, Pt.cells, Pt.slots] at X38 l38 y38 z38 st38 hQ38
  rw [y38, z38] at X38
  have X38 : Stand p l e room_1 s m #[(.int p0), (.int p1), (.int p2), (.int p3), (.int p4), (.int p5)] below meth c T38 L38 9 24 := X38
  obtain ⟨rfl, Nq38, K38, E_s3, F_coder_s3, t_s3, kb_s3, tge_s3, tsz_s3, tne_s3, F_value_s3, V_t_s3⟩ := hQ38
  have N38 : Fr n0 L38 := by rw [l38]; exact Fr.app N35 Nq38
  clear l38 y38 z38
  have Sz38 := Nat.le_trans Sz35 K38.1
  have O := O.keep K38 (allS ge_s3 all0)
  have V_c3 := V_c3.keep K38 (ninS ne_s3_c3.symm nin0)
  have R39 : ∀ zt, Steps p.tables e below (T38.setTop (mkF m 102 #[.val (.int p0), .val (.int p1), .val (.int p2), .val (.int p3), .val (.int p4), .val (.int p5), .val (.ref s1), .val (.ref s2), .val (.ref s3), .unset, .unset, .unset, .unset, .unset, .unset, .unset, .unset, .unset, .unset] [])) zt → Steps p.tables e below (s₁.setTop (entryFrame m #[(.int p0), (.int p1), (.int p2), (.int p3), (.int p4), (.int p5)] maxLocals)) zt := by
    intro zt zk
    refine R36 zt ?_
    show Steps p.tables e below (T35.setTop (mkF m 97 #[.val (.int p0), .val (.int p1), .val (.int p2), .val (.int p3), .val (.int p4), .val (.int p5), .val (.ref s1), .val (.ref s2), .unset, .unset, .unset, .unset, .unset, .unset, .unset, .unset, .unset, .unset, .unset] [(.ref c3), (.ref s3), (.ref s3)])) _
    refine st38.trans ?_
    show Steps p.tables e below (T38.setTop (mkF m 100 #[.val (.int p0), .val (.int p1), .val (.int p2), .val (.int p3), .val (.int p4), .val (.int p5), .val (.ref s1), .val (.ref s2), .unset, .unset, .unset, .unset, .unset, .unset, .unset, .unset, .unset, .unset, .unset] [(.ref s3)])) _
    refine XS.astore X38.here hx rfl (hb hby at_100) rfl rfl (l' := #[.val (.int p0), .val (.int p1), .val (.int p2), .val (.int p3), .val (.int p4), .val (.int p5), .val (.ref s1), .val (.ref s2), .val (.ref s3), .unset, .unset, .unset, .unset, .unset, .unset, .unset, .unset, .unset, .unset]) rfl ?_
    exact zk
  obtain ⟨T40, h40, X40, e40, E40, A40, D40, -, st40⟩ := newO X38 hx hZ hown (hw _ (List.mem_of_getElem? (i := 0) rfl)) (hw _ (List.mem_of_getElem? (i := 1) rfl)) (hw _ (List.mem_of_getElem? (i := 2) rfl)) rfl (g := (mkF m 102 #[.val (.int p0), .val (.int p1), .val (.int p2), .val (.int p3), .val (.int p4), .val (.int p5), .val (.ref s1), .val (.ref s2), .val (.ref s3), .unset, .unset, .unset, .unset, .unset, .unset, .unset, .unset, .unset, .unset] [])) rfl (hb hby at_102) (by decide) (by decide)
  obtain ⟨s4, g40⟩ : ∃ z, z = T38.heap.size := ⟨_, rfl⟩
  rw [← g40] at A40 D40 st40
  have ge_s4 : n0 ≤ s4 := by rw [g40]; exact Sz38
  have Sz40 := Nat.le_trans Sz38 E40.1
  have O := O.ext E40
  have E_s4 := A40
  have F_coder_s4 : Fld Z h40 s4 "java/lang/String" "coder" "B" (.int (0 : Int32)) := D40 (Or.inr (hw _ (List.mem_of_getElem? (i := 27) rfl))) (ty := .byte) (by decide)
  have F_value_s4 : Fld Z h40 s4 "java/lang/String" "value" "[B" .null := D40 (Or.inr (hw _ (List.mem_of_getElem? (i := 29) rfl))) (ty := (.array .byte)) (by decide)
  have R41 : ∀ zt, Steps p.tables e below (T40.setTop (mkF m 107 #[.val (.int p0), .val (.int p1), .val (.int p2), .val (.int p3), .val (.int p4), .val (.int p5), .val (.ref s1), .val (.ref s2), .val (.ref s3), .unset, .unset, .unset, .unset, .unset, .unset, .unset, .unset, .unset, .unset] [(.int (2 : Int32)), (.ref s4), (.ref s4)])) zt → Steps p.tables e below (s₁.setTop (entryFrame m #[(.int p0), (.int p1), (.int p2), (.int p3), (.int p4), (.int p5)] maxLocals)) zt := by
    intro zt zk
    refine R39 zt ?_
    show Steps p.tables e below (T38.setTop (mkF m 102 #[.val (.int p0), .val (.int p1), .val (.int p2), .val (.int p3), .val (.int p4), .val (.int p5), .val (.ref s1), .val (.ref s2), .val (.ref s3), .unset, .unset, .unset, .unset, .unset, .unset, .unset, .unset, .unset, .unset] [])) _
    refine st40 _ ?_
    show Steps p.tables e below (T40.setTop (mkF m 105 #[.val (.int p0), .val (.int p1), .val (.int p2), .val (.int p3), .val (.int p4), .val (.int p5), .val (.ref s1), .val (.ref s2), .val (.ref s3), .unset, .unset, .unset, .unset, .unset, .unset, .unset, .unset, .unset, .unset] [(.ref s4)])) _
    refine XS.dup X40.here hx rfl (hb hby at_105) rfl rfl ?_
    show Steps p.tables e below (T40.setTop (mkF m 106 #[.val (.int p0), .val (.int p1), .val (.int p2), .val (.int p3), .val (.int p4), .val (.int p5), .val (.ref s1), .val (.ref s2), .val (.ref s3), .unset, .unset, .unset, .unset, .unset, .unset, .unset, .unset, .unset, .unset] [(.ref s4), (.ref s4)])) _
    refine XS.iconst X40.here hx rfl (hb hby at_106) ?_
    exact zk
  obtain ⟨T42, h42, k42, X42, e42, E42, A42, st42⟩ := newP X40 hx hZ (hw _ (List.mem_of_getElem? (i := 3) rfl)) e40 (g := (mkF m 107 #[.val (.int p0), .val (.int p1), .val (.int p2), .val (.int p3), .val (.int p4), .val (.int p5), .val (.ref s1), .val (.ref s2), .val (.ref s3), .unset, .unset, .unset, .unset, .unset, .unset, .unset, .unset, .unset, .unset] [(.int (2 : Int32)), (.ref s4), (.ref s4)])) rfl (hb hby at_107) rfl (by decide) (cap := 2) (by decide) (by decide) (by decide) (by decide)
  obtain ⟨c4, g42⟩ : ∃ z, z = h40.size := ⟨_, rfl⟩
  rw [← g42] at A42 st42
  have ge_c4 : n0 ≤ c4 := by rw [g42]; exact Sz40
  have Sz42 := Nat.le_trans Sz40 E42.1
  have ne_s4_c4 : s4 ≠ c4 := Nat.ne_of_lt (Nat.lt_of_lt_of_le E_s4.lt (Nat.le_of_eq g42.symm))
  have O := O.ext E42
  have E_s4 := E_s4.ext E42
  have F_coder_s4 := F_coder_s4.ext E42
  have F_value_s4 := F_value_s4.ext E42
  have V_c4 : Arv Z h42 c4 k42 .char (2 : Int32) [(.int (0 : Int32)), (.int (0 : Int32))] (.int (0 : Int32)) := (Arv.new A42 (by decide)).pad (pad_rep [] (.int (0 : Int32)) 2)
  have R43 : ∀ zt, Steps p.tables e below (T42.setTop (mkF m 117 #[.val (.int p0), .val (.int p1), .val (.int p2), .val (.int p3), .val (.int p4), .val (.int p5), .val (.ref s1), .val (.ref s2), .val (.ref s3), .unset, .unset, .unset, .unset, .unset, .unset, .unset, .unset, .unset, .unset] [(.int (((p2 &&& (255 : Int32))).toUInt32.toUInt16.toUInt32.toInt32)), (.int (0 : Int32)), (.ref c4), (.ref c4), (.ref s4), (.ref s4)])) zt → Steps p.tables e below (s₁.setTop (entryFrame m #[(.int p0), (.int p1), (.int p2), (.int p3), (.int p4), (.int p5)] maxLocals)) zt := by
    intro zt zk
    refine R41 zt ?_
    show Steps p.tables e below (T40.setTop (mkF m 107 #[.val (.int p0), .val (.int p1), .val (.int p2), .val (.int p3), .val (.int p4), .val (.int p5), .val (.ref s1), .val (.ref s2), .val (.ref s3), .unset, .unset, .unset, .unset, .unset, .unset, .unset, .unset, .unset, .unset] [(.int (2 : Int32)), (.ref s4), (.ref s4)])) _
    refine st42 _ ?_
    show Steps p.tables e below (T42.setTop (mkF m 109 #[.val (.int p0), .val (.int p1), .val (.int p2), .val (.int p3), .val (.int p4), .val (.int p5), .val (.ref s1), .val (.ref s2), .val (.ref s3), .unset, .unset, .unset, .unset, .unset, .unset, .unset, .unset, .unset, .unset] [(.ref c4), (.ref s4), (.ref s4)])) _
    refine XS.dup X42.here hx rfl (hb hby at_109) rfl rfl ?_
    show Steps p.tables e below (T42.setTop (mkF m 110 #[.val (.int p0), .val (.int p1), .val (.int p2), .val (.int p3), .val (.int p4), .val (.int p5), .val (.ref s1), .val (.ref s2), .val (.ref s3), .unset, .unset, .unset, .unset, .unset, .unset, .unset, .unset, .unset, .unset] [(.ref c4), (.ref c4), (.ref s4), (.ref s4)])) _
    refine XS.iconst X42.here hx rfl (hb hby at_110) ?_
    show Steps p.tables e below (T42.setTop (mkF m 111 #[.val (.int p0), .val (.int p1), .val (.int p2), .val (.int p3), .val (.int p4), .val (.int p5), .val (.ref s1), .val (.ref s2), .val (.ref s3), .unset, .unset, .unset, .unset, .unset, .unset, .unset, .unset, .unset, .unset] [(.int (0 : Int32)), (.ref c4), (.ref c4), (.ref s4), (.ref s4)])) _
    refine XS.iloadN X42.here hx rfl (hb hby at_111) rfl ?_
    show Steps p.tables e below (T42.setTop (mkF m 112 #[.val (.int p0), .val (.int p1), .val (.int p2), .val (.int p3), .val (.int p4), .val (.int p5), .val (.ref s1), .val (.ref s2), .val (.ref s3), .unset, .unset, .unset, .unset, .unset, .unset, .unset, .unset, .unset, .unset] [(.int p2), (.int (0 : Int32)), (.ref c4), (.ref c4), (.ref s4), (.ref s4)])) _
    refine XS.sipush X42.here hx rfl (hb hby at_112) ?_
    show Steps p.tables e below (T42.setTop (mkF m 115 #[.val (.int p0), .val (.int p1), .val (.int p2), .val (.int p3), .val (.int p4), .val (.int p5), .val (.ref s1), .val (.ref s2), .val (.ref s3), .unset, .unset, .unset, .unset, .unset, .unset, .unset, .unset, .unset, .unset] [(.int (255 : Int32)), (.int p2), (.int (0 : Int32)), (.ref c4), (.ref c4), (.ref s4), (.ref s4)])) _
    refine XS.iand X42.here hx rfl (hb hby at_115) rfl ?_
    show Steps p.tables e below (T42.setTop (mkF m 116 #[.val (.int p0), .val (.int p1), .val (.int p2), .val (.int p3), .val (.int p4), .val (.int p5), .val (.ref s1), .val (.ref s2), .val (.ref s3), .unset, .unset, .unset, .unset, .unset, .unset, .unset, .unset, .unset, .unset] [(.int (p2 &&& (255 : Int32))), (.int (0 : Int32)), (.ref c4), (.ref c4), (.ref s4), (.ref s4)])) _
    refine XS.i2c X42.here hx rfl (hb hby at_116) rfl ?_
    exact zk
  obtain ⟨cl44, Ar44, Aq44, As44, An44, Ah44, Ag44⟩ := id V_c4
  have hin44 : ¬ ((0 : Int32) < 0 ∨ cl44.slots.size ≤ ((0 : Int32)).toNatClampNeg) := inb_of As44 ⟨by decide, by decide⟩
  obtain ⟨T45, h45, X45, e45, W45, st45⟩ := stC X42 hx hZ e42 Ar44 (j := (0 : Int32)) hin44 (g := (mkF m 117 #[.val (.int p0), .val (.int p1), .val (.int p2), .val (.int p3), .val (.int p4), .val (.int p5), .val (.ref s1), .val (.ref s2), .val (.ref s3), .unset, .unset, .unset, .unset, .unset, .unset, .unset, .unset, .unset, .unset] [(.int (((p2 &&& (255 : Int32))).toUInt32.toUInt16.toUInt32.toInt32)), (.int (0 : Int32)), (.ref c4), (.ref c4), (.ref s4), (.ref s4)])) rfl rfl (hb hby at_117)
  have N45 := Fr.snoc X45 N38 ge_c4
  have Sz45 := Nat.le_trans Sz42 (Keep.of_wr W45).1
  have O := O.wr W45 ge_c4
  have E_s4 := E_s4.wr W45
  have F_coder_s4 := F_coder_s4.other W45 (Or.inl ne_s4_c4)
  have F_value_s4 := F_value_s4.other W45 (Or.inl ne_s4_c4)
  have V_c4 : Arv Z h45 c4 k42 .char (2 : Int32) [(.int (nar .char (((p2 &&& (255 : Int32))).toUInt32.toUInt16.toUInt32.toInt32))), (.int (0 : Int32))] (.int (0 : Int32)) := Arv.set Ar44 Aq44 As44 An44 Ah44 Ag44 (fits_nar_char _) W45 0 rfl (Nat.le_of_ble_eq_true rfl)
  have R46 : ∀ zt, Steps p.tables e below (T45.setTop (mkF m 129 #[.val (.int p0), .val (.int p1), .val (.int p2), .val (.int p3), .val (.int p4), .val (.int p5), .val (.ref s1), .val (.ref s2), .val (.ref s3), .unset, .unset, .unset, .unset, .unset, .unset, .unset, .unset, .unset, .unset] [(.int ((((((p2).toUInt32 >>> ((8 : Int32) &&& 31).toUInt32).toInt32) &&& (255 : Int32))).toUInt32.toUInt16.toUInt32.toInt32)), (.int (1 : Int32)), (.ref c4), (.ref c4), (.ref s4), (.ref s4)])) zt → Steps p.tables e below (s₁.setTop (entryFrame m #[(.int p0), (.int p1), (.int p2), (.int p3), (.int p4), (.int p5)] maxLocals)) zt := by
    intro zt zk
    refine R43 zt ?_
    show Steps p.tables e below (T42.setTop (mkF m 117 #[.val (.int p0), .val (.int p1), .val (.int p2), .val (.int p3), .val (.int p4), .val (.int p5), .val (.ref s1), .val (.ref s2), .val (.ref s3), .unset, .unset, .unset, .unset, .unset, .unset, .unset, .unset, .unset, .unset] [(.int (((p2 &&& (255 : Int32))).toUInt32.toUInt16.toUInt32.toInt32)), (.int (0 : Int32)), (.ref c4), (.ref c4), (.ref s4), (.ref s4)])) _
    refine st45 _ ?_
    show Steps p.tables e below (T45.setTop (mkF m 118 #[.val (.int p0), .val (.int p1), .val (.int p2), .val (.int p3), .val (.int p4), .val (.int p5), .val (.ref s1), .val (.ref s2), .val (.ref s3), .unset, .unset, .unset, .unset, .unset, .unset, .unset, .unset, .unset, .unset] [(.ref c4), (.ref s4), (.ref s4)])) _
    refine XS.dup X45.here hx rfl (hb hby at_118) rfl rfl ?_
    show Steps p.tables e below (T45.setTop (mkF m 119 #[.val (.int p0), .val (.int p1), .val (.int p2), .val (.int p3), .val (.int p4), .val (.int p5), .val (.ref s1), .val (.ref s2), .val (.ref s3), .unset, .unset, .unset, .unset, .unset, .unset, .unset, .unset, .unset, .unset] [(.ref c4), (.ref c4), (.ref s4), (.ref s4)])) _
    refine XS.iconst X45.here hx rfl (hb hby at_119) ?_
    show Steps p.tables e below (T45.setTop (mkF m 120 #[.val (.int p0), .val (.int p1), .val (.int p2), .val (.int p3), .val (.int p4), .val (.int p5), .val (.ref s1), .val (.ref s2), .val (.ref s3), .unset, .unset, .unset, .unset, .unset, .unset, .unset, .unset, .unset, .unset] [(.int (1 : Int32)), (.ref c4), (.ref c4), (.ref s4), (.ref s4)])) _
    refine XS.iloadN X45.here hx rfl (hb hby at_120) rfl ?_
    show Steps p.tables e below (T45.setTop (mkF m 121 #[.val (.int p0), .val (.int p1), .val (.int p2), .val (.int p3), .val (.int p4), .val (.int p5), .val (.ref s1), .val (.ref s2), .val (.ref s3), .unset, .unset, .unset, .unset, .unset, .unset, .unset, .unset, .unset, .unset] [(.int p2), (.int (1 : Int32)), (.ref c4), (.ref c4), (.ref s4), (.ref s4)])) _
    refine XS.bipush X45.here hx rfl (hb hby at_121) ?_
    show Steps p.tables e below (T45.setTop (mkF m 123 #[.val (.int p0), .val (.int p1), .val (.int p2), .val (.int p3), .val (.int p4), .val (.int p5), .val (.ref s1), .val (.ref s2), .val (.ref s3), .unset, .unset, .unset, .unset, .unset, .unset, .unset, .unset, .unset, .unset] [(.int (8 : Int32)), (.int p2), (.int (1 : Int32)), (.ref c4), (.ref c4), (.ref s4), (.ref s4)])) _
    refine XS.iushr X45.here hx rfl (hb hby at_123) rfl ?_
    show Steps p.tables e below (T45.setTop (mkF m 124 #[.val (.int p0), .val (.int p1), .val (.int p2), .val (.int p3), .val (.int p4), .val (.int p5), .val (.ref s1), .val (.ref s2), .val (.ref s3), .unset, .unset, .unset, .unset, .unset, .unset, .unset, .unset, .unset, .unset] [(.int (((p2).toUInt32 >>> ((8 : Int32) &&& 31).toUInt32).toInt32)), (.int (1 : Int32)), (.ref c4), (.ref c4), (.ref s4), (.ref s4)])) _
    refine XS.sipush X45.here hx rfl (hb hby at_124) ?_
    show Steps p.tables e below (T45.setTop (mkF m 127 #[.val (.int p0), .val (.int p1), .val (.int p2), .val (.int p3), .val (.int p4), .val (.int p5), .val (.ref s1), .val (.ref s2), .val (.ref s3), .unset, .unset, .unset, .unset, .unset, .unset, .unset, .unset, .unset, .unset] [(.int (255 : Int32)), (.int (((p2).toUInt32 >>> ((8 : Int32) &&& 31).toUInt32).toInt32)), (.int (1 : Int32)), (.ref c4), (.ref c4), (.ref s4), (.ref s4)])) _
    refine XS.iand X45.here hx rfl (hb hby at_127) rfl ?_
    show Steps p.tables e below (T45.setTop (mkF m 128 #[.val (.int p0), .val (.int p1), .val (.int p2), .val (.int p3), .val (.int p4), .val (.int p5), .val (.ref s1), .val (.ref s2), .val (.ref s3), .unset, .unset, .unset, .unset, .unset, .unset, .unset, .unset, .unset, .unset] [(.int ((((p2).toUInt32 >>> ((8 : Int32) &&& 31).toUInt32).toInt32) &&& (255 : Int32))), (.int (1 : Int32)), (.ref c4), (.ref c4), (.ref s4), (.ref s4)])) _
    refine XS.i2c X45.here hx rfl (hb hby at_128) rfl ?_
    exact zk
  obtain ⟨cl47, Ar47, Aq47, As47, An47, Ah47, Ag47⟩ := id V_c4
  have hin47 : ¬ ((1 : Int32) < 0 ∨ cl47.slots.size ≤ ((1 : Int32)).toNatClampNeg) := inb_of As47 ⟨by decide, by decide⟩
  obtain ⟨T48, h48, X48, e48, W48, st48⟩ := stC X45 hx hZ e45 Ar47 (j := (1 : Int32)) hin47 (g := (mkF m 129 #[.val (.int p0), .val (.int p1), .val (.int p2), .val (.int p3), .val (.int p4), .val (.int p5), .val (.ref s1), .val (.ref s2), .val (.ref s3), .unset, .unset, .unset, .unset, .unset, .unset, .unset, .unset, .unset, .unset] [(.int ((((((p2).toUInt32 >>> ((8 : Int32) &&& 31).toUInt32).toInt32) &&& (255 : Int32))).toUInt32.toUInt16.toUInt32.toInt32)), (.int (1 : Int32)), (.ref c4), (.ref c4), (.ref s4), (.ref s4)])) rfl rfl (hb hby at_129)
  have N48 := Fr.snoc X48 N45 ge_c4
  have Sz48 := Nat.le_trans Sz45 (Keep.of_wr W48).1
  have O := O.wr W48 ge_c4
  have E_s4 := E_s4.wr W48
  have F_coder_s4 := F_coder_s4.other W48 (Or.inl ne_s4_c4)
  have F_value_s4 := F_value_s4.other W48 (Or.inl ne_s4_c4)
  have V_c4 : Arv Z h48 c4 k42 .char (2 : Int32) [(.int (nar .char (((p2 &&& (255 : Int32))).toUInt32.toUInt16.toUInt32.toInt32))), (.int (nar .char ((((((p2).toUInt32 >>> ((8 : Int32) &&& 31).toUInt32).toInt32) &&& (255 : Int32))).toUInt32.toUInt16.toUInt32.toInt32)))] (.int (0 : Int32)) := Arv.set Ar47 Aq47 As47 An47 Ah47 Ag47 (fits_nar_char _) W48 1 rfl (Nat.le_of_ble_eq_true rfl)
  have R49 : ∀ zt, Steps p.tables e below (T48.setTop (mkF m 130 #[.val (.int p0), .val (.int p1), .val (.int p2), .val (.int p3), .val (.int p4), .val (.int p5), .val (.ref s1), .val (.ref s2), .val (.ref s3), .unset, .unset, .unset, .unset, .unset, .unset, .unset, .unset, .unset, .unset] [(.ref c4), (.ref s4), (.ref s4)])) zt → Steps p.tables e below (s₁.setTop (entryFrame m #[(.int p0), (.int p1), (.int p2), (.int p3), (.int p4), (.int p5)] maxLocals)) zt := by
    intro zt zk
    refine R46 zt ?_
    show Steps p.tables e below (T45.setTop (mkF m 129 #[.val (.int p0), .val (.int p1), .val (.int p2), .val (.int p3), .val (.int p4), .val (.int p5), .val (.ref s1), .val (.ref s2), .val (.ref s3), .unset, .unset, .unset, .unset, .unset, .unset, .unset, .unset, .unset, .unset] [(.int ((((((p2).toUInt32 >>> ((8 : Int32) &&& 31).toUInt32).toInt32) &&& (255 : Int32))).toUInt32.toUInt16.toUInt32.toInt32)), (.int (1 : Int32)), (.ref c4), (.ref c4), (.ref s4), (.ref s4)])) _
    refine st48 _ ?_
    exact zk
  have hp50 : ∀ c ∈ ([nar .char (((p2 &&& (255 : Int32))).toUInt32.toUInt16.toUInt32.toInt32), nar .char ((((((p2).toUInt32 >>> ((8 : Int32) &&& 31).toUInt32).toInt32) &&& (255 : Int32))).toUInt32.toUInt16.toUInt32.toInt32)] : List Int32), ¬ c < 0 ∧ ¬ (255 : Int32) < c := (own_all2 (own_ch _) (own_ch _))
  obtain ⟨_, _, ⟨T51, L51, k51, n51⟩, -, X51, ⟨Lc51, hQ51, l51, y51, z51⟩, st51⟩ := X48.specialBack hx (y := (⟨"java/lang/String", "<init>", "([C)V"⟩ : MethodName)) rfl hown (mvT hZ (hw _ (List.mem_of_getElem? (i := 4) rfl))) (mvT hZ (hw _ (List.mem_of_getElem? (i := 5) rfl))) (mvT hZ (hw _ (List.mem_of_getElem? (i := 6) rfl))) (by decide) (StrChars.Road.backV (W := 1) hZ hws (kI := 4) (hw _ (List.mem_of_getElem? (i := 1) rfl)) (cs := ([nar .char (((p2 &&& (255 : Int32))).toUInt32.toUInt16.toUInt32.toInt32), nar .char ((((((p2).toUInt32 >>> ((8 : Int32) &&& 31).toUInt32).toInt32) &&& (255 : Int32))).toUInt32.toUInt16.toUInt32.toInt32)] : List Int32)) (bs := ([nar .char (((p2 &&& (255 : Int32))).toUInt32.toUInt16.toUInt32.toInt32), nar .char ((((((p2).toUInt32 >>> ((8 : Int32) &&& 31).toUInt32).toInt32) &&& (255 : Int32))).toUInt32.toUInt16.toUInt32.toInt32)] : List Int32).map (fun c => c.toInt8.toInt32)) (n := 2) ge_s4 Sz48 E_s4 F_value_s4 F_coder_s4 V_c4 (SCS.ext O.2) P5 rfl rfl (by decide) (by decide) hp50 rfl (by decide) (by decide)) (g := (mkF m 130 #[.val (.int p0), .val (.int p1), .val (.int p2), .val (.int p3), .val (.int p4), .val (.int p5), .val (.ref s1), .val (.ref s2), .val (.ref s3), .unset, .unset, .unset, .unset, .unset, .unset, .unset, .unset, .unset, .unset] [(.ref c4), (.ref s4), (.ref s4)])) rfl (by rw [hml]; rfl) (Steps.refl _) (a := s4) (argsL := [(.ref c4)]) (rest := [(.ref s4)]) (lenOf pd_2 rfl) rfl (by show 2 * 0 + _ ≤ _; exact Nat.le_of_eq rfl) (hb hby at_130) (fun _ _ => ⟨rfl, e48, (by decide : 11 + 1 ≤ _), (by decide : 30 + 2 ≤ _)⟩)
  dsimp only [Pt.U, Pt.locs, Pt.cells, Pt.slots] at X51 l51 y51 z51 st51 hQ51
  rw [y51, z51] at X51
  have X51 : Stand p l e room_1 s m #[(.int p0), (.int p1), (.int p2), (.int p3), (.int p4), (.int p5)] below meth c T51 L51 12 32 := X51
  obtain ⟨rfl, Nq51, K51, E_s4, F_coder_s4, t_s4, kb_s4, tge_s4, tsz_s4, tne_s4, F_value_s4, V_t_s4⟩ := hQ51
  have N51 : Fr n0 L51 := by rw [l51]; exact Fr.app N48 Nq51
  clear l51 y51 z51
  have Sz51 := Nat.le_trans Sz48 K51.1
  have O := O.keep K51 (allS ge_s4 all0)
  have V_c4 := V_c4.keep K51 (ninS ne_s4_c4.symm nin0)
  have R52 : ∀ zt, Steps p.tables e below (T51.setTop (mkF m 133 #[.val (.int p0), .val (.int p1), .val (.int p2), .val (.int p3), .val (.int p4), .val (.int p5), .val (.ref s1), .val (.ref s2), .val (.ref s3), .unset, .unset, .unset, .unset, .unset, .unset, .unset, .unset, .unset, .unset] [(.ref s4)])) zt → Steps p.tables e below (s₁.setTop (entryFrame m #[(.int p0), (.int p1), (.int p2), (.int p3), (.int p4), (.int p5)] maxLocals)) zt := by
    intro zt zk
    refine R49 zt ?_
    show Steps p.tables e below (T48.setTop (mkF m 130 #[.val (.int p0), .val (.int p1), .val (.int p2), .val (.int p3), .val (.int p4), .val (.int p5), .val (.ref s1), .val (.ref s2), .val (.ref s3), .unset, .unset, .unset, .unset, .unset, .unset, .unset, .unset, .unset, .unset] [(.ref c4), (.ref s4), (.ref s4)])) _
    refine st51.trans ?_
    exact zk
  have R53 : ∀ zt, Steps p.tables e below (T51.setTop (mkF m 149 #[.val (.int p0), .val (.int p1), .val (.int p2), .val (.int p3), .val (.int p4), .val (.int p5), .val (.ref s1), .val (.ref s2), .val (.ref s3), .val (.ref s4), .unset, .unset, .unset, .unset, .unset, .unset, .unset, .unset, .unset] [(if (p4 &&& (8 : Int32)) = (0 : Int32) then (.ref s4) else .null : Value)])) zt → Steps p.tables e below (s₁.setTop (entryFrame m #[(.int p0), (.int p1), (.int p2), (.int p3), (.int p4), (.int p5)] maxLocals)) zt := by
    have R55 : ∀ zt, Steps p.tables e below (T51.setTop (mkF m 140 #[.val (.int p0), .val (.int p1), .val (.int p2), .val (.int p3), .val (.int p4), .val (.int p5), .val (.ref s1), .val (.ref s2), .val (.ref s3), .val (.ref s4), .unset, .unset, .unset, .unset, .unset, .unset, .unset, .unset, .unset] [(.int (p4 &&& (8 : Int32)))])) zt → Steps p.tables e below (s₁.setTop (entryFrame m #[(.int p0), (.int p1), (.int p2), (.int p3), (.int p4), (.int p5)] maxLocals)) zt := by
      intro zt zk
      refine R52 zt ?_
      show Steps p.tables e below (T51.setTop (mkF m 133 #[.val (.int p0), .val (.int p1), .val (.int p2), .val (.int p3), .val (.int p4), .val (.int p5), .val (.ref s1), .val (.ref s2), .val (.ref s3), .unset, .unset, .unset, .unset, .unset, .unset, .unset, .unset, .unset, .unset] [(.ref s4)])) _
      refine XS.astore X51.here hx rfl (hb hby at_133) rfl rfl (l' := #[.val (.int p0), .val (.int p1), .val (.int p2), .val (.int p3), .val (.int p4), .val (.int p5), .val (.ref s1), .val (.ref s2), .val (.ref s3), .val (.ref s4), .unset, .unset, .unset, .unset, .unset, .unset, .unset, .unset, .unset]) rfl ?_
      show Steps p.tables e below (T51.setTop (mkF m 135 #[.val (.int p0), .val (.int p1), .val (.int p2), .val (.int p3), .val (.int p4), .val (.int p5), .val (.ref s1), .val (.ref s2), .val (.ref s3), .val (.ref s4), .unset, .unset, .unset, .unset, .unset, .unset, .unset, .unset, .unset] [])) _
      refine XS.iload X51.here hx rfl (hb hby at_135) rfl ?_
      show Steps p.tables e below (T51.setTop (mkF m 137 #[.val (.int p0), .val (.int p1), .val (.int p2), .val (.int p3), .val (.int p4), .val (.int p5), .val (.ref s1), .val (.ref s2), .val (.ref s3), .val (.ref s4), .unset, .unset, .unset, .unset, .unset, .unset, .unset, .unset, .unset] [(.int p4)])) _
      refine XS.bipush X51.here hx rfl (hb hby at_137) ?_
      show Steps p.tables e below (T51.setTop (mkF m 139 #[.val (.int p0), .val (.int p1), .val (.int p2), .val (.int p3), .val (.int p4), .val (.int p5), .val (.ref s1), .val (.ref s2), .val (.ref s3), .val (.ref s4), .unset, .unset, .unset, .unset, .unset, .unset, .unset, .unset, .unset] [(.int (8 : Int32)), (.int p4)])) _
      refine XS.iand X51.here hx rfl (hb hby at_139) rfl ?_
      exact zk
    by_cases hc54 : (p4 &&& (8 : Int32)) = (0 : Int32)
    ·
      skip
      have R56 : ∀ zt, Steps p.tables e below (T51.setTop (mkF m 149 #[.val (.int p0), .val (.int p1), .val (.int p2), .val (.int p3), .val (.int p4), .val (.int p5), .val (.ref s1), .val (.ref s2), .val (.ref s3), .val (.ref s4), .unset, .unset, .unset, .unset, .unset, .unset, .unset, .unset, .unset] [(.ref s4)])) zt → Steps p.tables e below (s₁.setTop (entryFrame m #[(.int p0), (.int p1), (.int p2), (.int p3), (.int p4), (.int p5)] maxLocals)) zt := by
        intro zt zk
        refine R55 zt ?_
        show Steps p.tables e below (T51.setTop (mkF m 140 #[.val (.int p0), .val (.int p1), .val (.int p2), .val (.int p3), .val (.int p4), .val (.int p5), .val (.ref s1), .val (.ref s2), .val (.ref s3), .val (.ref s4), .unset, .unset, .unset, .unset, .unset, .unset, .unset, .unset, .unset] [(.int (p4 &&& (8 : Int32)))])) _
        refine XS.ifYes X51.here hx rfl (pc0 := 140) (pc' := 147) rfl (hb hby at_140) rfl ((if0 _ _).trans (teq hc54).1) (by decide) (by decide) ?_
        show Steps p.tables e below (T51.setTop (mkF m 147 #[.val (.int p0), .val (.int p1), .val (.int p2), .val (.int p3), .val (.int p4), .val (.int p5), .val (.ref s1), .val (.ref s2), .val (.ref s3), .val (.ref s4), .unset, .unset, .unset, .unset, .unset, .unset, .unset, .unset, .unset] [])) _
        refine XS.aload X51.here hx rfl (hb hby at_147) rfl rfl ?_
        exact zk
      refine fun zt zk => R56 zt ?_
      have q57 : (if (p4 &&& (8 : Int32)) = (0 : Int32) then (.ref s4) else .null : Value) = (.ref s4) := (if_pos hc54)
      rw [q57] at zk
      try rw [q57]
      exact zk
    ·
      skip
      have R58 : ∀ zt, Steps p.tables e below (T51.setTop (mkF m 149 #[.val (.int p0), .val (.int p1), .val (.int p2), .val (.int p3), .val (.int p4), .val (.int p5), .val (.ref s1), .val (.ref s2), .val (.ref s3), .val (.ref s4), .unset, .unset, .unset, .unset, .unset, .unset, .unset, .unset, .unset] [.null])) zt → Steps p.tables e below (s₁.setTop (entryFrame m #[(.int p0), (.int p1), (.int p2), (.int p3), (.int p4), (.int p5)] maxLocals)) zt := by
        intro zt zk
        refine R55 zt ?_
        show Steps p.tables e below (T51.setTop (mkF m 140 #[.val (.int p0), .val (.int p1), .val (.int p2), .val (.int p3), .val (.int p4), .val (.int p5), .val (.ref s1), .val (.ref s2), .val (.ref s3), .val (.ref s4), .unset, .unset, .unset, .unset, .unset, .unset, .unset, .unset, .unset] [(.int (p4 &&& (8 : Int32)))])) _
        refine XS.ifNo X51.here hx rfl (hb hby at_140) rfl ((if0 _ _).trans (feq hc54).1) ?_
        show Steps p.tables e below (T51.setTop (mkF m 143 #[.val (.int p0), .val (.int p1), .val (.int p2), .val (.int p3), .val (.int p4), .val (.int p5), .val (.ref s1), .val (.ref s2), .val (.ref s3), .val (.ref s4), .unset, .unset, .unset, .unset, .unset, .unset, .unset, .unset, .unset] [])) _
        refine XS.aconstNull X51.here hx rfl (hb hby at_143) ?_
        show Steps p.tables e below (T51.setTop (mkF m 144 #[.val (.int p0), .val (.int p1), .val (.int p2), .val (.int p3), .val (.int p4), .val (.int p5), .val (.ref s1), .val (.ref s2), .val (.ref s3), .val (.ref s4), .unset, .unset, .unset, .unset, .unset, .unset, .unset, .unset, .unset] [.null])) _
        refine XS.goto X51.here hx rfl (pc0 := 144) (pc' := 149) rfl (hb hby at_144) (by decide) (by decide) ?_
        exact zk
      refine fun zt zk => R58 zt ?_
      have q59 : (if (p4 &&& (8 : Int32)) = (0 : Int32) then (.ref s4) else .null : Value) = .null := (if_neg hc54)
      rw [q59] at zk
      try rw [q59]
      exact zk
  obtain ⟨qv, ev_qv⟩ : ∃ z : Value, z = (if (p4 &&& (8 : Int32)) = (0 : Int32) then (.ref s4) else .null : Value) := ⟨_, rfl⟩
  rw [← ev_qv] at R53
  have hr_qv : qv.isRef = true := by rw [ev_qv]; split <;> first | rfl | (split <;> rfl)
  have R60 : ∀ zt, Steps p.tables e below (T51.setTop (mkF m 152 #[.val (.int p0), .val (.int p1), .val (.int p2), .val (.int p3), .val (.int p4), .val (.int p5), .val (.ref s1), .val (.ref s2), .val (.ref s3), .val (.ref s4), .val qv, .unset, .unset, .unset, .unset, .unset, .unset, .unset, .unset] [(.int (3 : Int32))])) zt → Steps p.tables e below (s₁.setTop (entryFrame m #[(.int p0), (.int p1), (.int p2), (.int p3), (.int p4), (.int p5)] maxLocals)) zt := by
    intro zt zk
    refine R53 zt ?_
    show Steps p.tables e below (T51.setTop (mkF m 149 #[.val (.int p0), .val (.int p1), .val (.int p2), .val (.int p3), .val (.int p4), .val (.int p5), .val (.ref s1), .val (.ref s2), .val (.ref s3), .val (.ref s4), .unset, .unset, .unset, .unset, .unset, .unset, .unset, .unset, .unset] [qv])) _
    refine XS.astore X51.here hx rfl (hb hby at_149) rfl hr_qv (l' := #[.val (.int p0), .val (.int p1), .val (.int p2), .val (.int p3), .val (.int p4), .val (.int p5), .val (.ref s1), .val (.ref s2), .val (.ref s3), .val (.ref s4), .val qv, .unset, .unset, .unset, .unset, .unset, .unset, .unset, .unset]) (XS.store1 rfl (Or.inl rfl) (own_cat hr_qv)) ?_
    show Steps p.tables e below (T51.setTop (mkF m 151 #[.val (.int p0), .val (.int p1), .val (.int p2), .val (.int p3), .val (.int p4), .val (.int p5), .val (.ref s1), .val (.ref s2), .val (.ref s3), .val (.ref s4), .val qv, .unset, .unset, .unset, .unset, .unset, .unset, .unset, .unset] [])) _
    refine XS.iconst X51.here hx rfl (hb hby at_151) ?_
    exact zk
  obtain ⟨T61, h61, k61, X61, e61, E61, A61, st61⟩ := newP X51 hx hZ (hw _ (List.mem_of_getElem? (i := 19) rfl)) rfl (g := (mkF m 152 #[.val (.int p0), .val (.int p1), .val (.int p2), .val (.int p3), .val (.int p4), .val (.int p5), .val (.ref s1), .val (.ref s2), .val (.ref s3), .val (.ref s4), .val qv, .unset, .unset, .unset, .unset, .unset, .unset, .unset, .unset] [(.int (3 : Int32))])) rfl (hb hby at_152) rfl (by decide) (cap := 3) (by decide) (by decide) (by decide) (by decide)
  obtain ⟨f, g61⟩ : ∃ z, z = T51.heap.size := ⟨_, rfl⟩
  rw [← g61] at A61 st61
  have ge_f : n0 ≤ f := by rw [g61]; exact Sz51
  have Sz61 := Nat.le_trans Sz51 E61.1
  have O := O.ext E61
  have V_f : Arv Z h61 f k61 .byte (3 : Int32) [(.int (0 : Int32)), (.int (0 : Int32)), (.int (0 : Int32))] (.int (0 : Int32)) := (Arv.new A61 (by decide)).pad (pad_rep [] (.int (0 : Int32)) 3)
  have R62 : ∀ zt, Steps p.tables e below (T61.setTop (mkF m 159 #[.val (.int p0), .val (.int p1), .val (.int p2), .val (.int p3), .val (.int p4), .val (.int p5), .val (.ref s1), .val (.ref s2), .val (.ref s3), .val (.ref s4), .val qv, .unset, .unset, .unset, .unset, .unset, .unset, .unset, .unset] [(.int ((p5).toInt8.toInt32)), (.int (0 : Int32)), (.ref f), (.ref f)])) zt → Steps p.tables e below (s₁.setTop (entryFrame m #[(.int p0), (.int p1), (.int p2), (.int p3), (.int p4), (.int p5)] maxLocals)) zt := by
    intro zt zk
    refine R60 zt ?_
    show Steps p.tables e below (T51.setTop (mkF m 152 #[.val (.int p0), .val (.int p1), .val (.int p2), .val (.int p3), .val (.int p4), .val (.int p5), .val (.ref s1), .val (.ref s2), .val (.ref s3), .val (.ref s4), .val qv, .unset, .unset, .unset, .unset, .unset, .unset, .unset, .unset] [(.int (3 : Int32))])) _
    refine st61 _ ?_
    show Steps p.tables e below (T61.setTop (mkF m 154 #[.val (.int p0), .val (.int p1), .val (.int p2), .val (.int p3), .val (.int p4), .val (.int p5), .val (.ref s1), .val (.ref s2), .val (.ref s3), .val (.ref s4), .val qv, .unset, .unset, .unset, .unset, .unset, .unset, .unset, .unset] [(.ref f)])) _
    refine XS.dup X61.here hx rfl (hb hby at_154) rfl rfl ?_
    show Steps p.tables e below (T61.setTop (mkF m 155 #[.val (.int p0), .val (.int p1), .val (.int p2), .val (.int p3), .val (.int p4), .val (.int p5), .val (.ref s1), .val (.ref s2), .val (.ref s3), .val (.ref s4), .val qv, .unset, .unset, .unset, .unset, .unset, .unset, .unset, .unset] [(.ref f), (.ref f)])) _
    refine XS.iconst X61.here hx rfl (hb hby at_155) ?_
    show Steps p.tables e below (T61.setTop (mkF m 156 #[.val (.int p0), .val (.int p1), .val (.int p2), .val (.int p3), .val (.int p4), .val (.int p5), .val (.ref s1), .val (.ref s2), .val (.ref s3), .val (.ref s4), .val qv, .unset, .unset, .unset, .unset, .unset, .unset, .unset, .unset] [(.int (0 : Int32)), (.ref f), (.ref f)])) _
    refine XS.iload X61.here hx rfl (hb hby at_156) rfl ?_
    show Steps p.tables e below (T61.setTop (mkF m 158 #[.val (.int p0), .val (.int p1), .val (.int p2), .val (.int p3), .val (.int p4), .val (.int p5), .val (.ref s1), .val (.ref s2), .val (.ref s3), .val (.ref s4), .val qv, .unset, .unset, .unset, .unset, .unset, .unset, .unset, .unset] [(.int p5), (.int (0 : Int32)), (.ref f), (.ref f)])) _
    refine XS.i2b X61.here hx rfl (hb hby at_158) rfl ?_
    exact zk
  obtain ⟨cl63, Ar63, Aq63, As63, An63, Ah63, Ag63⟩ := id V_f
  have hin63 : ¬ ((0 : Int32) < 0 ∨ cl63.slots.size ≤ ((0 : Int32)).toNatClampNeg) := inb_of As63 ⟨by decide, by decide⟩
  obtain ⟨T64, h64, X64, e64, W64, st64⟩ := stB X61 hx hZ e61 Ar63 (j := (0 : Int32)) hin63 (g := (mkF m 159 #[.val (.int p0), .val (.int p1), .val (.int p2), .val (.int p3), .val (.int p4), .val (.int p5), .val (.ref s1), .val (.ref s2), .val (.ref s3), .val (.ref s4), .val qv, .unset, .unset, .unset, .unset, .unset, .unset, .unset, .unset] [(.int ((p5).toInt8.toInt32)), (.int (0 : Int32)), (.ref f), (.ref f)])) rfl rfl (hb hby at_159)
  have N64 := Fr.snoc X64 N51 ge_f
  have Sz64 := Nat.le_trans Sz61 (Keep.of_wr W64).1
  have O := O.wr W64 ge_f
  have V_f : Arv Z h64 f k61 .byte (3 : Int32) [(.int (nar .byte ((p5).toInt8.toInt32))), (.int (0 : Int32)), (.int (0 : Int32))] (.int (0 : Int32)) := Arv.set Ar63 Aq63 As63 An63 Ah63 Ag63 (fits_nar_byte _) W64 0 rfl (Nat.le_of_ble_eq_true rfl)
  have R65 : ∀ zt, Steps p.tables e below (T64.setTop (mkF m 168 #[.val (.int p0), .val (.int p1), .val (.int p2), .val (.int p3), .val (.int p4), .val (.int p5), .val (.ref s1), .val (.ref s2), .val (.ref s3), .val (.ref s4), .val qv, .unset, .unset, .unset, .unset, .unset, .unset, .unset, .unset] [(.int (((((p5).toUInt32 >>> ((8 : Int32) &&& 31).toUInt32).toInt32)).toInt8.toInt32)), (.int (1 : Int32)), (.ref f), (.ref f)])) zt → Steps p.tables e below (s₁.setTop (entryFrame m #[(.int p0), (.int p1), (.int p2), (.int p3), (.int p4), (.int p5)] maxLocals)) zt := by
    intro zt zk
    refine R62 zt ?_
    show Steps p.tables e below (T61.setTop (mkF m 159 #[.val (.int p0), .val (.int p1), .val (.int p2), .val (.int p3), .val (.int p4), .val (.int p5), .val (.ref s1), .val (.ref s2), .val (.ref s3), .val (.ref s4), .val qv, .unset, .unset, .unset, .unset, .unset, .unset, .unset, .unset] [(.int ((p5).toInt8.toInt32)), (.int (0 : Int32)), (.ref f), (.ref f)])) _
    refine st64 _ ?_
    show Steps p.tables e below (T64.setTop (mkF m 160 #[.val (.int p0), .val (.int p1), .val (.int p2), .val (.int p3), .val (.int p4), .val (.int p5), .val (.ref s1), .val (.ref s2), .val (.ref s3), .val (.ref s4), .val qv, .unset, .unset, .unset, .unset, .unset, .unset, .unset, .unset] [(.ref f)])) _
    refine XS.dup X64.here hx rfl (hb hby at_160) rfl rfl ?_
    show Steps p.tables e below (T64.setTop (mkF m 161 #[.val (.int p0), .val (.int p1), .val (.int p2), .val (.int p3), .val (.int p4), .val (.int p5), .val (.ref s1), .val (.ref s2), .val (.ref s3), .val (.ref s4), .val qv, .unset, .unset, .unset, .unset, .unset, .unset, .unset, .unset] [(.ref f), (.ref f)])) _
    refine XS.iconst X64.here hx rfl (hb hby at_161) ?_
    show Steps p.tables e below (T64.setTop (mkF m 162 #[.val (.int p0), .val (.int p1), .val (.int p2), .val (.int p3), .val (.int p4), .val (.int p5), .val (.ref s1), .val (.ref s2), .val (.ref s3), .val (.ref s4), .val qv, .unset, .unset, .unset, .unset, .unset, .unset, .unset, .unset] [(.int (1 : Int32)), (.ref f), (.ref f)])) _
    refine XS.iload X64.here hx rfl (hb hby at_162) rfl ?_
    show Steps p.tables e below (T64.setTop (mkF m 164 #[.val (.int p0), .val (.int p1), .val (.int p2), .val (.int p3), .val (.int p4), .val (.int p5), .val (.ref s1), .val (.ref s2), .val (.ref s3), .val (.ref s4), .val qv, .unset, .unset, .unset, .unset, .unset, .unset, .unset, .unset] [(.int p5), (.int (1 : Int32)), (.ref f), (.ref f)])) _
    refine XS.bipush X64.here hx rfl (hb hby at_164) ?_
    show Steps p.tables e below (T64.setTop (mkF m 166 #[.val (.int p0), .val (.int p1), .val (.int p2), .val (.int p3), .val (.int p4), .val (.int p5), .val (.ref s1), .val (.ref s2), .val (.ref s3), .val (.ref s4), .val qv, .unset, .unset, .unset, .unset, .unset, .unset, .unset, .unset] [(.int (8 : Int32)), (.int p5), (.int (1 : Int32)), (.ref f), (.ref f)])) _
    refine XS.iushr X64.here hx rfl (hb hby at_166) rfl ?_
    show Steps p.tables e below (T64.setTop (mkF m 167 #[.val (.int p0), .val (.int p1), .val (.int p2), .val (.int p3), .val (.int p4), .val (.int p5), .val (.ref s1), .val (.ref s2), .val (.ref s3), .val (.ref s4), .val qv, .unset, .unset, .unset, .unset, .unset, .unset, .unset, .unset] [(.int (((p5).toUInt32 >>> ((8 : Int32) &&& 31).toUInt32).toInt32)), (.int (1 : Int32)), (.ref f), (.ref f)])) _
    refine XS.i2b X64.here hx rfl (hb hby at_167) rfl ?_
    exact zk
  obtain ⟨cl66, Ar66, Aq66, As66, An66, Ah66, Ag66⟩ := id V_f
  have hin66 : ¬ ((1 : Int32) < 0 ∨ cl66.slots.size ≤ ((1 : Int32)).toNatClampNeg) := inb_of As66 ⟨by decide, by decide⟩
  obtain ⟨T67, h67, X67, e67, W67, st67⟩ := stB X64 hx hZ e64 Ar66 (j := (1 : Int32)) hin66 (g := (mkF m 168 #[.val (.int p0), .val (.int p1), .val (.int p2), .val (.int p3), .val (.int p4), .val (.int p5), .val (.ref s1), .val (.ref s2), .val (.ref s3), .val (.ref s4), .val qv, .unset, .unset, .unset, .unset, .unset, .unset, .unset, .unset] [(.int (((((p5).toUInt32 >>> ((8 : Int32) &&& 31).toUInt32).toInt32)).toInt8.toInt32)), (.int (1 : Int32)), (.ref f), (.ref f)])) rfl rfl (hb hby at_168)
  have N67 := Fr.snoc X67 N64 ge_f
  have Sz67 := Nat.le_trans Sz64 (Keep.of_wr W67).1
  have O := O.wr W67 ge_f
  have V_f : Arv Z h67 f k61 .byte (3 : Int32) [(.int (nar .byte ((p5).toInt8.toInt32))), (.int (nar .byte (((((p5).toUInt32 >>> ((8 : Int32) &&& 31).toUInt32).toInt32)).toInt8.toInt32))), (.int (0 : Int32))] (.int (0 : Int32)) := Arv.set Ar66 Aq66 As66 An66 Ah66 Ag66 (fits_nar_byte _) W67 1 rfl (Nat.le_of_ble_eq_true rfl)
  have R68 : ∀ zt, Steps p.tables e below (T67.setTop (mkF m 177 #[.val (.int p0), .val (.int p1), .val (.int p2), .val (.int p3), .val (.int p4), .val (.int p5), .val (.ref s1), .val (.ref s2), .val (.ref s3), .val (.ref s4), .val qv, .unset, .unset, .unset, .unset, .unset, .unset, .unset, .unset] [(.int (((((p5).toUInt32 >>> ((16 : Int32) &&& 31).toUInt32).toInt32)).toInt8.toInt32)), (.int (2 : Int32)), (.ref f), (.ref f)])) zt → Steps p.tables e below (s₁.setTop (entryFrame m #[(.int p0), (.int p1), (.int p2), (.int p3), (.int p4), (.int p5)] maxLocals)) zt := by
    intro zt zk
    refine R65 zt ?_
    show Steps p.tables e below (T64.setTop (mkF m 168 #[.val (.int p0), .val (.int p1), .val (.int p2), .val (.int p3), .val (.int p4), .val (.int p5), .val (.ref s1), .val (.ref s2), .val (.ref s3), .val (.ref s4), .val qv, .unset, .unset, .unset, .unset, .unset, .unset, .unset, .unset] [(.int (((((p5).toUInt32 >>> ((8 : Int32) &&& 31).toUInt32).toInt32)).toInt8.toInt32)), (.int (1 : Int32)), (.ref f), (.ref f)])) _
    refine st67 _ ?_
    show Steps p.tables e below (T67.setTop (mkF m 169 #[.val (.int p0), .val (.int p1), .val (.int p2), .val (.int p3), .val (.int p4), .val (.int p5), .val (.ref s1), .val (.ref s2), .val (.ref s3), .val (.ref s4), .val qv, .unset, .unset, .unset, .unset, .unset, .unset, .unset, .unset] [(.ref f)])) _
    refine XS.dup X67.here hx rfl (hb hby at_169) rfl rfl ?_
    show Steps p.tables e below (T67.setTop (mkF m 170 #[.val (.int p0), .val (.int p1), .val (.int p2), .val (.int p3), .val (.int p4), .val (.int p5), .val (.ref s1), .val (.ref s2), .val (.ref s3), .val (.ref s4), .val qv, .unset, .unset, .unset, .unset, .unset, .unset, .unset, .unset] [(.ref f), (.ref f)])) _
    refine XS.iconst X67.here hx rfl (hb hby at_170) ?_
    show Steps p.tables e below (T67.setTop (mkF m 171 #[.val (.int p0), .val (.int p1), .val (.int p2), .val (.int p3), .val (.int p4), .val (.int p5), .val (.ref s1), .val (.ref s2), .val (.ref s3), .val (.ref s4), .val qv, .unset, .unset, .unset, .unset, .unset, .unset, .unset, .unset] [(.int (2 : Int32)), (.ref f), (.ref f)])) _
    refine XS.iload X67.here hx rfl (hb hby at_171) rfl ?_
    show Steps p.tables e below (T67.setTop (mkF m 173 #[.val (.int p0), .val (.int p1), .val (.int p2), .val (.int p3), .val (.int p4), .val (.int p5), .val (.ref s1), .val (.ref s2), .val (.ref s3), .val (.ref s4), .val qv, .unset, .unset, .unset, .unset, .unset, .unset, .unset, .unset] [(.int p5), (.int (2 : Int32)), (.ref f), (.ref f)])) _
    refine XS.bipush X67.here hx rfl (hb hby at_173) ?_
    show Steps p.tables e below (T67.setTop (mkF m 175 #[.val (.int p0), .val (.int p1), .val (.int p2), .val (.int p3), .val (.int p4), .val (.int p5), .val (.ref s1), .val (.ref s2), .val (.ref s3), .val (.ref s4), .val qv, .unset, .unset, .unset, .unset, .unset, .unset, .unset, .unset] [(.int (16 : Int32)), (.int p5), (.int (2 : Int32)), (.ref f), (.ref f)])) _
    refine XS.iushr X67.here hx rfl (hb hby at_175) rfl ?_
    show Steps p.tables e below (T67.setTop (mkF m 176 #[.val (.int p0), .val (.int p1), .val (.int p2), .val (.int p3), .val (.int p4), .val (.int p5), .val (.ref s1), .val (.ref s2), .val (.ref s3), .val (.ref s4), .val qv, .unset, .unset, .unset, .unset, .unset, .unset, .unset, .unset] [(.int (((p5).toUInt32 >>> ((16 : Int32) &&& 31).toUInt32).toInt32)), (.int (2 : Int32)), (.ref f), (.ref f)])) _
    refine XS.i2b X67.here hx rfl (hb hby at_176) rfl ?_
    exact zk
  obtain ⟨cl69, Ar69, Aq69, As69, An69, Ah69, Ag69⟩ := id V_f
  have hin69 : ¬ ((2 : Int32) < 0 ∨ cl69.slots.size ≤ ((2 : Int32)).toNatClampNeg) := inb_of As69 ⟨by decide, by decide⟩
  obtain ⟨T70, h70, X70, e70, W70, st70⟩ := stB X67 hx hZ e67 Ar69 (j := (2 : Int32)) hin69 (g := (mkF m 177 #[.val (.int p0), .val (.int p1), .val (.int p2), .val (.int p3), .val (.int p4), .val (.int p5), .val (.ref s1), .val (.ref s2), .val (.ref s3), .val (.ref s4), .val qv, .unset, .unset, .unset, .unset, .unset, .unset, .unset, .unset] [(.int (((((p5).toUInt32 >>> ((16 : Int32) &&& 31).toUInt32).toInt32)).toInt8.toInt32)), (.int (2 : Int32)), (.ref f), (.ref f)])) rfl rfl (hb hby at_177)
  have N70 := Fr.snoc X70 N67 ge_f
  have Sz70 := Nat.le_trans Sz67 (Keep.of_wr W70).1
  have O := O.wr W70 ge_f
  have V_f : Arv Z h70 f k61 .byte (3 : Int32) [(.int (nar .byte ((p5).toInt8.toInt32))), (.int (nar .byte (((((p5).toUInt32 >>> ((8 : Int32) &&& 31).toUInt32).toInt32)).toInt8.toInt32))), (.int (nar .byte (((((p5).toUInt32 >>> ((16 : Int32) &&& 31).toUInt32).toInt32)).toInt8.toInt32)))] (.int (0 : Int32)) := Arv.set Ar69 Aq69 As69 An69 Ah69 Ag69 (fits_nar_byte _) W70 2 rfl (Nat.le_of_ble_eq_true rfl)
  have R71 : ∀ zt, Steps p.tables e below (T70.setTop (mkF m 181 #[.val (.int p0), .val (.int p1), .val (.int p2), .val (.int p3), .val (.int p4), .val (.int p5), .val (.ref s1), .val (.ref s2), .val (.ref s3), .val (.ref s4), .val qv, .val (.ref f), .unset, .unset, .unset, .unset, .unset, .unset, .unset] [(.int (0 : Int32))])) zt → Steps p.tables e below (s₁.setTop (entryFrame m #[(.int p0), (.int p1), (.int p2), (.int p3), (.int p4), (.int p5)] maxLocals)) zt := by
    intro zt zk
    refine R68 zt ?_
    show Steps p.tables e below (T67.setTop (mkF m 177 #[.val (.int p0), .val (.int p1), .val (.int p2), .val (.int p3), .val (.int p4), .val (.int p5), .val (.ref s1), .val (.ref s2), .val (.ref s3), .val (.ref s4), .val qv, .unset, .unset, .unset, .unset, .unset, .unset, .unset, .unset] [(.int (((((p5).toUInt32 >>> ((16 : Int32) &&& 31).toUInt32).toInt32)).toInt8.toInt32)), (.int (2 : Int32)), (.ref f), (.ref f)])) _
    refine st70 _ ?_
    show Steps p.tables e below (T70.setTop (mkF m 178 #[.val (.int p0), .val (.int p1), .val (.int p2), .val (.int p3), .val (.int p4), .val (.int p5), .val (.ref s1), .val (.ref s2), .val (.ref s3), .val (.ref s4), .val qv, .unset, .unset, .unset, .unset, .unset, .unset, .unset, .unset] [(.ref f)])) _
    refine XS.astore X70.here hx rfl (hb hby at_178) rfl rfl (l' := #[.val (.int p0), .val (.int p1), .val (.int p2), .val (.int p3), .val (.int p4), .val (.int p5), .val (.ref s1), .val (.ref s2), .val (.ref s3), .val (.ref s4), .val qv, .val (.ref f), .unset, .unset, .unset, .unset, .unset, .unset, .unset]) rfl ?_
    show Steps p.tables e below (T70.setTop (mkF m 180 #[.val (.int p0), .val (.int p1), .val (.int p2), .val (.int p3), .val (.int p4), .val (.int p5), .val (.ref s1), .val (.ref s2), .val (.ref s3), .val (.ref s4), .val qv, .val (.ref f), .unset, .unset, .unset, .unset, .unset, .unset, .unset] [])) _
    refine XS.iconst X70.here hx rfl (hb hby at_180) ?_
    exact zk
  obtain ⟨T72, h72, k72, X72, e72, E72, A72, st72⟩ := newP X70 hx hZ (hw _ (List.mem_of_getElem? (i := 19) rfl)) e70 (g := (mkF m 181 #[.val (.int p0), .val (.int p1), .val (.int p2), .val (.int p3), .val (.int p4), .val (.int p5), .val (.ref s1), .val (.ref s2), .val (.ref s3), .val (.ref s4), .val qv, .val (.ref f), .unset, .unset, .unset, .unset, .unset, .unset, .unset] [(.int (0 : Int32))])) rfl (hb hby at_181) rfl (by decide) (cap := 0) (by decide) (by decide) (by decide) (by decide)
  obtain ⟨y0, g72⟩ : ∃ z, z = h70.size := ⟨_, rfl⟩
  rw [← g72] at A72 st72
  have ge_y0 : n0 ≤ y0 := by rw [g72]; exact Sz70
  have Sz72 := Nat.le_trans Sz70 E72.1
  have ne_f_y0 : f ≠ y0 := Nat.ne_of_lt (Nat.lt_of_lt_of_le V_f.lt (Nat.le_of_eq g72.symm))
  have O := O.ext E72
  have V_f := V_f.ext E72
  have V_y0 : Arv Z h72 y0 k72 .byte (0 : Int32) [] (.int (0 : Int32)) := (Arv.new A72 (by decide)).pad (pad_rep [] (.int (0 : Int32)) 0)
  have R73 : ∀ zt, Steps p.tables e below (T72.setTop (mkF m 195 #[.val (.int p0), .val (.int p1), .val (.int p2), .val (.int p3), .val (.int p4), .val (.int p5), .val (.ref s1), .val (.ref s2), .val (.ref s3), .val (.ref s4), .val qv, .val (.ref f), .val (.ref y0), .val (.int ((((p4).toUInt32 >>> ((4 : Int32) &&& 31).toUInt32).toInt32) &&& (3 : Int32))), .unset, .unset, .unset, .unset, .unset] [(.int ((((p4).toUInt32 >>> ((4 : Int32) &&& 31).toUInt32).toInt32) &&& (3 : Int32)))])) zt → Steps p.tables e below (s₁.setTop (entryFrame m #[(.int p0), (.int p1), (.int p2), (.int p3), (.int p4), (.int p5)] maxLocals)) zt := by
    intro zt zk
    refine R71 zt ?_
    show Steps p.tables e below (T70.setTop (mkF m 181 #[.val (.int p0), .val (.int p1), .val (.int p2), .val (.int p3), .val (.int p4), .val (.int p5), .val (.ref s1), .val (.ref s2), .val (.ref s3), .val (.ref s4), .val qv, .val (.ref f), .unset, .unset, .unset, .unset, .unset, .unset, .unset] [(.int (0 : Int32))])) _
    refine st72 _ ?_
    show Steps p.tables e below (T72.setTop (mkF m 183 #[.val (.int p0), .val (.int p1), .val (.int p2), .val (.int p3), .val (.int p4), .val (.int p5), .val (.ref s1), .val (.ref s2), .val (.ref s3), .val (.ref s4), .val qv, .val (.ref f), .unset, .unset, .unset, .unset, .unset, .unset, .unset] [(.ref y0)])) _
    refine XS.astore X72.here hx rfl (hb hby at_183) rfl rfl (l' := #[.val (.int p0), .val (.int p1), .val (.int p2), .val (.int p3), .val (.int p4), .val (.int p5), .val (.ref s1), .val (.ref s2), .val (.ref s3), .val (.ref s4), .val qv, .val (.ref f), .val (.ref y0), .unset, .unset, .unset, .unset, .unset, .unset]) rfl ?_
    show Steps p.tables e below (T72.setTop (mkF m 185 #[.val (.int p0), .val (.int p1), .val (.int p2), .val (.int p3), .val (.int p4), .val (.int p5), .val (.ref s1), .val (.ref s2), .val (.ref s3), .val (.ref s4), .val qv, .val (.ref f), .val (.ref y0), .unset, .unset, .unset, .unset, .unset, .unset] [])) _
    refine XS.iload X72.here hx rfl (hb hby at_185) rfl ?_
    show Steps p.tables e below (T72.setTop (mkF m 187 #[.val (.int p0), .val (.int p1), .val (.int p2), .val (.int p3), .val (.int p4), .val (.int p5), .val (.ref s1), .val (.ref s2), .val (.ref s3), .val (.ref s4), .val qv, .val (.ref f), .val (.ref y0), .unset, .unset, .unset, .unset, .unset, .unset] [(.int p4)])) _
    refine XS.iconst X72.here hx rfl (hb hby at_187) ?_
    show Steps p.tables e below (T72.setTop (mkF m 188 #[.val (.int p0), .val (.int p1), .val (.int p2), .val (.int p3), .val (.int p4), .val (.int p5), .val (.ref s1), .val (.ref s2), .val (.ref s3), .val (.ref s4), .val qv, .val (.ref f), .val (.ref y0), .unset, .unset, .unset, .unset, .unset, .unset] [(.int (4 : Int32)), (.int p4)])) _
    refine XS.iushr X72.here hx rfl (hb hby at_188) rfl ?_
    show Steps p.tables e below (T72.setTop (mkF m 189 #[.val (.int p0), .val (.int p1), .val (.int p2), .val (.int p3), .val (.int p4), .val (.int p5), .val (.ref s1), .val (.ref s2), .val (.ref s3), .val (.ref s4), .val qv, .val (.ref f), .val (.ref y0), .unset, .unset, .unset, .unset, .unset, .unset] [(.int (((p4).toUInt32 >>> ((4 : Int32) &&& 31).toUInt32).toInt32))])) _
    refine XS.iconst X72.here hx rfl (hb hby at_189) ?_
    show Steps p.tables e below (T72.setTop (mkF m 190 #[.val (.int p0), .val (.int p1), .val (.int p2), .val (.int p3), .val (.int p4), .val (.int p5), .val (.ref s1), .val (.ref s2), .val (.ref s3), .val (.ref s4), .val qv, .val (.ref f), .val (.ref y0), .unset, .unset, .unset, .unset, .unset, .unset] [(.int (3 : Int32)), (.int (((p4).toUInt32 >>> ((4 : Int32) &&& 31).toUInt32).toInt32))])) _
    refine XS.iand X72.here hx rfl (hb hby at_190) rfl ?_
    show Steps p.tables e below (T72.setTop (mkF m 191 #[.val (.int p0), .val (.int p1), .val (.int p2), .val (.int p3), .val (.int p4), .val (.int p5), .val (.ref s1), .val (.ref s2), .val (.ref s3), .val (.ref s4), .val qv, .val (.ref f), .val (.ref y0), .unset, .unset, .unset, .unset, .unset, .unset] [(.int ((((p4).toUInt32 >>> ((4 : Int32) &&& 31).toUInt32).toInt32) &&& (3 : Int32)))])) _
    refine XS.istore X72.here hx rfl (hb hby at_191) rfl (l' := #[.val (.int p0), .val (.int p1), .val (.int p2), .val (.int p3), .val (.int p4), .val (.int p5), .val (.ref s1), .val (.ref s2), .val (.ref s3), .val (.ref s4), .val qv, .val (.ref f), .val (.ref y0), .val (.int ((((p4).toUInt32 >>> ((4 : Int32) &&& 31).toUInt32).toInt32) &&& (3 : Int32))), .unset, .unset, .unset, .unset, .unset]) rfl ?_
    show Steps p.tables e below (T72.setTop (mkF m 193 #[.val (.int p0), .val (.int p1), .val (.int p2), .val (.int p3), .val (.int p4), .val (.int p5), .val (.ref s1), .val (.ref s2), .val (.ref s3), .val (.ref s4), .val qv, .val (.ref f), .val (.ref y0), .val (.int ((((p4).toUInt32 >>> ((4 : Int32) &&& 31).toUInt32).toInt32) &&& (3 : Int32))), .unset, .unset, .unset, .unset, .unset] [])) _
    refine XS.iload X72.here hx rfl (hb hby at_193) rfl ?_
    exact zk
  have R74 : ∀ zt, Steps p.tables e below (T72.setTop (mkF m 215 #[.val (.int p0), .val (.int p1), .val (.int p2), .val (.int p3), .val (.int p4), .val (.int p5), .val (.ref s1), .val (.ref s2), .val (.ref s3), .val (.ref s4), .val qv, .val (.ref f), .val (.ref y0), .val (.int ((((p4).toUInt32 >>> ((4 : Int32) &&& 31).toUInt32).toInt32) &&& (3 : Int32))), .unset, .unset, .unset, .unset, .unset] [(if ((((p4).toUInt32 >>> ((4 : Int32) &&& 31).toUInt32).toInt32) &&& (3 : Int32)) = (0 : Int32) then .null else (if ((((p4).toUInt32 >>> ((4 : Int32) &&& 31).toUInt32).toInt32) &&& (3 : Int32)) = (1 : Int32) then (.ref y0) else (.ref f)) : Value)])) zt → Steps p.tables e below (s₁.setTop (entryFrame m #[(.int p0), (.int p1), (.int p2), (.int p3), (.int p4), (.int p5)] maxLocals)) zt := by
    by_cases hc75 : ((((p4).toUInt32 >>> ((4 : Int32) &&& 31).toUInt32).toInt32) &&& (3 : Int32)) = (0 : Int32)
    ·
      skip
      have R76 : ∀ zt, Steps p.tables e below (T72.setTop (mkF m 215 #[.val (.int p0), .val (.int p1), .val (.int p2), .val (.int p3), .val (.int p4), .val (.int p5), .val (.ref s1), .val (.ref s2), .val (.ref s3), .val (.ref s4), .val qv, .val (.ref f), .val (.ref y0), .val (.int ((((p4).toUInt32 >>> ((4 : Int32) &&& 31).toUInt32).toInt32) &&& (3 : Int32))), .unset, .unset, .unset, .unset, .unset] [.null])) zt → Steps p.tables e below (s₁.setTop (entryFrame m #[(.int p0), (.int p1), (.int p2), (.int p3), (.int p4), (.int p5)] maxLocals)) zt := by
        intro zt zk
        refine R73 zt ?_
        show Steps p.tables e below (T72.setTop (mkF m 195 #[.val (.int p0), .val (.int p1), .val (.int p2), .val (.int p3), .val (.int p4), .val (.int p5), .val (.ref s1), .val (.ref s2), .val (.ref s3), .val (.ref s4), .val qv, .val (.ref f), .val (.ref y0), .val (.int ((((p4).toUInt32 >>> ((4 : Int32) &&& 31).toUInt32).toInt32) &&& (3 : Int32))), .unset, .unset, .unset, .unset, .unset] [(.int ((((p4).toUInt32 >>> ((4 : Int32) &&& 31).toUInt32).toInt32) &&& (3 : Int32)))])) _
        refine XS.ifNo X72.here hx rfl (hb hby at_195) rfl ((if0 _ _).trans (teq hc75).2) ?_
        show Steps p.tables e below (T72.setTop (mkF m 198 #[.val (.int p0), .val (.int p1), .val (.int p2), .val (.int p3), .val (.int p4), .val (.int p5), .val (.ref s1), .val (.ref s2), .val (.ref s3), .val (.ref s4), .val qv, .val (.ref f), .val (.ref y0), .val (.int ((((p4).toUInt32 >>> ((4 : Int32) &&& 31).toUInt32).toInt32) &&& (3 : Int32))), .unset, .unset, .unset, .unset, .unset] [])) _
        refine XS.aconstNull X72.here hx rfl (hb hby at_198) ?_
        show Steps p.tables e below (T72.setTop (mkF m 199 #[.val (.int p0), .val (.int p1), .val (.int p2), .val (.int p3), .val (.int p4), .val (.int p5), .val (.ref s1), .val (.ref s2), .val (.ref s3), .val (.ref s4), .val qv, .val (.ref f), .val (.ref y0), .val (.int ((((p4).toUInt32 >>> ((4 : Int32) &&& 31).toUInt32).toInt32) &&& (3 : Int32))), .unset, .unset, .unset, .unset, .unset] [.null])) _
        refine XS.goto X72.here hx rfl (pc0 := 199) (pc' := 215) rfl (hb hby at_199) (by decide) (by decide) ?_
        exact zk
      refine fun zt zk => R76 zt ?_
      have q77 : (if ((((p4).toUInt32 >>> ((4 : Int32) &&& 31).toUInt32).toInt32) &&& (3 : Int32)) = (0 : Int32) then .null else (if ((((p4).toUInt32 >>> ((4 : Int32) &&& 31).toUInt32).toInt32) &&& (3 : Int32)) = (1 : Int32) then (.ref y0) else (.ref f)) : Value) = .null := (if_pos hc75)
      rw [q77] at zk
      try rw [q77]
      exact zk
    ·
      skip
      have R79 : ∀ zt, Steps p.tables e below (T72.setTop (mkF m 205 #[.val (.int p0), .val (.int p1), .val (.int p2), .val (.int p3), .val (.int p4), .val (.int p5), .val (.ref s1), .val (.ref s2), .val (.ref s3), .val (.ref s4), .val qv, .val (.ref f), .val (.ref y0), .val (.int ((((p4).toUInt32 >>> ((4 : Int32) &&& 31).toUInt32).toInt32) &&& (3 : Int32))), .unset, .unset, .unset, .unset, .unset] [(.int (1 : Int32)), (.int ((((p4).toUInt32 >>> ((4 : Int32) &&& 31).toUInt32).toInt32) &&& (3 : Int32)))])) zt → Steps p.tables e below (s₁.setTop (entryFrame m #[(.int p0), (.int p1), (.int p2), (.int p3), (.int p4), (.int p5)] maxLocals)) zt := by
        intro zt zk
        refine R73 zt ?_
        show Steps p.tables e below (T72.setTop (mkF m 195 #[.val (.int p0), .val (.int p1), .val (.int p2), .val (.int p3), .val (.int p4), .val (.int p5), .val (.ref s1), .val (.ref s2), .val (.ref s3), .val (.ref s4), .val qv, .val (.ref f), .val (.ref y0), .val (.int ((((p4).toUInt32 >>> ((4 : Int32) &&& 31).toUInt32).toInt32) &&& (3 : Int32))), .unset, .unset, .unset, .unset, .unset] [(.int ((((p4).toUInt32 >>> ((4 : Int32) &&& 31).toUInt32).toInt32) &&& (3 : Int32)))])) _
        refine XS.ifYes X72.here hx rfl (pc0 := 195) (pc' := 202) rfl (hb hby at_195) rfl ((if0 _ _).trans (feq hc75).2) (by decide) (by decide) ?_
        show Steps p.tables e below (T72.setTop (mkF m 202 #[.val (.int p0), .val (.int p1), .val (.int p2), .val (.int p3), .val (.int p4), .val (.int p5), .val (.ref s1), .val (.ref s2), .val (.ref s3), .val (.ref s4), .val qv, .val (.ref f), .val (.ref y0), .val (.int ((((p4).toUInt32 >>> ((4 : Int32) &&& 31).toUInt32).toInt32) &&& (3 : Int32))), .unset, .unset, .unset, .unset, .unset] [])) _
        refine XS.iload X72.here hx rfl (hb hby at_202) rfl ?_
        show Steps p.tables e below (T72.setTop (mkF m 204 #[.val (.int p0), .val (.int p1), .val (.int p2), .val (.int p3), .val (.int p4), .val (.int p5), .val (.ref s1), .val (.ref s2), .val (.ref s3), .val (.ref s4), .val qv, .val (.ref f), .val (.ref y0), .val (.int ((((p4).toUInt32 >>> ((4 : Int32) &&& 31).toUInt32).toInt32) &&& (3 : Int32))), .unset, .unset, .unset, .unset, .unset] [(.int ((((p4).toUInt32 >>> ((4 : Int32) &&& 31).toUInt32).toInt32) &&& (3 : Int32)))])) _
        refine XS.iconst X72.here hx rfl (hb hby at_204) ?_
        exact zk
      by_cases hc78 : ((((p4).toUInt32 >>> ((4 : Int32) &&& 31).toUInt32).toInt32) &&& (3 : Int32)) = (1 : Int32)
      ·
        skip
        have R80 : ∀ zt, Steps p.tables e below (T72.setTop (mkF m 215 #[.val (.int p0), .val (.int p1), .val (.int p2), .val (.int p3), .val (.int p4), .val (.int p5), .val (.ref s1), .val (.ref s2), .val (.ref s3), .val (.ref s4), .val qv, .val (.ref f), .val (.ref y0), .val (.int ((((p4).toUInt32 >>> ((4 : Int32) &&& 31).toUInt32).toInt32) &&& (3 : Int32))), .unset, .unset, .unset, .unset, .unset] [(.ref y0)])) zt → Steps p.tables e below (s₁.setTop (entryFrame m #[(.int p0), (.int p1), (.int p2), (.int p3), (.int p4), (.int p5)] maxLocals)) zt := by
          intro zt zk
          refine R79 zt ?_
          show Steps p.tables e below (T72.setTop (mkF m 205 #[.val (.int p0), .val (.int p1), .val (.int p2), .val (.int p3), .val (.int p4), .val (.int p5), .val (.ref s1), .val (.ref s2), .val (.ref s3), .val (.ref s4), .val qv, .val (.ref f), .val (.ref y0), .val (.int ((((p4).toUInt32 >>> ((4 : Int32) &&& 31).toUInt32).toInt32) &&& (3 : Int32))), .unset, .unset, .unset, .unset, .unset] [(.int (1 : Int32)), (.int ((((p4).toUInt32 >>> ((4 : Int32) &&& 31).toUInt32).toInt32) &&& (3 : Int32)))])) _
          refine XS.icmpNo X72.here hx rfl (hb hby at_205) rfl (teq hc78).2 ?_
          show Steps p.tables e below (T72.setTop (mkF m 208 #[.val (.int p0), .val (.int p1), .val (.int p2), .val (.int p3), .val (.int p4), .val (.int p5), .val (.ref s1), .val (.ref s2), .val (.ref s3), .val (.ref s4), .val qv, .val (.ref f), .val (.ref y0), .val (.int ((((p4).toUInt32 >>> ((4 : Int32) &&& 31).toUInt32).toInt32) &&& (3 : Int32))), .unset, .unset, .unset, .unset, .unset] [])) _
          refine XS.aload X72.here hx rfl (hb hby at_208) rfl rfl ?_
          show Steps p.tables e below (T72.setTop (mkF m 210 #[.val (.int p0), .val (.int p1), .val (.int p2), .val (.int p3), .val (.int p4), .val (.int p5), .val (.ref s1), .val (.ref s2), .val (.ref s3), .val (.ref s4), .val qv, .val (.ref f), .val (.ref y0), .val (.int ((((p4).toUInt32 >>> ((4 : Int32) &&& 31).toUInt32).toInt32) &&& (3 : Int32))), .unset, .unset, .unset, .unset, .unset] [(.ref y0)])) _
          refine XS.goto X72.here hx rfl (pc0 := 210) (pc' := 215) rfl (hb hby at_210) (by decide) (by decide) ?_
          exact zk
        refine fun zt zk => R80 zt ?_
        have q81 : (if ((((p4).toUInt32 >>> ((4 : Int32) &&& 31).toUInt32).toInt32) &&& (3 : Int32)) = (0 : Int32) then .null else (if ((((p4).toUInt32 >>> ((4 : Int32) &&& 31).toUInt32).toInt32) &&& (3 : Int32)) = (1 : Int32) then (.ref y0) else (.ref f)) : Value) = (.ref y0) := ((if_neg hc75).trans (if_pos hc78))
        rw [q81] at zk
        try rw [q81]
        exact zk
      ·
        skip
        have R82 : ∀ zt, Steps p.tables e below (T72.setTop (mkF m 215 #[.val (.int p0), .val (.int p1), .val (.int p2), .val (.int p3), .val (.int p4), .val (.int p5), .val (.ref s1), .val (.ref s2), .val (.ref s3), .val (.ref s4), .val qv, .val (.ref f), .val (.ref y0), .val (.int ((((p4).toUInt32 >>> ((4 : Int32) &&& 31).toUInt32).toInt32) &&& (3 : Int32))), .unset, .unset, .unset, .unset, .unset] [(.ref f)])) zt → Steps p.tables e below (s₁.setTop (entryFrame m #[(.int p0), (.int p1), (.int p2), (.int p3), (.int p4), (.int p5)] maxLocals)) zt := by
          intro zt zk
          refine R79 zt ?_
          show Steps p.tables e below (T72.setTop (mkF m 205 #[.val (.int p0), .val (.int p1), .val (.int p2), .val (.int p3), .val (.int p4), .val (.int p5), .val (.ref s1), .val (.ref s2), .val (.ref s3), .val (.ref s4), .val qv, .val (.ref f), .val (.ref y0), .val (.int ((((p4).toUInt32 >>> ((4 : Int32) &&& 31).toUInt32).toInt32) &&& (3 : Int32))), .unset, .unset, .unset, .unset, .unset] [(.int (1 : Int32)), (.int ((((p4).toUInt32 >>> ((4 : Int32) &&& 31).toUInt32).toInt32) &&& (3 : Int32)))])) _
          refine XS.icmpYes X72.here hx rfl (pc0 := 205) (pc' := 213) rfl (hb hby at_205) rfl (feq hc78).2 (by decide) (by decide) ?_
          show Steps p.tables e below (T72.setTop (mkF m 213 #[.val (.int p0), .val (.int p1), .val (.int p2), .val (.int p3), .val (.int p4), .val (.int p5), .val (.ref s1), .val (.ref s2), .val (.ref s3), .val (.ref s4), .val qv, .val (.ref f), .val (.ref y0), .val (.int ((((p4).toUInt32 >>> ((4 : Int32) &&& 31).toUInt32).toInt32) &&& (3 : Int32))), .unset, .unset, .unset, .unset, .unset] [])) _
          refine XS.aload X72.here hx rfl (hb hby at_213) rfl rfl ?_
          exact zk
        refine fun zt zk => R82 zt ?_
        have q83 : (if ((((p4).toUInt32 >>> ((4 : Int32) &&& 31).toUInt32).toInt32) &&& (3 : Int32)) = (0 : Int32) then .null else (if ((((p4).toUInt32 >>> ((4 : Int32) &&& 31).toUInt32).toInt32) &&& (3 : Int32)) = (1 : Int32) then (.ref y0) else (.ref f)) : Value) = (.ref f) := ((if_neg hc75).trans (if_neg hc78))
        rw [q83] at zk
        try rw [q83]
        exact zk
  obtain ⟨bv, ev_bv⟩ : ∃ z : Value, z = (if ((((p4).toUInt32 >>> ((4 : Int32) &&& 31).toUInt32).toInt32) &&& (3 : Int32)) = (0 : Int32) then .null else (if ((((p4).toUInt32 >>> ((4 : Int32) &&& 31).toUInt32).toInt32) &&& (3 : Int32)) = (1 : Int32) then (.ref y0) else (.ref f)) : Value) := ⟨_, rfl⟩
  rw [← ev_bv] at R74
  have hr_bv : bv.isRef = true := by rw [ev_bv]; split <;> first | rfl | (split <;> rfl)
  have R84 : ∀ zt, Steps p.tables e below (T72.setTop (mkF m 217 #[.val (.int p0), .val (.int p1), .val (.int p2), .val (.int p3), .val (.int p4), .val (.int p5), .val (.ref s1), .val (.ref s2), .val (.ref s3), .val (.ref s4), .val qv, .val (.ref f), .val (.ref y0), .val (.int ((((p4).toUInt32 >>> ((4 : Int32) &&& 31).toUInt32).toInt32) &&& (3 : Int32))), .val bv, .unset, .unset, .unset, .unset] [])) zt → Steps p.tables e below (s₁.setTop (entryFrame m #[(.int p0), (.int p1), (.int p2), (.int p3), (.int p4), (.int p5)] maxLocals)) zt := by
    intro zt zk
    refine R74 zt ?_
    show Steps p.tables e below (T72.setTop (mkF m 215 #[.val (.int p0), .val (.int p1), .val (.int p2), .val (.int p3), .val (.int p4), .val (.int p5), .val (.ref s1), .val (.ref s2), .val (.ref s3), .val (.ref s4), .val qv, .val (.ref f), .val (.ref y0), .val (.int ((((p4).toUInt32 >>> ((4 : Int32) &&& 31).toUInt32).toInt32) &&& (3 : Int32))), .unset, .unset, .unset, .unset, .unset] [bv])) _
    refine XS.astore X72.here hx rfl (hb hby at_215) rfl hr_bv (l' := #[.val (.int p0), .val (.int p1), .val (.int p2), .val (.int p3), .val (.int p4), .val (.int p5), .val (.ref s1), .val (.ref s2), .val (.ref s3), .val (.ref s4), .val qv, .val (.ref f), .val (.ref y0), .val (.int ((((p4).toUInt32 >>> ((4 : Int32) &&& 31).toUInt32).toInt32) &&& (3 : Int32))), .val bv, .unset, .unset, .unset, .unset]) (XS.store1 rfl (Or.inl rfl) (own_cat hr_bv)) ?_
    exact zk
  obtain ⟨T85, h85, X85, e85, E85, A85, D85, -, st85⟩ := newO X72 hx hZ hown (hw _ (List.mem_of_getElem? (i := 30) rfl)) (hw _ (List.mem_of_getElem? (i := 31) rfl)) (hw _ (List.mem_of_getElem? (i := 32) rfl)) e72 (g := (mkF m 217 #[.val (.int p0), .val (.int p1), .val (.int p2), .val (.int p3), .val (.int p4), .val (.int p5), .val (.ref s1), .val (.ref s2), .val (.ref s3), .val (.ref s4), .val qv, .val (.ref f), .val (.ref y0), .val (.int ((((p4).toUInt32 >>> ((4 : Int32) &&& 31).toUInt32).toInt32) &&& (3 : Int32))), .val bv, .unset, .unset, .unset, .unset] [])) rfl (hb hby at_217) (by decide) (by decide)
  obtain ⟨b, g85⟩ : ∃ z, z = h72.size := ⟨_, rfl⟩
  rw [← g85] at A85 D85 st85
  have ge_b : n0 ≤ b := by rw [g85]; exact Sz72
  have Sz85 := Nat.le_trans Sz72 E85.1
  have ne_f_b : f ≠ b := Nat.ne_of_lt (Nat.lt_of_lt_of_le V_f.lt (Nat.le_of_eq g85.symm))
  have ne_y0_b : y0 ≠ b := Nat.ne_of_lt (Nat.lt_of_lt_of_le V_y0.lt (Nat.le_of_eq g85.symm))
  have O := O.ext E85
  have V_f := V_f.ext E85
  have V_y0 := V_y0.ext E85
  have E_b := A85
  have F_method_b : Fld Z h85 b "com/example/accesstrail/accesstrail/server/RequestReader$Head" "method" "Ljava/lang/String;" .null := D85 (Or.inr (hw _ (List.mem_of_getElem? (i := 43) rfl))) (ty := (.object "java/lang/String")) (by decide)
  have F_target_b : Fld Z h85 b "com/example/accesstrail/accesstrail/server/RequestReader$Head" "target" "Ljava/lang/String;" .null := D85 (Or.inr (hw _ (List.mem_of_getElem? (i := 45) rfl))) (ty := (.object "java/lang/String")) (by decide)
  have F_path_b : Fld Z h85 b "com/example/accesstrail/accesstrail/server/RequestReader$Head" "path" "Ljava/lang/String;" .null := D85 (Or.inr (hw _ (List.mem_of_getElem? (i := 47) rfl))) (ty := (.object "java/lang/String")) (by decide)
  have F_query_b : Fld Z h85 b "com/example/accesstrail/accesstrail/server/RequestReader$Head" "query" "Ljava/lang/String;" .null := D85 (Or.inr (hw _ (List.mem_of_getElem? (i := 49) rfl))) (ty := (.object "java/lang/String")) (by decide)
  have F_fields_b : Fld Z h85 b "com/example/accesstrail/accesstrail/server/RequestReader$Head" "fields" "Ljava/util/Map;" .null := D85 (Or.inr (hw _ (List.mem_of_getElem? (i := 51) rfl))) (ty := (.object "java/util/Map")) (by decide)
  have F_length_b : Fld Z h85 b "com/example/accesstrail/accesstrail/server/RequestReader$Head" "length" "I" (.int (0 : Int32)) := D85 (Or.inr (hw _ (List.mem_of_getElem? (i := 53) rfl))) (ty := .int) (by decide)
  have F_persistent_b : Fld Z h85 b "com/example/accesstrail/accesstrail/server/RequestReader$Head" "persistent" "Z" (.int (0 : Int32)) := D85 (Or.inr (hw _ (List.mem_of_getElem? (i := 55) rfl))) (ty := .boolean) (by decide)
  have F_expectsContinue_b : Fld Z h85 b "com/example/accesstrail/accesstrail/server/RequestReader$Head" "expectsContinue" "Z" (.int (0 : Int32)) := D85 (Or.inr (hw _ (List.mem_of_getElem? (i := 57) rfl))) (ty := .boolean) (by decide)
  have F_takesChunked_b : Fld Z h85 b "com/example/accesstrail/accesstrail/server/RequestReader$Head" "takesChunked" "Z" (.int (0 : Int32)) := D85 (Or.inr (hw _ (List.mem_of_getElem? (i := 59) rfl))) (ty := .boolean) (by decide)
  have R86 : ∀ zt, Steps p.tables e below (T85.setTop (mkF m 235 #[.val (.int p0), .val (.int p1), .val (.int p2), .val (.int p3), .val (.int p4), .val (.int p5), .val (.ref s1), .val (.ref s2), .val (.ref s3), .val (.ref s4), .val qv, .val (.ref f), .val (.ref y0), .val (.int ((((p4).toUInt32 >>> ((4 : Int32) &&& 31).toUInt32).toInt32) &&& (3 : Int32))), .val bv, .unset, .unset, .unset, .unset] [(.int (p4 &&& (1 : Int32))), (.int p3), .null, qv, (.ref s3), (.ref s2), (.ref s1), (.ref b), (.ref b)])) zt → Steps p.tables e below (s₁.setTop (entryFrame m #[(.int p0), (.int p1), (.int p2), (.int p3), (.int p4), (.int p5)] maxLocals)) zt := by
    intro zt zk
    refine R84 zt ?_
    show Steps p.tables e below (T72.setTop (mkF m 217 #[.val (.int p0), .val (.int p1), .val (.int p2), .val (.int p3), .val (.int p4), .val (.int p5), .val (.ref s1), .val (.ref s2), .val (.ref s3), .val (.ref s4), .val qv, .val (.ref f), .val (.ref y0), .val (.int ((((p4).toUInt32 >>> ((4 : Int32) &&& 31).toUInt32).toInt32) &&& (3 : Int32))), .val bv, .unset, .unset, .unset, .unset] [])) _
    refine st85 _ ?_
    show Steps p.tables e below (T85.setTop (mkF m 220 #[.val (.int p0), .val (.int p1), .val (.int p2), .val (.int p3), .val (.int p4), .val (.int p5), .val (.ref s1), .val (.ref s2), .val (.ref s3), .val (.ref s4), .val qv, .val (.ref f), .val (.ref y0), .val (.int ((((p4).toUInt32 >>> ((4 : Int32) &&& 31).toUInt32).toInt32) &&& (3 : Int32))), .val bv, .unset, .unset, .unset, .unset] [(.ref b)])) _
    refine XS.dup X85.here hx rfl (hb hby at_220) rfl rfl ?_
    show Steps p.tables e below (T85.setTop (mkF m 221 #[.val (.int p0), .val (.int p1), .val (.int p2), .val (.int p3), .val (.int p4), .val (.int p5), .val (.ref s1), .val (.ref s2), .val (.ref s3), .val (.ref s4), .val qv, .val (.ref f), .val (.ref y0), .val (.int ((((p4).toUInt32 >>> ((4 : Int32) &&& 31).toUInt32).toInt32) &&& (3 : Int32))), .val bv, .unset, .unset, .unset, .unset] [(.ref b), (.ref b)])) _
    refine XS.aload X85.here hx rfl (hb hby at_221) rfl rfl ?_
    show Steps p.tables e below (T85.setTop (mkF m 223 #[.val (.int p0), .val (.int p1), .val (.int p2), .val (.int p3), .val (.int p4), .val (.int p5), .val (.ref s1), .val (.ref s2), .val (.ref s3), .val (.ref s4), .val qv, .val (.ref f), .val (.ref y0), .val (.int ((((p4).toUInt32 >>> ((4 : Int32) &&& 31).toUInt32).toInt32) &&& (3 : Int32))), .val bv, .unset, .unset, .unset, .unset] [(.ref s1), (.ref b), (.ref b)])) _
    refine XS.aload X85.here hx rfl (hb hby at_223) rfl rfl ?_
    show Steps p.tables e below (T85.setTop (mkF m 225 #[.val (.int p0), .val (.int p1), .val (.int p2), .val (.int p3), .val (.int p4), .val (.int p5), .val (.ref s1), .val (.ref s2), .val (.ref s3), .val (.ref s4), .val qv, .val (.ref f), .val (.ref y0), .val (.int ((((p4).toUInt32 >>> ((4 : Int32) &&& 31).toUInt32).toInt32) &&& (3 : Int32))), .val bv, .unset, .unset, .unset, .unset] [(.ref s2), (.ref s1), (.ref b), (.ref b)])) _
    refine XS.aload X85.here hx rfl (hb hby at_225) rfl rfl ?_
    show Steps p.tables e below (T85.setTop (mkF m 227 #[.val (.int p0), .val (.int p1), .val (.int p2), .val (.int p3), .val (.int p4), .val (.int p5), .val (.ref s1), .val (.ref s2), .val (.ref s3), .val (.ref s4), .val qv, .val (.ref f), .val (.ref y0), .val (.int ((((p4).toUInt32 >>> ((4 : Int32) &&& 31).toUInt32).toInt32) &&& (3 : Int32))), .val bv, .unset, .unset, .unset, .unset] [(.ref s3), (.ref s2), (.ref s1), (.ref b), (.ref b)])) _
    refine XS.aload X85.here hx rfl (hb hby at_227) rfl hr_qv ?_
    show Steps p.tables e below (T85.setTop (mkF m 229 #[.val (.int p0), .val (.int p1), .val (.int p2), .val (.int p3), .val (.int p4), .val (.int p5), .val (.ref s1), .val (.ref s2), .val (.ref s3), .val (.ref s4), .val qv, .val (.ref f), .val (.ref y0), .val (.int ((((p4).toUInt32 >>> ((4 : Int32) &&& 31).toUInt32).toInt32) &&& (3 : Int32))), .val bv, .unset, .unset, .unset, .unset] [qv, (.ref s3), (.ref s2), (.ref s1), (.ref b), (.ref b)])) _
    refine XS.aconstNull X85.here hx rfl (hb hby at_229) ?_
    show Steps p.tables e below (T85.setTop (mkF m 230 #[.val (.int p0), .val (.int p1), .val (.int p2), .val (.int p3), .val (.int p4), .val (.int p5), .val (.ref s1), .val (.ref s2), .val (.ref s3), .val (.ref s4), .val qv, .val (.ref f), .val (.ref y0), .val (.int ((((p4).toUInt32 >>> ((4 : Int32) &&& 31).toUInt32).toInt32) &&& (3 : Int32))), .val bv, .unset, .unset, .unset, .unset] [.null, qv, (.ref s3), (.ref s2), (.ref s1), (.ref b), (.ref b)])) _
    refine XS.iloadN X85.here hx rfl (hb hby at_230) rfl ?_
    show Steps p.tables e below (T85.setTop (mkF m 231 #[.val (.int p0), .val (.int p1), .val (.int p2), .val (.int p3), .val (.int p4), .val (.int p5), .val (.ref s1), .val (.ref s2), .val (.ref s3), .val (.ref s4), .val qv, .val (.ref f), .val (.ref y0), .val (.int ((((p4).toUInt32 >>> ((4 : Int32) &&& 31).toUInt32).toInt32) &&& (3 : Int32))), .val bv, .unset, .unset, .unset, .unset] [(.int p3), .null, qv, (.ref s3), (.ref s2), (.ref s1), (.ref b), (.ref b)])) _
    refine XS.iload X85.here hx rfl (hb hby at_231) rfl ?_
    show Steps p.tables e below (T85.setTop (mkF m 233 #[.val (.int p0), .val (.int p1), .val (.int p2), .val (.int p3), .val (.int p4), .val (.int p5), .val (.ref s1), .val (.ref s2), .val (.ref s3), .val (.ref s4), .val qv, .val (.ref f), .val (.ref y0), .val (.int ((((p4).toUInt32 >>> ((4 : Int32) &&& 31).toUInt32).toInt32) &&& (3 : Int32))), .val bv, .unset, .unset, .unset, .unset] [(.int p4), (.int p3), .null, qv, (.ref s3), (.ref s2), (.ref s1), (.ref b), (.ref b)])) _
    refine XS.iconst X85.here hx rfl (hb hby at_233) ?_
    show Steps p.tables e below (T85.setTop (mkF m 234 #[.val (.int p0), .val (.int p1), .val (.int p2), .val (.int p3), .val (.int p4), .val (.int p5), .val (.ref s1), .val (.ref s2), .val (.ref s3), .val (.ref s4), .val qv, .val (.ref f), .val (.ref y0), .val (.int ((((p4).toUInt32 >>> ((4 : Int32) &&& 31).toUInt32).toInt32) &&& (3 : Int32))), .val bv, .unset, .unset, .unset, .unset] [(.int (1 : Int32)), (.int p4), (.int p3), .null, qv, (.ref s3), (.ref s2), (.ref s1), (.ref b), (.ref b)])) _
    refine XS.iand X85.here hx rfl (hb hby at_234) rfl ?_
    exact zk
  have R87 : ∀ zt, Steps p.tables e below (T85.setTop (mkF m 243 #[.val (.int p0), .val (.int p1), .val (.int p2), .val (.int p3), .val (.int p4), .val (.int p5), .val (.ref s1), .val (.ref s2), .val (.ref s3), .val (.ref s4), .val qv, .val (.ref f), .val (.ref y0), .val (.int ((((p4).toUInt32 >>> ((4 : Int32) &&& 31).toUInt32).toInt32) &&& (3 : Int32))), .val bv, .unset, .unset, .unset, .unset] [(.int (if (p4 &&& (1 : Int32)) = (0 : Int32) then (0 : Int32) else (1 : Int32) : Int32)), (.int p3), .null, qv, (.ref s3), (.ref s2), (.ref s1), (.ref b), (.ref b)])) zt → Steps p.tables e below (s₁.setTop (entryFrame m #[(.int p0), (.int p1), (.int p2), (.int p3), (.int p4), (.int p5)] maxLocals)) zt := by
    by_cases hc88 : (p4 &&& (1 : Int32)) = (0 : Int32)
    ·
      skip
      have R89 : ∀ zt, Steps p.tables e below (T85.setTop (mkF m 243 #[.val (.int p0), .val (.int p1), .val (.int p2), .val (.int p3), .val (.int p4), .val (.int p5), .val (.ref s1), .val (.ref s2), .val (.ref s3), .val (.ref s4), .val qv, .val (.ref f), .val (.ref y0), .val (.int ((((p4).toUInt32 >>> ((4 : Int32) &&& 31).toUInt32).toInt32) &&& (3 : Int32))), .val bv, .unset, .unset, .unset, .unset] [(.int (0 : Int32)), (.int p3), .null, qv, (.ref s3), (.ref s2), (.ref s1), (.ref b), (.ref b)])) zt → Steps p.tables e below (s₁.setTop (entryFrame m #[(.int p0), (.int p1), (.int p2), (.int p3), (.int p4), (.int p5)] maxLocals)) zt := by
        intro zt zk
        refine R86 zt ?_
        show Steps p.tables e below (T85.setTop (mkF m 235 #[.val (.int p0), .val (.int p1), .val (.int p2), .val (.int p3), .val (.int p4), .val (.int p5), .val (.ref s1), .val (.ref s2), .val (.ref s3), .val (.ref s4), .val qv, .val (.ref f), .val (.ref y0), .val (.int ((((p4).toUInt32 >>> ((4 : Int32) &&& 31).toUInt32).toInt32) &&& (3 : Int32))), .val bv, .unset, .unset, .unset, .unset] [(.int (p4 &&& (1 : Int32))), (.int p3), .null, qv, (.ref s3), (.ref s2), (.ref s1), (.ref b), (.ref b)])) _
        refine XS.ifYes X85.here hx rfl (pc0 := 235) (pc' := 242) rfl (hb hby at_235) rfl ((if0 _ _).trans (teq hc88).1) (by decide) (by decide) ?_
        show Steps p.tables e below (T85.setTop (mkF m 242 #[.val (.int p0), .val (.int p1), .val (.int p2), .val (.int p3), .val (.int p4), .val (.int p5), .val (.ref s1), .val (.ref s2), .val (.ref s3), .val (.ref s4), .val qv, .val (.ref f), .val (.ref y0), .val (.int ((((p4).toUInt32 >>> ((4 : Int32) &&& 31).toUInt32).toInt32) &&& (3 : Int32))), .val bv, .unset, .unset, .unset, .unset] [(.int p3), .null, qv, (.ref s3), (.ref s2), (.ref s1), (.ref b), (.ref b)])) _
        refine XS.iconst X85.here hx rfl (hb hby at_242) ?_
        exact zk
      refine fun zt zk => R89 zt ?_
      have q90 : (if (p4 &&& (1 : Int32)) = (0 : Int32) then (0 : Int32) else (1 : Int32) : Int32) = (0 : Int32) := (if_pos hc88)
      rw [q90] at zk
      try rw [q90]
      exact zk
    ·
      skip
      have R91 : ∀ zt, Steps p.tables e below (T85.setTop (mkF m 243 #[.val (.int p0), .val (.int p1), .val (.int p2), .val (.int p3), .val (.int p4), .val (.int p5), .val (.ref s1), .val (.ref s2), .val (.ref s3), .val (.ref s4), .val qv, .val (.ref f), .val (.ref y0), .val (.int ((((p4).toUInt32 >>> ((4 : Int32) &&& 31).toUInt32).toInt32) &&& (3 : Int32))), .val bv, .unset, .unset, .unset, .unset] [(.int (1 : Int32)), (.int p3), .null, qv, (.ref s3), (.ref s2), (.ref s1), (.ref b), (.ref b)])) zt → Steps p.tables e below (s₁.setTop (entryFrame m #[(.int p0), (.int p1), (.int p2), (.int p3), (.int p4), (.int p5)] maxLocals)) zt := by
        intro zt zk
        refine R86 zt ?_
        show Steps p.tables e below (T85.setTop (mkF m 235 #[.val (.int p0), .val (.int p1), .val (.int p2), .val (.int p3), .val (.int p4), .val (.int p5), .val (.ref s1), .val (.ref s2), .val (.ref s3), .val (.ref s4), .val qv, .val (.ref f), .val (.ref y0), .val (.int ((((p4).toUInt32 >>> ((4 : Int32) &&& 31).toUInt32).toInt32) &&& (3 : Int32))), .val bv, .unset, .unset, .unset, .unset] [(.int (p4 &&& (1 : Int32))), (.int p3), .null, qv, (.ref s3), (.ref s2), (.ref s1), (.ref b), (.ref b)])) _
        refine XS.ifNo X85.here hx rfl (hb hby at_235) rfl ((if0 _ _).trans (feq hc88).1) ?_
        show Steps p.tables e below (T85.setTop (mkF m 238 #[.val (.int p0), .val (.int p1), .val (.int p2), .val (.int p3), .val (.int p4), .val (.int p5), .val (.ref s1), .val (.ref s2), .val (.ref s3), .val (.ref s4), .val qv, .val (.ref f), .val (.ref y0), .val (.int ((((p4).toUInt32 >>> ((4 : Int32) &&& 31).toUInt32).toInt32) &&& (3 : Int32))), .val bv, .unset, .unset, .unset, .unset] [(.int p3), .null, qv, (.ref s3), (.ref s2), (.ref s1), (.ref b), (.ref b)])) _
        refine XS.iconst X85.here hx rfl (hb hby at_238) ?_
        show Steps p.tables e below (T85.setTop (mkF m 239 #[.val (.int p0), .val (.int p1), .val (.int p2), .val (.int p3), .val (.int p4), .val (.int p5), .val (.ref s1), .val (.ref s2), .val (.ref s3), .val (.ref s4), .val qv, .val (.ref f), .val (.ref y0), .val (.int ((((p4).toUInt32 >>> ((4 : Int32) &&& 31).toUInt32).toInt32) &&& (3 : Int32))), .val bv, .unset, .unset, .unset, .unset] [(.int (1 : Int32)), (.int p3), .null, qv, (.ref s3), (.ref s2), (.ref s1), (.ref b), (.ref b)])) _
        refine XS.goto X85.here hx rfl (pc0 := 239) (pc' := 243) rfl (hb hby at_239) (by decide) (by decide) ?_
        exact zk
      refine fun zt zk => R91 zt ?_
      have q92 : (if (p4 &&& (1 : Int32)) = (0 : Int32) then (0 : Int32) else (1 : Int32) : Int32) = (1 : Int32) := (if_neg hc88)
      rw [q92] at zk
      try rw [q92]
      exact zk
  have R93 : ∀ zt, Steps p.tables e below (T85.setTop (mkF m 247 #[.val (.int p0), .val (.int p1), .val (.int p2), .val (.int p3), .val (.int p4), .val (.int p5), .val (.ref s1), .val (.ref s2), .val (.ref s3), .val (.ref s4), .val qv, .val (.ref f), .val (.ref y0), .val (.int ((((p4).toUInt32 >>> ((4 : Int32) &&& 31).toUInt32).toInt32) &&& (3 : Int32))), .val bv, .unset, .unset, .unset, .unset] [(.int (p4 &&& (2 : Int32))), (.int (if (p4 &&& (1 : Int32)) = (0 : Int32) then (0 : Int32) else (1 : Int32) : Int32)), (.int p3), .null, qv, (.ref s3), (.ref s2), (.ref s1), (.ref b), (.ref b)])) zt → Steps p.tables e below (s₁.setTop (entryFrame m #[(.int p0), (.int p1), (.int p2), (.int p3), (.int p4), (.int p5)] maxLocals)) zt := by
    intro zt zk
    refine R87 zt ?_
    show Steps p.tables e below (T85.setTop (mkF m 243 #[.val (.int p0), .val (.int p1), .val (.int p2), .val (.int p3), .val (.int p4), .val (.int p5), .val (.ref s1), .val (.ref s2), .val (.ref s3), .val (.ref s4), .val qv, .val (.ref f), .val (.ref y0), .val (.int ((((p4).toUInt32 >>> ((4 : Int32) &&& 31).toUInt32).toInt32) &&& (3 : Int32))), .val bv, .unset, .unset, .unset, .unset] [(.int (if (p4 &&& (1 : Int32)) = (0 : Int32) then (0 : Int32) else (1 : Int32) : Int32)), (.int p3), .null, qv, (.ref s3), (.ref s2), (.ref s1), (.ref b), (.ref b)])) _
    refine XS.iload X85.here hx rfl (hb hby at_243) rfl ?_
    show Steps p.tables e below (T85.setTop (mkF m 245 #[.val (.int p0), .val (.int p1), .val (.int p2), .val (.int p3), .val (.int p4), .val (.int p5), .val (.ref s1), .val (.ref s2), .val (.ref s3), .val (.ref s4), .val qv, .val (.ref f), .val (.ref y0), .val (.int ((((p4).toUInt32 >>> ((4 : Int32) &&& 31).toUInt32).toInt32) &&& (3 : Int32))), .val bv, .unset, .unset, .unset, .unset] [(.int p4), (.int (if (p4 &&& (1 : Int32)) = (0 : Int32) then (0 : Int32) else (1 : Int32) : Int32)), (.int p3), .null, qv, (.ref s3), (.ref s2), (.ref s1), (.ref b), (.ref b)])) _
    refine XS.iconst X85.here hx rfl (hb hby at_245) ?_
    show Steps p.tables e below (T85.setTop (mkF m 246 #[.val (.int p0), .val (.int p1), .val (.int p2), .val (.int p3), .val (.int p4), .val (.int p5), .val (.ref s1), .val (.ref s2), .val (.ref s3), .val (.ref s4), .val qv, .val (.ref f), .val (.ref y0), .val (.int ((((p4).toUInt32 >>> ((4 : Int32) &&& 31).toUInt32).toInt32) &&& (3 : Int32))), .val bv, .unset, .unset, .unset, .unset] [(.int (2 : Int32)), (.int p4), (.int (if (p4 &&& (1 : Int32)) = (0 : Int32) then (0 : Int32) else (1 : Int32) : Int32)), (.int p3), .null, qv, (.ref s3), (.ref s2), (.ref s1), (.ref b), (.ref b)])) _
    refine XS.iand X85.here hx rfl (hb hby at_246) rfl ?_
    exact zk
  have R94 : ∀ zt, Steps p.tables e below (T85.setTop (mkF m 255 #[.val (.int p0), .val (.int p1), .val (.int p2), .val (.int p3), .val (.int p4), .val (.int p5), .val (.ref s1), .val (.ref s2), .val (.ref s3), .val (.ref s4), .val qv, .val (.ref f), .val (.ref y0), .val (.int ((((p4).toUInt32 >>> ((4 : Int32) &&& 31).toUInt32).toInt32) &&& (3 : Int32))), .val bv, .unset, .unset, .unset, .unset] [(.int (if (p4 &&& (2 : Int32)) = (0 : Int32) then (0 : Int32) else (1 : Int32) : Int32)), (.int (if (p4 &&& (1 : Int32)) = (0 : Int32) then (0 : Int32) else (1 : Int32) : Int32)), (.int p3), .null, qv, (.ref s3), (.ref s2), (.ref s1), (.ref b), (.ref b)])) zt → Steps p.tables e below (s₁.setTop (entryFrame m #[(.int p0), (.int p1), (.int p2), (.int p3), (.int p4), (.int p5)] maxLocals)) zt := by
    by_cases hc95 : (p4 &&& (2 : Int32)) = (0 : Int32)
    ·
      skip
      have R96 : ∀ zt, Steps p.tables e below (T85.setTop (mkF m 255 #[.val (.int p0), .val (.int p1), .val (.int p2), .val (.int p3), .val (.int p4), .val (.int p5), .val (.ref s1), .val (.ref s2), .val (.ref s3), .val (.ref s4), .val qv, .val (.ref f), .val (.ref y0), .val (.int ((((p4).toUInt32 >>> ((4 : Int32) &&& 31).toUInt32).toInt32) &&& (3 : Int32))), .val bv, .unset, .unset, .unset, .unset] [(.int (0 : Int32)), (.int (if (p4 &&& (1 : Int32)) = (0 : Int32) then (0 : Int32) else (1 : Int32) : Int32)), (.int p3), .null, qv, (.ref s3), (.ref s2), (.ref s1), (.ref b), (.ref b)])) zt → Steps p.tables e below (s₁.setTop (entryFrame m #[(.int p0), (.int p1), (.int p2), (.int p3), (.int p4), (.int p5)] maxLocals)) zt := by
        intro zt zk
        refine R93 zt ?_
        show Steps p.tables e below (T85.setTop (mkF m 247 #[.val (.int p0), .val (.int p1), .val (.int p2), .val (.int p3), .val (.int p4), .val (.int p5), .val (.ref s1), .val (.ref s2), .val (.ref s3), .val (.ref s4), .val qv, .val (.ref f), .val (.ref y0), .val (.int ((((p4).toUInt32 >>> ((4 : Int32) &&& 31).toUInt32).toInt32) &&& (3 : Int32))), .val bv, .unset, .unset, .unset, .unset] [(.int (p4 &&& (2 : Int32))), (.int (if (p4 &&& (1 : Int32)) = (0 : Int32) then (0 : Int32) else (1 : Int32) : Int32)), (.int p3), .null, qv, (.ref s3), (.ref s2), (.ref s1), (.ref b), (.ref b)])) _
        refine XS.ifYes X85.here hx rfl (pc0 := 247) (pc' := 254) rfl (hb hby at_247) rfl ((if0 _ _).trans (teq hc95).1) (by decide) (by decide) ?_
        show Steps p.tables e below (T85.setTop (mkF m 254 #[.val (.int p0), .val (.int p1), .val (.int p2), .val (.int p3), .val (.int p4), .val (.int p5), .val (.ref s1), .val (.ref s2), .val (.ref s3), .val (.ref s4), .val qv, .val (.ref f), .val (.ref y0), .val (.int ((((p4).toUInt32 >>> ((4 : Int32) &&& 31).toUInt32).toInt32) &&& (3 : Int32))), .val bv, .unset, .unset, .unset, .unset] [(.int (if (p4 &&& (1 : Int32)) = (0 : Int32) then (0 : Int32) else (1 : Int32) : Int32)), (.int p3), .null, qv, (.ref s3), (.ref s2), (.ref s1), (.ref b), (.ref b)])) _
        refine XS.iconst X85.here hx rfl (hb hby at_254) ?_
        exact zk
      refine fun zt zk => R96 zt ?_
      have q97 : (if (p4 &&& (2 : Int32)) = (0 : Int32) then (0 : Int32) else (1 : Int32) : Int32) = (0 : Int32) := (if_pos hc95)
      rw [q97] at zk
      try rw [q97]
      exact zk
    ·
      skip
      have R98 : ∀ zt, Steps p.tables e below (T85.setTop (mkF m 255 #[.val (.int p0), .val (.int p1), .val (.int p2), .val (.int p3), .val (.int p4), .val (.int p5), .val (.ref s1), .val (.ref s2), .val (.ref s3), .val (.ref s4), .val qv, .val (.ref f), .val (.ref y0), .val (.int ((((p4).toUInt32 >>> ((4 : Int32) &&& 31).toUInt32).toInt32) &&& (3 : Int32))), .val bv, .unset, .unset, .unset, .unset] [(.int (1 : Int32)), (.int (if (p4 &&& (1 : Int32)) = (0 : Int32) then (0 : Int32) else (1 : Int32) : Int32)), (.int p3), .null, qv, (.ref s3), (.ref s2), (.ref s1), (.ref b), (.ref b)])) zt → Steps p.tables e below (s₁.setTop (entryFrame m #[(.int p0), (.int p1), (.int p2), (.int p3), (.int p4), (.int p5)] maxLocals)) zt := by
        intro zt zk
        refine R93 zt ?_
        show Steps p.tables e below (T85.setTop (mkF m 247 #[.val (.int p0), .val (.int p1), .val (.int p2), .val (.int p3), .val (.int p4), .val (.int p5), .val (.ref s1), .val (.ref s2), .val (.ref s3), .val (.ref s4), .val qv, .val (.ref f), .val (.ref y0), .val (.int ((((p4).toUInt32 >>> ((4 : Int32) &&& 31).toUInt32).toInt32) &&& (3 : Int32))), .val bv, .unset, .unset, .unset, .unset] [(.int (p4 &&& (2 : Int32))), (.int (if (p4 &&& (1 : Int32)) = (0 : Int32) then (0 : Int32) else (1 : Int32) : Int32)), (.int p3), .null, qv, (.ref s3), (.ref s2), (.ref s1), (.ref b), (.ref b)])) _
        refine XS.ifNo X85.here hx rfl (hb hby at_247) rfl ((if0 _ _).trans (feq hc95).1) ?_
        show Steps p.tables e below (T85.setTop (mkF m 250 #[.val (.int p0), .val (.int p1), .val (.int p2), .val (.int p3), .val (.int p4), .val (.int p5), .val (.ref s1), .val (.ref s2), .val (.ref s3), .val (.ref s4), .val qv, .val (.ref f), .val (.ref y0), .val (.int ((((p4).toUInt32 >>> ((4 : Int32) &&& 31).toUInt32).toInt32) &&& (3 : Int32))), .val bv, .unset, .unset, .unset, .unset] [(.int (if (p4 &&& (1 : Int32)) = (0 : Int32) then (0 : Int32) else (1 : Int32) : Int32)), (.int p3), .null, qv, (.ref s3), (.ref s2), (.ref s1), (.ref b), (.ref b)])) _
        refine XS.iconst X85.here hx rfl (hb hby at_250) ?_
        show Steps p.tables e below (T85.setTop (mkF m 251 #[.val (.int p0), .val (.int p1), .val (.int p2), .val (.int p3), .val (.int p4), .val (.int p5), .val (.ref s1), .val (.ref s2), .val (.ref s3), .val (.ref s4), .val qv, .val (.ref f), .val (.ref y0), .val (.int ((((p4).toUInt32 >>> ((4 : Int32) &&& 31).toUInt32).toInt32) &&& (3 : Int32))), .val bv, .unset, .unset, .unset, .unset] [(.int (1 : Int32)), (.int (if (p4 &&& (1 : Int32)) = (0 : Int32) then (0 : Int32) else (1 : Int32) : Int32)), (.int p3), .null, qv, (.ref s3), (.ref s2), (.ref s1), (.ref b), (.ref b)])) _
        refine XS.goto X85.here hx rfl (pc0 := 251) (pc' := 255) rfl (hb hby at_251) (by decide) (by decide) ?_
        exact zk
      refine fun zt zk => R98 zt ?_
      have q99 : (if (p4 &&& (2 : Int32)) = (0 : Int32) then (0 : Int32) else (1 : Int32) : Int32) = (1 : Int32) := (if_neg hc95)
      rw [q99] at zk
      try rw [q99]
      exact zk
  have R100 : ∀ zt, Steps p.tables e below (T85.setTop (mkF m 259 #[.val (.int p0), .val (.int p1), .val (.int p2), .val (.int p3), .val (.int p4), .val (.int p5), .val (.ref s1), .val (.ref s2), .val (.ref s3), .val (.ref s4), .val qv, .val (.ref f), .val (.ref y0), .val (.int ((((p4).toUInt32 >>> ((4 : Int32) &&& 31).toUInt32).toInt32) &&& (3 : Int32))), .val bv, .unset, .unset, .unset, .unset] [(.int (p4 &&& (4 : Int32))), (.int (if (p4 &&& (2 : Int32)) = (0 : Int32) then (0 : Int32) else (1 : Int32) : Int32)), (.int (if (p4 &&& (1 : Int32)) = (0 : Int32) then (0 : Int32) else (1 : Int32) : Int32)), (.int p3), .null, qv, (.ref s3), (.ref s2), (.ref s1), (.ref b), (.ref b)])) zt → Steps p.tables e below (s₁.setTop (entryFrame m #[(.int p0), (.int p1), (.int p2), (.int p3), (.int p4), (.int p5)] maxLocals)) zt := by
    intro zt zk
    refine R94 zt ?_
    show Steps p.tables e below (T85.setTop (mkF m 255 #[.val (.int p0), .val (.int p1), .val (.int p2), .val (.int p3), .val (.int p4), .val (.int p5), .val (.ref s1), .val (.ref s2), .val (.ref s3), .val (.ref s4), .val qv, .val (.ref f), .val (.ref y0), .val (.int ((((p4).toUInt32 >>> ((4 : Int32) &&& 31).toUInt32).toInt32) &&& (3 : Int32))), .val bv, .unset, .unset, .unset, .unset] [(.int (if (p4 &&& (2 : Int32)) = (0 : Int32) then (0 : Int32) else (1 : Int32) : Int32)), (.int (if (p4 &&& (1 : Int32)) = (0 : Int32) then (0 : Int32) else (1 : Int32) : Int32)), (.int p3), .null, qv, (.ref s3), (.ref s2), (.ref s1), (.ref b), (.ref b)])) _
    refine XS.iload X85.here hx rfl (hb hby at_255) rfl ?_
    show Steps p.tables e below (T85.setTop (mkF m 257 #[.val (.int p0), .val (.int p1), .val (.int p2), .val (.int p3), .val (.int p4), .val (.int p5), .val (.ref s1), .val (.ref s2), .val (.ref s3), .val (.ref s4), .val qv, .val (.ref f), .val (.ref y0), .val (.int ((((p4).toUInt32 >>> ((4 : Int32) &&& 31).toUInt32).toInt32) &&& (3 : Int32))), .val bv, .unset, .unset, .unset, .unset] [(.int p4), (.int (if (p4 &&& (2 : Int32)) = (0 : Int32) then (0 : Int32) else (1 : Int32) : Int32)), (.int (if (p4 &&& (1 : Int32)) = (0 : Int32) then (0 : Int32) else (1 : Int32) : Int32)), (.int p3), .null, qv, (.ref s3), (.ref s2), (.ref s1), (.ref b), (.ref b)])) _
    refine XS.iconst X85.here hx rfl (hb hby at_257) ?_
    show Steps p.tables e below (T85.setTop (mkF m 258 #[.val (.int p0), .val (.int p1), .val (.int p2), .val (.int p3), .val (.int p4), .val (.int p5), .val (.ref s1), .val (.ref s2), .val (.ref s3), .val (.ref s4), .val qv, .val (.ref f), .val (.ref y0), .val (.int ((((p4).toUInt32 >>> ((4 : Int32) &&& 31).toUInt32).toInt32) &&& (3 : Int32))), .val bv, .unset, .unset, .unset, .unset] [(.int (4 : Int32)), (.int p4), (.int (if (p4 &&& (2 : Int32)) = (0 : Int32) then (0 : Int32) else (1 : Int32) : Int32)), (.int (if (p4 &&& (1 : Int32)) = (0 : Int32) then (0 : Int32) else (1 : Int32) : Int32)), (.int p3), .null, qv, (.ref s3), (.ref s2), (.ref s1), (.ref b), (.ref b)])) _
    refine XS.iand X85.here hx rfl (hb hby at_258) rfl ?_
    exact zk
  have R101 : ∀ zt, Steps p.tables e below (T85.setTop (mkF m 267 #[.val (.int p0), .val (.int p1), .val (.int p2), .val (.int p3), .val (.int p4), .val (.int p5), .val (.ref s1), .val (.ref s2), .val (.ref s3), .val (.ref s4), .val qv, .val (.ref f), .val (.ref y0), .val (.int ((((p4).toUInt32 >>> ((4 : Int32) &&& 31).toUInt32).toInt32) &&& (3 : Int32))), .val bv, .unset, .unset, .unset, .unset] [(.int (if (p4 &&& (4 : Int32)) = (0 : Int32) then (0 : Int32) else (1 : Int32) : Int32)), (.int (if (p4 &&& (2 : Int32)) = (0 : Int32) then (0 : Int32) else (1 : Int32) : Int32)), (.int (if (p4 &&& (1 : Int32)) = (0 : Int32) then (0 : Int32) else (1 : Int32) : Int32)), (.int p3), .null, qv, (.ref s3), (.ref s2), (.ref s1), (.ref b), (.ref b)])) zt → Steps p.tables e below (s₁.setTop (entryFrame m #[(.int p0), (.int p1), (.int p2), (.int p3), (.int p4), (.int p5)] maxLocals)) zt := by
    by_cases hc102 : (p4 &&& (4 : Int32)) = (0 : Int32)
    ·
      skip
      have R103 : ∀ zt, Steps p.tables e below (T85.setTop (mkF m 267 #[.val (.int p0), .val (.int p1), .val (.int p2), .val (.int p3), .val (.int p4), .val (.int p5), .val (.ref s1), .val (.ref s2), .val (.ref s3), .val (.ref s4), .val qv, .val (.ref f), .val (.ref y0), .val (.int ((((p4).toUInt32 >>> ((4 : Int32) &&& 31).toUInt32).toInt32) &&& (3 : Int32))), .val bv, .unset, .unset, .unset, .unset] [(.int (0 : Int32)), (.int (if (p4 &&& (2 : Int32)) = (0 : Int32) then (0 : Int32) else (1 : Int32) : Int32)), (.int (if (p4 &&& (1 : Int32)) = (0 : Int32) then (0 : Int32) else (1 : Int32) : Int32)), (.int p3), .null, qv, (.ref s3), (.ref s2), (.ref s1), (.ref b), (.ref b)])) zt → Steps p.tables e below (s₁.setTop (entryFrame m #[(.int p0), (.int p1), (.int p2), (.int p3), (.int p4), (.int p5)] maxLocals)) zt := by
        intro zt zk
        refine R100 zt ?_
        show Steps p.tables e below (T85.setTop (mkF m 259 #[.val (.int p0), .val (.int p1), .val (.int p2), .val (.int p3), .val (.int p4), .val (.int p5), .val (.ref s1), .val (.ref s2), .val (.ref s3), .val (.ref s4), .val qv, .val (.ref f), .val (.ref y0), .val (.int ((((p4).toUInt32 >>> ((4 : Int32) &&& 31).toUInt32).toInt32) &&& (3 : Int32))), .val bv, .unset, .unset, .unset, .unset] [(.int (p4 &&& (4 : Int32))), (.int (if (p4 &&& (2 : Int32)) = (0 : Int32) then (0 : Int32) else (1 : Int32) : Int32)), (.int (if (p4 &&& (1 : Int32)) = (0 : Int32) then (0 : Int32) else (1 : Int32) : Int32)), (.int p3), .null, qv, (.ref s3), (.ref s2), (.ref s1), (.ref b), (.ref b)])) _
        refine XS.ifYes X85.here hx rfl (pc0 := 259) (pc' := 266) rfl (hb hby at_259) rfl ((if0 _ _).trans (teq hc102).1) (by decide) (by decide) ?_
        show Steps p.tables e below (T85.setTop (mkF m 266 #[.val (.int p0), .val (.int p1), .val (.int p2), .val (.int p3), .val (.int p4), .val (.int p5), .val (.ref s1), .val (.ref s2), .val (.ref s3), .val (.ref s4), .val qv, .val (.ref f), .val (.ref y0), .val (.int ((((p4).toUInt32 >>> ((4 : Int32) &&& 31).toUInt32).toInt32) &&& (3 : Int32))), .val bv, .unset, .unset, .unset, .unset] [(.int (if (p4 &&& (2 : Int32)) = (0 : Int32) then (0 : Int32) else (1 : Int32) : Int32)), (.int (if (p4 &&& (1 : Int32)) = (0 : Int32) then (0 : Int32) else (1 : Int32) : Int32)), (.int p3), .null, qv, (.ref s3), (.ref s2), (.ref s1), (.ref b), (.ref b)])) _
        refine XS.iconst X85.here hx rfl (hb hby at_266) ?_
        exact zk
      refine fun zt zk => R103 zt ?_
      have q104 : (if (p4 &&& (4 : Int32)) = (0 : Int32) then (0 : Int32) else (1 : Int32) : Int32) = (0 : Int32) := (if_pos hc102)
      rw [q104] at zk
      try rw [q104]
      exact zk
    ·
      skip
      have R105 : ∀ zt, Steps p.tables e below (T85.setTop (mkF m 267 #[.val (.int p0), .val (.int p1), .val (.int p2), .val (.int p3), .val (.int p4), .val (.int p5), .val (.ref s1), .val (.ref s2), .val (.ref s3), .val (.ref s4), .val qv, .val (.ref f), .val (.ref y0), .val (.int ((((p4).toUInt32 >>> ((4 : Int32) &&& 31).toUInt32).toInt32) &&& (3 : Int32))), .val bv, .unset, .unset, .unset, .unset] [(.int (1 : Int32)), (.int (if (p4 &&& (2 : Int32)) = (0 : Int32) then (0 : Int32) else (1 : Int32) : Int32)), (.int (if (p4 &&& (1 : Int32)) = (0 : Int32) then (0 : Int32) else (1 : Int32) : Int32)), (.int p3), .null, qv, (.ref s3), (.ref s2), (.ref s1), (.ref b), (.ref b)])) zt → Steps p.tables e below (s₁.setTop (entryFrame m #[(.int p0), (.int p1), (.int p2), (.int p3), (.int p4), (.int p5)] maxLocals)) zt := by
        intro zt zk
        refine R100 zt ?_
        show Steps p.tables e below (T85.setTop (mkF m 259 #[.val (.int p0), .val (.int p1), .val (.int p2), .val (.int p3), .val (.int p4), .val (.int p5), .val (.ref s1), .val (.ref s2), .val (.ref s3), .val (.ref s4), .val qv, .val (.ref f), .val (.ref y0), .val (.int ((((p4).toUInt32 >>> ((4 : Int32) &&& 31).toUInt32).toInt32) &&& (3 : Int32))), .val bv, .unset, .unset, .unset, .unset] [(.int (p4 &&& (4 : Int32))), (.int (if (p4 &&& (2 : Int32)) = (0 : Int32) then (0 : Int32) else (1 : Int32) : Int32)), (.int (if (p4 &&& (1 : Int32)) = (0 : Int32) then (0 : Int32) else (1 : Int32) : Int32)), (.int p3), .null, qv, (.ref s3), (.ref s2), (.ref s1), (.ref b), (.ref b)])) _
        refine XS.ifNo X85.here hx rfl (hb hby at_259) rfl ((if0 _ _).trans (feq hc102).1) ?_
        show Steps p.tables e below (T85.setTop (mkF m 262 #[.val (.int p0), .val (.int p1), .val (.int p2), .val (.int p3), .val (.int p4), .val (.int p5), .val (.ref s1), .val (.ref s2), .val (.ref s3), .val (.ref s4), .val qv, .val (.ref f), .val (.ref y0), .val (.int ((((p4).toUInt32 >>> ((4 : Int32) &&& 31).toUInt32).toInt32) &&& (3 : Int32))), .val bv, .unset, .unset, .unset, .unset] [(.int (if (p4 &&& (2 : Int32)) = (0 : Int32) then (0 : Int32) else (1 : Int32) : Int32)), (.int (if (p4 &&& (1 : Int32)) = (0 : Int32) then (0 : Int32) else (1 : Int32) : Int32)), (.int p3), .null, qv, (.ref s3), (.ref s2), (.ref s1), (.ref b), (.ref b)])) _
        refine XS.iconst X85.here hx rfl (hb hby at_262) ?_
        show Steps p.tables e below (T85.setTop (mkF m 263 #[.val (.int p0), .val (.int p1), .val (.int p2), .val (.int p3), .val (.int p4), .val (.int p5), .val (.ref s1), .val (.ref s2), .val (.ref s3), .val (.ref s4), .val qv, .val (.ref f), .val (.ref y0), .val (.int ((((p4).toUInt32 >>> ((4 : Int32) &&& 31).toUInt32).toInt32) &&& (3 : Int32))), .val bv, .unset, .unset, .unset, .unset] [(.int (1 : Int32)), (.int (if (p4 &&& (2 : Int32)) = (0 : Int32) then (0 : Int32) else (1 : Int32) : Int32)), (.int (if (p4 &&& (1 : Int32)) = (0 : Int32) then (0 : Int32) else (1 : Int32) : Int32)), (.int p3), .null, qv, (.ref s3), (.ref s2), (.ref s1), (.ref b), (.ref b)])) _
        refine XS.goto X85.here hx rfl (pc0 := 263) (pc' := 267) rfl (hb hby at_263) (by decide) (by decide) ?_
        exact zk
      refine fun zt zk => R105 zt ?_
      have q106 : (if (p4 &&& (4 : Int32)) = (0 : Int32) then (0 : Int32) else (1 : Int32) : Int32) = (1 : Int32) := (if_neg hc102)
      rw [q106] at zk
      try rw [q106]
      exact zk
  obtain ⟨_, _, ⟨T107, L107, k107, n107⟩, -, X107, ⟨Lc107, hQ107, l107, y107, z107⟩, st107⟩ := X85.specialBack hx (y := (⟨"com/example/accesstrail/accesstrail/server/RequestReader$Head", "<init>", "(Ljava/lang/String;Ljava/lang/String;Ljava/lang/String;Ljava/lang/String;Ljava/util/Map;IZZZ)V"⟩ : MethodName)) rfl hown (mvT hZ (hw _ (List.mem_of_getElem? (i := 33) rfl))) (mvT hZ (hw _ (List.mem_of_getElem? (i := 34) rfl))) (mvT hZ (hw _ (List.mem_of_getElem? (i := 35) rfl))) (by decide) (backOf (W := 1) (rm7 l Z a0 hw [] b s1 s2 s3 qv p3 (if (p4 &&& (1 : Int32)) = (0 : Int32) then (0 : Int32) else (1 : Int32) : Int32) (if (p4 &&& (2 : Int32)) = (0 : Int32) then (0 : Int32) else (1 : Int32) : Int32) (if (p4 &&& (4 : Int32)) = (0 : Int32) then (0 : Int32) else (1 : Int32) : Int32) h85 n0 Sz85 E_b F_method_b F_target_b F_path_b F_query_b F_fields_b F_length_b F_persistent_b F_expectsContinue_b F_takesChunked_b ge_b hr_qv) hZ (hw _ (List.mem_of_getElem? (i := 35) rfl)) (hw _ (List.mem_of_getElem? (i := 32) rfl)) (by decide) (by decide)) (g := (mkF m 267 #[.val (.int p0), .val (.int p1), .val (.int p2), .val (.int p3), .val (.int p4), .val (.int p5), .val (.ref s1), .val (.ref s2), .val (.ref s3), .val (.ref s4), .val qv, .val (.ref f), .val (.ref y0), .val (.int ((((p4).toUInt32 >>> ((4 : Int32) &&& 31).toUInt32).toInt32) &&& (3 : Int32))), .val bv, .unset, .unset, .unset, .unset] [(.int (if (p4 &&& (4 : Int32)) = (0 : Int32) then (0 : Int32) else (1 : Int32) : Int32)), (.int (if (p4 &&& (2 : Int32)) = (0 : Int32) then (0 : Int32) else (1 : Int32) : Int32)), (.int (if (p4 &&& (1 : Int32)) = (0 : Int32) then (0 : Int32) else (1 : Int32) : Int32)), (.int p3), .null, qv, (.ref s3), (.ref s2), (.ref s1), (.ref b), (.ref b)])) rfl (by rw [hml]; rfl) (Steps.refl _) (a := b) (argsL := [(.ref s1), (.ref s2), (.ref s3), qv, .null, (.int p3), (.int (if (p4 &&& (1 : Int32)) = (0 : Int32) then (0 : Int32) else (1 : Int32) : Int32)), (.int (if (p4 &&& (2 : Int32)) = (0 : Int32) then (0 : Int32) else (1 : Int32) : Int32)), (.int (if (p4 &&& (4 : Int32)) = (0 : Int32) then (0 : Int32) else (1 : Int32) : Int32))]) (rest := [(.ref b)]) (lenOf pd_3 rfl) rfl (by show 2 * 0 + _ ≤ _; exact Nat.le_of_eq rfl) (hb hby at_267) (fun _ _ => ⟨rfl, e85, (by decide : 15 + 0 ≤ _), (by decide : 44 + 0 ≤ _)⟩)
  dsimp only [Pt.U, Pt.locs, Pt.cells, Pt.slots] at X107 l107 y107 z107 st107 hQ107
  rw [y107, z107] at X107
  have X107 : Stand p l e room_1 s m #[(.int p0), (.int p1), (.int p2), (.int p3), (.int p4), (.int p5)] below meth c T107 L107 15 44 := X107
  obtain ⟨rfl, Nq107, K107, F_method_b, F_target_b, F_path_b, F_query_b, F_fields_b⟩ := hQ107
  have N107 : Fr n0 L107 := by rw [l107]; exact Fr.app N70 Nq107
  clear l107 y107 z107
  have Sz107 := Nat.le_trans Sz85 K107.1
  have O := O.keep K107 (allS ge_b all0)
  have V_f := V_f.keep K107 (ninS ne_f_b nin0)
  have V_y0 := V_y0.keep K107 (ninS ne_y0_b nin0)
  have E_b := E_b.keep K107
  have R108 : ∀ zt, Steps p.tables e below (T107.setTop (mkF m 276 #[.val (.int p0), .val (.int p1), .val (.int p2), .val (.int p3), .val (.int p4), .val (.int p5), .val (.ref s1), .val (.ref s2), .val (.ref s3), .val (.ref s4), .val qv, .val (.ref f), .val (.ref y0), .val (.int ((((p4).toUInt32 >>> ((4 : Int32) &&& 31).toUInt32).toInt32) &&& (3 : Int32))), .val bv, .val (.ref b), .unset, .unset, .unset] [bv, (.ref b)])) zt → Steps p.tables e below (s₁.setTop (entryFrame m #[(.int p0), (.int p1), (.int p2), (.int p3), (.int p4), (.int p5)] maxLocals)) zt := by
    intro zt zk
    refine R101 zt ?_
    show Steps p.tables e below (T85.setTop (mkF m 267 #[.val (.int p0), .val (.int p1), .val (.int p2), .val (.int p3), .val (.int p4), .val (.int p5), .val (.ref s1), .val (.ref s2), .val (.ref s3), .val (.ref s4), .val qv, .val (.ref f), .val (.ref y0), .val (.int ((((p4).toUInt32 >>> ((4 : Int32) &&& 31).toUInt32).toInt32) &&& (3 : Int32))), .val bv, .unset, .unset, .unset, .unset] [(.int (if (p4 &&& (4 : Int32)) = (0 : Int32) then (0 : Int32) else (1 : Int32) : Int32)), (.int (if (p4 &&& (2 : Int32)) = (0 : Int32) then (0 : Int32) else (1 : Int32) : Int32)), (.int (if (p4 &&& (1 : Int32)) = (0 : Int32) then (0 : Int32) else (1 : Int32) : Int32)), (.int p3), .null, qv, (.ref s3), (.ref s2), (.ref s1), (.ref b), (.ref b)])) _
    refine st107.trans ?_
    show Steps p.tables e below (T107.setTop (mkF m 270 #[.val (.int p0), .val (.int p1), .val (.int p2), .val (.int p3), .val (.int p4), .val (.int p5), .val (.ref s1), .val (.ref s2), .val (.ref s3), .val (.ref s4), .val qv, .val (.ref f), .val (.ref y0), .val (.int ((((p4).toUInt32 >>> ((4 : Int32) &&& 31).toUInt32).toInt32) &&& (3 : Int32))), .val bv, .unset, .unset, .unset, .unset] [(.ref b)])) _
    refine XS.astore X107.here hx rfl (hb hby at_270) rfl rfl (l' := #[.val (.int p0), .val (.int p1), .val (.int p2), .val (.int p3), .val (.int p4), .val (.int p5), .val (.ref s1), .val (.ref s2), .val (.ref s3), .val (.ref s4), .val qv, .val (.ref f), .val (.ref y0), .val (.int ((((p4).toUInt32 >>> ((4 : Int32) &&& 31).toUInt32).toInt32) &&& (3 : Int32))), .val bv, .val (.ref b), .unset, .unset, .unset]) rfl ?_
    show Steps p.tables e below (T107.setTop (mkF m 272 #[.val (.int p0), .val (.int p1), .val (.int p2), .val (.int p3), .val (.int p4), .val (.int p5), .val (.ref s1), .val (.ref s2), .val (.ref s3), .val (.ref s4), .val qv, .val (.ref f), .val (.ref y0), .val (.int ((((p4).toUInt32 >>> ((4 : Int32) &&& 31).toUInt32).toInt32) &&& (3 : Int32))), .val bv, .val (.ref b), .unset, .unset, .unset] [])) _
    refine XS.aload X107.here hx rfl (hb hby at_272) rfl rfl ?_
    show Steps p.tables e below (T107.setTop (mkF m 274 #[.val (.int p0), .val (.int p1), .val (.int p2), .val (.int p3), .val (.int p4), .val (.int p5), .val (.ref s1), .val (.ref s2), .val (.ref s3), .val (.ref s4), .val qv, .val (.ref f), .val (.ref y0), .val (.int ((((p4).toUInt32 >>> ((4 : Int32) &&& 31).toUInt32).toInt32) &&& (3 : Int32))), .val bv, .val (.ref b), .unset, .unset, .unset] [(.ref b)])) _
    refine XS.aload X107.here hx rfl (hb hby at_274) rfl hr_bv ?_
    exact zk
  obtain ⟨cq109, kq109, q109a, q109b, q109c⟩ := isOf hZ rfl E_b
  obtain ⟨_, _, ⟨T109, L109, k109, n109⟩, -, X109, ⟨Lc109, hQ109, l109, y109, z109⟩, st109⟩ := X107.virtualBack hx (y := (⟨"com/example/accesstrail/accesstrail/server/RequestReader$Head", "with", "([B)Lcom/example/accesstrail/accesstrail/server/Request;"⟩ : MethodName)) (z := (⟨"com/example/accesstrail/accesstrail/server/RequestReader$Head", "with", "([B)Lcom/example/accesstrail/accesstrail/server/Request;"⟩ : MethodName)) hown (mvT hZ (hw _ (List.mem_of_getElem? (i := 60) rfl))) (mvT hZ (hw _ (List.mem_of_getElem? (i := 61) rfl))) (notFace_of_selects (args := #[]) (mvT hZ (hw _ (List.mem_of_getElem? (i := 63) rfl)))) (mvT hZ (hw _ (List.mem_of_getElem? (i := 63) rfl))) (mvT hZ (hw _ (List.mem_of_getElem? (i := 62) rfl))) (by decide) (backOf (W := 0) (rm9 l Z a0 hw [] b bv s1 s2 s3 qv T107.heap n0 Sz107 F_method_b F_target_b F_path_b F_query_b F_fields_b hr_qv hr_bv) hZ (hw _ (List.mem_of_getElem? (i := 64) rfl)) (hw _ (List.mem_of_getElem? (i := 32) rfl)) (by decide) (by decide)) q109a q109c (g := (mkF m 276 #[.val (.int p0), .val (.int p1), .val (.int p2), .val (.int p3), .val (.int p4), .val (.int p5), .val (.ref s1), .val (.ref s2), .val (.ref s3), .val (.ref s4), .val qv, .val (.ref f), .val (.ref y0), .val (.int ((((p4).toUInt32 >>> ((4 : Int32) &&& 31).toUInt32).toInt32) &&& (3 : Int32))), .val bv, .val (.ref b), .unset, .unset, .unset] [bv, (.ref b)])) rfl (by rw [hml]; rfl) (Steps.refl _) (argsL := [bv]) (rest := []) (lenOf pd_4 rfl) rfl (by show 2 * 0 + _ ≤ _; exact Nat.le_of_eq rfl) (hb hby at_276) (fun _ _ => ⟨rfl, rfl, (by decide : 15 + 1 ≤ _), (by decide : 44 + 6 ≤ _)⟩)
  dsimp only [Pt.U, Pt.locs, Pt.cells, Pt.slots] at X109 l109 y109 z109 st109 hQ109
  rw [y109, z109] at X109
  have X109 : Stand p l e room_1 s m #[(.int p0), (.int p1), (.int p2), (.int p3), (.int p4), (.int p5)] below meth c T109 L109 16 50 := X109
  obtain ⟨rfl, Nq109, K109, E_w, F_method_w, F_target_w, F_path_w, F_query_w, F_fields_w, F_body_w⟩ := hQ109
  have N109 : Fr n0 L109 := by rw [l109]; exact Fr.app N107 Nq109
  clear l109 y109 z109
  have Sz109 := Nat.le_trans Sz107 K109.1
  have O := O.keep K109 all0
  have V_f := V_f.keep K109 nin0
  have V_y0 := V_y0.keep K109 nin0
  have E_b := E_b.keep K109
  have F_method_b := F_method_b.keep K109 nin0
  have F_target_b := F_target_b.keep K109 nin0
  have F_path_b := F_path_b.keep K109 nin0
  have F_query_b := F_query_b.keep K109 nin0
  have F_fields_b := F_fields_b.keep K109 nin0
  obtain ⟨w, gw⟩ : ∃ z, z = T107.heap.size := ⟨_, rfl⟩
  rw [← gw] at E_w F_method_w F_target_w F_path_w F_query_w F_fields_w F_body_w st109
  have R110 : ∀ zt, Steps p.tables e below (T109.setTop (mkF m 290 #[.val (.int p0), .val (.int p1), .val (.int p2), .val (.int p3), .val (.int p4), .val (.int p5), .val (.ref s1), .val (.ref s2), .val (.ref s3), .val (.ref s4), .val qv, .val (.ref f), .val (.ref y0), .val (.int ((((p4).toUInt32 >>> ((4 : Int32) &&& 31).toUInt32).toInt32) &&& (3 : Int32))), .val bv, .val (.ref b), .val (.ref w), .unset, .unset] [(.ref w)])) zt → Steps p.tables e below (s₁.setTop (entryFrame m #[(.int p0), (.int p1), (.int p2), (.int p3), (.int p4), (.int p5)] maxLocals)) zt := by
    intro zt zk
    refine R108 zt ?_
    show Steps p.tables e below (T107.setTop (mkF m 276 #[.val (.int p0), .val (.int p1), .val (.int p2), .val (.int p3), .val (.int p4), .val (.int p5), .val (.ref s1), .val (.ref s2), .val (.ref s3), .val (.ref s4), .val qv, .val (.ref f), .val (.ref y0), .val (.int ((((p4).toUInt32 >>> ((4 : Int32) &&& 31).toUInt32).toInt32) &&& (3 : Int32))), .val bv, .val (.ref b), .unset, .unset, .unset] [bv, (.ref b)])) _
    refine st109.trans ?_
    show Steps p.tables e below (T109.setTop (mkF m 279 #[.val (.int p0), .val (.int p1), .val (.int p2), .val (.int p3), .val (.int p4), .val (.int p5), .val (.ref s1), .val (.ref s2), .val (.ref s3), .val (.ref s4), .val qv, .val (.ref f), .val (.ref y0), .val (.int ((((p4).toUInt32 >>> ((4 : Int32) &&& 31).toUInt32).toInt32) &&& (3 : Int32))), .val bv, .val (.ref b), .unset, .unset, .unset] [(.ref w)])) _
    refine XS.astore X109.here hx rfl (hb hby at_279) rfl rfl (l' := #[.val (.int p0), .val (.int p1), .val (.int p2), .val (.int p3), .val (.int p4), .val (.int p5), .val (.ref s1), .val (.ref s2), .val (.ref s3), .val (.ref s4), .val qv, .val (.ref f), .val (.ref y0), .val (.int ((((p4).toUInt32 >>> ((4 : Int32) &&& 31).toUInt32).toInt32) &&& (3 : Int32))), .val bv, .val (.ref b), .val (.ref w), .unset, .unset]) rfl ?_
    show Steps p.tables e below (T109.setTop (mkF m 281 #[.val (.int p0), .val (.int p1), .val (.int p2), .val (.int p3), .val (.int p4), .val (.int p5), .val (.ref s1), .val (.ref s2), .val (.ref s3), .val (.ref s4), .val qv, .val (.ref f), .val (.ref y0), .val (.int ((((p4).toUInt32 >>> ((4 : Int32) &&& 31).toUInt32).toInt32) &&& (3 : Int32))), .val bv, .val (.ref b), .val (.ref w), .unset, .unset] [])) _
    refine XS.aload X109.here hx rfl (hb hby at_281) rfl rfl ?_
    show Steps p.tables e below (T109.setTop (mkF m 283 #[.val (.int p0), .val (.int p1), .val (.int p2), .val (.int p3), .val (.int p4), .val (.int p5), .val (.ref s1), .val (.ref s2), .val (.ref s3), .val (.ref s4), .val qv, .val (.ref f), .val (.ref y0), .val (.int ((((p4).toUInt32 >>> ((4 : Int32) &&& 31).toUInt32).toInt32) &&& (3 : Int32))), .val bv, .val (.ref b), .val (.ref w), .unset, .unset] [(.ref w)])) _
    refine XS.ifnonnullYes X109.here hx rfl (pc0 := 283) (pc' := 288) rfl (hb hby at_283) rfl (by decide) (by decide) ?_
    show Steps p.tables e below (T109.setTop (mkF m 288 #[.val (.int p0), .val (.int p1), .val (.int p2), .val (.int p3), .val (.int p4), .val (.int p5), .val (.ref s1), .val (.ref s2), .val (.ref s3), .val (.ref s4), .val qv, .val (.ref f), .val (.ref y0), .val (.int ((((p4).toUInt32 >>> ((4 : Int32) &&& 31).toUInt32).toInt32) &&& (3 : Int32))), .val bv, .val (.ref b), .val (.ref w), .unset, .unset] [])) _
    refine XS.aload X109.here hx rfl (hb hby at_288) rfl rfl ?_
    exact zk
  obtain ⟨cq111, kq111, q111a, q111b, q111c⟩ := isOf hZ rfl E_w
  obtain ⟨_, _, ⟨T111, L111, k111, n111⟩, -, X111, ⟨Lc111, hQ111, l111, y111, z111⟩, st111⟩ := X109.virtualBack hx (y := (⟨"com/example/accesstrail/accesstrail/server/Request", "method", "()Ljava/lang/String;"⟩ : MethodName)) (z := (⟨"com/example/accesstrail/accesstrail/server/Request", "method", "()Ljava/lang/String;"⟩ : MethodName)) hown (mvT hZ (hw _ (List.mem_of_getElem? (i := 84) rfl))) (mvT hZ (hw _ (List.mem_of_getElem? (i := 85) rfl))) (notFace_of_selects (args := #[]) (mvT hZ (hw _ (List.mem_of_getElem? (i := 87) rfl)))) (mvT hZ (hw _ (List.mem_of_getElem? (i := 87) rfl))) (mvT hZ (hw _ (List.mem_of_getElem? (i := 86) rfl))) (by decide) (backOf (W := 0) (rm11 l Z a0 hw [] w s1 T109.heap n0 Sz109 F_method_w) hZ (hw _ (List.mem_of_getElem? (i := 88) rfl)) (hw _ (List.mem_of_getElem? (i := 67) rfl)) (by decide) (by decide)) q111a q111c (g := (mkF m 290 #[.val (.int p0), .val (.int p1), .val (.int p2), .val (.int p3), .val (.int p4), .val (.int p5), .val (.ref s1), .val (.ref s2), .val (.ref s3), .val (.ref s4), .val qv, .val (.ref f), .val (.ref y0), .val (.int ((((p4).toUInt32 >>> ((4 : Int32) &&& 31).toUInt32).toInt32) &&& (3 : Int32))), .val bv, .val (.ref b), .val (.ref w), .unset, .unset] [(.ref w)])) rfl (by rw [hml]; rfl) (Steps.refl _) (argsL := []) (rest := []) (lenOf pd_5 rfl) rfl (by show 2 * 0 + _ ≤ _; exact Nat.le_of_eq rfl) (hb hby at_290) (fun _ _ => ⟨rfl, rfl, (by decide : 16 + 0 ≤ _), (by decide : 50 + 0 ≤ _)⟩)
  dsimp only [Pt.U, Pt.locs, Pt.cells, Pt.slots] at X111 l111 y111 z111 st111 hQ111
  rw [y111, z111] at X111
  have X111 : Stand p l e room_1 s m #[(.int p0), (.int p1), (.int p2), (.int p3), (.int p4), (.int p5)] below meth c T111 L111 16 50 := X111
  obtain ⟨rfl, Nq111, eq111⟩ := hQ111
  have N111 : Fr n0 L111 := by rw [l111]; exact Fr.app N109 Nq111
  clear l111 y111 z111
  have e111 : T111.heap = T109.heap := eq111
  have R112 : ∀ zt, Steps p.tables e below (T111.setTop (mkF m 300 #[.val (.int p0), .val (.int p1), .val (.int p2), .val (.int p3), .val (.int p4), .val (.int p5), .val (.ref s1), .val (.ref s2), .val (.ref s3), .val (.ref s4), .val qv, .val (.ref f), .val (.ref y0), .val (.int ((((p4).toUInt32 >>> ((4 : Int32) &&& 31).toUInt32).toInt32) &&& (3 : Int32))), .val bv, .val (.ref b), .val (.ref w), .unset, .unset] [(.ref w)])) zt → Steps p.tables e below (s₁.setTop (entryFrame m #[(.int p0), (.int p1), (.int p2), (.int p3), (.int p4), (.int p5)] maxLocals)) zt := by
    intro zt zk
    refine R110 zt ?_
    show Steps p.tables e below (T109.setTop (mkF m 290 #[.val (.int p0), .val (.int p1), .val (.int p2), .val (.int p3), .val (.int p4), .val (.int p5), .val (.ref s1), .val (.ref s2), .val (.ref s3), .val (.ref s4), .val qv, .val (.ref f), .val (.ref y0), .val (.int ((((p4).toUInt32 >>> ((4 : Int32) &&& 31).toUInt32).toInt32) &&& (3 : Int32))), .val bv, .val (.ref b), .val (.ref w), .unset, .unset] [(.ref w)])) _
    refine st111.trans ?_
    show Steps p.tables e below (T111.setTop (mkF m 293 #[.val (.int p0), .val (.int p1), .val (.int p2), .val (.int p3), .val (.int p4), .val (.int p5), .val (.ref s1), .val (.ref s2), .val (.ref s3), .val (.ref s4), .val qv, .val (.ref f), .val (.ref y0), .val (.int ((((p4).toUInt32 >>> ((4 : Int32) &&& 31).toUInt32).toInt32) &&& (3 : Int32))), .val bv, .val (.ref b), .val (.ref w), .unset, .unset] [(.ref s1)])) _
    refine XS.aload X111.here hx rfl (hb hby at_293) rfl rfl ?_
    show Steps p.tables e below (T111.setTop (mkF m 295 #[.val (.int p0), .val (.int p1), .val (.int p2), .val (.int p3), .val (.int p4), .val (.int p5), .val (.ref s1), .val (.ref s2), .val (.ref s3), .val (.ref s4), .val qv, .val (.ref f), .val (.ref y0), .val (.int ((((p4).toUInt32 >>> ((4 : Int32) &&& 31).toUInt32).toInt32) &&& (3 : Int32))), .val bv, .val (.ref b), .val (.ref w), .unset, .unset] [(.ref s1), (.ref s1)])) _
    refine Jvm.RoadKit.acmp (g := (mkF m 295 #[.val (.int p0), .val (.int p1), .val (.int p2), .val (.int p3), .val (.int p4), .val (.int p5), .val (.ref s1), .val (.ref s2), .val (.ref s3), .val (.ref s4), .val qv, .val (.ref f), .val (.ref y0), .val (.int ((((p4).toUInt32 >>> ((4 : Int32) &&& 31).toUInt32).toInt32) &&& (3 : Int32))), .val bv, .val (.ref b), .val (.ref w), .unset, .unset] [(.ref s1), (.ref s1)])) X111 hx rfl rfl rfl (pc0 := 295) (pc' := 298) (same := true) rfl (hb hby at_295) rfl (decide_eq_true (congrArg Value.ref (rfl : s1 = s1))) (by decide) (by decide) ?_
    show Steps p.tables e below (T111.setTop (mkF m 298 #[.val (.int p0), .val (.int p1), .val (.int p2), .val (.int p3), .val (.int p4), .val (.int p5), .val (.ref s1), .val (.ref s2), .val (.ref s3), .val (.ref s4), .val qv, .val (.ref f), .val (.ref y0), .val (.int ((((p4).toUInt32 >>> ((4 : Int32) &&& 31).toUInt32).toInt32) &&& (3 : Int32))), .val bv, .val (.ref b), .val (.ref w), .unset, .unset] [])) _
    refine XS.aload X111.here hx rfl (hb hby at_298) rfl rfl ?_
    exact zk
  obtain ⟨cq113, kq113, q113a, q113b, q113c⟩ := isOf hZ e111 E_w
  obtain ⟨_, _, ⟨T113, L113, k113, n113⟩, -, X113, ⟨Lc113, hQ113, l113, y113, z113⟩, st113⟩ := X111.virtualBack hx (y := (⟨"com/example/accesstrail/accesstrail/server/Request", "target", "()Ljava/lang/String;"⟩ : MethodName)) (z := (⟨"com/example/accesstrail/accesstrail/server/Request", "target", "()Ljava/lang/String;"⟩ : MethodName)) hown (mvT hZ (hw _ (List.mem_of_getElem? (i := 89) rfl))) (mvT hZ (hw _ (List.mem_of_getElem? (i := 90) rfl))) (notFace_of_selects (args := #[]) (mvT hZ (hw _ (List.mem_of_getElem? (i := 92) rfl)))) (mvT hZ (hw _ (List.mem_of_getElem? (i := 92) rfl))) (mvT hZ (hw _ (List.mem_of_getElem? (i := 91) rfl))) (by decide) (backOf (W := 0) (rm12 l Z a0 hw [] w s2 T109.heap n0 Sz109 F_target_w) hZ (hw _ (List.mem_of_getElem? (i := 93) rfl)) (hw _ (List.mem_of_getElem? (i := 67) rfl)) (by decide) (by decide)) q113a q113c (g := (mkF m 300 #[.val (.int p0), .val (.int p1), .val (.int p2), .val (.int p3), .val (.int p4), .val (.int p5), .val (.ref s1), .val (.ref s2), .val (.ref s3), .val (.ref s4), .val qv, .val (.ref f), .val (.ref y0), .val (.int ((((p4).toUInt32 >>> ((4 : Int32) &&& 31).toUInt32).toInt32) &&& (3 : Int32))), .val bv, .val (.ref b), .val (.ref w), .unset, .unset] [(.ref w)])) rfl (by rw [hml]; rfl) (Steps.refl _) (argsL := []) (rest := []) (lenOf pd_5 rfl) rfl (by show 2 * 0 + _ ≤ _; exact Nat.le_of_eq rfl) (hb hby at_300) (fun _ _ => ⟨rfl, e111, (by decide : 16 + 0 ≤ _), (by decide : 50 + 0 ≤ _)⟩)
  dsimp only [Pt.U, Pt.locs, Pt.cells, Pt.slots] at X113 l113 y113 z113 st113 hQ113
  rw [y113, z113] at X113
  have X113 : Stand p l e room_1 s m #[(.int p0), (.int p1), (.int p2), (.int p3), (.int p4), (.int p5)] below meth c T113 L113 16 50 := X113
  obtain ⟨rfl, Nq113, eq113⟩ := hQ113
  have N113 : Fr n0 L113 := by rw [l113]; exact Fr.app N111 Nq113
  clear l113 y113 z113
  have e113 : T113.heap = T109.heap := eq113
  have R114 : ∀ zt, Steps p.tables e below (T113.setTop (mkF m 310 #[.val (.int p0), .val (.int p1), .val (.int p2), .val (.int p3), .val (.int p4), .val (.int p5), .val (.ref s1), .val (.ref s2), .val (.ref s3), .val (.ref s4), .val qv, .val (.ref f), .val (.ref y0), .val (.int ((((p4).toUInt32 >>> ((4 : Int32) &&& 31).toUInt32).toInt32) &&& (3 : Int32))), .val bv, .val (.ref b), .val (.ref w), .unset, .unset] [(.ref w)])) zt → Steps p.tables e below (s₁.setTop (entryFrame m #[(.int p0), (.int p1), (.int p2), (.int p3), (.int p4), (.int p5)] maxLocals)) zt := by
    intro zt zk
    refine R112 zt ?_
    show Steps p.tables e below (T111.setTop (mkF m 300 #[.val (.int p0), .val (.int p1), .val (.int p2), .val (.int p3), .val (.int p4), .val (.int p5), .val (.ref s1), .val (.ref s2), .val (.ref s3), .val (.ref s4), .val qv, .val (.ref f), .val (.ref y0), .val (.int ((((p4).toUInt32 >>> ((4 : Int32) &&& 31).toUInt32).toInt32) &&& (3 : Int32))), .val bv, .val (.ref b), .val (.ref w), .unset, .unset] [(.ref w)])) _
    refine st113.trans ?_
    show Steps p.tables e below (T113.setTop (mkF m 303 #[.val (.int p0), .val (.int p1), .val (.int p2), .val (.int p3), .val (.int p4), .val (.int p5), .val (.ref s1), .val (.ref s2), .val (.ref s3), .val (.ref s4), .val qv, .val (.ref f), .val (.ref y0), .val (.int ((((p4).toUInt32 >>> ((4 : Int32) &&& 31).toUInt32).toInt32) &&& (3 : Int32))), .val bv, .val (.ref b), .val (.ref w), .unset, .unset] [(.ref s2)])) _
    refine XS.aload X113.here hx rfl (hb hby at_303) rfl rfl ?_
    show Steps p.tables e below (T113.setTop (mkF m 305 #[.val (.int p0), .val (.int p1), .val (.int p2), .val (.int p3), .val (.int p4), .val (.int p5), .val (.ref s1), .val (.ref s2), .val (.ref s3), .val (.ref s4), .val qv, .val (.ref f), .val (.ref y0), .val (.int ((((p4).toUInt32 >>> ((4 : Int32) &&& 31).toUInt32).toInt32) &&& (3 : Int32))), .val bv, .val (.ref b), .val (.ref w), .unset, .unset] [(.ref s2), (.ref s2)])) _
    refine Jvm.RoadKit.acmp (g := (mkF m 305 #[.val (.int p0), .val (.int p1), .val (.int p2), .val (.int p3), .val (.int p4), .val (.int p5), .val (.ref s1), .val (.ref s2), .val (.ref s3), .val (.ref s4), .val qv, .val (.ref f), .val (.ref y0), .val (.int ((((p4).toUInt32 >>> ((4 : Int32) &&& 31).toUInt32).toInt32) &&& (3 : Int32))), .val bv, .val (.ref b), .val (.ref w), .unset, .unset] [(.ref s2), (.ref s2)])) X113 hx rfl rfl rfl (pc0 := 305) (pc' := 308) (same := true) rfl (hb hby at_305) rfl (decide_eq_true (congrArg Value.ref (rfl : s2 = s2))) (by decide) (by decide) ?_
    show Steps p.tables e below (T113.setTop (mkF m 308 #[.val (.int p0), .val (.int p1), .val (.int p2), .val (.int p3), .val (.int p4), .val (.int p5), .val (.ref s1), .val (.ref s2), .val (.ref s3), .val (.ref s4), .val qv, .val (.ref f), .val (.ref y0), .val (.int ((((p4).toUInt32 >>> ((4 : Int32) &&& 31).toUInt32).toInt32) &&& (3 : Int32))), .val bv, .val (.ref b), .val (.ref w), .unset, .unset] [])) _
    refine XS.aload X113.here hx rfl (hb hby at_308) rfl rfl ?_
    exact zk
  obtain ⟨cq115, kq115, q115a, q115b, q115c⟩ := isOf hZ e113 E_w
  obtain ⟨_, _, ⟨T115, L115, k115, n115⟩, -, X115, ⟨Lc115, hQ115, l115, y115, z115⟩, st115⟩ := X113.virtualBack hx (y := (⟨"com/example/accesstrail/accesstrail/server/Request", "path", "()Ljava/lang/String;"⟩ : MethodName)) (z := (⟨"com/example/accesstrail/accesstrail/server/Request", "path", "()Ljava/lang/String;"⟩ : MethodName)) hown (mvT hZ (hw _ (List.mem_of_getElem? (i := 94) rfl))) (mvT hZ (hw _ (List.mem_of_getElem? (i := 95) rfl))) (notFace_of_selects (args := #[]) (mvT hZ (hw _ (List.mem_of_getElem? (i := 97) rfl)))) (mvT hZ (hw _ (List.mem_of_getElem? (i := 97) rfl))) (mvT hZ (hw _ (List.mem_of_getElem? (i := 96) rfl))) (by decide) (backOf (W := 0) (rm13 l Z a0 hw [] w s3 T109.heap n0 Sz109 F_path_w) hZ (hw _ (List.mem_of_getElem? (i := 98) rfl)) (hw _ (List.mem_of_getElem? (i := 67) rfl)) (by decide) (by decide)) q115a q115c (g := (mkF m 310 #[.val (.int p0), .val (.int p1), .val (.int p2), .val (.int p3), .val (.int p4), .val (.int p5), .val (.ref s1), .val (.ref s2), .val (.ref s3), .val (.ref s4), .val qv, .val (.ref f), .val (.ref y0), .val (.int ((((p4).toUInt32 >>> ((4 : Int32) &&& 31).toUInt32).toInt32) &&& (3 : Int32))), .val bv, .val (.ref b), .val (.ref w), .unset, .unset] [(.ref w)])) rfl (by rw [hml]; rfl) (Steps.refl _) (argsL := []) (rest := []) (lenOf pd_5 rfl) rfl (by show 2 * 0 + _ ≤ _; exact Nat.le_of_eq rfl) (hb hby at_310) (fun _ _ => ⟨rfl, e113, (by decide : 16 + 0 ≤ _), (by decide : 50 + 0 ≤ _)⟩)
  dsimp only [Pt.U, Pt.locs, Pt.cells, Pt.slots] at X115 l115 y115 z115 st115 hQ115
  rw [y115, z115] at X115
  have X115 : Stand p l e room_1 s m #[(.int p0), (.int p1), (.int p2), (.int p3), (.int p4), (.int p5)] below meth c T115 L115 16 50 := X115
  obtain ⟨rfl, Nq115, eq115⟩ := hQ115
  have N115 : Fr n0 L115 := by rw [l115]; exact Fr.app N113 Nq115
  clear l115 y115 z115
  have e115 : T115.heap = T109.heap := eq115
  have R116 : ∀ zt, Steps p.tables e below (T115.setTop (mkF m 320 #[.val (.int p0), .val (.int p1), .val (.int p2), .val (.int p3), .val (.int p4), .val (.int p5), .val (.ref s1), .val (.ref s2), .val (.ref s3), .val (.ref s4), .val qv, .val (.ref f), .val (.ref y0), .val (.int ((((p4).toUInt32 >>> ((4 : Int32) &&& 31).toUInt32).toInt32) &&& (3 : Int32))), .val bv, .val (.ref b), .val (.ref w), .unset, .unset] [(.ref w)])) zt → Steps p.tables e below (s₁.setTop (entryFrame m #[(.int p0), (.int p1), (.int p2), (.int p3), (.int p4), (.int p5)] maxLocals)) zt := by
    intro zt zk
    refine R114 zt ?_
    show Steps p.tables e below (T113.setTop (mkF m 310 #[.val (.int p0), .val (.int p1), .val (.int p2), .val (.int p3), .val (.int p4), .val (.int p5), .val (.ref s1), .val (.ref s2), .val (.ref s3), .val (.ref s4), .val qv, .val (.ref f), .val (.ref y0), .val (.int ((((p4).toUInt32 >>> ((4 : Int32) &&& 31).toUInt32).toInt32) &&& (3 : Int32))), .val bv, .val (.ref b), .val (.ref w), .unset, .unset] [(.ref w)])) _
    refine st115.trans ?_
    show Steps p.tables e below (T115.setTop (mkF m 313 #[.val (.int p0), .val (.int p1), .val (.int p2), .val (.int p3), .val (.int p4), .val (.int p5), .val (.ref s1), .val (.ref s2), .val (.ref s3), .val (.ref s4), .val qv, .val (.ref f), .val (.ref y0), .val (.int ((((p4).toUInt32 >>> ((4 : Int32) &&& 31).toUInt32).toInt32) &&& (3 : Int32))), .val bv, .val (.ref b), .val (.ref w), .unset, .unset] [(.ref s3)])) _
    refine XS.aload X115.here hx rfl (hb hby at_313) rfl rfl ?_
    show Steps p.tables e below (T115.setTop (mkF m 315 #[.val (.int p0), .val (.int p1), .val (.int p2), .val (.int p3), .val (.int p4), .val (.int p5), .val (.ref s1), .val (.ref s2), .val (.ref s3), .val (.ref s4), .val qv, .val (.ref f), .val (.ref y0), .val (.int ((((p4).toUInt32 >>> ((4 : Int32) &&& 31).toUInt32).toInt32) &&& (3 : Int32))), .val bv, .val (.ref b), .val (.ref w), .unset, .unset] [(.ref s3), (.ref s3)])) _
    refine Jvm.RoadKit.acmp (g := (mkF m 315 #[.val (.int p0), .val (.int p1), .val (.int p2), .val (.int p3), .val (.int p4), .val (.int p5), .val (.ref s1), .val (.ref s2), .val (.ref s3), .val (.ref s4), .val qv, .val (.ref f), .val (.ref y0), .val (.int ((((p4).toUInt32 >>> ((4 : Int32) &&& 31).toUInt32).toInt32) &&& (3 : Int32))), .val bv, .val (.ref b), .val (.ref w), .unset, .unset] [(.ref s3), (.ref s3)])) X115 hx rfl rfl rfl (pc0 := 315) (pc' := 318) (same := true) rfl (hb hby at_315) rfl (decide_eq_true (congrArg Value.ref (rfl : s3 = s3))) (by decide) (by decide) ?_
    show Steps p.tables e below (T115.setTop (mkF m 318 #[.val (.int p0), .val (.int p1), .val (.int p2), .val (.int p3), .val (.int p4), .val (.int p5), .val (.ref s1), .val (.ref s2), .val (.ref s3), .val (.ref s4), .val qv, .val (.ref f), .val (.ref y0), .val (.int ((((p4).toUInt32 >>> ((4 : Int32) &&& 31).toUInt32).toInt32) &&& (3 : Int32))), .val bv, .val (.ref b), .val (.ref w), .unset, .unset] [])) _
    refine XS.aload X115.here hx rfl (hb hby at_318) rfl rfl ?_
    exact zk
  obtain ⟨cq117, kq117, q117a, q117b, q117c⟩ := isOf hZ e115 E_w
  obtain ⟨_, _, ⟨T117, L117, k117, n117⟩, -, X117, ⟨Lc117, hQ117, l117, y117, z117⟩, st117⟩ := X115.virtualBack hx (y := (⟨"com/example/accesstrail/accesstrail/server/Request", "query", "()Ljava/lang/String;"⟩ : MethodName)) (z := (⟨"com/example/accesstrail/accesstrail/server/Request", "query", "()Ljava/lang/String;"⟩ : MethodName)) hown (mvT hZ (hw _ (List.mem_of_getElem? (i := 99) rfl))) (mvT hZ (hw _ (List.mem_of_getElem? (i := 100) rfl))) (notFace_of_selects (args := #[]) (mvT hZ (hw _ (List.mem_of_getElem? (i := 102) rfl)))) (mvT hZ (hw _ (List.mem_of_getElem? (i := 102) rfl))) (mvT hZ (hw _ (List.mem_of_getElem? (i := 101) rfl))) (by decide) (backOf (W := 0) (rm14 l Z a0 hw [] w qv T109.heap n0 Sz109 F_query_w hr_qv) hZ (hw _ (List.mem_of_getElem? (i := 103) rfl)) (hw _ (List.mem_of_getElem? (i := 67) rfl)) (by decide) (by decide)) q117a q117c (g := (mkF m 320 #[.val (.int p0), .val (.int p1), .val (.int p2), .val (.int p3), .val (.int p4), .val (.int p5), .val (.ref s1), .val (.ref s2), .val (.ref s3), .val (.ref s4), .val qv, .val (.ref f), .val (.ref y0), .val (.int ((((p4).toUInt32 >>> ((4 : Int32) &&& 31).toUInt32).toInt32) &&& (3 : Int32))), .val bv, .val (.ref b), .val (.ref w), .unset, .unset] [(.ref w)])) rfl (by rw [hml]; rfl) (Steps.refl _) (argsL := []) (rest := []) (lenOf pd_5 rfl) rfl (by show 2 * 0 + _ ≤ _; exact Nat.le_of_eq rfl) (hb hby at_320) (fun _ _ => ⟨rfl, e115, (by decide : 16 + 0 ≤ _), (by decide : 50 + 0 ≤ _)⟩)
  dsimp only [Pt.U, Pt.locs, Pt.cells, Pt.slots] at X117 l117 y117 z117 st117 hQ117
  rw [y117, z117] at X117
  have X117 : Stand p l e room_1 s m #[(.int p0), (.int p1), (.int p2), (.int p3), (.int p4), (.int p5)] below meth c T117 L117 16 50 := X117
  obtain ⟨rfl, Nq117, eq117⟩ := hQ117
  have N117 : Fr n0 L117 := by rw [l117]; exact Fr.app N115 Nq117
  clear l117 y117 z117
  have e117 : T117.heap = T109.heap := eq117
  have R118 : ∀ zt, Steps p.tables e below (T117.setTop (mkF m 330 #[.val (.int p0), .val (.int p1), .val (.int p2), .val (.int p3), .val (.int p4), .val (.int p5), .val (.ref s1), .val (.ref s2), .val (.ref s3), .val (.ref s4), .val qv, .val (.ref f), .val (.ref y0), .val (.int ((((p4).toUInt32 >>> ((4 : Int32) &&& 31).toUInt32).toInt32) &&& (3 : Int32))), .val bv, .val (.ref b), .val (.ref w), .unset, .unset] [(.ref w)])) zt → Steps p.tables e below (s₁.setTop (entryFrame m #[(.int p0), (.int p1), (.int p2), (.int p3), (.int p4), (.int p5)] maxLocals)) zt := by
    intro zt zk
    refine R116 zt ?_
    show Steps p.tables e below (T115.setTop (mkF m 320 #[.val (.int p0), .val (.int p1), .val (.int p2), .val (.int p3), .val (.int p4), .val (.int p5), .val (.ref s1), .val (.ref s2), .val (.ref s3), .val (.ref s4), .val qv, .val (.ref f), .val (.ref y0), .val (.int ((((p4).toUInt32 >>> ((4 : Int32) &&& 31).toUInt32).toInt32) &&& (3 : Int32))), .val bv, .val (.ref b), .val (.ref w), .unset, .unset] [(.ref w)])) _
    refine st117.trans ?_
    show Steps p.tables e below (T117.setTop (mkF m 323 #[.val (.int p0), .val (.int p1), .val (.int p2), .val (.int p3), .val (.int p4), .val (.int p5), .val (.ref s1), .val (.ref s2), .val (.ref s3), .val (.ref s4), .val qv, .val (.ref f), .val (.ref y0), .val (.int ((((p4).toUInt32 >>> ((4 : Int32) &&& 31).toUInt32).toInt32) &&& (3 : Int32))), .val bv, .val (.ref b), .val (.ref w), .unset, .unset] [qv])) _
    refine XS.aload X117.here hx rfl (hb hby at_323) rfl hr_qv ?_
    show Steps p.tables e below (T117.setTop (mkF m 325 #[.val (.int p0), .val (.int p1), .val (.int p2), .val (.int p3), .val (.int p4), .val (.int p5), .val (.ref s1), .val (.ref s2), .val (.ref s3), .val (.ref s4), .val qv, .val (.ref f), .val (.ref y0), .val (.int ((((p4).toUInt32 >>> ((4 : Int32) &&& 31).toUInt32).toInt32) &&& (3 : Int32))), .val bv, .val (.ref b), .val (.ref w), .unset, .unset] [qv, qv])) _
    refine Jvm.RoadKit.acmp (g := (mkF m 325 #[.val (.int p0), .val (.int p1), .val (.int p2), .val (.int p3), .val (.int p4), .val (.int p5), .val (.ref s1), .val (.ref s2), .val (.ref s3), .val (.ref s4), .val qv, .val (.ref f), .val (.ref y0), .val (.int ((((p4).toUInt32 >>> ((4 : Int32) &&& 31).toUInt32).toInt32) &&& (3 : Int32))), .val bv, .val (.ref b), .val (.ref w), .unset, .unset] [qv, qv])) X117 hx rfl hr_qv hr_qv (pc0 := 325) (pc' := 328) (same := true) rfl (hb hby at_325) rfl (decide_eq_true rfl) (by decide) (by decide) ?_
    show Steps p.tables e below (T117.setTop (mkF m 328 #[.val (.int p0), .val (.int p1), .val (.int p2), .val (.int p3), .val (.int p4), .val (.int p5), .val (.ref s1), .val (.ref s2), .val (.ref s3), .val (.ref s4), .val qv, .val (.ref f), .val (.ref y0), .val (.int ((((p4).toUInt32 >>> ((4 : Int32) &&& 31).toUInt32).toInt32) &&& (3 : Int32))), .val bv, .val (.ref b), .val (.ref w), .unset, .unset] [])) _
    refine XS.aload X117.here hx rfl (hb hby at_328) rfl rfl ?_
    exact zk
  obtain ⟨cq119, kq119, q119a, q119b, q119c⟩ := isOf hZ e117 E_w
  obtain ⟨_, _, ⟨T119, L119, k119, n119⟩, -, X119, ⟨Lc119, hQ119, l119, y119, z119⟩, st119⟩ := X117.virtualBack hx (y := (⟨"com/example/accesstrail/accesstrail/server/Request", "fields", "()Ljava/util/Map;"⟩ : MethodName)) (z := (⟨"com/example/accesstrail/accesstrail/server/Request", "fields", "()Ljava/util/Map;"⟩ : MethodName)) hown (mvT hZ (hw _ (List.mem_of_getElem? (i := 104) rfl))) (mvT hZ (hw _ (List.mem_of_getElem? (i := 105) rfl))) (notFace_of_selects (args := #[]) (mvT hZ (hw _ (List.mem_of_getElem? (i := 107) rfl)))) (mvT hZ (hw _ (List.mem_of_getElem? (i := 107) rfl))) (mvT hZ (hw _ (List.mem_of_getElem? (i := 106) rfl))) (by decide) (backOf (W := 0) (rm15 l Z a0 hw [] w  T109.heap n0 Sz109 F_fields_w) hZ (hw _ (List.mem_of_getElem? (i := 108) rfl)) (hw _ (List.mem_of_getElem? (i := 67) rfl)) (by decide) (by decide)) q119a q119c (g := (mkF m 330 #[.val (.int p0), .val (.int p1), .val (.int p2), .val (.int p3), .val (.int p4), .val (.int p5), .val (.ref s1), .val (.ref s2), .val (.ref s3), .val (.ref s4), .val qv, .val (.ref f), .val (.ref y0), .val (.int ((((p4).toUInt32 >>> ((4 : Int32) &&& 31).toUInt32).toInt32) &&& (3 : Int32))), .val bv, .val (.ref b), .val (.ref w), .unset, .unset] [(.ref w)])) rfl (by rw [hml]; rfl) (Steps.refl _) (argsL := []) (rest := []) (lenOf pd_6 rfl) rfl (by show 2 * 0 + _ ≤ _; exact Nat.le_of_eq rfl) (hb hby at_330) (fun _ _ => ⟨rfl, e117, (by decide : 16 + 0 ≤ _), (by decide : 50 + 0 ≤ _)⟩)
  dsimp only [Pt.U, Pt.locs, Pt.cells, Pt.slots] at X119 l119 y119 z119 st119 hQ119
  rw [y119, z119] at X119
  have X119 : Stand p l e room_1 s m #[(.int p0), (.int p1), (.int p2), (.int p3), (.int p4), (.int p5)] below meth c T119 L119 16 50 := X119
  obtain ⟨rfl, Nq119, eq119⟩ := hQ119
  have N119 : Fr n0 L119 := by rw [l119]; exact Fr.app N117 Nq119
  clear l119 y119 z119
  have e119 : T119.heap = T109.heap := eq119
  have R120 : ∀ zt, Steps p.tables e below (T119.setTop (mkF m 338 #[.val (.int p0), .val (.int p1), .val (.int p2), .val (.int p3), .val (.int p4), .val (.int p5), .val (.ref s1), .val (.ref s2), .val (.ref s3), .val (.ref s4), .val qv, .val (.ref f), .val (.ref y0), .val (.int ((((p4).toUInt32 >>> ((4 : Int32) &&& 31).toUInt32).toInt32) &&& (3 : Int32))), .val bv, .val (.ref b), .val (.ref w), .unset, .unset] [(.ref w)])) zt → Steps p.tables e below (s₁.setTop (entryFrame m #[(.int p0), (.int p1), (.int p2), (.int p3), (.int p4), (.int p5)] maxLocals)) zt := by
    intro zt zk
    refine R118 zt ?_
    show Steps p.tables e below (T117.setTop (mkF m 330 #[.val (.int p0), .val (.int p1), .val (.int p2), .val (.int p3), .val (.int p4), .val (.int p5), .val (.ref s1), .val (.ref s2), .val (.ref s3), .val (.ref s4), .val qv, .val (.ref f), .val (.ref y0), .val (.int ((((p4).toUInt32 >>> ((4 : Int32) &&& 31).toUInt32).toInt32) &&& (3 : Int32))), .val bv, .val (.ref b), .val (.ref w), .unset, .unset] [(.ref w)])) _
    refine st119.trans ?_
    show Steps p.tables e below (T119.setTop (mkF m 333 #[.val (.int p0), .val (.int p1), .val (.int p2), .val (.int p3), .val (.int p4), .val (.int p5), .val (.ref s1), .val (.ref s2), .val (.ref s3), .val (.ref s4), .val qv, .val (.ref f), .val (.ref y0), .val (.int ((((p4).toUInt32 >>> ((4 : Int32) &&& 31).toUInt32).toInt32) &&& (3 : Int32))), .val bv, .val (.ref b), .val (.ref w), .unset, .unset] [.null])) _
    refine XS.ifnonnullNo X119.here hx rfl (hb hby at_333) rfl ?_
    show Steps p.tables e below (T119.setTop (mkF m 336 #[.val (.int p0), .val (.int p1), .val (.int p2), .val (.int p3), .val (.int p4), .val (.int p5), .val (.ref s1), .val (.ref s2), .val (.ref s3), .val (.ref s4), .val qv, .val (.ref f), .val (.ref y0), .val (.int ((((p4).toUInt32 >>> ((4 : Int32) &&& 31).toUInt32).toInt32) &&& (3 : Int32))), .val bv, .val (.ref b), .val (.ref w), .unset, .unset] [])) _
    refine XS.aload X119.here hx rfl (hb hby at_336) rfl rfl ?_
    exact zk
  obtain ⟨cq121, kq121, q121a, q121b, q121c⟩ := isOf hZ e119 E_w
  obtain ⟨_, _, ⟨T121, L121, k121, n121⟩, -, X121, ⟨Lc121, hQ121, l121, y121, z121⟩, st121⟩ := X119.virtualBack hx (y := (⟨"com/example/accesstrail/accesstrail/server/Request", "body", "()[B"⟩ : MethodName)) (z := (⟨"com/example/accesstrail/accesstrail/server/Request", "body", "()[B"⟩ : MethodName)) hown (mvT hZ (hw _ (List.mem_of_getElem? (i := 109) rfl))) (mvT hZ (hw _ (List.mem_of_getElem? (i := 110) rfl))) (notFace_of_selects (args := #[]) (mvT hZ (hw _ (List.mem_of_getElem? (i := 112) rfl)))) (mvT hZ (hw _ (List.mem_of_getElem? (i := 112) rfl))) (mvT hZ (hw _ (List.mem_of_getElem? (i := 111) rfl))) (by decide) (backOf (W := 0) (rm16 l Z a0 hw [] w bv T109.heap n0 Sz109 F_body_w hr_bv) hZ (hw _ (List.mem_of_getElem? (i := 113) rfl)) (hw _ (List.mem_of_getElem? (i := 67) rfl)) (by decide) (by decide)) q121a q121c (g := (mkF m 338 #[.val (.int p0), .val (.int p1), .val (.int p2), .val (.int p3), .val (.int p4), .val (.int p5), .val (.ref s1), .val (.ref s2), .val (.ref s3), .val (.ref s4), .val qv, .val (.ref f), .val (.ref y0), .val (.int ((((p4).toUInt32 >>> ((4 : Int32) &&& 31).toUInt32).toInt32) &&& (3 : Int32))), .val bv, .val (.ref b), .val (.ref w), .unset, .unset] [(.ref w)])) rfl (by rw [hml]; rfl) (Steps.refl _) (argsL := []) (rest := []) (lenOf pd_7 rfl) rfl (by show 2 * 0 + _ ≤ _; exact Nat.le_of_eq rfl) (hb hby at_338) (fun _ _ => ⟨rfl, e119, (by decide : 16 + 0 ≤ _), (by decide : 50 + 0 ≤ _)⟩)
  dsimp only [Pt.U, Pt.locs, Pt.cells, Pt.slots] at X121 l121 y121 z121 st121 hQ121
  rw [y121, z121] at X121
  have X121 : Stand p l e room_1 s m #[(.int p0), (.int p1), (.int p2), (.int p3), (.int p4), (.int p5)] below meth c T121 L121 16 50 := X121
  obtain ⟨rfl, Nq121, eq121⟩ := hQ121
  have N121 : Fr n0 L121 := by rw [l121]; exact Fr.app N119 Nq121
  clear l121 y121 z121
  have e121 : T121.heap = T109.heap := eq121
  have R122 : ∀ zt, Steps p.tables e below (T121.setTop (mkF m 356 #[.val (.int p0), .val (.int p1), .val (.int p2), .val (.int p3), .val (.int p4), .val (.int p5), .val (.ref s1), .val (.ref s2), .val (.ref s3), .val (.ref s4), .val qv, .val (.ref f), .val (.ref y0), .val (.int ((((p4).toUInt32 >>> ((4 : Int32) &&& 31).toUInt32).toInt32) &&& (3 : Int32))), .val bv, .val (.ref b), .val (.ref w), .val (.int (1 : Int32)), .unset] [(.int (0 : Int32)), (.ref f)])) zt → Steps p.tables e below (s₁.setTop (entryFrame m #[(.int p0), (.int p1), (.int p2), (.int p3), (.int p4), (.int p5)] maxLocals)) zt := by
    intro zt zk
    refine R120 zt ?_
    show Steps p.tables e below (T119.setTop (mkF m 338 #[.val (.int p0), .val (.int p1), .val (.int p2), .val (.int p3), .val (.int p4), .val (.int p5), .val (.ref s1), .val (.ref s2), .val (.ref s3), .val (.ref s4), .val qv, .val (.ref f), .val (.ref y0), .val (.int ((((p4).toUInt32 >>> ((4 : Int32) &&& 31).toUInt32).toInt32) &&& (3 : Int32))), .val bv, .val (.ref b), .val (.ref w), .unset, .unset] [(.ref w)])) _
    refine st121.trans ?_
    show Steps p.tables e below (T121.setTop (mkF m 341 #[.val (.int p0), .val (.int p1), .val (.int p2), .val (.int p3), .val (.int p4), .val (.int p5), .val (.ref s1), .val (.ref s2), .val (.ref s3), .val (.ref s4), .val qv, .val (.ref f), .val (.ref y0), .val (.int ((((p4).toUInt32 >>> ((4 : Int32) &&& 31).toUInt32).toInt32) &&& (3 : Int32))), .val bv, .val (.ref b), .val (.ref w), .unset, .unset] [bv])) _
    refine XS.aload X121.here hx rfl (hb hby at_341) rfl hr_bv ?_
    show Steps p.tables e below (T121.setTop (mkF m 343 #[.val (.int p0), .val (.int p1), .val (.int p2), .val (.int p3), .val (.int p4), .val (.int p5), .val (.ref s1), .val (.ref s2), .val (.ref s3), .val (.ref s4), .val qv, .val (.ref f), .val (.ref y0), .val (.int ((((p4).toUInt32 >>> ((4 : Int32) &&& 31).toUInt32).toInt32) &&& (3 : Int32))), .val bv, .val (.ref b), .val (.ref w), .unset, .unset] [bv, bv])) _
    refine Jvm.RoadKit.acmp (g := (mkF m 343 #[.val (.int p0), .val (.int p1), .val (.int p2), .val (.int p3), .val (.int p4), .val (.int p5), .val (.ref s1), .val (.ref s2), .val (.ref s3), .val (.ref s4), .val qv, .val (.ref f), .val (.ref y0), .val (.int ((((p4).toUInt32 >>> ((4 : Int32) &&& 31).toUInt32).toInt32) &&& (3 : Int32))), .val bv, .val (.ref b), .val (.ref w), .unset, .unset] [bv, bv])) X121 hx rfl hr_bv hr_bv (pc0 := 343) (pc' := 346) (same := true) rfl (hb hby at_343) rfl (decide_eq_true rfl) (by decide) (by decide) ?_
    show Steps p.tables e below (T121.setTop (mkF m 346 #[.val (.int p0), .val (.int p1), .val (.int p2), .val (.int p3), .val (.int p4), .val (.int p5), .val (.ref s1), .val (.ref s2), .val (.ref s3), .val (.ref s4), .val qv, .val (.ref f), .val (.ref y0), .val (.int ((((p4).toUInt32 >>> ((4 : Int32) &&& 31).toUInt32).toInt32) &&& (3 : Int32))), .val bv, .val (.ref b), .val (.ref w), .unset, .unset] [])) _
    refine XS.iconst X121.here hx rfl (hb hby at_346) ?_
    show Steps p.tables e below (T121.setTop (mkF m 347 #[.val (.int p0), .val (.int p1), .val (.int p2), .val (.int p3), .val (.int p4), .val (.int p5), .val (.ref s1), .val (.ref s2), .val (.ref s3), .val (.ref s4), .val qv, .val (.ref f), .val (.ref y0), .val (.int ((((p4).toUInt32 >>> ((4 : Int32) &&& 31).toUInt32).toInt32) &&& (3 : Int32))), .val bv, .val (.ref b), .val (.ref w), .unset, .unset] [(.int (1 : Int32))])) _
    refine XS.goto X121.here hx rfl (pc0 := 347) (pc' := 351) rfl (hb hby at_347) (by decide) (by decide) ?_
    show Steps p.tables e below (T121.setTop (mkF m 351 #[.val (.int p0), .val (.int p1), .val (.int p2), .val (.int p3), .val (.int p4), .val (.int p5), .val (.ref s1), .val (.ref s2), .val (.ref s3), .val (.ref s4), .val qv, .val (.ref f), .val (.ref y0), .val (.int ((((p4).toUInt32 >>> ((4 : Int32) &&& 31).toUInt32).toInt32) &&& (3 : Int32))), .val bv, .val (.ref b), .val (.ref w), .unset, .unset] [(.int (1 : Int32))])) _
    refine XS.istore X121.here hx rfl (hb hby at_351) rfl (l' := #[.val (.int p0), .val (.int p1), .val (.int p2), .val (.int p3), .val (.int p4), .val (.int p5), .val (.ref s1), .val (.ref s2), .val (.ref s3), .val (.ref s4), .val qv, .val (.ref f), .val (.ref y0), .val (.int ((((p4).toUInt32 >>> ((4 : Int32) &&& 31).toUInt32).toInt32) &&& (3 : Int32))), .val bv, .val (.ref b), .val (.ref w), .val (.int (1 : Int32)), .unset]) rfl ?_
    show Steps p.tables e below (T121.setTop (mkF m 353 #[.val (.int p0), .val (.int p1), .val (.int p2), .val (.int p3), .val (.int p4), .val (.int p5), .val (.ref s1), .val (.ref s2), .val (.ref s3), .val (.ref s4), .val qv, .val (.ref f), .val (.ref y0), .val (.int ((((p4).toUInt32 >>> ((4 : Int32) &&& 31).toUInt32).toInt32) &&& (3 : Int32))), .val bv, .val (.ref b), .val (.ref w), .val (.int (1 : Int32)), .unset] [])) _
    refine XS.aload X121.here hx rfl (hb hby at_353) rfl rfl ?_
    show Steps p.tables e below (T121.setTop (mkF m 355 #[.val (.int p0), .val (.int p1), .val (.int p2), .val (.int p3), .val (.int p4), .val (.int p5), .val (.ref s1), .val (.ref s2), .val (.ref s3), .val (.ref s4), .val qv, .val (.ref f), .val (.ref y0), .val (.int ((((p4).toUInt32 >>> ((4 : Int32) &&& 31).toUInt32).toInt32) &&& (3 : Int32))), .val bv, .val (.ref b), .val (.ref w), .val (.int (1 : Int32)), .unset] [(.ref f)])) _
    refine XS.iconst X121.here hx rfl (hb hby at_355) ?_
    exact zk
  obtain ⟨cl123, Ar123, Aq123, As123, An123, Ah123, Ag123⟩ := id V_f
  have hin123 : ¬ ((0 : Int32) < 0 ∨ cl123.slots.size ≤ ((0 : Int32)).toNatClampNeg) := inb_of As123 ⟨by decide, by decide⟩
  have hat123 : cl123.slots[((0 : Int32)).toNatClampNeg]? = some (.int (nar .byte ((p5).toInt8.toInt32))) := Has.at Ah123 hin123 rfl
  have R124 : ∀ zt, Steps p.tables e below (T121.setTop (mkF m 366 #[.val (.int p0), .val (.int p1), .val (.int p2), .val (.int p3), .val (.int p4), .val (.int p5), .val (.ref s1), .val (.ref s2), .val (.ref s3), .val (.ref s4), .val qv, .val (.ref f), .val (.ref y0), .val (.int ((((p4).toUInt32 >>> ((4 : Int32) &&& 31).toUInt32).toInt32) &&& (3 : Int32))), .val bv, .val (.ref b), .val (.ref w), .val (.int (1 : Int32)), .unset] [(.int (1 : Int32)), (.ref f)])) zt → Steps p.tables e below (s₁.setTop (entryFrame m #[(.int p0), (.int p1), (.int p2), (.int p3), (.int p4), (.int p5)] maxLocals)) zt := by
    intro zt zk
    refine R122 zt ?_
    show Steps p.tables e below (T121.setTop (mkF m 356 #[.val (.int p0), .val (.int p1), .val (.int p2), .val (.int p3), .val (.int p4), .val (.int p5), .val (.ref s1), .val (.ref s2), .val (.ref s3), .val (.ref s4), .val qv, .val (.ref f), .val (.ref y0), .val (.int ((((p4).toUInt32 >>> ((4 : Int32) &&& 31).toUInt32).toInt32) &&& (3 : Int32))), .val bv, .val (.ref b), .val (.ref w), .val (.int (1 : Int32)), .unset] [(.int (0 : Int32)), (.ref f)])) _
    refine X121.baloadBytes hx (j := (0 : Int32)) (v := (.int (nar .byte ((p5).toInt8.toInt32)))) (by rw [e121]; exact Ar123.1) (State.isArrayOf_alike hZ.alike Ar123.2.1) Ar123.2.2 hin123 hat123 (g := (mkF m 356 #[.val (.int p0), .val (.int p1), .val (.int p2), .val (.int p3), .val (.int p4), .val (.int p5), .val (.ref s1), .val (.ref s2), .val (.ref s3), .val (.ref s4), .val qv, .val (.ref f), .val (.ref y0), .val (.int ((((p4).toUInt32 >>> ((4 : Int32) &&& 31).toUInt32).toInt32) &&& (3 : Int32))), .val bv, .val (.ref b), .val (.ref w), .val (.int (1 : Int32)), .unset] [(.int (0 : Int32)), (.ref f)])) rfl rfl (hb hby at_356) _ ?_
    show Steps p.tables e below (T121.setTop (mkF m 357 #[.val (.int p0), .val (.int p1), .val (.int p2), .val (.int p3), .val (.int p4), .val (.int p5), .val (.ref s1), .val (.ref s2), .val (.ref s3), .val (.ref s4), .val qv, .val (.ref f), .val (.ref y0), .val (.int ((((p4).toUInt32 >>> ((4 : Int32) &&& 31).toUInt32).toInt32) &&& (3 : Int32))), .val bv, .val (.ref b), .val (.ref w), .val (.int (1 : Int32)), .unset] [(.int (nar .byte ((p5).toInt8.toInt32)))])) _
    refine XS.iload X121.here hx rfl (hb hby at_357) rfl ?_
    show Steps p.tables e below (T121.setTop (mkF m 359 #[.val (.int p0), .val (.int p1), .val (.int p2), .val (.int p3), .val (.int p4), .val (.int p5), .val (.ref s1), .val (.ref s2), .val (.ref s3), .val (.ref s4), .val qv, .val (.ref f), .val (.ref y0), .val (.int ((((p4).toUInt32 >>> ((4 : Int32) &&& 31).toUInt32).toInt32) &&& (3 : Int32))), .val bv, .val (.ref b), .val (.ref w), .val (.int (1 : Int32)), .unset] [(.int p5), (.int (nar .byte ((p5).toInt8.toInt32)))])) _
    refine XS.i2b X121.here hx rfl (hb hby at_359) rfl ?_
    show Steps p.tables e below (T121.setTop (mkF m 360 #[.val (.int p0), .val (.int p1), .val (.int p2), .val (.int p3), .val (.int p4), .val (.int p5), .val (.ref s1), .val (.ref s2), .val (.ref s3), .val (.ref s4), .val qv, .val (.ref f), .val (.ref y0), .val (.int ((((p4).toUInt32 >>> ((4 : Int32) &&& 31).toUInt32).toInt32) &&& (3 : Int32))), .val bv, .val (.ref b), .val (.ref w), .val (.int (1 : Int32)), .unset] [(.int ((p5).toInt8.toInt32)), (.int (nar .byte ((p5).toInt8.toInt32)))])) _
    refine XS.icmpNo X121.here hx rfl (hb hby at_360) rfl (teq (own_b8 _)).2 ?_
    show Steps p.tables e below (T121.setTop (mkF m 363 #[.val (.int p0), .val (.int p1), .val (.int p2), .val (.int p3), .val (.int p4), .val (.int p5), .val (.ref s1), .val (.ref s2), .val (.ref s3), .val (.ref s4), .val qv, .val (.ref f), .val (.ref y0), .val (.int ((((p4).toUInt32 >>> ((4 : Int32) &&& 31).toUInt32).toInt32) &&& (3 : Int32))), .val bv, .val (.ref b), .val (.ref w), .val (.int (1 : Int32)), .unset] [])) _
    refine XS.aload X121.here hx rfl (hb hby at_363) rfl rfl ?_
    show Steps p.tables e below (T121.setTop (mkF m 365 #[.val (.int p0), .val (.int p1), .val (.int p2), .val (.int p3), .val (.int p4), .val (.int p5), .val (.ref s1), .val (.ref s2), .val (.ref s3), .val (.ref s4), .val qv, .val (.ref f), .val (.ref y0), .val (.int ((((p4).toUInt32 >>> ((4 : Int32) &&& 31).toUInt32).toInt32) &&& (3 : Int32))), .val bv, .val (.ref b), .val (.ref w), .val (.int (1 : Int32)), .unset] [(.ref f)])) _
    refine XS.iconst X121.here hx rfl (hb hby at_365) ?_
    exact zk
  obtain ⟨cl125, Ar125, Aq125, As125, An125, Ah125, Ag125⟩ := id V_f
  have hin125 : ¬ ((1 : Int32) < 0 ∨ cl125.slots.size ≤ ((1 : Int32)).toNatClampNeg) := inb_of As125 ⟨by decide, by decide⟩
  have hat125 : cl125.slots[((1 : Int32)).toNatClampNeg]? = some (.int (nar .byte (((((p5).toUInt32 >>> ((8 : Int32) &&& 31).toUInt32).toInt32)).toInt8.toInt32))) := Has.at Ah125 hin125 rfl
  have R126 : ∀ zt, Steps p.tables e below (T121.setTop (mkF m 379 #[.val (.int p0), .val (.int p1), .val (.int p2), .val (.int p3), .val (.int p4), .val (.int p5), .val (.ref s1), .val (.ref s2), .val (.ref s3), .val (.ref s4), .val qv, .val (.ref f), .val (.ref y0), .val (.int ((((p4).toUInt32 >>> ((4 : Int32) &&& 31).toUInt32).toInt32) &&& (3 : Int32))), .val bv, .val (.ref b), .val (.ref w), .val (.int (1 : Int32)), .unset] [(.int (2 : Int32)), (.ref f)])) zt → Steps p.tables e below (s₁.setTop (entryFrame m #[(.int p0), (.int p1), (.int p2), (.int p3), (.int p4), (.int p5)] maxLocals)) zt := by
    intro zt zk
    refine R124 zt ?_
    show Steps p.tables e below (T121.setTop (mkF m 366 #[.val (.int p0), .val (.int p1), .val (.int p2), .val (.int p3), .val (.int p4), .val (.int p5), .val (.ref s1), .val (.ref s2), .val (.ref s3), .val (.ref s4), .val qv, .val (.ref f), .val (.ref y0), .val (.int ((((p4).toUInt32 >>> ((4 : Int32) &&& 31).toUInt32).toInt32) &&& (3 : Int32))), .val bv, .val (.ref b), .val (.ref w), .val (.int (1 : Int32)), .unset] [(.int (1 : Int32)), (.ref f)])) _
    refine X121.baloadBytes hx (j := (1 : Int32)) (v := (.int (nar .byte (((((p5).toUInt32 >>> ((8 : Int32) &&& 31).toUInt32).toInt32)).toInt8.toInt32)))) (by rw [e121]; exact Ar125.1) (State.isArrayOf_alike hZ.alike Ar125.2.1) Ar125.2.2 hin125 hat125 (g := (mkF m 366 #[.val (.int p0), .val (.int p1), .val (.int p2), .val (.int p3), .val (.int p4), .val (.int p5), .val (.ref s1), .val (.ref s2), .val (.ref s3), .val (.ref s4), .val qv, .val (.ref f), .val (.ref y0), .val (.int ((((p4).toUInt32 >>> ((4 : Int32) &&& 31).toUInt32).toInt32) &&& (3 : Int32))), .val bv, .val (.ref b), .val (.ref w), .val (.int (1 : Int32)), .unset] [(.int (1 : Int32)), (.ref f)])) rfl rfl (hb hby at_366) _ ?_
    show Steps p.tables e below (T121.setTop (mkF m 367 #[.val (.int p0), .val (.int p1), .val (.int p2), .val (.int p3), .val (.int p4), .val (.int p5), .val (.ref s1), .val (.ref s2), .val (.ref s3), .val (.ref s4), .val qv, .val (.ref f), .val (.ref y0), .val (.int ((((p4).toUInt32 >>> ((4 : Int32) &&& 31).toUInt32).toInt32) &&& (3 : Int32))), .val bv, .val (.ref b), .val (.ref w), .val (.int (1 : Int32)), .unset] [(.int (nar .byte (((((p5).toUInt32 >>> ((8 : Int32) &&& 31).toUInt32).toInt32)).toInt8.toInt32)))])) _
    refine XS.iload X121.here hx rfl (hb hby at_367) rfl ?_
    show Steps p.tables e below (T121.setTop (mkF m 369 #[.val (.int p0), .val (.int p1), .val (.int p2), .val (.int p3), .val (.int p4), .val (.int p5), .val (.ref s1), .val (.ref s2), .val (.ref s3), .val (.ref s4), .val qv, .val (.ref f), .val (.ref y0), .val (.int ((((p4).toUInt32 >>> ((4 : Int32) &&& 31).toUInt32).toInt32) &&& (3 : Int32))), .val bv, .val (.ref b), .val (.ref w), .val (.int (1 : Int32)), .unset] [(.int p5), (.int (nar .byte (((((p5).toUInt32 >>> ((8 : Int32) &&& 31).toUInt32).toInt32)).toInt8.toInt32)))])) _
    refine XS.bipush X121.here hx rfl (hb hby at_369) ?_
    show Steps p.tables e below (T121.setTop (mkF m 371 #[.val (.int p0), .val (.int p1), .val (.int p2), .val (.int p3), .val (.int p4), .val (.int p5), .val (.ref s1), .val (.ref s2), .val (.ref s3), .val (.ref s4), .val qv, .val (.ref f), .val (.ref y0), .val (.int ((((p4).toUInt32 >>> ((4 : Int32) &&& 31).toUInt32).toInt32) &&& (3 : Int32))), .val bv, .val (.ref b), .val (.ref w), .val (.int (1 : Int32)), .unset] [(.int (8 : Int32)), (.int p5), (.int (nar .byte (((((p5).toUInt32 >>> ((8 : Int32) &&& 31).toUInt32).toInt32)).toInt8.toInt32)))])) _
    refine XS.iushr X121.here hx rfl (hb hby at_371) rfl ?_
    show Steps p.tables e below (T121.setTop (mkF m 372 #[.val (.int p0), .val (.int p1), .val (.int p2), .val (.int p3), .val (.int p4), .val (.int p5), .val (.ref s1), .val (.ref s2), .val (.ref s3), .val (.ref s4), .val qv, .val (.ref f), .val (.ref y0), .val (.int ((((p4).toUInt32 >>> ((4 : Int32) &&& 31).toUInt32).toInt32) &&& (3 : Int32))), .val bv, .val (.ref b), .val (.ref w), .val (.int (1 : Int32)), .unset] [(.int (((p5).toUInt32 >>> ((8 : Int32) &&& 31).toUInt32).toInt32)), (.int (nar .byte (((((p5).toUInt32 >>> ((8 : Int32) &&& 31).toUInt32).toInt32)).toInt8.toInt32)))])) _
    refine XS.i2b X121.here hx rfl (hb hby at_372) rfl ?_
    show Steps p.tables e below (T121.setTop (mkF m 373 #[.val (.int p0), .val (.int p1), .val (.int p2), .val (.int p3), .val (.int p4), .val (.int p5), .val (.ref s1), .val (.ref s2), .val (.ref s3), .val (.ref s4), .val qv, .val (.ref f), .val (.ref y0), .val (.int ((((p4).toUInt32 >>> ((4 : Int32) &&& 31).toUInt32).toInt32) &&& (3 : Int32))), .val bv, .val (.ref b), .val (.ref w), .val (.int (1 : Int32)), .unset] [(.int (((((p5).toUInt32 >>> ((8 : Int32) &&& 31).toUInt32).toInt32)).toInt8.toInt32)), (.int (nar .byte (((((p5).toUInt32 >>> ((8 : Int32) &&& 31).toUInt32).toInt32)).toInt8.toInt32)))])) _
    refine XS.icmpNo X121.here hx rfl (hb hby at_373) rfl (teq (own_b8 _)).2 ?_
    show Steps p.tables e below (T121.setTop (mkF m 376 #[.val (.int p0), .val (.int p1), .val (.int p2), .val (.int p3), .val (.int p4), .val (.int p5), .val (.ref s1), .val (.ref s2), .val (.ref s3), .val (.ref s4), .val qv, .val (.ref f), .val (.ref y0), .val (.int ((((p4).toUInt32 >>> ((4 : Int32) &&& 31).toUInt32).toInt32) &&& (3 : Int32))), .val bv, .val (.ref b), .val (.ref w), .val (.int (1 : Int32)), .unset] [])) _
    refine XS.aload X121.here hx rfl (hb hby at_376) rfl rfl ?_
    show Steps p.tables e below (T121.setTop (mkF m 378 #[.val (.int p0), .val (.int p1), .val (.int p2), .val (.int p3), .val (.int p4), .val (.int p5), .val (.ref s1), .val (.ref s2), .val (.ref s3), .val (.ref s4), .val qv, .val (.ref f), .val (.ref y0), .val (.int ((((p4).toUInt32 >>> ((4 : Int32) &&& 31).toUInt32).toInt32) &&& (3 : Int32))), .val bv, .val (.ref b), .val (.ref w), .val (.int (1 : Int32)), .unset] [(.ref f)])) _
    refine XS.iconst X121.here hx rfl (hb hby at_378) ?_
    exact zk
  obtain ⟨cl127, Ar127, Aq127, As127, An127, Ah127, Ag127⟩ := id V_f
  have hin127 : ¬ ((2 : Int32) < 0 ∨ cl127.slots.size ≤ ((2 : Int32)).toNatClampNeg) := inb_of As127 ⟨by decide, by decide⟩
  have hat127 : cl127.slots[((2 : Int32)).toNatClampNeg]? = some (.int (nar .byte (((((p5).toUInt32 >>> ((16 : Int32) &&& 31).toUInt32).toInt32)).toInt8.toInt32))) := Has.at Ah127 hin127 rfl
  have R128 : ∀ zt, Steps p.tables e below (T121.setTop (mkF m 391 #[.val (.int p0), .val (.int p1), .val (.int p2), .val (.int p3), .val (.int p4), .val (.int p5), .val (.ref s1), .val (.ref s2), .val (.ref s3), .val (.ref s4), .val qv, .val (.ref f), .val (.ref y0), .val (.int ((((p4).toUInt32 >>> ((4 : Int32) &&& 31).toUInt32).toInt32) &&& (3 : Int32))), .val bv, .val (.ref b), .val (.ref w), .val (.int (1 : Int32)), .unset] [(.ref y0)])) zt → Steps p.tables e below (s₁.setTop (entryFrame m #[(.int p0), (.int p1), (.int p2), (.int p3), (.int p4), (.int p5)] maxLocals)) zt := by
    intro zt zk
    refine R126 zt ?_
    show Steps p.tables e below (T121.setTop (mkF m 379 #[.val (.int p0), .val (.int p1), .val (.int p2), .val (.int p3), .val (.int p4), .val (.int p5), .val (.ref s1), .val (.ref s2), .val (.ref s3), .val (.ref s4), .val qv, .val (.ref f), .val (.ref y0), .val (.int ((((p4).toUInt32 >>> ((4 : Int32) &&& 31).toUInt32).toInt32) &&& (3 : Int32))), .val bv, .val (.ref b), .val (.ref w), .val (.int (1 : Int32)), .unset] [(.int (2 : Int32)), (.ref f)])) _
    refine X121.baloadBytes hx (j := (2 : Int32)) (v := (.int (nar .byte (((((p5).toUInt32 >>> ((16 : Int32) &&& 31).toUInt32).toInt32)).toInt8.toInt32)))) (by rw [e121]; exact Ar127.1) (State.isArrayOf_alike hZ.alike Ar127.2.1) Ar127.2.2 hin127 hat127 (g := (mkF m 379 #[.val (.int p0), .val (.int p1), .val (.int p2), .val (.int p3), .val (.int p4), .val (.int p5), .val (.ref s1), .val (.ref s2), .val (.ref s3), .val (.ref s4), .val qv, .val (.ref f), .val (.ref y0), .val (.int ((((p4).toUInt32 >>> ((4 : Int32) &&& 31).toUInt32).toInt32) &&& (3 : Int32))), .val bv, .val (.ref b), .val (.ref w), .val (.int (1 : Int32)), .unset] [(.int (2 : Int32)), (.ref f)])) rfl rfl (hb hby at_379) _ ?_
    show Steps p.tables e below (T121.setTop (mkF m 380 #[.val (.int p0), .val (.int p1), .val (.int p2), .val (.int p3), .val (.int p4), .val (.int p5), .val (.ref s1), .val (.ref s2), .val (.ref s3), .val (.ref s4), .val qv, .val (.ref f), .val (.ref y0), .val (.int ((((p4).toUInt32 >>> ((4 : Int32) &&& 31).toUInt32).toInt32) &&& (3 : Int32))), .val bv, .val (.ref b), .val (.ref w), .val (.int (1 : Int32)), .unset] [(.int (nar .byte (((((p5).toUInt32 >>> ((16 : Int32) &&& 31).toUInt32).toInt32)).toInt8.toInt32)))])) _
    refine XS.iload X121.here hx rfl (hb hby at_380) rfl ?_
    show Steps p.tables e below (T121.setTop (mkF m 382 #[.val (.int p0), .val (.int p1), .val (.int p2), .val (.int p3), .val (.int p4), .val (.int p5), .val (.ref s1), .val (.ref s2), .val (.ref s3), .val (.ref s4), .val qv, .val (.ref f), .val (.ref y0), .val (.int ((((p4).toUInt32 >>> ((4 : Int32) &&& 31).toUInt32).toInt32) &&& (3 : Int32))), .val bv, .val (.ref b), .val (.ref w), .val (.int (1 : Int32)), .unset] [(.int p5), (.int (nar .byte (((((p5).toUInt32 >>> ((16 : Int32) &&& 31).toUInt32).toInt32)).toInt8.toInt32)))])) _
    refine XS.bipush X121.here hx rfl (hb hby at_382) ?_
    show Steps p.tables e below (T121.setTop (mkF m 384 #[.val (.int p0), .val (.int p1), .val (.int p2), .val (.int p3), .val (.int p4), .val (.int p5), .val (.ref s1), .val (.ref s2), .val (.ref s3), .val (.ref s4), .val qv, .val (.ref f), .val (.ref y0), .val (.int ((((p4).toUInt32 >>> ((4 : Int32) &&& 31).toUInt32).toInt32) &&& (3 : Int32))), .val bv, .val (.ref b), .val (.ref w), .val (.int (1 : Int32)), .unset] [(.int (16 : Int32)), (.int p5), (.int (nar .byte (((((p5).toUInt32 >>> ((16 : Int32) &&& 31).toUInt32).toInt32)).toInt8.toInt32)))])) _
    refine XS.iushr X121.here hx rfl (hb hby at_384) rfl ?_
    show Steps p.tables e below (T121.setTop (mkF m 385 #[.val (.int p0), .val (.int p1), .val (.int p2), .val (.int p3), .val (.int p4), .val (.int p5), .val (.ref s1), .val (.ref s2), .val (.ref s3), .val (.ref s4), .val qv, .val (.ref f), .val (.ref y0), .val (.int ((((p4).toUInt32 >>> ((4 : Int32) &&& 31).toUInt32).toInt32) &&& (3 : Int32))), .val bv, .val (.ref b), .val (.ref w), .val (.int (1 : Int32)), .unset] [(.int (((p5).toUInt32 >>> ((16 : Int32) &&& 31).toUInt32).toInt32)), (.int (nar .byte (((((p5).toUInt32 >>> ((16 : Int32) &&& 31).toUInt32).toInt32)).toInt8.toInt32)))])) _
    refine XS.i2b X121.here hx rfl (hb hby at_385) rfl ?_
    show Steps p.tables e below (T121.setTop (mkF m 386 #[.val (.int p0), .val (.int p1), .val (.int p2), .val (.int p3), .val (.int p4), .val (.int p5), .val (.ref s1), .val (.ref s2), .val (.ref s3), .val (.ref s4), .val qv, .val (.ref f), .val (.ref y0), .val (.int ((((p4).toUInt32 >>> ((4 : Int32) &&& 31).toUInt32).toInt32) &&& (3 : Int32))), .val bv, .val (.ref b), .val (.ref w), .val (.int (1 : Int32)), .unset] [(.int (((((p5).toUInt32 >>> ((16 : Int32) &&& 31).toUInt32).toInt32)).toInt8.toInt32)), (.int (nar .byte (((((p5).toUInt32 >>> ((16 : Int32) &&& 31).toUInt32).toInt32)).toInt8.toInt32)))])) _
    refine XS.icmpNo X121.here hx rfl (hb hby at_386) rfl (teq (own_b8 _)).2 ?_
    show Steps p.tables e below (T121.setTop (mkF m 389 #[.val (.int p0), .val (.int p1), .val (.int p2), .val (.int p3), .val (.int p4), .val (.int p5), .val (.ref s1), .val (.ref s2), .val (.ref s3), .val (.ref s4), .val qv, .val (.ref f), .val (.ref y0), .val (.int ((((p4).toUInt32 >>> ((4 : Int32) &&& 31).toUInt32).toInt32) &&& (3 : Int32))), .val bv, .val (.ref b), .val (.ref w), .val (.int (1 : Int32)), .unset] [])) _
    refine XS.aload X121.here hx rfl (hb hby at_389) rfl rfl ?_
    exact zk
  obtain ⟨cl129, Ar129, Aq129, As129, An129, Ah129, Ag129⟩ := id V_y0
  have R130 : ∀ zt, Steps p.tables e below (T121.setTop (mkF m 417 #[.val (.int p0), .val (.int p1), .val (.int p2), .val (.int p3), .val (.int p4), .val (.int p5), .val (.ref s1), .val (.ref s2), .val (.ref s3), .val (.ref s4), .val qv, .val (.ref f), .val (.ref y0), .val (.int ((((p4).toUInt32 >>> ((4 : Int32) &&& 31).toUInt32).toInt32) &&& (3 : Int32))), .val bv, .val (.ref b), .val (.ref w), .val (.int (1 : Int32)), .val (.int (1 : Int32))] [(.int (1 : Int32))])) zt → Steps p.tables e below (s₁.setTop (entryFrame m #[(.int p0), (.int p1), (.int p2), (.int p3), (.int p4), (.int p5)] maxLocals)) zt := by
    intro zt zk
    refine R128 zt ?_
    show Steps p.tables e below (T121.setTop (mkF m 391 #[.val (.int p0), .val (.int p1), .val (.int p2), .val (.int p3), .val (.int p4), .val (.int p5), .val (.ref s1), .val (.ref s2), .val (.ref s3), .val (.ref s4), .val qv, .val (.ref f), .val (.ref y0), .val (.int ((((p4).toUInt32 >>> ((4 : Int32) &&& 31).toUInt32).toInt32) &&& (3 : Int32))), .val bv, .val (.ref b), .val (.ref w), .val (.int (1 : Int32)), .unset] [(.ref y0)])) _
    refine X121.arraylength hx (by rw [e121]; exact Ar129.1) (State.isArrayOf_alike hZ.alike Ar129.2.1) (g := (mkF m 391 #[.val (.int p0), .val (.int p1), .val (.int p2), .val (.int p3), .val (.int p4), .val (.int p5), .val (.ref s1), .val (.ref s2), .val (.ref s3), .val (.ref s4), .val qv, .val (.ref f), .val (.ref y0), .val (.int ((((p4).toUInt32 >>> ((4 : Int32) &&& 31).toUInt32).toInt32) &&& (3 : Int32))), .val bv, .val (.ref b), .val (.ref w), .val (.int (1 : Int32)), .unset] [(.ref y0)])) rfl rfl (hb hby at_391) _ ?_
    rw [len_of As129 An129]
    show Steps p.tables e below (T121.setTop (mkF m 392 #[.val (.int p0), .val (.int p1), .val (.int p2), .val (.int p3), .val (.int p4), .val (.int p5), .val (.ref s1), .val (.ref s2), .val (.ref s3), .val (.ref s4), .val qv, .val (.ref f), .val (.ref y0), .val (.int ((((p4).toUInt32 >>> ((4 : Int32) &&& 31).toUInt32).toInt32) &&& (3 : Int32))), .val bv, .val (.ref b), .val (.ref w), .val (.int (1 : Int32)), .unset] [(.int (0 : Int32))])) _
    refine XS.ifNo X121.here hx rfl (hb hby at_392) rfl ((if0 _ _).trans (teq (by decide)).2) ?_
    show Steps p.tables e below (T121.setTop (mkF m 395 #[.val (.int p0), .val (.int p1), .val (.int p2), .val (.int p3), .val (.int p4), .val (.int p5), .val (.ref s1), .val (.ref s2), .val (.ref s3), .val (.ref s4), .val qv, .val (.ref f), .val (.ref y0), .val (.int ((((p4).toUInt32 >>> ((4 : Int32) &&& 31).toUInt32).toInt32) &&& (3 : Int32))), .val bv, .val (.ref b), .val (.ref w), .val (.int (1 : Int32)), .unset] [])) _
    refine XS.iconst X121.here hx rfl (hb hby at_395) ?_
    show Steps p.tables e below (T121.setTop (mkF m 396 #[.val (.int p0), .val (.int p1), .val (.int p2), .val (.int p3), .val (.int p4), .val (.int p5), .val (.ref s1), .val (.ref s2), .val (.ref s3), .val (.ref s4), .val qv, .val (.ref f), .val (.ref y0), .val (.int ((((p4).toUInt32 >>> ((4 : Int32) &&& 31).toUInt32).toInt32) &&& (3 : Int32))), .val bv, .val (.ref b), .val (.ref w), .val (.int (1 : Int32)), .unset] [(.int (1 : Int32))])) _
    refine XS.goto X121.here hx rfl (pc0 := 396) (pc' := 400) rfl (hb hby at_396) (by decide) (by decide) ?_
    show Steps p.tables e below (T121.setTop (mkF m 400 #[.val (.int p0), .val (.int p1), .val (.int p2), .val (.int p3), .val (.int p4), .val (.int p5), .val (.ref s1), .val (.ref s2), .val (.ref s3), .val (.ref s4), .val qv, .val (.ref f), .val (.ref y0), .val (.int ((((p4).toUInt32 >>> ((4 : Int32) &&& 31).toUInt32).toInt32) &&& (3 : Int32))), .val bv, .val (.ref b), .val (.ref w), .val (.int (1 : Int32)), .unset] [(.int (1 : Int32))])) _
    refine XS.istore X121.here hx rfl (hb hby at_400) rfl (l' := #[.val (.int p0), .val (.int p1), .val (.int p2), .val (.int p3), .val (.int p4), .val (.int p5), .val (.ref s1), .val (.ref s2), .val (.ref s3), .val (.ref s4), .val qv, .val (.ref f), .val (.ref y0), .val (.int ((((p4).toUInt32 >>> ((4 : Int32) &&& 31).toUInt32).toInt32) &&& (3 : Int32))), .val bv, .val (.ref b), .val (.ref w), .val (.int (1 : Int32)), .val (.int (1 : Int32))]) rfl ?_
    show Steps p.tables e below (T121.setTop (mkF m 402 #[.val (.int p0), .val (.int p1), .val (.int p2), .val (.int p3), .val (.int p4), .val (.int p5), .val (.ref s1), .val (.ref s2), .val (.ref s3), .val (.ref s4), .val qv, .val (.ref f), .val (.ref y0), .val (.int ((((p4).toUInt32 >>> ((4 : Int32) &&& 31).toUInt32).toInt32) &&& (3 : Int32))), .val bv, .val (.ref b), .val (.ref w), .val (.int (1 : Int32)), .val (.int (1 : Int32))] [])) _
    refine XS.iload X121.here hx rfl (hb hby at_402) rfl ?_
    show Steps p.tables e below (T121.setTop (mkF m 404 #[.val (.int p0), .val (.int p1), .val (.int p2), .val (.int p3), .val (.int p4), .val (.int p5), .val (.ref s1), .val (.ref s2), .val (.ref s3), .val (.ref s4), .val qv, .val (.ref f), .val (.ref y0), .val (.int ((((p4).toUInt32 >>> ((4 : Int32) &&& 31).toUInt32).toInt32) &&& (3 : Int32))), .val bv, .val (.ref b), .val (.ref w), .val (.int (1 : Int32)), .val (.int (1 : Int32))] [(.int (1 : Int32))])) _
    refine XS.ifNo X121.here hx rfl (hb hby at_404) rfl ((if0 _ _).trans (feq (by decide)).1) ?_
    show Steps p.tables e below (T121.setTop (mkF m 407 #[.val (.int p0), .val (.int p1), .val (.int p2), .val (.int p3), .val (.int p4), .val (.int p5), .val (.ref s1), .val (.ref s2), .val (.ref s3), .val (.ref s4), .val qv, .val (.ref f), .val (.ref y0), .val (.int ((((p4).toUInt32 >>> ((4 : Int32) &&& 31).toUInt32).toInt32) &&& (3 : Int32))), .val bv, .val (.ref b), .val (.ref w), .val (.int (1 : Int32)), .val (.int (1 : Int32))] [])) _
    refine XS.iload X121.here hx rfl (hb hby at_407) rfl ?_
    show Steps p.tables e below (T121.setTop (mkF m 409 #[.val (.int p0), .val (.int p1), .val (.int p2), .val (.int p3), .val (.int p4), .val (.int p5), .val (.ref s1), .val (.ref s2), .val (.ref s3), .val (.ref s4), .val qv, .val (.ref f), .val (.ref y0), .val (.int ((((p4).toUInt32 >>> ((4 : Int32) &&& 31).toUInt32).toInt32) &&& (3 : Int32))), .val bv, .val (.ref b), .val (.ref w), .val (.int (1 : Int32)), .val (.int (1 : Int32))] [(.int (1 : Int32))])) _
    refine XS.ifNo X121.here hx rfl (hb hby at_409) rfl ((if0 _ _).trans (feq (by decide)).1) ?_
    show Steps p.tables e below (T121.setTop (mkF m 412 #[.val (.int p0), .val (.int p1), .val (.int p2), .val (.int p3), .val (.int p4), .val (.int p5), .val (.ref s1), .val (.ref s2), .val (.ref s3), .val (.ref s4), .val qv, .val (.ref f), .val (.ref y0), .val (.int ((((p4).toUInt32 >>> ((4 : Int32) &&& 31).toUInt32).toInt32) &&& (3 : Int32))), .val bv, .val (.ref b), .val (.ref w), .val (.int (1 : Int32)), .val (.int (1 : Int32))] [])) _
    refine XS.iconst X121.here hx rfl (hb hby at_412) ?_
    show Steps p.tables e below (T121.setTop (mkF m 413 #[.val (.int p0), .val (.int p1), .val (.int p2), .val (.int p3), .val (.int p4), .val (.int p5), .val (.ref s1), .val (.ref s2), .val (.ref s3), .val (.ref s4), .val qv, .val (.ref f), .val (.ref y0), .val (.int ((((p4).toUInt32 >>> ((4 : Int32) &&& 31).toUInt32).toInt32) &&& (3 : Int32))), .val bv, .val (.ref b), .val (.ref w), .val (.int (1 : Int32)), .val (.int (1 : Int32))] [(.int (1 : Int32))])) _
    refine XS.goto X121.here hx rfl (pc0 := 413) (pc' := 417) rfl (hb hby at_413) (by decide) (by decide) ?_
    exact zk
  obtain ⟨fs, hr, hrun, hended, hW, hsame⟩ := X121.leave (v := some (.int (1 : Int32))) (fun h => by rw [Bd.returns] at h; cases h)
  refine ⟨_, _, R130 _ ?_, hrun, hended, _, _, rfl, ?_, ⟨_, rfl⟩, hW, hsame.mono (by decide) (by decide)⟩
  · exact retN X121 hx (t := .boolean) Bd.returns (by simp) (hb hby at_417) hr
  · show Q0 Z p0 p1 p2 p3 p4 p5 G1 h0 n0 _ T121.heap _
    rw [e121]
    exact ⟨rfl, N121⟩
set_option maxRecDepth 65536 in
set_option maxHeartbeats 40000000 in
theorem comes_1 {Post : Tables → Env → Array Value → State → Outcome → State → Prop} (hpost : ∀ tb e args s v u, (limb_1_1.after args s (.returned v) u = true ∧ limb_1_2.after args s (.returned v) u = true ∧ True) → FrameEnd s (.returned v) u (Jvm.fieldLocs frame_1_writes args s ++ Jvm.arrayLocs frame_1_arrays args s ++ Jvm.staticLocs frame_1_statics s) 40 192 → Post tb e args s (.returned v) u) :
    ArmFor flags0 classFile x code maxLocals ret World_1 tables_1 room_1 Calls_1 rest_1 Pre_1 Post := by
  intro l hfl _ _ p e ha hc hk s m args below hf hA hF happ hP
  obtain ⟨hcalls, hrest, hpre⟩ := hP
  obtain ⟨-, -, -, hnamed, -, -, -, hat⟩ := (Spec.applies_iff hf).mp happ
  obtain ⟨hg, hn⟩ := and_e (Cond.before_iff.mp (show (Jvm.Cond.and given_1 narrow_1).before args s = true from hpre))
  obtain ⟨hcount, hg0⟩ := and_e hg
  obtain ⟨hi0, hg1⟩ := and_e hg0
  obtain ⟨hi1, hg2⟩ := and_e hg1
  obtain ⟨hi2, hg3⟩ := and_e hg2
  obtain ⟨hi3, hg4⟩ := and_e hg3
  obtain ⟨hi4, hg5⟩ := and_e hg4
  have hi5 := hg5
  obtain ⟨w0, w1, w2, w3, w4, w5, rfl⟩ : ∃ w0 w1 w2 w3 w4 w5 : Value, args = #[w0, w1, w2, w3, w4, w5] := by
    have hs : args.size = 6 := by simpa [Cond.value, given_1] using hcount
    obtain ⟨L⟩ := args
    match L, hs with
    | [w0, w1, w2, w3, w4, w5], _ => exact ⟨w0, w1, w2, w3, w4, w5, rfl⟩
  have hw := fun d (hd : d ∈ tables_1) => atoms_spec (ws := Jvm.Cond.code x code maxLocals ret :: tables_1) hat d (List.mem_cons_of_mem _ hd)
  have hfit : Fit s := fun {y c} hc i hi => by
    obtain ⟨ha, rfl⟩ := Array.getElem?_eq_some_iff.mp hc
    have q := List.all_eq_true.mp ((Array.all_eq_true_iff_forall_mem.mp hF) _ (Array.getElem_mem ha)) i (List.mem_range.mpr hi)
    simpa [Array.getElem?_eq_getElem hi] using q
  obtain ⟨i0, ei0⟩ := is_v hi0
  obtain rfl : w0 = (.int i0) := Option.some.inj ei0
  obtain ⟨i1, ei1⟩ := is_v hi1
  obtain rfl : w1 = (.int i1) := Option.some.inj ei1
  obtain ⟨i2, ei2⟩ := is_v hi2
  obtain rfl : w2 = (.int i2) := Option.some.inj ei2
  obtain ⟨i3, ei3⟩ := is_v hi3
  obtain rfl : w3 = (.int i3) := Option.some.inj ei3
  obtain ⟨i4, ei4⟩ := is_v hi4
  obtain rfl : w4 = (.int i4) := Option.some.inj ei4
  obtain ⟨i5, ei5⟩ := is_v hi5
  obtain rfl : w5 = (.int i5) := Option.some.inj ei5
  obtain ⟨hsets, hown0⟩ := atoms_of _ (rest_1_c_eq ▸ (show rest_1_c.before _ s = true from hrest))
  have n5 := not_v (Cond.before_iff.mp (hsets _ (List.mem_of_getElem? (i := 2) rfl)))
  obtain ⟨G1, eG1⟩ := is_v (Cond.before_iff.mp (hsets _ (List.mem_of_getElem? (i := 1) rfl)))
  have SCS : Sta s s.heap "java/lang/String" "COMPACT_STRINGS" "Z" (.int G1) := Sta.start eG1 (Or.inl (hsets _ (List.mem_of_getElem? (i := 0) rfl)))
  have P5 : ¬ (G1 = (0 : Int32)) := gotF (Cond.eq_ints eG1 (Term.int_eval (0))) n5
  obtain ⟨n, o, h1, h2, h3, _, L, rfl, ⟨rfl, N⟩, hq⟩ := rm0 l s _ hw tables_1 i0 i1 i2 i3 i4 i5 G1 s.heap s.heap.size (Nat.le_refl _) (Old.start s) SCS P5 p e ha hc hk s m _ below hf ((Spec.applies_iff_loose hf).mp happ).1 ⟨rfl, State.Warmed39.refl s, rfl⟩ trivial
  refine ⟨n, _, h1, h2, h3, hpost _ _ _ _ _ _ ⟨Cond.after_iff.mpr rfl, Cond.after_iff.mpr (eq_i res_at (Term.int_eval (1)) rfl), trivial⟩ ⟨hq.1, hq.2.1, (hq.2.2.sift fun y hy => Or.inr (N y hy)).mono (by decide) (by decide)⟩⟩
theorem main_1_1 : Claimed_1_1 := comes_1 fun _ _ _ _ _ _ h hF => ⟨h.1, hF⟩
theorem main_1_2 : Claimed_1_2 := comes_1 fun _ _ _ _ _ _ h hF => ⟨h.2.1, hF⟩
end Jvm.Pilot.@@N@@
namespace Jvm.Pilot.@@N@@
open Jvm Jvm.ClassFile Sem Op Lib Jvm.Free Jvm.Stand Jvm.Pilot.@@N@@.Jvm.D
/-! MADE BY PROGRAM (witnessworld.py) out of the Statement's table words and the real class files: 22 classes; the members and pool entries that the words name. The judged class is class 1, her method 1. -/
namespace start1
open Jvm.ClassFile
def u (s : String) : CpInfo := .utf8 (stringToUtf16 s)
/-- a pool by its gaps: so many unusable entries, then the entry; so many at the end -/
def gap : Nat → List CpInfo → List CpInfo
  | 0, r => r
  | n + 1, r => .unusable :: gap n r
def poolList (es : List (Nat × CpInfo)) (last : Nat) : List CpInfo := es.foldr (fun e r => gap e.1 (e.2 :: r)) (gap last [])
def pool (es : List (Nat × CpInfo)) (last : Nat) : Array CpInfo := ⟨poolList es last⟩
def fileOf (pool : Array CpInfo) (this : Nat) (attrs : Array Attribute := #[]) (ms : Array MethodInfo := #[]) (fl : Nat := 33) (sup : Nat := 0) (ifs : Array Nat := #[]) (fds : Array FieldInfo := #[]) : ClassFile where
  minorVersion := 0
  majorVersion := 65
  constantPool := pool
  accessFlags := fl
  thisClass := this
  superClass := sup
  interfaces := ifs
  fields := fds
  methods := ms
  attributes := attrs
def plain (name : String) (sup : Option ClassId) : Class where
  name := name
  kind := .ordinary
  loader := none
  accessFlags := 33
  super := sup
  interfaces := #[]
  cf := none
  fields := #[]
  methods := #[]
  instanceTypes := #[]
  staticTypes := #[]
  resolved := #[]
  callSites := []
  init := .initialized
  statics := none
  mirror := none

def pool0 : Array CpInfo := pool [(5, u "<init>"), (0, u "()V"), (1, .class_ 10), (1, u "java/lang/Object")] 113

def k0c0 : Code := { maxStack := 0, maxLocals := 1, code := object_method_1_code, exceptionTable := #[], attributes := #[] }
def k0m0 : Method := { name := "<init>", desc := "()V", sig := { parameters := [], returnType := none }, accessFlags := 1, code := some k0c0 }
/-- java/lang/Object -/
def k0 : Class := { plain "java/lang/Object" none with
  accessFlags := 33
  interfaces := #[]
  cf := some (fileOf pool0 8 #[] #[{ accessFlags := 1, nameIndex := 5, descriptorIndex := 6, attributes := #[] }] 33 0 #[] #[])
  fields := #[]
  methods := #[k0m0]
  instanceTypes := #[]
  staticTypes := #[]
  resolved := Array.replicate 124 none
  statics := none }

def pool1 : Array CpInfo := pool [(2, .class_ 4), (1, u "java/lang/Object"), (0, u "<init>"), (0, u "()V"), (0, .class_ 8), (0, u "java/lang/String"), (0, .methodref 7 10), (0, .nameAndType 5 11), (0, u "([C)V"), (0, .class_ 13), (0, u "com/example/accesstrail/accesstrail/server/RequestReader$Head"), (0, .methodref 12 15), (0, .nameAndType 5 16), (0, u "(Ljava/lang/String;Ljava/lang/String;Ljava/lang/String;Ljava/lang/String;Ljava/util/Map;IZZZ)V"), (0, .methodref 12 18), (0, .nameAndType 19 20), (0, u "with"), (0, u "([B)Lcom/example/accesstrail/accesstrail/server/Request;"), (0, .methodref 22 23), (0, .class_ 24), (0, .nameAndType 25 26), (0, u "com/example/accesstrail/accesstrail/server/Request"), (0, u "method"), (0, u "()Ljava/lang/String;"), (0, .methodref 22 28), (0, .nameAndType 29 26), (0, u "target"), (0, .methodref 22 31), (0, .nameAndType 32 26), (0, u "path"), (0, .methodref 22 34), (0, .nameAndType 35 26), (0, u "query"), (0, .methodref 22 37), (0, .nameAndType 38 39), (0, u "fields"), (0, u "()Ljava/util/Map;"), (0, .methodref 22 41), (0, .nameAndType 42 43), (0, u "body"), (0, u "()[B"), (0, .class_ 45), (0, u "com/example/accesstrail/accesstrail/server/HeadWithPinLaw"), (2, u "law"), (0, u "(IIIIII)Z")] 9

def k1m0 : Method := { name := "<init>", desc := "()V", sig := { parameters := [], returnType := none }, accessFlags := 2, code := none }
def k1c1 : Code := { maxStack := 12, maxLocals := 19, code := code, exceptionTable := #[], attributes := #[] }
def k1m1 : Method := { name := "law", desc := "(IIIIII)Z", sig := { parameters := [.int, .int, .int, .int, .int, .int], returnType := some .boolean }, accessFlags := 9, code := some k1c1 }
/-- com/example/accesstrail/accesstrail/server/HeadWithPinLaw -/
def k1 : Class := { plain "com/example/accesstrail/accesstrail/server/HeadWithPinLaw" (some 0) with
  accessFlags := 49
  interfaces := #[]
  cf := some (fileOf pool1 44 #[] #[{ accessFlags := 2, nameIndex := 5, descriptorIndex := 6, attributes := #[] }, { accessFlags := 9, nameIndex := 48, descriptorIndex := 49, attributes := #[] }] 49 2 #[] #[])
  fields := #[]
  methods := #[k1m0, k1m1]
  instanceTypes := #[]
  staticTypes := #[]
  resolved := Array.replicate 59 none
  statics := none }

def pool2 : Array CpInfo := pool [(1, .class_ 2), (0, u "java/io/Serializable"), (0, .class_ 4), (0, u "java/lang/Object")] 2

/-- java/io/Serializable -/
def k2 : Class := { plain "java/io/Serializable" (some 0) with
  accessFlags := 1537
  interfaces := #[]
  cf := some (fileOf pool2 1 #[] #[] 1537 3 #[] #[])
  fields := #[]
  methods := #[]
  instanceTypes := #[]
  staticTypes := #[]
  resolved := Array.replicate 7 none
  statics := none }

def pool3 : Array CpInfo := pool [(1, .class_ 2), (0, u "java/lang/Comparable"), (0, .class_ 4), (0, u "java/lang/Object")] 7

/-- java/lang/Comparable -/
def k3 : Class := { plain "java/lang/Comparable" (some 0) with
  accessFlags := 1537
  interfaces := #[]
  cf := some (fileOf pool3 1 #[] #[] 1537 3 #[] #[])
  fields := #[]
  methods := #[]
  instanceTypes := #[]
  staticTypes := #[]
  resolved := Array.replicate 12 none
  statics := none }

def pool4 : Array CpInfo := pool [(2, .class_ 4), (1, u "java/lang/CharSequence"), (42, .class_ 48), (0, u "java/lang/CharSequence$1CodePointIterator"), (10, .class_ 60), (0, u "java/lang/CharSequence$1CharIterator"), (5, .class_ 67), (0, u "java/lang/Object")] 63

/-- java/lang/CharSequence -/
def k4 : Class := { plain "java/lang/CharSequence" (some 0) with
  accessFlags := 1537
  interfaces := #[]
  cf := some (fileOf pool4 2 #[.nestMembers #[47, 59]] #[] 1537 66 #[] #[])
  fields := #[]
  methods := #[]
  instanceTypes := #[]
  staticTypes := #[]
  resolved := Array.replicate 131 none
  statics := none }

def pool5 : Array CpInfo := pool [(1, .class_ 2), (0, u "java/lang/constant/Constable"), (0, .class_ 4), (0, u "java/lang/Object")] 6

/-- java/lang/constant/Constable -/
def k5 : Class := { plain "java/lang/constant/Constable" (some 0) with
  accessFlags := 1537
  interfaces := #[]
  cf := some (fileOf pool5 1 #[] #[] 1537 3 #[] #[])
  fields := #[]
  methods := #[]
  instanceTypes := #[]
  staticTypes := #[]
  resolved := Array.replicate 11 none
  statics := none }

def pool6 : Array CpInfo := pool [(1, .class_ 2), (0, u "java/lang/constant/ConstantDesc"), (0, .class_ 4), (0, u "java/lang/Object")] 32

/-- java/lang/constant/ConstantDesc -/
def k6 : Class := { plain "java/lang/constant/ConstantDesc" (some 0) with
  accessFlags := 1537
  interfaces := #[]
  cf := some (fileOf pool6 1 #[] #[] 1537 3 #[] #[])
  fields := #[]
  methods := #[]
  instanceTypes := #[]
  staticTypes := #[]
  resolved := Array.replicate 37 none
  statics := none }

def pool7 : Array CpInfo := pool [(1, .methodref 2 3), (0, .class_ 4), (0, .nameAndType 5 6), (0, u "java/lang/Object"), (0, u "<init>"), (0, u "()V"), (2, .fieldref 10 11), (0, .class_ 12), (0, .nameAndType 13 14), (0, u "java/lang/String"), (0, u "value"), (0, u "[B"), (0, .fieldref 10 16), (0, .nameAndType 17 18), (0, u "coder"), (0, u "B"), (2, u "hash"), (0, u "I"), (2, u "hashIsZero"), (0, u "Z"), (0, .methodref 10 28), (0, .nameAndType 5 29), (0, u "([CIILjava/lang/Void;)V"), (8, .fieldref 10 39), (0, .nameAndType 40 26), (0, u "COMPACT_STRINGS"), (1, .class_ 44), (1, u "java/lang/StringUTF16"), (0, u "compress"), (1, .methodref 42 48), (0, .nameAndType 49 50), (0, u "coderFromArrayLen"), (0, u "([BI)B"), (126, .methodref 42 178), (0, .nameAndType 45 179), (0, u "([CII)[B"), (395, .class_ 576), (0, u "java/lang/CharSequence"), (22, u "CASE_INSENSITIVE_ORDER"), (0, u "Ljava/util/Comparator;"), (409, u "([C)V"), (90, u "serialPersistentFields"), (0, u "[Ljava/io/ObjectStreamField;"), (0, .class_ 1104), (0, u "java/lang/String$CaseInsensitiveComparator"), (1, .class_ 1107), (0, u "java/io/Serializable"), (0, .class_ 1109), (0, u "java/lang/Comparable"), (0, .class_ 1111), (0, u "java/lang/constant/Constable"), (0, .class_ 1113), (0, u "java/lang/constant/ConstantDesc"), (2, u "serialVersionUID"), (0, u "J"), (3, u "REPL"), (0, u "C"), (2, u "LATIN1"), (1, u "UTF16")] 323

def k7m0 : Method := { name := "<init>", desc := "()V", sig := { parameters := [], returnType := none }, accessFlags := 1, code := none }
def k7c1 : Code := { maxStack := 5, maxLocals := 2, code := jdk_42_method_3_code, exceptionTable := #[], attributes := #[] }
def k7m1 : Method := { name := "<init>", desc := "([C)V", sig := { parameters := [(.array .char)], returnType := none }, accessFlags := 1, code := some k7c1 }
def k7c2 : Code := { maxStack := 4, maxLocals := 6, code := jdk_42_method_149_code, exceptionTable := #[], attributes := #[] }
def k7m2 : Method := { name := "<init>", desc := "([CIILjava/lang/Void;)V", sig := { parameters := [(.array .char), .int, .int, (.object "java/lang/Void")], returnType := none }, accessFlags := 2, code := some k7c2 }
/-- java/lang/String -/
def k7 : Class := { plain "java/lang/String" (some 0) with
  accessFlags := 49
  interfaces := #[2, 3, 4, 5, 6]
  cf := some (fileOf pool7 10 #[.nestMembers #[1103]] #[{ accessFlags := 1, nameIndex := 5, descriptorIndex := 6, attributes := #[] }, { accessFlags := 1, nameIndex := 5, descriptorIndex := 1010, attributes := #[] }, { accessFlags := 2, nameIndex := 5, descriptorIndex := 29, attributes := #[] }] 49 2 #[1106, 1108, 575, 1110, 1112] #[{ accessFlags := 18, nameIndex := 13, descriptorIndex := 14, attributes := #[] }, { accessFlags := 18, nameIndex := 17, descriptorIndex := 18, attributes := #[] }, { accessFlags := 2, nameIndex := 21, descriptorIndex := 22, attributes := #[] }, { accessFlags := 2, nameIndex := 25, descriptorIndex := 26, attributes := #[] }, { accessFlags := 26, nameIndex := 1116, descriptorIndex := 1117, attributes := #[] }, { accessFlags := 24, nameIndex := 40, descriptorIndex := 26, attributes := #[] }, { accessFlags := 26, nameIndex := 1101, descriptorIndex := 1102, attributes := #[] }, { accessFlags := 26, nameIndex := 1121, descriptorIndex := 1122, attributes := #[] }, { accessFlags := 25, nameIndex := 599, descriptorIndex := 600, attributes := #[] }, { accessFlags := 24, nameIndex := 1125, descriptorIndex := 18, attributes := #[] }, { accessFlags := 24, nameIndex := 1127, descriptorIndex := 18, attributes := #[] }])
  fields := #[{ name := "value", type := (.array .byte), accessFlags := 18, slot := 0, constantValue := 0 }, { name := "coder", type := .byte, accessFlags := 18, slot := 1, constantValue := 0 }, { name := "hash", type := .int, accessFlags := 2, slot := 2, constantValue := 0 }, { name := "hashIsZero", type := .boolean, accessFlags := 2, slot := 3, constantValue := 0 }, { name := "serialVersionUID", type := .long, accessFlags := 26, slot := 0, constantValue := 0 }, { name := "COMPACT_STRINGS", type := .boolean, accessFlags := 24, slot := 1, constantValue := 0 }, { name := "serialPersistentFields", type := (.array (.object "java/io/ObjectStreamField")), accessFlags := 26, slot := 2, constantValue := 0 }, { name := "REPL", type := .char, accessFlags := 26, slot := 3, constantValue := 0 }, { name := "CASE_INSENSITIVE_ORDER", type := (.object "java/util/Comparator"), accessFlags := 25, slot := 4, constantValue := 0 }, { name := "LATIN1", type := .byte, accessFlags := 24, slot := 5, constantValue := 0 }, { name := "UTF16", type := .byte, accessFlags := 24, slot := 6, constantValue := 0 }]
  methods := #[k7m0, k7m1, k7m2]
  instanceTypes := #[(.array .byte), .byte, .int, .boolean]
  staticTypes := #[.long, .boolean, (.array (.object "java/io/ObjectStreamField")), .char, (.object "java/util/Comparator"), .byte, .byte]
  resolved := Array.replicate 1451 none
  statics := some 0 }

def pool8 : Array CpInfo := pool [(6, .class_ 8), (1, u "java/lang/Object"), (0, u "<init>"), (0, u "()V"), (1, .class_ 14), (1, u "java/lang/StringUTF16"), (31, u "$assertionsDisabled"), (0, u "Z"), (13, u "HI_BYTE_SHIFT"), (0, u "I"), (2, u "LO_BYTE_SHIFT"), (49, .methodref 12 116), (0, .nameAndType 117 118), (0, u "compress"), (0, u "([CI[BII)I"), (3, u "([CII)[B"), (138, u "coderFromArrayLen"), (0, u "([BI)B"), (106, .class_ 371), (1, u "java/lang/StringUTF16$LinesSpliterator"), (58, u "MAX_LENGTH"), (196, .class_ 628), (0, u "java/lang/StringUTF16$CodePointsSpliterator"), (0, .class_ 630), (0, u "java/lang/StringUTF16$CharsSpliterator")] 4

def k8m0 : Method := { name := "<init>", desc := "()V", sig := { parameters := [], returnType := none }, accessFlags := 0, code := none }
def k8c1 : Code := { maxStack := 2, maxLocals := 2, code := jdk_52_method_15_code, exceptionTable := #[], attributes := #[] }
def k8m1 : Method := { name := "coderFromArrayLen", desc := "([BI)B", sig := { parameters := [(.array .byte), .int], returnType := some .byte }, accessFlags := 8, code := some k8c1 }
def k8c2 : Code := { maxStack := 5, maxLocals := 6, code := jdk_52_method_16_code, exceptionTable := #[], attributes := #[] }
def k8m2 : Method := { name := "compress", desc := "([CII)[B", sig := { parameters := [(.array .char), .int, .int], returnType := some (.array .byte) }, accessFlags := 9, code := some k8c2 }
def k8c3 : Code := { maxStack := 3, maxLocals := 7, code := jdk_52_method_21_code, exceptionTable := #[], attributes := #[] }
def k8m3 : Method := { name := "compress", desc := "([CI[BII)I", sig := { parameters := [(.array .char), .int, (.array .byte), .int, .int], returnType := some .int }, accessFlags := 9, code := some k8c3 }
/-- java/lang/StringUTF16 -/
def k8 : Class := { plain "java/lang/StringUTF16" (some 0) with
  accessFlags := 48
  interfaces := #[]
  cf := some (fileOf pool8 12 #[.nestMembers #[627, 629, 369]] #[{ accessFlags := 0, nameIndex := 9, descriptorIndex := 10, attributes := #[] }, { accessFlags := 8, nameIndex := 261, descriptorIndex := 262, attributes := #[] }, { accessFlags := 9, nameIndex := 117, descriptorIndex := 122, attributes := #[] }, { accessFlags := 9, nameIndex := 117, descriptorIndex := 118, attributes := #[] }] 48 6 #[] #[{ accessFlags := 26, nameIndex := 61, descriptorIndex := 62, attributes := #[] }, { accessFlags := 26, nameIndex := 65, descriptorIndex := 62, attributes := #[] }, { accessFlags := 24, nameIndex := 430, descriptorIndex := 62, attributes := #[] }, { accessFlags := 4120, nameIndex := 46, descriptorIndex := 47, attributes := #[] }])
  fields := #[{ name := "HI_BYTE_SHIFT", type := .int, accessFlags := 26, slot := 0, constantValue := 0 }, { name := "LO_BYTE_SHIFT", type := .int, accessFlags := 26, slot := 1, constantValue := 0 }, { name := "MAX_LENGTH", type := .int, accessFlags := 24, slot := 2, constantValue := 0 }, { name := "$assertionsDisabled", type := .boolean, accessFlags := 4120, slot := 3, constantValue := 0 }]
  methods := #[k8m0, k8m1, k8m2, k8m3]
  instanceTypes := #[]
  staticTypes := #[.int, .int, .int, .boolean]
  resolved := Array.replicate 635 none
  statics := none }

def pool9 : Array CpInfo := pool [(1, .methodref 2 3), (0, .class_ 4), (0, .nameAndType 5 6), (0, u "java/lang/Object"), (0, u "<init>"), (0, u "()V"), (0, .class_ 8), (0, u "java/lang/Record")] 13

def k9c0 : Code := { maxStack := 1, maxLocals := 1, code := jdk_30_method_1_code, exceptionTable := #[], attributes := #[] }
def k9m0 : Method := { name := "<init>", desc := "()V", sig := { parameters := [], returnType := none }, accessFlags := 4, code := some k9c0 }
/-- java/lang/Record -/
def k9 : Class := { plain "java/lang/Record" (some 0) with
  accessFlags := 1057
  interfaces := #[]
  cf := some (fileOf pool9 7 #[] #[{ accessFlags := 4, nameIndex := 5, descriptorIndex := 6, attributes := #[] }] 1057 2 #[] #[])
  fields := #[]
  methods := #[k9m0]
  instanceTypes := #[]
  staticTypes := #[]
  resolved := Array.replicate 22 none
  statics := none }

def pool10 : Array CpInfo := pool [(1, .methodref 2 3), (0, .class_ 4), (0, .nameAndType 5 6), (0, u "java/lang/Record"), (0, u "<init>"), (0, u "()V"), (0, .fieldref 8 9), (0, .class_ 10), (0, .nameAndType 11 12), (0, u "com/example/accesstrail/accesstrail/server/RequestReader$Head"), (0, u "method"), (0, u "Ljava/lang/String;"), (0, .fieldref 8 14), (0, .nameAndType 15 12), (0, u "target"), (0, .fieldref 8 17), (0, .nameAndType 18 12), (0, u "path"), (0, .fieldref 8 20), (0, .nameAndType 21 12), (0, u "query"), (0, .fieldref 8 23), (0, .nameAndType 24 25), (0, u "fields"), (0, u "Ljava/util/Map;"), (0, .fieldref 8 27), (0, .nameAndType 28 29), (0, u "length"), (0, u "I"), (0, .fieldref 8 31), (0, .nameAndType 32 33), (0, u "persistent"), (0, u "Z"), (0, .fieldref 8 35), (0, .nameAndType 36 33), (0, u "expectsContinue"), (0, .fieldref 8 38), (0, .nameAndType 39 33), (0, u "takesChunked"), (0, .class_ 41), (0, u "com/example/accesstrail/accesstrail/server/Request"), (0, .methodref 40 43), (0, .nameAndType 5 44), (0, u "(Ljava/lang/String;Ljava/lang/String;Ljava/lang/String;Ljava/lang/String;Ljava/util/Map;[B)V"), (14, u "(Ljava/lang/String;Ljava/lang/String;Ljava/lang/String;Ljava/lang/String;Ljava/util/Map;IZZZ)V"), (4, u "with"), (0, u "([B)Lcom/example/accesstrail/accesstrail/server/Request;"), (9, .class_ 76), (0, u "com/example/accesstrail/accesstrail/server/RequestReader")] 27

def k10c0 : Code := { maxStack := 2, maxLocals := 10, code := prog_28_method_1_code, exceptionTable := #[], attributes := #[] }
def k10m0 : Method := { name := "<init>", desc := "(Ljava/lang/String;Ljava/lang/String;Ljava/lang/String;Ljava/lang/String;Ljava/util/Map;IZZZ)V", sig := { parameters := [(.object "java/lang/String"), (.object "java/lang/String"), (.object "java/lang/String"), (.object "java/lang/String"), (.object "java/util/Map"), .int, .boolean, .boolean, .boolean], returnType := none }, accessFlags := 0, code := some k10c0 }
def k10c1 : Code := { maxStack := 8, maxLocals := 2, code := prog_28_method_2_code, exceptionTable := #[], attributes := #[] }
def k10m1 : Method := { name := "with", desc := "([B)Lcom/example/accesstrail/accesstrail/server/Request;", sig := { parameters := [(.array .byte)], returnType := some (.object "com/example/accesstrail/accesstrail/server/Request") }, accessFlags := 0, code := some k10c1 }
/-- com/example/accesstrail/accesstrail/server/RequestReader$Head -/
def k10 : Class := { plain "com/example/accesstrail/accesstrail/server/RequestReader$Head" (some 9) with
  accessFlags := 48
  interfaces := #[]
  cf := some (fileOf pool10 8 #[.nestHost 75] #[{ accessFlags := 0, nameIndex := 5, descriptorIndex := 59, attributes := #[] }, { accessFlags := 0, nameIndex := 64, descriptorIndex := 65, attributes := #[] }] 48 2 #[] #[{ accessFlags := 18, nameIndex := 11, descriptorIndex := 12, attributes := #[] }, { accessFlags := 18, nameIndex := 15, descriptorIndex := 12, attributes := #[] }, { accessFlags := 18, nameIndex := 18, descriptorIndex := 12, attributes := #[] }, { accessFlags := 18, nameIndex := 21, descriptorIndex := 12, attributes := #[] }, { accessFlags := 18, nameIndex := 24, descriptorIndex := 25, attributes := #[] }, { accessFlags := 18, nameIndex := 28, descriptorIndex := 29, attributes := #[] }, { accessFlags := 18, nameIndex := 32, descriptorIndex := 33, attributes := #[] }, { accessFlags := 18, nameIndex := 36, descriptorIndex := 33, attributes := #[] }, { accessFlags := 18, nameIndex := 39, descriptorIndex := 33, attributes := #[] }])
  fields := #[{ name := "method", type := (.object "java/lang/String"), accessFlags := 18, slot := 0, constantValue := 0 }, { name := "target", type := (.object "java/lang/String"), accessFlags := 18, slot := 1, constantValue := 0 }, { name := "path", type := (.object "java/lang/String"), accessFlags := 18, slot := 2, constantValue := 0 }, { name := "query", type := (.object "java/lang/String"), accessFlags := 18, slot := 3, constantValue := 0 }, { name := "fields", type := (.object "java/util/Map"), accessFlags := 18, slot := 4, constantValue := 0 }, { name := "length", type := .int, accessFlags := 18, slot := 5, constantValue := 0 }, { name := "persistent", type := .boolean, accessFlags := 18, slot := 6, constantValue := 0 }, { name := "expectsContinue", type := .boolean, accessFlags := 18, slot := 7, constantValue := 0 }, { name := "takesChunked", type := .boolean, accessFlags := 18, slot := 8, constantValue := 0 }]
  methods := #[k10m0, k10m1]
  instanceTypes := #[(.object "java/lang/String"), (.object "java/lang/String"), (.object "java/lang/String"), (.object "java/lang/String"), (.object "java/util/Map"), .int, .boolean, .boolean, .boolean]
  staticTypes := #[]
  resolved := Array.replicate 104 none
  statics := none }

def pool11 : Array CpInfo := pool [(1, .methodref 2 3), (0, .class_ 4), (0, .nameAndType 5 6), (0, u "java/lang/Record"), (0, u "<init>"), (0, u "()V"), (0, .fieldref 8 9), (0, .class_ 10), (0, .nameAndType 11 12), (0, u "com/example/accesstrail/accesstrail/server/Request"), (0, u "method"), (0, u "Ljava/lang/String;"), (0, .fieldref 8 14), (0, .nameAndType 15 12), (0, u "target"), (0, .fieldref 8 17), (0, .nameAndType 18 12), (0, u "path"), (0, .fieldref 8 20), (0, .nameAndType 21 12), (0, u "query"), (0, .fieldref 8 23), (0, .nameAndType 24 25), (0, u "fields"), (0, u "Ljava/util/Map;"), (0, .fieldref 8 27), (0, .nameAndType 28 29), (0, u "body"), (0, u "[B"), (26, u "(Ljava/lang/String;Ljava/lang/String;Ljava/lang/String;Ljava/lang/String;Ljava/util/Map;[B)V"), (7, u "()Ljava/lang/String;"), (2, u "()Ljava/util/Map;"), (1, u "()[B")] 25

def k11c0 : Code := { maxStack := 2, maxLocals := 7, code := prog_25_method_1_code, exceptionTable := #[], attributes := #[] }
def k11m0 : Method := { name := "<init>", desc := "(Ljava/lang/String;Ljava/lang/String;Ljava/lang/String;Ljava/lang/String;Ljava/util/Map;[B)V", sig := { parameters := [(.object "java/lang/String"), (.object "java/lang/String"), (.object "java/lang/String"), (.object "java/lang/String"), (.object "java/util/Map"), (.array .byte)], returnType := none }, accessFlags := 0, code := some k11c0 }
def k11c1 : Code := { maxStack := 1, maxLocals := 1, code := prog_25_method_6_code, exceptionTable := #[], attributes := #[] }
def k11m1 : Method := { name := "method", desc := "()Ljava/lang/String;", sig := { parameters := [], returnType := some (.object "java/lang/String") }, accessFlags := 1, code := some k11c1 }
def k11c2 : Code := { maxStack := 1, maxLocals := 1, code := prog_25_method_7_code, exceptionTable := #[], attributes := #[] }
def k11m2 : Method := { name := "target", desc := "()Ljava/lang/String;", sig := { parameters := [], returnType := some (.object "java/lang/String") }, accessFlags := 1, code := some k11c2 }
def k11c3 : Code := { maxStack := 1, maxLocals := 1, code := prog_25_method_8_code, exceptionTable := #[], attributes := #[] }
def k11m3 : Method := { name := "path", desc := "()Ljava/lang/String;", sig := { parameters := [], returnType := some (.object "java/lang/String") }, accessFlags := 1, code := some k11c3 }
def k11c4 : Code := { maxStack := 1, maxLocals := 1, code := prog_25_method_9_code, exceptionTable := #[], attributes := #[] }
def k11m4 : Method := { name := "query", desc := "()Ljava/lang/String;", sig := { parameters := [], returnType := some (.object "java/lang/String") }, accessFlags := 1, code := some k11c4 }
def k11c5 : Code := { maxStack := 1, maxLocals := 1, code := prog_25_method_10_code, exceptionTable := #[], attributes := #[] }
def k11m5 : Method := { name := "fields", desc := "()Ljava/util/Map;", sig := { parameters := [], returnType := some (.object "java/util/Map") }, accessFlags := 1, code := some k11c5 }
def k11c6 : Code := { maxStack := 1, maxLocals := 1, code := prog_25_method_11_code, exceptionTable := #[], attributes := #[] }
def k11m6 : Method := { name := "body", desc := "()[B", sig := { parameters := [], returnType := some (.array .byte) }, accessFlags := 1, code := some k11c6 }
/-- com/example/accesstrail/accesstrail/server/Request -/
def k11 : Class := { plain "com/example/accesstrail/accesstrail/server/Request" (some 9) with
  accessFlags := 48
  interfaces := #[]
  cf := some (fileOf pool11 8 #[] #[{ accessFlags := 0, nameIndex := 5, descriptorIndex := 56, attributes := #[] }, { accessFlags := 1, nameIndex := 11, descriptorIndex := 64, attributes := #[] }, { accessFlags := 1, nameIndex := 15, descriptorIndex := 64, attributes := #[] }, { accessFlags := 1, nameIndex := 18, descriptorIndex := 64, attributes := #[] }, { accessFlags := 1, nameIndex := 21, descriptorIndex := 64, attributes := #[] }, { accessFlags := 1, nameIndex := 24, descriptorIndex := 67, attributes := #[] }, { accessFlags := 1, nameIndex := 28, descriptorIndex := 69, attributes := #[] }] 48 2 #[] #[{ accessFlags := 18, nameIndex := 11, descriptorIndex := 12, attributes := #[] }, { accessFlags := 18, nameIndex := 15, descriptorIndex := 12, attributes := #[] }, { accessFlags := 18, nameIndex := 18, descriptorIndex := 12, attributes := #[] }, { accessFlags := 18, nameIndex := 21, descriptorIndex := 12, attributes := #[] }, { accessFlags := 18, nameIndex := 24, descriptorIndex := 25, attributes := #[] }, { accessFlags := 18, nameIndex := 28, descriptorIndex := 29, attributes := #[] }])
  fields := #[{ name := "method", type := (.object "java/lang/String"), accessFlags := 18, slot := 0, constantValue := 0 }, { name := "target", type := (.object "java/lang/String"), accessFlags := 18, slot := 1, constantValue := 0 }, { name := "path", type := (.object "java/lang/String"), accessFlags := 18, slot := 2, constantValue := 0 }, { name := "query", type := (.object "java/lang/String"), accessFlags := 18, slot := 3, constantValue := 0 }, { name := "fields", type := (.object "java/util/Map"), accessFlags := 18, slot := 4, constantValue := 0 }, { name := "body", type := (.array .byte), accessFlags := 18, slot := 5, constantValue := 0 }]
  methods := #[k11m0, k11m1, k11m2, k11m3, k11m4, k11m5, k11m6]
  instanceTypes := #[(.object "java/lang/String"), (.object "java/lang/String"), (.object "java/lang/String"), (.object "java/lang/String"), (.object "java/util/Map"), (.array .byte)]
  staticTypes := #[]
  resolved := Array.replicate 95 none
  statics := none }

def pool12 : Array CpInfo := pool [(4, .class_ 6), (1, u "java/lang/Object"), (0, u "<init>"), (0, u "()V"), (5, .class_ 16), (1, u "java/lang/StringLatin1"), (104, u "$assertionsDisabled"), (0, u "Z"), (98, .class_ 223), (1, u "java/lang/StringLatin1$LinesSpliterator"), (166, .class_ 391), (0, u "java/lang/StringLatin1$CharsSpliterator")] 3

def k12m0 : Method := { name := "<init>", desc := "()V", sig := { parameters := [], returnType := none }, accessFlags := 0, code := none }
/-- java/lang/StringLatin1 -/
def k12 : Class := { plain "java/lang/StringLatin1" (some 0) with
  accessFlags := 48
  interfaces := #[]
  cf := some (fileOf pool12 14 #[.nestMembers #[390, 221]] #[{ accessFlags := 0, nameIndex := 7, descriptorIndex := 8, attributes := #[] }] 48 4 #[] #[{ accessFlags := 4120, nameIndex := 121, descriptorIndex := 122, attributes := #[] }])
  fields := #[{ name := "$assertionsDisabled", type := .boolean, accessFlags := 4120, slot := 0, constantValue := 0 }]
  methods := #[k12m0]
  instanceTypes := #[]
  staticTypes := #[.boolean]
  resolved := Array.replicate 395 none
  statics := none }

def pool13 : Array CpInfo := pool [(2, .class_ 4), (1, u "java/lang/Object"), (0, u "<init>"), (0, u "()V"), (17, .class_ 26), (1, u "jdk/internal/util/Preconditions"), (28, .class_ 56), (0, u "jdk/internal/util/Preconditions$4"), (57, .class_ 115), (0, u "jdk/internal/util/Preconditions$1"), (7, u "SIOOBE_FORMATTER"), (0, u "Ljava/util/function/BiFunction;"), (0, .class_ 126), (0, u "jdk/internal/util/Preconditions$2"), (3, u "AIOOBE_FORMATTER"), (0, .class_ 132), (0, u "jdk/internal/util/Preconditions$3"), (3, u "IOOBE_FORMATTER")] 57

def k13m0 : Method := { name := "<init>", desc := "()V", sig := { parameters := [], returnType := none }, accessFlags := 1, code := none }
/-- jdk/internal/util/Preconditions -/
def k13 : Class := { plain "jdk/internal/util/Preconditions" (some 0) with
  accessFlags := 33
  interfaces := #[]
  cf := some (fileOf pool13 24 #[.nestMembers #[55, 131, 125, 114]] #[{ accessFlags := 1, nameIndex := 5, descriptorIndex := 6, attributes := #[] }] 33 2 #[] #[{ accessFlags := 25, nameIndex := 123, descriptorIndex := 124, attributes := #[] }, { accessFlags := 25, nameIndex := 130, descriptorIndex := 124, attributes := #[] }, { accessFlags := 25, nameIndex := 136, descriptorIndex := 124, attributes := #[] }])
  fields := #[{ name := "SIOOBE_FORMATTER", type := (.object "java/util/function/BiFunction"), accessFlags := 25, slot := 0, constantValue := 0 }, { name := "AIOOBE_FORMATTER", type := (.object "java/util/function/BiFunction"), accessFlags := 25, slot := 1, constantValue := 0 }, { name := "IOOBE_FORMATTER", type := (.object "java/util/function/BiFunction"), accessFlags := 25, slot := 2, constantValue := 0 }]
  methods := #[k13m0]
  instanceTypes := #[]
  staticTypes := #[(.object "java/util/function/BiFunction"), (.object "java/util/function/BiFunction"), (.object "java/util/function/BiFunction")]
  resolved := Array.replicate 194 none
  statics := some 1 }

def pool14 : Array CpInfo := pool [(9, u "<init>"), (6, .class_ 18), (1, u "java/lang/Object"), (0, u "()V"), (1, .class_ 23), (1, u "jdk/internal/util/ArraysSupport"), (0, u "LOG2_ARRAY_LONG_INDEX_SCALE"), (0, u "I"), (2, u "U"), (0, u "Ljdk/internal/misc/Unsafe;"), (8, u "BIG_ENDIAN"), (0, u "Z"), (8, u "LOG2_BYTE_BIT_SIZE"), (4, u "LOG2_ARRAY_INT_INDEX_SCALE"), (54, u "JLA"), (0, u "Ljdk/internal/access/JavaLangAccess;"), (11, u "LOG2_ARRAY_BOOLEAN_INDEX_SCALE"), (9, u "LOG2_ARRAY_BYTE_INDEX_SCALE"), (5, u "LOG2_ARRAY_CHAR_INDEX_SCALE"), (5, u "LOG2_ARRAY_SHORT_INDEX_SCALE"), (18, u "LOG2_ARRAY_FLOAT_INDEX_SCALE"), (24, u "LOG2_ARRAY_DOUBLE_INDEX_SCALE"), (89, u "T_BOOLEAN"), (2, u "T_CHAR"), (1, u "T_FLOAT"), (1, u "T_DOUBLE"), (1, u "T_BYTE"), (1, u "T_SHORT"), (1, u "T_INT"), (1, u "T_LONG"), (1, u "SOFT_MAX_ARRAY_LENGTH")] 83

def k14m0 : Method := { name := "<init>", desc := "()V", sig := { parameters := [], returnType := none }, accessFlags := 2, code := none }
/-- jdk/internal/util/ArraysSupport -/
def k14 : Class := { plain "jdk/internal/util/ArraysSupport" (some 0) with
  accessFlags := 33
  interfaces := #[]
  cf := some (fileOf pool14 21 #[] #[{ accessFlags := 2, nameIndex := 9, descriptorIndex := 19, attributes := #[] }] 33 16 #[] #[{ accessFlags := 24, nameIndex := 28, descriptorIndex := 29, attributes := #[] }, { accessFlags := 26, nameIndex := 38, descriptorIndex := 39, attributes := #[] }, { accessFlags := 25, nameIndex := 121, descriptorIndex := 25, attributes := #[] }, { accessFlags := 25, nameIndex := 131, descriptorIndex := 25, attributes := #[] }, { accessFlags := 25, nameIndex := 137, descriptorIndex := 25, attributes := #[] }, { accessFlags := 25, nameIndex := 143, descriptorIndex := 25, attributes := #[] }, { accessFlags := 25, nameIndex := 53, descriptorIndex := 25, attributes := #[] }, { accessFlags := 25, nameIndex := 24, descriptorIndex := 25, attributes := #[] }, { accessFlags := 25, nameIndex := 162, descriptorIndex := 25, attributes := #[] }, { accessFlags := 25, nameIndex := 187, descriptorIndex := 25, attributes := #[] }, { accessFlags := 26, nameIndex := 48, descriptorIndex := 25, attributes := #[] }, { accessFlags := 25, nameIndex := 277, descriptorIndex := 25, attributes := #[] }, { accessFlags := 25, nameIndex := 280, descriptorIndex := 25, attributes := #[] }, { accessFlags := 25, nameIndex := 282, descriptorIndex := 25, attributes := #[] }, { accessFlags := 25, nameIndex := 284, descriptorIndex := 25, attributes := #[] }, { accessFlags := 25, nameIndex := 286, descriptorIndex := 25, attributes := #[] }, { accessFlags := 25, nameIndex := 288, descriptorIndex := 25, attributes := #[] }, { accessFlags := 25, nameIndex := 290, descriptorIndex := 25, attributes := #[] }, { accessFlags := 25, nameIndex := 292, descriptorIndex := 25, attributes := #[] }, { accessFlags := 26, nameIndex := 108, descriptorIndex := 109, attributes := #[] }, { accessFlags := 25, nameIndex := 294, descriptorIndex := 25, attributes := #[] }])
  fields := #[{ name := "U", type := (.object "jdk/internal/misc/Unsafe"), accessFlags := 24, slot := 0, constantValue := 0 }, { name := "BIG_ENDIAN", type := .boolean, accessFlags := 26, slot := 1, constantValue := 0 }, { name := "LOG2_ARRAY_BOOLEAN_INDEX_SCALE", type := .int, accessFlags := 25, slot := 2, constantValue := 0 }, { name := "LOG2_ARRAY_BYTE_INDEX_SCALE", type := .int, accessFlags := 25, slot := 3, constantValue := 0 }, { name := "LOG2_ARRAY_CHAR_INDEX_SCALE", type := .int, accessFlags := 25, slot := 4, constantValue := 0 }, { name := "LOG2_ARRAY_SHORT_INDEX_SCALE", type := .int, accessFlags := 25, slot := 5, constantValue := 0 }, { name := "LOG2_ARRAY_INT_INDEX_SCALE", type := .int, accessFlags := 25, slot := 6, constantValue := 0 }, { name := "LOG2_ARRAY_LONG_INDEX_SCALE", type := .int, accessFlags := 25, slot := 7, constantValue := 0 }, { name := "LOG2_ARRAY_FLOAT_INDEX_SCALE", type := .int, accessFlags := 25, slot := 8, constantValue := 0 }, { name := "LOG2_ARRAY_DOUBLE_INDEX_SCALE", type := .int, accessFlags := 25, slot := 9, constantValue := 0 }, { name := "LOG2_BYTE_BIT_SIZE", type := .int, accessFlags := 26, slot := 10, constantValue := 0 }, { name := "T_BOOLEAN", type := .int, accessFlags := 25, slot := 11, constantValue := 0 }, { name := "T_CHAR", type := .int, accessFlags := 25, slot := 12, constantValue := 0 }, { name := "T_FLOAT", type := .int, accessFlags := 25, slot := 13, constantValue := 0 }, { name := "T_DOUBLE", type := .int, accessFlags := 25, slot := 14, constantValue := 0 }, { name := "T_BYTE", type := .int, accessFlags := 25, slot := 15, constantValue := 0 }, { name := "T_SHORT", type := .int, accessFlags := 25, slot := 16, constantValue := 0 }, { name := "T_INT", type := .int, accessFlags := 25, slot := 17, constantValue := 0 }, { name := "T_LONG", type := .int, accessFlags := 25, slot := 18, constantValue := 0 }, { name := "JLA", type := (.object "jdk/internal/access/JavaLangAccess"), accessFlags := 26, slot := 19, constantValue := 0 }, { name := "SOFT_MAX_ARRAY_LENGTH", type := .int, accessFlags := 25, slot := 20, constantValue := 0 }]
  methods := #[k14m0]
  instanceTypes := #[]
  staticTypes := #[(.object "jdk/internal/misc/Unsafe"), .boolean, .int, .int, .int, .int, .int, .int, .int, .int, .int, .int, .int, .int, .int, .int, .int, .int, .int, (.object "jdk/internal/access/JavaLangAccess"), .int]
  resolved := Array.replicate 378 none
  statics := none }

def pool15 : Array CpInfo := pool [(1, u "java/lang/Cloneable"), (0, .class_ 1), (0, u "java/lang/Object"), (0, .class_ 3)] 3

/-- java/lang/Cloneable -/
def k15 : Class := { plain "java/lang/Cloneable" (some 0) with
  accessFlags := 1537
  interfaces := #[]
  cf := some (fileOf pool15 2 #[] #[] 1537 4 #[] #[])
  fields := #[]
  methods := #[]
  instanceTypes := #[]
  staticTypes := #[]
  resolved := Array.replicate 8 none
  statics := none }

/-- the primitive byte -/
def k16 : Class := { plain "byte" none with kind := .primitive 'B', accessFlags := 0x411 }
/-- [B -/
def k17 : Class := { plain "[B" (some 0) with kind := .array 16 .byte, interfaces := #[15, 2], accessFlags := 1041 }

/-- the primitive char -/
def k18 : Class := { plain "char" none with kind := .primitive 'C', accessFlags := 0x411 }
/-- [C -/
def k19 : Class := { plain "[C" (some 0) with kind := .array 18 .char, interfaces := #[15, 2], accessFlags := 1041 }

/-- the primitive int -/
def k20 : Class := { plain "int" none with kind := .primitive 'I', accessFlags := 0x411 }
/-- [I -/
def k21 : Class := { plain "[I" (some 0) with kind := .array 20 .int, interfaces := #[15, 2], accessFlags := 1041 }

def heap : Heap := #[{ cls := 7, slots := #[.long 0, .int 1, .null, .int 0, .null, .int 0, .int 0], vm := .statics 7 },
  { cls := 13, slots := #[.null, .null, .null], vm := .statics 13 }]
def classes : Array Class := #[k0, k1, k2, k3, k4, k5, k6, k7, k8, k9, k10, k11, k12, k13, k14, k15, k16, k17, k18, k19, k20, k21]
def interned : List (Array UInt16 × Addr) := []
def slotsUsed : Nat := 10
def theMethod : MethodId := ⟨1, 1⟩
def args0 : Array Value := #[.int 5, .int 2, .int 3, .int 4, .int 1, .int 7]
def aboutOver (below : List Frame) : State where
  vm := { classes := classes, interned := interned.toArray }
  heap := heap
  slotsUsed := slotsUsed
  threads := #[{ frames := .invoking theMethod args0 :: below }]
def below0 : List Frame := [.native { method := ⟨0, 0⟩, args := #[] }]
def about1 : State := aboutOver below0
def p0 : Program := .bare "" "" ""
def e0 : Env := launch0.env 0 0 0
theorem w_frames : about1.frames = Frame.invoking theMethod args0 :: below0 := rfl
set_option maxRecDepth 65536 in
theorem w_args : argsFit about1.vm theMethod args0 = true := by decide +kernel
set_option maxRecDepth 65536 in
theorem w_heap : heapFits about1 = true := by decide +kernel
set_option maxRecDepth 65536 in
theorem w_runnable : about1.curStatus? = some .runnable := by decide +kernel
set_option maxRecDepth 65536 in
theorem w_alone : about1.alone = true := by decide +kernel
set_option maxRecDepth 65536 in
theorem w_named : about1.methodNamed? x = some theMethod := by decide +kernel
set_option maxRecDepth 65536 in
theorem w_hears : about1.hears theMethod below0 = true := by decide +kernel
set_option maxRecDepth 65536 in
theorem w_ripe : about1.ripe theMethod args0 below0 = true := by decide +kernel
theorem w_running : about1.status = .running := rfl
set_option maxRecDepth 65536 in
theorem w_room : about1.hasRoom e0.platform room_1 = true :=
  launch0.hasRoom_least _ room_1 (by decide +kernel) (by decide +kernel) (by decide +kernel) (by decide +kernel) (by decide +kernel) (by decide +kernel)
theorem allAtoms_all (ts : List Jvm.Cond) (a : Array Jvm.Value) (st : Jvm.State) : (allAtoms ts).before a st = ts.all (fun c => c.before a st) := by
  induction ts with
  | nil => rfl
  | cons c t ih =>
    show (Jvm.Cond.and c (allAtoms t)).before a st = _
    rw [Jvm.Cond.before_and, ih, List.all_cons]
def words1 : List Jvm.Cond := Jvm.Cond.code x code maxLocals ret :: tables_1
/-- a 'code' word, met by the world's own term for the bytes: nothing is compared byte by byte -/
theorem code_word {y : MethodName} {bytes : ByteArray} {mx : Nat} {rt : Option FieldType} {a : Array Value} {s : State} {m : MethodId} {meth : Method} {c : Code} (h1 : s.methodNamed? y = some m) (h2 : s.vm.method? m = some meth) (h3 : meth.code = some c) (h4 : c.code = bytes)
    (h5 : (c.maxLocals == mx && c.exceptionTable.isEmpty && decide (c.maxStack ≤ mostOperands) && decide (meth.sig.returnType = rt) && !meth.locks && decide (parseMethodDescriptor y.desc = some meth.sig)) = true) : (Jvm.Cond.code y bytes mx rt).before a s = true := by
  simp only [Bool.and_eq_true, beq_iff_eq, Bool.not_eq_true', decide_eq_true_eq] at h5
  obtain ⟨⟨⟨⟨⟨g1, g2⟩, g3⟩, g4⟩, g5⟩, g6⟩ := h5
  simp [Cond.before, Cond.holds, Cond.value, h1, h2, h3, h4, g1, g2, g3, g4, g5, g6]
def isCode : Jvm.Cond → Bool
  | .code _ _ _ _ => true
  | _ => false
theorem all_split {L : List Jvm.Cond} {P : Jvm.Cond → Bool} (h1 : L.all (fun c => isCode c || P c) = true) (h2 : ∀ c ∈ L.filter isCode, P c = true) : L.all P = true := by
  refine List.all_eq_true.mpr fun c hc => ?_
  have h := List.all_eq_true.mp h1 c hc
  rcases Bool.eq_false_or_eq_true (isCode c) with hi | hi
  · exact h2 c (List.mem_filter.mpr ⟨hc, hi⟩)
  · simpa [hi] using h
set_option maxRecDepth 65536 in
theorem w_c0 : (Jvm.Cond.code x code maxLocals ret).before args0 about1 = true := code_word (m := ⟨1, 1⟩) (meth := k1m1) (c := k1c1) (by decide +kernel) rfl rfl rfl (by decide +kernel)
set_option maxRecDepth 65536 in
theorem w_c1 : (Jvm.Cond.code ({ cls := "java/lang/String", name := "<init>", desc := "([C)V" } : Jvm.MethodName) jdk_42_method_3_code (2 : Nat) (Option.none : Option Jvm.ClassFile.FieldType)).before args0 about1 = true := code_word (m := ⟨7, 1⟩) (meth := k7m1) (c := k7c1) (by decide +kernel) rfl rfl rfl (by decide +kernel)
set_option maxRecDepth 65536 in
theorem w_c2 : (Jvm.Cond.code ({ cls := "java/lang/String", name := "<init>", desc := "([CIILjava/lang/Void;)V" } : Jvm.MethodName) jdk_42_method_149_code (6 : Nat) (Option.none : Option Jvm.ClassFile.FieldType)).before args0 about1 = true := code_word (m := ⟨7, 2⟩) (meth := k7m2) (c := k7c2) (by decide +kernel) rfl rfl rfl (by decide +kernel)
set_option maxRecDepth 65536 in
theorem w_c3 : (Jvm.Cond.code ({ cls := "java/lang/Object", name := "<init>", desc := "()V" } : Jvm.MethodName) object_method_1_code (1 : Nat) (Option.none : Option Jvm.ClassFile.FieldType)).before args0 about1 = true := code_word (m := ⟨0, 0⟩) (meth := k0m0) (c := k0c0) (by decide +kernel) rfl rfl rfl (by decide +kernel)
set_option maxRecDepth 65536 in
theorem w_c4 : (Jvm.Cond.code ({ cls := "java/lang/StringUTF16", name := "compress", desc := "([CII)[B" } : Jvm.MethodName) jdk_52_method_16_code (6 : Nat) (Option.some (Jvm.ClassFile.FieldType.array Jvm.ClassFile.FieldType.byte))).before args0 about1 = true := code_word (m := ⟨8, 2⟩) (meth := k8m2) (c := k8c2) (by decide +kernel) rfl rfl rfl (by decide +kernel)
set_option maxRecDepth 65536 in
theorem w_c5 : (Jvm.Cond.code ({ cls := "java/lang/StringUTF16", name := "compress", desc := "([CI[BII)I" } : Jvm.MethodName) jdk_52_method_21_code (7 : Nat) (Option.some Jvm.ClassFile.FieldType.int)).before args0 about1 = true := code_word (m := ⟨8, 3⟩) (meth := k8m3) (c := k8c3) (by decide +kernel) rfl rfl rfl (by decide +kernel)
set_option maxRecDepth 65536 in
theorem w_c6 : (Jvm.Cond.code ({ cls := "java/lang/StringUTF16", name := "coderFromArrayLen", desc := "([BI)B" } : Jvm.MethodName) jdk_52_method_15_code (2 : Nat) (Option.some Jvm.ClassFile.FieldType.byte)).before args0 about1 = true := code_word (m := ⟨8, 1⟩) (meth := k8m1) (c := k8c1) (by decide +kernel) rfl rfl rfl (by decide +kernel)
set_option maxRecDepth 65536 in
theorem w_c7 : (Jvm.Cond.code ({ cls := "com/example/accesstrail/accesstrail/server/RequestReader$Head", name := "<init>", desc := "(Ljava/lang/String;Ljava/lang/String;Ljava/lang/String;Ljava/lang/String;Ljava/util/Map;IZZZ)V" } : Jvm.MethodName) prog_28_method_1_code (10 : Nat) (Option.none : Option Jvm.ClassFile.FieldType)).before args0 about1 = true := code_word (m := ⟨10, 0⟩) (meth := k10m0) (c := k10c0) (by decide +kernel) rfl rfl rfl (by decide +kernel)
set_option maxRecDepth 65536 in
theorem w_c8 : (Jvm.Cond.code ({ cls := "java/lang/Record", name := "<init>", desc := "()V" } : Jvm.MethodName) jdk_30_method_1_code (1 : Nat) (Option.none : Option Jvm.ClassFile.FieldType)).before args0 about1 = true := code_word (m := ⟨9, 0⟩) (meth := k9m0) (c := k9c0) (by decide +kernel) rfl rfl rfl (by decide +kernel)
set_option maxRecDepth 65536 in
theorem w_c9 : (Jvm.Cond.code ({ cls := "com/example/accesstrail/accesstrail/server/RequestReader$Head", name := "with", desc := "([B)Lcom/example/accesstrail/accesstrail/server/Request;" } : Jvm.MethodName) prog_28_method_2_code (2 : Nat) (Option.some (Jvm.ClassFile.FieldType.object "com/example/accesstrail/accesstrail/server/Request"))).before args0 about1 = true := code_word (m := ⟨10, 1⟩) (meth := k10m1) (c := k10c1) (by decide +kernel) rfl rfl rfl (by decide +kernel)
set_option maxRecDepth 65536 in
theorem w_c10 : (Jvm.Cond.code ({ cls := "com/example/accesstrail/accesstrail/server/Request", name := "<init>", desc := "(Ljava/lang/String;Ljava/lang/String;Ljava/lang/String;Ljava/lang/String;Ljava/util/Map;[B)V" } : Jvm.MethodName) prog_25_method_1_code (7 : Nat) (Option.none : Option Jvm.ClassFile.FieldType)).before args0 about1 = true := code_word (m := ⟨11, 0⟩) (meth := k11m0) (c := k11c0) (by decide +kernel) rfl rfl rfl (by decide +kernel)
set_option maxRecDepth 65536 in
theorem w_c11 : (Jvm.Cond.code ({ cls := "com/example/accesstrail/accesstrail/server/Request", name := "method", desc := "()Ljava/lang/String;" } : Jvm.MethodName) prog_25_method_6_code (1 : Nat) (Option.some (Jvm.ClassFile.FieldType.object "java/lang/String"))).before args0 about1 = true := code_word (m := ⟨11, 1⟩) (meth := k11m1) (c := k11c1) (by decide +kernel) rfl rfl rfl (by decide +kernel)
set_option maxRecDepth 65536 in
theorem w_c12 : (Jvm.Cond.code ({ cls := "com/example/accesstrail/accesstrail/server/Request", name := "target", desc := "()Ljava/lang/String;" } : Jvm.MethodName) prog_25_method_7_code (1 : Nat) (Option.some (Jvm.ClassFile.FieldType.object "java/lang/String"))).before args0 about1 = true := code_word (m := ⟨11, 2⟩) (meth := k11m2) (c := k11c2) (by decide +kernel) rfl rfl rfl (by decide +kernel)
set_option maxRecDepth 65536 in
theorem w_c13 : (Jvm.Cond.code ({ cls := "com/example/accesstrail/accesstrail/server/Request", name := "path", desc := "()Ljava/lang/String;" } : Jvm.MethodName) prog_25_method_8_code (1 : Nat) (Option.some (Jvm.ClassFile.FieldType.object "java/lang/String"))).before args0 about1 = true := code_word (m := ⟨11, 3⟩) (meth := k11m3) (c := k11c3) (by decide +kernel) rfl rfl rfl (by decide +kernel)
set_option maxRecDepth 65536 in
theorem w_c14 : (Jvm.Cond.code ({ cls := "com/example/accesstrail/accesstrail/server/Request", name := "query", desc := "()Ljava/lang/String;" } : Jvm.MethodName) prog_25_method_9_code (1 : Nat) (Option.some (Jvm.ClassFile.FieldType.object "java/lang/String"))).before args0 about1 = true := code_word (m := ⟨11, 4⟩) (meth := k11m4) (c := k11c4) (by decide +kernel) rfl rfl rfl (by decide +kernel)
set_option maxRecDepth 65536 in
theorem w_c15 : (Jvm.Cond.code ({ cls := "com/example/accesstrail/accesstrail/server/Request", name := "fields", desc := "()Ljava/util/Map;" } : Jvm.MethodName) prog_25_method_10_code (1 : Nat) (Option.some (Jvm.ClassFile.FieldType.object "java/util/Map"))).before args0 about1 = true := code_word (m := ⟨11, 5⟩) (meth := k11m5) (c := k11c5) (by decide +kernel) rfl rfl rfl (by decide +kernel)
set_option maxRecDepth 65536 in
theorem w_c16 : (Jvm.Cond.code ({ cls := "com/example/accesstrail/accesstrail/server/Request", name := "body", desc := "()[B" } : Jvm.MethodName) prog_25_method_11_code (1 : Nat) (Option.some (Jvm.ClassFile.FieldType.array Jvm.ClassFile.FieldType.byte))).before args0 about1 = true := code_word (m := ⟨11, 6⟩) (meth := k11m6) (c := k11c6) (by decide +kernel) rfl rfl rfl (by decide +kernel)
def codes1 : List Jvm.Cond := [Jvm.Cond.code x code maxLocals ret, Jvm.Cond.code ({ cls := "java/lang/String", name := "<init>", desc := "([C)V" } : Jvm.MethodName) jdk_42_method_3_code (2 : Nat) (Option.none : Option Jvm.ClassFile.FieldType), Jvm.Cond.code ({ cls := "java/lang/String", name := "<init>", desc := "([CIILjava/lang/Void;)V" } : Jvm.MethodName) jdk_42_method_149_code (6 : Nat) (Option.none : Option Jvm.ClassFile.FieldType), Jvm.Cond.code ({ cls := "java/lang/Object", name := "<init>", desc := "()V" } : Jvm.MethodName) object_method_1_code (1 : Nat) (Option.none : Option Jvm.ClassFile.FieldType), Jvm.Cond.code ({ cls := "java/lang/StringUTF16", name := "compress", desc := "([CII)[B" } : Jvm.MethodName) jdk_52_method_16_code (6 : Nat) (Option.some (Jvm.ClassFile.FieldType.array Jvm.ClassFile.FieldType.byte)), Jvm.Cond.code ({ cls := "java/lang/StringUTF16", name := "compress", desc := "([CI[BII)I" } : Jvm.MethodName) jdk_52_method_21_code (7 : Nat) (Option.some Jvm.ClassFile.FieldType.int), Jvm.Cond.code ({ cls := "java/lang/StringUTF16", name := "coderFromArrayLen", desc := "([BI)B" } : Jvm.MethodName) jdk_52_method_15_code (2 : Nat) (Option.some Jvm.ClassFile.FieldType.byte), Jvm.Cond.code ({ cls := "com/example/accesstrail/accesstrail/server/RequestReader$Head", name := "<init>", desc := "(Ljava/lang/String;Ljava/lang/String;Ljava/lang/String;Ljava/lang/String;Ljava/util/Map;IZZZ)V" } : Jvm.MethodName) prog_28_method_1_code (10 : Nat) (Option.none : Option Jvm.ClassFile.FieldType), Jvm.Cond.code ({ cls := "java/lang/Record", name := "<init>", desc := "()V" } : Jvm.MethodName) jdk_30_method_1_code (1 : Nat) (Option.none : Option Jvm.ClassFile.FieldType), Jvm.Cond.code ({ cls := "com/example/accesstrail/accesstrail/server/RequestReader$Head", name := "with", desc := "([B)Lcom/example/accesstrail/accesstrail/server/Request;" } : Jvm.MethodName) prog_28_method_2_code (2 : Nat) (Option.some (Jvm.ClassFile.FieldType.object "com/example/accesstrail/accesstrail/server/Request")), Jvm.Cond.code ({ cls := "com/example/accesstrail/accesstrail/server/Request", name := "<init>", desc := "(Ljava/lang/String;Ljava/lang/String;Ljava/lang/String;Ljava/lang/String;Ljava/util/Map;[B)V" } : Jvm.MethodName) prog_25_method_1_code (7 : Nat) (Option.none : Option Jvm.ClassFile.FieldType), Jvm.Cond.code ({ cls := "com/example/accesstrail/accesstrail/server/Request", name := "method", desc := "()Ljava/lang/String;" } : Jvm.MethodName) prog_25_method_6_code (1 : Nat) (Option.some (Jvm.ClassFile.FieldType.object "java/lang/String")), Jvm.Cond.code ({ cls := "com/example/accesstrail/accesstrail/server/Request", name := "target", desc := "()Ljava/lang/String;" } : Jvm.MethodName) prog_25_method_7_code (1 : Nat) (Option.some (Jvm.ClassFile.FieldType.object "java/lang/String")), Jvm.Cond.code ({ cls := "com/example/accesstrail/accesstrail/server/Request", name := "path", desc := "()Ljava/lang/String;" } : Jvm.MethodName) prog_25_method_8_code (1 : Nat) (Option.some (Jvm.ClassFile.FieldType.object "java/lang/String")), Jvm.Cond.code ({ cls := "com/example/accesstrail/accesstrail/server/Request", name := "query", desc := "()Ljava/lang/String;" } : Jvm.MethodName) prog_25_method_9_code (1 : Nat) (Option.some (Jvm.ClassFile.FieldType.object "java/lang/String")), Jvm.Cond.code ({ cls := "com/example/accesstrail/accesstrail/server/Request", name := "fields", desc := "()Ljava/util/Map;" } : Jvm.MethodName) prog_25_method_10_code (1 : Nat) (Option.some (Jvm.ClassFile.FieldType.object "java/util/Map")), Jvm.Cond.code ({ cls := "com/example/accesstrail/accesstrail/server/Request", name := "body", desc := "()[B" } : Jvm.MethodName) prog_25_method_11_code (1 : Nat) (Option.some (Jvm.ClassFile.FieldType.array Jvm.ClassFile.FieldType.byte))]
set_option maxRecDepth 65536 in
theorem codes_eq : words1.filter isCode = codes1 := rfl
theorem w_codes : ∀ c ∈ words1.filter isCode, c.before args0 about1 = true := by
  rw [codes_eq]
  intro c hc
  simp only [codes1, List.mem_cons, List.not_mem_nil, or_false] at hc
  rcases hc with rfl | rfl | rfl | rfl | rfl | rfl | rfl | rfl | rfl | rfl | rfl | rfl | rfl | rfl | rfl | rfl | rfl
  · exact w_c0
  · exact w_c1
  · exact w_c2
  · exact w_c3
  · exact w_c4
  · exact w_c5
  · exact w_c6
  · exact w_c7
  · exact w_c8
  · exact w_c9
  · exact w_c10
  · exact w_c11
  · exact w_c12
  · exact w_c13
  · exact w_c14
  · exact w_c15
  · exact w_c16
set_option maxRecDepth 65536 in
theorem w_t1 : (words1.take 24).all (fun c => isCode c || c.before args0 about1) = true := by decide +kernel
set_option maxRecDepth 65536 in
theorem w_t2 : ((words1.drop 24).take 24).all (fun c => isCode c || c.before args0 about1) = true := by decide +kernel
set_option maxRecDepth 65536 in
theorem w_t3 : (((words1.drop 24).drop 24).take 24).all (fun c => isCode c || c.before args0 about1) = true := by decide +kernel
set_option maxRecDepth 65536 in
theorem w_t4 : ((((words1.drop 24).drop 24).drop 24).take 24).all (fun c => isCode c || c.before args0 about1) = true := by decide +kernel
set_option maxRecDepth 65536 in
theorem w_t5 : ((((words1.drop 24).drop 24).drop 24).drop 24).all (fun c => isCode c || c.before args0 about1) = true := by decide +kernel
theorem w_tables : (allAtoms (Jvm.Cond.code x code maxLocals ret :: tables_1)).before args0 about1 = true := by
  rw [allAtoms_all]
  show words1.all (fun c => c.before args0 about1) = true
  refine all_split ?_ w_codes
  rw [← List.take_append_drop 24 words1, List.all_append, w_t1, ← List.take_append_drop 24 (words1.drop 24), List.all_append, w_t2, ← List.take_append_drop 24 ((words1.drop 24).drop 24), List.all_append, w_t3, ← List.take_append_drop 24 (((words1.drop 24).drop 24).drop 24), List.all_append, w_t4, w_t5]
  rfl
set_option maxRecDepth 65536 in
theorem w_rest : rest_1_c.before args0 about1 = true := by decide +kernel
set_option maxRecDepth 65536 in
theorem w_case : (Jvm.Cond.and given_1 narrow_1).before args0 about1 = true := by decide +kernel
theorem w_applies : (headSpec (Jvm.Cond.code x code maxLocals ret :: tables_1) room_1).applies x e0.platform about1 = true :=
  (Spec.applies_iff w_frames).mpr ⟨w_running, w_runnable, w_alone, w_named, w_hears, w_ripe, w_room, w_tables⟩
theorem atStart : AtStart classFile x code maxLocals ret World_1 tables_1 room_1 Calls_1 rest_1 Pre_1 launch0 p0 e0 about1 theMethod args0 below0 :=
  ⟨lists_1, trivial, launch0.admits_env _ _ _, launch0.least_env, fairChoices_fair.cas, fairChoices_fair.clock, w_frames, w_args, w_heap, w_applies, trivial, w_rest, w_case⟩
end start1
theorem witness_1 : WitnessClaimed_1 := ⟨start1.p0, start1.e0, start1.about1, start1.theMethod, start1.args0, start1.below0, start1.atStart⟩
end Jvm.Pilot.@@N@@
