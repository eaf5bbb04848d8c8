import JvmDerived
import JvmDerived.Pilot.@@N@@Statement
import JvmDerived.Pilot.@@N@@Code
set_option linter.unusedVariables false
set_option linter.unusedSimpArgs false
namespace Jvm.RoadKit
open Sem ClassFile Op Lib Jvm.Stand Jvm.Free Jvm.LawKit
section New
variable {p : Program} {l : Launch} {e : Env} {R : Room} {s : State} {m : MethodId} {args : Array Value} {below : List Frame} {meth : Method} {c : Code} {T : State} {locs : List Loc} {cells slots : Nat}
theorem retI (X : Stand p l e R s m args below meth c T locs cells slots) (hx : p.tables.exec = Jvm.exec) {pc : Nat} {Ls : Array Slot} {z : Int32} {rest : List Value} (hret : meth.sig.returnType = some .int) (hd : decode c.code pc = .ok (.ireturn, 1)) {fs : List Frame}
    (hl : ∀ (f : JFrame) (acts : List Action), f.method = m → f.locked = none → f.entered = [] → (doReturn e (T.setTop f) acts (some (.int z))).1 = T.setFrames fs) : Steps p.tables e below (T.setTop (mkF m pc Ls (.int z :: rest))) (T.setFrames fs) := by
  have hm' : T.vm.method? m = some meth := X.method'
  have hn : narrow .int (.int z) = .int z := rfl
  show Steps p.tables e below (T.setTop { method := m, pc := pc, locals := Ls, stack := _ :: rest, locked := none }) _
  jvm_step X.here [X.here.top, hx, hd, hm', hret, hn]
  first | (intro acts; rw [hl _ acts rfl rfl rfl]) | rw [hl _ _ rfl rfl rfl]
  exact Steps.refl _
end New
end Jvm.RoadKit
namespace Jvm.Pilot.@@N@@
open Jvm Jvm.ClassFile Sem Op Lib Jvm.Free Jvm.Stand Jvm.LawKit Jvm.RoadKit Bundle Jvm.Pilot.@@N@@.Jvm.D
open Jvm.Free.Fl (NoNaN64)
open Jvm.FP.Core (DInt Whole val64 b64 Datum)
theorem own_nn {i : Int} {a : UInt64} (h : DInt i a) : NoNaN64 a := by
  refine Jvm.Free.Fl.noNaN64_no.mpr ((FP.Core.notNaN_iff a).mpr fun q => ?_)
  unfold DInt at h; rw [q] at h; exact h
theorem own_same {n : Int} {u v : Datum} (hn : n ≠ 0) (hu : Whole n u) (hv : Whole n v) : FP.Core.round b64 u = FP.Core.round b64 v := by
  cases u with
  | nan => exact hu.elim
  | inf _ => exact hu.elim
  | fin s c q =>
    cases v with
    | nan => exact hv.elim
    | inf _ => exact hv.elim
    | fin t d r =>
      rw [FP.Core.round_whole hu, FP.Core.round_whole hv]
      have e1 := FP.Core.whole_sign hu hn
      have e2 := FP.Core.whole_sign hv hn
      rw [e1, e2]
theorem own_fix {i : Int} {a : UInt64} {u : Datum} (ha : DInt i a) (hu : Whole i u) : Whole i (FP.Core.round b64 u) := by
  by_cases hi : i = 0
  · exact FP.Core.whole_round FP.Core.good_b64 FP.Core.wide_b64 (by subst hi; decide) hu
  · rw [own_same hi hu ha, FP.Core.round_of_fits FP.Core.good_b64 (FP.Core.val64_fits a)]; exact ha
theorem own_lead (A : Nat) (h : 0 < A) : FP.Core.leading A 1 = (A.log2 : Int) := by
  unfold FP.Core.leading
  have e1 : Nat.log2 1 = 0 := by decide
  have hle := Nat.log2_self_le (n := A) (by omega)
  simp only [e1]
  rw [if_pos (by
    have t1 : ((A.log2 : Int) - ((0 : Nat) : Int)).toNat = A.log2 := by omega
    have t2 : (-((A.log2 : Int) - ((0 : Nat) : Int))).toNat = 0 := by omega
    rw [t1, t2]; omega)]
  omega
theorem own_rr (s : Bool) (A : Nat) (h1 : 2 ^ 53 < A) (h2 : A < 2 ^ 63) : ∃ E : Nat, E ≤ A + 512 ∧ A ≤ E + 512 ∧ Whole (FP.Core.signed s E) (FP.Core.roundRatio b64 s A 1 0) := by
  have hl1 : 53 ≤ A.log2 := (Nat.le_log2 (by omega)).mpr (by omega)
  have hl2 : A.log2 < 63 := (Nat.log2_lt (by omega)).mpr h2
  obtain ⟨q, hq⟩ : ∃ q : Nat, q = A.log2 - 52 := ⟨_, rfl⟩
  have hqm : FP.Core.quantum b64 A 1 0 = (q : Int) := by
    unfold FP.Core.quantum
    rw [own_lead A (by omega)]
    have : b64.qmin = -1074 := by decide
    have hp : (b64.p : Int) = 53 := by decide
    rw [this, hp]
    omega
  have hB : 2 ^ q ≤ 1024 := Nat.le_trans (Nat.pow_le_pow_right (by decide) (show q ≤ 10 by omega)) (by decide)
  have hB0 : 0 < 2 ^ q := Nat.pow_pos (by decide)
  obtain ⟨c, hc⟩ : ∃ c, c = FP.Core.nearest A (2 ^ q) := ⟨_, rfl⟩
  have hAq : A ≤ 2 ^ 53 * 2 ^ q := by
    have := Nat.lt_log2_self (n := A)
    rw [← Nat.pow_add]
    have e : A.log2 + 1 = 53 + q := by omega
    rw [e] at this; omega
  have hcl : c ≤ 2 ^ 53 := by rw [hc]; exact FP.Core.nearest_le hB0 hAq
  obtain ⟨s1, s2, -⟩ := FP.Core.nearest_spec A (2 ^ q) hB0
  rw [← hc] at s1 s2
  have hrr : FP.Core.roundRatio b64 s A 1 0 = FP.Core.settle b64 s c (q : Int) := by
    unfold FP.Core.roundRatio
    rw [if_neg (by omega), hqm]
    unfold FP.Core.roundAt FP.Core.unitsNum FP.Core.unitsDen
    have t1 : (0 - (q : Int)).toNat = 0 := by omega
    have t2 : ((q : Int) - 0).toNat = q := by omega
    rw [t1, t2, Nat.pow_zero, Nat.mul_one, Nat.one_mul, ← hc]
  have hE : c * 2 ^ q ≤ A + 512 ∧ A ≤ c * 2 ^ q + 512 := by
    have a1 : (2 * c + 1) * 2 ^ q = 2 * (c * 2 ^ q) + 2 ^ q := by rw [Nat.add_mul, Nat.one_mul, Nat.mul_assoc]
    have a2 : 2 * c * 2 ^ q = 2 * (c * 2 ^ q) := Nat.mul_assoc _ _ _
    rw [a1] at s1
    rw [a2] at s2
    omega
  refine ⟨c * 2 ^ q, hE.1, hE.2, ?_⟩
  rw [hrr]
  unfold FP.Core.settle
  have hp : b64.p = 53 := rfl
  have ht : b64.tails = 2 ^ 52 := rfl
  have hm : b64.qmax = 971 := by decide
  rw [hp]
  by_cases hlt : c < 2 ^ 53
  · rw [if_pos hlt]
    unfold FP.Core.bound
    rw [if_pos (by rw [hm]; omega)]
    show FP.Core.signed s (c * 2 ^ ((q : Int)).toNat) = FP.Core.signed s (c * 2 ^ q) * ((2 ^ (-(q : Int)).toNat : Nat) : Int)
    have t1 : ((q : Int)).toNat = q := by omega
    have t2 : (-(q : Int)).toNat = 0 := by omega
    rw [t1, t2]; simp
  · rw [if_neg hlt]
    unfold FP.Core.bound
    rw [if_pos (by rw [hm]; omega), ht]
    show FP.Core.signed s (2 ^ 52 * 2 ^ ((q : Int) + 1).toNat) = FP.Core.signed s (c * 2 ^ q) * ((2 ^ (-((q : Int) + 1)).toNat : Nat) : Int)
    have t1 : ((q : Int) + 1).toNat = q + 1 := by omega
    have t2 : (-((q : Int) + 1)).toNat = 0 := by omega
    have ec : c = 2 ^ 53 := by omega
    have e5 : 2 ^ 52 * 2 ^ (q + 1) = 2 ^ 53 * 2 ^ q := by rw [← Nat.pow_add, ← Nat.pow_add]; congr 1; omega
    rw [t1, t2, ec, e5]; simp
theorem own_near (n : Int) (h : n.natAbs < 2 ^ 63) : ∃ E : Int, E - n ≤ 512 ∧ n - E ≤ 512 ∧ ∀ u, Whole n u → Whole E (FP.Core.round b64 u) := by
  by_cases hs : n.natAbs ≤ 2 ^ 53
  · exact ⟨n, by omega, by omega, fun u hu => FP.Core.whole_round FP.Core.good_b64 FP.Core.wide_b64 hs hu⟩
  · obtain ⟨E, e1, e2, e3⟩ := own_rr (decide (n < 0)) n.natAbs (by omega) h
    refine ⟨FP.Core.signed (decide (n < 0)) E, ?_, ?_, fun u hu => ?_⟩
    · unfold FP.Core.signed; by_cases q : n < 0
      · simp only [q, decide_true, if_true]; omega
      · simp only [q, decide_false]; show (E : Int) - n ≤ 512; omega
    · unfold FP.Core.signed; by_cases q : n < 0
      · simp only [q, decide_true, if_true]; omega
      · simp only [q, decide_false]; show n - (E : Int) ≤ 512; omega
    · cases u with
      | nan => exact hu.elim
      | inf _ => exact hu.elim
      | fin s c q =>
        rw [FP.Core.round_whole hu, FP.Core.whole_sign hu (by omega)]; exact e3
theorem own_addfix {i j k : Int} {a b c : UInt64} (ha : DInt i a) (hb : DInt j b) (hc : DInt k c) (e : i + j = k) : DInt k (FP.dadd a b) := by
  unfold DInt; show Whole k (val64 (FP.Core.dadd a b)); rw [FP.Core.val64_dadd]; exact own_fix hc (e ▸ FP.Core.whole_sum ha hb)
theorem own_subfix {i j k : Int} {a b c : UInt64} (ha : DInt i a) (hb : DInt j b) (hc : DInt k c) (e : i - j = k) : DInt k (FP.dsub a b) := by
  unfold DInt; show Whole k (val64 (FP.Core.dsub a b)); rw [FP.Core.val64_dsub]; exact own_fix hc (by have := FP.Core.whole_sum ha (FP.Core.whole_negate hb); rwa [show i + -j = k by omega] at this)
theorem own_addR {i j n E : Int} {a b : UInt64} (ha : DInt i a) (hb : DInt j b) (e : i + j = n) (hE : ∀ u, Whole n u → Whole E (FP.Core.round b64 u)) : DInt E (FP.dadd a b) := by
  unfold DInt; show Whole E (val64 (FP.Core.dadd a b)); rw [FP.Core.val64_dadd]; exact hE _ (e ▸ FP.Core.whole_sum ha hb)
theorem own_l2dR {x : Int64} {E : Int} (hE : ∀ u, Whole x.toInt u → Whole E (FP.Core.round b64 u)) : DInt E (FP.l2d x) := by
  unfold DInt; show Whole E (val64 (FP.Core.l2d x)); rw [FP.Core.val64_l2d]; exact hE _ (FP.Core.whole_ofInt _)
theorem own_z : DInt 0 (0 : UInt64) := by
  have h := FP.Core.i2d_int 0
  rw [show FP.Core.i2d 0 = 0 from by decide +kernel] at h
  exact h
def own_tk (d l : UInt64) : UInt64 := FP.dadd d l
def own_en (t d l : UInt64) : UInt64 := FP.dadd t (own_tk d l)
def own_ad (t d l : UInt64) : UInt64 := FP.dsub (own_en t d l) t
def own_lo (t d l : UInt64) : UInt64 := FP.dadd (FP.dsub t (FP.dsub (own_en t d l) (own_ad t d l))) (FP.dsub (own_tk d l) (own_ad t d l))
def own_ok (t d l : UInt64) : Prop := NoNaN64 (own_tk d l) ∧ NoNaN64 (own_en t d l) ∧ NoNaN64 (own_ad t d l) ∧ NoNaN64 (FP.dsub (own_en t d l) (own_ad t d l)) ∧ NoNaN64 (FP.dsub t (FP.dsub (own_en t d l) (own_ad t d l))) ∧ NoNaN64 (FP.dsub (own_tk d l) (own_ad t d l)) ∧ NoNaN64 (own_lo t d l)
theorem own_first {s1 : Int} {d : UInt64} (hd : DInt s1 d) : own_ok 0 d 0 ∧ DInt s1 (own_en 0 d 0) ∧ DInt 0 (own_lo 0 d 0) := by
  have h1 : DInt s1 (own_tk d 0) := own_addfix hd own_z hd (by omega)
  have h2 : DInt s1 (own_en 0 d 0) := own_addfix own_z h1 hd (by omega)
  have h3 : DInt s1 (own_ad 0 d 0) := own_subfix h2 own_z hd (by omega)
  have h4 : DInt 0 (FP.dsub (own_en 0 d 0) (own_ad 0 d 0)) := own_subfix h2 h3 own_z (by omega)
  have h5 : DInt 0 (FP.dsub 0 (FP.dsub (own_en 0 d 0) (own_ad 0 d 0))) := own_subfix own_z h4 own_z (by omega)
  have h6 : DInt 0 (FP.dsub (own_tk d 0) (own_ad 0 d 0)) := own_subfix h1 h3 own_z (by omega)
  have h7 : DInt 0 (own_lo 0 d 0) := own_addfix h5 h6 own_z (by omega)
  exact ⟨⟨own_nn h1, own_nn h2, own_nn h3, own_nn h4, own_nn h5, own_nn h6, own_nn h7⟩, h2, h7⟩
theorem own_small {i j : Int} {a b : UInt64} (ha : DInt i a) (hb : DInt j b) (h : (i + j).natAbs ≤ 2 ^ 53) : DInt (i + j) (FP.dadd a b) := FP.Core.dadd_int ha hb h
theorem own_smallS {i j : Int} {a b : UInt64} (ha : DInt i a) (hb : DInt j b) (h : (i - j).natAbs ≤ 2 ^ 53) : DInt (i - j) (FP.dsub a b) := FP.Core.dsub_int ha hb h
theorem own_next {T L X N E : Int} {t d l : UInt64} (ht : DInt T t) (hl : DInt L l) (hd : DInt X d) (bL : L.natAbs ≤ 512) (bX : X.natAbs ≤ 2 ^ 20) (hN : N = T + L + X) (e1 : E - N ≤ 512) (e2 : N - E ≤ 512) (hE : ∀ u, Whole N u → Whole E (FP.Core.round b64 u)) :
    own_ok t d l ∧ DInt E (own_en t d l) ∧ DInt (N - E) (own_lo t d l) := by
  have h1 : DInt (X + L) (own_tk d l) := own_small hd hl (by omega)
  have h2 : DInt E (own_en t d l) := own_addR ht h1 (by omega) hE
  have h3 : DInt (E - T) (own_ad t d l) := own_smallS h2 ht (by omega)
  have h4 : DInt T (FP.dsub (own_en t d l) (own_ad t d l)) := own_subfix h2 h3 ht (by omega)
  have h5 : DInt (T - T) (FP.dsub t (FP.dsub (own_en t d l) (own_ad t d l))) := own_smallS ht h4 (by omega)
  have h6 : DInt (X + L - (E - T)) (FP.dsub (own_tk d l) (own_ad t d l)) := own_smallS h1 h3 (by omega)
  have h7 : DInt (T - T + (X + L - (E - T))) (own_lo t d l) := own_small h5 h6 (by omega)
  have e7 : T - T + (X + L - (E - T)) = N - E := by omega
  rw [e7] at h7
  exact ⟨⟨own_nn h1, own_nn h2, own_nn h3, own_nn h4, own_nn h5, own_nn h6, own_nn h7⟩, h2, h7⟩
theorem own_cz {i : Int} {a b : UInt64} {o : CmpOp} (ha : DInt i a) (hb : DInt i b) : cmpValue (FP.dcmp a b) o = (0 : Int32) := by
  have e : FP.dcmp a b = some (compare i i) := FP.Core.dcmp_int ha hb
  have c0 : compare i i = .eq := FP.Core.compare_self_int i
  rw [e, c0]; rfl
theorem own_ofInt {E : Int} (h1 : -(2 ^ 63) ≤ E) (h2 : E < 2 ^ 63) : (Int64.ofInt E).toInt = E := Int64.toInt_ofInt_of_le h1 h2
theorem own_d2l {E : Int} {b : UInt64} (h : DInt E b) (h1 : -(2 ^ 63) ≤ E) (h2 : E < 2 ^ 63) : (FP.d2l b).toInt = E := by
  have e : FP.Core.d2l b = Int64.ofInt E := FP.Core.d2l_int (by rw [own_ofInt h1 h2]; exact h)
  show (FP.Core.d2l b).toInt = E
  rw [e, own_ofInt h1 h2]
theorem own_lost {ex : Int64} {E D : Int} (h : DInt E (FP.l2d ex)) (h1 : -(2 ^ 63) ≤ E) (h2 : E < 2 ^ 63) (he : ex.toInt = E + D) (hD : D.natAbs ≤ 512) : DInt (-D) (FP.l2d (-(ex - FP.d2l (FP.l2d ex)))) := by
  have e1 := own_d2l h h1 h2
  have e2 := c_lsub ex (FP.d2l (FP.l2d ex))
  have r2 := rng64 (ex - FP.d2l (FP.l2d ex))
  have e3 := c_lneg (ex - FP.d2l (FP.l2d ex))
  have r3 := rng64 (-(ex - FP.d2l (FP.l2d ex)))
  have e4 : (-(ex - FP.d2l (FP.l2d ex))).toInt = -D := by omega
  have := FP.Core.l2d_int (a := -(ex - FP.d2l (FP.l2d ex))) (by rw [e4]; omega)
  rw [e4] at this
  exact this
theorem own_shift (x : Int64) (k : Int32) : -(2 ^ 62) ≤ (x >>> ((((1 : Int32) + ((2 : Int32) * (k &&& (31 : Int32)))) &&& 0x3f).toInt64)).toInt ∧ (x >>> ((((1 : Int32) + ((2 : Int32) * (k &&& (31 : Int32)))) &&& 0x3f).toInt64)).toInt ≤ 2 ^ 62 := by
  obtain ⟨q, hq⟩ : ∃ q, q = (1 : Int32) + ((2 : Int32) * (k &&& (31 : Int32))) := ⟨_, rfl⟩
  rw [← hq]
  have a1 := c_imul 2 (k &&& 31)
  have a2 := c_iadd 1 (2 * (k &&& 31))
  rw [← hq] at a2
  have e2 : (2 : Int32).toInt = 2 := rfl
  have e1 : (1 : Int32).toInt = 1 := rfl
  rw [e2] at a1
  rw [e1] at a2
  have p := par q
  have hodd : q.toBitVec.toNat % 2 = 1 := by omega
  obtain ⟨n, hn⟩ : ∃ n, n = q.toBitVec.toNat % 64 := ⟨_, rfl⟩
  have n1 : 1 ≤ n := by omega
  have hs := c_lshr x q n hn.symm
  rw [hs]
  have r := rng64 x
  have hP : 2 ≤ 2 ^ n := by
    have := Nat.pow_le_pow_right (n := 2) (by decide) n1
    simpa using this
  have hP' : (2 : Int) ≤ ((2 ^ n : Nat) : Int) := by exact_mod_cast hP
  have hpos : (0 : Int) < ((2 ^ n : Nat) : Int) := by omega
  constructor
  · apply Int.le_ediv_of_mul_le hpos
    have : -(2 ^ 62) * ((2 ^ n : Nat) : Int) ≤ -(2 ^ 62) * 2 := Int.mul_le_mul_of_nonpos_left (by decide) hP'
    omega
  · apply Int.le_of_lt_add_one
    apply Int.ediv_lt_of_lt_mul hpos
    have : (2 ^ 62 + 1) * 2 ≤ (2 ^ 62 + 1) * ((2 ^ n : Nat) : Int) := Int.mul_le_mul_of_nonneg_left hP' (by decide)
    omega
theorem own_x (x : Int32) : -(2 ^ 20) ≤ ((x >>> ((11 : Int32) &&& 31)).toInt64).toInt ∧ ((x >>> ((11 : Int32) &&& 31)).toInt64).toInt ≤ 2 ^ 20 := by
  have a := c_ishr x 11 11 (by decide)
  have b := c_i2l (x >>> ((11 : Int32) &&& 31))
  have r := rng32 x
  rw [b, a]
  omega
theorem own_add64 {a b : Int64} (h1 : -(2 ^ 63) ≤ a.toInt + b.toInt) (h2 : a.toInt + b.toInt < 2 ^ 63) : (a + b).toInt = a.toInt + b.toInt := by
  have e := c_ladd a b
  have r := rng64 (a + b)
  omega
theorem ef1 (m : MethodId) (x0 : Addr) : entryFrame m #[(.ref x0)] 1 = mkF m 0 #[.val (.ref x0)] [] := by first | (simp [entryFrame, mkF, argsToLocals, Value.category]; done) | rfl
theorem pn_0 : plainName "com/example/reset/reset/Clock" = true := by first | (simp [plainName, overriddenIn]; done) | decide +kernel
theorem d1_0 : decode prog_2_method_1_code 0 = .ok (.aload_n 0, 1) := by decide +kernel
theorem d1_1 : decode prog_2_method_1_code 1 = .ok (.invokespecial 1, 3) := by decide +kernel
theorem d1_4 : decode prog_2_method_1_code 4 = .ok (.return_, 1) := by decide +kernel
def Q1 (Z : State) (a : Addr) (h0 : Heap) (n0 : Nat) (v : Option Value) (h : Heap) (L : List Loc) : Prop := v = none ∧ Fr n0 L ∧ h = h0
set_option maxRecDepth 65536 in
set_option maxHeartbeats 40000000 in
theorem rm1 (l : Launch) (Z : State) (a0 : Array Value) (hw : ∀ d ∈ tables_1, d.before a0 Z = true) (ws : List Jvm.Cond) (a : Addr) (h0 : Heap) (n0 : Nat) (Z0 : n0 ≤ h0.size)  :
    MetFree l (⟨"com/example/reset/reset/Clock", "<init>", "()V"⟩ : MethodName) (head1 (Jvm.Cond.code (⟨"com/example/reset/reset/Clock", "<init>", "()V"⟩ : MethodName) prog_2_method_1_code 1 none :: ws) ({ frames := 1, cells := 0, slots := 0, locals := 12 } : Room)) (fun zza zzU => zza = #[(.ref a)] ∧ Z.Warmed39 zzU.vm ∧ zzU.heap = h0) (fun _ _ _ _ _ => True) (fun _ zzU zzo zzV => ∃ zzv zzL, zzo = .returned zzv ∧ Q1 Z a h0 n0 zzv zzV.heap zzL ∧ FrameEnd zzU zzo zzV zzL ({ frames := 1, cells := 0, slots := 0, locals := 12 } : Room).cells ({ frames := 1, cells := 0, slots := 0, locals := 12 } : Room).slots) := by
  refine MetFree.of_bodySF (plainFor_of_name pn_0) hisR ?_
  intro p e s m args below meth c s₁ Bd hml0 hP hK
  obtain ⟨rfl, hZ, hh⟩ := hP
  have hx := Bd.exec
  have hby := Bd.bytes
  have hml : c.maxLocals = 1 := hml0
  have hown : s.vm.findClass "com/example/reset/reset/Clock" = some m.cls := findClass_of_methodNamed Bd.named
  have hnm := (name_of_methodNamed Bd.named Bd.method).1
  have X0 : Stand p l e ({ frames := 1, cells := 0, slots := 0, locals := 12 } : Room) s m #[(.ref a)] below meth c s₁ [] 0 0 := Stand.of_body Bd
  have e0 : s₁.heap = h0 := by rw [← hh, Bd.state]; rfl
  have N0 := Fr.nil n0
  have R0 : ∀ zt, Steps p.tables e below (s₁.setTop (mkF m 0 #[.val (.ref a)] [])) zt → Steps p.tables e below (s₁.setTop (entryFrame m #[(.ref a)] 1)) zt := fun zt zk => castTop (ef1 m a) zk
  have R1 : ∀ zt, Steps p.tables e below (s₁.setTop (mkF m 1 #[.val (.ref a)] [(.ref a)])) zt → Steps p.tables e below (s₁.setTop (entryFrame m #[(.ref a)] 1)) zt := by
    intro zt zk
    refine R0 zt ?_
    show Steps p.tables e below (s₁.setTop (mkF m 0 #[.val (.ref a)] [])) _
    refine XS.aloadN X0.here hx rfl (hb hby d1_0) rfl rfl ?_
    exact zk
  obtain ⟨T2, X2, e2, st2⟩ := initO X0 hx hZ hown (hw _ (List.mem_of_getElem? (i := 6) rfl)) (hw _ (List.mem_of_getElem? (i := 7) rfl)) (hw _ (List.mem_of_getElem? (i := 8) rfl)) e0 (g := (mkF m 1 #[.val (.ref a)] [(.ref a)])) rfl (by rw [hml]; rfl) rfl (hb hby d1_1) (by decide) (W := 0) (by show 2 * 0 + _ ≤ _; exact Nat.le_of_eq rfl) (by decide)
  have R3 : ∀ zt, Steps p.tables e below (T2.setTop (mkF m 4 #[.val (.ref a)] [])) zt → Steps p.tables e below (s₁.setTop (entryFrame m #[(.ref a)] 1)) zt := by
    intro zt zk
    refine R1 zt ?_
    show Steps p.tables e below (s₁.setTop (mkF m 1 #[.val (.ref a)] [(.ref a)])) _
    refine st2 _ ?_
    exact zk
  obtain ⟨fs, hr, hrun, hended, hW, hsame⟩ := X2.leave (v := none) (fun _ => rfl)
  refine ⟨_, _, R3 _ ?_, hrun, hended, _, _, rfl, ?_, ⟨_, rfl⟩, hW, hsame.mono (by decide) (by decide)⟩
  · exact X2.returnOut hx Bd.returns (hb hby d1_4) hr
  · show Q1 Z a h0 n0 _ T2.heap _
    rw [e2]
    exact ⟨rfl, N0, rfl⟩
theorem ef5 (m : MethodId) (x0 : Addr) : entryFrame m #[(.ref x0)] 1 = mkF m 0 #[.val (.ref x0)] [] := by first | (simp [entryFrame, mkF, argsToLocals, Value.category]; done) | rfl
theorem d5_0 : decode prog_2_method_2_code 0 = .ok (.aload_n 0, 1) := by decide +kernel
theorem d5_1 : decode prog_2_method_2_code 1 = .ok (.getfield 7, 3) := by decide +kernel
theorem d5_4 : decode prog_2_method_2_code 4 = .ok (.dreturn, 1) := by decide +kernel
def Q5 (Z : State) (a : Addr) (tm : UInt64) (h0 : Heap) (n0 : Nat) (v : Option Value) (h : Heap) (L : List Loc) : Prop := v = some (.double tm) ∧ Fr n0 L ∧ h = h0
set_option maxRecDepth 65536 in
set_option maxHeartbeats 40000000 in
theorem rm5 (l : Launch) (Z : State) (a0 : Array Value) (hw : ∀ d ∈ tables_1, d.before a0 Z = true) (ws : List Jvm.Cond) (a : Addr) (tm : UInt64) (h0 : Heap) (n0 : Nat) (Z0 : n0 ≤ h0.size) (F_time_a : Fld Z h0 a "com/example/reset/reset/Clock" "time" "D" (.double tm)) :
    MetFree l (⟨"com/example/reset/reset/Clock", "now", "()D"⟩ : MethodName) (head1 (Jvm.Cond.code (⟨"com/example/reset/reset/Clock", "now", "()D"⟩ : MethodName) prog_2_method_2_code 1 (some .double) :: ws) ({ frames := 0, cells := 0, slots := 0, locals := 0 } : Room)) (fun zza zzU => zza = #[(.ref a)] ∧ Z.Warmed39 zzU.vm ∧ zzU.heap = h0) (fun _ _ _ _ _ => True) (fun _ zzU zzo zzV => ∃ zzv zzL, zzo = .returned zzv ∧ Q5 Z a tm h0 n0 zzv zzV.heap zzL ∧ FrameEnd zzU zzo zzV zzL ({ frames := 0, cells := 0, slots := 0, locals := 0 } : Room).cells ({ frames := 0, cells := 0, slots := 0, locals := 0 } : Room).slots) := by
  refine MetFree.of_bodySF (plainFor_of_name pn_0) hisR ?_
  intro p e s m args below meth c s₁ Bd hml0 hP hK
  obtain ⟨rfl, hZ, hh⟩ := hP
  have hx := Bd.exec
  have hby := Bd.bytes
  have hml : c.maxLocals = 1 := hml0
  have hown : s.vm.findClass "com/example/reset/reset/Clock" = some m.cls := findClass_of_methodNamed Bd.named
  have hnm := (name_of_methodNamed Bd.named Bd.method).1
  have X0 : Stand p l e ({ frames := 0, cells := 0, slots := 0, locals := 0 } : Room) s m #[(.ref a)] below meth c s₁ [] 0 0 := Stand.of_body Bd
  have e0 : s₁.heap = h0 := by rw [← hh, Bd.state]; rfl
  have N0 := Fr.nil n0
  have R0 : ∀ zt, Steps p.tables e below (s₁.setTop (mkF m 0 #[.val (.ref a)] [])) zt → Steps p.tables e below (s₁.setTop (entryFrame m #[(.ref a)] 1)) zt := fun zt zk => castTop (ef5 m a) zk
  have R1 : ∀ zt, Steps p.tables e below (s₁.setTop (mkF m 1 #[.val (.ref a)] [(.ref a)])) zt → Steps p.tables e below (s₁.setTop (entryFrame m #[(.ref a)] 1)) zt := by
    intro zt zk
    refine R0 zt ?_
    show Steps p.tables e below (s₁.setTop (mkF m 0 #[.val (.ref a)] [])) _
    refine XS.aloadN X0.here hx rfl (hb hby d5_0) rfl rfl ?_
    exact zk
  obtain ⟨T2, X2, e2, st2⟩ := getF X0 hx hZ hown (host := "") (Or.inl (hw _ (List.mem_of_getElem? (i := 16) rfl))) Via.refl e0 F_time_a (g := (mkF m 1 #[.val (.ref a)] [(.ref a)])) rfl rfl (hb hby d5_1)
  have R3 : ∀ zt, Steps p.tables e below (T2.setTop (mkF m 4 #[.val (.ref a)] [(.double tm)])) zt → Steps p.tables e below (s₁.setTop (entryFrame m #[(.ref a)] 1)) zt := by
    intro zt zk
    refine R1 zt ?_
    show Steps p.tables e below (s₁.setTop (mkF m 1 #[.val (.ref a)] [(.ref a)])) _
    refine st2 _ ?_
    exact zk
  obtain ⟨fs, hr, hrun, hended, hW, hsame⟩ := X2.leave (v := some (.double tm)) (fun h => by rw [Bd.returns] at h; cases h)
  refine ⟨_, _, R3 _ ?_, hrun, hended, _, _, rfl, ?_, ⟨_, rfl⟩, hW, hsame.mono (by decide) (by decide)⟩
  · exact retOut X2 hx Bd.returns rfl (Or.inr (Or.inr (Or.inl ⟨rfl, rfl, _, rfl⟩))) (hb hby d5_4) hr
  · show Q5 Z a tm h0 n0 _ T2.heap _
    rw [e2]
    exact ⟨rfl, N0, rfl⟩
theorem ef6 (m : MethodId) (x0 : Addr) (x1 : UInt64) : entryFrame m #[(.ref x0), (.double x1)] 3 = mkF m 0 #[.val (.ref x0), .val (.double x1), .second] [] := by first | (simp [entryFrame, mkF, argsToLocals, Value.category]; done) | rfl
theorem d6_0 : decode prog_2_method_4_code 0 = .ok (.dload_n 1, 1) := by decide +kernel
theorem d6_1 : decode prog_2_method_4_code 1 = .ok (.aload_n 0, 1) := by decide +kernel
theorem d6_2 : decode prog_2_method_4_code 2 = .ok (.getfield 7, 3) := by decide +kernel
theorem d6_5 : decode prog_2_method_4_code 5 = .ok (.dsub, 1) := by decide +kernel
theorem d6_6 : decode prog_2_method_4_code 6 = .ok (.aload_n 0, 1) := by decide +kernel
theorem d6_7 : decode prog_2_method_4_code 7 = .ok (.getfield 13, 3) := by decide +kernel
theorem d6_10 : decode prog_2_method_4_code 10 = .ok (.dsub, 1) := by decide +kernel
theorem d6_11 : decode prog_2_method_4_code 11 = .ok (.dreturn, 1) := by decide +kernel
def Q6 (Z : State) (a : Addr) (dd : UInt64) (tm : UInt64) (lo : UInt64) (h0 : Heap) (n0 : Nat) (v : Option Value) (h : Heap) (L : List Loc) : Prop := v = some (.double (FP.dsub (FP.dsub dd tm) lo)) ∧ Fr n0 L ∧ h = h0
set_option maxRecDepth 65536 in
set_option maxHeartbeats 40000000 in
theorem rm6 (l : Launch) (Z : State) (a0 : Array Value) (hw : ∀ d ∈ tables_1, d.before a0 Z = true) (ws : List Jvm.Cond) (a : Addr) (dd : UInt64) (tm : UInt64) (lo : UInt64) (h0 : Heap) (n0 : Nat) (Z0 : n0 ≤ h0.size) (F_time_a : Fld Z h0 a "com/example/reset/reset/Clock" "time" "D" (.double tm)) (F_lost_a : Fld Z h0 a "com/example/reset/reset/Clock" "lost" "D" (.double lo)) (n1 : NoNaN64 (FP.dsub dd tm)) (n2 : NoNaN64 (FP.dsub (FP.dsub dd tm) lo)) :
    MetFree l (⟨"com/example/reset/reset/Clock", "until", "(D)D"⟩ : MethodName) (head1 (Jvm.Cond.code (⟨"com/example/reset/reset/Clock", "until", "(D)D"⟩ : MethodName) prog_2_method_4_code 3 (some .double) :: ws) ({ frames := 0, cells := 0, slots := 0, locals := 0 } : Room)) (fun zza zzU => zza = #[(.ref a), (.double dd)] ∧ Z.Warmed39 zzU.vm ∧ zzU.heap = h0) (fun _ _ _ _ _ => True) (fun _ zzU zzo zzV => ∃ zzv zzL, zzo = .returned zzv ∧ Q6 Z a dd tm lo h0 n0 zzv zzV.heap zzL ∧ FrameEnd zzU zzo zzV zzL ({ frames := 0, cells := 0, slots := 0, locals := 0 } : Room).cells ({ frames := 0, cells := 0, slots := 0, locals := 0 } : Room).slots) := by
  refine MetFree.of_bodySF (plainFor_of_name pn_0) hisR ?_
  intro p e s m args below meth c s₁ Bd hml0 hP hK
  obtain ⟨rfl, hZ, hh⟩ := hP
  have hx := Bd.exec
  have hby := Bd.bytes
  have hml : c.maxLocals = 3 := hml0
  have hown : s.vm.findClass "com/example/reset/reset/Clock" = some m.cls := findClass_of_methodNamed Bd.named
  have hnm := (name_of_methodNamed Bd.named Bd.method).1
  have X0 : Stand p l e ({ frames := 0, cells := 0, slots := 0, locals := 0 } : Room) s m #[(.ref a), (.double dd)] below meth c s₁ [] 0 0 := Stand.of_body Bd
  have e0 : s₁.heap = h0 := by rw [← hh, Bd.state]; rfl
  have N0 := Fr.nil n0
  have R0 : ∀ zt, Steps p.tables e below (s₁.setTop (mkF m 0 #[.val (.ref a), .val (.double dd), .second] [])) zt → Steps p.tables e below (s₁.setTop (entryFrame m #[(.ref a), (.double dd)] 3)) zt := fun zt zk => castTop (ef6 m a dd) zk
  have R1 : ∀ zt, Steps p.tables e below (s₁.setTop (mkF m 2 #[.val (.ref a), .val (.double dd), .second] [(.ref a), (.double dd)])) zt → Steps p.tables e below (s₁.setTop (entryFrame m #[(.ref a), (.double dd)] 3)) zt := by
    intro zt zk
    refine R0 zt ?_
    show Steps p.tables e below (s₁.setTop (mkF m 0 #[.val (.ref a), .val (.double dd), .second] [])) _
    refine XS.dloadN X0.here hx rfl (hb hby d6_0) rfl ?_
    show Steps p.tables e below (s₁.setTop (mkF m 1 #[.val (.ref a), .val (.double dd), .second] [(.double dd)])) _
    refine XS.aloadN X0.here hx rfl (hb hby d6_1) rfl rfl ?_
    exact zk
  obtain ⟨T2, X2, e2, st2⟩ := getF X0 hx hZ hown (host := "") (Or.inl (hw _ (List.mem_of_getElem? (i := 16) rfl))) Via.refl e0 F_time_a (g := (mkF m 2 #[.val (.ref a), .val (.double dd), .second] [(.ref a), (.double dd)])) rfl rfl (hb hby d6_2)
  have R3 : ∀ zt, Steps p.tables e below (T2.setTop (mkF m 7 #[.val (.ref a), .val (.double dd), .second] [(.ref a), (.double (FP.dsub dd tm))])) zt → Steps p.tables e below (s₁.setTop (entryFrame m #[(.ref a), (.double dd)] 3)) zt := by
    intro zt zk
    refine R1 zt ?_
    show Steps p.tables e below (s₁.setTop (mkF m 2 #[.val (.ref a), .val (.double dd), .second] [(.ref a), (.double dd)])) _
    refine st2 _ ?_
    show Steps p.tables e below (T2.setTop (mkF m 5 #[.val (.ref a), .val (.double dd), .second] [(.double tm), (.double dd)])) _
    refine XS.dsubS X2.here hx rfl (hb hby d6_5) rfl n1 rfl ?_
    show Steps p.tables e below (T2.setTop (mkF m 6 #[.val (.ref a), .val (.double dd), .second] [(.double (FP.dsub dd tm))])) _
    refine XS.aloadN X2.here hx rfl (hb hby d6_6) rfl rfl ?_
    exact zk
  obtain ⟨T4, X4, e4, st4⟩ := getF X2 hx hZ hown (host := "") (Or.inl (hw _ (List.mem_of_getElem? (i := 14) rfl))) Via.refl e2 F_lost_a (g := (mkF m 7 #[.val (.ref a), .val (.double dd), .second] [(.ref a), (.double (FP.dsub dd tm))])) rfl rfl (hb hby d6_7)
  have R5 : ∀ zt, Steps p.tables e below (T4.setTop (mkF m 11 #[.val (.ref a), .val (.double dd), .second] [(.double (FP.dsub (FP.dsub dd tm) lo))])) zt → Steps p.tables e below (s₁.setTop (entryFrame m #[(.ref a), (.double dd)] 3)) zt := by
    intro zt zk
    refine R3 zt ?_
    show Steps p.tables e below (T2.setTop (mkF m 7 #[.val (.ref a), .val (.double dd), .second] [(.ref a), (.double (FP.dsub dd tm))])) _
    refine st4 _ ?_
    show Steps p.tables e below (T4.setTop (mkF m 10 #[.val (.ref a), .val (.double dd), .second] [(.double lo), (.double (FP.dsub dd tm))])) _
    refine XS.dsubS X4.here hx rfl (hb hby d6_10) rfl n2 rfl ?_
    exact zk
  obtain ⟨fs, hr, hrun, hended, hW, hsame⟩ := X4.leave (v := some (.double (FP.dsub (FP.dsub dd tm) lo))) (fun h => by rw [Bd.returns] at h; cases h)
  refine ⟨_, _, R5 _ ?_, hrun, hended, _, _, rfl, ?_, ⟨_, rfl⟩, hW, hsame.mono (by decide) (by decide)⟩
  · exact retOut X4 hx Bd.returns rfl (Or.inr (Or.inr (Or.inl ⟨rfl, rfl, _, rfl⟩))) (hb hby d6_11) hr
  · show Q6 Z a dd tm lo h0 n0 _ T4.heap _
    rw [e4]
    exact ⟨rfl, N0, rfl⟩
theorem ef3 (m : MethodId) (x0 : Addr) (x1 : UInt64) : entryFrame m #[(.ref x0), (.double x1)] 9 = mkF m 0 #[.val (.ref x0), .val (.double x1), .second, .unset, .unset, .unset, .unset, .unset, .unset] [] := by first | (simp [entryFrame, mkF, argsToLocals, Value.category]; done) | rfl
theorem d3_0 : decode prog_2_method_5_code 0 = .ok (.dload_n 1, 1) := by decide +kernel
theorem d3_1 : decode prog_2_method_5_code 1 = .ok (.aload_n 0, 1) := by decide +kernel
theorem d3_2 : decode prog_2_method_5_code 2 = .ok (.getfield 13, 3) := by decide +kernel
theorem d3_5 : decode prog_2_method_5_code 5 = .ok (.dadd, 1) := by decide +kernel
theorem d3_6 : decode prog_2_method_5_code 6 = .ok (.dstore_n 3, 1) := by decide +kernel
theorem d3_7 : decode prog_2_method_5_code 7 = .ok (.aload_n 0, 1) := by decide +kernel
theorem d3_8 : decode prog_2_method_5_code 8 = .ok (.getfield 7, 3) := by decide +kernel
theorem d3_11 : decode prog_2_method_5_code 11 = .ok (.dload_n 3, 1) := by decide +kernel
theorem d3_12 : decode prog_2_method_5_code 12 = .ok (.dadd, 1) := by decide +kernel
theorem d3_13 : decode prog_2_method_5_code 13 = .ok (.dstore 5, 2) := by decide +kernel
theorem d3_15 : decode prog_2_method_5_code 15 = .ok (.dload 5, 2) := by decide +kernel
theorem d3_17 : decode prog_2_method_5_code 17 = .ok (.aload_n 0, 1) := by decide +kernel
theorem d3_18 : decode prog_2_method_5_code 18 = .ok (.getfield 7, 3) := by decide +kernel
theorem d3_21 : decode prog_2_method_5_code 21 = .ok (.dsub, 1) := by decide +kernel
theorem d3_22 : decode prog_2_method_5_code 22 = .ok (.dstore 7, 2) := by decide +kernel
theorem d3_24 : decode prog_2_method_5_code 24 = .ok (.aload_n 0, 1) := by decide +kernel
theorem d3_25 : decode prog_2_method_5_code 25 = .ok (.aload_n 0, 1) := by decide +kernel
theorem d3_26 : decode prog_2_method_5_code 26 = .ok (.getfield 7, 3) := by decide +kernel
theorem d3_29 : decode prog_2_method_5_code 29 = .ok (.dload 5, 2) := by decide +kernel
theorem d3_31 : decode prog_2_method_5_code 31 = .ok (.dload 7, 2) := by decide +kernel
theorem d3_33 : decode prog_2_method_5_code 33 = .ok (.dsub, 1) := by decide +kernel
theorem d3_34 : decode prog_2_method_5_code 34 = .ok (.dsub, 1) := by decide +kernel
theorem d3_35 : decode prog_2_method_5_code 35 = .ok (.dload_n 3, 1) := by decide +kernel
theorem d3_36 : decode prog_2_method_5_code 36 = .ok (.dload 7, 2) := by decide +kernel
theorem d3_38 : decode prog_2_method_5_code 38 = .ok (.dsub, 1) := by decide +kernel
theorem d3_39 : decode prog_2_method_5_code 39 = .ok (.dadd, 1) := by decide +kernel
theorem d3_40 : decode prog_2_method_5_code 40 = .ok (.putfield 13, 3) := by decide +kernel
theorem d3_43 : decode prog_2_method_5_code 43 = .ok (.aload_n 0, 1) := by decide +kernel
theorem d3_44 : decode prog_2_method_5_code 44 = .ok (.dload 5, 2) := by decide +kernel
theorem d3_46 : decode prog_2_method_5_code 46 = .ok (.putfield 7, 3) := by decide +kernel
theorem d3_49 : decode prog_2_method_5_code 49 = .ok (.return_, 1) := by decide +kernel
def Q3 (Z : State) (a : Addr) (dd : UInt64) (tm : UInt64) (lo : UInt64) (h0 : Heap) (n0 : Nat) (v : Option Value) (h : Heap) (L : List Loc) : Prop := v = none ∧ Fr n0 L ∧ Keep h0 h [a] ∧ Fld Z h a "com/example/reset/reset/Clock" "time" "D" (.double (own_en tm dd lo)) ∧ Fld Z h a "com/example/reset/reset/Clock" "lost" "D" (.double (own_lo tm dd lo))
set_option maxRecDepth 65536 in
set_option maxHeartbeats 40000000 in
theorem rm3 (l : Launch) (Z : State) (a0 : Array Value) (hw : ∀ d ∈ tables_1, d.before a0 Z = true) (ws : List Jvm.Cond) (a : Addr) (dd : UInt64) (tm : UInt64) (lo : UInt64) (h0 : Heap) (n0 : Nat) (Z0 : n0 ≤ h0.size) (E_a : Exa Z h0 a "com/example/reset/reset/Clock") (F_time_a : Fld Z h0 a "com/example/reset/reset/Clock" "time" "D" (.double tm)) (F_lost_a : Fld Z h0 a "com/example/reset/reset/Clock" "lost" "D" (.double lo)) (ge_a : n0 ≤ a) (ok : own_ok tm dd lo) :
    MetFree l (⟨"com/example/reset/reset/Clock", "advance", "(D)V"⟩ : MethodName) (head1 (Jvm.Cond.code (⟨"com/example/reset/reset/Clock", "advance", "(D)V"⟩ : MethodName) prog_2_method_5_code 9 none :: ws) ({ frames := 0, cells := 0, slots := 0, locals := 0 } : Room)) (fun zza zzU => zza = #[(.ref a), (.double dd)] ∧ Z.Warmed39 zzU.vm ∧ zzU.heap = h0) (fun _ _ _ _ _ => True) (fun _ zzU zzo zzV => ∃ zzv zzL, zzo = .returned zzv ∧ Q3 Z a dd tm lo h0 n0 zzv zzV.heap zzL ∧ FrameEnd zzU zzo zzV zzL ({ frames := 0, cells := 0, slots := 0, locals := 0 } : Room).cells ({ frames := 0, cells := 0, slots := 0, locals := 0 } : Room).slots) := by
  refine MetFree.of_bodySF (plainFor_of_name pn_0) hisR ?_
  intro p e s m args below meth c s₁ Bd hml0 hP hK
  obtain ⟨rfl, hZ, hh⟩ := hP
  have hx := Bd.exec
  have hby := Bd.bytes
  have hml : c.maxLocals = 9 := hml0
  have hown : s.vm.findClass "com/example/reset/reset/Clock" = some m.cls := findClass_of_methodNamed Bd.named
  have hnm := (name_of_methodNamed Bd.named Bd.method).1
  have X0 : Stand p l e ({ frames := 0, cells := 0, slots := 0, locals := 0 } : Room) s m #[(.ref a), (.double dd)] below meth c s₁ [] 0 0 := Stand.of_body Bd
  have e0 : s₁.heap = h0 := by rw [← hh, Bd.state]; rfl
  have N0 := Fr.nil n0
  have R0 : ∀ zt, Steps p.tables e below (s₁.setTop (mkF m 0 #[.val (.ref a), .val (.double dd), .second, .unset, .unset, .unset, .unset, .unset, .unset] [])) zt → Steps p.tables e below (s₁.setTop (entryFrame m #[(.ref a), (.double dd)] 9)) zt := fun zt zk => castTop (ef3 m a dd) zk
  obtain ⟨o1, o2, o3, o4, o5, o6, o7⟩ := ok
  have KP := Keep.refl h0 [a]
  have R1 : ∀ zt, Steps p.tables e below (s₁.setTop (mkF m 2 #[.val (.ref a), .val (.double dd), .second, .unset, .unset, .unset, .unset, .unset, .unset] [(.ref a), (.double dd)])) zt → Steps p.tables e below (s₁.setTop (entryFrame m #[(.ref a), (.double dd)] 9)) zt := by
    intro zt zk
    refine R0 zt ?_
    show Steps p.tables e below (s₁.setTop (mkF m 0 #[.val (.ref a), .val (.double dd), .second, .unset, .unset, .unset, .unset, .unset, .unset] [])) _
    refine XS.dloadN X0.here hx rfl (hb hby d3_0) rfl ?_
    show Steps p.tables e below (s₁.setTop (mkF m 1 #[.val (.ref a), .val (.double dd), .second, .unset, .unset, .unset, .unset, .unset, .unset] [(.double dd)])) _
    refine XS.aloadN X0.here hx rfl (hb hby d3_1) rfl rfl ?_
    exact zk
  obtain ⟨T2, X2, e2, st2⟩ := getF X0 hx hZ hown (host := "") (Or.inl (hw _ (List.mem_of_getElem? (i := 14) rfl))) Via.refl e0 F_lost_a (g := (mkF m 2 #[.val (.ref a), .val (.double dd), .second, .unset, .unset, .unset, .unset, .unset, .unset] [(.ref a), (.double dd)])) rfl rfl (hb hby d3_2)
  have R3 : ∀ zt, Steps p.tables e below (T2.setTop (mkF m 8 #[.val (.ref a), .val (.double dd), .second, .val (.double (own_tk dd lo)), .second, .unset, .unset, .unset, .unset] [(.ref a)])) zt → Steps p.tables e below (s₁.setTop (entryFrame m #[(.ref a), (.double dd)] 9)) zt := by
    intro zt zk
    refine R1 zt ?_
    show Steps p.tables e below (s₁.setTop (mkF m 2 #[.val (.ref a), .val (.double dd), .second, .unset, .unset, .unset, .unset, .unset, .unset] [(.ref a), (.double dd)])) _
    refine st2 _ ?_
    show Steps p.tables e below (T2.setTop (mkF m 5 #[.val (.ref a), .val (.double dd), .second, .unset, .unset, .unset, .unset, .unset, .unset] [(.double lo), (.double dd)])) _
    refine XS.daddS X2.here hx rfl (hb hby d3_5) rfl o1 rfl ?_
    show Steps p.tables e below (T2.setTop (mkF m 6 #[.val (.ref a), .val (.double dd), .second, .unset, .unset, .unset, .unset, .unset, .unset] [(.double (own_tk dd lo))])) _
    refine XS.dstoreN X2.here hx rfl (hb hby d3_6) rfl (l' := #[.val (.ref a), .val (.double dd), .second, .val (.double (own_tk dd lo)), .second, .unset, .unset, .unset, .unset]) rfl ?_
    show Steps p.tables e below (T2.setTop (mkF m 7 #[.val (.ref a), .val (.double dd), .second, .val (.double (own_tk dd lo)), .second, .unset, .unset, .unset, .unset] [])) _
    refine XS.aloadN X2.here hx rfl (hb hby d3_7) rfl rfl ?_
    exact zk
  obtain ⟨T4, X4, e4, st4⟩ := getF X2 hx hZ hown (host := "") (Or.inl (hw _ (List.mem_of_getElem? (i := 16) rfl))) Via.refl e2 F_time_a (g := (mkF m 8 #[.val (.ref a), .val (.double dd), .second, .val (.double (own_tk dd lo)), .second, .unset, .unset, .unset, .unset] [(.ref a)])) rfl rfl (hb hby d3_8)
  have R5 : ∀ zt, Steps p.tables e below (T4.setTop (mkF m 18 #[.val (.ref a), .val (.double dd), .second, .val (.double (own_tk dd lo)), .second, .val (.double (own_en tm dd lo)), .second, .unset, .unset] [(.ref a), (.double (own_en tm dd lo))])) zt → Steps p.tables e below (s₁.setTop (entryFrame m #[(.ref a), (.double dd)] 9)) zt := by
    intro zt zk
    refine R3 zt ?_
    show Steps p.tables e below (T2.setTop (mkF m 8 #[.val (.ref a), .val (.double dd), .second, .val (.double (own_tk dd lo)), .second, .unset, .unset, .unset, .unset] [(.ref a)])) _
    refine st4 _ ?_
    show Steps p.tables e below (T4.setTop (mkF m 11 #[.val (.ref a), .val (.double dd), .second, .val (.double (own_tk dd lo)), .second, .unset, .unset, .unset, .unset] [(.double tm)])) _
    refine XS.dloadN X4.here hx rfl (hb hby d3_11) rfl ?_
    show Steps p.tables e below (T4.setTop (mkF m 12 #[.val (.ref a), .val (.double dd), .second, .val (.double (own_tk dd lo)), .second, .unset, .unset, .unset, .unset] [(.double (own_tk dd lo)), (.double tm)])) _
    refine XS.daddS X4.here hx rfl (hb hby d3_12) rfl o2 rfl ?_
    show Steps p.tables e below (T4.setTop (mkF m 13 #[.val (.ref a), .val (.double dd), .second, .val (.double (own_tk dd lo)), .second, .unset, .unset, .unset, .unset] [(.double (own_en tm dd lo))])) _
    refine XS.dstore X4.here hx rfl (hb hby d3_13) rfl (l' := #[.val (.ref a), .val (.double dd), .second, .val (.double (own_tk dd lo)), .second, .val (.double (own_en tm dd lo)), .second, .unset, .unset]) rfl ?_
    show Steps p.tables e below (T4.setTop (mkF m 15 #[.val (.ref a), .val (.double dd), .second, .val (.double (own_tk dd lo)), .second, .val (.double (own_en tm dd lo)), .second, .unset, .unset] [])) _
    refine XS.dload X4.here hx rfl (hb hby d3_15) rfl ?_
    show Steps p.tables e below (T4.setTop (mkF m 17 #[.val (.ref a), .val (.double dd), .second, .val (.double (own_tk dd lo)), .second, .val (.double (own_en tm dd lo)), .second, .unset, .unset] [(.double (own_en tm dd lo))])) _
    refine XS.aloadN X4.here hx rfl (hb hby d3_17) rfl rfl ?_
    exact zk
  obtain ⟨T6, X6, e6, st6⟩ := getF X4 hx hZ hown (host := "") (Or.inl (hw _ (List.mem_of_getElem? (i := 16) rfl))) Via.refl e4 F_time_a (g := (mkF m 18 #[.val (.ref a), .val (.double dd), .second, .val (.double (own_tk dd lo)), .second, .val (.double (own_en tm dd lo)), .second, .unset, .unset] [(.ref a), (.double (own_en tm dd lo))])) rfl rfl (hb hby d3_18)
  have R7 : ∀ zt, Steps p.tables e below (T6.setTop (mkF m 26 #[.val (.ref a), .val (.double dd), .second, .val (.double (own_tk dd lo)), .second, .val (.double (own_en tm dd lo)), .second, .val (.double (own_ad tm dd lo)), .second] [(.ref a), (.ref a)])) zt → Steps p.tables e below (s₁.setTop (entryFrame m #[(.ref a), (.double dd)] 9)) zt := by
    intro zt zk
    refine R5 zt ?_
    show Steps p.tables e below (T4.setTop (mkF m 18 #[.val (.ref a), .val (.double dd), .second, .val (.double (own_tk dd lo)), .second, .val (.double (own_en tm dd lo)), .second, .unset, .unset] [(.ref a), (.double (own_en tm dd lo))])) _
    refine st6 _ ?_
    show Steps p.tables e below (T6.setTop (mkF m 21 #[.val (.ref a), .val (.double dd), .second, .val (.double (own_tk dd lo)), .second, .val (.double (own_en tm dd lo)), .second, .unset, .unset] [(.double tm), (.double (own_en tm dd lo))])) _
    refine XS.dsubS X6.here hx rfl (hb hby d3_21) rfl o3 rfl ?_
    show Steps p.tables e below (T6.setTop (mkF m 22 #[.val (.ref a), .val (.double dd), .second, .val (.double (own_tk dd lo)), .second, .val (.double (own_en tm dd lo)), .second, .unset, .unset] [(.double (own_ad tm dd lo))])) _
    refine XS.dstore X6.here hx rfl (hb hby d3_22) rfl (l' := #[.val (.ref a), .val (.double dd), .second, .val (.double (own_tk dd lo)), .second, .val (.double (own_en tm dd lo)), .second, .val (.double (own_ad tm dd lo)), .second]) rfl ?_
    show Steps p.tables e below (T6.setTop (mkF m 24 #[.val (.ref a), .val (.double dd), .second, .val (.double (own_tk dd lo)), .second, .val (.double (own_en tm dd lo)), .second, .val (.double (own_ad tm dd lo)), .second] [])) _
    refine XS.aloadN X6.here hx rfl (hb hby d3_24) rfl rfl ?_
    show Steps p.tables e below (T6.setTop (mkF m 25 #[.val (.ref a), .val (.double dd), .second, .val (.double (own_tk dd lo)), .second, .val (.double (own_en tm dd lo)), .second, .val (.double (own_ad tm dd lo)), .second] [(.ref a)])) _
    refine XS.aloadN X6.here hx rfl (hb hby d3_25) rfl rfl ?_
    exact zk
  obtain ⟨T8, X8, e8, st8⟩ := getF X6 hx hZ hown (host := "") (Or.inl (hw _ (List.mem_of_getElem? (i := 16) rfl))) Via.refl e6 F_time_a (g := (mkF m 26 #[.val (.ref a), .val (.double dd), .second, .val (.double (own_tk dd lo)), .second, .val (.double (own_en tm dd lo)), .second, .val (.double (own_ad tm dd lo)), .second] [(.ref a), (.ref a)])) rfl rfl (hb hby d3_26)
  have R9 : ∀ zt, Steps p.tables e below (T8.setTop (mkF m 40 #[.val (.ref a), .val (.double dd), .second, .val (.double (own_tk dd lo)), .second, .val (.double (own_en tm dd lo)), .second, .val (.double (own_ad tm dd lo)), .second] [(.double (own_lo tm dd lo)), (.ref a)])) zt → Steps p.tables e below (s₁.setTop (entryFrame m #[(.ref a), (.double dd)] 9)) zt := by
    intro zt zk
    refine R7 zt ?_
    show Steps p.tables e below (T6.setTop (mkF m 26 #[.val (.ref a), .val (.double dd), .second, .val (.double (own_tk dd lo)), .second, .val (.double (own_en tm dd lo)), .second, .val (.double (own_ad tm dd lo)), .second] [(.ref a), (.ref a)])) _
    refine st8 _ ?_
    show Steps p.tables e below (T8.setTop (mkF m 29 #[.val (.ref a), .val (.double dd), .second, .val (.double (own_tk dd lo)), .second, .val (.double (own_en tm dd lo)), .second, .val (.double (own_ad tm dd lo)), .second] [(.double tm), (.ref a)])) _
    refine XS.dload X8.here hx rfl (hb hby d3_29) rfl ?_
    show Steps p.tables e below (T8.setTop (mkF m 31 #[.val (.ref a), .val (.double dd), .second, .val (.double (own_tk dd lo)), .second, .val (.double (own_en tm dd lo)), .second, .val (.double (own_ad tm dd lo)), .second] [(.double (own_en tm dd lo)), (.double tm), (.ref a)])) _
    refine XS.dload X8.here hx rfl (hb hby d3_31) rfl ?_
    show Steps p.tables e below (T8.setTop (mkF m 33 #[.val (.ref a), .val (.double dd), .second, .val (.double (own_tk dd lo)), .second, .val (.double (own_en tm dd lo)), .second, .val (.double (own_ad tm dd lo)), .second] [(.double (own_ad tm dd lo)), (.double (own_en tm dd lo)), (.double tm), (.ref a)])) _
    refine XS.dsubS X8.here hx rfl (hb hby d3_33) rfl o4 rfl ?_
    show Steps p.tables e below (T8.setTop (mkF m 34 #[.val (.ref a), .val (.double dd), .second, .val (.double (own_tk dd lo)), .second, .val (.double (own_en tm dd lo)), .second, .val (.double (own_ad tm dd lo)), .second] [(.double (FP.dsub (own_en tm dd lo) (own_ad tm dd lo))), (.double tm), (.ref a)])) _
    refine XS.dsubS X8.here hx rfl (hb hby d3_34) rfl o5 rfl ?_
    show Steps p.tables e below (T8.setTop (mkF m 35 #[.val (.ref a), .val (.double dd), .second, .val (.double (own_tk dd lo)), .second, .val (.double (own_en tm dd lo)), .second, .val (.double (own_ad tm dd lo)), .second] [(.double (FP.dsub tm (FP.dsub (own_en tm dd lo) (own_ad tm dd lo)))), (.ref a)])) _
    refine XS.dloadN X8.here hx rfl (hb hby d3_35) rfl ?_
    show Steps p.tables e below (T8.setTop (mkF m 36 #[.val (.ref a), .val (.double dd), .second, .val (.double (own_tk dd lo)), .second, .val (.double (own_en tm dd lo)), .second, .val (.double (own_ad tm dd lo)), .second] [(.double (own_tk dd lo)), (.double (FP.dsub tm (FP.dsub (own_en tm dd lo) (own_ad tm dd lo)))), (.ref a)])) _
    refine XS.dload X8.here hx rfl (hb hby d3_36) rfl ?_
    show Steps p.tables e below (T8.setTop (mkF m 38 #[.val (.ref a), .val (.double dd), .second, .val (.double (own_tk dd lo)), .second, .val (.double (own_en tm dd lo)), .second, .val (.double (own_ad tm dd lo)), .second] [(.double (own_ad tm dd lo)), (.double (own_tk dd lo)), (.double (FP.dsub tm (FP.dsub (own_en tm dd lo) (own_ad tm dd lo)))), (.ref a)])) _
    refine XS.dsubS X8.here hx rfl (hb hby d3_38) rfl o6 rfl ?_
    show Steps p.tables e below (T8.setTop (mkF m 39 #[.val (.ref a), .val (.double dd), .second, .val (.double (own_tk dd lo)), .second, .val (.double (own_en tm dd lo)), .second, .val (.double (own_ad tm dd lo)), .second] [(.double (FP.dsub (own_tk dd lo) (own_ad tm dd lo))), (.double (FP.dsub tm (FP.dsub (own_en tm dd lo) (own_ad tm dd lo)))), (.ref a)])) _
    refine XS.daddS X8.here hx rfl (hb hby d3_39) rfl o7 rfl ?_
    exact zk
  obtain ⟨T10, h10, X10, e10, W10, st10⟩ := putF X8 hx hZ hown (host := "") (Or.inl (hw _ (List.mem_of_getElem? (i := 14) rfl))) Via.refl e8 F_lost_a E_a (Or.inl (hw _ (List.mem_of_getElem? (i := 15) rfl))) (hw _ (List.mem_of_getElem? (i := 1) rfl)) (ty := .double) (by decide) rfl rfl (g := (mkF m 40 #[.val (.ref a), .val (.double dd), .second, .val (.double (own_tk dd lo)), .second, .val (.double (own_en tm dd lo)), .second, .val (.double (own_ad tm dd lo)), .second] [(.double (own_lo tm dd lo)), (.ref a)])) rfl rfl (hb hby d3_40)
  have N10 := Fr.snoc X10 N0 ge_a
  have Sz10 := Nat.le_trans Z0 (Keep.of_wr W10).1
  have E_a := E_a.wr W10
  have F_time_a := F_time_a.other W10 (Or.inr (slot_ne (Or.inl (hw _ (List.mem_of_getElem? (i := 17) rfl))) (Or.inl (hw _ (List.mem_of_getElem? (i := 15) rfl))) (by decide) (t := .double) (t' := .double) (by decide) (by decide)))
  have F_lost_a := F_lost_a.same W10
  have KP := KP.wr W10 (Or.inl (List.mem_of_getElem? (i := 0) rfl))
  have R11 : ∀ zt, Steps p.tables e below (T10.setTop (mkF m 46 #[.val (.ref a), .val (.double dd), .second, .val (.double (own_tk dd lo)), .second, .val (.double (own_en tm dd lo)), .second, .val (.double (own_ad tm dd lo)), .second] [(.double (own_en tm dd lo)), (.ref a)])) zt → Steps p.tables e below (s₁.setTop (entryFrame m #[(.ref a), (.double dd)] 9)) zt := by
    intro zt zk
    refine R9 zt ?_
    show Steps p.tables e below (T8.setTop (mkF m 40 #[.val (.ref a), .val (.double dd), .second, .val (.double (own_tk dd lo)), .second, .val (.double (own_en tm dd lo)), .second, .val (.double (own_ad tm dd lo)), .second] [(.double (own_lo tm dd lo)), (.ref a)])) _
    refine st10 _ ?_
    show Steps p.tables e below (T10.setTop (mkF m 43 #[.val (.ref a), .val (.double dd), .second, .val (.double (own_tk dd lo)), .second, .val (.double (own_en tm dd lo)), .second, .val (.double (own_ad tm dd lo)), .second] [])) _
    refine XS.aloadN X10.here hx rfl (hb hby d3_43) rfl rfl ?_
    show Steps p.tables e below (T10.setTop (mkF m 44 #[.val (.ref a), .val (.double dd), .second, .val (.double (own_tk dd lo)), .second, .val (.double (own_en tm dd lo)), .second, .val (.double (own_ad tm dd lo)), .second] [(.ref a)])) _
    refine XS.dload X10.here hx rfl (hb hby d3_44) rfl ?_
    exact zk
  obtain ⟨T12, h12, X12, e12, W12, st12⟩ := putF X10 hx hZ hown (host := "") (Or.inl (hw _ (List.mem_of_getElem? (i := 16) rfl))) Via.refl e10 F_time_a E_a (Or.inl (hw _ (List.mem_of_getElem? (i := 17) rfl))) (hw _ (List.mem_of_getElem? (i := 1) rfl)) (ty := .double) (by decide) rfl rfl (g := (mkF m 46 #[.val (.ref a), .val (.double dd), .second, .val (.double (own_tk dd lo)), .second, .val (.double (own_en tm dd lo)), .second, .val (.double (own_ad tm dd lo)), .second] [(.double (own_en tm dd lo)), (.ref a)])) rfl rfl (hb hby d3_46)
  have N12 := Fr.snoc X12 N10 ge_a
  have Sz12 := Nat.le_trans Sz10 (Keep.of_wr W12).1
  have E_a := E_a.wr W12
  have F_lost_a := F_lost_a.other W12 (Or.inr (slot_ne (Or.inl (hw _ (List.mem_of_getElem? (i := 15) rfl))) (Or.inl (hw _ (List.mem_of_getElem? (i := 17) rfl))) (by decide) (t := .double) (t' := .double) (by decide) (by decide)))
  have F_time_a := F_time_a.same W12
  have KP := KP.wr W12 (Or.inl (List.mem_of_getElem? (i := 0) rfl))
  have R13 : ∀ zt, Steps p.tables e below (T12.setTop (mkF m 49 #[.val (.ref a), .val (.double dd), .second, .val (.double (own_tk dd lo)), .second, .val (.double (own_en tm dd lo)), .second, .val (.double (own_ad tm dd lo)), .second] [])) zt → Steps p.tables e below (s₁.setTop (entryFrame m #[(.ref a), (.double dd)] 9)) zt := by
    intro zt zk
    refine R11 zt ?_
    show Steps p.tables e below (T10.setTop (mkF m 46 #[.val (.ref a), .val (.double dd), .second, .val (.double (own_tk dd lo)), .second, .val (.double (own_en tm dd lo)), .second, .val (.double (own_ad tm dd lo)), .second] [(.double (own_en tm dd lo)), (.ref a)])) _
    refine st12 _ ?_
    exact zk
  obtain ⟨fs, hr, hrun, hended, hW, hsame⟩ := X12.leave (v := none) (fun _ => rfl)
  refine ⟨_, _, R13 _ ?_, hrun, hended, _, _, rfl, ?_, ⟨_, rfl⟩, hW, hsame.mono (by decide) (by decide)⟩
  · exact X12.returnOut hx Bd.returns (hb hby d3_49) hr
  · show Q3 Z a dd tm lo h0 n0 _ T12.heap _
    rw [e12]
    exact ⟨rfl, N12, KP, F_time_a, F_lost_a⟩
theorem ef4 (m : MethodId) (x0 : Addr) (x1 : Int64) : entryFrame m #[(.ref x0), (.long x1)] 9 = mkF m 0 #[.val (.ref x0), .val (.long x1), .second, .unset, .unset, .unset, .unset, .unset, .unset] [] := by first | (simp [entryFrame, mkF, argsToLocals, Value.category]; done) | rfl
theorem pn_1 : plainName "com/example/reset/reset/ClockAdvancePinLaw" = true := by first | (simp [plainName, overriddenIn]; done) | decide +kernel
theorem d4_0 : decode method_3_code 0 = .ok (.lload_n 1, 1) := by decide +kernel
theorem d4_1 : decode method_3_code 1 = .ok (.l2d, 1) := by decide +kernel
theorem d4_2 : decode method_3_code 2 = .ok (.dstore_n 3, 1) := by decide +kernel
theorem d4_3 : decode method_3_code 3 = .ok (.lload_n 1, 1) := by decide +kernel
theorem d4_4 : decode method_3_code 4 = .ok (.dload_n 3, 1) := by decide +kernel
theorem d4_5 : decode method_3_code 5 = .ok (.d2l, 1) := by decide +kernel
theorem d4_6 : decode method_3_code 6 = .ok (.lsub, 1) := by decide +kernel
theorem d4_7 : decode method_3_code 7 = .ok (.lstore 5, 2) := by decide +kernel
theorem d4_9 : decode method_3_code 9 = .ok (.aload_n 0, 1) := by decide +kernel
theorem pd_0 : parseMethodDescriptor "()D" = some ⟨[], some .double⟩ := by decide +kernel
theorem d4_10 : decode method_3_code 10 = .ok (.invokevirtual 20, 3) := by decide +kernel
theorem d4_13 : decode method_3_code 13 = .ok (.dstore 7, 2) := by decide +kernel
theorem d4_15 : decode method_3_code 15 = .ok (.dload 7, 2) := by decide +kernel
theorem d4_17 : decode method_3_code 17 = .ok (.dload_n 3, 1) := by decide +kernel
theorem d4_18 : decode method_3_code 18 = .ok (.dcmp .l, 1) := by decide +kernel
theorem d4_19 : decode method_3_code 19 = .ok (.ifCond .ne 21, 3) := by decide +kernel
theorem d4_22 : decode method_3_code 22 = .ok (.aload_n 0, 1) := by decide +kernel
theorem d4_23 : decode method_3_code 23 = .ok (.dload 7, 2) := by decide +kernel
theorem pd_1 : parseMethodDescriptor "(D)D" = some ⟨[.double], some .double⟩ := by decide +kernel
theorem d4_25 : decode method_3_code 25 = .ok (.invokevirtual 24, 3) := by decide +kernel
theorem d4_28 : decode method_3_code 28 = .ok (.lload 5, 2) := by decide +kernel
theorem d4_30 : decode method_3_code 30 = .ok (.lneg, 1) := by decide +kernel
theorem d4_31 : decode method_3_code 31 = .ok (.l2d, 1) := by decide +kernel
theorem d4_32 : decode method_3_code 32 = .ok (.dcmp .l, 1) := by decide +kernel
theorem d4_33 : decode method_3_code 33 = .ok (.ifCond .ne 7, 3) := by decide +kernel
theorem d4_36 : decode method_3_code 36 = .ok (.iconst 1, 1) := by decide +kernel
theorem d4_37 : decode method_3_code 37 = .ok (.goto 4, 3) := by decide +kernel
theorem d4_41 : decode method_3_code 41 = .ok (.ireturn, 1) := by decide +kernel
def Q4 (Z : State) (a : Addr) (ex : Int64) (tm : UInt64) (lo : UInt64) (E0 : Int) (D0 : Int) (h0 : Heap) (n0 : Nat) (v : Option Value) (h : Heap) (L : List Loc) : Prop := v = some (.int (1 : Int32)) ∧ Fr n0 L ∧ h = h0
set_option maxRecDepth 65536 in
set_option maxHeartbeats 40000000 in
theorem rm4 (l : Launch) (Z : State) (a0 : Array Value) (hw : ∀ d ∈ tables_1, d.before a0 Z = true) (ws : List Jvm.Cond) (a : Addr) (ex : Int64) (tm : UInt64) (lo : UInt64) (E0 : Int) (D0 : Int) (h0 : Heap) (n0 : Nat) (Z0 : n0 ≤ h0.size) (E_a : Exa Z h0 a "com/example/reset/reset/Clock") (F_time_a : Fld Z h0 a "com/example/reset/reset/Clock" "time" "D" (.double tm)) (F_lost_a : Fld Z h0 a "com/example/reset/reset/Clock" "lost" "D" (.double lo)) (ht : DInt E0 tm) (hl : DInt D0 lo) (hr : DInt E0 (FP.l2d ex)) (hE1 : -(2 ^ 63) ≤ E0) (hE2 : E0 < 2 ^ 63) (he : ex.toInt = E0 + D0) (hD : D0.natAbs ≤ 512) :
    MetFree l (⟨"com/example/reset/reset/ClockAdvancePinLaw", "agrees", "(Lcom/example/reset/reset/Clock;J)Z"⟩ : MethodName) (head1 (Jvm.Cond.code (⟨"com/example/reset/reset/ClockAdvancePinLaw", "agrees", "(Lcom/example/reset/reset/Clock;J)Z"⟩ : MethodName) method_3_code 9 (some .boolean) :: ws) ({ frames := 1, cells := 0, slots := 0, locals := 14 } : Room)) (fun zza zzU => zza = #[(.ref a), (.long ex)] ∧ Z.Warmed39 zzU.vm ∧ zzU.heap = h0) (fun _ _ _ _ _ => True) (fun _ zzU zzo zzV => ∃ zzv zzL, zzo = .returned zzv ∧ Q4 Z a ex tm lo E0 D0 h0 n0 zzv zzV.heap zzL ∧ FrameEnd zzU zzo zzV zzL ({ frames := 1, cells := 0, slots := 0, locals := 14 } : Room).cells ({ frames := 1, cells := 0, slots := 0, locals := 14 } : Room).slots) := by
  refine MetFree.of_bodySF (plainFor_of_name pn_1) hisR ?_
  intro p e s m args below meth c s₁ Bd hml0 hP hK
  obtain ⟨rfl, hZ, hh⟩ := hP
  have hx := Bd.exec
  have hby := Bd.bytes
  have hml : c.maxLocals = 9 := hml0
  have hown : s.vm.findClass "com/example/reset/reset/ClockAdvancePinLaw" = some m.cls := findClass_of_methodNamed Bd.named
  have hnm := (name_of_methodNamed Bd.named Bd.method).1
  have X0 : Stand p l e ({ frames := 1, cells := 0, slots := 0, locals := 14 } : Room) s m #[(.ref a), (.long ex)] below meth c s₁ [] 0 0 := Stand.of_body Bd
  have e0 : s₁.heap = h0 := by rw [← hh, Bd.state]; rfl
  have N0 := Fr.nil n0
  have R0 : ∀ zt, Steps p.tables e below (s₁.setTop (mkF m 0 #[.val (.ref a), .val (.long ex), .second, .unset, .unset, .unset, .unset, .unset, .unset] [])) zt → Steps p.tables e below (s₁.setTop (entryFrame m #[(.ref a), (.long ex)] 9)) zt := fun zt zk => castTop (ef4 m a ex) zk
  have z1 : DInt (E0 - E0) (FP.dsub tm tm) := own_smallS ht ht (by omega)
  have z2 : DInt (E0 - E0 - D0) (FP.dsub (FP.dsub tm tm) lo) := own_smallS z1 hl (by omega)
  have z3 := own_lost hr hE1 hE2 he hD
  rw [show E0 - E0 - D0 = -D0 by omega] at z2
  have R1 : ∀ zt, Steps p.tables e below (s₁.setTop (mkF m 10 #[.val (.ref a), .val (.long ex), .second, .val (.double (FP.l2d ex)), .second, .val (.long (ex - (FP.d2l (FP.l2d ex)))), .second, .unset, .unset] [(.ref a)])) zt → Steps p.tables e below (s₁.setTop (entryFrame m #[(.ref a), (.long ex)] 9)) zt := by
    intro zt zk
    refine R0 zt ?_
    show Steps p.tables e below (s₁.setTop (mkF m 0 #[.val (.ref a), .val (.long ex), .second, .unset, .unset, .unset, .unset, .unset, .unset] [])) _
    refine XS.lloadN X0.here hx rfl (hb hby d4_0) rfl ?_
    show Steps p.tables e below (s₁.setTop (mkF m 1 #[.val (.ref a), .val (.long ex), .second, .unset, .unset, .unset, .unset, .unset, .unset] [(.long ex)])) _
    refine XS.l2dS X0.here hx rfl (hb hby d4_1) rfl rfl ?_
    show Steps p.tables e below (s₁.setTop (mkF m 2 #[.val (.ref a), .val (.long ex), .second, .unset, .unset, .unset, .unset, .unset, .unset] [(.double (FP.l2d ex))])) _
    refine XS.dstoreN X0.here hx rfl (hb hby d4_2) rfl (l' := #[.val (.ref a), .val (.long ex), .second, .val (.double (FP.l2d ex)), .second, .unset, .unset, .unset, .unset]) rfl ?_
    show Steps p.tables e below (s₁.setTop (mkF m 3 #[.val (.ref a), .val (.long ex), .second, .val (.double (FP.l2d ex)), .second, .unset, .unset, .unset, .unset] [])) _
    refine XS.lloadN X0.here hx rfl (hb hby d4_3) rfl ?_
    show Steps p.tables e below (s₁.setTop (mkF m 4 #[.val (.ref a), .val (.long ex), .second, .val (.double (FP.l2d ex)), .second, .unset, .unset, .unset, .unset] [(.long ex)])) _
    refine XS.dloadN X0.here hx rfl (hb hby d4_4) rfl ?_
    show Steps p.tables e below (s₁.setTop (mkF m 5 #[.val (.ref a), .val (.long ex), .second, .val (.double (FP.l2d ex)), .second, .unset, .unset, .unset, .unset] [(.double (FP.l2d ex)), (.long ex)])) _
    refine XS.d2lS X0.here hx rfl (hb hby d4_5) rfl rfl ?_
    show Steps p.tables e below (s₁.setTop (mkF m 6 #[.val (.ref a), .val (.long ex), .second, .val (.double (FP.l2d ex)), .second, .unset, .unset, .unset, .unset] [(.long (FP.d2l (FP.l2d ex))), (.long ex)])) _
    refine XS.lsub X0.here hx rfl (hb hby d4_6) rfl ?_
    show Steps p.tables e below (s₁.setTop (mkF m 7 #[.val (.ref a), .val (.long ex), .second, .val (.double (FP.l2d ex)), .second, .unset, .unset, .unset, .unset] [(.long (ex - (FP.d2l (FP.l2d ex))))])) _
    refine XS.lstore X0.here hx rfl (hb hby d4_7) rfl (l' := #[.val (.ref a), .val (.long ex), .second, .val (.double (FP.l2d ex)), .second, .val (.long (ex - (FP.d2l (FP.l2d ex)))), .second, .unset, .unset]) rfl ?_
    show Steps p.tables e below (s₁.setTop (mkF m 9 #[.val (.ref a), .val (.long ex), .second, .val (.double (FP.l2d ex)), .second, .val (.long (ex - (FP.d2l (FP.l2d ex)))), .second, .unset, .unset] [])) _
    refine XS.aloadN X0.here hx rfl (hb hby d4_9) rfl rfl ?_
    exact zk
  obtain ⟨cq2, kq2, q2a, q2b, q2c⟩ := isOf hZ e0 E_a
  obtain ⟨_, _, ⟨T2, L2, k2, n2⟩, -, X2, ⟨Lc2, hQ2, l2, y2, z2⟩, st2⟩ := X0.virtualBack hx (y := (⟨"com/example/reset/reset/Clock", "now", "()D"⟩ : MethodName)) (z := (⟨"com/example/reset/reset/Clock", "now", "()D"⟩ : MethodName)) hown (mvT hZ (hw _ (List.mem_of_getElem? (i := 22) rfl))) (mvT hZ (hw _ (List.mem_of_getElem? (i := 23) rfl))) (notFace_of_selects (args := #[]) (mvT hZ (hw _ (List.mem_of_getElem? (i := 25) rfl)))) (mvT hZ (hw _ (List.mem_of_getElem? (i := 25) rfl))) (mvT hZ (hw _ (List.mem_of_getElem? (i := 24) rfl))) (by decide) (backOf (W := 0) (rm5 l Z a0 hw [] a tm h0 n0 Z0 F_time_a) hZ (hw _ (List.mem_of_getElem? (i := 26) rfl)) (hw _ (List.mem_of_getElem? (i := 2) rfl)) (by decide) (by decide)) q2a q2c (g := (mkF m 10 #[.val (.ref a), .val (.long ex), .second, .val (.double (FP.l2d ex)), .second, .val (.long (ex - (FP.d2l (FP.l2d ex)))), .second, .unset, .unset] [(.ref a)])) rfl (by rw [hml]; rfl) (Steps.refl _) (argsL := []) (rest := []) (lenOf pd_0 rfl) rfl (by show 2 * 0 + _ ≤ _; exact Nat.le_of_eq rfl) (hb hby d4_10) (fun _ _ => ⟨rfl, e0, (by decide : 0 + 0 ≤ _), (by decide : 0 + 0 ≤ _)⟩)
  dsimp only [Pt.U, Pt.locs, Pt.cells, Pt.slots] at X2 l2 y2 z2 st2 hQ2
  rw [y2, z2] at X2
  have X2 : Stand p l e ({ frames := 1, cells := 0, slots := 0, locals := 14 } : Room) s m #[(.ref a), (.long ex)] below meth c T2 L2 0 0 := X2
  obtain ⟨rfl, Nq2, eq2⟩ := hQ2
  have N2 : Fr n0 L2 := by rw [l2]; exact Fr.app N0 Nq2
  clear l2 y2 z2
  have e2 : T2.heap = h0 := eq2
  have R3 : ∀ zt, Steps p.tables e below (T2.setTop (mkF m 25 #[.val (.ref a), .val (.long ex), .second, .val (.double (FP.l2d ex)), .second, .val (.long (ex - (FP.d2l (FP.l2d ex)))), .second, .val (.double tm), .second] [(.double tm), (.ref a)])) zt → Steps p.tables e below (s₁.setTop (entryFrame m #[(.ref a), (.long ex)] 9)) zt := by
    intro zt zk
    refine R1 zt ?_
    show Steps p.tables e below (s₁.setTop (mkF m 10 #[.val (.ref a), .val (.long ex), .second, .val (.double (FP.l2d ex)), .second, .val (.long (ex - (FP.d2l (FP.l2d ex)))), .second, .unset, .unset] [(.ref a)])) _
    refine st2.trans ?_
    show Steps p.tables e below (T2.setTop (mkF m 13 #[.val (.ref a), .val (.long ex), .second, .val (.double (FP.l2d ex)), .second, .val (.long (ex - (FP.d2l (FP.l2d ex)))), .second, .unset, .unset] [(.double tm)])) _
    refine XS.dstore X2.here hx rfl (hb hby d4_13) rfl (l' := #[.val (.ref a), .val (.long ex), .second, .val (.double (FP.l2d ex)), .second, .val (.long (ex - (FP.d2l (FP.l2d ex)))), .second, .val (.double tm), .second]) rfl ?_
    show Steps p.tables e below (T2.setTop (mkF m 15 #[.val (.ref a), .val (.long ex), .second, .val (.double (FP.l2d ex)), .second, .val (.long (ex - (FP.d2l (FP.l2d ex)))), .second, .val (.double tm), .second] [])) _
    refine XS.dload X2.here hx rfl (hb hby d4_15) rfl ?_
    show Steps p.tables e below (T2.setTop (mkF m 17 #[.val (.ref a), .val (.long ex), .second, .val (.double (FP.l2d ex)), .second, .val (.long (ex - (FP.d2l (FP.l2d ex)))), .second, .val (.double tm), .second] [(.double tm)])) _
    refine XS.dloadN X2.here hx rfl (hb hby d4_17) rfl ?_
    show Steps p.tables e below (T2.setTop (mkF m 18 #[.val (.ref a), .val (.long ex), .second, .val (.double (FP.l2d ex)), .second, .val (.long (ex - (FP.d2l (FP.l2d ex)))), .second, .val (.double tm), .second] [(.double (FP.l2d ex)), (.double tm)])) _
    refine XS.dcmpS X2.here hx rfl (hb hby d4_18) rfl rfl ?_
    show Steps p.tables e below (T2.setTop (mkF m 19 #[.val (.ref a), .val (.long ex), .second, .val (.double (FP.l2d ex)), .second, .val (.long (ex - (FP.d2l (FP.l2d ex)))), .second, .val (.double tm), .second] [(.int (cmpValue (FP.dcmp tm (FP.l2d ex)) .l))])) _
    refine XS.ifNo X2.here hx rfl (hb hby d4_19) rfl ((if0 _ _).trans (teq (own_cz ht hr)).2) ?_
    show Steps p.tables e below (T2.setTop (mkF m 22 #[.val (.ref a), .val (.long ex), .second, .val (.double (FP.l2d ex)), .second, .val (.long (ex - (FP.d2l (FP.l2d ex)))), .second, .val (.double tm), .second] [])) _
    refine XS.aloadN X2.here hx rfl (hb hby d4_22) rfl rfl ?_
    show Steps p.tables e below (T2.setTop (mkF m 23 #[.val (.ref a), .val (.long ex), .second, .val (.double (FP.l2d ex)), .second, .val (.long (ex - (FP.d2l (FP.l2d ex)))), .second, .val (.double tm), .second] [(.ref a)])) _
    refine XS.dload X2.here hx rfl (hb hby d4_23) rfl ?_
    exact zk
  obtain ⟨cq4, kq4, q4a, q4b, q4c⟩ := isOf hZ e2 E_a
  obtain ⟨_, _, ⟨T4, L4, k4, n4⟩, -, X4, ⟨Lc4, hQ4, l4, y4, z4⟩, st4⟩ := X2.virtualBack hx (y := (⟨"com/example/reset/reset/Clock", "until", "(D)D"⟩ : MethodName)) (z := (⟨"com/example/reset/reset/Clock", "until", "(D)D"⟩ : MethodName)) hown (mvT hZ (hw _ (List.mem_of_getElem? (i := 27) rfl))) (mvT hZ (hw _ (List.mem_of_getElem? (i := 28) rfl))) (notFace_of_selects (args := #[]) (mvT hZ (hw _ (List.mem_of_getElem? (i := 30) rfl)))) (mvT hZ (hw _ (List.mem_of_getElem? (i := 30) rfl))) (mvT hZ (hw _ (List.mem_of_getElem? (i := 29) rfl))) (by decide) (backOf (W := 0) (rm6 l Z a0 hw [] a tm tm lo h0 n0 Z0 F_time_a F_lost_a (own_nn z1) (own_nn z2)) hZ (hw _ (List.mem_of_getElem? (i := 31) rfl)) (hw _ (List.mem_of_getElem? (i := 2) rfl)) (by decide) (by decide)) q4a q4c (g := (mkF m 25 #[.val (.ref a), .val (.long ex), .second, .val (.double (FP.l2d ex)), .second, .val (.long (ex - (FP.d2l (FP.l2d ex)))), .second, .val (.double tm), .second] [(.double tm), (.ref a)])) rfl (by rw [hml]; rfl) (Steps.refl _) (argsL := [(.double tm)]) (rest := []) (lenOf pd_1 rfl) rfl (by show 2 * 0 + _ ≤ _; exact Nat.le_of_eq rfl) (hb hby d4_25) (fun _ _ => ⟨rfl, e2, (by decide : 0 + 0 ≤ _), (by decide : 0 + 0 ≤ _)⟩)
  dsimp only [Pt.U, Pt.locs, Pt.cells, Pt.slots] at X4 l4 y4 z4 st4 hQ4
  rw [y4, z4] at X4
  have X4 : Stand p l e ({ frames := 1, cells := 0, slots := 0, locals := 14 } : Room) s m #[(.ref a), (.long ex)] below meth c T4 L4 0 0 := X4
  obtain ⟨rfl, Nq4, eq4⟩ := hQ4
  have N4 : Fr n0 L4 := by rw [l4]; exact Fr.app N2 Nq4
  clear l4 y4 z4
  have e4 : T4.heap = h0 := eq4
  have R5 : ∀ zt, Steps p.tables e below (T4.setTop (mkF m 41 #[.val (.ref a), .val (.long ex), .second, .val (.double (FP.l2d ex)), .second, .val (.long (ex - (FP.d2l (FP.l2d ex)))), .second, .val (.double tm), .second] [(.int (1 : Int32))])) zt → Steps p.tables e below (s₁.setTop (entryFrame m #[(.ref a), (.long ex)] 9)) zt := by
    intro zt zk
    refine R3 zt ?_
    show Steps p.tables e below (T2.setTop (mkF m 25 #[.val (.ref a), .val (.long ex), .second, .val (.double (FP.l2d ex)), .second, .val (.long (ex - (FP.d2l (FP.l2d ex)))), .second, .val (.double tm), .second] [(.double tm), (.ref a)])) _
    refine st4.trans ?_
    show Steps p.tables e below (T4.setTop (mkF m 28 #[.val (.ref a), .val (.long ex), .second, .val (.double (FP.l2d ex)), .second, .val (.long (ex - (FP.d2l (FP.l2d ex)))), .second, .val (.double tm), .second] [(.double (FP.dsub (FP.dsub tm tm) lo))])) _
    refine XS.lload X4.here hx rfl (hb hby d4_28) rfl ?_
    show Steps p.tables e below (T4.setTop (mkF m 30 #[.val (.ref a), .val (.long ex), .second, .val (.double (FP.l2d ex)), .second, .val (.long (ex - (FP.d2l (FP.l2d ex)))), .second, .val (.double tm), .second] [(.long (ex - (FP.d2l (FP.l2d ex)))), (.double (FP.dsub (FP.dsub tm tm) lo))])) _
    refine XS.lneg X4.here hx rfl (hb hby d4_30) rfl ?_
    show Steps p.tables e below (T4.setTop (mkF m 31 #[.val (.ref a), .val (.long ex), .second, .val (.double (FP.l2d ex)), .second, .val (.long (ex - (FP.d2l (FP.l2d ex)))), .second, .val (.double tm), .second] [(.long ((-(ex - (FP.d2l (FP.l2d ex)))))), (.double (FP.dsub (FP.dsub tm tm) lo))])) _
    refine XS.l2dS X4.here hx rfl (hb hby d4_31) rfl rfl ?_
    show Steps p.tables e below (T4.setTop (mkF m 32 #[.val (.ref a), .val (.long ex), .second, .val (.double (FP.l2d ex)), .second, .val (.long (ex - (FP.d2l (FP.l2d ex)))), .second, .val (.double tm), .second] [(.double (FP.l2d ((-(ex - (FP.d2l (FP.l2d ex))))))), (.double (FP.dsub (FP.dsub tm tm) lo))])) _
    refine XS.dcmpS X4.here hx rfl (hb hby d4_32) rfl rfl ?_
    show Steps p.tables e below (T4.setTop (mkF m 33 #[.val (.ref a), .val (.long ex), .second, .val (.double (FP.l2d ex)), .second, .val (.long (ex - (FP.d2l (FP.l2d ex)))), .second, .val (.double tm), .second] [(.int (cmpValue (FP.dcmp (FP.dsub (FP.dsub tm tm) lo) (FP.l2d ((-(ex - (FP.d2l (FP.l2d ex))))))) .l))])) _
    refine XS.ifNo X4.here hx rfl (hb hby d4_33) rfl ((if0 _ _).trans (teq (own_cz z2 z3)).2) ?_
    show Steps p.tables e below (T4.setTop (mkF m 36 #[.val (.ref a), .val (.long ex), .second, .val (.double (FP.l2d ex)), .second, .val (.long (ex - (FP.d2l (FP.l2d ex)))), .second, .val (.double tm), .second] [])) _
    refine XS.iconst X4.here hx rfl (hb hby d4_36) ?_
    show Steps p.tables e below (T4.setTop (mkF m 37 #[.val (.ref a), .val (.long ex), .second, .val (.double (FP.l2d ex)), .second, .val (.long (ex - (FP.d2l (FP.l2d ex)))), .second, .val (.double tm), .second] [(.int (1 : Int32))])) _
    refine XS.goto X4.here hx rfl (pc0 := 37) (pc' := 41) rfl (hb hby d4_37) (by decide) (by decide) ?_
    exact zk
  obtain ⟨fs, hr, hrun, hended, hW, hsame⟩ := X4.leave (v := some (.int (1 : Int32))) (fun h => by rw [Bd.returns] at h; cases h)
  refine ⟨_, _, R5 _ ?_, hrun, hended, _, _, rfl, ?_, ⟨_, rfl⟩, hW, hsame.mono (by decide) (by decide)⟩
  · exact retN X4 hx (t := .boolean) Bd.returns (by simp) (hb hby d4_41) hr
  · show Q4 Z a ex tm lo E0 D0 h0 n0 _ T4.heap _
    rw [e4]
    exact ⟨rfl, N4, rfl⟩
theorem ef0 (m : MethodId) (x0 : Int64) (x1 : Int32) (x2 : Int32) (x3 : Int32) : entryFrame m #[(.long x0), (.int x1), (.int x2), (.int x3)] maxLocals = mkF m 0 #[.val (.long x0), .second, .val (.int x1), .val (.int x2), .val (.int x3), .unset, .unset, .unset, .unset, .unset, .unset, .unset, .unset, .unset, .unset, .unset, .unset, .unset, .unset, .unset, .unset, .unset, .unset] [] := by first | (simp [entryFrame, mkF, argsToLocals, Value.category, maxLocals]; done) | rfl
theorem pd_2 : parseMethodDescriptor "()V" = some ⟨[], none⟩ := by decide +kernel
theorem pd_3 : parseMethodDescriptor "(D)V" = some ⟨[.double], none⟩ := by decide +kernel
theorem pd_4 : parseMethodDescriptor "(Lcom/example/reset/reset/Clock;J)Z" = some ⟨[(.object "com/example/reset/reset/Clock"), .long], some .boolean⟩ := by decide +kernel
def Q0 (Z : State) (p0 : Int64) (p1 : Int32) (p2 : Int32) (p3 : Int32) (h0 : Heap) (n0 : Nat) (v : Option Value) (h : Heap) (L : List Loc) : Prop := v = some (.int (1 : Int32)) ∧ Fr n0 L
set_option maxRecDepth 65536 in
set_option maxHeartbeats 40000000 in
theorem rm0 (l : Launch) (Z : State) (a0 : Array Value) (hw : ∀ d ∈ tables_1, d.before a0 Z = true) (ws : List Jvm.Cond) (p0 : Int64) (p1 : Int32) (p2 : Int32) (p3 : Int32) (h0 : Heap) (n0 : Nat) (Z0 : n0 ≤ h0.size)  :
    MetFree l x (head1 (Jvm.Cond.code x code maxLocals ret :: ws) room_1) (fun zza zzU => zza = #[(.long p0), (.int p1), (.int p2), (.int p3)] ∧ Z.Warmed39 zzU.vm ∧ zzU.heap = h0) (fun _ _ _ _ _ => True) (fun _ zzU zzo zzV => ∃ zzv zzL, zzo = .returned zzv ∧ Q0 Z p0 p1 p2 p3 h0 n0 zzv zzV.heap zzL ∧ FrameEnd zzU zzo zzV zzL 16 128) := by
  refine MetFree.of_bodySF (plainFor_of_name pn_1) hisR ?_
  intro p e s m args below meth c s₁ Bd hml0 hP hK
  obtain ⟨rfl, hZ, hh⟩ := hP
  have hx := Bd.exec
  have hby := Bd.bytes
  have hml : c.maxLocals = 23 := hml0
  have hown : s.vm.findClass "com/example/reset/reset/ClockAdvancePinLaw" = some m.cls := findClass_of_methodNamed Bd.named
  have hnm := (name_of_methodNamed Bd.named Bd.method).1
  have X0 : Stand p l e room_1 s m #[(.long p0), (.int p1), (.int p2), (.int p3)] below meth c s₁ [] 0 0 := Stand.of_body Bd
  have e0 : s₁.heap = h0 := by rw [← hh, Bd.state]; rfl
  have N0 := Fr.nil n0
  have R0 : ∀ zt, Steps p.tables e below (s₁.setTop (mkF m 0 #[.val (.long p0), .second, .val (.int p1), .val (.int p2), .val (.int p3), .unset, .unset, .unset, .unset, .unset, .unset, .unset, .unset, .unset, .unset, .unset, .unset, .unset, .unset, .unset, .unset, .unset, .unset] [])) zt → Steps p.tables e below (s₁.setTop (entryFrame m #[(.long p0), (.int p1), (.int p2), (.int p3)] maxLocals)) zt := fun zt zk => castTop (ef0 m p0 p1 p2 p3) zk
  have R1 : ∀ zt, Steps p.tables e below (s₁.setTop (mkF m 10 #[.val (.long p0), .second, .val (.int p1), .val (.int p2), .val (.int p3), .unset, .unset, .unset, .unset, .unset, .unset, .unset, .unset, .unset, .unset, .unset, .unset, .unset, .unset, .unset, .unset, .unset, .unset] [(.long ((p0 >>> (((1 : Int32) + ((2 : Int32) * (p1 &&& (31 : Int32)))) &&& 0x3f).toInt64)))])) zt → Steps p.tables e below (s₁.setTop (entryFrame m #[(.long p0), (.int p1), (.int p2), (.int p3)] maxLocals)) zt := by
    intro zt zk
    refine R0 zt ?_
    show Steps p.tables e below (s₁.setTop (mkF m 0 #[.val (.long p0), .second, .val (.int p1), .val (.int p2), .val (.int p3), .unset, .unset, .unset, .unset, .unset, .unset, .unset, .unset, .unset, .unset, .unset, .unset, .unset, .unset, .unset, .unset, .unset, .unset] [])) _
    refine XS.lloadN X0.here hx rfl (hb hby at_0) rfl ?_
    show Steps p.tables e below (s₁.setTop (mkF m 1 #[.val (.long p0), .second, .val (.int p1), .val (.int p2), .val (.int p3), .unset, .unset, .unset, .unset, .unset, .unset, .unset, .unset, .unset, .unset, .unset, .unset, .unset, .unset, .unset, .unset, .unset, .unset] [(.long p0)])) _
    refine XS.iconst X0.here hx rfl (hb hby at_1) ?_
    show Steps p.tables e below (s₁.setTop (mkF m 2 #[.val (.long p0), .second, .val (.int p1), .val (.int p2), .val (.int p3), .unset, .unset, .unset, .unset, .unset, .unset, .unset, .unset, .unset, .unset, .unset, .unset, .unset, .unset, .unset, .unset, .unset, .unset] [(.int (1 : Int32)), (.long p0)])) _
    refine XS.iconst X0.here hx rfl (hb hby at_2) ?_
    show Steps p.tables e below (s₁.setTop (mkF m 3 #[.val (.long p0), .second, .val (.int p1), .val (.int p2), .val (.int p3), .unset, .unset, .unset, .unset, .unset, .unset, .unset, .unset, .unset, .unset, .unset, .unset, .unset, .unset, .unset, .unset, .unset, .unset] [(.int (2 : Int32)), (.int (1 : Int32)), (.long p0)])) _
    refine XS.iloadN X0.here hx rfl (hb hby at_3) rfl ?_
    show Steps p.tables e below (s₁.setTop (mkF m 4 #[.val (.long p0), .second, .val (.int p1), .val (.int p2), .val (.int p3), .unset, .unset, .unset, .unset, .unset, .unset, .unset, .unset, .unset, .unset, .unset, .unset, .unset, .unset, .unset, .unset, .unset, .unset] [(.int p1), (.int (2 : Int32)), (.int (1 : Int32)), (.long p0)])) _
    refine XS.bipush X0.here hx rfl (hb hby at_4) ?_
    show Steps p.tables e below (s₁.setTop (mkF m 6 #[.val (.long p0), .second, .val (.int p1), .val (.int p2), .val (.int p3), .unset, .unset, .unset, .unset, .unset, .unset, .unset, .unset, .unset, .unset, .unset, .unset, .unset, .unset, .unset, .unset, .unset, .unset] [(.int (31 : Int32)), (.int p1), (.int (2 : Int32)), (.int (1 : Int32)), (.long p0)])) _
    refine XS.iand X0.here hx rfl (hb hby at_6) rfl ?_
    show Steps p.tables e below (s₁.setTop (mkF m 7 #[.val (.long p0), .second, .val (.int p1), .val (.int p2), .val (.int p3), .unset, .unset, .unset, .unset, .unset, .unset, .unset, .unset, .unset, .unset, .unset, .unset, .unset, .unset, .unset, .unset, .unset, .unset] [(.int (p1 &&& (31 : Int32))), (.int (2 : Int32)), (.int (1 : Int32)), (.long p0)])) _
    refine XS.imul X0.here hx rfl (hb hby at_7) rfl ?_
    show Steps p.tables e below (s₁.setTop (mkF m 8 #[.val (.long p0), .second, .val (.int p1), .val (.int p2), .val (.int p3), .unset, .unset, .unset, .unset, .unset, .unset, .unset, .unset, .unset, .unset, .unset, .unset, .unset, .unset, .unset, .unset, .unset, .unset] [(.int ((2 : Int32) * (p1 &&& (31 : Int32)))), (.int (1 : Int32)), (.long p0)])) _
    refine XS.iadd X0.here hx rfl (hb hby at_8) rfl ?_
    show Steps p.tables e below (s₁.setTop (mkF m 9 #[.val (.long p0), .second, .val (.int p1), .val (.int p2), .val (.int p3), .unset, .unset, .unset, .unset, .unset, .unset, .unset, .unset, .unset, .unset, .unset, .unset, .unset, .unset, .unset, .unset, .unset, .unset] [(.int ((1 : Int32) + ((2 : Int32) * (p1 &&& (31 : Int32))))), (.long p0)])) _
    refine XS.lshr X0.here hx rfl (hb hby at_9) rfl ?_
    exact zk
  obtain ⟨bb, hn_bb⟩ : ∃ z : Int64, z = ((p0 >>> (((1 : Int32) + ((2 : Int32) * (p1 &&& (31 : Int32)))) &&& 0x3f).toInt64)) := ⟨_, rfl⟩
  rw [← hn_bb] at R1
  have R2 : ∀ zt, Steps p.tables e below (s₁.setTop (mkF m 15 #[.val (.long p0), .second, .val (.int p1), .val (.int p2), .val (.int p3), .val (.long bb), .second, .unset, .unset, .unset, .unset, .unset, .unset, .unset, .unset, .unset, .unset, .unset, .unset, .unset, .unset, .unset, .unset] [(.double (FP.l2d bb))])) zt → Steps p.tables e below (s₁.setTop (entryFrame m #[(.long p0), (.int p1), (.int p2), (.int p3)] maxLocals)) zt := by
    intro zt zk
    refine R1 zt ?_
    show Steps p.tables e below (s₁.setTop (mkF m 10 #[.val (.long p0), .second, .val (.int p1), .val (.int p2), .val (.int p3), .unset, .unset, .unset, .unset, .unset, .unset, .unset, .unset, .unset, .unset, .unset, .unset, .unset, .unset, .unset, .unset, .unset, .unset] [(.long bb)])) _
    refine XS.lstore X0.here hx rfl (hb hby at_10) rfl (l' := #[.val (.long p0), .second, .val (.int p1), .val (.int p2), .val (.int p3), .val (.long bb), .second, .unset, .unset, .unset, .unset, .unset, .unset, .unset, .unset, .unset, .unset, .unset, .unset, .unset, .unset, .unset, .unset]) rfl ?_
    show Steps p.tables e below (s₁.setTop (mkF m 12 #[.val (.long p0), .second, .val (.int p1), .val (.int p2), .val (.int p3), .val (.long bb), .second, .unset, .unset, .unset, .unset, .unset, .unset, .unset, .unset, .unset, .unset, .unset, .unset, .unset, .unset, .unset, .unset] [])) _
    refine XS.lload X0.here hx rfl (hb hby at_12) rfl ?_
    show Steps p.tables e below (s₁.setTop (mkF m 14 #[.val (.long p0), .second, .val (.int p1), .val (.int p2), .val (.int p3), .val (.long bb), .second, .unset, .unset, .unset, .unset, .unset, .unset, .unset, .unset, .unset, .unset, .unset, .unset, .unset, .unset, .unset, .unset] [(.long bb)])) _
    refine XS.l2dS X0.here hx rfl (hb hby at_14) rfl rfl ?_
    exact zk
  obtain ⟨d1, hn_d1⟩ : ∃ z : UInt64, z = (FP.l2d bb) := ⟨_, rfl⟩
  rw [← hn_d1] at R2
  have R3 : ∀ zt, Steps p.tables e below (s₁.setTop (mkF m 20 #[.val (.long p0), .second, .val (.int p1), .val (.int p2), .val (.int p3), .val (.long bb), .second, .val (.double d1), .second, .unset, .unset, .unset, .unset, .unset, .unset, .unset, .unset, .unset, .unset, .unset, .unset, .unset, .unset] [(.long (FP.d2l d1))])) zt → Steps p.tables e below (s₁.setTop (entryFrame m #[(.long p0), (.int p1), (.int p2), (.int p3)] maxLocals)) zt := by
    intro zt zk
    refine R2 zt ?_
    show Steps p.tables e below (s₁.setTop (mkF m 15 #[.val (.long p0), .second, .val (.int p1), .val (.int p2), .val (.int p3), .val (.long bb), .second, .unset, .unset, .unset, .unset, .unset, .unset, .unset, .unset, .unset, .unset, .unset, .unset, .unset, .unset, .unset, .unset] [(.double d1)])) _
    refine XS.dstore X0.here hx rfl (hb hby at_15) rfl (l' := #[.val (.long p0), .second, .val (.int p1), .val (.int p2), .val (.int p3), .val (.long bb), .second, .val (.double d1), .second, .unset, .unset, .unset, .unset, .unset, .unset, .unset, .unset, .unset, .unset, .unset, .unset, .unset, .unset]) rfl ?_
    show Steps p.tables e below (s₁.setTop (mkF m 17 #[.val (.long p0), .second, .val (.int p1), .val (.int p2), .val (.int p3), .val (.long bb), .second, .val (.double d1), .second, .unset, .unset, .unset, .unset, .unset, .unset, .unset, .unset, .unset, .unset, .unset, .unset, .unset, .unset] [])) _
    refine XS.dload X0.here hx rfl (hb hby at_17) rfl ?_
    show Steps p.tables e below (s₁.setTop (mkF m 19 #[.val (.long p0), .second, .val (.int p1), .val (.int p2), .val (.int p3), .val (.long bb), .second, .val (.double d1), .second, .unset, .unset, .unset, .unset, .unset, .unset, .unset, .unset, .unset, .unset, .unset, .unset, .unset, .unset] [(.double d1)])) _
    refine XS.d2lS X0.here hx rfl (hb hby at_19) rfl rfl ?_
    exact zk
  obtain ⟨s1, hn_s1⟩ : ∃ z : Int64, z = (FP.d2l d1) := ⟨_, rfl⟩
  rw [← hn_s1] at R3
  have R4 : ∀ zt, Steps p.tables e below (s₁.setTop (mkF m 27 #[.val (.long p0), .second, .val (.int p1), .val (.int p2), .val (.int p3), .val (.long bb), .second, .val (.double d1), .second, .val (.long s1), .second, .unset, .unset, .unset, .unset, .unset, .unset, .unset, .unset, .unset, .unset, .unset, .unset] [(.long ((((p2 >>> ((11 : Int32) &&& 31)))).toInt64))])) zt → Steps p.tables e below (s₁.setTop (entryFrame m #[(.long p0), (.int p1), (.int p2), (.int p3)] maxLocals)) zt := by
    intro zt zk
    refine R3 zt ?_
    show Steps p.tables e below (s₁.setTop (mkF m 20 #[.val (.long p0), .second, .val (.int p1), .val (.int p2), .val (.int p3), .val (.long bb), .second, .val (.double d1), .second, .unset, .unset, .unset, .unset, .unset, .unset, .unset, .unset, .unset, .unset, .unset, .unset, .unset, .unset] [(.long s1)])) _
    refine XS.lstore X0.here hx rfl (hb hby at_20) rfl (l' := #[.val (.long p0), .second, .val (.int p1), .val (.int p2), .val (.int p3), .val (.long bb), .second, .val (.double d1), .second, .val (.long s1), .second, .unset, .unset, .unset, .unset, .unset, .unset, .unset, .unset, .unset, .unset, .unset, .unset]) rfl ?_
    show Steps p.tables e below (s₁.setTop (mkF m 22 #[.val (.long p0), .second, .val (.int p1), .val (.int p2), .val (.int p3), .val (.long bb), .second, .val (.double d1), .second, .val (.long s1), .second, .unset, .unset, .unset, .unset, .unset, .unset, .unset, .unset, .unset, .unset, .unset, .unset] [])) _
    refine XS.iloadN X0.here hx rfl (hb hby at_22) rfl ?_
    show Steps p.tables e below (s₁.setTop (mkF m 23 #[.val (.long p0), .second, .val (.int p1), .val (.int p2), .val (.int p3), .val (.long bb), .second, .val (.double d1), .second, .val (.long s1), .second, .unset, .unset, .unset, .unset, .unset, .unset, .unset, .unset, .unset, .unset, .unset, .unset] [(.int p2)])) _
    refine XS.bipush X0.here hx rfl (hb hby at_23) ?_
    show Steps p.tables e below (s₁.setTop (mkF m 25 #[.val (.long p0), .second, .val (.int p1), .val (.int p2), .val (.int p3), .val (.long bb), .second, .val (.double d1), .second, .val (.long s1), .second, .unset, .unset, .unset, .unset, .unset, .unset, .unset, .unset, .unset, .unset, .unset, .unset] [(.int (11 : Int32)), (.int p2)])) _
    refine XS.ishr X0.here hx rfl (hb hby at_25) rfl ?_
    show Steps p.tables e below (s₁.setTop (mkF m 26 #[.val (.long p0), .second, .val (.int p1), .val (.int p2), .val (.int p3), .val (.long bb), .second, .val (.double d1), .second, .val (.long s1), .second, .unset, .unset, .unset, .unset, .unset, .unset, .unset, .unset, .unset, .unset, .unset, .unset] [(.int ((p2 >>> ((11 : Int32) &&& 31))))])) _
    refine XS.i2l X0.here hx rfl (hb hby at_26) rfl ?_
    exact zk
  obtain ⟨x2, hn_x2⟩ : ∃ z : Int64, z = ((((p2 >>> ((11 : Int32) &&& 31)))).toInt64) := ⟨_, rfl⟩
  rw [← hn_x2] at R4
  have R5 : ∀ zt, Steps p.tables e below (s₁.setTop (mkF m 35 #[.val (.long p0), .second, .val (.int p1), .val (.int p2), .val (.int p3), .val (.long bb), .second, .val (.double d1), .second, .val (.long s1), .second, .val (.long x2), .second, .unset, .unset, .unset, .unset, .unset, .unset, .unset, .unset, .unset, .unset] [(.long ((((p3 >>> ((11 : Int32) &&& 31)))).toInt64))])) zt → Steps p.tables e below (s₁.setTop (entryFrame m #[(.long p0), (.int p1), (.int p2), (.int p3)] maxLocals)) zt := by
    intro zt zk
    refine R4 zt ?_
    show Steps p.tables e below (s₁.setTop (mkF m 27 #[.val (.long p0), .second, .val (.int p1), .val (.int p2), .val (.int p3), .val (.long bb), .second, .val (.double d1), .second, .val (.long s1), .second, .unset, .unset, .unset, .unset, .unset, .unset, .unset, .unset, .unset, .unset, .unset, .unset] [(.long x2)])) _
    refine XS.lstore X0.here hx rfl (hb hby at_27) rfl (l' := #[.val (.long p0), .second, .val (.int p1), .val (.int p2), .val (.int p3), .val (.long bb), .second, .val (.double d1), .second, .val (.long s1), .second, .val (.long x2), .second, .unset, .unset, .unset, .unset, .unset, .unset, .unset, .unset, .unset, .unset]) rfl ?_
    show Steps p.tables e below (s₁.setTop (mkF m 29 #[.val (.long p0), .second, .val (.int p1), .val (.int p2), .val (.int p3), .val (.long bb), .second, .val (.double d1), .second, .val (.long s1), .second, .val (.long x2), .second, .unset, .unset, .unset, .unset, .unset, .unset, .unset, .unset, .unset, .unset] [])) _
    refine XS.iload X0.here hx rfl (hb hby at_29) rfl ?_
    show Steps p.tables e below (s₁.setTop (mkF m 31 #[.val (.long p0), .second, .val (.int p1), .val (.int p2), .val (.int p3), .val (.long bb), .second, .val (.double d1), .second, .val (.long s1), .second, .val (.long x2), .second, .unset, .unset, .unset, .unset, .unset, .unset, .unset, .unset, .unset, .unset] [(.int p3)])) _
    refine XS.bipush X0.here hx rfl (hb hby at_31) ?_
    show Steps p.tables e below (s₁.setTop (mkF m 33 #[.val (.long p0), .second, .val (.int p1), .val (.int p2), .val (.int p3), .val (.long bb), .second, .val (.double d1), .second, .val (.long s1), .second, .val (.long x2), .second, .unset, .unset, .unset, .unset, .unset, .unset, .unset, .unset, .unset, .unset] [(.int (11 : Int32)), (.int p3)])) _
    refine XS.ishr X0.here hx rfl (hb hby at_33) rfl ?_
    show Steps p.tables e below (s₁.setTop (mkF m 34 #[.val (.long p0), .second, .val (.int p1), .val (.int p2), .val (.int p3), .val (.long bb), .second, .val (.double d1), .second, .val (.long s1), .second, .val (.long x2), .second, .unset, .unset, .unset, .unset, .unset, .unset, .unset, .unset, .unset, .unset] [(.int ((p3 >>> ((11 : Int32) &&& 31))))])) _
    refine XS.i2l X0.here hx rfl (hb hby at_34) rfl ?_
    exact zk
  obtain ⟨x3, hn_x3⟩ : ∃ z : Int64, z = ((((p3 >>> ((11 : Int32) &&& 31)))).toInt64) := ⟨_, rfl⟩
  rw [← hn_x3] at R5
  have R6 : ∀ zt, Steps p.tables e below (s₁.setTop (mkF m 42 #[.val (.long p0), .second, .val (.int p1), .val (.int p2), .val (.int p3), .val (.long bb), .second, .val (.double d1), .second, .val (.long s1), .second, .val (.long x2), .second, .val (.long x3), .second, .unset, .unset, .unset, .unset, .unset, .unset, .unset, .unset] [(.long (s1 + x2))])) zt → Steps p.tables e below (s₁.setTop (entryFrame m #[(.long p0), (.int p1), (.int p2), (.int p3)] maxLocals)) zt := by
    intro zt zk
    refine R5 zt ?_
    show Steps p.tables e below (s₁.setTop (mkF m 35 #[.val (.long p0), .second, .val (.int p1), .val (.int p2), .val (.int p3), .val (.long bb), .second, .val (.double d1), .second, .val (.long s1), .second, .val (.long x2), .second, .unset, .unset, .unset, .unset, .unset, .unset, .unset, .unset, .unset, .unset] [(.long x3)])) _
    refine XS.lstore X0.here hx rfl (hb hby at_35) rfl (l' := #[.val (.long p0), .second, .val (.int p1), .val (.int p2), .val (.int p3), .val (.long bb), .second, .val (.double d1), .second, .val (.long s1), .second, .val (.long x2), .second, .val (.long x3), .second, .unset, .unset, .unset, .unset, .unset, .unset, .unset, .unset]) rfl ?_
    show Steps p.tables e below (s₁.setTop (mkF m 37 #[.val (.long p0), .second, .val (.int p1), .val (.int p2), .val (.int p3), .val (.long bb), .second, .val (.double d1), .second, .val (.long s1), .second, .val (.long x2), .second, .val (.long x3), .second, .unset, .unset, .unset, .unset, .unset, .unset, .unset, .unset] [])) _
    refine XS.lload X0.here hx rfl (hb hby at_37) rfl ?_
    show Steps p.tables e below (s₁.setTop (mkF m 39 #[.val (.long p0), .second, .val (.int p1), .val (.int p2), .val (.int p3), .val (.long bb), .second, .val (.double d1), .second, .val (.long s1), .second, .val (.long x2), .second, .val (.long x3), .second, .unset, .unset, .unset, .unset, .unset, .unset, .unset, .unset] [(.long s1)])) _
    refine XS.lload X0.here hx rfl (hb hby at_39) rfl ?_
    show Steps p.tables e below (s₁.setTop (mkF m 41 #[.val (.long p0), .second, .val (.int p1), .val (.int p2), .val (.int p3), .val (.long bb), .second, .val (.double d1), .second, .val (.long s1), .second, .val (.long x2), .second, .val (.long x3), .second, .unset, .unset, .unset, .unset, .unset, .unset, .unset, .unset] [(.long x2), (.long s1)])) _
    refine XS.ladd X0.here hx rfl (hb hby at_41) rfl ?_
    exact zk
  obtain ⟨s2, hn_s2⟩ : ∃ z : Int64, z = (s1 + x2) := ⟨_, rfl⟩
  rw [← hn_s2] at R6
  have R7 : ∀ zt, Steps p.tables e below (s₁.setTop (mkF m 49 #[.val (.long p0), .second, .val (.int p1), .val (.int p2), .val (.int p3), .val (.long bb), .second, .val (.double d1), .second, .val (.long s1), .second, .val (.long x2), .second, .val (.long x3), .second, .val (.long s2), .second, .unset, .unset, .unset, .unset, .unset, .unset] [(.long (s2 + x3))])) zt → Steps p.tables e below (s₁.setTop (entryFrame m #[(.long p0), (.int p1), (.int p2), (.int p3)] maxLocals)) zt := by
    intro zt zk
    refine R6 zt ?_
    show Steps p.tables e below (s₁.setTop (mkF m 42 #[.val (.long p0), .second, .val (.int p1), .val (.int p2), .val (.int p3), .val (.long bb), .second, .val (.double d1), .second, .val (.long s1), .second, .val (.long x2), .second, .val (.long x3), .second, .unset, .unset, .unset, .unset, .unset, .unset, .unset, .unset] [(.long s2)])) _
    refine XS.lstore X0.here hx rfl (hb hby at_42) rfl (l' := #[.val (.long p0), .second, .val (.int p1), .val (.int p2), .val (.int p3), .val (.long bb), .second, .val (.double d1), .second, .val (.long s1), .second, .val (.long x2), .second, .val (.long x3), .second, .val (.long s2), .second, .unset, .unset, .unset, .unset, .unset, .unset]) rfl ?_
    show Steps p.tables e below (s₁.setTop (mkF m 44 #[.val (.long p0), .second, .val (.int p1), .val (.int p2), .val (.int p3), .val (.long bb), .second, .val (.double d1), .second, .val (.long s1), .second, .val (.long x2), .second, .val (.long x3), .second, .val (.long s2), .second, .unset, .unset, .unset, .unset, .unset, .unset] [])) _
    refine XS.lload X0.here hx rfl (hb hby at_44) rfl ?_
    show Steps p.tables e below (s₁.setTop (mkF m 46 #[.val (.long p0), .second, .val (.int p1), .val (.int p2), .val (.int p3), .val (.long bb), .second, .val (.double d1), .second, .val (.long s1), .second, .val (.long x2), .second, .val (.long x3), .second, .val (.long s2), .second, .unset, .unset, .unset, .unset, .unset, .unset] [(.long s2)])) _
    refine XS.lload X0.here hx rfl (hb hby at_46) rfl ?_
    show Steps p.tables e below (s₁.setTop (mkF m 48 #[.val (.long p0), .second, .val (.int p1), .val (.int p2), .val (.int p3), .val (.long bb), .second, .val (.double d1), .second, .val (.long s1), .second, .val (.long x2), .second, .val (.long x3), .second, .val (.long s2), .second, .unset, .unset, .unset, .unset, .unset, .unset] [(.long x3), (.long s2)])) _
    refine XS.ladd X0.here hx rfl (hb hby at_48) rfl ?_
    exact zk
  obtain ⟨s3, hn_s3⟩ : ∃ z : Int64, z = (s2 + x3) := ⟨_, rfl⟩
  rw [← hn_s3] at R7
  have bB := own_shift p0 p1
  rw [← hn_bb] at bB
  obtain ⟨E1, u1, v1, R1e⟩ := own_near bb.toInt (by omega)
  have D1 : DInt E1 d1 := by rw [hn_d1]; exact own_l2dR R1e
  have hs1 : s1.toInt = E1 := by rw [hn_s1]; exact own_d2l D1 (by omega) (by omega)
  have bx2 := own_x p2
  rw [← hn_x2] at bx2
  have bx3 := own_x p3
  rw [← hn_x3] at bx3
  have hs2 : s2.toInt = E1 + x2.toInt := by rw [hn_s2, own_add64 (by omega) (by omega), hs1]
  have hs3 : s3.toInt = s2.toInt + x3.toInt := by rw [hn_s3, own_add64 (by omega) (by omega)]
  obtain ⟨E2, u2, v2, R2e⟩ := own_near s2.toInt (by omega)
  obtain ⟨E3, u3, v3, R3e⟩ := own_near s3.toInt (by omega)
  obtain ⟨ok1, T1, L1⟩ := own_first D1
  have X2 : DInt x2.toInt (FP.l2d x2) := FP.Core.l2d_int (by omega)
  have X3 : DInt x3.toInt (FP.l2d x3) := FP.Core.l2d_int (by omega)
  obtain ⟨t1, ht1⟩ : ∃ z, z = own_en 0 d1 0 := ⟨_, rfl⟩
  obtain ⟨l1, hl1⟩ : ∃ z, z = own_lo 0 d1 0 := ⟨_, rfl⟩
  rw [← ht1] at T1
  rw [← hl1] at L1
  obtain ⟨ok2, T2d, L2d⟩ := own_next T1 L1 X2 (by omega) (by omega) (N := s2.toInt) (by omega) u2 v2 R2e
  obtain ⟨t2, ht2⟩ : ∃ z, z = own_en t1 (FP.l2d x2) l1 := ⟨_, rfl⟩
  obtain ⟨l2, hl2⟩ : ∃ z, z = own_lo t1 (FP.l2d x2) l1 := ⟨_, rfl⟩
  rw [← ht2] at T2d
  rw [← hl2] at L2d
  obtain ⟨ok3, T3d, L3d⟩ := own_next T2d L2d X3 (by omega) (by omega) (N := s3.toInt) (by omega) u3 v3 R3e
  have G1 : DInt E1 (FP.l2d s1) := own_l2dR (fun u hu => own_fix D1 (by rw [hs1] at hu; exact hu))
  have G2 : DInt E2 (FP.l2d s2) := own_l2dR R2e
  have G3 : DInt E3 (FP.l2d s3) := own_l2dR R3e
  have R8 : ∀ zt, Steps p.tables e below (s₁.setTop (mkF m 51 #[.val (.long p0), .second, .val (.int p1), .val (.int p2), .val (.int p3), .val (.long bb), .second, .val (.double d1), .second, .val (.long s1), .second, .val (.long x2), .second, .val (.long x3), .second, .val (.long s2), .second, .val (.long s3), .second, .unset, .unset, .unset, .unset] [])) zt → Steps p.tables e below (s₁.setTop (entryFrame m #[(.long p0), (.int p1), (.int p2), (.int p3)] maxLocals)) zt := by
    intro zt zk
    refine R7 zt ?_
    show Steps p.tables e below (s₁.setTop (mkF m 49 #[.val (.long p0), .second, .val (.int p1), .val (.int p2), .val (.int p3), .val (.long bb), .second, .val (.double d1), .second, .val (.long s1), .second, .val (.long x2), .second, .val (.long x3), .second, .val (.long s2), .second, .unset, .unset, .unset, .unset, .unset, .unset] [(.long s3)])) _
    refine XS.lstore X0.here hx rfl (hb hby at_49) rfl (l' := #[.val (.long p0), .second, .val (.int p1), .val (.int p2), .val (.int p3), .val (.long bb), .second, .val (.double d1), .second, .val (.long s1), .second, .val (.long x2), .second, .val (.long x3), .second, .val (.long s2), .second, .val (.long s3), .second, .unset, .unset, .unset, .unset]) rfl ?_
    exact zk
  obtain ⟨T9, h9, X9, e9, E9, A9, D9, -, st9⟩ := newO X0 hx hZ hown (hw _ (List.mem_of_getElem? (i := 0) rfl)) (hw _ (List.mem_of_getElem? (i := 1) rfl)) (hw _ (List.mem_of_getElem? (i := 2) rfl)) e0 (g := (mkF m 51 #[.val (.long p0), .second, .val (.int p1), .val (.int p2), .val (.int p3), .val (.long bb), .second, .val (.double d1), .second, .val (.long s1), .second, .val (.long x2), .second, .val (.long x3), .second, .val (.long s2), .second, .val (.long s3), .second, .unset, .unset, .unset, .unset] [])) rfl (hb hby at_51) (by decide) (by decide)
  obtain ⟨b, g9⟩ : ∃ z, z = h0.size := ⟨_, rfl⟩
  rw [← g9] at A9 D9 st9
  have ge_b : n0 ≤ b := by rw [g9]; exact Z0
  have Sz9 := Nat.le_trans Z0 E9.1
  have E_b := A9
  have F_lost_b : Fld Z h9 b "com/example/reset/reset/Clock" "lost" "D" (.double (0 : UInt64)) := D9 (Or.inl (hw _ (List.mem_of_getElem? (i := 15) rfl))) (ty := .double) (by decide)
  have F_time_b : Fld Z h9 b "com/example/reset/reset/Clock" "time" "D" (.double (0 : UInt64)) := D9 (Or.inl (hw _ (List.mem_of_getElem? (i := 17) rfl))) (ty := .double) (by decide)
  have R10 : ∀ zt, Steps p.tables e below (T9.setTop (mkF m 55 #[.val (.long p0), .second, .val (.int p1), .val (.int p2), .val (.int p3), .val (.long bb), .second, .val (.double d1), .second, .val (.long s1), .second, .val (.long x2), .second, .val (.long x3), .second, .val (.long s2), .second, .val (.long s3), .second, .unset, .unset, .unset, .unset] [(.ref b), (.ref b)])) zt → Steps p.tables e below (s₁.setTop (entryFrame m #[(.long p0), (.int p1), (.int p2), (.int p3)] maxLocals)) zt := by
    intro zt zk
    refine R8 zt ?_
    show Steps p.tables e below (s₁.setTop (mkF m 51 #[.val (.long p0), .second, .val (.int p1), .val (.int p2), .val (.int p3), .val (.long bb), .second, .val (.double d1), .second, .val (.long s1), .second, .val (.long x2), .second, .val (.long x3), .second, .val (.long s2), .second, .val (.long s3), .second, .unset, .unset, .unset, .unset] [])) _
    refine st9 _ ?_
    show Steps p.tables e below (T9.setTop (mkF m 54 #[.val (.long p0), .second, .val (.int p1), .val (.int p2), .val (.int p3), .val (.long bb), .second, .val (.double d1), .second, .val (.long s1), .second, .val (.long x2), .second, .val (.long x3), .second, .val (.long s2), .second, .val (.long s3), .second, .unset, .unset, .unset, .unset] [(.ref b)])) _
    refine XS.dup X9.here hx rfl (hb hby at_54) rfl rfl ?_
    exact zk
  obtain ⟨_, _, ⟨T11, L11, k11, n11⟩, -, X11, ⟨Lc11, hQ11, l11, y11, z11⟩, st11⟩ := X9.specialBack hx (y := (⟨"com/example/reset/reset/Clock", "<init>", "()V"⟩ : MethodName)) rfl hown (mvT hZ (hw _ (List.mem_of_getElem? (i := 3) rfl))) (mvT hZ (hw _ (List.mem_of_getElem? (i := 4) rfl))) (mvT hZ (hw _ (List.mem_of_getElem? (i := 5) rfl))) (by decide) (backOf (W := 1) (rm1 l Z a0 hw [] b h9 n0 Sz9) hZ (hw _ (List.mem_of_getElem? (i := 5) rfl)) (hw _ (List.mem_of_getElem? (i := 2) rfl)) (by decide) (by decide)) (g := (mkF m 55 #[.val (.long p0), .second, .val (.int p1), .val (.int p2), .val (.int p3), .val (.long bb), .second, .val (.double d1), .second, .val (.long s1), .second, .val (.long x2), .second, .val (.long x3), .second, .val (.long s2), .second, .val (.long s3), .second, .unset, .unset, .unset, .unset] [(.ref b), (.ref b)])) rfl (by rw [hml]; rfl) (Steps.refl _) (a := b) (argsL := []) (rest := [(.ref b)]) (lenOf pd_2 rfl) rfl (by show 2 * 0 + _ ≤ _; exact Nat.le_of_eq rfl) (hb hby at_55) (fun _ _ => ⟨rfl, e9, (by decide : 1 + 0 ≤ _), (by decide : 2 + 0 ≤ _)⟩)
  dsimp only [Pt.U, Pt.locs, Pt.cells, Pt.slots] at X11 l11 y11 z11 st11 hQ11
  rw [y11, z11] at X11
  have X11 : Stand p l e room_1 s m #[(.long p0), (.int p1), (.int p2), (.int p3)] below meth c T11 L11 1 2 := X11
  obtain ⟨rfl, Nq11, eq11⟩ := hQ11
  have N11 : Fr n0 L11 := by rw [l11]; exact Fr.app N0 Nq11
  clear l11 y11 z11
  have e11 : T11.heap = h9 := eq11
  have R12 : ∀ zt, Steps p.tables e below (T11.setTop (mkF m 64 #[.val (.long p0), .second, .val (.int p1), .val (.int p2), .val (.int p3), .val (.long bb), .second, .val (.double d1), .second, .val (.long s1), .second, .val (.long x2), .second, .val (.long x3), .second, .val (.long s2), .second, .val (.long s3), .second, .val (.ref b), .unset, .unset, .unset] [(.double d1), (.ref b)])) zt → Steps p.tables e below (s₁.setTop (entryFrame m #[(.long p0), (.int p1), (.int p2), (.int p3)] maxLocals)) zt := by
    intro zt zk
    refine R10 zt ?_
    show Steps p.tables e below (T9.setTop (mkF m 55 #[.val (.long p0), .second, .val (.int p1), .val (.int p2), .val (.int p3), .val (.long bb), .second, .val (.double d1), .second, .val (.long s1), .second, .val (.long x2), .second, .val (.long x3), .second, .val (.long s2), .second, .val (.long s3), .second, .unset, .unset, .unset, .unset] [(.ref b), (.ref b)])) _
    refine st11.trans ?_
    show Steps p.tables e below (T11.setTop (mkF m 58 #[.val (.long p0), .second, .val (.int p1), .val (.int p2), .val (.int p3), .val (.long bb), .second, .val (.double d1), .second, .val (.long s1), .second, .val (.long x2), .second, .val (.long x3), .second, .val (.long s2), .second, .val (.long s3), .second, .unset, .unset, .unset, .unset] [(.ref b)])) _
    refine XS.astore X11.here hx rfl (hb hby at_58) rfl rfl (l' := #[.val (.long p0), .second, .val (.int p1), .val (.int p2), .val (.int p3), .val (.long bb), .second, .val (.double d1), .second, .val (.long s1), .second, .val (.long x2), .second, .val (.long x3), .second, .val (.long s2), .second, .val (.long s3), .second, .val (.ref b), .unset, .unset, .unset]) rfl ?_
    show Steps p.tables e below (T11.setTop (mkF m 60 #[.val (.long p0), .second, .val (.int p1), .val (.int p2), .val (.int p3), .val (.long bb), .second, .val (.double d1), .second, .val (.long s1), .second, .val (.long x2), .second, .val (.long x3), .second, .val (.long s2), .second, .val (.long s3), .second, .val (.ref b), .unset, .unset, .unset] [])) _
    refine XS.aload X11.here hx rfl (hb hby at_60) rfl rfl ?_
    show Steps p.tables e below (T11.setTop (mkF m 62 #[.val (.long p0), .second, .val (.int p1), .val (.int p2), .val (.int p3), .val (.long bb), .second, .val (.double d1), .second, .val (.long s1), .second, .val (.long x2), .second, .val (.long x3), .second, .val (.long s2), .second, .val (.long s3), .second, .val (.ref b), .unset, .unset, .unset] [(.ref b)])) _
    refine XS.dload X11.here hx rfl (hb hby at_62) rfl ?_
    exact zk
  obtain ⟨cq13, kq13, q13a, q13b, q13c⟩ := isOf hZ e11 E_b
  obtain ⟨_, _, ⟨T13, L13, k13, n13⟩, -, X13, ⟨Lc13, hQ13, l13, y13, z13⟩, st13⟩ := X11.virtualBack hx (y := (⟨"com/example/reset/reset/Clock", "advance", "(D)V"⟩ : MethodName)) (z := (⟨"com/example/reset/reset/Clock", "advance", "(D)V"⟩ : MethodName)) hown (mvT hZ (hw _ (List.mem_of_getElem? (i := 9) rfl))) (mvT hZ (hw _ (List.mem_of_getElem? (i := 10) rfl))) (notFace_of_selects (args := #[]) (mvT hZ (hw _ (List.mem_of_getElem? (i := 12) rfl)))) (mvT hZ (hw _ (List.mem_of_getElem? (i := 12) rfl))) (mvT hZ (hw _ (List.mem_of_getElem? (i := 11) rfl))) (by decide) (backOf (W := 0) (rm3 l Z a0 hw [] b d1 (0 : UInt64) (0 : UInt64) h9 n0 Sz9 E_b F_time_b F_lost_b ge_b ok1) hZ (hw _ (List.mem_of_getElem? (i := 13) rfl)) (hw _ (List.mem_of_getElem? (i := 2) rfl)) (by decide) (by decide)) q13a q13c (g := (mkF m 64 #[.val (.long p0), .second, .val (.int p1), .val (.int p2), .val (.int p3), .val (.long bb), .second, .val (.double d1), .second, .val (.long s1), .second, .val (.long x2), .second, .val (.long x3), .second, .val (.long s2), .second, .val (.long s3), .second, .val (.ref b), .unset, .unset, .unset] [(.double d1), (.ref b)])) rfl (by rw [hml]; rfl) (Steps.refl _) (argsL := [(.double d1)]) (rest := []) (lenOf pd_3 rfl) rfl (by show 2 * 0 + _ ≤ _; exact Nat.le_of_eq rfl) (hb hby at_64) (fun _ _ => ⟨rfl, e11, (by decide : 1 + 0 ≤ _), (by decide : 2 + 0 ≤ _)⟩)
  dsimp only [Pt.U, Pt.locs, Pt.cells, Pt.slots] at X13 l13 y13 z13 st13 hQ13
  rw [y13, z13] at X13
  have X13 : Stand p l e room_1 s m #[(.long p0), (.int p1), (.int p2), (.int p3)] below meth c T13 L13 1 2 := X13
  obtain ⟨rfl, Nq13, K13, F_time_b, F_lost_b⟩ := hQ13
  have N13 : Fr n0 L13 := by rw [l13]; exact Fr.app N11 Nq13
  clear l13 y13 z13
  have Sz13 := Nat.le_trans Sz9 K13.1
  have E_b := E_b.keep K13
  rw [← ht1] at F_time_b
  rw [← hl1] at F_lost_b
  have R14 : ∀ zt, Steps p.tables e below (T13.setTop (mkF m 71 #[.val (.long p0), .second, .val (.int p1), .val (.int p2), .val (.int p3), .val (.long bb), .second, .val (.double d1), .second, .val (.long s1), .second, .val (.long x2), .second, .val (.long x3), .second, .val (.long s2), .second, .val (.long s3), .second, .val (.ref b), .unset, .unset, .unset] [(.long s1), (.ref b)])) zt → Steps p.tables e below (s₁.setTop (entryFrame m #[(.long p0), (.int p1), (.int p2), (.int p3)] maxLocals)) zt := by
    intro zt zk
    refine R12 zt ?_
    show Steps p.tables e below (T11.setTop (mkF m 64 #[.val (.long p0), .second, .val (.int p1), .val (.int p2), .val (.int p3), .val (.long bb), .second, .val (.double d1), .second, .val (.long s1), .second, .val (.long x2), .second, .val (.long x3), .second, .val (.long s2), .second, .val (.long s3), .second, .val (.ref b), .unset, .unset, .unset] [(.double d1), (.ref b)])) _
    refine st13.trans ?_
    show Steps p.tables e below (T13.setTop (mkF m 67 #[.val (.long p0), .second, .val (.int p1), .val (.int p2), .val (.int p3), .val (.long bb), .second, .val (.double d1), .second, .val (.long s1), .second, .val (.long x2), .second, .val (.long x3), .second, .val (.long s2), .second, .val (.long s3), .second, .val (.ref b), .unset, .unset, .unset] [])) _
    refine XS.aload X13.here hx rfl (hb hby at_67) rfl rfl ?_
    show Steps p.tables e below (T13.setTop (mkF m 69 #[.val (.long p0), .second, .val (.int p1), .val (.int p2), .val (.int p3), .val (.long bb), .second, .val (.double d1), .second, .val (.long s1), .second, .val (.long x2), .second, .val (.long x3), .second, .val (.long s2), .second, .val (.long s3), .second, .val (.ref b), .unset, .unset, .unset] [(.ref b)])) _
    refine XS.lload X13.here hx rfl (hb hby at_69) rfl ?_
    exact zk
  obtain ⟨_, _, ⟨T15, L15, k15, n15⟩, -, X15, ⟨Lc15, hQ15, l15, y15, z15⟩, st15⟩ := Jvm.LawKit.callS X13 hx (y := (⟨"com/example/reset/reset/ClockAdvancePinLaw", "agrees", "(Lcom/example/reset/reset/Clock;J)Z"⟩ : MethodName)) hown (mvT hZ (hw _ (List.mem_of_getElem? (i := 18) rfl))) (mvT hZ (hw _ (List.mem_of_getElem? (i := 19) rfl))) (mvT hZ (hw _ (List.mem_of_getElem? (i := 20) rfl))) (mvT hZ (hw _ (List.mem_of_getElem? (i := 21) rfl))) (by decide) (backOf (W := 0) (rm4 l Z a0 hw [] b s1 t1 l1 E1 0 T13.heap n0 Sz13 E_b F_time_b F_lost_b T1 L1 G1 (by omega) (by omega) (by omega) (by omega)) hZ (hw _ (List.mem_of_getElem? (i := 21) rfl)) (hw _ (List.mem_of_getElem? (i := 20) rfl)) (by decide) (by decide)) (g := (mkF m 71 #[.val (.long p0), .second, .val (.int p1), .val (.int p2), .val (.int p3), .val (.long bb), .second, .val (.double d1), .second, .val (.long s1), .second, .val (.long x2), .second, .val (.long x3), .second, .val (.long s2), .second, .val (.long s3), .second, .val (.ref b), .unset, .unset, .unset] [(.long s1), (.ref b)])) rfl (by rw [hml]; rfl) (argsL := [(.ref b), (.long s1)]) (rest := []) (lenOf pd_4 rfl) rfl (by show 2 * 0 + _ ≤ _; exact Nat.le_of_eq rfl) (hb hby at_71) (fun _ _ => ⟨rfl, rfl, (by decide : 1 + 0 ≤ _), (by decide : 2 + 0 ≤ _)⟩)
  dsimp only [Pt.U, Pt.locs, Pt.cells, Pt.slots] at X15 l15 y15 z15 st15 hQ15
  rw [y15, z15] at X15
  have X15 : Stand p l e room_1 s m #[(.long p0), (.int p1), (.int p2), (.int p3)] below meth c T15 L15 1 2 := X15
  obtain ⟨rfl, Nq15, eq15⟩ := hQ15
  have N15 : Fr n0 L15 := by rw [l15]; exact Fr.app N13 Nq15
  clear l15 y15 z15
  have e15 : T15.heap = T13.heap := eq15
  have R16 : ∀ zt, Steps p.tables e below (T15.setTop (mkF m 81 #[.val (.long p0), .second, .val (.int p1), .val (.int p2), .val (.int p3), .val (.long bb), .second, .val (.double d1), .second, .val (.long s1), .second, .val (.long x2), .second, .val (.long x3), .second, .val (.long s2), .second, .val (.long s3), .second, .val (.ref b), .val (.int (1 : Int32)), .unset, .unset] [(.double (FP.l2d x2)), (.ref b)])) zt → Steps p.tables e below (s₁.setTop (entryFrame m #[(.long p0), (.int p1), (.int p2), (.int p3)] maxLocals)) zt := by
    intro zt zk
    refine R14 zt ?_
    show Steps p.tables e below (T13.setTop (mkF m 71 #[.val (.long p0), .second, .val (.int p1), .val (.int p2), .val (.int p3), .val (.long bb), .second, .val (.double d1), .second, .val (.long s1), .second, .val (.long x2), .second, .val (.long x3), .second, .val (.long s2), .second, .val (.long s3), .second, .val (.ref b), .unset, .unset, .unset] [(.long s1), (.ref b)])) _
    refine st15 _ ?_
    show Steps p.tables e below (T15.setTop (mkF m 74 #[.val (.long p0), .second, .val (.int p1), .val (.int p2), .val (.int p3), .val (.long bb), .second, .val (.double d1), .second, .val (.long s1), .second, .val (.long x2), .second, .val (.long x3), .second, .val (.long s2), .second, .val (.long s3), .second, .val (.ref b), .unset, .unset, .unset] [(.int (1 : Int32))])) _
    refine XS.istore X15.here hx rfl (hb hby at_74) rfl (l' := #[.val (.long p0), .second, .val (.int p1), .val (.int p2), .val (.int p3), .val (.long bb), .second, .val (.double d1), .second, .val (.long s1), .second, .val (.long x2), .second, .val (.long x3), .second, .val (.long s2), .second, .val (.long s3), .second, .val (.ref b), .val (.int (1 : Int32)), .unset, .unset]) rfl ?_
    show Steps p.tables e below (T15.setTop (mkF m 76 #[.val (.long p0), .second, .val (.int p1), .val (.int p2), .val (.int p3), .val (.long bb), .second, .val (.double d1), .second, .val (.long s1), .second, .val (.long x2), .second, .val (.long x3), .second, .val (.long s2), .second, .val (.long s3), .second, .val (.ref b), .val (.int (1 : Int32)), .unset, .unset] [])) _
    refine XS.aload X15.here hx rfl (hb hby at_76) rfl rfl ?_
    show Steps p.tables e below (T15.setTop (mkF m 78 #[.val (.long p0), .second, .val (.int p1), .val (.int p2), .val (.int p3), .val (.long bb), .second, .val (.double d1), .second, .val (.long s1), .second, .val (.long x2), .second, .val (.long x3), .second, .val (.long s2), .second, .val (.long s3), .second, .val (.ref b), .val (.int (1 : Int32)), .unset, .unset] [(.ref b)])) _
    refine XS.lload X15.here hx rfl (hb hby at_78) rfl ?_
    show Steps p.tables e below (T15.setTop (mkF m 80 #[.val (.long p0), .second, .val (.int p1), .val (.int p2), .val (.int p3), .val (.long bb), .second, .val (.double d1), .second, .val (.long s1), .second, .val (.long x2), .second, .val (.long x3), .second, .val (.long s2), .second, .val (.long s3), .second, .val (.ref b), .val (.int (1 : Int32)), .unset, .unset] [(.long x2), (.ref b)])) _
    refine XS.l2dS X15.here hx rfl (hb hby at_80) rfl rfl ?_
    exact zk
  obtain ⟨cq17, kq17, q17a, q17b, q17c⟩ := isOf hZ e15 E_b
  obtain ⟨_, _, ⟨T17, L17, k17, n17⟩, -, X17, ⟨Lc17, hQ17, l17, y17, z17⟩, st17⟩ := X15.virtualBack hx (y := (⟨"com/example/reset/reset/Clock", "advance", "(D)V"⟩ : MethodName)) (z := (⟨"com/example/reset/reset/Clock", "advance", "(D)V"⟩ : MethodName)) hown (mvT hZ (hw _ (List.mem_of_getElem? (i := 9) rfl))) (mvT hZ (hw _ (List.mem_of_getElem? (i := 10) rfl))) (notFace_of_selects (args := #[]) (mvT hZ (hw _ (List.mem_of_getElem? (i := 12) rfl)))) (mvT hZ (hw _ (List.mem_of_getElem? (i := 12) rfl))) (mvT hZ (hw _ (List.mem_of_getElem? (i := 11) rfl))) (by decide) (backOf (W := 0) (rm3 l Z a0 hw [] b (FP.l2d x2) t1 l1 T13.heap n0 Sz13 E_b F_time_b F_lost_b ge_b ok2) hZ (hw _ (List.mem_of_getElem? (i := 13) rfl)) (hw _ (List.mem_of_getElem? (i := 2) rfl)) (by decide) (by decide)) q17a q17c (g := (mkF m 81 #[.val (.long p0), .second, .val (.int p1), .val (.int p2), .val (.int p3), .val (.long bb), .second, .val (.double d1), .second, .val (.long s1), .second, .val (.long x2), .second, .val (.long x3), .second, .val (.long s2), .second, .val (.long s3), .second, .val (.ref b), .val (.int (1 : Int32)), .unset, .unset] [(.double (FP.l2d x2)), (.ref b)])) rfl (by rw [hml]; rfl) (Steps.refl _) (argsL := [(.double (FP.l2d x2))]) (rest := []) (lenOf pd_3 rfl) rfl (by show 2 * 0 + _ ≤ _; exact Nat.le_of_eq rfl) (hb hby at_81) (fun _ _ => ⟨rfl, e15, (by decide : 1 + 0 ≤ _), (by decide : 2 + 0 ≤ _)⟩)
  dsimp only [Pt.U, Pt.locs, Pt.cells, Pt.slots] at X17 l17 y17 z17 st17 hQ17
  rw [y17, z17] at X17
  have X17 : Stand p l e room_1 s m #[(.long p0), (.int p1), (.int p2), (.int p3)] below meth c T17 L17 1 2 := X17
  obtain ⟨rfl, Nq17, K17, F_time_b, F_lost_b⟩ := hQ17
  have N17 : Fr n0 L17 := by rw [l17]; exact Fr.app N15 Nq17
  clear l17 y17 z17
  have Sz17 := Nat.le_trans Sz13 K17.1
  have E_b := E_b.keep K17
  rw [← ht2] at F_time_b
  rw [← hl2] at F_lost_b
  have R18 : ∀ zt, Steps p.tables e below (T17.setTop (mkF m 88 #[.val (.long p0), .second, .val (.int p1), .val (.int p2), .val (.int p3), .val (.long bb), .second, .val (.double d1), .second, .val (.long s1), .second, .val (.long x2), .second, .val (.long x3), .second, .val (.long s2), .second, .val (.long s3), .second, .val (.ref b), .val (.int (1 : Int32)), .unset, .unset] [(.long s2), (.ref b)])) zt → Steps p.tables e below (s₁.setTop (entryFrame m #[(.long p0), (.int p1), (.int p2), (.int p3)] maxLocals)) zt := by
    intro zt zk
    refine R16 zt ?_
    show Steps p.tables e below (T15.setTop (mkF m 81 #[.val (.long p0), .second, .val (.int p1), .val (.int p2), .val (.int p3), .val (.long bb), .second, .val (.double d1), .second, .val (.long s1), .second, .val (.long x2), .second, .val (.long x3), .second, .val (.long s2), .second, .val (.long s3), .second, .val (.ref b), .val (.int (1 : Int32)), .unset, .unset] [(.double (FP.l2d x2)), (.ref b)])) _
    refine st17.trans ?_
    show Steps p.tables e below (T17.setTop (mkF m 84 #[.val (.long p0), .second, .val (.int p1), .val (.int p2), .val (.int p3), .val (.long bb), .second, .val (.double d1), .second, .val (.long s1), .second, .val (.long x2), .second, .val (.long x3), .second, .val (.long s2), .second, .val (.long s3), .second, .val (.ref b), .val (.int (1 : Int32)), .unset, .unset] [])) _
    refine XS.aload X17.here hx rfl (hb hby at_84) rfl rfl ?_
    show Steps p.tables e below (T17.setTop (mkF m 86 #[.val (.long p0), .second, .val (.int p1), .val (.int p2), .val (.int p3), .val (.long bb), .second, .val (.double d1), .second, .val (.long s1), .second, .val (.long x2), .second, .val (.long x3), .second, .val (.long s2), .second, .val (.long s3), .second, .val (.ref b), .val (.int (1 : Int32)), .unset, .unset] [(.ref b)])) _
    refine XS.lload X17.here hx rfl (hb hby at_86) rfl ?_
    exact zk
  obtain ⟨_, _, ⟨T19, L19, k19, n19⟩, -, X19, ⟨Lc19, hQ19, l19, y19, z19⟩, st19⟩ := Jvm.LawKit.callS X17 hx (y := (⟨"com/example/reset/reset/ClockAdvancePinLaw", "agrees", "(Lcom/example/reset/reset/Clock;J)Z"⟩ : MethodName)) hown (mvT hZ (hw _ (List.mem_of_getElem? (i := 18) rfl))) (mvT hZ (hw _ (List.mem_of_getElem? (i := 19) rfl))) (mvT hZ (hw _ (List.mem_of_getElem? (i := 20) rfl))) (mvT hZ (hw _ (List.mem_of_getElem? (i := 21) rfl))) (by decide) (backOf (W := 0) (rm4 l Z a0 hw [] b s2 t2 l2 E2 (s2.toInt - E2) T17.heap n0 Sz17 E_b F_time_b F_lost_b T2d L2d G2 (by omega) (by omega) (by omega) (by omega)) hZ (hw _ (List.mem_of_getElem? (i := 21) rfl)) (hw _ (List.mem_of_getElem? (i := 20) rfl)) (by decide) (by decide)) (g := (mkF m 88 #[.val (.long p0), .second, .val (.int p1), .val (.int p2), .val (.int p3), .val (.long bb), .second, .val (.double d1), .second, .val (.long s1), .second, .val (.long x2), .second, .val (.long x3), .second, .val (.long s2), .second, .val (.long s3), .second, .val (.ref b), .val (.int (1 : Int32)), .unset, .unset] [(.long s2), (.ref b)])) rfl (by rw [hml]; rfl) (argsL := [(.ref b), (.long s2)]) (rest := []) (lenOf pd_4 rfl) rfl (by show 2 * 0 + _ ≤ _; exact Nat.le_of_eq rfl) (hb hby at_88) (fun _ _ => ⟨rfl, rfl, (by decide : 1 + 0 ≤ _), (by decide : 2 + 0 ≤ _)⟩)
  dsimp only [Pt.U, Pt.locs, Pt.cells, Pt.slots] at X19 l19 y19 z19 st19 hQ19
  rw [y19, z19] at X19
  have X19 : Stand p l e room_1 s m #[(.long p0), (.int p1), (.int p2), (.int p3)] below meth c T19 L19 1 2 := X19
  obtain ⟨rfl, Nq19, eq19⟩ := hQ19
  have N19 : Fr n0 L19 := by rw [l19]; exact Fr.app N17 Nq19
  clear l19 y19 z19
  have e19 : T19.heap = T17.heap := eq19
  have R20 : ∀ zt, Steps p.tables e below (T19.setTop (mkF m 98 #[.val (.long p0), .second, .val (.int p1), .val (.int p2), .val (.int p3), .val (.long bb), .second, .val (.double d1), .second, .val (.long s1), .second, .val (.long x2), .second, .val (.long x3), .second, .val (.long s2), .second, .val (.long s3), .second, .val (.ref b), .val (.int (1 : Int32)), .val (.int (1 : Int32)), .unset] [(.double (FP.l2d x3)), (.ref b)])) zt → Steps p.tables e below (s₁.setTop (entryFrame m #[(.long p0), (.int p1), (.int p2), (.int p3)] maxLocals)) zt := by
    intro zt zk
    refine R18 zt ?_
    show Steps p.tables e below (T17.setTop (mkF m 88 #[.val (.long p0), .second, .val (.int p1), .val (.int p2), .val (.int p3), .val (.long bb), .second, .val (.double d1), .second, .val (.long s1), .second, .val (.long x2), .second, .val (.long x3), .second, .val (.long s2), .second, .val (.long s3), .second, .val (.ref b), .val (.int (1 : Int32)), .unset, .unset] [(.long s2), (.ref b)])) _
    refine st19 _ ?_
    show Steps p.tables e below (T19.setTop (mkF m 91 #[.val (.long p0), .second, .val (.int p1), .val (.int p2), .val (.int p3), .val (.long bb), .second, .val (.double d1), .second, .val (.long s1), .second, .val (.long x2), .second, .val (.long x3), .second, .val (.long s2), .second, .val (.long s3), .second, .val (.ref b), .val (.int (1 : Int32)), .unset, .unset] [(.int (1 : Int32))])) _
    refine XS.istore X19.here hx rfl (hb hby at_91) rfl (l' := #[.val (.long p0), .second, .val (.int p1), .val (.int p2), .val (.int p3), .val (.long bb), .second, .val (.double d1), .second, .val (.long s1), .second, .val (.long x2), .second, .val (.long x3), .second, .val (.long s2), .second, .val (.long s3), .second, .val (.ref b), .val (.int (1 : Int32)), .val (.int (1 : Int32)), .unset]) rfl ?_
    show Steps p.tables e below (T19.setTop (mkF m 93 #[.val (.long p0), .second, .val (.int p1), .val (.int p2), .val (.int p3), .val (.long bb), .second, .val (.double d1), .second, .val (.long s1), .second, .val (.long x2), .second, .val (.long x3), .second, .val (.long s2), .second, .val (.long s3), .second, .val (.ref b), .val (.int (1 : Int32)), .val (.int (1 : Int32)), .unset] [])) _
    refine XS.aload X19.here hx rfl (hb hby at_93) rfl rfl ?_
    show Steps p.tables e below (T19.setTop (mkF m 95 #[.val (.long p0), .second, .val (.int p1), .val (.int p2), .val (.int p3), .val (.long bb), .second, .val (.double d1), .second, .val (.long s1), .second, .val (.long x2), .second, .val (.long x3), .second, .val (.long s2), .second, .val (.long s3), .second, .val (.ref b), .val (.int (1 : Int32)), .val (.int (1 : Int32)), .unset] [(.ref b)])) _
    refine XS.lload X19.here hx rfl (hb hby at_95) rfl ?_
    show Steps p.tables e below (T19.setTop (mkF m 97 #[.val (.long p0), .second, .val (.int p1), .val (.int p2), .val (.int p3), .val (.long bb), .second, .val (.double d1), .second, .val (.long s1), .second, .val (.long x2), .second, .val (.long x3), .second, .val (.long s2), .second, .val (.long s3), .second, .val (.ref b), .val (.int (1 : Int32)), .val (.int (1 : Int32)), .unset] [(.long x3), (.ref b)])) _
    refine XS.l2dS X19.here hx rfl (hb hby at_97) rfl rfl ?_
    exact zk
  obtain ⟨cq21, kq21, q21a, q21b, q21c⟩ := isOf hZ e19 E_b
  obtain ⟨_, _, ⟨T21, L21, k21, n21⟩, -, X21, ⟨Lc21, hQ21, l21, y21, z21⟩, st21⟩ := X19.virtualBack hx (y := (⟨"com/example/reset/reset/Clock", "advance", "(D)V"⟩ : MethodName)) (z := (⟨"com/example/reset/reset/Clock", "advance", "(D)V"⟩ : MethodName)) hown (mvT hZ (hw _ (List.mem_of_getElem? (i := 9) rfl))) (mvT hZ (hw _ (List.mem_of_getElem? (i := 10) rfl))) (notFace_of_selects (args := #[]) (mvT hZ (hw _ (List.mem_of_getElem? (i := 12) rfl)))) (mvT hZ (hw _ (List.mem_of_getElem? (i := 12) rfl))) (mvT hZ (hw _ (List.mem_of_getElem? (i := 11) rfl))) (by decide) (backOf (W := 0) (rm3 l Z a0 hw [] b (FP.l2d x3) t2 l2 T17.heap n0 Sz17 E_b F_time_b F_lost_b ge_b ok3) hZ (hw _ (List.mem_of_getElem? (i := 13) rfl)) (hw _ (List.mem_of_getElem? (i := 2) rfl)) (by decide) (by decide)) q21a q21c (g := (mkF m 98 #[.val (.long p0), .second, .val (.int p1), .val (.int p2), .val (.int p3), .val (.long bb), .second, .val (.double d1), .second, .val (.long s1), .second, .val (.long x2), .second, .val (.long x3), .second, .val (.long s2), .second, .val (.long s3), .second, .val (.ref b), .val (.int (1 : Int32)), .val (.int (1 : Int32)), .unset] [(.double (FP.l2d x3)), (.ref b)])) rfl (by rw [hml]; rfl) (Steps.refl _) (argsL := [(.double (FP.l2d x3))]) (rest := []) (lenOf pd_3 rfl) rfl (by show 2 * 0 + _ ≤ _; exact Nat.le_of_eq rfl) (hb hby at_98) (fun _ _ => ⟨rfl, e19, (by decide : 1 + 0 ≤ _), (by decide : 2 + 0 ≤ _)⟩)
  dsimp only [Pt.U, Pt.locs, Pt.cells, Pt.slots] at X21 l21 y21 z21 st21 hQ21
  rw [y21, z21] at X21
  have X21 : Stand p l e room_1 s m #[(.long p0), (.int p1), (.int p2), (.int p3)] below meth c T21 L21 1 2 := X21
  obtain ⟨rfl, Nq21, K21, F_time_b, F_lost_b⟩ := hQ21
  have N21 : Fr n0 L21 := by rw [l21]; exact Fr.app N19 Nq21
  clear l21 y21 z21
  have Sz21 := Nat.le_trans Sz17 K21.1
  have E_b := E_b.keep K21
  have R22 : ∀ zt, Steps p.tables e below (T21.setTop (mkF m 105 #[.val (.long p0), .second, .val (.int p1), .val (.int p2), .val (.int p3), .val (.long bb), .second, .val (.double d1), .second, .val (.long s1), .second, .val (.long x2), .second, .val (.long x3), .second, .val (.long s2), .second, .val (.long s3), .second, .val (.ref b), .val (.int (1 : Int32)), .val (.int (1 : Int32)), .unset] [(.long s3), (.ref b)])) zt → Steps p.tables e below (s₁.setTop (entryFrame m #[(.long p0), (.int p1), (.int p2), (.int p3)] maxLocals)) zt := by
    intro zt zk
    refine R20 zt ?_
    show Steps p.tables e below (T19.setTop (mkF m 98 #[.val (.long p0), .second, .val (.int p1), .val (.int p2), .val (.int p3), .val (.long bb), .second, .val (.double d1), .second, .val (.long s1), .second, .val (.long x2), .second, .val (.long x3), .second, .val (.long s2), .second, .val (.long s3), .second, .val (.ref b), .val (.int (1 : Int32)), .val (.int (1 : Int32)), .unset] [(.double (FP.l2d x3)), (.ref b)])) _
    refine st21.trans ?_
    show Steps p.tables e below (T21.setTop (mkF m 101 #[.val (.long p0), .second, .val (.int p1), .val (.int p2), .val (.int p3), .val (.long bb), .second, .val (.double d1), .second, .val (.long s1), .second, .val (.long x2), .second, .val (.long x3), .second, .val (.long s2), .second, .val (.long s3), .second, .val (.ref b), .val (.int (1 : Int32)), .val (.int (1 : Int32)), .unset] [])) _
    refine XS.aload X21.here hx rfl (hb hby at_101) rfl rfl ?_
    show Steps p.tables e below (T21.setTop (mkF m 103 #[.val (.long p0), .second, .val (.int p1), .val (.int p2), .val (.int p3), .val (.long bb), .second, .val (.double d1), .second, .val (.long s1), .second, .val (.long x2), .second, .val (.long x3), .second, .val (.long s2), .second, .val (.long s3), .second, .val (.ref b), .val (.int (1 : Int32)), .val (.int (1 : Int32)), .unset] [(.ref b)])) _
    refine XS.lload X21.here hx rfl (hb hby at_103) rfl ?_
    exact zk
  obtain ⟨_, _, ⟨T23, L23, k23, n23⟩, -, X23, ⟨Lc23, hQ23, l23, y23, z23⟩, st23⟩ := Jvm.LawKit.callS X21 hx (y := (⟨"com/example/reset/reset/ClockAdvancePinLaw", "agrees", "(Lcom/example/reset/reset/Clock;J)Z"⟩ : MethodName)) hown (mvT hZ (hw _ (List.mem_of_getElem? (i := 18) rfl))) (mvT hZ (hw _ (List.mem_of_getElem? (i := 19) rfl))) (mvT hZ (hw _ (List.mem_of_getElem? (i := 20) rfl))) (mvT hZ (hw _ (List.mem_of_getElem? (i := 21) rfl))) (by decide) (backOf (W := 0) (rm4 l Z a0 hw [] b s3 (own_en t2 (FP.l2d x3) l2) (own_lo t2 (FP.l2d x3) l2) E3 (s3.toInt - E3) T21.heap n0 Sz21 E_b F_time_b F_lost_b T3d L3d G3 (by omega) (by omega) (by omega) (by omega)) hZ (hw _ (List.mem_of_getElem? (i := 21) rfl)) (hw _ (List.mem_of_getElem? (i := 20) rfl)) (by decide) (by decide)) (g := (mkF m 105 #[.val (.long p0), .second, .val (.int p1), .val (.int p2), .val (.int p3), .val (.long bb), .second, .val (.double d1), .second, .val (.long s1), .second, .val (.long x2), .second, .val (.long x3), .second, .val (.long s2), .second, .val (.long s3), .second, .val (.ref b), .val (.int (1 : Int32)), .val (.int (1 : Int32)), .unset] [(.long s3), (.ref b)])) rfl (by rw [hml]; rfl) (argsL := [(.ref b), (.long s3)]) (rest := []) (lenOf pd_4 rfl) rfl (by show 2 * 0 + _ ≤ _; exact Nat.le_of_eq rfl) (hb hby at_105) (fun _ _ => ⟨rfl, rfl, (by decide : 1 + 0 ≤ _), (by decide : 2 + 0 ≤ _)⟩)
  dsimp only [Pt.U, Pt.locs, Pt.cells, Pt.slots] at X23 l23 y23 z23 st23 hQ23
  rw [y23, z23] at X23
  have X23 : Stand p l e room_1 s m #[(.long p0), (.int p1), (.int p2), (.int p3)] below meth c T23 L23 1 2 := X23
  obtain ⟨rfl, Nq23, eq23⟩ := hQ23
  have N23 : Fr n0 L23 := by rw [l23]; exact Fr.app N21 Nq23
  clear l23 y23 z23
  have e23 : T23.heap = T21.heap := eq23
  have R24 : ∀ zt, Steps p.tables e below (T23.setTop (mkF m 130 #[.val (.long p0), .second, .val (.int p1), .val (.int p2), .val (.int p3), .val (.long bb), .second, .val (.double d1), .second, .val (.long s1), .second, .val (.long x2), .second, .val (.long x3), .second, .val (.long s2), .second, .val (.long s3), .second, .val (.ref b), .val (.int (1 : Int32)), .val (.int (1 : Int32)), .val (.int (1 : Int32))] [(.int (1 : Int32))])) zt → Steps p.tables e below (s₁.setTop (entryFrame m #[(.long p0), (.int p1), (.int p2), (.int p3)] maxLocals)) zt := by
    intro zt zk
    refine R22 zt ?_
    show Steps p.tables e below (T21.setTop (mkF m 105 #[.val (.long p0), .second, .val (.int p1), .val (.int p2), .val (.int p3), .val (.long bb), .second, .val (.double d1), .second, .val (.long s1), .second, .val (.long x2), .second, .val (.long x3), .second, .val (.long s2), .second, .val (.long s3), .second, .val (.ref b), .val (.int (1 : Int32)), .val (.int (1 : Int32)), .unset] [(.long s3), (.ref b)])) _
    refine st23 _ ?_
    show Steps p.tables e below (T23.setTop (mkF m 108 #[.val (.long p0), .second, .val (.int p1), .val (.int p2), .val (.int p3), .val (.long bb), .second, .val (.double d1), .second, .val (.long s1), .second, .val (.long x2), .second, .val (.long x3), .second, .val (.long s2), .second, .val (.long s3), .second, .val (.ref b), .val (.int (1 : Int32)), .val (.int (1 : Int32)), .unset] [(.int (1 : Int32))])) _
    refine XS.istore X23.here hx rfl (hb hby at_108) rfl (l' := #[.val (.long p0), .second, .val (.int p1), .val (.int p2), .val (.int p3), .val (.long bb), .second, .val (.double d1), .second, .val (.long s1), .second, .val (.long x2), .second, .val (.long x3), .second, .val (.long s2), .second, .val (.long s3), .second, .val (.ref b), .val (.int (1 : Int32)), .val (.int (1 : Int32)), .val (.int (1 : Int32))]) rfl ?_
    show Steps p.tables e below (T23.setTop (mkF m 110 #[.val (.long p0), .second, .val (.int p1), .val (.int p2), .val (.int p3), .val (.long bb), .second, .val (.double d1), .second, .val (.long s1), .second, .val (.long x2), .second, .val (.long x3), .second, .val (.long s2), .second, .val (.long s3), .second, .val (.ref b), .val (.int (1 : Int32)), .val (.int (1 : Int32)), .val (.int (1 : Int32))] [])) _
    refine XS.iload X23.here hx rfl (hb hby at_110) rfl ?_
    show Steps p.tables e below (T23.setTop (mkF m 112 #[.val (.long p0), .second, .val (.int p1), .val (.int p2), .val (.int p3), .val (.long bb), .second, .val (.double d1), .second, .val (.long s1), .second, .val (.long x2), .second, .val (.long x3), .second, .val (.long s2), .second, .val (.long s3), .second, .val (.ref b), .val (.int (1 : Int32)), .val (.int (1 : Int32)), .val (.int (1 : Int32))] [(.int (1 : Int32))])) _
    refine XS.ifNo X23.here hx rfl (hb hby at_112) rfl ((if0 _ _).trans (feq (by decide)).1) ?_
    show Steps p.tables e below (T23.setTop (mkF m 115 #[.val (.long p0), .second, .val (.int p1), .val (.int p2), .val (.int p3), .val (.long bb), .second, .val (.double d1), .second, .val (.long s1), .second, .val (.long x2), .second, .val (.long x3), .second, .val (.long s2), .second, .val (.long s3), .second, .val (.ref b), .val (.int (1 : Int32)), .val (.int (1 : Int32)), .val (.int (1 : Int32))] [])) _
    refine XS.iload X23.here hx rfl (hb hby at_115) rfl ?_
    show Steps p.tables e below (T23.setTop (mkF m 117 #[.val (.long p0), .second, .val (.int p1), .val (.int p2), .val (.int p3), .val (.long bb), .second, .val (.double d1), .second, .val (.long s1), .second, .val (.long x2), .second, .val (.long x3), .second, .val (.long s2), .second, .val (.long s3), .second, .val (.ref b), .val (.int (1 : Int32)), .val (.int (1 : Int32)), .val (.int (1 : Int32))] [(.int (1 : Int32))])) _
    refine XS.ifNo X23.here hx rfl (hb hby at_117) rfl ((if0 _ _).trans (feq (by decide)).1) ?_
    show Steps p.tables e below (T23.setTop (mkF m 120 #[.val (.long p0), .second, .val (.int p1), .val (.int p2), .val (.int p3), .val (.long bb), .second, .val (.double d1), .second, .val (.long s1), .second, .val (.long x2), .second, .val (.long x3), .second, .val (.long s2), .second, .val (.long s3), .second, .val (.ref b), .val (.int (1 : Int32)), .val (.int (1 : Int32)), .val (.int (1 : Int32))] [])) _
    refine XS.iload X23.here hx rfl (hb hby at_120) rfl ?_
    show Steps p.tables e below (T23.setTop (mkF m 122 #[.val (.long p0), .second, .val (.int p1), .val (.int p2), .val (.int p3), .val (.long bb), .second, .val (.double d1), .second, .val (.long s1), .second, .val (.long x2), .second, .val (.long x3), .second, .val (.long s2), .second, .val (.long s3), .second, .val (.ref b), .val (.int (1 : Int32)), .val (.int (1 : Int32)), .val (.int (1 : Int32))] [(.int (1 : Int32))])) _
    refine XS.ifNo X23.here hx rfl (hb hby at_122) rfl ((if0 _ _).trans (feq (by decide)).1) ?_
    show Steps p.tables e below (T23.setTop (mkF m 125 #[.val (.long p0), .second, .val (.int p1), .val (.int p2), .val (.int p3), .val (.long bb), .second, .val (.double d1), .second, .val (.long s1), .second, .val (.long x2), .second, .val (.long x3), .second, .val (.long s2), .second, .val (.long s3), .second, .val (.ref b), .val (.int (1 : Int32)), .val (.int (1 : Int32)), .val (.int (1 : Int32))] [])) _
    refine XS.iconst X23.here hx rfl (hb hby at_125) ?_
    show Steps p.tables e below (T23.setTop (mkF m 126 #[.val (.long p0), .second, .val (.int p1), .val (.int p2), .val (.int p3), .val (.long bb), .second, .val (.double d1), .second, .val (.long s1), .second, .val (.long x2), .second, .val (.long x3), .second, .val (.long s2), .second, .val (.long s3), .second, .val (.ref b), .val (.int (1 : Int32)), .val (.int (1 : Int32)), .val (.int (1 : Int32))] [(.int (1 : Int32))])) _
    refine XS.goto X23.here hx rfl (pc0 := 126) (pc' := 130) rfl (hb hby at_126) (by decide) (by decide) ?_
    exact zk
  obtain ⟨fs, hr, hrun, hended, hW, hsame⟩ := X23.leave (v := some (.int (1 : Int32))) (fun h => by rw [Bd.returns] at h; cases h)
  refine ⟨_, _, R24 _ ?_, hrun, hended, _, _, rfl, ?_, ⟨_, rfl⟩, hW, hsame.mono (by decide) (by decide)⟩
  · exact retN X23 hx (t := .boolean) Bd.returns (by simp) (hb hby at_130) hr
  · show Q0 Z p0 p1 p2 p3 h0 n0 _ T23.heap _
    rw [e23]
    exact ⟨rfl, N23⟩
set_option maxRecDepth 65536 in
set_option maxHeartbeats 40000000 in
theorem comes_1 {Post : Tables → Env → Array Value → State → Outcome → State → Prop} (hpost : ∀ tb e args s v u, (limb_1_1.after args s (.returned v) u = true ∧ limb_1_2.after args s (.returned v) u = true ∧ True) → FrameEnd s (.returned v) u (Jvm.fieldLocs frame_1_writes args s ++ Jvm.arrayLocs frame_1_arrays args s ++ Jvm.staticLocs frame_1_statics s) 16 128 → Post tb e args s (.returned v) u) :
    ArmFor flags0 classFile x code maxLocals ret World_1 tables_1 room_1 Calls_1 rest_1 Pre_1 Post := by
  intro l hfl _ _ p e ha hc hk s m args below hf hA hF happ hP
  obtain ⟨hcalls, hrest, hpre⟩ := hP
  obtain ⟨-, -, -, hnamed, -, -, -, hat⟩ := (Spec.applies_iff hf).mp happ
  obtain ⟨hg, hn⟩ := and_e (Cond.before_iff.mp (show (Jvm.Cond.and given_1 narrow_1).before args s = true from hpre))
  obtain ⟨hcount, hg0⟩ := and_e hg
  obtain ⟨hi0, hg1⟩ := and_e hg0
  obtain ⟨hi1, hg2⟩ := and_e hg1
  obtain ⟨hi2, hg3⟩ := and_e hg2
  have hi3 := hg3
  obtain ⟨w0, w1, w2, w3, rfl⟩ : ∃ w0 w1 w2 w3 : Value, args = #[w0, w1, w2, w3] := by
    have hs : args.size = 4 := by simpa [Cond.value, given_1] using hcount
    obtain ⟨L⟩ := args
    match L, hs with
    | [w0, w1, w2, w3], _ => exact ⟨w0, w1, w2, w3, rfl⟩
  have hw := fun d (hd : d ∈ tables_1) => atoms_spec (ws := Jvm.Cond.code x code maxLocals ret :: tables_1) hat d (List.mem_cons_of_mem _ hd)
  have hfit : Fit s := fun {y c} hc i hi => by
    obtain ⟨ha, rfl⟩ := Array.getElem?_eq_some_iff.mp hc
    have q := List.all_eq_true.mp ((Array.all_eq_true_iff_forall_mem.mp hF) _ (Array.getElem_mem ha)) i (List.mem_range.mpr hi)
    simpa [Array.getElem?_eq_getElem hi] using q
  obtain ⟨i0, ei0⟩ := isL_v hi0
  obtain rfl : w0 = (.long i0) := Option.some.inj ei0
  obtain ⟨i1, ei1⟩ := is_v hi1
  obtain rfl : w1 = (.int i1) := Option.some.inj ei1
  obtain ⟨i2, ei2⟩ := is_v hi2
  obtain rfl : w2 = (.int i2) := Option.some.inj ei2
  obtain ⟨i3, ei3⟩ := is_v hi3
  obtain rfl : w3 = (.int i3) := Option.some.inj ei3
  obtain ⟨n, o, h1, h2, h3, _, L, rfl, ⟨rfl, N⟩, hq⟩ := rm0 l s _ hw tables_1 i0 i1 i2 i3 s.heap s.heap.size (Nat.le_refl _) p e ha hc hk s m _ below hf ((Spec.applies_iff_loose hf).mp happ).1 ⟨rfl, State.Warmed39.refl s, rfl⟩ trivial
  refine ⟨n, _, h1, h2, h3, hpost _ _ _ _ _ _ ⟨Cond.after_iff.mpr rfl, Cond.after_iff.mpr (eq_i res_at (Term.int_eval (1)) rfl), trivial⟩ ⟨hq.1, hq.2.1, (hq.2.2.sift fun y hy => Or.inr (N y hy)).mono (by decide) (by decide)⟩⟩
theorem main_1_1 : Claimed_1_1 := comes_1 fun _ _ _ _ _ _ h hF => ⟨h.1, hF⟩
theorem main_1_2 : Claimed_1_2 := comes_1 fun _ _ _ _ _ _ h hF => ⟨h.2.1, hF⟩
end Jvm.Pilot.@@N@@
namespace Jvm.Pilot.@@N@@
open Jvm Jvm.ClassFile Sem Op Lib Jvm.Free Jvm.Stand Jvm.Pilot.@@N@@.Jvm.D
/-! MADE BY PROGRAM (witnessworld.py) out of the Statement's table words and the real class files: 9 classes; the members and pool entries that the words name. The judged class is class 1, her method 1. -/
namespace start1
open Jvm.ClassFile
def u (s : String) : CpInfo := .utf8 (stringToUtf16 s)
/-- a pool by its gaps: so many unusable entries, then the entry; so many at the end -/
def gap : Nat → List CpInfo → List CpInfo
  | 0, r => r
  | n + 1, r => .unusable :: gap n r
def poolList (es : List (Nat × CpInfo)) (last : Nat) : List CpInfo := es.foldr (fun e r => gap e.1 (e.2 :: r)) (gap last [])
def pool (es : List (Nat × CpInfo)) (last : Nat) : Array CpInfo := ⟨poolList es last⟩
def fileOf (pool : Array CpInfo) (this : Nat) (attrs : Array Attribute := #[]) (ms : Array MethodInfo := #[]) (fl : Nat := 33) (sup : Nat := 0) (ifs : Array Nat := #[]) (fds : Array FieldInfo := #[]) : ClassFile where
  minorVersion := 0
  majorVersion := 65
  constantPool := pool
  accessFlags := fl
  thisClass := this
  superClass := sup
  interfaces := ifs
  fields := fds
  methods := ms
  attributes := attrs
def plain (name : String) (sup : Option ClassId) : Class where
  name := name
  kind := .ordinary
  loader := none
  accessFlags := 33
  super := sup
  interfaces := #[]
  cf := none
  fields := #[]
  methods := #[]
  instanceTypes := #[]
  staticTypes := #[]
  resolved := #[]
  callSites := []
  init := .initialized
  statics := none
  mirror := none

def pool0 : Array CpInfo := pool [(5, u "<init>"), (0, u "()V"), (1, .class_ 10), (1, u "java/lang/Object")] 113

def k0c0 : Code := { maxStack := 0, maxLocals := 1, code := object_method_1_code, exceptionTable := #[], attributes := #[] }
def k0m0 : Method := { name := "<init>", desc := "()V", sig := { parameters := [], returnType := none }, accessFlags := 1, code := some k0c0 }
/-- java/lang/Object -/
def k0 : Class := { plain "java/lang/Object" none with
  accessFlags := 33
  interfaces := #[]
  cf := some (fileOf pool0 8 #[] #[{ accessFlags := 1, nameIndex := 5, descriptorIndex := 6, attributes := #[] }] 33 0 #[] #[])
  fields := #[]
  methods := #[k0m0]
  instanceTypes := #[]
  staticTypes := #[]
  resolved := Array.replicate 124 none
  statics := none }

def pool1 : Array CpInfo := pool [(2, .class_ 4), (0, .nameAndType 5 6), (0, u "java/lang/Object"), (0, u "<init>"), (0, u "()V"), (0, .class_ 8), (0, u "com/example/reset/reset/Clock"), (0, .methodref 7 3), (0, .methodref 7 11), (0, .nameAndType 12 13), (0, u "advance"), (0, u "(D)V"), (0, .methodref 15 16), (0, .class_ 17), (0, .nameAndType 18 19), (0, u "com/example/reset/reset/ClockAdvancePinLaw"), (0, u "agrees"), (0, u "(Lcom/example/reset/reset/Clock;J)Z"), (0, .methodref 7 21), (0, .nameAndType 22 23), (0, u "now"), (0, u "()D"), (0, .methodref 7 25), (0, .nameAndType 26 27), (0, u "until"), (0, u "(D)D"), (2, u "law"), (0, u "(JIII)Z")] 3

def k1m0 : Method := { name := "<init>", desc := "()V", sig := { parameters := [], returnType := none }, accessFlags := 1, code := none }
def k1c1 : Code := { maxStack := 6, maxLocals := 23, code := code, exceptionTable := #[], attributes := #[] }
def k1m1 : Method := { name := "law", desc := "(JIII)Z", sig := { parameters := [.long, .int, .int, .int], returnType := some .boolean }, accessFlags := 9, code := some k1c1 }
def k1c2 : Code := { maxStack := 4, maxLocals := 9, code := method_3_code, exceptionTable := #[], attributes := #[] }
def k1m2 : Method := { name := "agrees", desc := "(Lcom/example/reset/reset/Clock;J)Z", sig := { parameters := [(.object "com/example/reset/reset/Clock"), .long], returnType := some .boolean }, accessFlags := 10, code := some k1c2 }
/-- com/example/reset/reset/ClockAdvancePinLaw -/
def k1 : Class := { plain "com/example/reset/reset/ClockAdvancePinLaw" (some 0) with
  accessFlags := 49
  interfaces := #[]
  cf := some (fileOf pool1 15 #[] #[{ accessFlags := 1, nameIndex := 5, descriptorIndex := 6, attributes := #[] }, { accessFlags := 9, nameIndex := 30, descriptorIndex := 31, attributes := #[] }, { accessFlags := 10, nameIndex := 18, descriptorIndex := 19, attributes := #[] }] 49 2 #[] #[])
  fields := #[]
  methods := #[k1m0, k1m1, k1m2]
  instanceTypes := #[]
  staticTypes := #[]
  resolved := Array.replicate 35 none
  statics := none }

def pool2 : Array CpInfo := pool [(1, .methodref 2 3), (0, .class_ 4), (0, .nameAndType 5 6), (0, u "java/lang/Object"), (0, u "<init>"), (0, u "()V"), (0, .fieldref 8 9), (0, .class_ 10), (0, .nameAndType 11 12), (0, u "com/example/reset/reset/Clock"), (0, u "time"), (0, u "D"), (0, .fieldref 8 14), (0, .nameAndType 15 12), (0, u "lost"), (2, u "now"), (0, u "()D"), (1, u "(D)D"), (0, u "until"), (0, u "advance"), (0, u "(D)V")] 2

def k2c0 : Code := { maxStack := 1, maxLocals := 1, code := prog_2_method_1_code, exceptionTable := #[], attributes := #[] }
def k2m0 : Method := { name := "<init>", desc := "()V", sig := { parameters := [], returnType := none }, accessFlags := 0, code := some k2c0 }
def k2c1 : Code := { maxStack := 2, maxLocals := 1, code := prog_2_method_2_code, exceptionTable := #[], attributes := #[] }
def k2m1 : Method := { name := "now", desc := "()D", sig := { parameters := [], returnType := some .double }, accessFlags := 0, code := some k2c1 }
def k2c2 : Code := { maxStack := 4, maxLocals := 3, code := prog_2_method_4_code, exceptionTable := #[], attributes := #[] }
def k2m2 : Method := { name := "until", desc := "(D)D", sig := { parameters := [.double], returnType := some .double }, accessFlags := 0, code := some k2c2 }
def k2c3 : Code := { maxStack := 7, maxLocals := 9, code := prog_2_method_5_code, exceptionTable := #[], attributes := #[] }
def k2m3 : Method := { name := "advance", desc := "(D)V", sig := { parameters := [.double], returnType := none }, accessFlags := 0, code := some k2c3 }
/-- com/example/reset/reset/Clock -/
def k2 : Class := { plain "com/example/reset/reset/Clock" (some 0) with
  accessFlags := 32
  interfaces := #[]
  cf := some (fileOf pool2 8 #[] #[{ accessFlags := 0, nameIndex := 5, descriptorIndex := 6, attributes := #[] }, { accessFlags := 0, nameIndex := 18, descriptorIndex := 19, attributes := #[] }, { accessFlags := 0, nameIndex := 22, descriptorIndex := 21, attributes := #[] }, { accessFlags := 0, nameIndex := 23, descriptorIndex := 24, attributes := #[] }] 32 2 #[] #[{ accessFlags := 2, nameIndex := 11, descriptorIndex := 12, attributes := #[] }, { accessFlags := 2, nameIndex := 15, descriptorIndex := 12, attributes := #[] }])
  fields := #[{ name := "time", type := .double, accessFlags := 2, slot := 0, constantValue := 0 }, { name := "lost", type := .double, accessFlags := 2, slot := 1, constantValue := 0 }]
  methods := #[k2m0, k2m1, k2m2, k2m3]
  instanceTypes := #[.double, .double]
  staticTypes := #[]
  resolved := Array.replicate 27 none
  statics := none }

def pool3 : Array CpInfo := pool [(1, u "java/lang/Cloneable"), (0, .class_ 1), (0, u "java/lang/Object"), (0, .class_ 3)] 3

/-- java/lang/Cloneable -/
def k3 : Class := { plain "java/lang/Cloneable" (some 0) with
  accessFlags := 1537
  interfaces := #[]
  cf := some (fileOf pool3 2 #[] #[] 1537 4 #[] #[])
  fields := #[]
  methods := #[]
  instanceTypes := #[]
  staticTypes := #[]
  resolved := Array.replicate 8 none
  statics := none }

def pool4 : Array CpInfo := pool [(1, u "java/io/Serializable"), (0, .class_ 1), (0, u "java/lang/Object"), (0, .class_ 3)] 3

/-- java/io/Serializable -/
def k4 : Class := { plain "java/io/Serializable" (some 0) with
  accessFlags := 1537
  interfaces := #[]
  cf := some (fileOf pool4 2 #[] #[] 1537 4 #[] #[])
  fields := #[]
  methods := #[]
  instanceTypes := #[]
  staticTypes := #[]
  resolved := Array.replicate 8 none
  statics := none }

/-- the primitive byte -/
def k5 : Class := { plain "byte" none with kind := .primitive 'B', accessFlags := 0x411 }
/-- [B -/
def k6 : Class := { plain "[B" (some 0) with kind := .array 5 .byte, interfaces := #[3, 4], accessFlags := 1041 }

/-- the primitive int -/
def k7 : Class := { plain "int" none with kind := .primitive 'I', accessFlags := 0x411 }
/-- [I -/
def k8 : Class := { plain "[I" (some 0) with kind := .array 7 .int, interfaces := #[3, 4], accessFlags := 1041 }

def heap : Heap := #[]
def classes : Array Class := #[k0, k1, k2, k3, k4, k5, k6, k7, k8]
def interned : List (Array UInt16 × Addr) := []
def slotsUsed : Nat := 0
def theMethod : MethodId := ⟨1, 1⟩
def args0 : Array Value := #[.long 5, .int 2, .int 3, .int 4]
def aboutOver (below : List Frame) : State where
  vm := { classes := classes, interned := interned.toArray }
  heap := heap
  slotsUsed := slotsUsed
  threads := #[{ frames := .invoking theMethod args0 :: below }]
def below0 : List Frame := [.native { method := ⟨0, 0⟩, args := #[] }]
def about1 : State := aboutOver below0
def p0 : Program := .bare "" "" ""
def e0 : Env := launch0.env 0 0 0
theorem w_frames : about1.frames = Frame.invoking theMethod args0 :: below0 := rfl
set_option maxRecDepth 65536 in
theorem w_args : argsFit about1.vm theMethod args0 = true := by decide +kernel
set_option maxRecDepth 65536 in
theorem w_heap : heapFits about1 = true := by decide +kernel
set_option maxRecDepth 65536 in
theorem w_runnable : about1.curStatus? = some .runnable := by decide +kernel
set_option maxRecDepth 65536 in
theorem w_alone : about1.alone = true := by decide +kernel
set_option maxRecDepth 65536 in
theorem w_named : about1.methodNamed? x = some theMethod := by decide +kernel
set_option maxRecDepth 65536 in
theorem w_hears : about1.hears theMethod below0 = true := by decide +kernel
set_option maxRecDepth 65536 in
theorem w_ripe : about1.ripe theMethod args0 below0 = true := by decide +kernel
theorem w_running : about1.status = .running := rfl
set_option maxRecDepth 65536 in
theorem w_room : about1.hasRoom e0.platform room_1 = true :=
  launch0.hasRoom_least _ room_1 (by decide +kernel) (by decide +kernel) (by decide +kernel) (by decide +kernel) (by decide +kernel) (by decide +kernel)
theorem allAtoms_all (ts : List Jvm.Cond) (a : Array Jvm.Value) (st : Jvm.State) : (allAtoms ts).before a st = ts.all (fun c => c.before a st) := by
  induction ts with
  | nil => rfl
  | cons c t ih =>
    show (Jvm.Cond.and c (allAtoms t)).before a st = _
    rw [Jvm.Cond.before_and, ih, List.all_cons]
def words1 : List Jvm.Cond := Jvm.Cond.code x code maxLocals ret :: tables_1
/-- a 'code' word, met by the world's own term for the bytes: nothing is compared byte by byte -/
theorem code_word {y : MethodName} {bytes : ByteArray} {mx : Nat} {rt : Option FieldType} {a : Array Value} {s : State} {m : MethodId} {meth : Method} {c : Code} (h1 : s.methodNamed? y = some m) (h2 : s.vm.method? m = some meth) (h3 : meth.code = some c) (h4 : c.code = bytes)
    (h5 : (c.maxLocals == mx && c.exceptionTable.isEmpty && decide (c.maxStack ≤ mostOperands) && decide (meth.sig.returnType = rt) && !meth.locks && decide (parseMethodDescriptor y.desc = some meth.sig)) = true) : (Jvm.Cond.code y bytes mx rt).before a s = true := by
  simp only [Bool.and_eq_true, beq_iff_eq, Bool.not_eq_true', decide_eq_true_eq] at h5
  obtain ⟨⟨⟨⟨⟨g1, g2⟩, g3⟩, g4⟩, g5⟩, g6⟩ := h5
  simp [Cond.before, Cond.holds, Cond.value, h1, h2, h3, h4, g1, g2, g3, g4, g5, g6]
def isCode : Jvm.Cond → Bool
  | .code _ _ _ _ => true
  | _ => false
theorem all_split {L : List Jvm.Cond} {P : Jvm.Cond → Bool} (h1 : L.all (fun c => isCode c || P c) = true) (h2 : ∀ c ∈ L.filter isCode, P c = true) : L.all P = true := by
  refine List.all_eq_true.mpr fun c hc => ?_
  have h := List.all_eq_true.mp h1 c hc
  rcases Bool.eq_false_or_eq_true (isCode c) with hi | hi
  · exact h2 c (List.mem_filter.mpr ⟨hc, hi⟩)
  · simpa [hi] using h
set_option maxRecDepth 65536 in
theorem w_c0 : (Jvm.Cond.code x code maxLocals ret).before args0 about1 = true := code_word (m := ⟨1, 1⟩) (meth := k1m1) (c := k1c1) (by decide +kernel) rfl rfl rfl (by decide +kernel)
set_option maxRecDepth 65536 in
theorem w_c1 : (Jvm.Cond.code ({ cls := "com/example/reset/reset/Clock", name := "<init>", desc := "()V" } : Jvm.MethodName) prog_2_method_1_code (1 : Nat) (Option.none : Option Jvm.ClassFile.FieldType)).before args0 about1 = true := code_word (m := ⟨2, 0⟩) (meth := k2m0) (c := k2c0) (by decide +kernel) rfl rfl rfl (by decide +kernel)
set_option maxRecDepth 65536 in
theorem w_c2 : (Jvm.Cond.code ({ cls := "java/lang/Object", name := "<init>", desc := "()V" } : Jvm.MethodName) object_method_1_code (1 : Nat) (Option.none : Option Jvm.ClassFile.FieldType)).before args0 about1 = true := code_word (m := ⟨0, 0⟩) (meth := k0m0) (c := k0c0) (by decide +kernel) rfl rfl rfl (by decide +kernel)
set_option maxRecDepth 65536 in
theorem w_c3 : (Jvm.Cond.code ({ cls := "com/example/reset/reset/Clock", name := "advance", desc := "(D)V" } : Jvm.MethodName) prog_2_method_5_code (9 : Nat) (Option.none : Option Jvm.ClassFile.FieldType)).before args0 about1 = true := code_word (m := ⟨2, 3⟩) (meth := k2m3) (c := k2c3) (by decide +kernel) rfl rfl rfl (by decide +kernel)
set_option maxRecDepth 65536 in
theorem w_c4 : (Jvm.Cond.code ({ cls := "com/example/reset/reset/ClockAdvancePinLaw", name := "agrees", desc := "(Lcom/example/reset/reset/Clock;J)Z" } : Jvm.MethodName) method_3_code (9 : Nat) (Option.some Jvm.ClassFile.FieldType.boolean)).before args0 about1 = true := code_word (m := ⟨1, 2⟩) (meth := k1m2) (c := k1c2) (by decide +kernel) rfl rfl rfl (by decide +kernel)
set_option maxRecDepth 65536 in
theorem w_c5 : (Jvm.Cond.code ({ cls := "com/example/reset/reset/Clock", name := "now", desc := "()D" } : Jvm.MethodName) prog_2_method_2_code (1 : Nat) (Option.some Jvm.ClassFile.FieldType.double)).before args0 about1 = true := code_word (m := ⟨2, 1⟩) (meth := k2m1) (c := k2c1) (by decide +kernel) rfl rfl rfl (by decide +kernel)
set_option maxRecDepth 65536 in
theorem w_c6 : (Jvm.Cond.code ({ cls := "com/example/reset/reset/Clock", name := "until", desc := "(D)D" } : Jvm.MethodName) prog_2_method_4_code (3 : Nat) (Option.some Jvm.ClassFile.FieldType.double)).before args0 about1 = true := code_word (m := ⟨2, 2⟩) (meth := k2m2) (c := k2c2) (by decide +kernel) rfl rfl rfl (by decide +kernel)
def codes1 : List Jvm.Cond := [Jvm.Cond.code x code maxLocals ret, Jvm.Cond.code ({ cls := "com/example/reset/reset/Clock", name := "<init>", desc := "()V" } : Jvm.MethodName) prog_2_method_1_code (1 : Nat) (Option.none : Option Jvm.ClassFile.FieldType), Jvm.Cond.code ({ cls := "java/lang/Object", name := "<init>", desc := "()V" } : Jvm.MethodName) object_method_1_code (1 : Nat) (Option.none : Option Jvm.ClassFile.FieldType), Jvm.Cond.code ({ cls := "com/example/reset/reset/Clock", name := "advance", desc := "(D)V" } : Jvm.MethodName) prog_2_method_5_code (9 : Nat) (Option.none : Option Jvm.ClassFile.FieldType), Jvm.Cond.code ({ cls := "com/example/reset/reset/ClockAdvancePinLaw", name := "agrees", desc := "(Lcom/example/reset/reset/Clock;J)Z" } : Jvm.MethodName) method_3_code (9 : Nat) (Option.some Jvm.ClassFile.FieldType.boolean), Jvm.Cond.code ({ cls := "com/example/reset/reset/Clock", name := "now", desc := "()D" } : Jvm.MethodName) prog_2_method_2_code (1 : Nat) (Option.some Jvm.ClassFile.FieldType.double), Jvm.Cond.code ({ cls := "com/example/reset/reset/Clock", name := "until", desc := "(D)D" } : Jvm.MethodName) prog_2_method_4_code (3 : Nat) (Option.some Jvm.ClassFile.FieldType.double)]
set_option maxRecDepth 65536 in
theorem codes_eq : words1.filter isCode = codes1 := rfl
theorem w_codes : ∀ c ∈ words1.filter isCode, c.before args0 about1 = true := by
  rw [codes_eq]
  intro c hc
  simp only [codes1, List.mem_cons, List.not_mem_nil, or_false] at hc
  rcases hc with rfl | rfl | rfl | rfl | rfl | rfl | rfl
  · exact w_c0
  · exact w_c1
  · exact w_c2
  · exact w_c3
  · exact w_c4
  · exact w_c5
  · exact w_c6
set_option maxRecDepth 65536 in
theorem w_t1 : (words1.take 24).all (fun c => isCode c || c.before args0 about1) = true := by decide +kernel
set_option maxRecDepth 65536 in
theorem w_t2 : (words1.drop 24).all (fun c => isCode c || c.before args0 about1) = true := by decide +kernel
theorem w_tables : (allAtoms (Jvm.Cond.code x code maxLocals ret :: tables_1)).before args0 about1 = true := by
  rw [allAtoms_all]
  show words1.all (fun c => c.before args0 about1) = true
  refine all_split ?_ w_codes
  rw [← List.take_append_drop 24 words1, List.all_append, w_t1, w_t2]
  rfl
set_option maxRecDepth 65536 in
theorem w_case : (Jvm.Cond.and given_1 narrow_1).before args0 about1 = true := by decide +kernel
theorem w_applies : (headSpec (Jvm.Cond.code x code maxLocals ret :: tables_1) room_1).applies x e0.platform about1 = true :=
  (Spec.applies_iff w_frames).mpr ⟨w_running, w_runnable, w_alone, w_named, w_hears, w_ripe, w_room, w_tables⟩
theorem atStart : AtStart classFile x code maxLocals ret World_1 tables_1 room_1 Calls_1 rest_1 Pre_1 launch0 p0 e0 about1 theMethod args0 below0 :=
  ⟨lists_1, trivial, launch0.admits_env _ _ _, launch0.least_env, fairChoices_fair.cas, fairChoices_fair.clock, w_frames, w_args, w_heap, w_applies, trivial, trivial, w_case⟩
end start1
theorem witness_1 : WitnessClaimed_1 := ⟨start1.p0, start1.e0, start1.about1, start1.theMethod, start1.args0, start1.below0, start1.atStart⟩
end Jvm.Pilot.@@N@@
