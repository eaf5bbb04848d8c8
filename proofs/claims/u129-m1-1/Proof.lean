import JvmDerived
import JvmDerived.Pilot.@@N@@Statement
import JvmDerived.Pilot.@@N@@Code
set_option linter.unusedVariables false
set_option linter.unusedSimpArgs false
namespace Jvm.RoadKit
open Sem ClassFile Op Lib Jvm.Stand Jvm.Free Jvm.LawKit
section New
variable {p : Program} {l : Launch} {e : Env} {R : Room} {s : State} {m : MethodId} {args : Array Value} {below : List Frame} {meth : Method} {c : Code} {T : State} {locs : List Loc} {cells slots : Nat}
theorem retI (X : Stand p l e R s m args below meth c T locs cells slots) (hx : p.tables.exec = Jvm.exec) {pc : Nat} {Ls : Array Slot} {z : Int32} {rest : List Value} (hret : meth.sig.returnType = some .int) (hd : decode c.code pc = .ok (.ireturn, 1)) {fs : List Frame}
    (hl : ∀ (f : JFrame) (acts : List Action), f.method = m → f.locked = none → f.entered = [] → (doReturn e (T.setTop f) acts (some (.int z))).1 = T.setFrames fs) : Steps p.tables e below (T.setTop (mkF m pc Ls (.int z :: rest))) (T.setFrames fs) := by
  have hm' : T.vm.method? m = some meth := X.method'
  have hn : narrow .int (.int z) = .int z := rfl
  show Steps p.tables e below (T.setTop { method := m, pc := pc, locals := Ls, stack := _ :: rest, locked := none }) _
  jvm_step X.here [X.here.top, hx, hd, hm', hret, hn]
  first | (intro acts; rw [hl _ acts rfl rfl rfl]) | rw [hl _ _ rfl rfl rfl]
  exact Steps.refl _
end New
end Jvm.RoadKit
namespace Jvm.Pilot.@@N@@
open Jvm Jvm.ClassFile Sem Op Lib Jvm.Free Jvm.Stand Jvm.LawKit Jvm.RoadKit Bundle Jvm.Pilot.@@N@@.Jvm.D
def own_isD (V d : Nat) : Prop := 1 ≤ d ∧ d ≤ 19 ∧ V < 10 ^ d ∧ (d = 1 ∨ 10 ^ (d - 1) ≤ V)
theorem own_hasD (V : Nat) (h : V < 10 ^ 19) : ∃ d, own_isD V d := by
  have key : ∀ k, k ≤ 18 → V < 10 ^ (k + 1) → ∃ d, own_isD V d := by
    intro k
    induction k with
    | zero => intro _ h; exact ⟨1, by omega, by omega, h, Or.inl rfl⟩
    | succ k ih =>
      intro hk h
      by_cases q : V < 10 ^ (k + 1)
      · exact ih (by omega) q
      · exact ⟨k + 2, by omega, by omega, h, Or.inr (by show 10 ^ (k + 1) ≤ V; omega)⟩
  exact key 18 (by omega) h
theorem own_lo {V d k : Nat} (h : own_isD V d) (hk : k < d) (h0 : 0 < k ∨ 0 < V) : 10 ^ k ≤ V := by
  obtain ⟨h1, h2, h3, h4⟩ := h
  rcases h4 with rfl | h4
  · have : k = 0 := by omega
    subst this; simp; omega
  · exact Nat.le_trans (Nat.pow_le_pow_right (by decide) (by omega)) h4
theorem own_hi {V d k : Nat} (h : own_isD V d) (hk : d ≤ k) : V < 10 ^ k := Nat.lt_of_lt_of_le h.2.2.1 (Nat.pow_le_pow_right (by decide) hk)
def own_tm (v c : Int64) : Int32 := if (lcmpW v c) < (0 : Int32) then (0 : Int32) else (1 : Int32)
theorem own_term {v c : Int64} {V d k : Nat} (hv : v.toInt = (V : Int)) (hc : c.toInt = ((10 ^ k : Nat) : Int)) (hD : own_isD V d) (hk : 0 < k) : own_tm v c = if k < d then (1 : Int32) else (0 : Int32) := by
  unfold own_tm
  by_cases q : k < d
  · have := own_lo hD q (Or.inl hk)
    rw [if_pos q, if_neg (fun z => by have := (lw_lt v c).mp z; rw [Int64.lt_iff_toInt_lt] at this; omega)]
  · have := own_hi hD (Nat.le_of_not_lt q)
    rw [if_neg q, if_pos ((lw_lt v c).mpr (by rw [Int64.lt_iff_toInt_lt]; omega))]
def own_cell (V A d t i : Nat) : Int32 := if A + d ≤ i + t ∧ i < A + d then Int32.ofNat (48 + V / 10 ^ (A + d - 1 - i) % 10) else (0 : Int32)
def own_vs (V A d t : Nat) : List Value := (List.range 24).map fun i => .int (own_cell V A d t i)
theorem own_vs0 (V A d : Nat) : own_vs V A d 0 = List.replicate 24 (.int (0 : Int32)) := by
  have : own_vs V A d 0 = (List.range 24).map fun _ => (.int (0 : Int32) : Value) := by
    unfold own_vs
    apply List.map_congr_left
    intro i hi
    unfold own_cell
    rw [if_neg (by omega)]
  rw [this]; rfl
theorem own_vsat (V A d t i : Nat) (hi : i < 24) : (own_vs V A d t).getD i (.int (0 : Int32)) = .int (own_cell V A d t i) := by
  unfold own_vs
  rw [List.getD_eq_getElem?_getD, List.getElem?_map, List.getElem?_range hi]; rfl
theorem own_vslen (V A d t : Nat) : (own_vs V A d t).length = 24 := by unfold own_vs; rw [List.length_map, List.length_range]
theorem own_vsset (V A d t : Nat) (ht : t < d) (hA : A + d ≤ 24) : (own_vs V A d t).set (A + d - 1 - t) (.int (Int32.ofNat (48 + V / 10 ^ t % 10))) = own_vs V A d (t + 1) := by
  unfold own_vs
  apply List.ext_getElem?
  intro i
  rw [List.getElem?_set, List.getElem?_map, List.getElem?_map, List.length_map, List.length_range]
  by_cases h : i < 24
  · rw [List.getElem?_range h]
    by_cases e : A + d - 1 - t = i
    · rw [if_pos e, if_pos (by omega)]
      simp only [Option.map_some, own_cell]
      rw [if_pos (by omega), show A + d - 1 - i = t by omega]
    · rw [if_neg e]
      simp only [Option.map_some, own_cell]
      by_cases q : A + d ≤ i + t ∧ i < A + d
      · rw [if_pos q, if_pos (by omega)]
      · rw [if_neg q, if_neg (by omega)]
  · rw [if_neg (by omega), List.getElem?_eq_none (by rw [List.length_range]; omega)]
    rfl
theorem own_div10 {q : Int64} {n : Nat} (hq : q.toInt = (n : Int)) : (q / (10 : Int64)).toInt = ((n / 10 : Nat) : Int) := by
  have h := (c_ldiv q 10 10 rfl (by decide)).1 (by omega)
  rw [h, hq]; omega
theorem own_ten (V t : Nat) : V / 10 ^ t / 10 = V / 10 ^ (t + 1) := by rw [Nat.div_div_eq_div_mul, Nat.pow_succ]
theorem own_chr {q : Int64} {n : Nat} (hq : q.toInt = (n : Int)) : (((48 : Int64) + (q - (q / (10 : Int64)) * (10 : Int64))).toInt32).toUInt32.toUInt16.toUInt32.toInt32 = Int32.ofNat (48 + n % 10) := by
  have h1 := (c_lrem q 10 10 rfl).1 (by omega)
  have h2 := c_ladd 48 (q - (q / (10 : Int64)) * (10 : Int64))
  have r2 := rng64 (48 + (q - (q / (10 : Int64)) * (10 : Int64)))
  have h3 := c_l2i (48 + (q - (q / (10 : Int64)) * (10 : Int64)))
  have r3 := rng32 (48 + (q - (q / (10 : Int64)) * (10 : Int64))).toInt32
  have h4 := c_i2c (48 + (q - (q / (10 : Int64)) * (10 : Int64))).toInt32
  have e48 : (48 : Int64).toInt = 48 := rfl
  apply Int32.toInt_inj.mp
  rw [Int32.toInt_ofNat_small (by omega)]
  omega
theorem own_nch (n : Nat) : nar .char (Int32.ofNat (48 + n % 10)) = Int32.ofNat (48 + n % 10) := by
  show (Int32.ofNat (48 + n % 10)).toUInt32.toUInt16.toUInt32.toInt32 = _
  have h4 := c_i2c (Int32.ofNat (48 + n % 10))
  have e : (Int32.ofNat (48 + n % 10)).toInt = ((48 + n % 10 : Nat) : Int) := Int32.toInt_ofNat_small (by omega)
  apply Int32.toInt_inj.mp
  omega
def own_p10 (k : Nat) : Int64 := ([1, 10, 100, 1000, 10000, 100000, 1000000, 10000000, 100000000, 1000000000, 10000000000, 100000000000, 1000000000000, 10000000000000, 100000000000000, 1000000000000000, 10000000000000000, 100000000000000000, 1000000000000000000] : List Int64).getD k 0
theorem own_p10v : ∀ k : Fin 19, (own_p10 k.val).toInt = ((10 ^ k.val : Nat) : Int) := by decide
theorem own_p10n (k : Nat) (hk : k ≤ 18) : (own_p10 k).toInt = ((10 ^ k : Nat) : Int) ∧ own_p10 k ≠ 0 ∧ own_p10 k ≠ -1 := by
  have e := own_p10v ⟨k, by omega⟩
  have p : 0 < 10 ^ k := Nat.pow_pos (by decide)
  refine ⟨e, fun q => ?_, fun q => ?_⟩
  · rw [show own_p10 (⟨k, by omega⟩ : Fin 19).val = own_p10 k from rfl, q] at e; have z : (0 : Int64).toInt = 0 := rfl; have : ((⟨k, by omega⟩ : Fin 19).val) = k := rfl; rw [this] at e; omega
  · rw [show own_p10 (⟨k, by omega⟩ : Fin 19).val = own_p10 k from rfl, q] at e; have z : (-1 : Int64).toInt = -1 := rfl; have : ((⟨k, by omega⟩ : Fin 19).val) = k := rfl; rw [this] at e; omega
theorem own_divp {v : Int64} {V k : Nat} (hv : v.toInt = (V : Int)) (hk : k ≤ 18) : (v / own_p10 k).toInt = ((V / 10 ^ k : Nat) : Int) := by
  obtain ⟨e, -, n1⟩ := own_p10n k hk
  have h := (c_ldiv v (own_p10 k) ((10 ^ k : Nat) : Int) e n1).1 (by omega)
  rw [h, hv]; exact (Int.natCast_ediv _ _).symm
theorem own_clamp {j : Int32} {n : Nat} (h : j.toInt = (n : Int)) : j.toNatClampNeg = n := by simp only [Int32.toNatClampNeg]; omega
theorem own_i64z {q : Int64} (h : q.toInt = ((0 : Nat) : Int)) : q = 0 := Int64.toInt_inj.mp (h.trans rfl)
theorem own_gt0 {q : Int64} {n : Nat} (h : q.toInt = (n : Int)) (hn : 0 < n) : (0 : Int32) < lcmpW q (0 : Int64) := (lw_gt q 0).mpr (by rw [Int64.lt_iff_toInt_lt]; have : (0 : Int64).toInt = 0 := rfl; omega)
theorem own_suc (i : Nat) (h : i < 1000) : Int32.ofNat i + (1 : Int32) = Int32.ofNat (i + 1) := by
  have a := c_iadd (Int32.ofNat i) 1
  have r := rng32 (Int32.ofNat i + 1)
  have e : (Int32.ofNat i).toInt = (i : Int) := Int32.toInt_ofNat_small (by omega)
  have e2 : (Int32.ofNat (i + 1)).toInt = ((i + 1 : Nat) : Int) := Int32.toInt_ofNat_small (by omega)
  have e1 : (1 : Int32).toInt = 1 := rfl
  apply Int32.toInt_inj.mp; omega
theorem own_nn (x : Int64) (z : UInt64) : 0 ≤ (((x &&& (9223372036854775807 : Int64)).toUInt64 >>> z).toInt64).toInt := by
  show 0 ≤ ((x &&& (9223372036854775807 : Int64)).toUInt64 >>> z).toBitVec.toInt
  rw [UInt64.toBitVec_shiftRight, BitVec.ushiftRight_eq']
  have h1 : ((x &&& (9223372036854775807 : Int64)).toUInt64.toBitVec).toNat < 2 ^ 63 := by
    show ((x &&& (9223372036854775807 : Int64)).toBitVec).toNat < 2 ^ 63
    rw [Int64.toBitVec_and, BitVec.toNat_and]
    exact Nat.lt_of_le_of_lt Nat.and_le_right (by decide)
  have h2 : (((x &&& (9223372036854775807 : Int64)).toUInt64.toBitVec) >>> (z.toBitVec % 64).toNat).toNat < 2 ^ 63 := by
    rw [BitVec.toNat_ushiftRight]
    exact Nat.lt_of_le_of_lt (Nat.shiftRight_le _ _) h1
  rw [BitVec.toInt_eq_toNat_of_lt (by omega)]
  omega
def own_d1 (v : Int64) : Int32 := (1 : Int32) + own_tm v (10 : Int64)
def own_d2 (v : Int64) : Int32 := own_d1 v + own_tm v (100 : Int64)
def own_d3 (v : Int64) : Int32 := own_d2 v + own_tm v (1000 : Int64)
def own_d4 (v : Int64) : Int32 := own_d3 v + own_tm v (10000 : Int64)
def own_d5 (v : Int64) : Int32 := own_d4 v + own_tm v (100000 : Int64)
def own_d6 (v : Int64) : Int32 := own_d5 v + own_tm v (1000000 : Int64)
def own_d7 (v : Int64) : Int32 := own_d6 v + own_tm v (10000000 : Int64)
def own_d8 (v : Int64) : Int32 := own_d7 v + own_tm v (100000000 : Int64)
def own_d9 (v : Int64) : Int32 := own_d8 v + own_tm v (1000000000 : Int64)
def own_d10 (v : Int64) : Int32 := own_d9 v + own_tm v (10000000000 : Int64)
def own_d11 (v : Int64) : Int32 := own_d10 v + own_tm v (100000000000 : Int64)
def own_d12 (v : Int64) : Int32 := own_d11 v + own_tm v (1000000000000 : Int64)
def own_d13 (v : Int64) : Int32 := own_d12 v + own_tm v (10000000000000 : Int64)
def own_d14 (v : Int64) : Int32 := own_d13 v + own_tm v (100000000000000 : Int64)
def own_d15 (v : Int64) : Int32 := own_d14 v + own_tm v (1000000000000000 : Int64)
def own_d16 (v : Int64) : Int32 := own_d15 v + own_tm v (10000000000000000 : Int64)
def own_d17 (v : Int64) : Int32 := own_d16 v + own_tm v (100000000000000000 : Int64)
def own_d18 (v : Int64) : Int32 := own_d17 v + own_tm v (1000000000000000000 : Int64)
theorem own_sum : ∀ d : Fin 20, 1 ≤ d.val → (((((((((((((((((((1 : Int32) + (if 1 < d.val then (1 : Int32) else (0 : Int32))) + (if 2 < d.val then (1 : Int32) else (0 : Int32))) + (if 3 < d.val then (1 : Int32) else (0 : Int32))) + (if 4 < d.val then (1 : Int32) else (0 : Int32))) + (if 5 < d.val then (1 : Int32) else (0 : Int32))) + (if 6 < d.val then (1 : Int32) else (0 : Int32))) + (if 7 < d.val then (1 : Int32) else (0 : Int32))) + (if 8 < d.val then (1 : Int32) else (0 : Int32))) + (if 9 < d.val then (1 : Int32) else (0 : Int32))) + (if 10 < d.val then (1 : Int32) else (0 : Int32))) + (if 11 < d.val then (1 : Int32) else (0 : Int32))) + (if 12 < d.val then (1 : Int32) else (0 : Int32))) + (if 13 < d.val then (1 : Int32) else (0 : Int32))) + (if 14 < d.val then (1 : Int32) else (0 : Int32))) + (if 15 < d.val then (1 : Int32) else (0 : Int32))) + (if 16 < d.val then (1 : Int32) else (0 : Int32))) + (if 17 < d.val then (1 : Int32) else (0 : Int32))) + (if 18 < d.val then (1 : Int32) else (0 : Int32))) = Int32.ofNat d.val := by decide
theorem own_digs {v : Int64} {V d : Nat} (hv : v.toInt = (V : Int)) (hD : own_isD V d) : own_d18 v = Int32.ofNat d := by
  show (((((((((((((((((((1 : Int32) + (own_tm v (10 : Int64))) + (own_tm v (100 : Int64))) + (own_tm v (1000 : Int64))) + (own_tm v (10000 : Int64))) + (own_tm v (100000 : Int64))) + (own_tm v (1000000 : Int64))) + (own_tm v (10000000 : Int64))) + (own_tm v (100000000 : Int64))) + (own_tm v (1000000000 : Int64))) + (own_tm v (10000000000 : Int64))) + (own_tm v (100000000000 : Int64))) + (own_tm v (1000000000000 : Int64))) + (own_tm v (10000000000000 : Int64))) + (own_tm v (100000000000000 : Int64))) + (own_tm v (1000000000000000 : Int64))) + (own_tm v (10000000000000000 : Int64))) + (own_tm v (100000000000000000 : Int64))) + (own_tm v (1000000000000000000 : Int64))) = _
  rw [own_term (k := 1) hv (by decide) hD (by decide), own_term (k := 2) hv (by decide) hD (by decide), own_term (k := 3) hv (by decide) hD (by decide), own_term (k := 4) hv (by decide) hD (by decide), own_term (k := 5) hv (by decide) hD (by decide), own_term (k := 6) hv (by decide) hD (by decide), own_term (k := 7) hv (by decide) hD (by decide), own_term (k := 8) hv (by decide) hD (by decide), own_term (k := 9) hv (by decide) hD (by decide), own_term (k := 10) hv (by decide) hD (by decide), own_term (k := 11) hv (by decide) hD (by decide), own_term (k := 12) hv (by decide) hD (by decide), own_term (k := 13) hv (by decide) hD (by decide), own_term (k := 14) hv (by decide) hD (by decide), own_term (k := 15) hv (by decide) hD (by decide), own_term (k := 16) hv (by decide) hD (by decide), own_term (k := 17) hv (by decide) hD (by decide), own_term (k := 18) hv (by decide) hD (by decide)]
  exact own_sum ⟨d, by have := hD.2.1; omega⟩ hD.1
theorem own_pl (k : Nat) (hk : k ≤ 18) : ([(.long (1 : Int64)), (.long (10 : Int64)), (.long (100 : Int64)), (.long (1000 : Int64)), (.long (10000 : Int64)), (.long (100000 : Int64)), (.long (1000000 : Int64)), (.long (10000000 : Int64)), (.long (100000000 : Int64)), (.long (1000000000 : Int64)), (.long (10000000000 : Int64)), (.long (100000000000 : Int64)), (.long (1000000000000 : Int64)), (.long (10000000000000 : Int64)), (.long (100000000000000 : Int64)), (.long (1000000000000000 : Int64)), (.long (10000000000000000 : Int64)), (.long (100000000000000000 : Int64)), (.long (1000000000000000000 : Int64))] : List Value).getD k (.long (0 : Int64)) = .long (own_p10 k) := by
  match k, hk with
  | 0, _ => rfl
  | 1, _ => rfl
  | 2, _ => rfl
  | 3, _ => rfl
  | 4, _ => rfl
  | 5, _ => rfl
  | 6, _ => rfl
  | 7, _ => rfl
  | 8, _ => rfl
  | 9, _ => rfl
  | 10, _ => rfl
  | 11, _ => rfl
  | 12, _ => rfl
  | 13, _ => rfl
  | 14, _ => rfl
  | 15, _ => rfl
  | 16, _ => rfl
  | 17, _ => rfl
  | 18, _ => rfl
  | n + 19, h => exact absurd h (by omega)
theorem own_last {a3 ix : Int32} {A d : Nat} (hA : a3.toInt = (A : Int)) (hA3 : A ≤ 3) (hix : ix.toInt = (A : Int) + d - 1 - d) : ix = a3 - (1 : Int32) := by
  have a := c_isub a3 1
  have r := rng32 (a3 - 1)
  have e1 : (1 : Int32).toInt = 1 := rfl
  apply Int32.toInt_inj.mp; omega
theorem own_lt1 {a3 : Int32} {A : Nat} (hA : a3.toInt = (A : Int)) (hA3 : A ≤ 3) : (a3 - (1 : Int32)) < a3 := by
  have a := c_isub a3 1
  have r := rng32 (a3 - 1)
  have e1 : (1 : Int32).toInt = 1 := rfl
  rw [Int32.lt_iff_toInt_lt]; omega
theorem own_dec {ix : Int32} {A d t : Nat} (hix : ix.toInt = (A : Int) + d - 1 - t) (hk : t < d) : (ix + (-1 : Int32)).toInt = (A : Int) + d - 1 - (t + 1 : Nat) := by
  have a := c_iadd ix (-1)
  have r := rng32 (ix + (-1))
  have r0 := rng32 ix
  have e1 : (-1 : Int32).toInt = -1 := rfl
  omega
theorem own_first {a3 : Int32} {A d : Nat} (hA : a3.toInt = (A : Int)) (hA3 : A ≤ 3) (h1 : 1 ≤ d) (h19 : d ≤ 19) : ((a3 + (Int32.ofNat d)) - (1 : Int32)).toInt = (A : Int) + d - 1 - (0 : Nat) := by
  have e : (Int32.ofNat d).toInt = (d : Int) := Int32.toInt_ofNat_small (by omega)
  have a := c_iadd a3 (Int32.ofNat d)
  have r := rng32 (a3 + Int32.ofNat d)
  have b := c_isub (a3 + Int32.ofNat d) 1
  have r2 := rng32 (a3 + Int32.ofNat d - 1)
  have e1 : (1 : Int32).toInt = 1 := rfl
  omega
theorem own_sum2 {a3 nn : Int32} {A d : Nat} (hA : a3.toInt = (A : Int)) (hA3 : A ≤ 3) (hnn : nn.toInt = (d : Int)) (h19 : d ≤ 19) : (a3 + nn).toInt = (A : Int) + d := by
  have a := c_iadd a3 nn
  have r := rng32 (a3 + nn)
  omega
theorem own_ex {a3 nn ii : Int32} {A d I0 : Nat} (hA : a3.toInt = (A : Int)) (hA3 : A ≤ 3) (hnn : nn.toInt = (d : Int)) (h1 : 1 ≤ d) (h19 : d ≤ 19) (hii : ii.toInt = (I0 : Int)) (hI : I0 < 24) (hlo : A ≤ I0) (hhi : I0 < A + d) : ((nn - (1 : Int32)) - (ii - a3)).toInt = ((A + d - 1 - I0 : Nat) : Int) := by
  have a := c_isub nn 1
  have ra := rng32 (nn - 1)
  have b := c_isub ii a3
  have rb := rng32 (ii - a3)
  have f := c_isub (nn - 1) (ii - a3)
  have rf := rng32 (nn - 1 - (ii - a3))
  have e1 : (1 : Int32).toInt = 1 := rfl
  omega
theorem ef2 (m : MethodId) (x0 : Int64) : entryFrame m #[(.long x0)] 2 = mkF m 0 #[.val (.long x0), .second] [] := by first | (simp [entryFrame, mkF, argsToLocals, Value.category]; done) | rfl
theorem pn_0 : plainName "com/example/reset/reset/DecimalWriteWholePinLaw" = true := by first | (simp [plainName, overriddenIn]; done) | decide +kernel
theorem d2_0 : decode method_3_code 0 = .ok (.iconst 1, 1) := by decide +kernel
theorem d2_1 : decode method_3_code 1 = .ok (.lload_n 0, 1) := by decide +kernel
theorem d2_2 : decode method_3_code 2 = .ok (.ldc2_w 27, 3) := by decide +kernel
theorem d2_5 : decode method_3_code 5 = .ok (.lcmp, 1) := by decide +kernel
theorem d2_6 : decode method_3_code 6 = .ok (.ifCond .lt 7, 3) := by decide +kernel
theorem d2_13 : decode method_3_code 13 = .ok (.iconst 0, 1) := by decide +kernel
theorem d2_9 : decode method_3_code 9 = .ok (.iconst 1, 1) := by decide +kernel
theorem d2_10 : decode method_3_code 10 = .ok (.goto 4, 3) := by decide +kernel
theorem d2_14 : decode method_3_code 14 = .ok (.iadd, 1) := by decide +kernel
theorem d2_15 : decode method_3_code 15 = .ok (.lload_n 0, 1) := by decide +kernel
theorem d2_16 : decode method_3_code 16 = .ok (.ldc2_w 29, 3) := by decide +kernel
theorem d2_19 : decode method_3_code 19 = .ok (.lcmp, 1) := by decide +kernel
theorem d2_20 : decode method_3_code 20 = .ok (.ifCond .lt 7, 3) := by decide +kernel
theorem d2_27 : decode method_3_code 27 = .ok (.iconst 0, 1) := by decide +kernel
theorem d2_23 : decode method_3_code 23 = .ok (.iconst 1, 1) := by decide +kernel
theorem d2_24 : decode method_3_code 24 = .ok (.goto 4, 3) := by decide +kernel
theorem d2_28 : decode method_3_code 28 = .ok (.iadd, 1) := by decide +kernel
theorem d2_29 : decode method_3_code 29 = .ok (.lload_n 0, 1) := by decide +kernel
theorem d2_30 : decode method_3_code 30 = .ok (.ldc2_w 31, 3) := by decide +kernel
theorem d2_33 : decode method_3_code 33 = .ok (.lcmp, 1) := by decide +kernel
theorem d2_34 : decode method_3_code 34 = .ok (.ifCond .lt 7, 3) := by decide +kernel
theorem d2_41 : decode method_3_code 41 = .ok (.iconst 0, 1) := by decide +kernel
theorem d2_37 : decode method_3_code 37 = .ok (.iconst 1, 1) := by decide +kernel
theorem d2_38 : decode method_3_code 38 = .ok (.goto 4, 3) := by decide +kernel
theorem d2_42 : decode method_3_code 42 = .ok (.iadd, 1) := by decide +kernel
theorem d2_43 : decode method_3_code 43 = .ok (.lload_n 0, 1) := by decide +kernel
theorem d2_44 : decode method_3_code 44 = .ok (.ldc2_w 33, 3) := by decide +kernel
theorem d2_47 : decode method_3_code 47 = .ok (.lcmp, 1) := by decide +kernel
theorem d2_48 : decode method_3_code 48 = .ok (.ifCond .lt 7, 3) := by decide +kernel
theorem d2_55 : decode method_3_code 55 = .ok (.iconst 0, 1) := by decide +kernel
theorem d2_51 : decode method_3_code 51 = .ok (.iconst 1, 1) := by decide +kernel
theorem d2_52 : decode method_3_code 52 = .ok (.goto 4, 3) := by decide +kernel
theorem d2_56 : decode method_3_code 56 = .ok (.iadd, 1) := by decide +kernel
theorem d2_57 : decode method_3_code 57 = .ok (.lload_n 0, 1) := by decide +kernel
theorem d2_58 : decode method_3_code 58 = .ok (.ldc2_w 35, 3) := by decide +kernel
theorem d2_61 : decode method_3_code 61 = .ok (.lcmp, 1) := by decide +kernel
theorem d2_62 : decode method_3_code 62 = .ok (.ifCond .lt 7, 3) := by decide +kernel
theorem d2_69 : decode method_3_code 69 = .ok (.iconst 0, 1) := by decide +kernel
theorem d2_65 : decode method_3_code 65 = .ok (.iconst 1, 1) := by decide +kernel
theorem d2_66 : decode method_3_code 66 = .ok (.goto 4, 3) := by decide +kernel
theorem d2_70 : decode method_3_code 70 = .ok (.iadd, 1) := by decide +kernel
theorem d2_71 : decode method_3_code 71 = .ok (.lload_n 0, 1) := by decide +kernel
theorem d2_72 : decode method_3_code 72 = .ok (.ldc2_w 37, 3) := by decide +kernel
theorem d2_75 : decode method_3_code 75 = .ok (.lcmp, 1) := by decide +kernel
theorem d2_76 : decode method_3_code 76 = .ok (.ifCond .lt 7, 3) := by decide +kernel
theorem d2_83 : decode method_3_code 83 = .ok (.iconst 0, 1) := by decide +kernel
theorem d2_79 : decode method_3_code 79 = .ok (.iconst 1, 1) := by decide +kernel
theorem d2_80 : decode method_3_code 80 = .ok (.goto 4, 3) := by decide +kernel
theorem d2_84 : decode method_3_code 84 = .ok (.iadd, 1) := by decide +kernel
theorem d2_85 : decode method_3_code 85 = .ok (.lload_n 0, 1) := by decide +kernel
theorem d2_86 : decode method_3_code 86 = .ok (.ldc2_w 39, 3) := by decide +kernel
theorem d2_89 : decode method_3_code 89 = .ok (.lcmp, 1) := by decide +kernel
theorem d2_90 : decode method_3_code 90 = .ok (.ifCond .lt 7, 3) := by decide +kernel
theorem d2_97 : decode method_3_code 97 = .ok (.iconst 0, 1) := by decide +kernel
theorem d2_93 : decode method_3_code 93 = .ok (.iconst 1, 1) := by decide +kernel
theorem d2_94 : decode method_3_code 94 = .ok (.goto 4, 3) := by decide +kernel
theorem d2_98 : decode method_3_code 98 = .ok (.iadd, 1) := by decide +kernel
theorem d2_99 : decode method_3_code 99 = .ok (.lload_n 0, 1) := by decide +kernel
theorem d2_100 : decode method_3_code 100 = .ok (.ldc2_w 41, 3) := by decide +kernel
theorem d2_103 : decode method_3_code 103 = .ok (.lcmp, 1) := by decide +kernel
theorem d2_104 : decode method_3_code 104 = .ok (.ifCond .lt 7, 3) := by decide +kernel
theorem d2_111 : decode method_3_code 111 = .ok (.iconst 0, 1) := by decide +kernel
theorem d2_107 : decode method_3_code 107 = .ok (.iconst 1, 1) := by decide +kernel
theorem d2_108 : decode method_3_code 108 = .ok (.goto 4, 3) := by decide +kernel
theorem d2_112 : decode method_3_code 112 = .ok (.iadd, 1) := by decide +kernel
theorem d2_113 : decode method_3_code 113 = .ok (.lload_n 0, 1) := by decide +kernel
theorem d2_114 : decode method_3_code 114 = .ok (.ldc2_w 43, 3) := by decide +kernel
theorem d2_117 : decode method_3_code 117 = .ok (.lcmp, 1) := by decide +kernel
theorem d2_118 : decode method_3_code 118 = .ok (.ifCond .lt 7, 3) := by decide +kernel
theorem d2_125 : decode method_3_code 125 = .ok (.iconst 0, 1) := by decide +kernel
theorem d2_121 : decode method_3_code 121 = .ok (.iconst 1, 1) := by decide +kernel
theorem d2_122 : decode method_3_code 122 = .ok (.goto 4, 3) := by decide +kernel
theorem d2_126 : decode method_3_code 126 = .ok (.iadd, 1) := by decide +kernel
theorem d2_127 : decode method_3_code 127 = .ok (.lload_n 0, 1) := by decide +kernel
theorem d2_128 : decode method_3_code 128 = .ok (.ldc2_w 45, 3) := by decide +kernel
theorem d2_131 : decode method_3_code 131 = .ok (.lcmp, 1) := by decide +kernel
theorem d2_132 : decode method_3_code 132 = .ok (.ifCond .lt 7, 3) := by decide +kernel
theorem d2_139 : decode method_3_code 139 = .ok (.iconst 0, 1) := by decide +kernel
theorem d2_135 : decode method_3_code 135 = .ok (.iconst 1, 1) := by decide +kernel
theorem d2_136 : decode method_3_code 136 = .ok (.goto 4, 3) := by decide +kernel
theorem d2_140 : decode method_3_code 140 = .ok (.iadd, 1) := by decide +kernel
theorem d2_141 : decode method_3_code 141 = .ok (.lload_n 0, 1) := by decide +kernel
theorem d2_142 : decode method_3_code 142 = .ok (.ldc2_w 47, 3) := by decide +kernel
theorem d2_145 : decode method_3_code 145 = .ok (.lcmp, 1) := by decide +kernel
theorem d2_146 : decode method_3_code 146 = .ok (.ifCond .lt 7, 3) := by decide +kernel
theorem d2_153 : decode method_3_code 153 = .ok (.iconst 0, 1) := by decide +kernel
theorem d2_149 : decode method_3_code 149 = .ok (.iconst 1, 1) := by decide +kernel
theorem d2_150 : decode method_3_code 150 = .ok (.goto 4, 3) := by decide +kernel
theorem d2_154 : decode method_3_code 154 = .ok (.iadd, 1) := by decide +kernel
theorem d2_155 : decode method_3_code 155 = .ok (.lload_n 0, 1) := by decide +kernel
theorem d2_156 : decode method_3_code 156 = .ok (.ldc2_w 49, 3) := by decide +kernel
theorem d2_159 : decode method_3_code 159 = .ok (.lcmp, 1) := by decide +kernel
theorem d2_160 : decode method_3_code 160 = .ok (.ifCond .lt 7, 3) := by decide +kernel
theorem d2_167 : decode method_3_code 167 = .ok (.iconst 0, 1) := by decide +kernel
theorem d2_163 : decode method_3_code 163 = .ok (.iconst 1, 1) := by decide +kernel
theorem d2_164 : decode method_3_code 164 = .ok (.goto 4, 3) := by decide +kernel
theorem d2_168 : decode method_3_code 168 = .ok (.iadd, 1) := by decide +kernel
theorem d2_169 : decode method_3_code 169 = .ok (.lload_n 0, 1) := by decide +kernel
theorem d2_170 : decode method_3_code 170 = .ok (.ldc2_w 51, 3) := by decide +kernel
theorem d2_173 : decode method_3_code 173 = .ok (.lcmp, 1) := by decide +kernel
theorem d2_174 : decode method_3_code 174 = .ok (.ifCond .lt 7, 3) := by decide +kernel
theorem d2_181 : decode method_3_code 181 = .ok (.iconst 0, 1) := by decide +kernel
theorem d2_177 : decode method_3_code 177 = .ok (.iconst 1, 1) := by decide +kernel
theorem d2_178 : decode method_3_code 178 = .ok (.goto 4, 3) := by decide +kernel
theorem d2_182 : decode method_3_code 182 = .ok (.iadd, 1) := by decide +kernel
theorem d2_183 : decode method_3_code 183 = .ok (.lload_n 0, 1) := by decide +kernel
theorem d2_184 : decode method_3_code 184 = .ok (.ldc2_w 53, 3) := by decide +kernel
theorem d2_187 : decode method_3_code 187 = .ok (.lcmp, 1) := by decide +kernel
theorem d2_188 : decode method_3_code 188 = .ok (.ifCond .lt 7, 3) := by decide +kernel
theorem d2_195 : decode method_3_code 195 = .ok (.iconst 0, 1) := by decide +kernel
theorem d2_191 : decode method_3_code 191 = .ok (.iconst 1, 1) := by decide +kernel
theorem d2_192 : decode method_3_code 192 = .ok (.goto 4, 3) := by decide +kernel
theorem d2_196 : decode method_3_code 196 = .ok (.iadd, 1) := by decide +kernel
theorem d2_197 : decode method_3_code 197 = .ok (.lload_n 0, 1) := by decide +kernel
theorem d2_198 : decode method_3_code 198 = .ok (.ldc2_w 55, 3) := by decide +kernel
theorem d2_201 : decode method_3_code 201 = .ok (.lcmp, 1) := by decide +kernel
theorem d2_202 : decode method_3_code 202 = .ok (.ifCond .lt 7, 3) := by decide +kernel
theorem d2_209 : decode method_3_code 209 = .ok (.iconst 0, 1) := by decide +kernel
theorem d2_205 : decode method_3_code 205 = .ok (.iconst 1, 1) := by decide +kernel
theorem d2_206 : decode method_3_code 206 = .ok (.goto 4, 3) := by decide +kernel
theorem d2_210 : decode method_3_code 210 = .ok (.iadd, 1) := by decide +kernel
theorem d2_211 : decode method_3_code 211 = .ok (.lload_n 0, 1) := by decide +kernel
theorem d2_212 : decode method_3_code 212 = .ok (.ldc2_w 57, 3) := by decide +kernel
theorem d2_215 : decode method_3_code 215 = .ok (.lcmp, 1) := by decide +kernel
theorem d2_216 : decode method_3_code 216 = .ok (.ifCond .lt 7, 3) := by decide +kernel
theorem d2_223 : decode method_3_code 223 = .ok (.iconst 0, 1) := by decide +kernel
theorem d2_219 : decode method_3_code 219 = .ok (.iconst 1, 1) := by decide +kernel
theorem d2_220 : decode method_3_code 220 = .ok (.goto 4, 3) := by decide +kernel
theorem d2_224 : decode method_3_code 224 = .ok (.iadd, 1) := by decide +kernel
theorem d2_225 : decode method_3_code 225 = .ok (.lload_n 0, 1) := by decide +kernel
theorem d2_226 : decode method_3_code 226 = .ok (.ldc2_w 59, 3) := by decide +kernel
theorem d2_229 : decode method_3_code 229 = .ok (.lcmp, 1) := by decide +kernel
theorem d2_230 : decode method_3_code 230 = .ok (.ifCond .lt 7, 3) := by decide +kernel
theorem d2_237 : decode method_3_code 237 = .ok (.iconst 0, 1) := by decide +kernel
theorem d2_233 : decode method_3_code 233 = .ok (.iconst 1, 1) := by decide +kernel
theorem d2_234 : decode method_3_code 234 = .ok (.goto 4, 3) := by decide +kernel
theorem d2_238 : decode method_3_code 238 = .ok (.iadd, 1) := by decide +kernel
theorem d2_239 : decode method_3_code 239 = .ok (.lload_n 0, 1) := by decide +kernel
theorem d2_240 : decode method_3_code 240 = .ok (.ldc2_w 61, 3) := by decide +kernel
theorem d2_243 : decode method_3_code 243 = .ok (.lcmp, 1) := by decide +kernel
theorem d2_244 : decode method_3_code 244 = .ok (.ifCond .lt 7, 3) := by decide +kernel
theorem d2_251 : decode method_3_code 251 = .ok (.iconst 0, 1) := by decide +kernel
theorem d2_247 : decode method_3_code 247 = .ok (.iconst 1, 1) := by decide +kernel
theorem d2_248 : decode method_3_code 248 = .ok (.goto 4, 3) := by decide +kernel
theorem d2_252 : decode method_3_code 252 = .ok (.iadd, 1) := by decide +kernel
theorem d2_253 : decode method_3_code 253 = .ok (.ireturn, 1) := by decide +kernel
def Q2 (Z : State) (v : Int64) (V : Nat) (d : Nat) (h0 : Heap) (n0 : Nat) (v : Option Value) (h : Heap) (L : List Loc) : Prop := v = some (.int (Int32.ofNat d)) ∧ Fr n0 L ∧ h = h0
set_option maxRecDepth 65536 in
set_option maxHeartbeats 40000000 in
theorem rm2 (l : Launch) (Z : State) (a0 : Array Value) (hw : ∀ d ∈ tables_1, d.before a0 Z = true) (ws : List Jvm.Cond) (v : Int64) (V : Nat) (d : Nat) (h0 : Heap) (n0 : Nat) (Z0 : n0 ≤ h0.size) (hv : v.toInt = (V : Int)) (hD : own_isD V d) :
    MetFree l (⟨"com/example/reset/reset/DecimalWriteWholePinLaw", "digits", "(J)I"⟩ : MethodName) (head1 (Jvm.Cond.code (⟨"com/example/reset/reset/DecimalWriteWholePinLaw", "digits", "(J)I"⟩ : MethodName) method_3_code 2 (some .int) :: ws) ({ frames := 0, cells := 0, slots := 0, locals := 0 } : Room)) (fun zza zzU => zza = #[(.long v)] ∧ Z.Warmed39 zzU.vm ∧ zzU.heap = h0) (fun _ _ _ _ _ => True) (fun _ zzU zzo zzV => ∃ zzv zzL, zzo = .returned zzv ∧ Q2 Z v V d h0 n0 zzv zzV.heap zzL ∧ FrameEnd zzU zzo zzV zzL ({ frames := 0, cells := 0, slots := 0, locals := 0 } : Room).cells ({ frames := 0, cells := 0, slots := 0, locals := 0 } : Room).slots) := by
  refine MetFree.of_bodySF (plainFor_of_name pn_0) hisR ?_
  intro p e s m args below meth c s₁ Bd hml0 hP hK
  obtain ⟨rfl, hZ, hh⟩ := hP
  have hx := Bd.exec
  have hby := Bd.bytes
  have hml : c.maxLocals = 2 := hml0
  have hown : s.vm.findClass "com/example/reset/reset/DecimalWriteWholePinLaw" = some m.cls := findClass_of_methodNamed Bd.named
  have hnm := (name_of_methodNamed Bd.named Bd.method).1
  have X0 : Stand p l e ({ frames := 0, cells := 0, slots := 0, locals := 0 } : Room) s m #[(.long v)] below meth c s₁ [] 0 0 := Stand.of_body Bd
  have e0 : s₁.heap = h0 := by rw [← hh, Bd.state]; rfl
  have N0 := Fr.nil n0
  have R0 : ∀ zt, Steps p.tables e below (s₁.setTop (mkF m 0 #[.val (.long v), .second] [])) zt → Steps p.tables e below (s₁.setTop (entryFrame m #[(.long v)] 2)) zt := fun zt zk => castTop (ef2 m v) zk
  have R1 : ∀ zt, Steps p.tables e below (s₁.setTop (mkF m 6 #[.val (.long v), .second] [(.int (lcmpW v (10 : Int64))), (.int (1 : Int32))])) zt → Steps p.tables e below (s₁.setTop (entryFrame m #[(.long v)] 2)) zt := by
    intro zt zk
    refine R0 zt ?_
    show Steps p.tables e below (s₁.setTop (mkF m 0 #[.val (.long v), .second] [])) _
    refine XS.iconst X0.here hx rfl (hb hby d2_0) ?_
    show Steps p.tables e below (s₁.setTop (mkF m 1 #[.val (.long v), .second] [(.int (1 : Int32))])) _
    refine XS.lloadN X0.here hx rfl (hb hby d2_1) rfl ?_
    show Steps p.tables e below (s₁.setTop (mkF m 2 #[.val (.long v), .second] [(.long v), (.int (1 : Int32))])) _
    refine X0.ldc2Long hx hown (mvT hZ (hw _ (List.mem_of_getElem? (i := 12) rfl))) (g := (mkF m 2 #[.val (.long v), .second] [(.long v), (.int (1 : Int32))])) rfl (hb hby d2_2) _ ?_
    show Steps p.tables e below (s₁.setTop (mkF m 5 #[.val (.long v), .second] [(.long (10 : Int64)), (.long v), (.int (1 : Int32))])) _
    refine XS.lcmp X0.here hx rfl (hb hby d2_5) rfl ?_
    exact zk
  have R2 : ∀ zt, Steps p.tables e below (s₁.setTop (mkF m 14 #[.val (.long v), .second] [(.int (if (lcmpW v (10 : Int64)) < (0 : Int32) then (0 : Int32) else (1 : Int32) : Int32)), (.int (1 : Int32))])) zt → Steps p.tables e below (s₁.setTop (entryFrame m #[(.long v)] 2)) zt := by
    by_cases hc3 : (lcmpW v (10 : Int64)) < (0 : Int32)
    ·
      skip
      have R4 : ∀ zt, Steps p.tables e below (s₁.setTop (mkF m 14 #[.val (.long v), .second] [(.int (0 : Int32)), (.int (1 : Int32))])) zt → Steps p.tables e below (s₁.setTop (entryFrame m #[(.long v)] 2)) zt := by
        intro zt zk
        refine R1 zt ?_
        show Steps p.tables e below (s₁.setTop (mkF m 6 #[.val (.long v), .second] [(.int (lcmpW v (10 : Int64))), (.int (1 : Int32))])) _
        refine XS.ifYes X0.here hx rfl (pc0 := 6) (pc' := 13) rfl (hb hby d2_6) rfl ((if0 _ _).trans (tlt hc3).1) (by decide) (by decide) ?_
        show Steps p.tables e below (s₁.setTop (mkF m 13 #[.val (.long v), .second] [(.int (1 : Int32))])) _
        refine XS.iconst X0.here hx rfl (hb hby d2_13) ?_
        exact zk
      refine fun zt zk => R4 zt ?_
      have q5 : (if (lcmpW v (10 : Int64)) < (0 : Int32) then (0 : Int32) else (1 : Int32) : Int32) = (0 : Int32) := (if_pos hc3)
      rw [q5] at zk
      try rw [q5]
      exact zk
    ·
      skip
      have R6 : ∀ zt, Steps p.tables e below (s₁.setTop (mkF m 14 #[.val (.long v), .second] [(.int (1 : Int32)), (.int (1 : Int32))])) zt → Steps p.tables e below (s₁.setTop (entryFrame m #[(.long v)] 2)) zt := by
        intro zt zk
        refine R1 zt ?_
        show Steps p.tables e below (s₁.setTop (mkF m 6 #[.val (.long v), .second] [(.int (lcmpW v (10 : Int64))), (.int (1 : Int32))])) _
        refine XS.ifNo X0.here hx rfl (hb hby d2_6) rfl ((if0 _ _).trans (flt hc3).1) ?_
        show Steps p.tables e below (s₁.setTop (mkF m 9 #[.val (.long v), .second] [(.int (1 : Int32))])) _
        refine XS.iconst X0.here hx rfl (hb hby d2_9) ?_
        show Steps p.tables e below (s₁.setTop (mkF m 10 #[.val (.long v), .second] [(.int (1 : Int32)), (.int (1 : Int32))])) _
        refine XS.goto X0.here hx rfl (pc0 := 10) (pc' := 14) rfl (hb hby d2_10) (by decide) (by decide) ?_
        exact zk
      refine fun zt zk => R6 zt ?_
      have q7 : (if (lcmpW v (10 : Int64)) < (0 : Int32) then (0 : Int32) else (1 : Int32) : Int32) = (1 : Int32) := (if_neg hc3)
      rw [q7] at zk
      try rw [q7]
      exact zk
  have R8 : ∀ zt, Steps p.tables e below (s₁.setTop (mkF m 20 #[.val (.long v), .second] [(.int (lcmpW v (100 : Int64))), (.int (own_d1 v))])) zt → Steps p.tables e below (s₁.setTop (entryFrame m #[(.long v)] 2)) zt := by
    intro zt zk
    refine R2 zt ?_
    show Steps p.tables e below (s₁.setTop (mkF m 14 #[.val (.long v), .second] [(.int (own_tm v (10 : Int64))), (.int (1 : Int32))])) _
    refine XS.iadd X0.here hx rfl (hb hby d2_14) rfl ?_
    show Steps p.tables e below (s₁.setTop (mkF m 15 #[.val (.long v), .second] [(.int (own_d1 v))])) _
    refine XS.lloadN X0.here hx rfl (hb hby d2_15) rfl ?_
    show Steps p.tables e below (s₁.setTop (mkF m 16 #[.val (.long v), .second] [(.long v), (.int (own_d1 v))])) _
    refine X0.ldc2Long hx hown (mvT hZ (hw _ (List.mem_of_getElem? (i := 13) rfl))) (g := (mkF m 16 #[.val (.long v), .second] [(.long v), (.int (own_d1 v))])) rfl (hb hby d2_16) _ ?_
    show Steps p.tables e below (s₁.setTop (mkF m 19 #[.val (.long v), .second] [(.long (100 : Int64)), (.long v), (.int (own_d1 v))])) _
    refine XS.lcmp X0.here hx rfl (hb hby d2_19) rfl ?_
    exact zk
  have R9 : ∀ zt, Steps p.tables e below (s₁.setTop (mkF m 28 #[.val (.long v), .second] [(.int (if (lcmpW v (100 : Int64)) < (0 : Int32) then (0 : Int32) else (1 : Int32) : Int32)), (.int (own_d1 v))])) zt → Steps p.tables e below (s₁.setTop (entryFrame m #[(.long v)] 2)) zt := by
    by_cases hc10 : (lcmpW v (100 : Int64)) < (0 : Int32)
    ·
      skip
      have R11 : ∀ zt, Steps p.tables e below (s₁.setTop (mkF m 28 #[.val (.long v), .second] [(.int (0 : Int32)), (.int (own_d1 v))])) zt → Steps p.tables e below (s₁.setTop (entryFrame m #[(.long v)] 2)) zt := by
        intro zt zk
        refine R8 zt ?_
        show Steps p.tables e below (s₁.setTop (mkF m 20 #[.val (.long v), .second] [(.int (lcmpW v (100 : Int64))), (.int (own_d1 v))])) _
        refine XS.ifYes X0.here hx rfl (pc0 := 20) (pc' := 27) rfl (hb hby d2_20) rfl ((if0 _ _).trans (tlt hc10).1) (by decide) (by decide) ?_
        show Steps p.tables e below (s₁.setTop (mkF m 27 #[.val (.long v), .second] [(.int (own_d1 v))])) _
        refine XS.iconst X0.here hx rfl (hb hby d2_27) ?_
        exact zk
      refine fun zt zk => R11 zt ?_
      have q12 : (if (lcmpW v (100 : Int64)) < (0 : Int32) then (0 : Int32) else (1 : Int32) : Int32) = (0 : Int32) := (if_pos hc10)
      rw [q12] at zk
      try rw [q12]
      exact zk
    ·
      skip
      have R13 : ∀ zt, Steps p.tables e below (s₁.setTop (mkF m 28 #[.val (.long v), .second] [(.int (1 : Int32)), (.int (own_d1 v))])) zt → Steps p.tables e below (s₁.setTop (entryFrame m #[(.long v)] 2)) zt := by
        intro zt zk
        refine R8 zt ?_
        show Steps p.tables e below (s₁.setTop (mkF m 20 #[.val (.long v), .second] [(.int (lcmpW v (100 : Int64))), (.int (own_d1 v))])) _
        refine XS.ifNo X0.here hx rfl (hb hby d2_20) rfl ((if0 _ _).trans (flt hc10).1) ?_
        show Steps p.tables e below (s₁.setTop (mkF m 23 #[.val (.long v), .second] [(.int (own_d1 v))])) _
        refine XS.iconst X0.here hx rfl (hb hby d2_23) ?_
        show Steps p.tables e below (s₁.setTop (mkF m 24 #[.val (.long v), .second] [(.int (1 : Int32)), (.int (own_d1 v))])) _
        refine XS.goto X0.here hx rfl (pc0 := 24) (pc' := 28) rfl (hb hby d2_24) (by decide) (by decide) ?_
        exact zk
      refine fun zt zk => R13 zt ?_
      have q14 : (if (lcmpW v (100 : Int64)) < (0 : Int32) then (0 : Int32) else (1 : Int32) : Int32) = (1 : Int32) := (if_neg hc10)
      rw [q14] at zk
      try rw [q14]
      exact zk
  have R15 : ∀ zt, Steps p.tables e below (s₁.setTop (mkF m 34 #[.val (.long v), .second] [(.int (lcmpW v (1000 : Int64))), (.int (own_d2 v))])) zt → Steps p.tables e below (s₁.setTop (entryFrame m #[(.long v)] 2)) zt := by
    intro zt zk
    refine R9 zt ?_
    show Steps p.tables e below (s₁.setTop (mkF m 28 #[.val (.long v), .second] [(.int (own_tm v (100 : Int64))), (.int (own_d1 v))])) _
    refine XS.iadd X0.here hx rfl (hb hby d2_28) rfl ?_
    show Steps p.tables e below (s₁.setTop (mkF m 29 #[.val (.long v), .second] [(.int (own_d2 v))])) _
    refine XS.lloadN X0.here hx rfl (hb hby d2_29) rfl ?_
    show Steps p.tables e below (s₁.setTop (mkF m 30 #[.val (.long v), .second] [(.long v), (.int (own_d2 v))])) _
    refine X0.ldc2Long hx hown (mvT hZ (hw _ (List.mem_of_getElem? (i := 14) rfl))) (g := (mkF m 30 #[.val (.long v), .second] [(.long v), (.int (own_d2 v))])) rfl (hb hby d2_30) _ ?_
    show Steps p.tables e below (s₁.setTop (mkF m 33 #[.val (.long v), .second] [(.long (1000 : Int64)), (.long v), (.int (own_d2 v))])) _
    refine XS.lcmp X0.here hx rfl (hb hby d2_33) rfl ?_
    exact zk
  have R16 : ∀ zt, Steps p.tables e below (s₁.setTop (mkF m 42 #[.val (.long v), .second] [(.int (if (lcmpW v (1000 : Int64)) < (0 : Int32) then (0 : Int32) else (1 : Int32) : Int32)), (.int (own_d2 v))])) zt → Steps p.tables e below (s₁.setTop (entryFrame m #[(.long v)] 2)) zt := by
    by_cases hc17 : (lcmpW v (1000 : Int64)) < (0 : Int32)
    ·
      skip
      have R18 : ∀ zt, Steps p.tables e below (s₁.setTop (mkF m 42 #[.val (.long v), .second] [(.int (0 : Int32)), (.int (own_d2 v))])) zt → Steps p.tables e below (s₁.setTop (entryFrame m #[(.long v)] 2)) zt := by
        intro zt zk
        refine R15 zt ?_
        show Steps p.tables e below (s₁.setTop (mkF m 34 #[.val (.long v), .second] [(.int (lcmpW v (1000 : Int64))), (.int (own_d2 v))])) _
        refine XS.ifYes X0.here hx rfl (pc0 := 34) (pc' := 41) rfl (hb hby d2_34) rfl ((if0 _ _).trans (tlt hc17).1) (by decide) (by decide) ?_
        show Steps p.tables e below (s₁.setTop (mkF m 41 #[.val (.long v), .second] [(.int (own_d2 v))])) _
        refine XS.iconst X0.here hx rfl (hb hby d2_41) ?_
        exact zk
      refine fun zt zk => R18 zt ?_
      have q19 : (if (lcmpW v (1000 : Int64)) < (0 : Int32) then (0 : Int32) else (1 : Int32) : Int32) = (0 : Int32) := (if_pos hc17)
      rw [q19] at zk
      try rw [q19]
      exact zk
    ·
      skip
      have R20 : ∀ zt, Steps p.tables e below (s₁.setTop (mkF m 42 #[.val (.long v), .second] [(.int (1 : Int32)), (.int (own_d2 v))])) zt → Steps p.tables e below (s₁.setTop (entryFrame m #[(.long v)] 2)) zt := by
        intro zt zk
        refine R15 zt ?_
        show Steps p.tables e below (s₁.setTop (mkF m 34 #[.val (.long v), .second] [(.int (lcmpW v (1000 : Int64))), (.int (own_d2 v))])) _
        refine XS.ifNo X0.here hx rfl (hb hby d2_34) rfl ((if0 _ _).trans (flt hc17).1) ?_
        show Steps p.tables e below (s₁.setTop (mkF m 37 #[.val (.long v), .second] [(.int (own_d2 v))])) _
        refine XS.iconst X0.here hx rfl (hb hby d2_37) ?_
        show Steps p.tables e below (s₁.setTop (mkF m 38 #[.val (.long v), .second] [(.int (1 : Int32)), (.int (own_d2 v))])) _
        refine XS.goto X0.here hx rfl (pc0 := 38) (pc' := 42) rfl (hb hby d2_38) (by decide) (by decide) ?_
        exact zk
      refine fun zt zk => R20 zt ?_
      have q21 : (if (lcmpW v (1000 : Int64)) < (0 : Int32) then (0 : Int32) else (1 : Int32) : Int32) = (1 : Int32) := (if_neg hc17)
      rw [q21] at zk
      try rw [q21]
      exact zk
  have R22 : ∀ zt, Steps p.tables e below (s₁.setTop (mkF m 48 #[.val (.long v), .second] [(.int (lcmpW v (10000 : Int64))), (.int (own_d3 v))])) zt → Steps p.tables e below (s₁.setTop (entryFrame m #[(.long v)] 2)) zt := by
    intro zt zk
    refine R16 zt ?_
    show Steps p.tables e below (s₁.setTop (mkF m 42 #[.val (.long v), .second] [(.int (own_tm v (1000 : Int64))), (.int (own_d2 v))])) _
    refine XS.iadd X0.here hx rfl (hb hby d2_42) rfl ?_
    show Steps p.tables e below (s₁.setTop (mkF m 43 #[.val (.long v), .second] [(.int (own_d3 v))])) _
    refine XS.lloadN X0.here hx rfl (hb hby d2_43) rfl ?_
    show Steps p.tables e below (s₁.setTop (mkF m 44 #[.val (.long v), .second] [(.long v), (.int (own_d3 v))])) _
    refine X0.ldc2Long hx hown (mvT hZ (hw _ (List.mem_of_getElem? (i := 15) rfl))) (g := (mkF m 44 #[.val (.long v), .second] [(.long v), (.int (own_d3 v))])) rfl (hb hby d2_44) _ ?_
    show Steps p.tables e below (s₁.setTop (mkF m 47 #[.val (.long v), .second] [(.long (10000 : Int64)), (.long v), (.int (own_d3 v))])) _
    refine XS.lcmp X0.here hx rfl (hb hby d2_47) rfl ?_
    exact zk
  have R23 : ∀ zt, Steps p.tables e below (s₁.setTop (mkF m 56 #[.val (.long v), .second] [(.int (if (lcmpW v (10000 : Int64)) < (0 : Int32) then (0 : Int32) else (1 : Int32) : Int32)), (.int (own_d3 v))])) zt → Steps p.tables e below (s₁.setTop (entryFrame m #[(.long v)] 2)) zt := by
    by_cases hc24 : (lcmpW v (10000 : Int64)) < (0 : Int32)
    ·
      skip
      have R25 : ∀ zt, Steps p.tables e below (s₁.setTop (mkF m 56 #[.val (.long v), .second] [(.int (0 : Int32)), (.int (own_d3 v))])) zt → Steps p.tables e below (s₁.setTop (entryFrame m #[(.long v)] 2)) zt := by
        intro zt zk
        refine R22 zt ?_
        show Steps p.tables e below (s₁.setTop (mkF m 48 #[.val (.long v), .second] [(.int (lcmpW v (10000 : Int64))), (.int (own_d3 v))])) _
        refine XS.ifYes X0.here hx rfl (pc0 := 48) (pc' := 55) rfl (hb hby d2_48) rfl ((if0 _ _).trans (tlt hc24).1) (by decide) (by decide) ?_
        show Steps p.tables e below (s₁.setTop (mkF m 55 #[.val (.long v), .second] [(.int (own_d3 v))])) _
        refine XS.iconst X0.here hx rfl (hb hby d2_55) ?_
        exact zk
      refine fun zt zk => R25 zt ?_
      have q26 : (if (lcmpW v (10000 : Int64)) < (0 : Int32) then (0 : Int32) else (1 : Int32) : Int32) = (0 : Int32) := (if_pos hc24)
      rw [q26] at zk
      try rw [q26]
      exact zk
    ·
      skip
      have R27 : ∀ zt, Steps p.tables e below (s₁.setTop (mkF m 56 #[.val (.long v), .second] [(.int (1 : Int32)), (.int (own_d3 v))])) zt → Steps p.tables e below (s₁.setTop (entryFrame m #[(.long v)] 2)) zt := by
        intro zt zk
        refine R22 zt ?_
        show Steps p.tables e below (s₁.setTop (mkF m 48 #[.val (.long v), .second] [(.int (lcmpW v (10000 : Int64))), (.int (own_d3 v))])) _
        refine XS.ifNo X0.here hx rfl (hb hby d2_48) rfl ((if0 _ _).trans (flt hc24).1) ?_
        show Steps p.tables e below (s₁.setTop (mkF m 51 #[.val (.long v), .second] [(.int (own_d3 v))])) _
        refine XS.iconst X0.here hx rfl (hb hby d2_51) ?_
        show Steps p.tables e below (s₁.setTop (mkF m 52 #[.val (.long v), .second] [(.int (1 : Int32)), (.int (own_d3 v))])) _
        refine XS.goto X0.here hx rfl (pc0 := 52) (pc' := 56) rfl (hb hby d2_52) (by decide) (by decide) ?_
        exact zk
      refine fun zt zk => R27 zt ?_
      have q28 : (if (lcmpW v (10000 : Int64)) < (0 : Int32) then (0 : Int32) else (1 : Int32) : Int32) = (1 : Int32) := (if_neg hc24)
      rw [q28] at zk
      try rw [q28]
      exact zk
  have R29 : ∀ zt, Steps p.tables e below (s₁.setTop (mkF m 62 #[.val (.long v), .second] [(.int (lcmpW v (100000 : Int64))), (.int (own_d4 v))])) zt → Steps p.tables e below (s₁.setTop (entryFrame m #[(.long v)] 2)) zt := by
    intro zt zk
    refine R23 zt ?_
    show Steps p.tables e below (s₁.setTop (mkF m 56 #[.val (.long v), .second] [(.int (own_tm v (10000 : Int64))), (.int (own_d3 v))])) _
    refine XS.iadd X0.here hx rfl (hb hby d2_56) rfl ?_
    show Steps p.tables e below (s₁.setTop (mkF m 57 #[.val (.long v), .second] [(.int (own_d4 v))])) _
    refine XS.lloadN X0.here hx rfl (hb hby d2_57) rfl ?_
    show Steps p.tables e below (s₁.setTop (mkF m 58 #[.val (.long v), .second] [(.long v), (.int (own_d4 v))])) _
    refine X0.ldc2Long hx hown (mvT hZ (hw _ (List.mem_of_getElem? (i := 16) rfl))) (g := (mkF m 58 #[.val (.long v), .second] [(.long v), (.int (own_d4 v))])) rfl (hb hby d2_58) _ ?_
    show Steps p.tables e below (s₁.setTop (mkF m 61 #[.val (.long v), .second] [(.long (100000 : Int64)), (.long v), (.int (own_d4 v))])) _
    refine XS.lcmp X0.here hx rfl (hb hby d2_61) rfl ?_
    exact zk
  have R30 : ∀ zt, Steps p.tables e below (s₁.setTop (mkF m 70 #[.val (.long v), .second] [(.int (if (lcmpW v (100000 : Int64)) < (0 : Int32) then (0 : Int32) else (1 : Int32) : Int32)), (.int (own_d4 v))])) zt → Steps p.tables e below (s₁.setTop (entryFrame m #[(.long v)] 2)) zt := by
    by_cases hc31 : (lcmpW v (100000 : Int64)) < (0 : Int32)
    ·
      skip
      have R32 : ∀ zt, Steps p.tables e below (s₁.setTop (mkF m 70 #[.val (.long v), .second] [(.int (0 : Int32)), (.int (own_d4 v))])) zt → Steps p.tables e below (s₁.setTop (entryFrame m #[(.long v)] 2)) zt := by
        intro zt zk
        refine R29 zt ?_
        show Steps p.tables e below (s₁.setTop (mkF m 62 #[.val (.long v), .second] [(.int (lcmpW v (100000 : Int64))), (.int (own_d4 v))])) _
        refine XS.ifYes X0.here hx rfl (pc0 := 62) (pc' := 69) rfl (hb hby d2_62) rfl ((if0 _ _).trans (tlt hc31).1) (by decide) (by decide) ?_
        show Steps p.tables e below (s₁.setTop (mkF m 69 #[.val (.long v), .second] [(.int (own_d4 v))])) _
        refine XS.iconst X0.here hx rfl (hb hby d2_69) ?_
        exact zk
      refine fun zt zk => R32 zt ?_
      have q33 : (if (lcmpW v (100000 : Int64)) < (0 : Int32) then (0 : Int32) else (1 : Int32) : Int32) = (0 : Int32) := (if_pos hc31)
      rw [q33] at zk
      try rw [q33]
      exact zk
    ·
      skip
      have R34 : ∀ zt, Steps p.tables e below (s₁.setTop (mkF m 70 #[.val (.long v), .second] [(.int (1 : Int32)), (.int (own_d4 v))])) zt → Steps p.tables e below (s₁.setTop (entryFrame m #[(.long v)] 2)) zt := by
        intro zt zk
        refine R29 zt ?_
        show Steps p.tables e below (s₁.setTop (mkF m 62 #[.val (.long v), .second] [(.int (lcmpW v (100000 : Int64))), (.int (own_d4 v))])) _
        refine XS.ifNo X0.here hx rfl (hb hby d2_62) rfl ((if0 _ _).trans (flt hc31).1) ?_
        show Steps p.tables e below (s₁.setTop (mkF m 65 #[.val (.long v), .second] [(.int (own_d4 v))])) _
        refine XS.iconst X0.here hx rfl (hb hby d2_65) ?_
        show Steps p.tables e below (s₁.setTop (mkF m 66 #[.val (.long v), .second] [(.int (1 : Int32)), (.int (own_d4 v))])) _
        refine XS.goto X0.here hx rfl (pc0 := 66) (pc' := 70) rfl (hb hby d2_66) (by decide) (by decide) ?_
        exact zk
      refine fun zt zk => R34 zt ?_
      have q35 : (if (lcmpW v (100000 : Int64)) < (0 : Int32) then (0 : Int32) else (1 : Int32) : Int32) = (1 : Int32) := (if_neg hc31)
      rw [q35] at zk
      try rw [q35]
      exact zk
  have R36 : ∀ zt, Steps p.tables e below (s₁.setTop (mkF m 76 #[.val (.long v), .second] [(.int (lcmpW v (1000000 : Int64))), (.int (own_d5 v))])) zt → Steps p.tables e below (s₁.setTop (entryFrame m #[(.long v)] 2)) zt := by
    intro zt zk
    refine R30 zt ?_
    show Steps p.tables e below (s₁.setTop (mkF m 70 #[.val (.long v), .second] [(.int (own_tm v (100000 : Int64))), (.int (own_d4 v))])) _
    refine XS.iadd X0.here hx rfl (hb hby d2_70) rfl ?_
    show Steps p.tables e below (s₁.setTop (mkF m 71 #[.val (.long v), .second] [(.int (own_d5 v))])) _
    refine XS.lloadN X0.here hx rfl (hb hby d2_71) rfl ?_
    show Steps p.tables e below (s₁.setTop (mkF m 72 #[.val (.long v), .second] [(.long v), (.int (own_d5 v))])) _
    refine X0.ldc2Long hx hown (mvT hZ (hw _ (List.mem_of_getElem? (i := 17) rfl))) (g := (mkF m 72 #[.val (.long v), .second] [(.long v), (.int (own_d5 v))])) rfl (hb hby d2_72) _ ?_
    show Steps p.tables e below (s₁.setTop (mkF m 75 #[.val (.long v), .second] [(.long (1000000 : Int64)), (.long v), (.int (own_d5 v))])) _
    refine XS.lcmp X0.here hx rfl (hb hby d2_75) rfl ?_
    exact zk
  have R37 : ∀ zt, Steps p.tables e below (s₁.setTop (mkF m 84 #[.val (.long v), .second] [(.int (if (lcmpW v (1000000 : Int64)) < (0 : Int32) then (0 : Int32) else (1 : Int32) : Int32)), (.int (own_d5 v))])) zt → Steps p.tables e below (s₁.setTop (entryFrame m #[(.long v)] 2)) zt := by
    by_cases hc38 : (lcmpW v (1000000 : Int64)) < (0 : Int32)
    ·
      skip
      have R39 : ∀ zt, Steps p.tables e below (s₁.setTop (mkF m 84 #[.val (.long v), .second] [(.int (0 : Int32)), (.int (own_d5 v))])) zt → Steps p.tables e below (s₁.setTop (entryFrame m #[(.long v)] 2)) zt := by
        intro zt zk
        refine R36 zt ?_
        show Steps p.tables e below (s₁.setTop (mkF m 76 #[.val (.long v), .second] [(.int (lcmpW v (1000000 : Int64))), (.int (own_d5 v))])) _
        refine XS.ifYes X0.here hx rfl (pc0 := 76) (pc' := 83) rfl (hb hby d2_76) rfl ((if0 _ _).trans (tlt hc38).1) (by decide) (by decide) ?_
        show Steps p.tables e below (s₁.setTop (mkF m 83 #[.val (.long v), .second] [(.int (own_d5 v))])) _
        refine XS.iconst X0.here hx rfl (hb hby d2_83) ?_
        exact zk
      refine fun zt zk => R39 zt ?_
      have q40 : (if (lcmpW v (1000000 : Int64)) < (0 : Int32) then (0 : Int32) else (1 : Int32) : Int32) = (0 : Int32) := (if_pos hc38)
      rw [q40] at zk
      try rw [q40]
      exact zk
    ·
      skip
      have R41 : ∀ zt, Steps p.tables e below (s₁.setTop (mkF m 84 #[.val (.long v), .second] [(.int (1 : Int32)), (.int (own_d5 v))])) zt → Steps p.tables e below (s₁.setTop (entryFrame m #[(.long v)] 2)) zt := by
        intro zt zk
        refine R36 zt ?_
        show Steps p.tables e below (s₁.setTop (mkF m 76 #[.val (.long v), .second] [(.int (lcmpW v (1000000 : Int64))), (.int (own_d5 v))])) _
        refine XS.ifNo X0.here hx rfl (hb hby d2_76) rfl ((if0 _ _).trans (flt hc38).1) ?_
        show Steps p.tables e below (s₁.setTop (mkF m 79 #[.val (.long v), .second] [(.int (own_d5 v))])) _
        refine XS.iconst X0.here hx rfl (hb hby d2_79) ?_
        show Steps p.tables e below (s₁.setTop (mkF m 80 #[.val (.long v), .second] [(.int (1 : Int32)), (.int (own_d5 v))])) _
        refine XS.goto X0.here hx rfl (pc0 := 80) (pc' := 84) rfl (hb hby d2_80) (by decide) (by decide) ?_
        exact zk
      refine fun zt zk => R41 zt ?_
      have q42 : (if (lcmpW v (1000000 : Int64)) < (0 : Int32) then (0 : Int32) else (1 : Int32) : Int32) = (1 : Int32) := (if_neg hc38)
      rw [q42] at zk
      try rw [q42]
      exact zk
  have R43 : ∀ zt, Steps p.tables e below (s₁.setTop (mkF m 90 #[.val (.long v), .second] [(.int (lcmpW v (10000000 : Int64))), (.int (own_d6 v))])) zt → Steps p.tables e below (s₁.setTop (entryFrame m #[(.long v)] 2)) zt := by
    intro zt zk
    refine R37 zt ?_
    show Steps p.tables e below (s₁.setTop (mkF m 84 #[.val (.long v), .second] [(.int (own_tm v (1000000 : Int64))), (.int (own_d5 v))])) _
    refine XS.iadd X0.here hx rfl (hb hby d2_84) rfl ?_
    show Steps p.tables e below (s₁.setTop (mkF m 85 #[.val (.long v), .second] [(.int (own_d6 v))])) _
    refine XS.lloadN X0.here hx rfl (hb hby d2_85) rfl ?_
    show Steps p.tables e below (s₁.setTop (mkF m 86 #[.val (.long v), .second] [(.long v), (.int (own_d6 v))])) _
    refine X0.ldc2Long hx hown (mvT hZ (hw _ (List.mem_of_getElem? (i := 18) rfl))) (g := (mkF m 86 #[.val (.long v), .second] [(.long v), (.int (own_d6 v))])) rfl (hb hby d2_86) _ ?_
    show Steps p.tables e below (s₁.setTop (mkF m 89 #[.val (.long v), .second] [(.long (10000000 : Int64)), (.long v), (.int (own_d6 v))])) _
    refine XS.lcmp X0.here hx rfl (hb hby d2_89) rfl ?_
    exact zk
  have R44 : ∀ zt, Steps p.tables e below (s₁.setTop (mkF m 98 #[.val (.long v), .second] [(.int (if (lcmpW v (10000000 : Int64)) < (0 : Int32) then (0 : Int32) else (1 : Int32) : Int32)), (.int (own_d6 v))])) zt → Steps p.tables e below (s₁.setTop (entryFrame m #[(.long v)] 2)) zt := by
    by_cases hc45 : (lcmpW v (10000000 : Int64)) < (0 : Int32)
    ·
      skip
      have R46 : ∀ zt, Steps p.tables e below (s₁.setTop (mkF m 98 #[.val (.long v), .second] [(.int (0 : Int32)), (.int (own_d6 v))])) zt → Steps p.tables e below (s₁.setTop (entryFrame m #[(.long v)] 2)) zt := by
        intro zt zk
        refine R43 zt ?_
        show Steps p.tables e below (s₁.setTop (mkF m 90 #[.val (.long v), .second] [(.int (lcmpW v (10000000 : Int64))), (.int (own_d6 v))])) _
        refine XS.ifYes X0.here hx rfl (pc0 := 90) (pc' := 97) rfl (hb hby d2_90) rfl ((if0 _ _).trans (tlt hc45).1) (by decide) (by decide) ?_
        show Steps p.tables e below (s₁.setTop (mkF m 97 #[.val (.long v), .second] [(.int (own_d6 v))])) _
        refine XS.iconst X0.here hx rfl (hb hby d2_97) ?_
        exact zk
      refine fun zt zk => R46 zt ?_
      have q47 : (if (lcmpW v (10000000 : Int64)) < (0 : Int32) then (0 : Int32) else (1 : Int32) : Int32) = (0 : Int32) := (if_pos hc45)
      rw [q47] at zk
      try rw [q47]
      exact zk
    ·
      skip
      have R48 : ∀ zt, Steps p.tables e below (s₁.setTop (mkF m 98 #[.val (.long v), .second] [(.int (1 : Int32)), (.int (own_d6 v))])) zt → Steps p.tables e below (s₁.setTop (entryFrame m #[(.long v)] 2)) zt := by
        intro zt zk
        refine R43 zt ?_
        show Steps p.tables e below (s₁.setTop (mkF m 90 #[.val (.long v), .second] [(.int (lcmpW v (10000000 : Int64))), (.int (own_d6 v))])) _
        refine XS.ifNo X0.here hx rfl (hb hby d2_90) rfl ((if0 _ _).trans (flt hc45).1) ?_
        show Steps p.tables e below (s₁.setTop (mkF m 93 #[.val (.long v), .second] [(.int (own_d6 v))])) _
        refine XS.iconst X0.here hx rfl (hb hby d2_93) ?_
        show Steps p.tables e below (s₁.setTop (mkF m 94 #[.val (.long v), .second] [(.int (1 : Int32)), (.int (own_d6 v))])) _
        refine XS.goto X0.here hx rfl (pc0 := 94) (pc' := 98) rfl (hb hby d2_94) (by decide) (by decide) ?_
        exact zk
      refine fun zt zk => R48 zt ?_
      have q49 : (if (lcmpW v (10000000 : Int64)) < (0 : Int32) then (0 : Int32) else (1 : Int32) : Int32) = (1 : Int32) := (if_neg hc45)
      rw [q49] at zk
      try rw [q49]
      exact zk
  have R50 : ∀ zt, Steps p.tables e below (s₁.setTop (mkF m 104 #[.val (.long v), .second] [(.int (lcmpW v (100000000 : Int64))), (.int (own_d7 v))])) zt → Steps p.tables e below (s₁.setTop (entryFrame m #[(.long v)] 2)) zt := by
    intro zt zk
    refine R44 zt ?_
    show Steps p.tables e below (s₁.setTop (mkF m 98 #[.val (.long v), .second] [(.int (own_tm v (10000000 : Int64))), (.int (own_d6 v))])) _
    refine XS.iadd X0.here hx rfl (hb hby d2_98) rfl ?_
    show Steps p.tables e below (s₁.setTop (mkF m 99 #[.val (.long v), .second] [(.int (own_d7 v))])) _
    refine XS.lloadN X0.here hx rfl (hb hby d2_99) rfl ?_
    show Steps p.tables e below (s₁.setTop (mkF m 100 #[.val (.long v), .second] [(.long v), (.int (own_d7 v))])) _
    refine X0.ldc2Long hx hown (mvT hZ (hw _ (List.mem_of_getElem? (i := 19) rfl))) (g := (mkF m 100 #[.val (.long v), .second] [(.long v), (.int (own_d7 v))])) rfl (hb hby d2_100) _ ?_
    show Steps p.tables e below (s₁.setTop (mkF m 103 #[.val (.long v), .second] [(.long (100000000 : Int64)), (.long v), (.int (own_d7 v))])) _
    refine XS.lcmp X0.here hx rfl (hb hby d2_103) rfl ?_
    exact zk
  have R51 : ∀ zt, Steps p.tables e below (s₁.setTop (mkF m 112 #[.val (.long v), .second] [(.int (if (lcmpW v (100000000 : Int64)) < (0 : Int32) then (0 : Int32) else (1 : Int32) : Int32)), (.int (own_d7 v))])) zt → Steps p.tables e below (s₁.setTop (entryFrame m #[(.long v)] 2)) zt := by
    by_cases hc52 : (lcmpW v (100000000 : Int64)) < (0 : Int32)
    ·
      skip
      have R53 : ∀ zt, Steps p.tables e below (s₁.setTop (mkF m 112 #[.val (.long v), .second] [(.int (0 : Int32)), (.int (own_d7 v))])) zt → Steps p.tables e below (s₁.setTop (entryFrame m #[(.long v)] 2)) zt := by
        intro zt zk
        refine R50 zt ?_
        show Steps p.tables e below (s₁.setTop (mkF m 104 #[.val (.long v), .second] [(.int (lcmpW v (100000000 : Int64))), (.int (own_d7 v))])) _
        refine XS.ifYes X0.here hx rfl (pc0 := 104) (pc' := 111) rfl (hb hby d2_104) rfl ((if0 _ _).trans (tlt hc52).1) (by decide) (by decide) ?_
        show Steps p.tables e below (s₁.setTop (mkF m 111 #[.val (.long v), .second] [(.int (own_d7 v))])) _
        refine XS.iconst X0.here hx rfl (hb hby d2_111) ?_
        exact zk
      refine fun zt zk => R53 zt ?_
      have q54 : (if (lcmpW v (100000000 : Int64)) < (0 : Int32) then (0 : Int32) else (1 : Int32) : Int32) = (0 : Int32) := (if_pos hc52)
      rw [q54] at zk
      try rw [q54]
      exact zk
    ·
      skip
      have R55 : ∀ zt, Steps p.tables e below (s₁.setTop (mkF m 112 #[.val (.long v), .second] [(.int (1 : Int32)), (.int (own_d7 v))])) zt → Steps p.tables e below (s₁.setTop (entryFrame m #[(.long v)] 2)) zt := by
        intro zt zk
        refine R50 zt ?_
        show Steps p.tables e below (s₁.setTop (mkF m 104 #[.val (.long v), .second] [(.int (lcmpW v (100000000 : Int64))), (.int (own_d7 v))])) _
        refine XS.ifNo X0.here hx rfl (hb hby d2_104) rfl ((if0 _ _).trans (flt hc52).1) ?_
        show Steps p.tables e below (s₁.setTop (mkF m 107 #[.val (.long v), .second] [(.int (own_d7 v))])) _
        refine XS.iconst X0.here hx rfl (hb hby d2_107) ?_
        show Steps p.tables e below (s₁.setTop (mkF m 108 #[.val (.long v), .second] [(.int (1 : Int32)), (.int (own_d7 v))])) _
        refine XS.goto X0.here hx rfl (pc0 := 108) (pc' := 112) rfl (hb hby d2_108) (by decide) (by decide) ?_
        exact zk
      refine fun zt zk => R55 zt ?_
      have q56 : (if (lcmpW v (100000000 : Int64)) < (0 : Int32) then (0 : Int32) else (1 : Int32) : Int32) = (1 : Int32) := (if_neg hc52)
      rw [q56] at zk
      try rw [q56]
      exact zk
  have R57 : ∀ zt, Steps p.tables e below (s₁.setTop (mkF m 118 #[.val (.long v), .second] [(.int (lcmpW v (1000000000 : Int64))), (.int (own_d8 v))])) zt → Steps p.tables e below (s₁.setTop (entryFrame m #[(.long v)] 2)) zt := by
    intro zt zk
    refine R51 zt ?_
    show Steps p.tables e below (s₁.setTop (mkF m 112 #[.val (.long v), .second] [(.int (own_tm v (100000000 : Int64))), (.int (own_d7 v))])) _
    refine XS.iadd X0.here hx rfl (hb hby d2_112) rfl ?_
    show Steps p.tables e below (s₁.setTop (mkF m 113 #[.val (.long v), .second] [(.int (own_d8 v))])) _
    refine XS.lloadN X0.here hx rfl (hb hby d2_113) rfl ?_
    show Steps p.tables e below (s₁.setTop (mkF m 114 #[.val (.long v), .second] [(.long v), (.int (own_d8 v))])) _
    refine X0.ldc2Long hx hown (mvT hZ (hw _ (List.mem_of_getElem? (i := 20) rfl))) (g := (mkF m 114 #[.val (.long v), .second] [(.long v), (.int (own_d8 v))])) rfl (hb hby d2_114) _ ?_
    show Steps p.tables e below (s₁.setTop (mkF m 117 #[.val (.long v), .second] [(.long (1000000000 : Int64)), (.long v), (.int (own_d8 v))])) _
    refine XS.lcmp X0.here hx rfl (hb hby d2_117) rfl ?_
    exact zk
  have R58 : ∀ zt, Steps p.tables e below (s₁.setTop (mkF m 126 #[.val (.long v), .second] [(.int (if (lcmpW v (1000000000 : Int64)) < (0 : Int32) then (0 : Int32) else (1 : Int32) : Int32)), (.int (own_d8 v))])) zt → Steps p.tables e below (s₁.setTop (entryFrame m #[(.long v)] 2)) zt := by
    by_cases hc59 : (lcmpW v (1000000000 : Int64)) < (0 : Int32)
    ·
      skip
      have R60 : ∀ zt, Steps p.tables e below (s₁.setTop (mkF m 126 #[.val (.long v), .second] [(.int (0 : Int32)), (.int (own_d8 v))])) zt → Steps p.tables e below (s₁.setTop (entryFrame m #[(.long v)] 2)) zt := by
        intro zt zk
        refine R57 zt ?_
        show Steps p.tables e below (s₁.setTop (mkF m 118 #[.val (.long v), .second] [(.int (lcmpW v (1000000000 : Int64))), (.int (own_d8 v))])) _
        refine XS.ifYes X0.here hx rfl (pc0 := 118) (pc' := 125) rfl (hb hby d2_118) rfl ((if0 _ _).trans (tlt hc59).1) (by decide) (by decide) ?_
        show Steps p.tables e below (s₁.setTop (mkF m 125 #[.val (.long v), .second] [(.int (own_d8 v))])) _
        refine XS.iconst X0.here hx rfl (hb hby d2_125) ?_
        exact zk
      refine fun zt zk => R60 zt ?_
      have q61 : (if (lcmpW v (1000000000 : Int64)) < (0 : Int32) then (0 : Int32) else (1 : Int32) : Int32) = (0 : Int32) := (if_pos hc59)
      rw [q61] at zk
      try rw [q61]
      exact zk
    ·
      skip
      have R62 : ∀ zt, Steps p.tables e below (s₁.setTop (mkF m 126 #[.val (.long v), .second] [(.int (1 : Int32)), (.int (own_d8 v))])) zt → Steps p.tables e below (s₁.setTop (entryFrame m #[(.long v)] 2)) zt := by
        intro zt zk
        refine R57 zt ?_
        show Steps p.tables e below (s₁.setTop (mkF m 118 #[.val (.long v), .second] [(.int (lcmpW v (1000000000 : Int64))), (.int (own_d8 v))])) _
        refine XS.ifNo X0.here hx rfl (hb hby d2_118) rfl ((if0 _ _).trans (flt hc59).1) ?_
        show Steps p.tables e below (s₁.setTop (mkF m 121 #[.val (.long v), .second] [(.int (own_d8 v))])) _
        refine XS.iconst X0.here hx rfl (hb hby d2_121) ?_
        show Steps p.tables e below (s₁.setTop (mkF m 122 #[.val (.long v), .second] [(.int (1 : Int32)), (.int (own_d8 v))])) _
        refine XS.goto X0.here hx rfl (pc0 := 122) (pc' := 126) rfl (hb hby d2_122) (by decide) (by decide) ?_
        exact zk
      refine fun zt zk => R62 zt ?_
      have q63 : (if (lcmpW v (1000000000 : Int64)) < (0 : Int32) then (0 : Int32) else (1 : Int32) : Int32) = (1 : Int32) := (if_neg hc59)
      rw [q63] at zk
      try rw [q63]
      exact zk
  have R64 : ∀ zt, Steps p.tables e below (s₁.setTop (mkF m 132 #[.val (.long v), .second] [(.int (lcmpW v (10000000000 : Int64))), (.int (own_d9 v))])) zt → Steps p.tables e below (s₁.setTop (entryFrame m #[(.long v)] 2)) zt := by
    intro zt zk
    refine R58 zt ?_
    show Steps p.tables e below (s₁.setTop (mkF m 126 #[.val (.long v), .second] [(.int (own_tm v (1000000000 : Int64))), (.int (own_d8 v))])) _
    refine XS.iadd X0.here hx rfl (hb hby d2_126) rfl ?_
    show Steps p.tables e below (s₁.setTop (mkF m 127 #[.val (.long v), .second] [(.int (own_d9 v))])) _
    refine XS.lloadN X0.here hx rfl (hb hby d2_127) rfl ?_
    show Steps p.tables e below (s₁.setTop (mkF m 128 #[.val (.long v), .second] [(.long v), (.int (own_d9 v))])) _
    refine X0.ldc2Long hx hown (mvT hZ (hw _ (List.mem_of_getElem? (i := 21) rfl))) (g := (mkF m 128 #[.val (.long v), .second] [(.long v), (.int (own_d9 v))])) rfl (hb hby d2_128) _ ?_
    show Steps p.tables e below (s₁.setTop (mkF m 131 #[.val (.long v), .second] [(.long (10000000000 : Int64)), (.long v), (.int (own_d9 v))])) _
    refine XS.lcmp X0.here hx rfl (hb hby d2_131) rfl ?_
    exact zk
  have R65 : ∀ zt, Steps p.tables e below (s₁.setTop (mkF m 140 #[.val (.long v), .second] [(.int (if (lcmpW v (10000000000 : Int64)) < (0 : Int32) then (0 : Int32) else (1 : Int32) : Int32)), (.int (own_d9 v))])) zt → Steps p.tables e below (s₁.setTop (entryFrame m #[(.long v)] 2)) zt := by
    by_cases hc66 : (lcmpW v (10000000000 : Int64)) < (0 : Int32)
    ·
      skip
      have R67 : ∀ zt, Steps p.tables e below (s₁.setTop (mkF m 140 #[.val (.long v), .second] [(.int (0 : Int32)), (.int (own_d9 v))])) zt → Steps p.tables e below (s₁.setTop (entryFrame m #[(.long v)] 2)) zt := by
        intro zt zk
        refine R64 zt ?_
        show Steps p.tables e below (s₁.setTop (mkF m 132 #[.val (.long v), .second] [(.int (lcmpW v (10000000000 : Int64))), (.int (own_d9 v))])) _
        refine XS.ifYes X0.here hx rfl (pc0 := 132) (pc' := 139) rfl (hb hby d2_132) rfl ((if0 _ _).trans (tlt hc66).1) (by decide) (by decide) ?_
        show Steps p.tables e below (s₁.setTop (mkF m 139 #[.val (.long v), .second] [(.int (own_d9 v))])) _
        refine XS.iconst X0.here hx rfl (hb hby d2_139) ?_
        exact zk
      refine fun zt zk => R67 zt ?_
      have q68 : (if (lcmpW v (10000000000 : Int64)) < (0 : Int32) then (0 : Int32) else (1 : Int32) : Int32) = (0 : Int32) := (if_pos hc66)
      rw [q68] at zk
      try rw [q68]
      exact zk
    ·
      skip
      have R69 : ∀ zt, Steps p.tables e below (s₁.setTop (mkF m 140 #[.val (.long v), .second] [(.int (1 : Int32)), (.int (own_d9 v))])) zt → Steps p.tables e below (s₁.setTop (entryFrame m #[(.long v)] 2)) zt := by
        intro zt zk
        refine R64 zt ?_
        show Steps p.tables e below (s₁.setTop (mkF m 132 #[.val (.long v), .second] [(.int (lcmpW v (10000000000 : Int64))), (.int (own_d9 v))])) _
        refine XS.ifNo X0.here hx rfl (hb hby d2_132) rfl ((if0 _ _).trans (flt hc66).1) ?_
        show Steps p.tables e below (s₁.setTop (mkF m 135 #[.val (.long v), .second] [(.int (own_d9 v))])) _
        refine XS.iconst X0.here hx rfl (hb hby d2_135) ?_
        show Steps p.tables e below (s₁.setTop (mkF m 136 #[.val (.long v), .second] [(.int (1 : Int32)), (.int (own_d9 v))])) _
        refine XS.goto X0.here hx rfl (pc0 := 136) (pc' := 140) rfl (hb hby d2_136) (by decide) (by decide) ?_
        exact zk
      refine fun zt zk => R69 zt ?_
      have q70 : (if (lcmpW v (10000000000 : Int64)) < (0 : Int32) then (0 : Int32) else (1 : Int32) : Int32) = (1 : Int32) := (if_neg hc66)
      rw [q70] at zk
      try rw [q70]
      exact zk
  have R71 : ∀ zt, Steps p.tables e below (s₁.setTop (mkF m 146 #[.val (.long v), .second] [(.int (lcmpW v (100000000000 : Int64))), (.int (own_d10 v))])) zt → Steps p.tables e below (s₁.setTop (entryFrame m #[(.long v)] 2)) zt := by
    intro zt zk
    refine R65 zt ?_
    show Steps p.tables e below (s₁.setTop (mkF m 140 #[.val (.long v), .second] [(.int (own_tm v (10000000000 : Int64))), (.int (own_d9 v))])) _
    refine XS.iadd X0.here hx rfl (hb hby d2_140) rfl ?_
    show Steps p.tables e below (s₁.setTop (mkF m 141 #[.val (.long v), .second] [(.int (own_d10 v))])) _
    refine XS.lloadN X0.here hx rfl (hb hby d2_141) rfl ?_
    show Steps p.tables e below (s₁.setTop (mkF m 142 #[.val (.long v), .second] [(.long v), (.int (own_d10 v))])) _
    refine X0.ldc2Long hx hown (mvT hZ (hw _ (List.mem_of_getElem? (i := 22) rfl))) (g := (mkF m 142 #[.val (.long v), .second] [(.long v), (.int (own_d10 v))])) rfl (hb hby d2_142) _ ?_
    show Steps p.tables e below (s₁.setTop (mkF m 145 #[.val (.long v), .second] [(.long (100000000000 : Int64)), (.long v), (.int (own_d10 v))])) _
    refine XS.lcmp X0.here hx rfl (hb hby d2_145) rfl ?_
    exact zk
  have R72 : ∀ zt, Steps p.tables e below (s₁.setTop (mkF m 154 #[.val (.long v), .second] [(.int (if (lcmpW v (100000000000 : Int64)) < (0 : Int32) then (0 : Int32) else (1 : Int32) : Int32)), (.int (own_d10 v))])) zt → Steps p.tables e below (s₁.setTop (entryFrame m #[(.long v)] 2)) zt := by
    by_cases hc73 : (lcmpW v (100000000000 : Int64)) < (0 : Int32)
    ·
      skip
      have R74 : ∀ zt, Steps p.tables e below (s₁.setTop (mkF m 154 #[.val (.long v), .second] [(.int (0 : Int32)), (.int (own_d10 v))])) zt → Steps p.tables e below (s₁.setTop (entryFrame m #[(.long v)] 2)) zt := by
        intro zt zk
        refine R71 zt ?_
        show Steps p.tables e below (s₁.setTop (mkF m 146 #[.val (.long v), .second] [(.int (lcmpW v (100000000000 : Int64))), (.int (own_d10 v))])) _
        refine XS.ifYes X0.here hx rfl (pc0 := 146) (pc' := 153) rfl (hb hby d2_146) rfl ((if0 _ _).trans (tlt hc73).1) (by decide) (by decide) ?_
        show Steps p.tables e below (s₁.setTop (mkF m 153 #[.val (.long v), .second] [(.int (own_d10 v))])) _
        refine XS.iconst X0.here hx rfl (hb hby d2_153) ?_
        exact zk
      refine fun zt zk => R74 zt ?_
      have q75 : (if (lcmpW v (100000000000 : Int64)) < (0 : Int32) then (0 : Int32) else (1 : Int32) : Int32) = (0 : Int32) := (if_pos hc73)
      rw [q75] at zk
      try rw [q75]
      exact zk
    ·
      skip
      have R76 : ∀ zt, Steps p.tables e below (s₁.setTop (mkF m 154 #[.val (.long v), .second] [(.int (1 : Int32)), (.int (own_d10 v))])) zt → Steps p.tables e below (s₁.setTop (entryFrame m #[(.long v)] 2)) zt := by
        intro zt zk
        refine R71 zt ?_
        show Steps p.tables e below (s₁.setTop (mkF m 146 #[.val (.long v), .second] [(.int (lcmpW v (100000000000 : Int64))), (.int (own_d10 v))])) _
        refine XS.ifNo X0.here hx rfl (hb hby d2_146) rfl ((if0 _ _).trans (flt hc73).1) ?_
        show Steps p.tables e below (s₁.setTop (mkF m 149 #[.val (.long v), .second] [(.int (own_d10 v))])) _
        refine XS.iconst X0.here hx rfl (hb hby d2_149) ?_
        show Steps p.tables e below (s₁.setTop (mkF m 150 #[.val (.long v), .second] [(.int (1 : Int32)), (.int (own_d10 v))])) _
        refine XS.goto X0.here hx rfl (pc0 := 150) (pc' := 154) rfl (hb hby d2_150) (by decide) (by decide) ?_
        exact zk
      refine fun zt zk => R76 zt ?_
      have q77 : (if (lcmpW v (100000000000 : Int64)) < (0 : Int32) then (0 : Int32) else (1 : Int32) : Int32) = (1 : Int32) := (if_neg hc73)
      rw [q77] at zk
      try rw [q77]
      exact zk
  have R78 : ∀ zt, Steps p.tables e below (s₁.setTop (mkF m 160 #[.val (.long v), .second] [(.int (lcmpW v (1000000000000 : Int64))), (.int (own_d11 v))])) zt → Steps p.tables e below (s₁.setTop (entryFrame m #[(.long v)] 2)) zt := by
    intro zt zk
    refine R72 zt ?_
    show Steps p.tables e below (s₁.setTop (mkF m 154 #[.val (.long v), .second] [(.int (own_tm v (100000000000 : Int64))), (.int (own_d10 v))])) _
    refine XS.iadd X0.here hx rfl (hb hby d2_154) rfl ?_
    show Steps p.tables e below (s₁.setTop (mkF m 155 #[.val (.long v), .second] [(.int (own_d11 v))])) _
    refine XS.lloadN X0.here hx rfl (hb hby d2_155) rfl ?_
    show Steps p.tables e below (s₁.setTop (mkF m 156 #[.val (.long v), .second] [(.long v), (.int (own_d11 v))])) _
    refine X0.ldc2Long hx hown (mvT hZ (hw _ (List.mem_of_getElem? (i := 23) rfl))) (g := (mkF m 156 #[.val (.long v), .second] [(.long v), (.int (own_d11 v))])) rfl (hb hby d2_156) _ ?_
    show Steps p.tables e below (s₁.setTop (mkF m 159 #[.val (.long v), .second] [(.long (1000000000000 : Int64)), (.long v), (.int (own_d11 v))])) _
    refine XS.lcmp X0.here hx rfl (hb hby d2_159) rfl ?_
    exact zk
  have R79 : ∀ zt, Steps p.tables e below (s₁.setTop (mkF m 168 #[.val (.long v), .second] [(.int (if (lcmpW v (1000000000000 : Int64)) < (0 : Int32) then (0 : Int32) else (1 : Int32) : Int32)), (.int (own_d11 v))])) zt → Steps p.tables e below (s₁.setTop (entryFrame m #[(.long v)] 2)) zt := by
    by_cases hc80 : (lcmpW v (1000000000000 : Int64)) < (0 : Int32)
    ·
      skip
      have R81 : ∀ zt, Steps p.tables e below (s₁.setTop (mkF m 168 #[.val (.long v), .second] [(.int (0 : Int32)), (.int (own_d11 v))])) zt → Steps p.tables e below (s₁.setTop (entryFrame m #[(.long v)] 2)) zt := by
        intro zt zk
        refine R78 zt ?_
        show Steps p.tables e below (s₁.setTop (mkF m 160 #[.val (.long v), .second] [(.int (lcmpW v (1000000000000 : Int64))), (.int (own_d11 v))])) _
        refine XS.ifYes X0.here hx rfl (pc0 := 160) (pc' := 167) rfl (hb hby d2_160) rfl ((if0 _ _).trans (tlt hc80).1) (by decide) (by decide) ?_
        show Steps p.tables e below (s₁.setTop (mkF m 167 #[.val (.long v), .second] [(.int (own_d11 v))])) _
        refine XS.iconst X0.here hx rfl (hb hby d2_167) ?_
        exact zk
      refine fun zt zk => R81 zt ?_
      have q82 : (if (lcmpW v (1000000000000 : Int64)) < (0 : Int32) then (0 : Int32) else (1 : Int32) : Int32) = (0 : Int32) := (if_pos hc80)
      rw [q82] at zk
      try rw [q82]
      exact zk
    ·
      skip
      have R83 : ∀ zt, Steps p.tables e below (s₁.setTop (mkF m 168 #[.val (.long v), .second] [(.int (1 : Int32)), (.int (own_d11 v))])) zt → Steps p.tables e below (s₁.setTop (entryFrame m #[(.long v)] 2)) zt := by
        intro zt zk
        refine R78 zt ?_
        show Steps p.tables e below (s₁.setTop (mkF m 160 #[.val (.long v), .second] [(.int (lcmpW v (1000000000000 : Int64))), (.int (own_d11 v))])) _
        refine XS.ifNo X0.here hx rfl (hb hby d2_160) rfl ((if0 _ _).trans (flt hc80).1) ?_
        show Steps p.tables e below (s₁.setTop (mkF m 163 #[.val (.long v), .second] [(.int (own_d11 v))])) _
        refine XS.iconst X0.here hx rfl (hb hby d2_163) ?_
        show Steps p.tables e below (s₁.setTop (mkF m 164 #[.val (.long v), .second] [(.int (1 : Int32)), (.int (own_d11 v))])) _
        refine XS.goto X0.here hx rfl (pc0 := 164) (pc' := 168) rfl (hb hby d2_164) (by decide) (by decide) ?_
        exact zk
      refine fun zt zk => R83 zt ?_
      have q84 : (if (lcmpW v (1000000000000 : Int64)) < (0 : Int32) then (0 : Int32) else (1 : Int32) : Int32) = (1 : Int32) := (if_neg hc80)
      rw [q84] at zk
      try rw [q84]
      exact zk
  have R85 : ∀ zt, Steps p.tables e below (s₁.setTop (mkF m 174 #[.val (.long v), .second] [(.int (lcmpW v (10000000000000 : Int64))), (.int (own_d12 v))])) zt → Steps p.tables e below (s₁.setTop (entryFrame m #[(.long v)] 2)) zt := by
    intro zt zk
    refine R79 zt ?_
    show Steps p.tables e below (s₁.setTop (mkF m 168 #[.val (.long v), .second] [(.int (own_tm v (1000000000000 : Int64))), (.int (own_d11 v))])) _
    refine XS.iadd X0.here hx rfl (hb hby d2_168) rfl ?_
    show Steps p.tables e below (s₁.setTop (mkF m 169 #[.val (.long v), .second] [(.int (own_d12 v))])) _
    refine XS.lloadN X0.here hx rfl (hb hby d2_169) rfl ?_
    show Steps p.tables e below (s₁.setTop (mkF m 170 #[.val (.long v), .second] [(.long v), (.int (own_d12 v))])) _
    refine X0.ldc2Long hx hown (mvT hZ (hw _ (List.mem_of_getElem? (i := 24) rfl))) (g := (mkF m 170 #[.val (.long v), .second] [(.long v), (.int (own_d12 v))])) rfl (hb hby d2_170) _ ?_
    show Steps p.tables e below (s₁.setTop (mkF m 173 #[.val (.long v), .second] [(.long (10000000000000 : Int64)), (.long v), (.int (own_d12 v))])) _
    refine XS.lcmp X0.here hx rfl (hb hby d2_173) rfl ?_
    exact zk
  have R86 : ∀ zt, Steps p.tables e below (s₁.setTop (mkF m 182 #[.val (.long v), .second] [(.int (if (lcmpW v (10000000000000 : Int64)) < (0 : Int32) then (0 : Int32) else (1 : Int32) : Int32)), (.int (own_d12 v))])) zt → Steps p.tables e below (s₁.setTop (entryFrame m #[(.long v)] 2)) zt := by
    by_cases hc87 : (lcmpW v (10000000000000 : Int64)) < (0 : Int32)
    ·
      skip
      have R88 : ∀ zt, Steps p.tables e below (s₁.setTop (mkF m 182 #[.val (.long v), .second] [(.int (0 : Int32)), (.int (own_d12 v))])) zt → Steps p.tables e below (s₁.setTop (entryFrame m #[(.long v)] 2)) zt := by
        intro zt zk
        refine R85 zt ?_
        show Steps p.tables e below (s₁.setTop (mkF m 174 #[.val (.long v), .second] [(.int (lcmpW v (10000000000000 : Int64))), (.int (own_d12 v))])) _
        refine XS.ifYes X0.here hx rfl (pc0 := 174) (pc' := 181) rfl (hb hby d2_174) rfl ((if0 _ _).trans (tlt hc87).1) (by decide) (by decide) ?_
        show Steps p.tables e below (s₁.setTop (mkF m 181 #[.val (.long v), .second] [(.int (own_d12 v))])) _
        refine XS.iconst X0.here hx rfl (hb hby d2_181) ?_
        exact zk
      refine fun zt zk => R88 zt ?_
      have q89 : (if (lcmpW v (10000000000000 : Int64)) < (0 : Int32) then (0 : Int32) else (1 : Int32) : Int32) = (0 : Int32) := (if_pos hc87)
      rw [q89] at zk
      try rw [q89]
      exact zk
    ·
      skip
      have R90 : ∀ zt, Steps p.tables e below (s₁.setTop (mkF m 182 #[.val (.long v), .second] [(.int (1 : Int32)), (.int (own_d12 v))])) zt → Steps p.tables e below (s₁.setTop (entryFrame m #[(.long v)] 2)) zt := by
        intro zt zk
        refine R85 zt ?_
        show Steps p.tables e below (s₁.setTop (mkF m 174 #[.val (.long v), .second] [(.int (lcmpW v (10000000000000 : Int64))), (.int (own_d12 v))])) _
        refine XS.ifNo X0.here hx rfl (hb hby d2_174) rfl ((if0 _ _).trans (flt hc87).1) ?_
        show Steps p.tables e below (s₁.setTop (mkF m 177 #[.val (.long v), .second] [(.int (own_d12 v))])) _
        refine XS.iconst X0.here hx rfl (hb hby d2_177) ?_
        show Steps p.tables e below (s₁.setTop (mkF m 178 #[.val (.long v), .second] [(.int (1 : Int32)), (.int (own_d12 v))])) _
        refine XS.goto X0.here hx rfl (pc0 := 178) (pc' := 182) rfl (hb hby d2_178) (by decide) (by decide) ?_
        exact zk
      refine fun zt zk => R90 zt ?_
      have q91 : (if (lcmpW v (10000000000000 : Int64)) < (0 : Int32) then (0 : Int32) else (1 : Int32) : Int32) = (1 : Int32) := (if_neg hc87)
      rw [q91] at zk
      try rw [q91]
      exact zk
  have R92 : ∀ zt, Steps p.tables e below (s₁.setTop (mkF m 188 #[.val (.long v), .second] [(.int (lcmpW v (100000000000000 : Int64))), (.int (own_d13 v))])) zt → Steps p.tables e below (s₁.setTop (entryFrame m #[(.long v)] 2)) zt := by
    intro zt zk
    refine R86 zt ?_
    show Steps p.tables e below (s₁.setTop (mkF m 182 #[.val (.long v), .second] [(.int (own_tm v (10000000000000 : Int64))), (.int (own_d12 v))])) _
    refine XS.iadd X0.here hx rfl (hb hby d2_182) rfl ?_
    show Steps p.tables e below (s₁.setTop (mkF m 183 #[.val (.long v), .second] [(.int (own_d13 v))])) _
    refine XS.lloadN X0.here hx rfl (hb hby d2_183) rfl ?_
    show Steps p.tables e below (s₁.setTop (mkF m 184 #[.val (.long v), .second] [(.long v), (.int (own_d13 v))])) _
    refine X0.ldc2Long hx hown (mvT hZ (hw _ (List.mem_of_getElem? (i := 25) rfl))) (g := (mkF m 184 #[.val (.long v), .second] [(.long v), (.int (own_d13 v))])) rfl (hb hby d2_184) _ ?_
    show Steps p.tables e below (s₁.setTop (mkF m 187 #[.val (.long v), .second] [(.long (100000000000000 : Int64)), (.long v), (.int (own_d13 v))])) _
    refine XS.lcmp X0.here hx rfl (hb hby d2_187) rfl ?_
    exact zk
  have R93 : ∀ zt, Steps p.tables e below (s₁.setTop (mkF m 196 #[.val (.long v), .second] [(.int (if (lcmpW v (100000000000000 : Int64)) < (0 : Int32) then (0 : Int32) else (1 : Int32) : Int32)), (.int (own_d13 v))])) zt → Steps p.tables e below (s₁.setTop (entryFrame m #[(.long v)] 2)) zt := by
    by_cases hc94 : (lcmpW v (100000000000000 : Int64)) < (0 : Int32)
    ·
      skip
      have R95 : ∀ zt, Steps p.tables e below (s₁.setTop (mkF m 196 #[.val (.long v), .second] [(.int (0 : Int32)), (.int (own_d13 v))])) zt → Steps p.tables e below (s₁.setTop (entryFrame m #[(.long v)] 2)) zt := by
        intro zt zk
        refine R92 zt ?_
        show Steps p.tables e below (s₁.setTop (mkF m 188 #[.val (.long v), .second] [(.int (lcmpW v (100000000000000 : Int64))), (.int (own_d13 v))])) _
        refine XS.ifYes X0.here hx rfl (pc0 := 188) (pc' := 195) rfl (hb hby d2_188) rfl ((if0 _ _).trans (tlt hc94).1) (by decide) (by decide) ?_
        show Steps p.tables e below (s₁.setTop (mkF m 195 #[.val (.long v), .second] [(.int (own_d13 v))])) _
        refine XS.iconst X0.here hx rfl (hb hby d2_195) ?_
        exact zk
      refine fun zt zk => R95 zt ?_
      have q96 : (if (lcmpW v (100000000000000 : Int64)) < (0 : Int32) then (0 : Int32) else (1 : Int32) : Int32) = (0 : Int32) := (if_pos hc94)
      rw [q96] at zk
      try rw [q96]
      exact zk
    ·
      skip
      have R97 : ∀ zt, Steps p.tables e below (s₁.setTop (mkF m 196 #[.val (.long v), .second] [(.int (1 : Int32)), (.int (own_d13 v))])) zt → Steps p.tables e below (s₁.setTop (entryFrame m #[(.long v)] 2)) zt := by
        intro zt zk
        refine R92 zt ?_
        show Steps p.tables e below (s₁.setTop (mkF m 188 #[.val (.long v), .second] [(.int (lcmpW v (100000000000000 : Int64))), (.int (own_d13 v))])) _
        refine XS.ifNo X0.here hx rfl (hb hby d2_188) rfl ((if0 _ _).trans (flt hc94).1) ?_
        show Steps p.tables e below (s₁.setTop (mkF m 191 #[.val (.long v), .second] [(.int (own_d13 v))])) _
        refine XS.iconst X0.here hx rfl (hb hby d2_191) ?_
        show Steps p.tables e below (s₁.setTop (mkF m 192 #[.val (.long v), .second] [(.int (1 : Int32)), (.int (own_d13 v))])) _
        refine XS.goto X0.here hx rfl (pc0 := 192) (pc' := 196) rfl (hb hby d2_192) (by decide) (by decide) ?_
        exact zk
      refine fun zt zk => R97 zt ?_
      have q98 : (if (lcmpW v (100000000000000 : Int64)) < (0 : Int32) then (0 : Int32) else (1 : Int32) : Int32) = (1 : Int32) := (if_neg hc94)
      rw [q98] at zk
      try rw [q98]
      exact zk
  have R99 : ∀ zt, Steps p.tables e below (s₁.setTop (mkF m 202 #[.val (.long v), .second] [(.int (lcmpW v (1000000000000000 : Int64))), (.int (own_d14 v))])) zt → Steps p.tables e below (s₁.setTop (entryFrame m #[(.long v)] 2)) zt := by
    intro zt zk
    refine R93 zt ?_
    show Steps p.tables e below (s₁.setTop (mkF m 196 #[.val (.long v), .second] [(.int (own_tm v (100000000000000 : Int64))), (.int (own_d13 v))])) _
    refine XS.iadd X0.here hx rfl (hb hby d2_196) rfl ?_
    show Steps p.tables e below (s₁.setTop (mkF m 197 #[.val (.long v), .second] [(.int (own_d14 v))])) _
    refine XS.lloadN X0.here hx rfl (hb hby d2_197) rfl ?_
    show Steps p.tables e below (s₁.setTop (mkF m 198 #[.val (.long v), .second] [(.long v), (.int (own_d14 v))])) _
    refine X0.ldc2Long hx hown (mvT hZ (hw _ (List.mem_of_getElem? (i := 26) rfl))) (g := (mkF m 198 #[.val (.long v), .second] [(.long v), (.int (own_d14 v))])) rfl (hb hby d2_198) _ ?_
    show Steps p.tables e below (s₁.setTop (mkF m 201 #[.val (.long v), .second] [(.long (1000000000000000 : Int64)), (.long v), (.int (own_d14 v))])) _
    refine XS.lcmp X0.here hx rfl (hb hby d2_201) rfl ?_
    exact zk
  have R100 : ∀ zt, Steps p.tables e below (s₁.setTop (mkF m 210 #[.val (.long v), .second] [(.int (if (lcmpW v (1000000000000000 : Int64)) < (0 : Int32) then (0 : Int32) else (1 : Int32) : Int32)), (.int (own_d14 v))])) zt → Steps p.tables e below (s₁.setTop (entryFrame m #[(.long v)] 2)) zt := by
    by_cases hc101 : (lcmpW v (1000000000000000 : Int64)) < (0 : Int32)
    ·
      skip
      have R102 : ∀ zt, Steps p.tables e below (s₁.setTop (mkF m 210 #[.val (.long v), .second] [(.int (0 : Int32)), (.int (own_d14 v))])) zt → Steps p.tables e below (s₁.setTop (entryFrame m #[(.long v)] 2)) zt := by
        intro zt zk
        refine R99 zt ?_
        show Steps p.tables e below (s₁.setTop (mkF m 202 #[.val (.long v), .second] [(.int (lcmpW v (1000000000000000 : Int64))), (.int (own_d14 v))])) _
        refine XS.ifYes X0.here hx rfl (pc0 := 202) (pc' := 209) rfl (hb hby d2_202) rfl ((if0 _ _).trans (tlt hc101).1) (by decide) (by decide) ?_
        show Steps p.tables e below (s₁.setTop (mkF m 209 #[.val (.long v), .second] [(.int (own_d14 v))])) _
        refine XS.iconst X0.here hx rfl (hb hby d2_209) ?_
        exact zk
      refine fun zt zk => R102 zt ?_
      have q103 : (if (lcmpW v (1000000000000000 : Int64)) < (0 : Int32) then (0 : Int32) else (1 : Int32) : Int32) = (0 : Int32) := (if_pos hc101)
      rw [q103] at zk
      try rw [q103]
      exact zk
    ·
      skip
      have R104 : ∀ zt, Steps p.tables e below (s₁.setTop (mkF m 210 #[.val (.long v), .second] [(.int (1 : Int32)), (.int (own_d14 v))])) zt → Steps p.tables e below (s₁.setTop (entryFrame m #[(.long v)] 2)) zt := by
        intro zt zk
        refine R99 zt ?_
        show Steps p.tables e below (s₁.setTop (mkF m 202 #[.val (.long v), .second] [(.int (lcmpW v (1000000000000000 : Int64))), (.int (own_d14 v))])) _
        refine XS.ifNo X0.here hx rfl (hb hby d2_202) rfl ((if0 _ _).trans (flt hc101).1) ?_
        show Steps p.tables e below (s₁.setTop (mkF m 205 #[.val (.long v), .second] [(.int (own_d14 v))])) _
        refine XS.iconst X0.here hx rfl (hb hby d2_205) ?_
        show Steps p.tables e below (s₁.setTop (mkF m 206 #[.val (.long v), .second] [(.int (1 : Int32)), (.int (own_d14 v))])) _
        refine XS.goto X0.here hx rfl (pc0 := 206) (pc' := 210) rfl (hb hby d2_206) (by decide) (by decide) ?_
        exact zk
      refine fun zt zk => R104 zt ?_
      have q105 : (if (lcmpW v (1000000000000000 : Int64)) < (0 : Int32) then (0 : Int32) else (1 : Int32) : Int32) = (1 : Int32) := (if_neg hc101)
      rw [q105] at zk
      try rw [q105]
      exact zk
  have R106 : ∀ zt, Steps p.tables e below (s₁.setTop (mkF m 216 #[.val (.long v), .second] [(.int (lcmpW v (10000000000000000 : Int64))), (.int (own_d15 v))])) zt → Steps p.tables e below (s₁.setTop (entryFrame m #[(.long v)] 2)) zt := by
    intro zt zk
    refine R100 zt ?_
    show Steps p.tables e below (s₁.setTop (mkF m 210 #[.val (.long v), .second] [(.int (own_tm v (1000000000000000 : Int64))), (.int (own_d14 v))])) _
    refine XS.iadd X0.here hx rfl (hb hby d2_210) rfl ?_
    show Steps p.tables e below (s₁.setTop (mkF m 211 #[.val (.long v), .second] [(.int (own_d15 v))])) _
    refine XS.lloadN X0.here hx rfl (hb hby d2_211) rfl ?_
    show Steps p.tables e below (s₁.setTop (mkF m 212 #[.val (.long v), .second] [(.long v), (.int (own_d15 v))])) _
    refine X0.ldc2Long hx hown (mvT hZ (hw _ (List.mem_of_getElem? (i := 27) rfl))) (g := (mkF m 212 #[.val (.long v), .second] [(.long v), (.int (own_d15 v))])) rfl (hb hby d2_212) _ ?_
    show Steps p.tables e below (s₁.setTop (mkF m 215 #[.val (.long v), .second] [(.long (10000000000000000 : Int64)), (.long v), (.int (own_d15 v))])) _
    refine XS.lcmp X0.here hx rfl (hb hby d2_215) rfl ?_
    exact zk
  have R107 : ∀ zt, Steps p.tables e below (s₁.setTop (mkF m 224 #[.val (.long v), .second] [(.int (if (lcmpW v (10000000000000000 : Int64)) < (0 : Int32) then (0 : Int32) else (1 : Int32) : Int32)), (.int (own_d15 v))])) zt → Steps p.tables e below (s₁.setTop (entryFrame m #[(.long v)] 2)) zt := by
    by_cases hc108 : (lcmpW v (10000000000000000 : Int64)) < (0 : Int32)
    ·
      skip
      have R109 : ∀ zt, Steps p.tables e below (s₁.setTop (mkF m 224 #[.val (.long v), .second] [(.int (0 : Int32)), (.int (own_d15 v))])) zt → Steps p.tables e below (s₁.setTop (entryFrame m #[(.long v)] 2)) zt := by
        intro zt zk
        refine R106 zt ?_
        show Steps p.tables e below (s₁.setTop (mkF m 216 #[.val (.long v), .second] [(.int (lcmpW v (10000000000000000 : Int64))), (.int (own_d15 v))])) _
        refine XS.ifYes X0.here hx rfl (pc0 := 216) (pc' := 223) rfl (hb hby d2_216) rfl ((if0 _ _).trans (tlt hc108).1) (by decide) (by decide) ?_
        show Steps p.tables e below (s₁.setTop (mkF m 223 #[.val (.long v), .second] [(.int (own_d15 v))])) _
        refine XS.iconst X0.here hx rfl (hb hby d2_223) ?_
        exact zk
      refine fun zt zk => R109 zt ?_
      have q110 : (if (lcmpW v (10000000000000000 : Int64)) < (0 : Int32) then (0 : Int32) else (1 : Int32) : Int32) = (0 : Int32) := (if_pos hc108)
      rw [q110] at zk
      try rw [q110]
      exact zk
    ·
      skip
      have R111 : ∀ zt, Steps p.tables e below (s₁.setTop (mkF m 224 #[.val (.long v), .second] [(.int (1 : Int32)), (.int (own_d15 v))])) zt → Steps p.tables e below (s₁.setTop (entryFrame m #[(.long v)] 2)) zt := by
        intro zt zk
        refine R106 zt ?_
        show Steps p.tables e below (s₁.setTop (mkF m 216 #[.val (.long v), .second] [(.int (lcmpW v (10000000000000000 : Int64))), (.int (own_d15 v))])) _
        refine XS.ifNo X0.here hx rfl (hb hby d2_216) rfl ((if0 _ _).trans (flt hc108).1) ?_
        show Steps p.tables e below (s₁.setTop (mkF m 219 #[.val (.long v), .second] [(.int (own_d15 v))])) _
        refine XS.iconst X0.here hx rfl (hb hby d2_219) ?_
        show Steps p.tables e below (s₁.setTop (mkF m 220 #[.val (.long v), .second] [(.int (1 : Int32)), (.int (own_d15 v))])) _
        refine XS.goto X0.here hx rfl (pc0 := 220) (pc' := 224) rfl (hb hby d2_220) (by decide) (by decide) ?_
        exact zk
      refine fun zt zk => R111 zt ?_
      have q112 : (if (lcmpW v (10000000000000000 : Int64)) < (0 : Int32) then (0 : Int32) else (1 : Int32) : Int32) = (1 : Int32) := (if_neg hc108)
      rw [q112] at zk
      try rw [q112]
      exact zk
  have R113 : ∀ zt, Steps p.tables e below (s₁.setTop (mkF m 230 #[.val (.long v), .second] [(.int (lcmpW v (100000000000000000 : Int64))), (.int (own_d16 v))])) zt → Steps p.tables e below (s₁.setTop (entryFrame m #[(.long v)] 2)) zt := by
    intro zt zk
    refine R107 zt ?_
    show Steps p.tables e below (s₁.setTop (mkF m 224 #[.val (.long v), .second] [(.int (own_tm v (10000000000000000 : Int64))), (.int (own_d15 v))])) _
    refine XS.iadd X0.here hx rfl (hb hby d2_224) rfl ?_
    show Steps p.tables e below (s₁.setTop (mkF m 225 #[.val (.long v), .second] [(.int (own_d16 v))])) _
    refine XS.lloadN X0.here hx rfl (hb hby d2_225) rfl ?_
    show Steps p.tables e below (s₁.setTop (mkF m 226 #[.val (.long v), .second] [(.long v), (.int (own_d16 v))])) _
    refine X0.ldc2Long hx hown (mvT hZ (hw _ (List.mem_of_getElem? (i := 28) rfl))) (g := (mkF m 226 #[.val (.long v), .second] [(.long v), (.int (own_d16 v))])) rfl (hb hby d2_226) _ ?_
    show Steps p.tables e below (s₁.setTop (mkF m 229 #[.val (.long v), .second] [(.long (100000000000000000 : Int64)), (.long v), (.int (own_d16 v))])) _
    refine XS.lcmp X0.here hx rfl (hb hby d2_229) rfl ?_
    exact zk
  have R114 : ∀ zt, Steps p.tables e below (s₁.setTop (mkF m 238 #[.val (.long v), .second] [(.int (if (lcmpW v (100000000000000000 : Int64)) < (0 : Int32) then (0 : Int32) else (1 : Int32) : Int32)), (.int (own_d16 v))])) zt → Steps p.tables e below (s₁.setTop (entryFrame m #[(.long v)] 2)) zt := by
    by_cases hc115 : (lcmpW v (100000000000000000 : Int64)) < (0 : Int32)
    ·
      skip
      have R116 : ∀ zt, Steps p.tables e below (s₁.setTop (mkF m 238 #[.val (.long v), .second] [(.int (0 : Int32)), (.int (own_d16 v))])) zt → Steps p.tables e below (s₁.setTop (entryFrame m #[(.long v)] 2)) zt := by
        intro zt zk
        refine R113 zt ?_
        show Steps p.tables e below (s₁.setTop (mkF m 230 #[.val (.long v), .second] [(.int (lcmpW v (100000000000000000 : Int64))), (.int (own_d16 v))])) _
        refine XS.ifYes X0.here hx rfl (pc0 := 230) (pc' := 237) rfl (hb hby d2_230) rfl ((if0 _ _).trans (tlt hc115).1) (by decide) (by decide) ?_
        show Steps p.tables e below (s₁.setTop (mkF m 237 #[.val (.long v), .second] [(.int (own_d16 v))])) _
        refine XS.iconst X0.here hx rfl (hb hby d2_237) ?_
        exact zk
      refine fun zt zk => R116 zt ?_
      have q117 : (if (lcmpW v (100000000000000000 : Int64)) < (0 : Int32) then (0 : Int32) else (1 : Int32) : Int32) = (0 : Int32) := (if_pos hc115)
      rw [q117] at zk
      try rw [q117]
      exact zk
    ·
      skip
      have R118 : ∀ zt, Steps p.tables e below (s₁.setTop (mkF m 238 #[.val (.long v), .second] [(.int (1 : Int32)), (.int (own_d16 v))])) zt → Steps p.tables e below (s₁.setTop (entryFrame m #[(.long v)] 2)) zt := by
        intro zt zk
        refine R113 zt ?_
        show Steps p.tables e below (s₁.setTop (mkF m 230 #[.val (.long v), .second] [(.int (lcmpW v (100000000000000000 : Int64))), (.int (own_d16 v))])) _
        refine XS.ifNo X0.here hx rfl (hb hby d2_230) rfl ((if0 _ _).trans (flt hc115).1) ?_
        show Steps p.tables e below (s₁.setTop (mkF m 233 #[.val (.long v), .second] [(.int (own_d16 v))])) _
        refine XS.iconst X0.here hx rfl (hb hby d2_233) ?_
        show Steps p.tables e below (s₁.setTop (mkF m 234 #[.val (.long v), .second] [(.int (1 : Int32)), (.int (own_d16 v))])) _
        refine XS.goto X0.here hx rfl (pc0 := 234) (pc' := 238) rfl (hb hby d2_234) (by decide) (by decide) ?_
        exact zk
      refine fun zt zk => R118 zt ?_
      have q119 : (if (lcmpW v (100000000000000000 : Int64)) < (0 : Int32) then (0 : Int32) else (1 : Int32) : Int32) = (1 : Int32) := (if_neg hc115)
      rw [q119] at zk
      try rw [q119]
      exact zk
  have R120 : ∀ zt, Steps p.tables e below (s₁.setTop (mkF m 244 #[.val (.long v), .second] [(.int (lcmpW v (1000000000000000000 : Int64))), (.int (own_d17 v))])) zt → Steps p.tables e below (s₁.setTop (entryFrame m #[(.long v)] 2)) zt := by
    intro zt zk
    refine R114 zt ?_
    show Steps p.tables e below (s₁.setTop (mkF m 238 #[.val (.long v), .second] [(.int (own_tm v (100000000000000000 : Int64))), (.int (own_d16 v))])) _
    refine XS.iadd X0.here hx rfl (hb hby d2_238) rfl ?_
    show Steps p.tables e below (s₁.setTop (mkF m 239 #[.val (.long v), .second] [(.int (own_d17 v))])) _
    refine XS.lloadN X0.here hx rfl (hb hby d2_239) rfl ?_
    show Steps p.tables e below (s₁.setTop (mkF m 240 #[.val (.long v), .second] [(.long v), (.int (own_d17 v))])) _
    refine X0.ldc2Long hx hown (mvT hZ (hw _ (List.mem_of_getElem? (i := 29) rfl))) (g := (mkF m 240 #[.val (.long v), .second] [(.long v), (.int (own_d17 v))])) rfl (hb hby d2_240) _ ?_
    show Steps p.tables e below (s₁.setTop (mkF m 243 #[.val (.long v), .second] [(.long (1000000000000000000 : Int64)), (.long v), (.int (own_d17 v))])) _
    refine XS.lcmp X0.here hx rfl (hb hby d2_243) rfl ?_
    exact zk
  have R121 : ∀ zt, Steps p.tables e below (s₁.setTop (mkF m 252 #[.val (.long v), .second] [(.int (if (lcmpW v (1000000000000000000 : Int64)) < (0 : Int32) then (0 : Int32) else (1 : Int32) : Int32)), (.int (own_d17 v))])) zt → Steps p.tables e below (s₁.setTop (entryFrame m #[(.long v)] 2)) zt := by
    by_cases hc122 : (lcmpW v (1000000000000000000 : Int64)) < (0 : Int32)
    ·
      skip
      have R123 : ∀ zt, Steps p.tables e below (s₁.setTop (mkF m 252 #[.val (.long v), .second] [(.int (0 : Int32)), (.int (own_d17 v))])) zt → Steps p.tables e below (s₁.setTop (entryFrame m #[(.long v)] 2)) zt := by
        intro zt zk
        refine R120 zt ?_
        show Steps p.tables e below (s₁.setTop (mkF m 244 #[.val (.long v), .second] [(.int (lcmpW v (1000000000000000000 : Int64))), (.int (own_d17 v))])) _
        refine XS.ifYes X0.here hx rfl (pc0 := 244) (pc' := 251) rfl (hb hby d2_244) rfl ((if0 _ _).trans (tlt hc122).1) (by decide) (by decide) ?_
        show Steps p.tables e below (s₁.setTop (mkF m 251 #[.val (.long v), .second] [(.int (own_d17 v))])) _
        refine XS.iconst X0.here hx rfl (hb hby d2_251) ?_
        exact zk
      refine fun zt zk => R123 zt ?_
      have q124 : (if (lcmpW v (1000000000000000000 : Int64)) < (0 : Int32) then (0 : Int32) else (1 : Int32) : Int32) = (0 : Int32) := (if_pos hc122)
      rw [q124] at zk
      try rw [q124]
      exact zk
    ·
      skip
      have R125 : ∀ zt, Steps p.tables e below (s₁.setTop (mkF m 252 #[.val (.long v), .second] [(.int (1 : Int32)), (.int (own_d17 v))])) zt → Steps p.tables e below (s₁.setTop (entryFrame m #[(.long v)] 2)) zt := by
        intro zt zk
        refine R120 zt ?_
        show Steps p.tables e below (s₁.setTop (mkF m 244 #[.val (.long v), .second] [(.int (lcmpW v (1000000000000000000 : Int64))), (.int (own_d17 v))])) _
        refine XS.ifNo X0.here hx rfl (hb hby d2_244) rfl ((if0 _ _).trans (flt hc122).1) ?_
        show Steps p.tables e below (s₁.setTop (mkF m 247 #[.val (.long v), .second] [(.int (own_d17 v))])) _
        refine XS.iconst X0.here hx rfl (hb hby d2_247) ?_
        show Steps p.tables e below (s₁.setTop (mkF m 248 #[.val (.long v), .second] [(.int (1 : Int32)), (.int (own_d17 v))])) _
        refine XS.goto X0.here hx rfl (pc0 := 248) (pc' := 252) rfl (hb hby d2_248) (by decide) (by decide) ?_
        exact zk
      refine fun zt zk => R125 zt ?_
      have q126 : (if (lcmpW v (1000000000000000000 : Int64)) < (0 : Int32) then (0 : Int32) else (1 : Int32) : Int32) = (1 : Int32) := (if_neg hc122)
      rw [q126] at zk
      try rw [q126]
      exact zk
  have R127 : ∀ zt, Steps p.tables e below (s₁.setTop (mkF m 253 #[.val (.long v), .second] [(.int (own_d18 v))])) zt → Steps p.tables e below (s₁.setTop (entryFrame m #[(.long v)] 2)) zt := by
    intro zt zk
    refine R121 zt ?_
    show Steps p.tables e below (s₁.setTop (mkF m 252 #[.val (.long v), .second] [(.int (own_tm v (1000000000000000000 : Int64))), (.int (own_d17 v))])) _
    refine XS.iadd X0.here hx rfl (hb hby d2_252) rfl ?_
    exact zk
  obtain ⟨fs, hr, hrun, hended, hW, hsame⟩ := X0.leave (v := some (.int (own_d18 v))) (fun h => by rw [Bd.returns] at h; cases h)
  refine ⟨_, _, R127 _ ?_, hrun, hended, _, _, rfl, ?_, ⟨_, rfl⟩, hW, hsame.mono (by decide) (by decide)⟩
  · exact retI X0 hx Bd.returns (hb hby d2_253) hr
  · show Q2 Z v V d h0 n0 _ s₁.heap _
    rw [e0]
    exact ⟨(by rw [own_digs hv hD]), N0, rfl⟩
theorem ef4 (m : MethodId) (x0 : Int32) : entryFrame m #[(.int x0)] 2 = mkF m 0 #[.val (.int x0), .unset] [] := by first | (simp [entryFrame, mkF, argsToLocals, Value.category]; done) | rfl
theorem d4_0 : decode method_4_code 0 = .ok (.bipush 19, 2) := by decide +kernel
theorem d4_2 : decode method_4_code 2 = .ok (.newarray .long, 2) := by decide +kernel
theorem d4_4 : decode method_4_code 4 = .ok (.dup, 1) := by decide +kernel
theorem d4_5 : decode method_4_code 5 = .ok (.iconst 0, 1) := by decide +kernel
theorem d4_6 : decode method_4_code 6 = .ok (.lconst 1, 1) := by decide +kernel
theorem d4_7 : decode method_4_code 7 = .ok (.lastore, 1) := by decide +kernel
theorem d4_8 : decode method_4_code 8 = .ok (.dup, 1) := by decide +kernel
theorem d4_9 : decode method_4_code 9 = .ok (.iconst 1, 1) := by decide +kernel
theorem d4_10 : decode method_4_code 10 = .ok (.ldc2_w 27, 3) := by decide +kernel
theorem d4_13 : decode method_4_code 13 = .ok (.lastore, 1) := by decide +kernel
theorem d4_14 : decode method_4_code 14 = .ok (.dup, 1) := by decide +kernel
theorem d4_15 : decode method_4_code 15 = .ok (.iconst 2, 1) := by decide +kernel
theorem d4_16 : decode method_4_code 16 = .ok (.ldc2_w 29, 3) := by decide +kernel
theorem d4_19 : decode method_4_code 19 = .ok (.lastore, 1) := by decide +kernel
theorem d4_20 : decode method_4_code 20 = .ok (.dup, 1) := by decide +kernel
theorem d4_21 : decode method_4_code 21 = .ok (.iconst 3, 1) := by decide +kernel
theorem d4_22 : decode method_4_code 22 = .ok (.ldc2_w 31, 3) := by decide +kernel
theorem d4_25 : decode method_4_code 25 = .ok (.lastore, 1) := by decide +kernel
theorem d4_26 : decode method_4_code 26 = .ok (.dup, 1) := by decide +kernel
theorem d4_27 : decode method_4_code 27 = .ok (.iconst 4, 1) := by decide +kernel
theorem d4_28 : decode method_4_code 28 = .ok (.ldc2_w 33, 3) := by decide +kernel
theorem d4_31 : decode method_4_code 31 = .ok (.lastore, 1) := by decide +kernel
theorem d4_32 : decode method_4_code 32 = .ok (.dup, 1) := by decide +kernel
theorem d4_33 : decode method_4_code 33 = .ok (.iconst 5, 1) := by decide +kernel
theorem d4_34 : decode method_4_code 34 = .ok (.ldc2_w 35, 3) := by decide +kernel
theorem d4_37 : decode method_4_code 37 = .ok (.lastore, 1) := by decide +kernel
theorem d4_38 : decode method_4_code 38 = .ok (.dup, 1) := by decide +kernel
theorem d4_39 : decode method_4_code 39 = .ok (.bipush 6, 2) := by decide +kernel
theorem d4_41 : decode method_4_code 41 = .ok (.ldc2_w 37, 3) := by decide +kernel
theorem d4_44 : decode method_4_code 44 = .ok (.lastore, 1) := by decide +kernel
theorem d4_45 : decode method_4_code 45 = .ok (.dup, 1) := by decide +kernel
theorem d4_46 : decode method_4_code 46 = .ok (.bipush 7, 2) := by decide +kernel
theorem d4_48 : decode method_4_code 48 = .ok (.ldc2_w 39, 3) := by decide +kernel
theorem d4_51 : decode method_4_code 51 = .ok (.lastore, 1) := by decide +kernel
theorem d4_52 : decode method_4_code 52 = .ok (.dup, 1) := by decide +kernel
theorem d4_53 : decode method_4_code 53 = .ok (.bipush 8, 2) := by decide +kernel
theorem d4_55 : decode method_4_code 55 = .ok (.ldc2_w 41, 3) := by decide +kernel
theorem d4_58 : decode method_4_code 58 = .ok (.lastore, 1) := by decide +kernel
theorem d4_59 : decode method_4_code 59 = .ok (.dup, 1) := by decide +kernel
theorem d4_60 : decode method_4_code 60 = .ok (.bipush 9, 2) := by decide +kernel
theorem d4_62 : decode method_4_code 62 = .ok (.ldc2_w 43, 3) := by decide +kernel
theorem d4_65 : decode method_4_code 65 = .ok (.lastore, 1) := by decide +kernel
theorem d4_66 : decode method_4_code 66 = .ok (.dup, 1) := by decide +kernel
theorem d4_67 : decode method_4_code 67 = .ok (.bipush 10, 2) := by decide +kernel
theorem d4_69 : decode method_4_code 69 = .ok (.ldc2_w 45, 3) := by decide +kernel
theorem d4_72 : decode method_4_code 72 = .ok (.lastore, 1) := by decide +kernel
theorem d4_73 : decode method_4_code 73 = .ok (.dup, 1) := by decide +kernel
theorem d4_74 : decode method_4_code 74 = .ok (.bipush 11, 2) := by decide +kernel
theorem d4_76 : decode method_4_code 76 = .ok (.ldc2_w 47, 3) := by decide +kernel
theorem d4_79 : decode method_4_code 79 = .ok (.lastore, 1) := by decide +kernel
theorem d4_80 : decode method_4_code 80 = .ok (.dup, 1) := by decide +kernel
theorem d4_81 : decode method_4_code 81 = .ok (.bipush 12, 2) := by decide +kernel
theorem d4_83 : decode method_4_code 83 = .ok (.ldc2_w 49, 3) := by decide +kernel
theorem d4_86 : decode method_4_code 86 = .ok (.lastore, 1) := by decide +kernel
theorem d4_87 : decode method_4_code 87 = .ok (.dup, 1) := by decide +kernel
theorem d4_88 : decode method_4_code 88 = .ok (.bipush 13, 2) := by decide +kernel
theorem d4_90 : decode method_4_code 90 = .ok (.ldc2_w 51, 3) := by decide +kernel
theorem d4_93 : decode method_4_code 93 = .ok (.lastore, 1) := by decide +kernel
theorem d4_94 : decode method_4_code 94 = .ok (.dup, 1) := by decide +kernel
theorem d4_95 : decode method_4_code 95 = .ok (.bipush 14, 2) := by decide +kernel
theorem d4_97 : decode method_4_code 97 = .ok (.ldc2_w 53, 3) := by decide +kernel
theorem d4_100 : decode method_4_code 100 = .ok (.lastore, 1) := by decide +kernel
theorem d4_101 : decode method_4_code 101 = .ok (.dup, 1) := by decide +kernel
theorem d4_102 : decode method_4_code 102 = .ok (.bipush 15, 2) := by decide +kernel
theorem d4_104 : decode method_4_code 104 = .ok (.ldc2_w 55, 3) := by decide +kernel
theorem d4_107 : decode method_4_code 107 = .ok (.lastore, 1) := by decide +kernel
theorem d4_108 : decode method_4_code 108 = .ok (.dup, 1) := by decide +kernel
theorem d4_109 : decode method_4_code 109 = .ok (.bipush 16, 2) := by decide +kernel
theorem d4_111 : decode method_4_code 111 = .ok (.ldc2_w 57, 3) := by decide +kernel
theorem d4_114 : decode method_4_code 114 = .ok (.lastore, 1) := by decide +kernel
theorem d4_115 : decode method_4_code 115 = .ok (.dup, 1) := by decide +kernel
theorem d4_116 : decode method_4_code 116 = .ok (.bipush 17, 2) := by decide +kernel
theorem d4_118 : decode method_4_code 118 = .ok (.ldc2_w 59, 3) := by decide +kernel
theorem d4_121 : decode method_4_code 121 = .ok (.lastore, 1) := by decide +kernel
theorem d4_122 : decode method_4_code 122 = .ok (.dup, 1) := by decide +kernel
theorem d4_123 : decode method_4_code 123 = .ok (.bipush 18, 2) := by decide +kernel
theorem d4_125 : decode method_4_code 125 = .ok (.ldc2_w 61, 3) := by decide +kernel
theorem d4_128 : decode method_4_code 128 = .ok (.lastore, 1) := by decide +kernel
theorem d4_129 : decode method_4_code 129 = .ok (.astore_n 1, 1) := by decide +kernel
theorem d4_130 : decode method_4_code 130 = .ok (.aload_n 1, 1) := by decide +kernel
theorem d4_131 : decode method_4_code 131 = .ok (.iload_n 0, 1) := by decide +kernel
theorem d4_132 : decode method_4_code 132 = .ok (.laload, 1) := by decide +kernel
theorem d4_133 : decode method_4_code 133 = .ok (.lreturn, 1) := by decide +kernel
def Q4 (Z : State) (jj : Int32) (kn : Nat) (h0 : Heap) (n0 : Nat) (v : Option Value) (h : Heap) (L : List Loc) : Prop := v = some (.long (own_p10 kn)) ∧ Fr n0 L ∧ Keep h0 h []
set_option maxRecDepth 65536 in
set_option maxHeartbeats 40000000 in
theorem rm4 (l : Launch) (Z : State) (a0 : Array Value) (hw : ∀ d ∈ tables_1, d.before a0 Z = true) (ws : List Jvm.Cond) (jj : Int32) (kn : Nat) (h0 : Heap) (n0 : Nat) (Z0 : n0 ≤ h0.size) (hj : jj.toInt = (kn : Int)) (hk : kn ≤ 18) :
    MetFree l (⟨"com/example/reset/reset/DecimalWriteWholePinLaw", "pow10", "(I)J"⟩ : MethodName) (head1 (Jvm.Cond.code (⟨"com/example/reset/reset/DecimalWriteWholePinLaw", "pow10", "(I)J"⟩ : MethodName) method_4_code 2 (some .long) :: ws) ({ frames := 0, cells := 1, slots := 19, locals := 0 } : Room)) (fun zza zzU => zza = #[(.int jj)] ∧ Z.Warmed39 zzU.vm ∧ zzU.heap = h0) (fun _ _ _ _ _ => True) (fun _ zzU zzo zzV => ∃ zzv zzL, zzo = .returned zzv ∧ Q4 Z jj kn h0 n0 zzv zzV.heap zzL ∧ FrameEnd zzU zzo zzV zzL ({ frames := 0, cells := 1, slots := 19, locals := 0 } : Room).cells ({ frames := 0, cells := 1, slots := 19, locals := 0 } : Room).slots) := by
  refine MetFree.of_bodySF (plainFor_of_name pn_0) hisR ?_
  intro p e s m args below meth c s₁ Bd hml0 hP hK
  obtain ⟨rfl, hZ, hh⟩ := hP
  have hx := Bd.exec
  have hby := Bd.bytes
  have hml : c.maxLocals = 2 := hml0
  have hown : s.vm.findClass "com/example/reset/reset/DecimalWriteWholePinLaw" = some m.cls := findClass_of_methodNamed Bd.named
  have hnm := (name_of_methodNamed Bd.named Bd.method).1
  have X0 : Stand p l e ({ frames := 0, cells := 1, slots := 19, locals := 0 } : Room) s m #[(.int jj)] below meth c s₁ [] 0 0 := Stand.of_body Bd
  have e0 : s₁.heap = h0 := by rw [← hh, Bd.state]; rfl
  have N0 := Fr.nil n0
  have R0 : ∀ zt, Steps p.tables e below (s₁.setTop (mkF m 0 #[.val (.int jj), .unset] [])) zt → Steps p.tables e below (s₁.setTop (entryFrame m #[(.int jj)] 2)) zt := fun zt zk => castTop (ef4 m jj) zk
  have KP := Keep.refl h0 []
  have R1 : ∀ zt, Steps p.tables e below (s₁.setTop (mkF m 2 #[.val (.int jj), .unset] [(.int (19 : Int32))])) zt → Steps p.tables e below (s₁.setTop (entryFrame m #[(.int jj)] 2)) zt := by
    intro zt zk
    refine R0 zt ?_
    show Steps p.tables e below (s₁.setTop (mkF m 0 #[.val (.int jj), .unset] [])) _
    refine XS.bipush X0.here hx rfl (hb hby d4_0) ?_
    exact zk
  obtain ⟨T2, h2, k2, X2, e2, E2, A2, st2⟩ := newP X0 hx hZ (hw _ (List.mem_of_getElem? (i := 37) rfl)) e0 (g := (mkF m 2 #[.val (.int jj), .unset] [(.int (19 : Int32))])) rfl (hb hby d4_2) rfl (by decide) (cap := 19) (by decide) (by decide) (by decide) (by decide)
  obtain ⟨b, g2⟩ : ∃ z, z = h0.size := ⟨_, rfl⟩
  rw [← g2] at A2 st2
  have ge_b : n0 ≤ b := by rw [g2]; exact Z0
  have Sz2 := Nat.le_trans Z0 E2.1
  have sz0_b : h0.size ≤ b := by rw [g2]; exact KP.1
  have KP := KP.ext E2
  have V_b : Arv Z h2 b k2 .long (19 : Int32) [(.long (0 : Int64)), (.long (0 : Int64)), (.long (0 : Int64)), (.long (0 : Int64)), (.long (0 : Int64)), (.long (0 : Int64)), (.long (0 : Int64)), (.long (0 : Int64)), (.long (0 : Int64)), (.long (0 : Int64)), (.long (0 : Int64)), (.long (0 : Int64)), (.long (0 : Int64)), (.long (0 : Int64)), (.long (0 : Int64)), (.long (0 : Int64)), (.long (0 : Int64)), (.long (0 : Int64)), (.long (0 : Int64))] (.long (0 : Int64)) := (Arv.new A2 (by decide)).pad (pad_rep [] (.long (0 : Int64)) 19)
  have R3 : ∀ zt, Steps p.tables e below (T2.setTop (mkF m 7 #[.val (.int jj), .unset] [(.long (1 : Int64)), (.int (0 : Int32)), (.ref b), (.ref b)])) zt → Steps p.tables e below (s₁.setTop (entryFrame m #[(.int jj)] 2)) zt := by
    intro zt zk
    refine R1 zt ?_
    show Steps p.tables e below (s₁.setTop (mkF m 2 #[.val (.int jj), .unset] [(.int (19 : Int32))])) _
    refine st2 _ ?_
    show Steps p.tables e below (T2.setTop (mkF m 4 #[.val (.int jj), .unset] [(.ref b)])) _
    refine XS.dup X2.here hx rfl (hb hby d4_4) rfl rfl ?_
    show Steps p.tables e below (T2.setTop (mkF m 5 #[.val (.int jj), .unset] [(.ref b), (.ref b)])) _
    refine XS.iconst X2.here hx rfl (hb hby d4_5) ?_
    show Steps p.tables e below (T2.setTop (mkF m 6 #[.val (.int jj), .unset] [(.int (0 : Int32)), (.ref b), (.ref b)])) _
    refine XS.lconst X2.here hx rfl (hb hby d4_6) ?_
    exact zk
  obtain ⟨cl4, Ar4, Aq4, As4, An4, Ah4, Ag4⟩ := id V_b
  have hin4 : ¬ ((0 : Int32) < 0 ∨ cl4.slots.size ≤ ((0 : Int32)).toNatClampNeg) := inb_of As4 ⟨by decide, by decide⟩
  obtain ⟨T5, h5, X5, e5, W5, st5⟩ := stJ X2 hx hZ e2 Ar4 (j := (0 : Int32)) hin4 (g := (mkF m 7 #[.val (.int jj), .unset] [(.long (1 : Int64)), (.int (0 : Int32)), (.ref b), (.ref b)])) rfl rfl (hb hby d4_7)
  have N5 := Fr.snoc X5 N0 ge_b
  have Sz5 := Nat.le_trans Sz2 (Keep.of_wr W5).1
  have V_b : Arv Z h5 b k2 .long (19 : Int32) [(.long (1 : Int64)), (.long (0 : Int64)), (.long (0 : Int64)), (.long (0 : Int64)), (.long (0 : Int64)), (.long (0 : Int64)), (.long (0 : Int64)), (.long (0 : Int64)), (.long (0 : Int64)), (.long (0 : Int64)), (.long (0 : Int64)), (.long (0 : Int64)), (.long (0 : Int64)), (.long (0 : Int64)), (.long (0 : Int64)), (.long (0 : Int64)), (.long (0 : Int64)), (.long (0 : Int64)), (.long (0 : Int64))] (.long (0 : Int64)) := Arv.set Ar4 Aq4 As4 An4 Ah4 Ag4 rfl W5 0 rfl (Nat.le_of_ble_eq_true rfl)
  have KP := KP.wr W5 (Or.inr sz0_b)
  have R6 : ∀ zt, Steps p.tables e below (T5.setTop (mkF m 13 #[.val (.int jj), .unset] [(.long (10 : Int64)), (.int (1 : Int32)), (.ref b), (.ref b)])) zt → Steps p.tables e below (s₁.setTop (entryFrame m #[(.int jj)] 2)) zt := by
    intro zt zk
    refine R3 zt ?_
    show Steps p.tables e below (T2.setTop (mkF m 7 #[.val (.int jj), .unset] [(.long (1 : Int64)), (.int (0 : Int32)), (.ref b), (.ref b)])) _
    refine st5 _ ?_
    show Steps p.tables e below (T5.setTop (mkF m 8 #[.val (.int jj), .unset] [(.ref b)])) _
    refine XS.dup X5.here hx rfl (hb hby d4_8) rfl rfl ?_
    show Steps p.tables e below (T5.setTop (mkF m 9 #[.val (.int jj), .unset] [(.ref b), (.ref b)])) _
    refine XS.iconst X5.here hx rfl (hb hby d4_9) ?_
    show Steps p.tables e below (T5.setTop (mkF m 10 #[.val (.int jj), .unset] [(.int (1 : Int32)), (.ref b), (.ref b)])) _
    refine X5.ldc2Long hx hown (mvT hZ (hw _ (List.mem_of_getElem? (i := 12) rfl))) (g := (mkF m 10 #[.val (.int jj), .unset] [(.int (1 : Int32)), (.ref b), (.ref b)])) rfl (hb hby d4_10) _ ?_
    exact zk
  obtain ⟨cl7, Ar7, Aq7, As7, An7, Ah7, Ag7⟩ := id V_b
  have hin7 : ¬ ((1 : Int32) < 0 ∨ cl7.slots.size ≤ ((1 : Int32)).toNatClampNeg) := inb_of As7 ⟨by decide, by decide⟩
  obtain ⟨T8, h8, X8, e8, W8, st8⟩ := stJ X5 hx hZ e5 Ar7 (j := (1 : Int32)) hin7 (g := (mkF m 13 #[.val (.int jj), .unset] [(.long (10 : Int64)), (.int (1 : Int32)), (.ref b), (.ref b)])) rfl rfl (hb hby d4_13)
  have N8 := Fr.snoc X8 N5 ge_b
  have Sz8 := Nat.le_trans Sz5 (Keep.of_wr W8).1
  have V_b : Arv Z h8 b k2 .long (19 : Int32) [(.long (1 : Int64)), (.long (10 : Int64)), (.long (0 : Int64)), (.long (0 : Int64)), (.long (0 : Int64)), (.long (0 : Int64)), (.long (0 : Int64)), (.long (0 : Int64)), (.long (0 : Int64)), (.long (0 : Int64)), (.long (0 : Int64)), (.long (0 : Int64)), (.long (0 : Int64)), (.long (0 : Int64)), (.long (0 : Int64)), (.long (0 : Int64)), (.long (0 : Int64)), (.long (0 : Int64)), (.long (0 : Int64))] (.long (0 : Int64)) := Arv.set Ar7 Aq7 As7 An7 Ah7 Ag7 rfl W8 1 rfl (Nat.le_of_ble_eq_true rfl)
  have KP := KP.wr W8 (Or.inr sz0_b)
  have R9 : ∀ zt, Steps p.tables e below (T8.setTop (mkF m 19 #[.val (.int jj), .unset] [(.long (100 : Int64)), (.int (2 : Int32)), (.ref b), (.ref b)])) zt → Steps p.tables e below (s₁.setTop (entryFrame m #[(.int jj)] 2)) zt := by
    intro zt zk
    refine R6 zt ?_
    show Steps p.tables e below (T5.setTop (mkF m 13 #[.val (.int jj), .unset] [(.long (10 : Int64)), (.int (1 : Int32)), (.ref b), (.ref b)])) _
    refine st8 _ ?_
    show Steps p.tables e below (T8.setTop (mkF m 14 #[.val (.int jj), .unset] [(.ref b)])) _
    refine XS.dup X8.here hx rfl (hb hby d4_14) rfl rfl ?_
    show Steps p.tables e below (T8.setTop (mkF m 15 #[.val (.int jj), .unset] [(.ref b), (.ref b)])) _
    refine XS.iconst X8.here hx rfl (hb hby d4_15) ?_
    show Steps p.tables e below (T8.setTop (mkF m 16 #[.val (.int jj), .unset] [(.int (2 : Int32)), (.ref b), (.ref b)])) _
    refine X8.ldc2Long hx hown (mvT hZ (hw _ (List.mem_of_getElem? (i := 13) rfl))) (g := (mkF m 16 #[.val (.int jj), .unset] [(.int (2 : Int32)), (.ref b), (.ref b)])) rfl (hb hby d4_16) _ ?_
    exact zk
  obtain ⟨cl10, Ar10, Aq10, As10, An10, Ah10, Ag10⟩ := id V_b
  have hin10 : ¬ ((2 : Int32) < 0 ∨ cl10.slots.size ≤ ((2 : Int32)).toNatClampNeg) := inb_of As10 ⟨by decide, by decide⟩
  obtain ⟨T11, h11, X11, e11, W11, st11⟩ := stJ X8 hx hZ e8 Ar10 (j := (2 : Int32)) hin10 (g := (mkF m 19 #[.val (.int jj), .unset] [(.long (100 : Int64)), (.int (2 : Int32)), (.ref b), (.ref b)])) rfl rfl (hb hby d4_19)
  have N11 := Fr.snoc X11 N8 ge_b
  have Sz11 := Nat.le_trans Sz8 (Keep.of_wr W11).1
  have V_b : Arv Z h11 b k2 .long (19 : Int32) [(.long (1 : Int64)), (.long (10 : Int64)), (.long (100 : Int64)), (.long (0 : Int64)), (.long (0 : Int64)), (.long (0 : Int64)), (.long (0 : Int64)), (.long (0 : Int64)), (.long (0 : Int64)), (.long (0 : Int64)), (.long (0 : Int64)), (.long (0 : Int64)), (.long (0 : Int64)), (.long (0 : Int64)), (.long (0 : Int64)), (.long (0 : Int64)), (.long (0 : Int64)), (.long (0 : Int64)), (.long (0 : Int64))] (.long (0 : Int64)) := Arv.set Ar10 Aq10 As10 An10 Ah10 Ag10 rfl W11 2 rfl (Nat.le_of_ble_eq_true rfl)
  have KP := KP.wr W11 (Or.inr sz0_b)
  have R12 : ∀ zt, Steps p.tables e below (T11.setTop (mkF m 25 #[.val (.int jj), .unset] [(.long (1000 : Int64)), (.int (3 : Int32)), (.ref b), (.ref b)])) zt → Steps p.tables e below (s₁.setTop (entryFrame m #[(.int jj)] 2)) zt := by
    intro zt zk
    refine R9 zt ?_
    show Steps p.tables e below (T8.setTop (mkF m 19 #[.val (.int jj), .unset] [(.long (100 : Int64)), (.int (2 : Int32)), (.ref b), (.ref b)])) _
    refine st11 _ ?_
    show Steps p.tables e below (T11.setTop (mkF m 20 #[.val (.int jj), .unset] [(.ref b)])) _
    refine XS.dup X11.here hx rfl (hb hby d4_20) rfl rfl ?_
    show Steps p.tables e below (T11.setTop (mkF m 21 #[.val (.int jj), .unset] [(.ref b), (.ref b)])) _
    refine XS.iconst X11.here hx rfl (hb hby d4_21) ?_
    show Steps p.tables e below (T11.setTop (mkF m 22 #[.val (.int jj), .unset] [(.int (3 : Int32)), (.ref b), (.ref b)])) _
    refine X11.ldc2Long hx hown (mvT hZ (hw _ (List.mem_of_getElem? (i := 14) rfl))) (g := (mkF m 22 #[.val (.int jj), .unset] [(.int (3 : Int32)), (.ref b), (.ref b)])) rfl (hb hby d4_22) _ ?_
    exact zk
  obtain ⟨cl13, Ar13, Aq13, As13, An13, Ah13, Ag13⟩ := id V_b
  have hin13 : ¬ ((3 : Int32) < 0 ∨ cl13.slots.size ≤ ((3 : Int32)).toNatClampNeg) := inb_of As13 ⟨by decide, by decide⟩
  obtain ⟨T14, h14, X14, e14, W14, st14⟩ := stJ X11 hx hZ e11 Ar13 (j := (3 : Int32)) hin13 (g := (mkF m 25 #[.val (.int jj), .unset] [(.long (1000 : Int64)), (.int (3 : Int32)), (.ref b), (.ref b)])) rfl rfl (hb hby d4_25)
  have N14 := Fr.snoc X14 N11 ge_b
  have Sz14 := Nat.le_trans Sz11 (Keep.of_wr W14).1
  have V_b : Arv Z h14 b k2 .long (19 : Int32) [(.long (1 : Int64)), (.long (10 : Int64)), (.long (100 : Int64)), (.long (1000 : Int64)), (.long (0 : Int64)), (.long (0 : Int64)), (.long (0 : Int64)), (.long (0 : Int64)), (.long (0 : Int64)), (.long (0 : Int64)), (.long (0 : Int64)), (.long (0 : Int64)), (.long (0 : Int64)), (.long (0 : Int64)), (.long (0 : Int64)), (.long (0 : Int64)), (.long (0 : Int64)), (.long (0 : Int64)), (.long (0 : Int64))] (.long (0 : Int64)) := Arv.set Ar13 Aq13 As13 An13 Ah13 Ag13 rfl W14 3 rfl (Nat.le_of_ble_eq_true rfl)
  have KP := KP.wr W14 (Or.inr sz0_b)
  have R15 : ∀ zt, Steps p.tables e below (T14.setTop (mkF m 31 #[.val (.int jj), .unset] [(.long (10000 : Int64)), (.int (4 : Int32)), (.ref b), (.ref b)])) zt → Steps p.tables e below (s₁.setTop (entryFrame m #[(.int jj)] 2)) zt := by
    intro zt zk
    refine R12 zt ?_
    show Steps p.tables e below (T11.setTop (mkF m 25 #[.val (.int jj), .unset] [(.long (1000 : Int64)), (.int (3 : Int32)), (.ref b), (.ref b)])) _
    refine st14 _ ?_
    show Steps p.tables e below (T14.setTop (mkF m 26 #[.val (.int jj), .unset] [(.ref b)])) _
    refine XS.dup X14.here hx rfl (hb hby d4_26) rfl rfl ?_
    show Steps p.tables e below (T14.setTop (mkF m 27 #[.val (.int jj), .unset] [(.ref b), (.ref b)])) _
    refine XS.iconst X14.here hx rfl (hb hby d4_27) ?_
    show Steps p.tables e below (T14.setTop (mkF m 28 #[.val (.int jj), .unset] [(.int (4 : Int32)), (.ref b), (.ref b)])) _
    refine X14.ldc2Long hx hown (mvT hZ (hw _ (List.mem_of_getElem? (i := 15) rfl))) (g := (mkF m 28 #[.val (.int jj), .unset] [(.int (4 : Int32)), (.ref b), (.ref b)])) rfl (hb hby d4_28) _ ?_
    exact zk
  obtain ⟨cl16, Ar16, Aq16, As16, An16, Ah16, Ag16⟩ := id V_b
  have hin16 : ¬ ((4 : Int32) < 0 ∨ cl16.slots.size ≤ ((4 : Int32)).toNatClampNeg) := inb_of As16 ⟨by decide, by decide⟩
  obtain ⟨T17, h17, X17, e17, W17, st17⟩ := stJ X14 hx hZ e14 Ar16 (j := (4 : Int32)) hin16 (g := (mkF m 31 #[.val (.int jj), .unset] [(.long (10000 : Int64)), (.int (4 : Int32)), (.ref b), (.ref b)])) rfl rfl (hb hby d4_31)
  have N17 := Fr.snoc X17 N14 ge_b
  have Sz17 := Nat.le_trans Sz14 (Keep.of_wr W17).1
  have V_b : Arv Z h17 b k2 .long (19 : Int32) [(.long (1 : Int64)), (.long (10 : Int64)), (.long (100 : Int64)), (.long (1000 : Int64)), (.long (10000 : Int64)), (.long (0 : Int64)), (.long (0 : Int64)), (.long (0 : Int64)), (.long (0 : Int64)), (.long (0 : Int64)), (.long (0 : Int64)), (.long (0 : Int64)), (.long (0 : Int64)), (.long (0 : Int64)), (.long (0 : Int64)), (.long (0 : Int64)), (.long (0 : Int64)), (.long (0 : Int64)), (.long (0 : Int64))] (.long (0 : Int64)) := Arv.set Ar16 Aq16 As16 An16 Ah16 Ag16 rfl W17 4 rfl (Nat.le_of_ble_eq_true rfl)
  have KP := KP.wr W17 (Or.inr sz0_b)
  have R18 : ∀ zt, Steps p.tables e below (T17.setTop (mkF m 37 #[.val (.int jj), .unset] [(.long (100000 : Int64)), (.int (5 : Int32)), (.ref b), (.ref b)])) zt → Steps p.tables e below (s₁.setTop (entryFrame m #[(.int jj)] 2)) zt := by
    intro zt zk
    refine R15 zt ?_
    show Steps p.tables e below (T14.setTop (mkF m 31 #[.val (.int jj), .unset] [(.long (10000 : Int64)), (.int (4 : Int32)), (.ref b), (.ref b)])) _
    refine st17 _ ?_
    show Steps p.tables e below (T17.setTop (mkF m 32 #[.val (.int jj), .unset] [(.ref b)])) _
    refine XS.dup X17.here hx rfl (hb hby d4_32) rfl rfl ?_
    show Steps p.tables e below (T17.setTop (mkF m 33 #[.val (.int jj), .unset] [(.ref b), (.ref b)])) _
    refine XS.iconst X17.here hx rfl (hb hby d4_33) ?_
    show Steps p.tables e below (T17.setTop (mkF m 34 #[.val (.int jj), .unset] [(.int (5 : Int32)), (.ref b), (.ref b)])) _
    refine X17.ldc2Long hx hown (mvT hZ (hw _ (List.mem_of_getElem? (i := 16) rfl))) (g := (mkF m 34 #[.val (.int jj), .unset] [(.int (5 : Int32)), (.ref b), (.ref b)])) rfl (hb hby d4_34) _ ?_
    exact zk
  obtain ⟨cl19, Ar19, Aq19, As19, An19, Ah19, Ag19⟩ := id V_b
  have hin19 : ¬ ((5 : Int32) < 0 ∨ cl19.slots.size ≤ ((5 : Int32)).toNatClampNeg) := inb_of As19 ⟨by decide, by decide⟩
  obtain ⟨T20, h20, X20, e20, W20, st20⟩ := stJ X17 hx hZ e17 Ar19 (j := (5 : Int32)) hin19 (g := (mkF m 37 #[.val (.int jj), .unset] [(.long (100000 : Int64)), (.int (5 : Int32)), (.ref b), (.ref b)])) rfl rfl (hb hby d4_37)
  have N20 := Fr.snoc X20 N17 ge_b
  have Sz20 := Nat.le_trans Sz17 (Keep.of_wr W20).1
  have V_b : Arv Z h20 b k2 .long (19 : Int32) [(.long (1 : Int64)), (.long (10 : Int64)), (.long (100 : Int64)), (.long (1000 : Int64)), (.long (10000 : Int64)), (.long (100000 : Int64)), (.long (0 : Int64)), (.long (0 : Int64)), (.long (0 : Int64)), (.long (0 : Int64)), (.long (0 : Int64)), (.long (0 : Int64)), (.long (0 : Int64)), (.long (0 : Int64)), (.long (0 : Int64)), (.long (0 : Int64)), (.long (0 : Int64)), (.long (0 : Int64)), (.long (0 : Int64))] (.long (0 : Int64)) := Arv.set Ar19 Aq19 As19 An19 Ah19 Ag19 rfl W20 5 rfl (Nat.le_of_ble_eq_true rfl)
  have KP := KP.wr W20 (Or.inr sz0_b)
  have R21 : ∀ zt, Steps p.tables e below (T20.setTop (mkF m 44 #[.val (.int jj), .unset] [(.long (1000000 : Int64)), (.int (6 : Int32)), (.ref b), (.ref b)])) zt → Steps p.tables e below (s₁.setTop (entryFrame m #[(.int jj)] 2)) zt := by
    intro zt zk
    refine R18 zt ?_
    show Steps p.tables e below (T17.setTop (mkF m 37 #[.val (.int jj), .unset] [(.long (100000 : Int64)), (.int (5 : Int32)), (.ref b), (.ref b)])) _
    refine st20 _ ?_
    show Steps p.tables e below (T20.setTop (mkF m 38 #[.val (.int jj), .unset] [(.ref b)])) _
    refine XS.dup X20.here hx rfl (hb hby d4_38) rfl rfl ?_
    show Steps p.tables e below (T20.setTop (mkF m 39 #[.val (.int jj), .unset] [(.ref b), (.ref b)])) _
    refine XS.bipush X20.here hx rfl (hb hby d4_39) ?_
    show Steps p.tables e below (T20.setTop (mkF m 41 #[.val (.int jj), .unset] [(.int (6 : Int32)), (.ref b), (.ref b)])) _
    refine X20.ldc2Long hx hown (mvT hZ (hw _ (List.mem_of_getElem? (i := 17) rfl))) (g := (mkF m 41 #[.val (.int jj), .unset] [(.int (6 : Int32)), (.ref b), (.ref b)])) rfl (hb hby d4_41) _ ?_
    exact zk
  obtain ⟨cl22, Ar22, Aq22, As22, An22, Ah22, Ag22⟩ := id V_b
  have hin22 : ¬ ((6 : Int32) < 0 ∨ cl22.slots.size ≤ ((6 : Int32)).toNatClampNeg) := inb_of As22 ⟨by decide, by decide⟩
  obtain ⟨T23, h23, X23, e23, W23, st23⟩ := stJ X20 hx hZ e20 Ar22 (j := (6 : Int32)) hin22 (g := (mkF m 44 #[.val (.int jj), .unset] [(.long (1000000 : Int64)), (.int (6 : Int32)), (.ref b), (.ref b)])) rfl rfl (hb hby d4_44)
  have N23 := Fr.snoc X23 N20 ge_b
  have Sz23 := Nat.le_trans Sz20 (Keep.of_wr W23).1
  have V_b : Arv Z h23 b k2 .long (19 : Int32) [(.long (1 : Int64)), (.long (10 : Int64)), (.long (100 : Int64)), (.long (1000 : Int64)), (.long (10000 : Int64)), (.long (100000 : Int64)), (.long (1000000 : Int64)), (.long (0 : Int64)), (.long (0 : Int64)), (.long (0 : Int64)), (.long (0 : Int64)), (.long (0 : Int64)), (.long (0 : Int64)), (.long (0 : Int64)), (.long (0 : Int64)), (.long (0 : Int64)), (.long (0 : Int64)), (.long (0 : Int64)), (.long (0 : Int64))] (.long (0 : Int64)) := Arv.set Ar22 Aq22 As22 An22 Ah22 Ag22 rfl W23 6 rfl (Nat.le_of_ble_eq_true rfl)
  have KP := KP.wr W23 (Or.inr sz0_b)
  have R24 : ∀ zt, Steps p.tables e below (T23.setTop (mkF m 51 #[.val (.int jj), .unset] [(.long (10000000 : Int64)), (.int (7 : Int32)), (.ref b), (.ref b)])) zt → Steps p.tables e below (s₁.setTop (entryFrame m #[(.int jj)] 2)) zt := by
    intro zt zk
    refine R21 zt ?_
    show Steps p.tables e below (T20.setTop (mkF m 44 #[.val (.int jj), .unset] [(.long (1000000 : Int64)), (.int (6 : Int32)), (.ref b), (.ref b)])) _
    refine st23 _ ?_
    show Steps p.tables e below (T23.setTop (mkF m 45 #[.val (.int jj), .unset] [(.ref b)])) _
    refine XS.dup X23.here hx rfl (hb hby d4_45) rfl rfl ?_
    show Steps p.tables e below (T23.setTop (mkF m 46 #[.val (.int jj), .unset] [(.ref b), (.ref b)])) _
    refine XS.bipush X23.here hx rfl (hb hby d4_46) ?_
    show Steps p.tables e below (T23.setTop (mkF m 48 #[.val (.int jj), .unset] [(.int (7 : Int32)), (.ref b), (.ref b)])) _
    refine X23.ldc2Long hx hown (mvT hZ (hw _ (List.mem_of_getElem? (i := 18) rfl))) (g := (mkF m 48 #[.val (.int jj), .unset] [(.int (7 : Int32)), (.ref b), (.ref b)])) rfl (hb hby d4_48) _ ?_
    exact zk
  obtain ⟨cl25, Ar25, Aq25, As25, An25, Ah25, Ag25⟩ := id V_b
  have hin25 : ¬ ((7 : Int32) < 0 ∨ cl25.slots.size ≤ ((7 : Int32)).toNatClampNeg) := inb_of As25 ⟨by decide, by decide⟩
  obtain ⟨T26, h26, X26, e26, W26, st26⟩ := stJ X23 hx hZ e23 Ar25 (j := (7 : Int32)) hin25 (g := (mkF m 51 #[.val (.int jj), .unset] [(.long (10000000 : Int64)), (.int (7 : Int32)), (.ref b), (.ref b)])) rfl rfl (hb hby d4_51)
  have N26 := Fr.snoc X26 N23 ge_b
  have Sz26 := Nat.le_trans Sz23 (Keep.of_wr W26).1
  have V_b : Arv Z h26 b k2 .long (19 : Int32) [(.long (1 : Int64)), (.long (10 : Int64)), (.long (100 : Int64)), (.long (1000 : Int64)), (.long (10000 : Int64)), (.long (100000 : Int64)), (.long (1000000 : Int64)), (.long (10000000 : Int64)), (.long (0 : Int64)), (.long (0 : Int64)), (.long (0 : Int64)), (.long (0 : Int64)), (.long (0 : Int64)), (.long (0 : Int64)), (.long (0 : Int64)), (.long (0 : Int64)), (.long (0 : Int64)), (.long (0 : Int64)), (.long (0 : Int64))] (.long (0 : Int64)) := Arv.set Ar25 Aq25 As25 An25 Ah25 Ag25 rfl W26 7 rfl (Nat.le_of_ble_eq_true rfl)
  have KP := KP.wr W26 (Or.inr sz0_b)
  have R27 : ∀ zt, Steps p.tables e below (T26.setTop (mkF m 58 #[.val (.int jj), .unset] [(.long (100000000 : Int64)), (.int (8 : Int32)), (.ref b), (.ref b)])) zt → Steps p.tables e below (s₁.setTop (entryFrame m #[(.int jj)] 2)) zt := by
    intro zt zk
    refine R24 zt ?_
    show Steps p.tables e below (T23.setTop (mkF m 51 #[.val (.int jj), .unset] [(.long (10000000 : Int64)), (.int (7 : Int32)), (.ref b), (.ref b)])) _
    refine st26 _ ?_
    show Steps p.tables e below (T26.setTop (mkF m 52 #[.val (.int jj), .unset] [(.ref b)])) _
    refine XS.dup X26.here hx rfl (hb hby d4_52) rfl rfl ?_
    show Steps p.tables e below (T26.setTop (mkF m 53 #[.val (.int jj), .unset] [(.ref b), (.ref b)])) _
    refine XS.bipush X26.here hx rfl (hb hby d4_53) ?_
    show Steps p.tables e below (T26.setTop (mkF m 55 #[.val (.int jj), .unset] [(.int (8 : Int32)), (.ref b), (.ref b)])) _
    refine X26.ldc2Long hx hown (mvT hZ (hw _ (List.mem_of_getElem? (i := 19) rfl))) (g := (mkF m 55 #[.val (.int jj), .unset] [(.int (8 : Int32)), (.ref b), (.ref b)])) rfl (hb hby d4_55) _ ?_
    exact zk
  obtain ⟨cl28, Ar28, Aq28, As28, An28, Ah28, Ag28⟩ := id V_b
  have hin28 : ¬ ((8 : Int32) < 0 ∨ cl28.slots.size ≤ ((8 : Int32)).toNatClampNeg) := inb_of As28 ⟨by decide, by decide⟩
  obtain ⟨T29, h29, X29, e29, W29, st29⟩ := stJ X26 hx hZ e26 Ar28 (j := (8 : Int32)) hin28 (g := (mkF m 58 #[.val (.int jj), .unset] [(.long (100000000 : Int64)), (.int (8 : Int32)), (.ref b), (.ref b)])) rfl rfl (hb hby d4_58)
  have N29 := Fr.snoc X29 N26 ge_b
  have Sz29 := Nat.le_trans Sz26 (Keep.of_wr W29).1
  have V_b : Arv Z h29 b k2 .long (19 : Int32) [(.long (1 : Int64)), (.long (10 : Int64)), (.long (100 : Int64)), (.long (1000 : Int64)), (.long (10000 : Int64)), (.long (100000 : Int64)), (.long (1000000 : Int64)), (.long (10000000 : Int64)), (.long (100000000 : Int64)), (.long (0 : Int64)), (.long (0 : Int64)), (.long (0 : Int64)), (.long (0 : Int64)), (.long (0 : Int64)), (.long (0 : Int64)), (.long (0 : Int64)), (.long (0 : Int64)), (.long (0 : Int64)), (.long (0 : Int64))] (.long (0 : Int64)) := Arv.set Ar28 Aq28 As28 An28 Ah28 Ag28 rfl W29 8 rfl (Nat.le_of_ble_eq_true rfl)
  have KP := KP.wr W29 (Or.inr sz0_b)
  have R30 : ∀ zt, Steps p.tables e below (T29.setTop (mkF m 65 #[.val (.int jj), .unset] [(.long (1000000000 : Int64)), (.int (9 : Int32)), (.ref b), (.ref b)])) zt → Steps p.tables e below (s₁.setTop (entryFrame m #[(.int jj)] 2)) zt := by
    intro zt zk
    refine R27 zt ?_
    show Steps p.tables e below (T26.setTop (mkF m 58 #[.val (.int jj), .unset] [(.long (100000000 : Int64)), (.int (8 : Int32)), (.ref b), (.ref b)])) _
    refine st29 _ ?_
    show Steps p.tables e below (T29.setTop (mkF m 59 #[.val (.int jj), .unset] [(.ref b)])) _
    refine XS.dup X29.here hx rfl (hb hby d4_59) rfl rfl ?_
    show Steps p.tables e below (T29.setTop (mkF m 60 #[.val (.int jj), .unset] [(.ref b), (.ref b)])) _
    refine XS.bipush X29.here hx rfl (hb hby d4_60) ?_
    show Steps p.tables e below (T29.setTop (mkF m 62 #[.val (.int jj), .unset] [(.int (9 : Int32)), (.ref b), (.ref b)])) _
    refine X29.ldc2Long hx hown (mvT hZ (hw _ (List.mem_of_getElem? (i := 20) rfl))) (g := (mkF m 62 #[.val (.int jj), .unset] [(.int (9 : Int32)), (.ref b), (.ref b)])) rfl (hb hby d4_62) _ ?_
    exact zk
  obtain ⟨cl31, Ar31, Aq31, As31, An31, Ah31, Ag31⟩ := id V_b
  have hin31 : ¬ ((9 : Int32) < 0 ∨ cl31.slots.size ≤ ((9 : Int32)).toNatClampNeg) := inb_of As31 ⟨by decide, by decide⟩
  obtain ⟨T32, h32, X32, e32, W32, st32⟩ := stJ X29 hx hZ e29 Ar31 (j := (9 : Int32)) hin31 (g := (mkF m 65 #[.val (.int jj), .unset] [(.long (1000000000 : Int64)), (.int (9 : Int32)), (.ref b), (.ref b)])) rfl rfl (hb hby d4_65)
  have N32 := Fr.snoc X32 N29 ge_b
  have Sz32 := Nat.le_trans Sz29 (Keep.of_wr W32).1
  have V_b : Arv Z h32 b k2 .long (19 : Int32) [(.long (1 : Int64)), (.long (10 : Int64)), (.long (100 : Int64)), (.long (1000 : Int64)), (.long (10000 : Int64)), (.long (100000 : Int64)), (.long (1000000 : Int64)), (.long (10000000 : Int64)), (.long (100000000 : Int64)), (.long (1000000000 : Int64)), (.long (0 : Int64)), (.long (0 : Int64)), (.long (0 : Int64)), (.long (0 : Int64)), (.long (0 : Int64)), (.long (0 : Int64)), (.long (0 : Int64)), (.long (0 : Int64)), (.long (0 : Int64))] (.long (0 : Int64)) := Arv.set Ar31 Aq31 As31 An31 Ah31 Ag31 rfl W32 9 rfl (Nat.le_of_ble_eq_true rfl)
  have KP := KP.wr W32 (Or.inr sz0_b)
  have R33 : ∀ zt, Steps p.tables e below (T32.setTop (mkF m 72 #[.val (.int jj), .unset] [(.long (10000000000 : Int64)), (.int (10 : Int32)), (.ref b), (.ref b)])) zt → Steps p.tables e below (s₁.setTop (entryFrame m #[(.int jj)] 2)) zt := by
    intro zt zk
    refine R30 zt ?_
    show Steps p.tables e below (T29.setTop (mkF m 65 #[.val (.int jj), .unset] [(.long (1000000000 : Int64)), (.int (9 : Int32)), (.ref b), (.ref b)])) _
    refine st32 _ ?_
    show Steps p.tables e below (T32.setTop (mkF m 66 #[.val (.int jj), .unset] [(.ref b)])) _
    refine XS.dup X32.here hx rfl (hb hby d4_66) rfl rfl ?_
    show Steps p.tables e below (T32.setTop (mkF m 67 #[.val (.int jj), .unset] [(.ref b), (.ref b)])) _
    refine XS.bipush X32.here hx rfl (hb hby d4_67) ?_
    show Steps p.tables e below (T32.setTop (mkF m 69 #[.val (.int jj), .unset] [(.int (10 : Int32)), (.ref b), (.ref b)])) _
    refine X32.ldc2Long hx hown (mvT hZ (hw _ (List.mem_of_getElem? (i := 21) rfl))) (g := (mkF m 69 #[.val (.int jj), .unset] [(.int (10 : Int32)), (.ref b), (.ref b)])) rfl (hb hby d4_69) _ ?_
    exact zk
  obtain ⟨cl34, Ar34, Aq34, As34, An34, Ah34, Ag34⟩ := id V_b
  have hin34 : ¬ ((10 : Int32) < 0 ∨ cl34.slots.size ≤ ((10 : Int32)).toNatClampNeg) := inb_of As34 ⟨by decide, by decide⟩
  obtain ⟨T35, h35, X35, e35, W35, st35⟩ := stJ X32 hx hZ e32 Ar34 (j := (10 : Int32)) hin34 (g := (mkF m 72 #[.val (.int jj), .unset] [(.long (10000000000 : Int64)), (.int (10 : Int32)), (.ref b), (.ref b)])) rfl rfl (hb hby d4_72)
  have N35 := Fr.snoc X35 N32 ge_b
  have Sz35 := Nat.le_trans Sz32 (Keep.of_wr W35).1
  have V_b : Arv Z h35 b k2 .long (19 : Int32) [(.long (1 : Int64)), (.long (10 : Int64)), (.long (100 : Int64)), (.long (1000 : Int64)), (.long (10000 : Int64)), (.long (100000 : Int64)), (.long (1000000 : Int64)), (.long (10000000 : Int64)), (.long (100000000 : Int64)), (.long (1000000000 : Int64)), (.long (10000000000 : Int64)), (.long (0 : Int64)), (.long (0 : Int64)), (.long (0 : Int64)), (.long (0 : Int64)), (.long (0 : Int64)), (.long (0 : Int64)), (.long (0 : Int64)), (.long (0 : Int64))] (.long (0 : Int64)) := Arv.set Ar34 Aq34 As34 An34 Ah34 Ag34 rfl W35 10 rfl (Nat.le_of_ble_eq_true rfl)
  have KP := KP.wr W35 (Or.inr sz0_b)
  have R36 : ∀ zt, Steps p.tables e below (T35.setTop (mkF m 79 #[.val (.int jj), .unset] [(.long (100000000000 : Int64)), (.int (11 : Int32)), (.ref b), (.ref b)])) zt → Steps p.tables e below (s₁.setTop (entryFrame m #[(.int jj)] 2)) zt := by
    intro zt zk
    refine R33 zt ?_
    show Steps p.tables e below (T32.setTop (mkF m 72 #[.val (.int jj), .unset] [(.long (10000000000 : Int64)), (.int (10 : Int32)), (.ref b), (.ref b)])) _
    refine st35 _ ?_
    show Steps p.tables e below (T35.setTop (mkF m 73 #[.val (.int jj), .unset] [(.ref b)])) _
    refine XS.dup X35.here hx rfl (hb hby d4_73) rfl rfl ?_
    show Steps p.tables e below (T35.setTop (mkF m 74 #[.val (.int jj), .unset] [(.ref b), (.ref b)])) _
    refine XS.bipush X35.here hx rfl (hb hby d4_74) ?_
    show Steps p.tables e below (T35.setTop (mkF m 76 #[.val (.int jj), .unset] [(.int (11 : Int32)), (.ref b), (.ref b)])) _
    refine X35.ldc2Long hx hown (mvT hZ (hw _ (List.mem_of_getElem? (i := 22) rfl))) (g := (mkF m 76 #[.val (.int jj), .unset] [(.int (11 : Int32)), (.ref b), (.ref b)])) rfl (hb hby d4_76) _ ?_
    exact zk
  obtain ⟨cl37, Ar37, Aq37, As37, An37, Ah37, Ag37⟩ := id V_b
  have hin37 : ¬ ((11 : Int32) < 0 ∨ cl37.slots.size ≤ ((11 : Int32)).toNatClampNeg) := inb_of As37 ⟨by decide, by decide⟩
  obtain ⟨T38, h38, X38, e38, W38, st38⟩ := stJ X35 hx hZ e35 Ar37 (j := (11 : Int32)) hin37 (g := (mkF m 79 #[.val (.int jj), .unset] [(.long (100000000000 : Int64)), (.int (11 : Int32)), (.ref b), (.ref b)])) rfl rfl (hb hby d4_79)
  have N38 := Fr.snoc X38 N35 ge_b
  have Sz38 := Nat.le_trans Sz35 (Keep.of_wr W38).1
  have V_b : Arv Z h38 b k2 .long (19 : Int32) [(.long (1 : Int64)), (.long (10 : Int64)), (.long (100 : Int64)), (.long (1000 : Int64)), (.long (10000 : Int64)), (.long (100000 : Int64)), (.long (1000000 : Int64)), (.long (10000000 : Int64)), (.long (100000000 : Int64)), (.long (1000000000 : Int64)), (.long (10000000000 : Int64)), (.long (100000000000 : Int64)), (.long (0 : Int64)), (.long (0 : Int64)), (.long (0 : Int64)), (.long (0 : Int64)), (.long (0 : Int64)), (.long (0 : Int64)), (.long (0 : Int64))] (.long (0 : Int64)) := Arv.set Ar37 Aq37 As37 An37 Ah37 Ag37 rfl W38 11 rfl (Nat.le_of_ble_eq_true rfl)
  have KP := KP.wr W38 (Or.inr sz0_b)
  have R39 : ∀ zt, Steps p.tables e below (T38.setTop (mkF m 86 #[.val (.int jj), .unset] [(.long (1000000000000 : Int64)), (.int (12 : Int32)), (.ref b), (.ref b)])) zt → Steps p.tables e below (s₁.setTop (entryFrame m #[(.int jj)] 2)) zt := by
    intro zt zk
    refine R36 zt ?_
    show Steps p.tables e below (T35.setTop (mkF m 79 #[.val (.int jj), .unset] [(.long (100000000000 : Int64)), (.int (11 : Int32)), (.ref b), (.ref b)])) _
    refine st38 _ ?_
    show Steps p.tables e below (T38.setTop (mkF m 80 #[.val (.int jj), .unset] [(.ref b)])) _
    refine XS.dup X38.here hx rfl (hb hby d4_80) rfl rfl ?_
    show Steps p.tables e below (T38.setTop (mkF m 81 #[.val (.int jj), .unset] [(.ref b), (.ref b)])) _
    refine XS.bipush X38.here hx rfl (hb hby d4_81) ?_
    show Steps p.tables e below (T38.setTop (mkF m 83 #[.val (.int jj), .unset] [(.int (12 : Int32)), (.ref b), (.ref b)])) _
    refine X38.ldc2Long hx hown (mvT hZ (hw _ (List.mem_of_getElem? (i := 23) rfl))) (g := (mkF m 83 #[.val (.int jj), .unset] [(.int (12 : Int32)), (.ref b), (.ref b)])) rfl (hb hby d4_83) _ ?_
    exact zk
  obtain ⟨cl40, Ar40, Aq40, As40, An40, Ah40, Ag40⟩ := id V_b
  have hin40 : ¬ ((12 : Int32) < 0 ∨ cl40.slots.size ≤ ((12 : Int32)).toNatClampNeg) := inb_of As40 ⟨by decide, by decide⟩
  obtain ⟨T41, h41, X41, e41, W41, st41⟩ := stJ X38 hx hZ e38 Ar40 (j := (12 : Int32)) hin40 (g := (mkF m 86 #[.val (.int jj), .unset] [(.long (1000000000000 : Int64)), (.int (12 : Int32)), (.ref b), (.ref b)])) rfl rfl (hb hby d4_86)
  have N41 := Fr.snoc X41 N38 ge_b
  have Sz41 := Nat.le_trans Sz38 (Keep.of_wr W41).1
  have V_b : Arv Z h41 b k2 .long (19 : Int32) [(.long (1 : Int64)), (.long (10 : Int64)), (.long (100 : Int64)), (.long (1000 : Int64)), (.long (10000 : Int64)), (.long (100000 : Int64)), (.long (1000000 : Int64)), (.long (10000000 : Int64)), (.long (100000000 : Int64)), (.long (1000000000 : Int64)), (.long (10000000000 : Int64)), (.long (100000000000 : Int64)), (.long (1000000000000 : Int64)), (.long (0 : Int64)), (.long (0 : Int64)), (.long (0 : Int64)), (.long (0 : Int64)), (.long (0 : Int64)), (.long (0 : Int64))] (.long (0 : Int64)) := Arv.set Ar40 Aq40 As40 An40 Ah40 Ag40 rfl W41 12 rfl (Nat.le_of_ble_eq_true rfl)
  have KP := KP.wr W41 (Or.inr sz0_b)
  have R42 : ∀ zt, Steps p.tables e below (T41.setTop (mkF m 93 #[.val (.int jj), .unset] [(.long (10000000000000 : Int64)), (.int (13 : Int32)), (.ref b), (.ref b)])) zt → Steps p.tables e below (s₁.setTop (entryFrame m #[(.int jj)] 2)) zt := by
    intro zt zk
    refine R39 zt ?_
    show Steps p.tables e below (T38.setTop (mkF m 86 #[.val (.int jj), .unset] [(.long (1000000000000 : Int64)), (.int (12 : Int32)), (.ref b), (.ref b)])) _
    refine st41 _ ?_
    show Steps p.tables e below (T41.setTop (mkF m 87 #[.val (.int jj), .unset] [(.ref b)])) _
    refine XS.dup X41.here hx rfl (hb hby d4_87) rfl rfl ?_
    show Steps p.tables e below (T41.setTop (mkF m 88 #[.val (.int jj), .unset] [(.ref b), (.ref b)])) _
    refine XS.bipush X41.here hx rfl (hb hby d4_88) ?_
    show Steps p.tables e below (T41.setTop (mkF m 90 #[.val (.int jj), .unset] [(.int (13 : Int32)), (.ref b), (.ref b)])) _
    refine X41.ldc2Long hx hown (mvT hZ (hw _ (List.mem_of_getElem? (i := 24) rfl))) (g := (mkF m 90 #[.val (.int jj), .unset] [(.int (13 : Int32)), (.ref b), (.ref b)])) rfl (hb hby d4_90) _ ?_
    exact zk
  obtain ⟨cl43, Ar43, Aq43, As43, An43, Ah43, Ag43⟩ := id V_b
  have hin43 : ¬ ((13 : Int32) < 0 ∨ cl43.slots.size ≤ ((13 : Int32)).toNatClampNeg) := inb_of As43 ⟨by decide, by decide⟩
  obtain ⟨T44, h44, X44, e44, W44, st44⟩ := stJ X41 hx hZ e41 Ar43 (j := (13 : Int32)) hin43 (g := (mkF m 93 #[.val (.int jj), .unset] [(.long (10000000000000 : Int64)), (.int (13 : Int32)), (.ref b), (.ref b)])) rfl rfl (hb hby d4_93)
  have N44 := Fr.snoc X44 N41 ge_b
  have Sz44 := Nat.le_trans Sz41 (Keep.of_wr W44).1
  have V_b : Arv Z h44 b k2 .long (19 : Int32) [(.long (1 : Int64)), (.long (10 : Int64)), (.long (100 : Int64)), (.long (1000 : Int64)), (.long (10000 : Int64)), (.long (100000 : Int64)), (.long (1000000 : Int64)), (.long (10000000 : Int64)), (.long (100000000 : Int64)), (.long (1000000000 : Int64)), (.long (10000000000 : Int64)), (.long (100000000000 : Int64)), (.long (1000000000000 : Int64)), (.long (10000000000000 : Int64)), (.long (0 : Int64)), (.long (0 : Int64)), (.long (0 : Int64)), (.long (0 : Int64)), (.long (0 : Int64))] (.long (0 : Int64)) := Arv.set Ar43 Aq43 As43 An43 Ah43 Ag43 rfl W44 13 rfl (Nat.le_of_ble_eq_true rfl)
  have KP := KP.wr W44 (Or.inr sz0_b)
  have R45 : ∀ zt, Steps p.tables e below (T44.setTop (mkF m 100 #[.val (.int jj), .unset] [(.long (100000000000000 : Int64)), (.int (14 : Int32)), (.ref b), (.ref b)])) zt → Steps p.tables e below (s₁.setTop (entryFrame m #[(.int jj)] 2)) zt := by
    intro zt zk
    refine R42 zt ?_
    show Steps p.tables e below (T41.setTop (mkF m 93 #[.val (.int jj), .unset] [(.long (10000000000000 : Int64)), (.int (13 : Int32)), (.ref b), (.ref b)])) _
    refine st44 _ ?_
    show Steps p.tables e below (T44.setTop (mkF m 94 #[.val (.int jj), .unset] [(.ref b)])) _
    refine XS.dup X44.here hx rfl (hb hby d4_94) rfl rfl ?_
    show Steps p.tables e below (T44.setTop (mkF m 95 #[.val (.int jj), .unset] [(.ref b), (.ref b)])) _
    refine XS.bipush X44.here hx rfl (hb hby d4_95) ?_
    show Steps p.tables e below (T44.setTop (mkF m 97 #[.val (.int jj), .unset] [(.int (14 : Int32)), (.ref b), (.ref b)])) _
    refine X44.ldc2Long hx hown (mvT hZ (hw _ (List.mem_of_getElem? (i := 25) rfl))) (g := (mkF m 97 #[.val (.int jj), .unset] [(.int (14 : Int32)), (.ref b), (.ref b)])) rfl (hb hby d4_97) _ ?_
    exact zk
  obtain ⟨cl46, Ar46, Aq46, As46, An46, Ah46, Ag46⟩ := id V_b
  have hin46 : ¬ ((14 : Int32) < 0 ∨ cl46.slots.size ≤ ((14 : Int32)).toNatClampNeg) := inb_of As46 ⟨by decide, by decide⟩
  obtain ⟨T47, h47, X47, e47, W47, st47⟩ := stJ X44 hx hZ e44 Ar46 (j := (14 : Int32)) hin46 (g := (mkF m 100 #[.val (.int jj), .unset] [(.long (100000000000000 : Int64)), (.int (14 : Int32)), (.ref b), (.ref b)])) rfl rfl (hb hby d4_100)
  have N47 := Fr.snoc X47 N44 ge_b
  have Sz47 := Nat.le_trans Sz44 (Keep.of_wr W47).1
  have V_b : Arv Z h47 b k2 .long (19 : Int32) [(.long (1 : Int64)), (.long (10 : Int64)), (.long (100 : Int64)), (.long (1000 : Int64)), (.long (10000 : Int64)), (.long (100000 : Int64)), (.long (1000000 : Int64)), (.long (10000000 : Int64)), (.long (100000000 : Int64)), (.long (1000000000 : Int64)), (.long (10000000000 : Int64)), (.long (100000000000 : Int64)), (.long (1000000000000 : Int64)), (.long (10000000000000 : Int64)), (.long (100000000000000 : Int64)), (.long (0 : Int64)), (.long (0 : Int64)), (.long (0 : Int64)), (.long (0 : Int64))] (.long (0 : Int64)) := Arv.set Ar46 Aq46 As46 An46 Ah46 Ag46 rfl W47 14 rfl (Nat.le_of_ble_eq_true rfl)
  have KP := KP.wr W47 (Or.inr sz0_b)
  have R48 : ∀ zt, Steps p.tables e below (T47.setTop (mkF m 107 #[.val (.int jj), .unset] [(.long (1000000000000000 : Int64)), (.int (15 : Int32)), (.ref b), (.ref b)])) zt → Steps p.tables e below (s₁.setTop (entryFrame m #[(.int jj)] 2)) zt := by
    intro zt zk
    refine R45 zt ?_
    show Steps p.tables e below (T44.setTop (mkF m 100 #[.val (.int jj), .unset] [(.long (100000000000000 : Int64)), (.int (14 : Int32)), (.ref b), (.ref b)])) _
    refine st47 _ ?_
    show Steps p.tables e below (T47.setTop (mkF m 101 #[.val (.int jj), .unset] [(.ref b)])) _
    refine XS.dup X47.here hx rfl (hb hby d4_101) rfl rfl ?_
    show Steps p.tables e below (T47.setTop (mkF m 102 #[.val (.int jj), .unset] [(.ref b), (.ref b)])) _
    refine XS.bipush X47.here hx rfl (hb hby d4_102) ?_
    show Steps p.tables e below (T47.setTop (mkF m 104 #[.val (.int jj), .unset] [(.int (15 : Int32)), (.ref b), (.ref b)])) _
    refine X47.ldc2Long hx hown (mvT hZ (hw _ (List.mem_of_getElem? (i := 26) rfl))) (g := (mkF m 104 #[.val (.int jj), .unset] [(.int (15 : Int32)), (.ref b), (.ref b)])) rfl (hb hby d4_104) _ ?_
    exact zk
  obtain ⟨cl49, Ar49, Aq49, As49, An49, Ah49, Ag49⟩ := id V_b
  have hin49 : ¬ ((15 : Int32) < 0 ∨ cl49.slots.size ≤ ((15 : Int32)).toNatClampNeg) := inb_of As49 ⟨by decide, by decide⟩
  obtain ⟨T50, h50, X50, e50, W50, st50⟩ := stJ X47 hx hZ e47 Ar49 (j := (15 : Int32)) hin49 (g := (mkF m 107 #[.val (.int jj), .unset] [(.long (1000000000000000 : Int64)), (.int (15 : Int32)), (.ref b), (.ref b)])) rfl rfl (hb hby d4_107)
  have N50 := Fr.snoc X50 N47 ge_b
  have Sz50 := Nat.le_trans Sz47 (Keep.of_wr W50).1
  have V_b : Arv Z h50 b k2 .long (19 : Int32) [(.long (1 : Int64)), (.long (10 : Int64)), (.long (100 : Int64)), (.long (1000 : Int64)), (.long (10000 : Int64)), (.long (100000 : Int64)), (.long (1000000 : Int64)), (.long (10000000 : Int64)), (.long (100000000 : Int64)), (.long (1000000000 : Int64)), (.long (10000000000 : Int64)), (.long (100000000000 : Int64)), (.long (1000000000000 : Int64)), (.long (10000000000000 : Int64)), (.long (100000000000000 : Int64)), (.long (1000000000000000 : Int64)), (.long (0 : Int64)), (.long (0 : Int64)), (.long (0 : Int64))] (.long (0 : Int64)) := Arv.set Ar49 Aq49 As49 An49 Ah49 Ag49 rfl W50 15 rfl (Nat.le_of_ble_eq_true rfl)
  have KP := KP.wr W50 (Or.inr sz0_b)
  have R51 : ∀ zt, Steps p.tables e below (T50.setTop (mkF m 114 #[.val (.int jj), .unset] [(.long (10000000000000000 : Int64)), (.int (16 : Int32)), (.ref b), (.ref b)])) zt → Steps p.tables e below (s₁.setTop (entryFrame m #[(.int jj)] 2)) zt := by
    intro zt zk
    refine R48 zt ?_
    show Steps p.tables e below (T47.setTop (mkF m 107 #[.val (.int jj), .unset] [(.long (1000000000000000 : Int64)), (.int (15 : Int32)), (.ref b), (.ref b)])) _
    refine st50 _ ?_
    show Steps p.tables e below (T50.setTop (mkF m 108 #[.val (.int jj), .unset] [(.ref b)])) _
    refine XS.dup X50.here hx rfl (hb hby d4_108) rfl rfl ?_
    show Steps p.tables e below (T50.setTop (mkF m 109 #[.val (.int jj), .unset] [(.ref b), (.ref b)])) _
    refine XS.bipush X50.here hx rfl (hb hby d4_109) ?_
    show Steps p.tables e below (T50.setTop (mkF m 111 #[.val (.int jj), .unset] [(.int (16 : Int32)), (.ref b), (.ref b)])) _
    refine X50.ldc2Long hx hown (mvT hZ (hw _ (List.mem_of_getElem? (i := 27) rfl))) (g := (mkF m 111 #[.val (.int jj), .unset] [(.int (16 : Int32)), (.ref b), (.ref b)])) rfl (hb hby d4_111) _ ?_
    exact zk
  obtain ⟨cl52, Ar52, Aq52, As52, An52, Ah52, Ag52⟩ := id V_b
  have hin52 : ¬ ((16 : Int32) < 0 ∨ cl52.slots.size ≤ ((16 : Int32)).toNatClampNeg) := inb_of As52 ⟨by decide, by decide⟩
  obtain ⟨T53, h53, X53, e53, W53, st53⟩ := stJ X50 hx hZ e50 Ar52 (j := (16 : Int32)) hin52 (g := (mkF m 114 #[.val (.int jj), .unset] [(.long (10000000000000000 : Int64)), (.int (16 : Int32)), (.ref b), (.ref b)])) rfl rfl (hb hby d4_114)
  have N53 := Fr.snoc X53 N50 ge_b
  have Sz53 := Nat.le_trans Sz50 (Keep.of_wr W53).1
  have V_b : Arv Z h53 b k2 .long (19 : Int32) [(.long (1 : Int64)), (.long (10 : Int64)), (.long (100 : Int64)), (.long (1000 : Int64)), (.long (10000 : Int64)), (.long (100000 : Int64)), (.long (1000000 : Int64)), (.long (10000000 : Int64)), (.long (100000000 : Int64)), (.long (1000000000 : Int64)), (.long (10000000000 : Int64)), (.long (100000000000 : Int64)), (.long (1000000000000 : Int64)), (.long (10000000000000 : Int64)), (.long (100000000000000 : Int64)), (.long (1000000000000000 : Int64)), (.long (10000000000000000 : Int64)), (.long (0 : Int64)), (.long (0 : Int64))] (.long (0 : Int64)) := Arv.set Ar52 Aq52 As52 An52 Ah52 Ag52 rfl W53 16 rfl (Nat.le_of_ble_eq_true rfl)
  have KP := KP.wr W53 (Or.inr sz0_b)
  have R54 : ∀ zt, Steps p.tables e below (T53.setTop (mkF m 121 #[.val (.int jj), .unset] [(.long (100000000000000000 : Int64)), (.int (17 : Int32)), (.ref b), (.ref b)])) zt → Steps p.tables e below (s₁.setTop (entryFrame m #[(.int jj)] 2)) zt := by
    intro zt zk
    refine R51 zt ?_
    show Steps p.tables e below (T50.setTop (mkF m 114 #[.val (.int jj), .unset] [(.long (10000000000000000 : Int64)), (.int (16 : Int32)), (.ref b), (.ref b)])) _
    refine st53 _ ?_
    show Steps p.tables e below (T53.setTop (mkF m 115 #[.val (.int jj), .unset] [(.ref b)])) _
    refine XS.dup X53.here hx rfl (hb hby d4_115) rfl rfl ?_
    show Steps p.tables e below (T53.setTop (mkF m 116 #[.val (.int jj), .unset] [(.ref b), (.ref b)])) _
    refine XS.bipush X53.here hx rfl (hb hby d4_116) ?_
    show Steps p.tables e below (T53.setTop (mkF m 118 #[.val (.int jj), .unset] [(.int (17 : Int32)), (.ref b), (.ref b)])) _
    refine X53.ldc2Long hx hown (mvT hZ (hw _ (List.mem_of_getElem? (i := 28) rfl))) (g := (mkF m 118 #[.val (.int jj), .unset] [(.int (17 : Int32)), (.ref b), (.ref b)])) rfl (hb hby d4_118) _ ?_
    exact zk
  obtain ⟨cl55, Ar55, Aq55, As55, An55, Ah55, Ag55⟩ := id V_b
  have hin55 : ¬ ((17 : Int32) < 0 ∨ cl55.slots.size ≤ ((17 : Int32)).toNatClampNeg) := inb_of As55 ⟨by decide, by decide⟩
  obtain ⟨T56, h56, X56, e56, W56, st56⟩ := stJ X53 hx hZ e53 Ar55 (j := (17 : Int32)) hin55 (g := (mkF m 121 #[.val (.int jj), .unset] [(.long (100000000000000000 : Int64)), (.int (17 : Int32)), (.ref b), (.ref b)])) rfl rfl (hb hby d4_121)
  have N56 := Fr.snoc X56 N53 ge_b
  have Sz56 := Nat.le_trans Sz53 (Keep.of_wr W56).1
  have V_b : Arv Z h56 b k2 .long (19 : Int32) [(.long (1 : Int64)), (.long (10 : Int64)), (.long (100 : Int64)), (.long (1000 : Int64)), (.long (10000 : Int64)), (.long (100000 : Int64)), (.long (1000000 : Int64)), (.long (10000000 : Int64)), (.long (100000000 : Int64)), (.long (1000000000 : Int64)), (.long (10000000000 : Int64)), (.long (100000000000 : Int64)), (.long (1000000000000 : Int64)), (.long (10000000000000 : Int64)), (.long (100000000000000 : Int64)), (.long (1000000000000000 : Int64)), (.long (10000000000000000 : Int64)), (.long (100000000000000000 : Int64)), (.long (0 : Int64))] (.long (0 : Int64)) := Arv.set Ar55 Aq55 As55 An55 Ah55 Ag55 rfl W56 17 rfl (Nat.le_of_ble_eq_true rfl)
  have KP := KP.wr W56 (Or.inr sz0_b)
  have R57 : ∀ zt, Steps p.tables e below (T56.setTop (mkF m 128 #[.val (.int jj), .unset] [(.long (1000000000000000000 : Int64)), (.int (18 : Int32)), (.ref b), (.ref b)])) zt → Steps p.tables e below (s₁.setTop (entryFrame m #[(.int jj)] 2)) zt := by
    intro zt zk
    refine R54 zt ?_
    show Steps p.tables e below (T53.setTop (mkF m 121 #[.val (.int jj), .unset] [(.long (100000000000000000 : Int64)), (.int (17 : Int32)), (.ref b), (.ref b)])) _
    refine st56 _ ?_
    show Steps p.tables e below (T56.setTop (mkF m 122 #[.val (.int jj), .unset] [(.ref b)])) _
    refine XS.dup X56.here hx rfl (hb hby d4_122) rfl rfl ?_
    show Steps p.tables e below (T56.setTop (mkF m 123 #[.val (.int jj), .unset] [(.ref b), (.ref b)])) _
    refine XS.bipush X56.here hx rfl (hb hby d4_123) ?_
    show Steps p.tables e below (T56.setTop (mkF m 125 #[.val (.int jj), .unset] [(.int (18 : Int32)), (.ref b), (.ref b)])) _
    refine X56.ldc2Long hx hown (mvT hZ (hw _ (List.mem_of_getElem? (i := 29) rfl))) (g := (mkF m 125 #[.val (.int jj), .unset] [(.int (18 : Int32)), (.ref b), (.ref b)])) rfl (hb hby d4_125) _ ?_
    exact zk
  obtain ⟨cl58, Ar58, Aq58, As58, An58, Ah58, Ag58⟩ := id V_b
  have hin58 : ¬ ((18 : Int32) < 0 ∨ cl58.slots.size ≤ ((18 : Int32)).toNatClampNeg) := inb_of As58 ⟨by decide, by decide⟩
  obtain ⟨T59, h59, X59, e59, W59, st59⟩ := stJ X56 hx hZ e56 Ar58 (j := (18 : Int32)) hin58 (g := (mkF m 128 #[.val (.int jj), .unset] [(.long (1000000000000000000 : Int64)), (.int (18 : Int32)), (.ref b), (.ref b)])) rfl rfl (hb hby d4_128)
  have N59 := Fr.snoc X59 N56 ge_b
  have Sz59 := Nat.le_trans Sz56 (Keep.of_wr W59).1
  have V_b : Arv Z h59 b k2 .long (19 : Int32) [(.long (1 : Int64)), (.long (10 : Int64)), (.long (100 : Int64)), (.long (1000 : Int64)), (.long (10000 : Int64)), (.long (100000 : Int64)), (.long (1000000 : Int64)), (.long (10000000 : Int64)), (.long (100000000 : Int64)), (.long (1000000000 : Int64)), (.long (10000000000 : Int64)), (.long (100000000000 : Int64)), (.long (1000000000000 : Int64)), (.long (10000000000000 : Int64)), (.long (100000000000000 : Int64)), (.long (1000000000000000 : Int64)), (.long (10000000000000000 : Int64)), (.long (100000000000000000 : Int64)), (.long (1000000000000000000 : Int64))] (.long (0 : Int64)) := Arv.set Ar58 Aq58 As58 An58 Ah58 Ag58 rfl W59 18 rfl (Nat.le_of_ble_eq_true rfl)
  have KP := KP.wr W59 (Or.inr sz0_b)
  have R60 : ∀ zt, Steps p.tables e below (T59.setTop (mkF m 132 #[.val (.int jj), .val (.ref b)] [(.int jj), (.ref b)])) zt → Steps p.tables e below (s₁.setTop (entryFrame m #[(.int jj)] 2)) zt := by
    intro zt zk
    refine R57 zt ?_
    show Steps p.tables e below (T56.setTop (mkF m 128 #[.val (.int jj), .unset] [(.long (1000000000000000000 : Int64)), (.int (18 : Int32)), (.ref b), (.ref b)])) _
    refine st59 _ ?_
    show Steps p.tables e below (T59.setTop (mkF m 129 #[.val (.int jj), .unset] [(.ref b)])) _
    refine XS.astoreN X59.here hx rfl (hb hby d4_129) rfl rfl (l' := #[.val (.int jj), .val (.ref b)]) rfl ?_
    show Steps p.tables e below (T59.setTop (mkF m 130 #[.val (.int jj), .val (.ref b)] [])) _
    refine XS.aloadN X59.here hx rfl (hb hby d4_130) rfl rfl ?_
    show Steps p.tables e below (T59.setTop (mkF m 131 #[.val (.int jj), .val (.ref b)] [(.ref b)])) _
    refine XS.iloadN X59.here hx rfl (hb hby d4_131) rfl ?_
    exact zk
  obtain ⟨cl61, Ar61, Aq61, As61, An61, Ah61, Ag61⟩ := id V_b
  have hin61 : ¬ (jj < 0 ∨ cl61.slots.size ≤ (jj).toNatClampNeg) := inb_of As61 ⟨by rw [Int32.lt_iff_toInt_lt]; have : (0 : Int32).toInt = 0 := rfl; omega, by rw [Int32.lt_iff_toInt_lt]; have : (19 : Int32).toInt = 19 := rfl; omega⟩
  have hat61 : cl61.slots[(jj).toNatClampNeg]? = some (.long (own_p10 kn)) := Has.at Ah61 hin61 (by rw [own_clamp hj]; exact own_pl kn hk)
  have R62 : ∀ zt, Steps p.tables e below (T59.setTop (mkF m 133 #[.val (.int jj), .val (.ref b)] [(.long (own_p10 kn))])) zt → Steps p.tables e below (s₁.setTop (entryFrame m #[(.int jj)] 2)) zt := by
    intro zt zk
    refine R60 zt ?_
    show Steps p.tables e below (T59.setTop (mkF m 132 #[.val (.int jj), .val (.ref b)] [(.int jj), (.ref b)])) _
    refine X59.laload hx (j := jj) (v := (.long (own_p10 kn))) (by rw [e59]; exact Ar61.1) (State.isArrayOf_alike hZ.alike Ar61.2.1) Ar61.2.2 hin61 hat61 (g := (mkF m 132 #[.val (.int jj), .val (.ref b)] [(.int jj), (.ref b)])) rfl rfl (hb hby d4_132) _ ?_
    exact zk
  obtain ⟨fs, hr, hrun, hended, hW, hsame⟩ := X59.leave (v := some (.long (own_p10 kn))) (fun h => by rw [Bd.returns] at h; cases h)
  refine ⟨_, _, R62 _ ?_, hrun, hended, _, _, rfl, ?_, ⟨_, rfl⟩, hW, hsame.mono (by decide) (by decide)⟩
  · exact retOut X59 hx Bd.returns rfl (Or.inr (Or.inl ⟨rfl, rfl, _, rfl⟩)) (hb hby d4_133) hr
  · show Q4 Z jj kn h0 n0 _ T59.heap _
    rw [e59]
    exact ⟨rfl, N59, KP⟩
theorem ef1 (m : MethodId) (x0 : Int64) (x1 : Addr) (x2 : Int32) : entryFrame m #[(.long x0), (.ref x1), (.int x2)] 8 = mkF m 0 #[.val (.long x0), .second, .val (.ref x1), .val (.int x2), .unset, .unset, .unset, .unset] [] := by first | (simp [entryFrame, mkF, argsToLocals, Value.category]; done) | rfl
theorem pn_1 : plainName "com/example/reset/reset/Decimal" = true := by first | (simp [plainName, overriddenIn]; done) | decide +kernel
theorem d1_0 : decode prog_12_method_6_code 0 = .ok (.iconst 1, 1) := by decide +kernel
theorem d1_1 : decode prog_12_method_6_code 1 = .ok (.istore 4, 2) := by decide +kernel
theorem d1_3 : decode prog_12_method_6_code 3 = .ok (.lload_n 0, 1) := by decide +kernel
theorem d1_4 : decode prog_12_method_6_code 4 = .ok (.ldc2_w 86, 3) := by decide +kernel
theorem d1_7 : decode prog_12_method_6_code 7 = .ok (.ldiv, 1) := by decide +kernel
theorem d1_8 : decode prog_12_method_6_code 8 = .ok (.lstore 5, 2) := by decide +kernel
theorem d1_10 : decode prog_12_method_6_code 10 = .ok (.lload 5, 2) := by decide +kernel
theorem d1_12 : decode prog_12_method_6_code 12 = .ok (.lconst 0, 1) := by decide +kernel
theorem d1_13 : decode prog_12_method_6_code 13 = .ok (.lcmp, 1) := by decide +kernel
theorem d1_14 : decode prog_12_method_6_code 14 = .ok (.ifCond .le 17, 3) := by decide +kernel
theorem d1_17 : decode prog_12_method_6_code 17 = .ok (.iinc 4 1, 3) := by decide +kernel
theorem d1_20 : decode prog_12_method_6_code 20 = .ok (.lload 5, 2) := by decide +kernel
theorem d1_22 : decode prog_12_method_6_code 22 = .ok (.ldc2_w 86, 3) := by decide +kernel
theorem d1_25 : decode prog_12_method_6_code 25 = .ok (.ldiv, 1) := by decide +kernel
theorem d1_26 : decode prog_12_method_6_code 26 = .ok (.lstore 5, 2) := by decide +kernel
theorem d1_28 : decode prog_12_method_6_code 28 = .ok (.goto (-18), 3) := by decide +kernel
theorem d1_31 : decode prog_12_method_6_code 31 = .ok (.lload_n 0, 1) := by decide +kernel
theorem d1_32 : decode prog_12_method_6_code 32 = .ok (.lstore 5, 2) := by decide +kernel
theorem d1_34 : decode prog_12_method_6_code 34 = .ok (.iload_n 3, 1) := by decide +kernel
theorem d1_35 : decode prog_12_method_6_code 35 = .ok (.iload 4, 2) := by decide +kernel
theorem d1_37 : decode prog_12_method_6_code 37 = .ok (.iadd, 1) := by decide +kernel
theorem d1_38 : decode prog_12_method_6_code 38 = .ok (.iconst 1, 1) := by decide +kernel
theorem d1_39 : decode prog_12_method_6_code 39 = .ok (.isub, 1) := by decide +kernel
theorem d1_40 : decode prog_12_method_6_code 40 = .ok (.istore 7, 2) := by decide +kernel
theorem d1_42 : decode prog_12_method_6_code 42 = .ok (.iload 7, 2) := by decide +kernel
theorem d1_44 : decode prog_12_method_6_code 44 = .ok (.iload_n 3, 1) := by decide +kernel
theorem d1_45 : decode prog_12_method_6_code 45 = .ok (.if_icmp .lt 33, 3) := by decide +kernel
theorem d1_48 : decode prog_12_method_6_code 48 = .ok (.aload_n 2, 1) := by decide +kernel
theorem d1_49 : decode prog_12_method_6_code 49 = .ok (.iload 7, 2) := by decide +kernel
theorem d1_51 : decode prog_12_method_6_code 51 = .ok (.ldc2_w 84, 3) := by decide +kernel
theorem d1_54 : decode prog_12_method_6_code 54 = .ok (.lload 5, 2) := by decide +kernel
theorem d1_56 : decode prog_12_method_6_code 56 = .ok (.ldc2_w 86, 3) := by decide +kernel
theorem d1_59 : decode prog_12_method_6_code 59 = .ok (.lrem, 1) := by decide +kernel
theorem d1_60 : decode prog_12_method_6_code 60 = .ok (.ladd, 1) := by decide +kernel
theorem d1_61 : decode prog_12_method_6_code 61 = .ok (.l2i, 1) := by decide +kernel
theorem d1_62 : decode prog_12_method_6_code 62 = .ok (.i2c, 1) := by decide +kernel
theorem d1_63 : decode prog_12_method_6_code 63 = .ok (.castore, 1) := by decide +kernel
theorem d1_64 : decode prog_12_method_6_code 64 = .ok (.lload 5, 2) := by decide +kernel
theorem d1_66 : decode prog_12_method_6_code 66 = .ok (.ldc2_w 86, 3) := by decide +kernel
theorem d1_69 : decode prog_12_method_6_code 69 = .ok (.ldiv, 1) := by decide +kernel
theorem d1_70 : decode prog_12_method_6_code 70 = .ok (.lstore 5, 2) := by decide +kernel
theorem d1_72 : decode prog_12_method_6_code 72 = .ok (.iinc 7 (-1), 3) := by decide +kernel
theorem d1_75 : decode prog_12_method_6_code 75 = .ok (.goto (-33), 3) := by decide +kernel
theorem d1_78 : decode prog_12_method_6_code 78 = .ok (.iload_n 3, 1) := by decide +kernel
theorem d1_79 : decode prog_12_method_6_code 79 = .ok (.iload 4, 2) := by decide +kernel
theorem d1_81 : decode prog_12_method_6_code 81 = .ok (.iadd, 1) := by decide +kernel
theorem d1_82 : decode prog_12_method_6_code 82 = .ok (.ireturn, 1) := by decide +kernel
def Q1 (Z : State) (v : Int64) (r : Addr) (a3 : Int32) (V : Nat) (d : Nat) (A : Nat) (kc : ClassId) (h0 : Heap) (n0 : Nat) (v : Option Value) (h : Heap) (L : List Loc) : Prop := v = some (.int (a3 + (Int32.ofNat d))) ∧ Fr n0 L ∧ Keep h0 h [r] ∧ Arv Z h r kc .char (24 : Int32) (own_vs V A d d) (.int (0 : Int32))
set_option maxRecDepth 65536 in
set_option maxHeartbeats 40000000 in
theorem rm1 (l : Launch) (Z : State) (a0 : Array Value) (hw : ∀ d ∈ tables_1, d.before a0 Z = true) (ws : List Jvm.Cond) (v : Int64) (r : Addr) (a3 : Int32) (V : Nat) (d : Nat) (A : Nat) (kc : ClassId) (h0 : Heap) (n0 : Nat) (Z0 : n0 ≤ h0.size) (hv : v.toInt = (V : Int)) (hD : own_isD V d) (hA : a3.toInt = (A : Int)) (hA3 : A ≤ 3) (V_r : Arv Z h0 r kc .char (24 : Int32) (own_vs V A d 0) (.int (0 : Int32))) (ge_r : n0 ≤ r) :
    MetFree l (⟨"com/example/reset/reset/Decimal", "writeWhole", "(J[CI)I"⟩ : MethodName) (head1 (Jvm.Cond.code (⟨"com/example/reset/reset/Decimal", "writeWhole", "(J[CI)I"⟩ : MethodName) prog_12_method_6_code 8 (some .int) :: ws) ({ frames := 0, cells := 0, slots := 0, locals := 0 } : Room)) (fun zza zzU => zza = #[(.long v), (.ref r), (.int a3)] ∧ Z.Warmed39 zzU.vm ∧ zzU.heap = h0) (fun _ _ _ _ _ => True) (fun _ zzU zzo zzV => ∃ zzv zzL, zzo = .returned zzv ∧ Q1 Z v r a3 V d A kc h0 n0 zzv zzV.heap zzL ∧ FrameEnd zzU zzo zzV zzL ({ frames := 0, cells := 0, slots := 0, locals := 0 } : Room).cells ({ frames := 0, cells := 0, slots := 0, locals := 0 } : Room).slots) := by
  refine MetFree.of_bodySF (plainFor_of_name pn_1) hisR ?_
  intro p e s m args below meth c s₁ Bd hml0 hP hK
  obtain ⟨rfl, hZ, hh⟩ := hP
  have hx := Bd.exec
  have hby := Bd.bytes
  have hml : c.maxLocals = 8 := hml0
  have hown : s.vm.findClass "com/example/reset/reset/Decimal" = some m.cls := findClass_of_methodNamed Bd.named
  have hnm := (name_of_methodNamed Bd.named Bd.method).1
  have X0 : Stand p l e ({ frames := 0, cells := 0, slots := 0, locals := 0 } : Room) s m #[(.long v), (.ref r), (.int a3)] below meth c s₁ [] 0 0 := Stand.of_body Bd
  have e0 : s₁.heap = h0 := by rw [← hh, Bd.state]; rfl
  have N0 := Fr.nil n0
  have R0 : ∀ zt, Steps p.tables e below (s₁.setTop (mkF m 0 #[.val (.long v), .second, .val (.ref r), .val (.int a3), .unset, .unset, .unset, .unset] [])) zt → Steps p.tables e below (s₁.setTop (entryFrame m #[(.long v), (.ref r), (.int a3)] 8)) zt := fun zt zk => castTop (ef1 m v r a3) zk
  obtain ⟨hd1, hd19, hVd, hVl⟩ := id hD
  have R1 : ∀ zt, Steps p.tables e below (s₁.setTop (mkF m 10 #[.val (.long v), .second, .val (.ref r), .val (.int a3), .val (.int (1 : Int32)), .val (.long (v / (10 : Int64))), .second, .unset] [])) zt → Steps p.tables e below (s₁.setTop (entryFrame m #[(.long v), (.ref r), (.int a3)] 8)) zt := by
    intro zt zk
    refine R0 zt ?_
    show Steps p.tables e below (s₁.setTop (mkF m 0 #[.val (.long v), .second, .val (.ref r), .val (.int a3), .unset, .unset, .unset, .unset] [])) _
    refine XS.iconst X0.here hx rfl (hb hby d1_0) ?_
    show Steps p.tables e below (s₁.setTop (mkF m 1 #[.val (.long v), .second, .val (.ref r), .val (.int a3), .unset, .unset, .unset, .unset] [(.int (1 : Int32))])) _
    refine XS.istore X0.here hx rfl (hb hby d1_1) rfl (l' := #[.val (.long v), .second, .val (.ref r), .val (.int a3), .val (.int (1 : Int32)), .unset, .unset, .unset]) rfl ?_
    show Steps p.tables e below (s₁.setTop (mkF m 3 #[.val (.long v), .second, .val (.ref r), .val (.int a3), .val (.int (1 : Int32)), .unset, .unset, .unset] [])) _
    refine XS.lloadN X0.here hx rfl (hb hby d1_3) rfl ?_
    show Steps p.tables e below (s₁.setTop (mkF m 4 #[.val (.long v), .second, .val (.ref r), .val (.int a3), .val (.int (1 : Int32)), .unset, .unset, .unset] [(.long v)])) _
    refine X0.ldc2Long hx hown (mvT hZ (hw _ (List.mem_of_getElem? (i := 6) rfl))) (g := (mkF m 4 #[.val (.long v), .second, .val (.ref r), .val (.int a3), .val (.int (1 : Int32)), .unset, .unset, .unset] [(.long v)])) rfl (hb hby d1_4) _ ?_
    show Steps p.tables e below (s₁.setTop (mkF m 7 #[.val (.long v), .second, .val (.ref r), .val (.int a3), .val (.int (1 : Int32)), .unset, .unset, .unset] [(.long (10 : Int64)), (.long v)])) _
    refine XS.ldiv X0.here hx rfl (hb hby d1_7) rfl (by decide) ?_
    show Steps p.tables e below (s₁.setTop (mkF m 8 #[.val (.long v), .second, .val (.ref r), .val (.int a3), .val (.int (1 : Int32)), .unset, .unset, .unset] [(.long (v / (10 : Int64)))])) _
    refine XS.lstore X0.here hx rfl (hb hby d1_8) rfl (l' := #[.val (.long v), .second, .val (.ref r), .val (.int a3), .val (.int (1 : Int32)), .val (.long (v / (10 : Int64))), .second, .unset]) rfl ?_
    exact zk
  have L1 : ∀ (k i : Nat) (q : Int64), q.toInt = ((V / 10 ^ i : Nat) : Int) → 1 ≤ i → i + k = d → ∀ zt, Steps p.tables e below (s₁.setTop (mkF m 31 #[.val (.long v), .second, .val (.ref r), .val (.int a3), .val (.int (Int32.ofNat d)), .val (.long (0 : Int64)), .second, .unset] [])) zt → Steps p.tables e below (s₁.setTop (mkF m 10 #[.val (.long v), .second, .val (.ref r), .val (.int a3), .val (.int (Int32.ofNat i)), .val (.long q), .second, .unset] [])) zt := by
    intro k
    induction k with
    | zero =>
      intro i q hq h1 hk zt zk
      obtain rfl : i = d := by omega
      rw [Nat.div_eq_of_lt hVd] at hq
      have hz := own_i64z hq
      subst hz
      show Steps p.tables e below (s₁.setTop (mkF m 10 #[.val (.long v), .second, .val (.ref r), .val (.int a3), .val (.int (Int32.ofNat i)), .val (.long (0 : Int64)), .second, .unset] [])) _
      refine XS.lload X0.here hx rfl (hb hby d1_10) rfl ?_
      show Steps p.tables e below (s₁.setTop (mkF m 12 #[.val (.long v), .second, .val (.ref r), .val (.int a3), .val (.int (Int32.ofNat i)), .val (.long (0 : Int64)), .second, .unset] [(.long (0 : Int64))])) _
      refine XS.lconst X0.here hx rfl (hb hby d1_12) ?_
      show Steps p.tables e below (s₁.setTop (mkF m 13 #[.val (.long v), .second, .val (.ref r), .val (.int a3), .val (.int (Int32.ofNat i)), .val (.long (0 : Int64)), .second, .unset] [(.long (0 : Int64)), (.long (0 : Int64))])) _
      refine XS.lcmp X0.here hx rfl (hb hby d1_13) rfl ?_
      show Steps p.tables e below (s₁.setTop (mkF m 14 #[.val (.long v), .second, .val (.ref r), .val (.int a3), .val (.int (Int32.ofNat i)), .val (.long (0 : Int64)), .second, .unset] [(.int (lcmpW (0 : Int64) (0 : Int64)))])) _
      refine XS.ifYes X0.here hx rfl (pc0 := 14) (pc' := 31) rfl (hb hby d1_14) rfl ((if0 _ _).trans (flt (by decide)).2.2.2) (by decide) (by decide) ?_
      exact zk
    | succ k ih =>
      intro i q hq h1 hk zt zk
      have hpos : 0 < V / 10 ^ i := Nat.div_pos (own_lo hD (by omega) (Or.inl (by omega))) (Nat.pow_pos (by decide))
      show Steps p.tables e below (s₁.setTop (mkF m 10 #[.val (.long v), .second, .val (.ref r), .val (.int a3), .val (.int (Int32.ofNat i)), .val (.long q), .second, .unset] [])) _
      refine XS.lload X0.here hx rfl (hb hby d1_10) rfl ?_
      show Steps p.tables e below (s₁.setTop (mkF m 12 #[.val (.long v), .second, .val (.ref r), .val (.int a3), .val (.int (Int32.ofNat i)), .val (.long q), .second, .unset] [(.long q)])) _
      refine XS.lconst X0.here hx rfl (hb hby d1_12) ?_
      show Steps p.tables e below (s₁.setTop (mkF m 13 #[.val (.long v), .second, .val (.ref r), .val (.int a3), .val (.int (Int32.ofNat i)), .val (.long q), .second, .unset] [(.long (0 : Int64)), (.long q)])) _
      refine XS.lcmp X0.here hx rfl (hb hby d1_13) rfl ?_
      show Steps p.tables e below (s₁.setTop (mkF m 14 #[.val (.long v), .second, .val (.ref r), .val (.int a3), .val (.int (Int32.ofNat i)), .val (.long q), .second, .unset] [(.int (lcmpW q (0 : Int64)))])) _
      refine XS.ifNo X0.here hx rfl (hb hby d1_14) rfl ((if0 _ _).trans (tlt (own_gt0 hq hpos)).2.2.2) ?_
      show Steps p.tables e below (s₁.setTop (mkF m 17 #[.val (.long v), .second, .val (.ref r), .val (.int a3), .val (.int (Int32.ofNat i)), .val (.long q), .second, .unset] [])) _
      refine XS.iinc X0.here hx rfl (hb hby d1_17) rfl (l' := #[.val (.long v), .second, .val (.ref r), .val (.int a3), .val (.int ((Int32.ofNat i) + (1 : Int32))), .val (.long q), .second, .unset]) rfl ?_
      show Steps p.tables e below (s₁.setTop (mkF m 20 #[.val (.long v), .second, .val (.ref r), .val (.int a3), .val (.int ((Int32.ofNat i) + (1 : Int32))), .val (.long q), .second, .unset] [])) _
      refine XS.lload X0.here hx rfl (hb hby d1_20) rfl ?_
      show Steps p.tables e below (s₁.setTop (mkF m 22 #[.val (.long v), .second, .val (.ref r), .val (.int a3), .val (.int ((Int32.ofNat i) + (1 : Int32))), .val (.long q), .second, .unset] [(.long q)])) _
      refine X0.ldc2Long hx hown (mvT hZ (hw _ (List.mem_of_getElem? (i := 6) rfl))) (g := (mkF m 22 #[.val (.long v), .second, .val (.ref r), .val (.int a3), .val (.int ((Int32.ofNat i) + (1 : Int32))), .val (.long q), .second, .unset] [(.long q)])) rfl (hb hby d1_22) _ ?_
      show Steps p.tables e below (s₁.setTop (mkF m 25 #[.val (.long v), .second, .val (.ref r), .val (.int a3), .val (.int ((Int32.ofNat i) + (1 : Int32))), .val (.long q), .second, .unset] [(.long (10 : Int64)), (.long q)])) _
      refine XS.ldiv X0.here hx rfl (hb hby d1_25) rfl (by decide) ?_
      show Steps p.tables e below (s₁.setTop (mkF m 26 #[.val (.long v), .second, .val (.ref r), .val (.int a3), .val (.int ((Int32.ofNat i) + (1 : Int32))), .val (.long q), .second, .unset] [(.long (q / (10 : Int64)))])) _
      refine XS.lstore X0.here hx rfl (hb hby d1_26) rfl (l' := #[.val (.long v), .second, .val (.ref r), .val (.int a3), .val (.int ((Int32.ofNat i) + (1 : Int32))), .val (.long (q / (10 : Int64))), .second, .unset]) rfl ?_
      show Steps p.tables e below (s₁.setTop (mkF m 28 #[.val (.long v), .second, .val (.ref r), .val (.int a3), .val (.int ((Int32.ofNat i) + (1 : Int32))), .val (.long (q / (10 : Int64))), .second, .unset] [])) _
      refine XS.goto X0.here hx rfl (pc0 := 28) (pc' := 10) rfl (hb hby d1_28) (by decide) (by decide) ?_
      have e1 := own_suc i (by omega)
      show Steps p.tables e below (s₁.setTop (mkF m 10 #[.val (.long v), .second, .val (.ref r), .val (.int a3), .val (.int ((Int32.ofNat i) + (1 : Int32))), .val (.long (q / (10 : Int64))), .second, .unset] [])) _
      rw [e1]
      exact ih (i + 1) (q / (10 : Int64)) (by rw [own_div10 hq, own_ten]) (by omega) (by omega) zt zk
  have R_a : ∀ zt, Steps p.tables e below (s₁.setTop (mkF m 31 #[.val (.long v), .second, .val (.ref r), .val (.int a3), .val (.int (Int32.ofNat d)), .val (.long (0 : Int64)), .second, .unset] [])) zt → Steps p.tables e below (s₁.setTop (entryFrame m #[(.long v), (.ref r), (.int a3)] 8)) zt := fun zt zk => R1 zt (L1 (d - 1) 1 (v / (10 : Int64)) (by rw [own_div10 hv]) (by omega) (by omega) zt zk)
  have R2 : ∀ zt, Steps p.tables e below (s₁.setTop (mkF m 42 #[.val (.long v), .second, .val (.ref r), .val (.int a3), .val (.int (Int32.ofNat d)), .val (.long v), .second, .val (.int ((a3 + (Int32.ofNat d)) - (1 : Int32)))] [])) zt → Steps p.tables e below (s₁.setTop (entryFrame m #[(.long v), (.ref r), (.int a3)] 8)) zt := by
    intro zt zk
    refine R_a zt ?_
    show Steps p.tables e below (s₁.setTop (mkF m 31 #[.val (.long v), .second, .val (.ref r), .val (.int a3), .val (.int (Int32.ofNat d)), .val (.long (0 : Int64)), .second, .unset] [])) _
    refine XS.lloadN X0.here hx rfl (hb hby d1_31) rfl ?_
    show Steps p.tables e below (s₁.setTop (mkF m 32 #[.val (.long v), .second, .val (.ref r), .val (.int a3), .val (.int (Int32.ofNat d)), .val (.long (0 : Int64)), .second, .unset] [(.long v)])) _
    refine XS.lstore X0.here hx rfl (hb hby d1_32) rfl (l' := #[.val (.long v), .second, .val (.ref r), .val (.int a3), .val (.int (Int32.ofNat d)), .val (.long v), .second, .unset]) rfl ?_
    show Steps p.tables e below (s₁.setTop (mkF m 34 #[.val (.long v), .second, .val (.ref r), .val (.int a3), .val (.int (Int32.ofNat d)), .val (.long v), .second, .unset] [])) _
    refine XS.iloadN X0.here hx rfl (hb hby d1_34) rfl ?_
    show Steps p.tables e below (s₁.setTop (mkF m 35 #[.val (.long v), .second, .val (.ref r), .val (.int a3), .val (.int (Int32.ofNat d)), .val (.long v), .second, .unset] [(.int a3)])) _
    refine XS.iload X0.here hx rfl (hb hby d1_35) rfl ?_
    show Steps p.tables e below (s₁.setTop (mkF m 37 #[.val (.long v), .second, .val (.ref r), .val (.int a3), .val (.int (Int32.ofNat d)), .val (.long v), .second, .unset] [(.int (Int32.ofNat d)), (.int a3)])) _
    refine XS.iadd X0.here hx rfl (hb hby d1_37) rfl ?_
    show Steps p.tables e below (s₁.setTop (mkF m 38 #[.val (.long v), .second, .val (.ref r), .val (.int a3), .val (.int (Int32.ofNat d)), .val (.long v), .second, .unset] [(.int (a3 + (Int32.ofNat d)))])) _
    refine XS.iconst X0.here hx rfl (hb hby d1_38) ?_
    show Steps p.tables e below (s₁.setTop (mkF m 39 #[.val (.long v), .second, .val (.ref r), .val (.int a3), .val (.int (Int32.ofNat d)), .val (.long v), .second, .unset] [(.int (1 : Int32)), (.int (a3 + (Int32.ofNat d)))])) _
    refine XS.isub X0.here hx rfl (hb hby d1_39) rfl ?_
    show Steps p.tables e below (s₁.setTop (mkF m 40 #[.val (.long v), .second, .val (.ref r), .val (.int a3), .val (.int (Int32.ofNat d)), .val (.long v), .second, .unset] [(.int ((a3 + (Int32.ofNat d)) - (1 : Int32)))])) _
    refine XS.istore X0.here hx rfl (hb hby d1_40) rfl (l' := #[.val (.long v), .second, .val (.ref r), .val (.int a3), .val (.int (Int32.ofNat d)), .val (.long v), .second, .val (.int ((a3 + (Int32.ofNat d)) - (1 : Int32)))]) rfl ?_
    exact zk
  have L2 : ∀ (k t : Nat) (T : State) (hh : Heap) (LL : List Loc) (q : Int64) (ix : Int32), Stand p l e ({ frames := 0, cells := 0, slots := 0, locals := 0 } : Room) s m #[(.long v), (.ref r), (.int a3)] below meth c T LL 0 0 → T.heap = hh → Fr n0 LL → Keep h0 hh [r] → Arv Z hh r kc .char (24 : Int32) (own_vs V A d t) (.int (0 : Int32)) → q.toInt = ((V / 10 ^ t : Nat) : Int) → ix.toInt = (A : Int) + d - 1 - t → t + k = d →
      ∃ (T' : State) (h' : Heap) (L' : List Loc), Stand p l e ({ frames := 0, cells := 0, slots := 0, locals := 0 } : Room) s m #[(.long v), (.ref r), (.int a3)] below meth c T' L' 0 0 ∧ T'.heap = h' ∧ Fr n0 L' ∧ Keep h0 h' [r] ∧ Arv Z h' r kc .char (24 : Int32) (own_vs V A d d) (.int (0 : Int32)) ∧ ∀ zt, Steps p.tables e below (T'.setTop (mkF m 78 #[.val (.long v), .second, .val (.ref r), .val (.int a3), .val (.int (Int32.ofNat d)), .val (.long (0 : Int64)), .second, .val (.int (a3 - (1 : Int32)))] [])) zt → Steps p.tables e below (T.setTop (mkF m 42 #[.val (.long v), .second, .val (.ref r), .val (.int a3), .val (.int (Int32.ofNat d)), .val (.long q), .second, .val (.int ix)] [])) zt := by
    intro k
    induction k with
    | zero =>
      intro t T hh LL q ix X eT N KP V_r hq hix hk
      obtain rfl : t = d := by omega
      rw [Nat.div_eq_of_lt hVd] at hq
      have hz := own_i64z hq
      subst hz
      have hx1 : ix = a3 - (1 : Int32) := own_last hA hA3 hix
      subst hx1
      refine ⟨T, hh, LL, X, eT, N, KP, V_r, fun zt zk => ?_⟩
      show Steps p.tables e below (T.setTop (mkF m 42 #[.val (.long v), .second, .val (.ref r), .val (.int a3), .val (.int (Int32.ofNat t)), .val (.long (0 : Int64)), .second, .val (.int (a3 - (1 : Int32)))] [])) _
      refine XS.iload X.here hx rfl (hb hby d1_42) rfl ?_
      show Steps p.tables e below (T.setTop (mkF m 44 #[.val (.long v), .second, .val (.ref r), .val (.int a3), .val (.int (Int32.ofNat t)), .val (.long (0 : Int64)), .second, .val (.int (a3 - (1 : Int32)))] [(.int (a3 - (1 : Int32)))])) _
      refine XS.iloadN X.here hx rfl (hb hby d1_44) rfl ?_
      show Steps p.tables e below (T.setTop (mkF m 45 #[.val (.long v), .second, .val (.ref r), .val (.int a3), .val (.int (Int32.ofNat t)), .val (.long (0 : Int64)), .second, .val (.int (a3 - (1 : Int32)))] [(.int a3), (.int (a3 - (1 : Int32)))])) _
      refine XS.icmpYes X.here hx rfl (pc0 := 45) (pc' := 78) rfl (hb hby d1_45) rfl (tlt (own_lt1 hA hA3)).1 (by decide) (by decide) ?_
      exact zk
    | succ k ih =>
      intro t T hh LL q ix X eT N KP V_r hq hix hk
      have hnl : ¬ ix < a3 := by rw [Int32.lt_iff_toInt_lt]; omega
      have hi0 : ¬ ix < 0 := by rw [Int32.lt_iff_toInt_lt]; have : (0 : Int32).toInt = 0 := rfl; omega
      have hi24 : ix < (24 : Int32) := by rw [Int32.lt_iff_toInt_lt]; have : (24 : Int32).toInt = 24 := rfl; omega
      have hnat : ix.toNatClampNeg = A + d - 1 - t := own_clamp (by omega)
      obtain ⟨cl, Ar, Aq, As, An, Ah, Ag⟩ := id V_r
      have hin : ¬ (ix < 0 ∨ cl.slots.size ≤ ix.toNatClampNeg) := inb_of As ⟨hi0, hi24⟩
      obtain ⟨T2, h2, X2, e2, W2, st2⟩ := stC X hx hZ eT Ar (j := ix) hin (g := (mkF m 63 #[.val (.long v), .second, .val (.ref r), .val (.int a3), .val (.int (Int32.ofNat d)), .val (.long q), .second, .val (.int ix)] [(.int ((((((48 : Int64) + (q - (q / (10 : Int64)) * (10 : Int64)))).toInt32)).toUInt32.toUInt16.toUInt32.toInt32)), (.int ix), (.ref r)])) rfl rfl (hb hby d1_63)
      have N2 := Fr.snoc X2 N ge_r
      have KP2 := KP.wr W2 (Or.inl (List.mem_of_getElem? (i := 0) rfl))
      have V2 := Arv.set Ar Aq As An Ah Ag (fits_nar_char _) W2 (A + d - 1 - t) hnat (by rw [own_vslen]; omega)
      rw [own_chr hq, own_nch, own_vsset V A d t (by omega) (by omega)] at V2
      obtain ⟨T', h', L', X', e', N', K', V', st'⟩ := ih (t + 1) T2 h2 _ (q / (10 : Int64)) (ix + (-1 : Int32)) X2 e2 N2 KP2 V2 (by rw [own_div10 hq, own_ten]) (own_dec hix (by omega)) (by omega)
      refine ⟨T', h', L', X', e', N', K', V', fun zt zk => ?_⟩
      show Steps p.tables e below (T.setTop (mkF m 42 #[.val (.long v), .second, .val (.ref r), .val (.int a3), .val (.int (Int32.ofNat d)), .val (.long q), .second, .val (.int ix)] [])) _
      refine XS.iload X.here hx rfl (hb hby d1_42) rfl ?_
      show Steps p.tables e below (T.setTop (mkF m 44 #[.val (.long v), .second, .val (.ref r), .val (.int a3), .val (.int (Int32.ofNat d)), .val (.long q), .second, .val (.int ix)] [(.int ix)])) _
      refine XS.iloadN X.here hx rfl (hb hby d1_44) rfl ?_
      show Steps p.tables e below (T.setTop (mkF m 45 #[.val (.long v), .second, .val (.ref r), .val (.int a3), .val (.int (Int32.ofNat d)), .val (.long q), .second, .val (.int ix)] [(.int a3), (.int ix)])) _
      refine XS.icmpNo X.here hx rfl (hb hby d1_45) rfl (flt hnl).1 ?_
      show Steps p.tables e below (T.setTop (mkF m 48 #[.val (.long v), .second, .val (.ref r), .val (.int a3), .val (.int (Int32.ofNat d)), .val (.long q), .second, .val (.int ix)] [])) _
      refine XS.aloadN X.here hx rfl (hb hby d1_48) rfl rfl ?_
      show Steps p.tables e below (T.setTop (mkF m 49 #[.val (.long v), .second, .val (.ref r), .val (.int a3), .val (.int (Int32.ofNat d)), .val (.long q), .second, .val (.int ix)] [(.ref r)])) _
      refine XS.iload X.here hx rfl (hb hby d1_49) rfl ?_
      show Steps p.tables e below (T.setTop (mkF m 51 #[.val (.long v), .second, .val (.ref r), .val (.int a3), .val (.int (Int32.ofNat d)), .val (.long q), .second, .val (.int ix)] [(.int ix), (.ref r)])) _
      refine X.ldc2Long hx hown (mvT hZ (hw _ (List.mem_of_getElem? (i := 7) rfl))) (g := (mkF m 51 #[.val (.long v), .second, .val (.ref r), .val (.int a3), .val (.int (Int32.ofNat d)), .val (.long q), .second, .val (.int ix)] [(.int ix), (.ref r)])) rfl (hb hby d1_51) _ ?_
      show Steps p.tables e below (T.setTop (mkF m 54 #[.val (.long v), .second, .val (.ref r), .val (.int a3), .val (.int (Int32.ofNat d)), .val (.long q), .second, .val (.int ix)] [(.long (48 : Int64)), (.int ix), (.ref r)])) _
      refine XS.lload X.here hx rfl (hb hby d1_54) rfl ?_
      show Steps p.tables e below (T.setTop (mkF m 56 #[.val (.long v), .second, .val (.ref r), .val (.int a3), .val (.int (Int32.ofNat d)), .val (.long q), .second, .val (.int ix)] [(.long q), (.long (48 : Int64)), (.int ix), (.ref r)])) _
      refine X.ldc2Long hx hown (mvT hZ (hw _ (List.mem_of_getElem? (i := 6) rfl))) (g := (mkF m 56 #[.val (.long v), .second, .val (.ref r), .val (.int a3), .val (.int (Int32.ofNat d)), .val (.long q), .second, .val (.int ix)] [(.long q), (.long (48 : Int64)), (.int ix), (.ref r)])) rfl (hb hby d1_56) _ ?_
      show Steps p.tables e below (T.setTop (mkF m 59 #[.val (.long v), .second, .val (.ref r), .val (.int a3), .val (.int (Int32.ofNat d)), .val (.long q), .second, .val (.int ix)] [(.long (10 : Int64)), (.long q), (.long (48 : Int64)), (.int ix), (.ref r)])) _
      refine XS.lrem X.here hx rfl (hb hby d1_59) rfl (by decide) ?_
      show Steps p.tables e below (T.setTop (mkF m 60 #[.val (.long v), .second, .val (.ref r), .val (.int a3), .val (.int (Int32.ofNat d)), .val (.long q), .second, .val (.int ix)] [(.long (q - (q / (10 : Int64)) * (10 : Int64))), (.long (48 : Int64)), (.int ix), (.ref r)])) _
      refine XS.ladd X.here hx rfl (hb hby d1_60) rfl ?_
      show Steps p.tables e below (T.setTop (mkF m 61 #[.val (.long v), .second, .val (.ref r), .val (.int a3), .val (.int (Int32.ofNat d)), .val (.long q), .second, .val (.int ix)] [(.long ((48 : Int64) + (q - (q / (10 : Int64)) * (10 : Int64)))), (.int ix), (.ref r)])) _
      refine XS.l2i X.here hx rfl (hb hby d1_61) rfl ?_
      show Steps p.tables e below (T.setTop (mkF m 62 #[.val (.long v), .second, .val (.ref r), .val (.int a3), .val (.int (Int32.ofNat d)), .val (.long q), .second, .val (.int ix)] [(.int ((((48 : Int64) + (q - (q / (10 : Int64)) * (10 : Int64)))).toInt32)), (.int ix), (.ref r)])) _
      refine XS.i2c X.here hx rfl (hb hby d1_62) rfl ?_
      show Steps p.tables e below (T.setTop (mkF m 63 #[.val (.long v), .second, .val (.ref r), .val (.int a3), .val (.int (Int32.ofNat d)), .val (.long q), .second, .val (.int ix)] [(.int ((((((48 : Int64) + (q - (q / (10 : Int64)) * (10 : Int64)))).toInt32)).toUInt32.toUInt16.toUInt32.toInt32)), (.int ix), (.ref r)])) _
      refine st2 _ ?_
      show Steps p.tables e below (T2.setTop (mkF m 64 #[.val (.long v), .second, .val (.ref r), .val (.int a3), .val (.int (Int32.ofNat d)), .val (.long q), .second, .val (.int ix)] [])) _
      refine XS.lload X2.here hx rfl (hb hby d1_64) rfl ?_
      show Steps p.tables e below (T2.setTop (mkF m 66 #[.val (.long v), .second, .val (.ref r), .val (.int a3), .val (.int (Int32.ofNat d)), .val (.long q), .second, .val (.int ix)] [(.long q)])) _
      refine X2.ldc2Long hx hown (mvT hZ (hw _ (List.mem_of_getElem? (i := 6) rfl))) (g := (mkF m 66 #[.val (.long v), .second, .val (.ref r), .val (.int a3), .val (.int (Int32.ofNat d)), .val (.long q), .second, .val (.int ix)] [(.long q)])) rfl (hb hby d1_66) _ ?_
      show Steps p.tables e below (T2.setTop (mkF m 69 #[.val (.long v), .second, .val (.ref r), .val (.int a3), .val (.int (Int32.ofNat d)), .val (.long q), .second, .val (.int ix)] [(.long (10 : Int64)), (.long q)])) _
      refine XS.ldiv X2.here hx rfl (hb hby d1_69) rfl (by decide) ?_
      show Steps p.tables e below (T2.setTop (mkF m 70 #[.val (.long v), .second, .val (.ref r), .val (.int a3), .val (.int (Int32.ofNat d)), .val (.long q), .second, .val (.int ix)] [(.long (q / (10 : Int64)))])) _
      refine XS.lstore X2.here hx rfl (hb hby d1_70) rfl (l' := #[.val (.long v), .second, .val (.ref r), .val (.int a3), .val (.int (Int32.ofNat d)), .val (.long (q / (10 : Int64))), .second, .val (.int ix)]) rfl ?_
      show Steps p.tables e below (T2.setTop (mkF m 72 #[.val (.long v), .second, .val (.ref r), .val (.int a3), .val (.int (Int32.ofNat d)), .val (.long (q / (10 : Int64))), .second, .val (.int ix)] [])) _
      refine XS.iinc X2.here hx rfl (hb hby d1_72) rfl (l' := #[.val (.long v), .second, .val (.ref r), .val (.int a3), .val (.int (Int32.ofNat d)), .val (.long (q / (10 : Int64))), .second, .val (.int (ix + (-1 : Int32)))]) rfl ?_
      show Steps p.tables e below (T2.setTop (mkF m 75 #[.val (.long v), .second, .val (.ref r), .val (.int a3), .val (.int (Int32.ofNat d)), .val (.long (q / (10 : Int64))), .second, .val (.int (ix + (-1 : Int32)))] [])) _
      refine XS.goto X2.here hx rfl (pc0 := 75) (pc' := 42) rfl (hb hby d1_75) (by decide) (by decide) ?_
      exact st' zt zk
  obtain ⟨T9, h9, L9, X9, e9, N9, K9, V9, st9⟩ := L2 d 0 s₁ h0 [] v ((a3 + (Int32.ofNat d)) - (1 : Int32)) X0 e0 N0 (Keep.refl h0 [r]) V_r (by rw [hv, Nat.pow_zero, Nat.div_one]) (own_first hA hA3 hd1 hd19) (by omega)
  have R_b : ∀ zt, Steps p.tables e below (T9.setTop (mkF m 78 #[.val (.long v), .second, .val (.ref r), .val (.int a3), .val (.int (Int32.ofNat d)), .val (.long (0 : Int64)), .second, .val (.int (a3 - (1 : Int32)))] [])) zt → Steps p.tables e below (s₁.setTop (entryFrame m #[(.long v), (.ref r), (.int a3)] 8)) zt := fun zt zk => R2 zt (st9 zt zk)
  have R3 : ∀ zt, Steps p.tables e below (T9.setTop (mkF m 82 #[.val (.long v), .second, .val (.ref r), .val (.int a3), .val (.int (Int32.ofNat d)), .val (.long (0 : Int64)), .second, .val (.int (a3 - (1 : Int32)))] [(.int (a3 + (Int32.ofNat d)))])) zt → Steps p.tables e below (s₁.setTop (entryFrame m #[(.long v), (.ref r), (.int a3)] 8)) zt := by
    intro zt zk
    refine R_b zt ?_
    show Steps p.tables e below (T9.setTop (mkF m 78 #[.val (.long v), .second, .val (.ref r), .val (.int a3), .val (.int (Int32.ofNat d)), .val (.long (0 : Int64)), .second, .val (.int (a3 - (1 : Int32)))] [])) _
    refine XS.iloadN X9.here hx rfl (hb hby d1_78) rfl ?_
    show Steps p.tables e below (T9.setTop (mkF m 79 #[.val (.long v), .second, .val (.ref r), .val (.int a3), .val (.int (Int32.ofNat d)), .val (.long (0 : Int64)), .second, .val (.int (a3 - (1 : Int32)))] [(.int a3)])) _
    refine XS.iload X9.here hx rfl (hb hby d1_79) rfl ?_
    show Steps p.tables e below (T9.setTop (mkF m 81 #[.val (.long v), .second, .val (.ref r), .val (.int a3), .val (.int (Int32.ofNat d)), .val (.long (0 : Int64)), .second, .val (.int (a3 - (1 : Int32)))] [(.int (Int32.ofNat d)), (.int a3)])) _
    refine XS.iadd X9.here hx rfl (hb hby d1_81) rfl ?_
    exact zk
  obtain ⟨fs, hr, hrun, hended, hW, hsame⟩ := X9.leave (v := some (.int (a3 + (Int32.ofNat d)))) (fun h => by rw [Bd.returns] at h; cases h)
  refine ⟨_, _, R3 _ ?_, hrun, hended, _, _, rfl, ?_, ⟨_, rfl⟩, hW, hsame.mono (by decide) (by decide)⟩
  · exact retI X9 hx Bd.returns (hb hby d1_82) hr
  · show Q1 Z v r a3 V d A kc h0 n0 _ T9.heap _
    rw [e9]
    exact ⟨rfl, N9, K9, V9⟩
theorem ef3 (m : MethodId) (x0 : Int64) (x1 : Addr) (x2 : Int32) (x3 : Int32) (x4 : Int32) : entryFrame m #[(.long x0), (.ref x1), (.int x2), (.int x3), (.int x4)] 6 = mkF m 0 #[.val (.long x0), .second, .val (.ref x1), .val (.int x2), .val (.int x3), .val (.int x4)] [] := by first | (simp [entryFrame, mkF, argsToLocals, Value.category]; done) | rfl
theorem d3_0 : decode method_5_code 0 = .ok (.iload 5, 2) := by decide +kernel
theorem d3_2 : decode method_5_code 2 = .ok (.iload_n 3, 1) := by decide +kernel
theorem d3_3 : decode method_5_code 3 = .ok (.if_icmp .lt 12, 3) := by decide +kernel
theorem d3_15 : decode method_5_code 15 = .ok (.aload_n 2, 1) := by decide +kernel
theorem d3_16 : decode method_5_code 16 = .ok (.iload 5, 2) := by decide +kernel
theorem d3_18 : decode method_5_code 18 = .ok (.caload, 1) := by decide +kernel
theorem d3_19 : decode method_5_code 19 = .ok (.ifCond .ne 7, 3) := by decide +kernel
theorem d3_22 : decode method_5_code 22 = .ok (.iconst 1, 1) := by decide +kernel
theorem d3_23 : decode method_5_code 23 = .ok (.goto 4, 3) := by decide +kernel
theorem d3_27 : decode method_5_code 27 = .ok (.ireturn, 1) := by decide +kernel
theorem d3_6 : decode method_5_code 6 = .ok (.iload 5, 2) := by decide +kernel
theorem d3_8 : decode method_5_code 8 = .ok (.iload_n 3, 1) := by decide +kernel
theorem d3_9 : decode method_5_code 9 = .ok (.iload 4, 2) := by decide +kernel
theorem d3_11 : decode method_5_code 11 = .ok (.iadd, 1) := by decide +kernel
theorem d3_12 : decode method_5_code 12 = .ok (.if_icmp .lt 16, 3) := by decide +kernel
theorem d3_28 : decode method_5_code 28 = .ok (.aload_n 2, 1) := by decide +kernel
theorem d3_29 : decode method_5_code 29 = .ok (.iload 5, 2) := by decide +kernel
theorem d3_31 : decode method_5_code 31 = .ok (.caload, 1) := by decide +kernel
theorem d3_32 : decode method_5_code 32 = .ok (.ldc2_w 63, 3) := by decide +kernel
theorem d3_35 : decode method_5_code 35 = .ok (.lload_n 0, 1) := by decide +kernel
theorem d3_36 : decode method_5_code 36 = .ok (.iload 4, 2) := by decide +kernel
theorem d3_38 : decode method_5_code 38 = .ok (.iconst 1, 1) := by decide +kernel
theorem d3_39 : decode method_5_code 39 = .ok (.isub, 1) := by decide +kernel
theorem d3_40 : decode method_5_code 40 = .ok (.iload 5, 2) := by decide +kernel
theorem d3_42 : decode method_5_code 42 = .ok (.iload_n 3, 1) := by decide +kernel
theorem d3_43 : decode method_5_code 43 = .ok (.isub, 1) := by decide +kernel
theorem d3_44 : decode method_5_code 44 = .ok (.isub, 1) := by decide +kernel
theorem pd_0 : parseMethodDescriptor "(I)J" = some ⟨[.int], some .long⟩ := by decide +kernel
theorem d3_45 : decode method_5_code 45 = .ok (.invokestatic 65, 3) := by decide +kernel
theorem d3_48 : decode method_5_code 48 = .ok (.ldiv, 1) := by decide +kernel
theorem d3_49 : decode method_5_code 49 = .ok (.ldc2_w 27, 3) := by decide +kernel
theorem d3_52 : decode method_5_code 52 = .ok (.lrem, 1) := by decide +kernel
theorem d3_53 : decode method_5_code 53 = .ok (.ladd, 1) := by decide +kernel
theorem d3_54 : decode method_5_code 54 = .ok (.l2i, 1) := by decide +kernel
theorem d3_55 : decode method_5_code 55 = .ok (.i2c, 1) := by decide +kernel
theorem d3_56 : decode method_5_code 56 = .ok (.if_icmp .ne 7, 3) := by decide +kernel
theorem d3_59 : decode method_5_code 59 = .ok (.iconst 1, 1) := by decide +kernel
theorem d3_60 : decode method_5_code 60 = .ok (.goto 4, 3) := by decide +kernel
theorem d3_64 : decode method_5_code 64 = .ok (.ireturn, 1) := by decide +kernel
def Q3 (Z : State) (v : Int64) (r : Addr) (a3 : Int32) (nn : Int32) (ii : Int32) (V : Nat) (d : Nat) (A : Nat) (kc : ClassId) (I0 : Nat) (h0 : Heap) (n0 : Nat) (v : Option Value) (h : Heap) (L : List Loc) : Prop := v = some (.int (1 : Int32)) ∧ Fr n0 L ∧ Keep h0 h []
set_option maxRecDepth 65536 in
set_option maxHeartbeats 40000000 in
theorem rm3 (l : Launch) (Z : State) (a0 : Array Value) (hw : ∀ d ∈ tables_1, d.before a0 Z = true) (ws : List Jvm.Cond) (v : Int64) (r : Addr) (a3 : Int32) (nn : Int32) (ii : Int32) (V : Nat) (d : Nat) (A : Nat) (kc : ClassId) (I0 : Nat) (h0 : Heap) (n0 : Nat) (Z0 : n0 ≤ h0.size) (hv : v.toInt = (V : Int)) (hD : own_isD V d) (hA : a3.toInt = (A : Int)) (hA3 : A ≤ 3) (hnn : nn.toInt = (d : Int)) (hii : ii.toInt = (I0 : Int)) (hI : I0 < 24) (V_r : Arv Z h0 r kc .char (24 : Int32) (own_vs V A d d) (.int (0 : Int32))) :
    MetFree l (⟨"com/example/reset/reset/DecimalWriteWholePinLaw", "place", "(J[CIII)Z"⟩ : MethodName) (head1 (Jvm.Cond.code (⟨"com/example/reset/reset/DecimalWriteWholePinLaw", "place", "(J[CIII)Z"⟩ : MethodName) method_5_code 6 (some .boolean) :: ws) ({ frames := 1, cells := 1, slots := 19, locals := 18 } : Room)) (fun zza zzU => zza = #[(.long v), (.ref r), (.int a3), (.int nn), (.int ii)] ∧ Z.Warmed39 zzU.vm ∧ zzU.heap = h0) (fun _ _ _ _ _ => True) (fun _ zzU zzo zzV => ∃ zzv zzL, zzo = .returned zzv ∧ Q3 Z v r a3 nn ii V d A kc I0 h0 n0 zzv zzV.heap zzL ∧ FrameEnd zzU zzo zzV zzL ({ frames := 1, cells := 1, slots := 19, locals := 18 } : Room).cells ({ frames := 1, cells := 1, slots := 19, locals := 18 } : Room).slots) := by
  refine MetFree.of_bodySF (plainFor_of_name pn_0) hisR ?_
  intro p e s m args below meth c s₁ Bd hml0 hP hK
  obtain ⟨rfl, hZ, hh⟩ := hP
  have hx := Bd.exec
  have hby := Bd.bytes
  have hml : c.maxLocals = 6 := hml0
  have hown : s.vm.findClass "com/example/reset/reset/DecimalWriteWholePinLaw" = some m.cls := findClass_of_methodNamed Bd.named
  have hnm := (name_of_methodNamed Bd.named Bd.method).1
  have X0 : Stand p l e ({ frames := 1, cells := 1, slots := 19, locals := 18 } : Room) s m #[(.long v), (.ref r), (.int a3), (.int nn), (.int ii)] below meth c s₁ [] 0 0 := Stand.of_body Bd
  have e0 : s₁.heap = h0 := by rw [← hh, Bd.state]; rfl
  have N0 := Fr.nil n0
  have R0 : ∀ zt, Steps p.tables e below (s₁.setTop (mkF m 0 #[.val (.long v), .second, .val (.ref r), .val (.int a3), .val (.int nn), .val (.int ii)] [])) zt → Steps p.tables e below (s₁.setTop (entryFrame m #[(.long v), (.ref r), (.int a3), (.int nn), (.int ii)] 6)) zt := fun zt zk => castTop (ef3 m v r a3 nn ii) zk
  have KP := Keep.refl h0 []
  obtain ⟨hd1, hd19, hVd, hVl⟩ := id hD
  have hb24 : ¬ ii < 0 ∧ ii < (24 : Int32) := ⟨by rw [Int32.lt_iff_toInt_lt]; have : (0 : Int32).toInt = 0 := rfl; omega, by rw [Int32.lt_iff_toInt_lt]; have : (24 : Int32).toInt = 24 := rfl; omega⟩
  have hval : (own_vs V A d d).getD ii.toNatClampNeg (.int (0 : Int32)) = .int (own_cell V A d d I0) := by rw [own_clamp hii]; exact own_vsat V A d d I0 hI
  have hsum := own_sum2 hA hA3 hnn hd19
  have R1 : ∀ zt, Steps p.tables e below (s₁.setTop (mkF m 3 #[.val (.long v), .second, .val (.ref r), .val (.int a3), .val (.int nn), .val (.int ii)] [(.int a3), (.int ii)])) zt → Steps p.tables e below (s₁.setTop (entryFrame m #[(.long v), (.ref r), (.int a3), (.int nn), (.int ii)] 6)) zt := by
    intro zt zk
    refine R0 zt ?_
    show Steps p.tables e below (s₁.setTop (mkF m 0 #[.val (.long v), .second, .val (.ref r), .val (.int a3), .val (.int nn), .val (.int ii)] [])) _
    refine XS.iload X0.here hx rfl (hb hby d3_0) rfl ?_
    show Steps p.tables e below (s₁.setTop (mkF m 2 #[.val (.long v), .second, .val (.ref r), .val (.int a3), .val (.int nn), .val (.int ii)] [(.int ii)])) _
    refine XS.iloadN X0.here hx rfl (hb hby d3_2) rfl ?_
    exact zk
  by_cases hc2 : ii < a3
  ·
    skip
    have R3 : ∀ zt, Steps p.tables e below (s₁.setTop (mkF m 15 #[.val (.long v), .second, .val (.ref r), .val (.int a3), .val (.int nn), .val (.int ii)] [])) zt → Steps p.tables e below (s₁.setTop (entryFrame m #[(.long v), (.ref r), (.int a3), (.int nn), (.int ii)] 6)) zt := by
      intro zt zk
      refine R1 zt ?_
      show Steps p.tables e below (s₁.setTop (mkF m 3 #[.val (.long v), .second, .val (.ref r), .val (.int a3), .val (.int nn), .val (.int ii)] [(.int a3), (.int ii)])) _
      refine XS.icmpYes X0.here hx rfl (pc0 := 3) (pc' := 15) rfl (hb hby d3_3) rfl (tlt hc2).1 (by decide) (by decide) ?_
      exact zk
    rw [Int32.lt_iff_toInt_lt] at hc2
    have hc0 : own_cell V A d d I0 = (0 : Int32) := if_neg (by omega)
    have R4 : ∀ zt, Steps p.tables e below (s₁.setTop (mkF m 18 #[.val (.long v), .second, .val (.ref r), .val (.int a3), .val (.int nn), .val (.int ii)] [(.int ii), (.ref r)])) zt → Steps p.tables e below (s₁.setTop (entryFrame m #[(.long v), (.ref r), (.int a3), (.int nn), (.int ii)] 6)) zt := by
      intro zt zk
      refine R3 zt ?_
      show Steps p.tables e below (s₁.setTop (mkF m 15 #[.val (.long v), .second, .val (.ref r), .val (.int a3), .val (.int nn), .val (.int ii)] [])) _
      refine XS.aloadN X0.here hx rfl (hb hby d3_15) rfl rfl ?_
      show Steps p.tables e below (s₁.setTop (mkF m 16 #[.val (.long v), .second, .val (.ref r), .val (.int a3), .val (.int nn), .val (.int ii)] [(.ref r)])) _
      refine XS.iload X0.here hx rfl (hb hby d3_16) rfl ?_
      exact zk
    obtain ⟨cl5, Ar5, Aq5, As5, An5, Ah5, Ag5⟩ := id V_r
    have hin5 : ¬ (ii < 0 ∨ cl5.slots.size ≤ (ii).toNatClampNeg) := inb_of As5 hb24
    have hat5 : cl5.slots[(ii).toNatClampNeg]? = some (.int (own_cell V A d d I0)) := Has.at Ah5 hin5 hval
    have R6 : ∀ zt, Steps p.tables e below (s₁.setTop (mkF m 27 #[.val (.long v), .second, .val (.ref r), .val (.int a3), .val (.int nn), .val (.int ii)] [(.int (1 : Int32))])) zt → Steps p.tables e below (s₁.setTop (entryFrame m #[(.long v), (.ref r), (.int a3), (.int nn), (.int ii)] 6)) zt := by
      intro zt zk
      refine R4 zt ?_
      show Steps p.tables e below (s₁.setTop (mkF m 18 #[.val (.long v), .second, .val (.ref r), .val (.int a3), .val (.int nn), .val (.int ii)] [(.int ii), (.ref r)])) _
      refine X0.caload hx (j := ii) (v := (.int (own_cell V A d d I0))) (by rw [e0]; exact Ar5.1) (State.isArrayOf_alike hZ.alike Ar5.2.1) Ar5.2.2 hin5 hat5 (g := (mkF m 18 #[.val (.long v), .second, .val (.ref r), .val (.int a3), .val (.int nn), .val (.int ii)] [(.int ii), (.ref r)])) rfl rfl (hb hby d3_18) _ ?_
      show Steps p.tables e below (s₁.setTop (mkF m 19 #[.val (.long v), .second, .val (.ref r), .val (.int a3), .val (.int nn), .val (.int ii)] [(.int (own_cell V A d d I0))])) _
      refine XS.ifNo X0.here hx rfl (hb hby d3_19) rfl ((if0 _ _).trans (teq hc0).2) ?_
      show Steps p.tables e below (s₁.setTop (mkF m 22 #[.val (.long v), .second, .val (.ref r), .val (.int a3), .val (.int nn), .val (.int ii)] [])) _
      refine XS.iconst X0.here hx rfl (hb hby d3_22) ?_
      show Steps p.tables e below (s₁.setTop (mkF m 23 #[.val (.long v), .second, .val (.ref r), .val (.int a3), .val (.int nn), .val (.int ii)] [(.int (1 : Int32))])) _
      refine XS.goto X0.here hx rfl (pc0 := 23) (pc' := 27) rfl (hb hby d3_23) (by decide) (by decide) ?_
      exact zk
    obtain ⟨fs, hr, hrun, hended, hW, hsame⟩ := X0.leave (v := some (.int (1 : Int32))) (fun h => by rw [Bd.returns] at h; cases h)
    refine ⟨_, _, R6 _ ?_, hrun, hended, _, _, rfl, ?_, ⟨_, rfl⟩, hW, hsame.mono (by decide) (by decide)⟩
    · exact retN X0 hx (t := .boolean) Bd.returns (by simp) (hb hby d3_27) hr
    · show Q3 Z v r a3 nn ii V d A kc I0 h0 n0 _ s₁.heap _
      rw [e0]
      exact ⟨rfl, N0, KP⟩
  ·
    skip
    have R7 : ∀ zt, Steps p.tables e below (s₁.setTop (mkF m 12 #[.val (.long v), .second, .val (.ref r), .val (.int a3), .val (.int nn), .val (.int ii)] [(.int (a3 + nn)), (.int ii)])) zt → Steps p.tables e below (s₁.setTop (entryFrame m #[(.long v), (.ref r), (.int a3), (.int nn), (.int ii)] 6)) zt := by
      intro zt zk
      refine R1 zt ?_
      show Steps p.tables e below (s₁.setTop (mkF m 3 #[.val (.long v), .second, .val (.ref r), .val (.int a3), .val (.int nn), .val (.int ii)] [(.int a3), (.int ii)])) _
      refine XS.icmpNo X0.here hx rfl (hb hby d3_3) rfl (flt hc2).1 ?_
      show Steps p.tables e below (s₁.setTop (mkF m 6 #[.val (.long v), .second, .val (.ref r), .val (.int a3), .val (.int nn), .val (.int ii)] [])) _
      refine XS.iload X0.here hx rfl (hb hby d3_6) rfl ?_
      show Steps p.tables e below (s₁.setTop (mkF m 8 #[.val (.long v), .second, .val (.ref r), .val (.int a3), .val (.int nn), .val (.int ii)] [(.int ii)])) _
      refine XS.iloadN X0.here hx rfl (hb hby d3_8) rfl ?_
      show Steps p.tables e below (s₁.setTop (mkF m 9 #[.val (.long v), .second, .val (.ref r), .val (.int a3), .val (.int nn), .val (.int ii)] [(.int a3), (.int ii)])) _
      refine XS.iload X0.here hx rfl (hb hby d3_9) rfl ?_
      show Steps p.tables e below (s₁.setTop (mkF m 11 #[.val (.long v), .second, .val (.ref r), .val (.int a3), .val (.int nn), .val (.int ii)] [(.int nn), (.int a3), (.int ii)])) _
      refine XS.iadd X0.here hx rfl (hb hby d3_11) rfl ?_
      exact zk
    by_cases hc8 : ii < (a3 + nn)
    ·
      skip
      have R9 : ∀ zt, Steps p.tables e below (s₁.setTop (mkF m 28 #[.val (.long v), .second, .val (.ref r), .val (.int a3), .val (.int nn), .val (.int ii)] [])) zt → Steps p.tables e below (s₁.setTop (entryFrame m #[(.long v), (.ref r), (.int a3), (.int nn), (.int ii)] 6)) zt := by
        intro zt zk
        refine R7 zt ?_
        show Steps p.tables e below (s₁.setTop (mkF m 12 #[.val (.long v), .second, .val (.ref r), .val (.int a3), .val (.int nn), .val (.int ii)] [(.int (a3 + nn)), (.int ii)])) _
        refine XS.icmpYes X0.here hx rfl (pc0 := 12) (pc' := 28) rfl (hb hby d3_12) rfl (tlt hc8).1 (by decide) (by decide) ?_
        exact zk
      rw [Int32.lt_iff_toInt_lt] at hc2 hc8
      have hc1 : own_cell V A d d I0 = Int32.ofNat (48 + V / 10 ^ (A + d - 1 - I0) % 10) := if_pos (by omega)
      have R10 : ∀ zt, Steps p.tables e below (s₁.setTop (mkF m 31 #[.val (.long v), .second, .val (.ref r), .val (.int a3), .val (.int nn), .val (.int ii)] [(.int ii), (.ref r)])) zt → Steps p.tables e below (s₁.setTop (entryFrame m #[(.long v), (.ref r), (.int a3), (.int nn), (.int ii)] 6)) zt := by
        intro zt zk
        refine R9 zt ?_
        show Steps p.tables e below (s₁.setTop (mkF m 28 #[.val (.long v), .second, .val (.ref r), .val (.int a3), .val (.int nn), .val (.int ii)] [])) _
        refine XS.aloadN X0.here hx rfl (hb hby d3_28) rfl rfl ?_
        show Steps p.tables e below (s₁.setTop (mkF m 29 #[.val (.long v), .second, .val (.ref r), .val (.int a3), .val (.int nn), .val (.int ii)] [(.ref r)])) _
        refine XS.iload X0.here hx rfl (hb hby d3_29) rfl ?_
        exact zk
      obtain ⟨cl11, Ar11, Aq11, As11, An11, Ah11, Ag11⟩ := id V_r
      have hin11 : ¬ (ii < 0 ∨ cl11.slots.size ≤ (ii).toNatClampNeg) := inb_of As11 hb24
      have hat11 : cl11.slots[(ii).toNatClampNeg]? = some (.int (own_cell V A d d I0)) := Has.at Ah11 hin11 hval
      have R12 : ∀ zt, Steps p.tables e below (s₁.setTop (mkF m 45 #[.val (.long v), .second, .val (.ref r), .val (.int a3), .val (.int nn), .val (.int ii)] [(.int ((nn - (1 : Int32)) - (ii - a3))), (.long v), (.long (48 : Int64)), (.int (own_cell V A d d I0))])) zt → Steps p.tables e below (s₁.setTop (entryFrame m #[(.long v), (.ref r), (.int a3), (.int nn), (.int ii)] 6)) zt := by
        intro zt zk
        refine R10 zt ?_
        show Steps p.tables e below (s₁.setTop (mkF m 31 #[.val (.long v), .second, .val (.ref r), .val (.int a3), .val (.int nn), .val (.int ii)] [(.int ii), (.ref r)])) _
        refine X0.caload hx (j := ii) (v := (.int (own_cell V A d d I0))) (by rw [e0]; exact Ar11.1) (State.isArrayOf_alike hZ.alike Ar11.2.1) Ar11.2.2 hin11 hat11 (g := (mkF m 31 #[.val (.long v), .second, .val (.ref r), .val (.int a3), .val (.int nn), .val (.int ii)] [(.int ii), (.ref r)])) rfl rfl (hb hby d3_31) _ ?_
        show Steps p.tables e below (s₁.setTop (mkF m 32 #[.val (.long v), .second, .val (.ref r), .val (.int a3), .val (.int nn), .val (.int ii)] [(.int (own_cell V A d d I0))])) _
        refine X0.ldc2Long hx hown (mvT hZ (hw _ (List.mem_of_getElem? (i := 33) rfl))) (g := (mkF m 32 #[.val (.long v), .second, .val (.ref r), .val (.int a3), .val (.int nn), .val (.int ii)] [(.int (own_cell V A d d I0))])) rfl (hb hby d3_32) _ ?_
        show Steps p.tables e below (s₁.setTop (mkF m 35 #[.val (.long v), .second, .val (.ref r), .val (.int a3), .val (.int nn), .val (.int ii)] [(.long (48 : Int64)), (.int (own_cell V A d d I0))])) _
        refine XS.lloadN X0.here hx rfl (hb hby d3_35) rfl ?_
        show Steps p.tables e below (s₁.setTop (mkF m 36 #[.val (.long v), .second, .val (.ref r), .val (.int a3), .val (.int nn), .val (.int ii)] [(.long v), (.long (48 : Int64)), (.int (own_cell V A d d I0))])) _
        refine XS.iload X0.here hx rfl (hb hby d3_36) rfl ?_
        show Steps p.tables e below (s₁.setTop (mkF m 38 #[.val (.long v), .second, .val (.ref r), .val (.int a3), .val (.int nn), .val (.int ii)] [(.int nn), (.long v), (.long (48 : Int64)), (.int (own_cell V A d d I0))])) _
        refine XS.iconst X0.here hx rfl (hb hby d3_38) ?_
        show Steps p.tables e below (s₁.setTop (mkF m 39 #[.val (.long v), .second, .val (.ref r), .val (.int a3), .val (.int nn), .val (.int ii)] [(.int (1 : Int32)), (.int nn), (.long v), (.long (48 : Int64)), (.int (own_cell V A d d I0))])) _
        refine XS.isub X0.here hx rfl (hb hby d3_39) rfl ?_
        show Steps p.tables e below (s₁.setTop (mkF m 40 #[.val (.long v), .second, .val (.ref r), .val (.int a3), .val (.int nn), .val (.int ii)] [(.int (nn - (1 : Int32))), (.long v), (.long (48 : Int64)), (.int (own_cell V A d d I0))])) _
        refine XS.iload X0.here hx rfl (hb hby d3_40) rfl ?_
        show Steps p.tables e below (s₁.setTop (mkF m 42 #[.val (.long v), .second, .val (.ref r), .val (.int a3), .val (.int nn), .val (.int ii)] [(.int ii), (.int (nn - (1 : Int32))), (.long v), (.long (48 : Int64)), (.int (own_cell V A d d I0))])) _
        refine XS.iloadN X0.here hx rfl (hb hby d3_42) rfl ?_
        show Steps p.tables e below (s₁.setTop (mkF m 43 #[.val (.long v), .second, .val (.ref r), .val (.int a3), .val (.int nn), .val (.int ii)] [(.int a3), (.int ii), (.int (nn - (1 : Int32))), (.long v), (.long (48 : Int64)), (.int (own_cell V A d d I0))])) _
        refine XS.isub X0.here hx rfl (hb hby d3_43) rfl ?_
        show Steps p.tables e below (s₁.setTop (mkF m 44 #[.val (.long v), .second, .val (.ref r), .val (.int a3), .val (.int nn), .val (.int ii)] [(.int (ii - a3)), (.int (nn - (1 : Int32))), (.long v), (.long (48 : Int64)), (.int (own_cell V A d d I0))])) _
        refine XS.isub X0.here hx rfl (hb hby d3_44) rfl ?_
        exact zk
      obtain ⟨_, _, ⟨T13, L13, k13, n13⟩, -, X13, ⟨Lc13, hQ13, l13, y13, z13⟩, st13⟩ := Jvm.LawKit.callS X0 hx (y := (⟨"com/example/reset/reset/DecimalWriteWholePinLaw", "pow10", "(I)J"⟩ : MethodName)) hown (mvT hZ (hw _ (List.mem_of_getElem? (i := 34) rfl))) (mvT hZ (hw _ (List.mem_of_getElem? (i := 35) rfl))) (mvT hZ (hw _ (List.mem_of_getElem? (i := 10) rfl))) (mvT hZ (hw _ (List.mem_of_getElem? (i := 36) rfl))) (by decide) (backOf (W := 5) (rm4 l Z a0 hw [] ((nn - (1 : Int32)) - (ii - a3)) (A + d - 1 - I0) h0 n0 Z0 (own_ex hA hA3 hnn hd1 hd19 hii hI (by omega) (by omega)) (by omega)) hZ (hw _ (List.mem_of_getElem? (i := 36) rfl)) (hw _ (List.mem_of_getElem? (i := 10) rfl)) (by decide) (by decide)) (g := (mkF m 45 #[.val (.long v), .second, .val (.ref r), .val (.int a3), .val (.int nn), .val (.int ii)] [(.int ((nn - (1 : Int32)) - (ii - a3))), (.long v), (.long (48 : Int64)), (.int (own_cell V A d d I0))])) rfl (by rw [hml]; rfl) (argsL := [(.int ((nn - (1 : Int32)) - (ii - a3)))]) (rest := [(.long v), (.long (48 : Int64)), (.int (own_cell V A d d I0))]) (lenOf pd_0 rfl) rfl (by show 2 * 0 + _ ≤ _; exact Nat.le_of_eq rfl) (hb hby d3_45) (fun _ _ => ⟨rfl, e0, (by decide : 0 + 1 ≤ _), (by decide : 0 + 19 ≤ _)⟩)
      dsimp only [Pt.U, Pt.locs, Pt.cells, Pt.slots] at X13 l13 y13 z13 st13 hQ13
      rw [y13, z13] at X13
      have X13 : Stand p l e ({ frames := 1, cells := 1, slots := 19, locals := 18 } : Room) s m #[(.long v), (.ref r), (.int a3), (.int nn), (.int ii)] below meth c T13 L13 1 19 := X13
      obtain ⟨rfl, Nq13, K13⟩ := hQ13
      have N13 : Fr n0 L13 := by rw [l13]; exact Fr.app N0 Nq13
      clear l13 y13 z13
      have Sz13 := Nat.le_trans Z0 K13.1
      have V_r := V_r.keep K13 nin0
      have KP := KP.trans K13 all0
      have R14 : ∀ zt, Steps p.tables e below (T13.setTop (mkF m 56 #[.val (.long v), .second, .val (.ref r), .val (.int a3), .val (.int nn), .val (.int ii)] [(.int ((((((48 : Int64) + ((v / (own_p10 (A + d - 1 - I0))) - ((v / (own_p10 (A + d - 1 - I0))) / (10 : Int64)) * (10 : Int64)))).toInt32)).toUInt32.toUInt16.toUInt32.toInt32)), (.int (own_cell V A d d I0))])) zt → Steps p.tables e below (s₁.setTop (entryFrame m #[(.long v), (.ref r), (.int a3), (.int nn), (.int ii)] 6)) zt := by
        intro zt zk
        refine R12 zt ?_
        show Steps p.tables e below (s₁.setTop (mkF m 45 #[.val (.long v), .second, .val (.ref r), .val (.int a3), .val (.int nn), .val (.int ii)] [(.int ((nn - (1 : Int32)) - (ii - a3))), (.long v), (.long (48 : Int64)), (.int (own_cell V A d d I0))])) _
        refine st13 _ ?_
        show Steps p.tables e below (T13.setTop (mkF m 48 #[.val (.long v), .second, .val (.ref r), .val (.int a3), .val (.int nn), .val (.int ii)] [(.long (own_p10 (A + d - 1 - I0))), (.long v), (.long (48 : Int64)), (.int (own_cell V A d d I0))])) _
        refine XS.ldiv X13.here hx rfl (hb hby d3_48) rfl (own_p10n _ (by omega)).2.1 ?_
        show Steps p.tables e below (T13.setTop (mkF m 49 #[.val (.long v), .second, .val (.ref r), .val (.int a3), .val (.int nn), .val (.int ii)] [(.long (v / (own_p10 (A + d - 1 - I0)))), (.long (48 : Int64)), (.int (own_cell V A d d I0))])) _
        refine X13.ldc2Long hx hown (mvT hZ (hw _ (List.mem_of_getElem? (i := 12) rfl))) (g := (mkF m 49 #[.val (.long v), .second, .val (.ref r), .val (.int a3), .val (.int nn), .val (.int ii)] [(.long (v / (own_p10 (A + d - 1 - I0)))), (.long (48 : Int64)), (.int (own_cell V A d d I0))])) rfl (hb hby d3_49) _ ?_
        show Steps p.tables e below (T13.setTop (mkF m 52 #[.val (.long v), .second, .val (.ref r), .val (.int a3), .val (.int nn), .val (.int ii)] [(.long (10 : Int64)), (.long (v / (own_p10 (A + d - 1 - I0)))), (.long (48 : Int64)), (.int (own_cell V A d d I0))])) _
        refine XS.lrem X13.here hx rfl (hb hby d3_52) rfl (by decide) ?_
        show Steps p.tables e below (T13.setTop (mkF m 53 #[.val (.long v), .second, .val (.ref r), .val (.int a3), .val (.int nn), .val (.int ii)] [(.long ((v / (own_p10 (A + d - 1 - I0))) - ((v / (own_p10 (A + d - 1 - I0))) / (10 : Int64)) * (10 : Int64))), (.long (48 : Int64)), (.int (own_cell V A d d I0))])) _
        refine XS.ladd X13.here hx rfl (hb hby d3_53) rfl ?_
        show Steps p.tables e below (T13.setTop (mkF m 54 #[.val (.long v), .second, .val (.ref r), .val (.int a3), .val (.int nn), .val (.int ii)] [(.long ((48 : Int64) + ((v / (own_p10 (A + d - 1 - I0))) - ((v / (own_p10 (A + d - 1 - I0))) / (10 : Int64)) * (10 : Int64)))), (.int (own_cell V A d d I0))])) _
        refine XS.l2i X13.here hx rfl (hb hby d3_54) rfl ?_
        show Steps p.tables e below (T13.setTop (mkF m 55 #[.val (.long v), .second, .val (.ref r), .val (.int a3), .val (.int nn), .val (.int ii)] [(.int ((((48 : Int64) + ((v / (own_p10 (A + d - 1 - I0))) - ((v / (own_p10 (A + d - 1 - I0))) / (10 : Int64)) * (10 : Int64)))).toInt32)), (.int (own_cell V A d d I0))])) _
        refine XS.i2c X13.here hx rfl (hb hby d3_55) rfl ?_
        exact zk
      have R15 : ∀ zt, Steps p.tables e below (T13.setTop (mkF m 64 #[.val (.long v), .second, .val (.ref r), .val (.int a3), .val (.int nn), .val (.int ii)] [(.int (1 : Int32))])) zt → Steps p.tables e below (s₁.setTop (entryFrame m #[(.long v), (.ref r), (.int a3), (.int nn), (.int ii)] 6)) zt := by
        intro zt zk
        refine R14 zt ?_
        show Steps p.tables e below (T13.setTop (mkF m 56 #[.val (.long v), .second, .val (.ref r), .val (.int a3), .val (.int nn), .val (.int ii)] [(.int ((((((48 : Int64) + ((v / (own_p10 (A + d - 1 - I0))) - ((v / (own_p10 (A + d - 1 - I0))) / (10 : Int64)) * (10 : Int64)))).toInt32)).toUInt32.toUInt16.toUInt32.toInt32)), (.int (own_cell V A d d I0))])) _
        refine XS.icmpNo X13.here hx rfl (hb hby d3_56) rfl (teq (hc1.trans (own_chr (own_divp hv (by omega))).symm)).2 ?_
        show Steps p.tables e below (T13.setTop (mkF m 59 #[.val (.long v), .second, .val (.ref r), .val (.int a3), .val (.int nn), .val (.int ii)] [])) _
        refine XS.iconst X13.here hx rfl (hb hby d3_59) ?_
        show Steps p.tables e below (T13.setTop (mkF m 60 #[.val (.long v), .second, .val (.ref r), .val (.int a3), .val (.int nn), .val (.int ii)] [(.int (1 : Int32))])) _
        refine XS.goto X13.here hx rfl (pc0 := 60) (pc' := 64) rfl (hb hby d3_60) (by decide) (by decide) ?_
        exact zk
      obtain ⟨fs, hr, hrun, hended, hW, hsame⟩ := X13.leave (v := some (.int (1 : Int32))) (fun h => by rw [Bd.returns] at h; cases h)
      refine ⟨_, _, R15 _ ?_, hrun, hended, _, _, rfl, ?_, ⟨_, rfl⟩, hW, hsame.mono (by decide) (by decide)⟩
      · exact retN X13 hx (t := .boolean) Bd.returns (by simp) (hb hby d3_64) hr
      · show Q3 Z v r a3 nn ii V d A kc I0 h0 n0 _ T13.heap _
        exact ⟨rfl, N13, KP⟩
    ·
      skip
      have R16 : ∀ zt, Steps p.tables e below (s₁.setTop (mkF m 15 #[.val (.long v), .second, .val (.ref r), .val (.int a3), .val (.int nn), .val (.int ii)] [])) zt → Steps p.tables e below (s₁.setTop (entryFrame m #[(.long v), (.ref r), (.int a3), (.int nn), (.int ii)] 6)) zt := by
        intro zt zk
        refine R7 zt ?_
        show Steps p.tables e below (s₁.setTop (mkF m 12 #[.val (.long v), .second, .val (.ref r), .val (.int a3), .val (.int nn), .val (.int ii)] [(.int (a3 + nn)), (.int ii)])) _
        refine XS.icmpNo X0.here hx rfl (hb hby d3_12) rfl (flt hc8).1 ?_
        exact zk
      rw [Int32.lt_iff_toInt_lt] at hc2 hc8
      have hc0 : own_cell V A d d I0 = (0 : Int32) := if_neg (by omega)
      have R17 : ∀ zt, Steps p.tables e below (s₁.setTop (mkF m 18 #[.val (.long v), .second, .val (.ref r), .val (.int a3), .val (.int nn), .val (.int ii)] [(.int ii), (.ref r)])) zt → Steps p.tables e below (s₁.setTop (entryFrame m #[(.long v), (.ref r), (.int a3), (.int nn), (.int ii)] 6)) zt := by
        intro zt zk
        refine R16 zt ?_
        show Steps p.tables e below (s₁.setTop (mkF m 15 #[.val (.long v), .second, .val (.ref r), .val (.int a3), .val (.int nn), .val (.int ii)] [])) _
        refine XS.aloadN X0.here hx rfl (hb hby d3_15) rfl rfl ?_
        show Steps p.tables e below (s₁.setTop (mkF m 16 #[.val (.long v), .second, .val (.ref r), .val (.int a3), .val (.int nn), .val (.int ii)] [(.ref r)])) _
        refine XS.iload X0.here hx rfl (hb hby d3_16) rfl ?_
        exact zk
      obtain ⟨cl18, Ar18, Aq18, As18, An18, Ah18, Ag18⟩ := id V_r
      have hin18 : ¬ (ii < 0 ∨ cl18.slots.size ≤ (ii).toNatClampNeg) := inb_of As18 hb24
      have hat18 : cl18.slots[(ii).toNatClampNeg]? = some (.int (own_cell V A d d I0)) := Has.at Ah18 hin18 hval
      have R19 : ∀ zt, Steps p.tables e below (s₁.setTop (mkF m 27 #[.val (.long v), .second, .val (.ref r), .val (.int a3), .val (.int nn), .val (.int ii)] [(.int (1 : Int32))])) zt → Steps p.tables e below (s₁.setTop (entryFrame m #[(.long v), (.ref r), (.int a3), (.int nn), (.int ii)] 6)) zt := by
        intro zt zk
        refine R17 zt ?_
        show Steps p.tables e below (s₁.setTop (mkF m 18 #[.val (.long v), .second, .val (.ref r), .val (.int a3), .val (.int nn), .val (.int ii)] [(.int ii), (.ref r)])) _
        refine X0.caload hx (j := ii) (v := (.int (own_cell V A d d I0))) (by rw [e0]; exact Ar18.1) (State.isArrayOf_alike hZ.alike Ar18.2.1) Ar18.2.2 hin18 hat18 (g := (mkF m 18 #[.val (.long v), .second, .val (.ref r), .val (.int a3), .val (.int nn), .val (.int ii)] [(.int ii), (.ref r)])) rfl rfl (hb hby d3_18) _ ?_
        show Steps p.tables e below (s₁.setTop (mkF m 19 #[.val (.long v), .second, .val (.ref r), .val (.int a3), .val (.int nn), .val (.int ii)] [(.int (own_cell V A d d I0))])) _
        refine XS.ifNo X0.here hx rfl (hb hby d3_19) rfl ((if0 _ _).trans (teq hc0).2) ?_
        show Steps p.tables e below (s₁.setTop (mkF m 22 #[.val (.long v), .second, .val (.ref r), .val (.int a3), .val (.int nn), .val (.int ii)] [])) _
        refine XS.iconst X0.here hx rfl (hb hby d3_22) ?_
        show Steps p.tables e below (s₁.setTop (mkF m 23 #[.val (.long v), .second, .val (.ref r), .val (.int a3), .val (.int nn), .val (.int ii)] [(.int (1 : Int32))])) _
        refine XS.goto X0.here hx rfl (pc0 := 23) (pc' := 27) rfl (hb hby d3_23) (by decide) (by decide) ?_
        exact zk
      obtain ⟨fs, hr, hrun, hended, hW, hsame⟩ := X0.leave (v := some (.int (1 : Int32))) (fun h => by rw [Bd.returns] at h; cases h)
      refine ⟨_, _, R19 _ ?_, hrun, hended, _, _, rfl, ?_, ⟨_, rfl⟩, hW, hsame.mono (by decide) (by decide)⟩
      · exact retN X0 hx (t := .boolean) Bd.returns (by simp) (hb hby d3_27) hr
      · show Q3 Z v r a3 nn ii V d A kc I0 h0 n0 _ s₁.heap _
        rw [e0]
        exact ⟨rfl, N0, KP⟩
theorem ef0 (m : MethodId) (x0 : Int64) (x1 : Int32) (x2 : Int32) : entryFrame m #[(.long x0), (.int x1), (.int x2)] maxLocals = mkF m 0 #[.val (.long x0), .second, .val (.int x1), .val (.int x2), .unset, .unset, .unset, .unset, .unset, .unset] [] := by first | (simp [entryFrame, mkF, argsToLocals, Value.category, maxLocals]; done) | rfl
theorem pd_1 : parseMethodDescriptor "(J[CI)I" = some ⟨[.long, (.array .char), .int], some .int⟩ := by decide +kernel
theorem pd_2 : parseMethodDescriptor "(J)I" = some ⟨[.long], some .int⟩ := by decide +kernel
theorem pd_3 : parseMethodDescriptor "(J[CIII)Z" = some ⟨[.long, (.array .char), .int, .int, .int], some .boolean⟩ := by decide +kernel
def Q0 (Z : State) (p0 : Int64) (p1 : Int32) (p2 : Int32) (h0 : Heap) (n0 : Nat) (v : Option Value) (h : Heap) (L : List Loc) : Prop := v = some (.int (1 : Int32)) ∧ Fr n0 L
set_option maxRecDepth 65536 in
set_option maxHeartbeats 40000000 in
theorem rm0 (l : Launch) (Z : State) (a0 : Array Value) (hw : ∀ d ∈ tables_1, d.before a0 Z = true) (ws : List Jvm.Cond) (p0 : Int64) (p1 : Int32) (p2 : Int32) (h0 : Heap) (n0 : Nat) (Z0 : n0 ≤ h0.size)  :
    MetFree l x (head1 (Jvm.Cond.code x code maxLocals ret :: ws) room_1) (fun zza zzU => zza = #[(.long p0), (.int p1), (.int p2)] ∧ Z.Warmed39 zzU.vm ∧ zzU.heap = h0) (fun _ _ _ _ _ => True) (fun _ zzU zzo zzV => ∃ zzv zzL, zzo = .returned zzv ∧ Q0 Z p0 p1 p2 h0 n0 zzv zzV.heap zzL ∧ FrameEnd zzU zzo zzV zzL 48 896) := by
  refine MetFree.of_bodySF (plainFor_of_name pn_0) hisR ?_
  intro p e s m args below meth c s₁ Bd hml0 hP hK
  obtain ⟨rfl, hZ, hh⟩ := hP
  have hx := Bd.exec
  have hby := Bd.bytes
  have hml : c.maxLocals = 10 := hml0
  have hown : s.vm.findClass "com/example/reset/reset/DecimalWriteWholePinLaw" = some m.cls := findClass_of_methodNamed Bd.named
  have hnm := (name_of_methodNamed Bd.named Bd.method).1
  have X0 : Stand p l e room_1 s m #[(.long p0), (.int p1), (.int p2)] below meth c s₁ [] 0 0 := Stand.of_body Bd
  have e0 : s₁.heap = h0 := by rw [← hh, Bd.state]; rfl
  have N0 := Fr.nil n0
  have R0 : ∀ zt, Steps p.tables e below (s₁.setTop (mkF m 0 #[.val (.long p0), .second, .val (.int p1), .val (.int p2), .unset, .unset, .unset, .unset, .unset, .unset] [])) zt → Steps p.tables e below (s₁.setTop (entryFrame m #[(.long p0), (.int p1), (.int p2)] maxLocals)) zt := fun zt zk => castTop (ef0 m p0 p1 p2) zk
  have R1 : ∀ zt, Steps p.tables e below (s₁.setTop (mkF m 10 #[.val (.long p0), .second, .val (.int p1), .val (.int p2), .unset, .unset, .unset, .unset, .unset, .unset] [(.long ((((p0 &&& (9223372036854775807 : Int64))).toUInt64 >>> ((p1 &&& (63 : Int32)) &&& 0x3f).toInt64.toUInt64).toInt64))])) zt → Steps p.tables e below (s₁.setTop (entryFrame m #[(.long p0), (.int p1), (.int p2)] maxLocals)) zt := by
    intro zt zk
    refine R0 zt ?_
    show Steps p.tables e below (s₁.setTop (mkF m 0 #[.val (.long p0), .second, .val (.int p1), .val (.int p2), .unset, .unset, .unset, .unset, .unset, .unset] [])) _
    refine XS.lloadN X0.here hx rfl (hb hby at_0) rfl ?_
    show Steps p.tables e below (s₁.setTop (mkF m 1 #[.val (.long p0), .second, .val (.int p1), .val (.int p2), .unset, .unset, .unset, .unset, .unset, .unset] [(.long p0)])) _
    refine X0.ldc2Long hx hown (mvT hZ (hw _ (List.mem_of_getElem? (i := 0) rfl))) (g := (mkF m 1 #[.val (.long p0), .second, .val (.int p1), .val (.int p2), .unset, .unset, .unset, .unset, .unset, .unset] [(.long p0)])) rfl (hb hby at_1) _ ?_
    show Steps p.tables e below (s₁.setTop (mkF m 4 #[.val (.long p0), .second, .val (.int p1), .val (.int p2), .unset, .unset, .unset, .unset, .unset, .unset] [(.long (9223372036854775807 : Int64)), (.long p0)])) _
    refine XS.land X0.here hx rfl (hb hby at_4) rfl ?_
    show Steps p.tables e below (s₁.setTop (mkF m 5 #[.val (.long p0), .second, .val (.int p1), .val (.int p2), .unset, .unset, .unset, .unset, .unset, .unset] [(.long (p0 &&& (9223372036854775807 : Int64)))])) _
    refine XS.iloadN X0.here hx rfl (hb hby at_5) rfl ?_
    show Steps p.tables e below (s₁.setTop (mkF m 6 #[.val (.long p0), .second, .val (.int p1), .val (.int p2), .unset, .unset, .unset, .unset, .unset, .unset] [(.int p1), (.long (p0 &&& (9223372036854775807 : Int64)))])) _
    refine XS.bipush X0.here hx rfl (hb hby at_6) ?_
    show Steps p.tables e below (s₁.setTop (mkF m 8 #[.val (.long p0), .second, .val (.int p1), .val (.int p2), .unset, .unset, .unset, .unset, .unset, .unset] [(.int (63 : Int32)), (.int p1), (.long (p0 &&& (9223372036854775807 : Int64)))])) _
    refine XS.iand X0.here hx rfl (hb hby at_8) rfl ?_
    show Steps p.tables e below (s₁.setTop (mkF m 9 #[.val (.long p0), .second, .val (.int p1), .val (.int p2), .unset, .unset, .unset, .unset, .unset, .unset] [(.int (p1 &&& (63 : Int32))), (.long (p0 &&& (9223372036854775807 : Int64)))])) _
    refine XS.lushr X0.here hx rfl (hb hby at_9) rfl ?_
    exact zk
  obtain ⟨v, hn_v⟩ : ∃ z : Int64, z = ((((p0 &&& (9223372036854775807 : Int64))).toUInt64 >>> ((p1 &&& (63 : Int32)) &&& 0x3f).toInt64.toUInt64).toInt64) := ⟨_, rfl⟩
  rw [← hn_v] at R1
  have R2 : ∀ zt, Steps p.tables e below (s₁.setTop (mkF m 15 #[.val (.long p0), .second, .val (.int p1), .val (.int p2), .val (.long v), .second, .unset, .unset, .unset, .unset] [(.int (p2 &&& (3 : Int32)))])) zt → Steps p.tables e below (s₁.setTop (entryFrame m #[(.long p0), (.int p1), (.int p2)] maxLocals)) zt := by
    intro zt zk
    refine R1 zt ?_
    show Steps p.tables e below (s₁.setTop (mkF m 10 #[.val (.long p0), .second, .val (.int p1), .val (.int p2), .unset, .unset, .unset, .unset, .unset, .unset] [(.long v)])) _
    refine XS.lstore X0.here hx rfl (hb hby at_10) rfl (l' := #[.val (.long p0), .second, .val (.int p1), .val (.int p2), .val (.long v), .second, .unset, .unset, .unset, .unset]) rfl ?_
    show Steps p.tables e below (s₁.setTop (mkF m 12 #[.val (.long p0), .second, .val (.int p1), .val (.int p2), .val (.long v), .second, .unset, .unset, .unset, .unset] [])) _
    refine XS.iloadN X0.here hx rfl (hb hby at_12) rfl ?_
    show Steps p.tables e below (s₁.setTop (mkF m 13 #[.val (.long p0), .second, .val (.int p1), .val (.int p2), .val (.long v), .second, .unset, .unset, .unset, .unset] [(.int p2)])) _
    refine XS.iconst X0.here hx rfl (hb hby at_13) ?_
    show Steps p.tables e below (s₁.setTop (mkF m 14 #[.val (.long p0), .second, .val (.int p1), .val (.int p2), .val (.long v), .second, .unset, .unset, .unset, .unset] [(.int (3 : Int32)), (.int p2)])) _
    refine XS.iand X0.here hx rfl (hb hby at_14) rfl ?_
    exact zk
  obtain ⟨a3, hn_a3⟩ : ∃ z : Int32, z = (p2 &&& (3 : Int32)) := ⟨_, rfl⟩
  rw [← hn_a3] at R2
  have hv0 : 0 ≤ v.toInt := by rw [hn_v]; exact own_nn _ _
  obtain ⟨V, hV⟩ : ∃ V : Nat, V = v.toInt.toNat := ⟨_, rfl⟩
  have hv : v.toInt = (V : Int) := by omega
  obtain ⟨d, hD⟩ := own_hasD V (by have := rng64 v; omega)
  obtain ⟨A, hA0⟩ : ∃ A : Nat, A = a3.toInt.toNat := ⟨_, rfl⟩
  have hm3 : a3.toInt = p2.toInt % (2 ^ 2 : Nat) := by rw [hn_a3]; exact c_mask p2 3 2 (by decide) (by decide)
  have hA : a3.toInt = (A : Int) := by omega
  have hA3 : A ≤ 3 := by omega
  have hnn : (Int32.ofNat d).toInt = (d : Int) := Int32.toInt_ofNat_small (by have := hD.2.1; omega)
  have R3 : ∀ zt, Steps p.tables e below (s₁.setTop (mkF m 19 #[.val (.long p0), .second, .val (.int p1), .val (.int p2), .val (.long v), .second, .val (.int a3), .unset, .unset, .unset] [(.int (24 : Int32))])) zt → Steps p.tables e below (s₁.setTop (entryFrame m #[(.long p0), (.int p1), (.int p2)] maxLocals)) zt := by
    intro zt zk
    refine R2 zt ?_
    show Steps p.tables e below (s₁.setTop (mkF m 15 #[.val (.long p0), .second, .val (.int p1), .val (.int p2), .val (.long v), .second, .unset, .unset, .unset, .unset] [(.int a3)])) _
    refine XS.istore X0.here hx rfl (hb hby at_15) rfl (l' := #[.val (.long p0), .second, .val (.int p1), .val (.int p2), .val (.long v), .second, .val (.int a3), .unset, .unset, .unset]) rfl ?_
    show Steps p.tables e below (s₁.setTop (mkF m 17 #[.val (.long p0), .second, .val (.int p1), .val (.int p2), .val (.long v), .second, .val (.int a3), .unset, .unset, .unset] [])) _
    refine XS.bipush X0.here hx rfl (hb hby at_17) ?_
    exact zk
  obtain ⟨T4, h4, k4, X4, e4, E4, A4, st4⟩ := newP X0 hx hZ (hw _ (List.mem_of_getElem? (i := 1) rfl)) e0 (g := (mkF m 19 #[.val (.long p0), .second, .val (.int p1), .val (.int p2), .val (.long v), .second, .val (.int a3), .unset, .unset, .unset] [(.int (24 : Int32))])) rfl (hb hby at_19) rfl (by decide) (cap := 24) (by decide) (by decide) (by decide) (by decide)
  obtain ⟨r, g4⟩ : ∃ z, z = h0.size := ⟨_, rfl⟩
  rw [← g4] at A4 st4
  have ge_r : n0 ≤ r := by rw [g4]; exact Z0
  have Sz4 := Nat.le_trans Z0 E4.1
  have V_r : Arv Z h4 r k4 .char (24 : Int32) [(.int (0 : Int32)), (.int (0 : Int32)), (.int (0 : Int32)), (.int (0 : Int32)), (.int (0 : Int32)), (.int (0 : Int32)), (.int (0 : Int32)), (.int (0 : Int32)), (.int (0 : Int32)), (.int (0 : Int32)), (.int (0 : Int32)), (.int (0 : Int32)), (.int (0 : Int32)), (.int (0 : Int32)), (.int (0 : Int32)), (.int (0 : Int32)), (.int (0 : Int32)), (.int (0 : Int32)), (.int (0 : Int32)), (.int (0 : Int32)), (.int (0 : Int32)), (.int (0 : Int32)), (.int (0 : Int32)), (.int (0 : Int32))] (.int (0 : Int32)) := (Arv.new A4 (by decide)).pad (pad_rep [] (.int (0 : Int32)) 24)
  have R5 : ∀ zt, Steps p.tables e below (T4.setTop (mkF m 29 #[.val (.long p0), .second, .val (.int p1), .val (.int p2), .val (.long v), .second, .val (.int a3), .val (.ref r), .unset, .unset] [(.int a3), (.ref r), (.long v)])) zt → Steps p.tables e below (s₁.setTop (entryFrame m #[(.long p0), (.int p1), (.int p2)] maxLocals)) zt := by
    intro zt zk
    refine R3 zt ?_
    show Steps p.tables e below (s₁.setTop (mkF m 19 #[.val (.long p0), .second, .val (.int p1), .val (.int p2), .val (.long v), .second, .val (.int a3), .unset, .unset, .unset] [(.int (24 : Int32))])) _
    refine st4 _ ?_
    show Steps p.tables e below (T4.setTop (mkF m 21 #[.val (.long p0), .second, .val (.int p1), .val (.int p2), .val (.long v), .second, .val (.int a3), .unset, .unset, .unset] [(.ref r)])) _
    refine XS.astore X4.here hx rfl (hb hby at_21) rfl rfl (l' := #[.val (.long p0), .second, .val (.int p1), .val (.int p2), .val (.long v), .second, .val (.int a3), .val (.ref r), .unset, .unset]) rfl ?_
    show Steps p.tables e below (T4.setTop (mkF m 23 #[.val (.long p0), .second, .val (.int p1), .val (.int p2), .val (.long v), .second, .val (.int a3), .val (.ref r), .unset, .unset] [])) _
    refine XS.lload X4.here hx rfl (hb hby at_23) rfl ?_
    show Steps p.tables e below (T4.setTop (mkF m 25 #[.val (.long p0), .second, .val (.int p1), .val (.int p2), .val (.long v), .second, .val (.int a3), .val (.ref r), .unset, .unset] [(.long v)])) _
    refine XS.aload X4.here hx rfl (hb hby at_25) rfl rfl ?_
    show Steps p.tables e below (T4.setTop (mkF m 27 #[.val (.long p0), .second, .val (.int p1), .val (.int p2), .val (.long v), .second, .val (.int a3), .val (.ref r), .unset, .unset] [(.ref r), (.long v)])) _
    refine XS.iload X4.here hx rfl (hb hby at_27) rfl ?_
    exact zk
  have V_r : Arv Z h4 r k4 .char (24 : Int32) (own_vs V A d 0) (.int (0 : Int32)) := by rw [own_vs0]; exact V_r
  obtain ⟨_, _, ⟨T6, L6, k6, n6⟩, -, X6, ⟨Lc6, hQ6, l6, y6, z6⟩, st6⟩ := Jvm.LawKit.callS X4 hx (y := (⟨"com/example/reset/reset/Decimal", "writeWhole", "(J[CI)I"⟩ : MethodName)) hown (mvT hZ (hw _ (List.mem_of_getElem? (i := 2) rfl))) (mvT hZ (hw _ (List.mem_of_getElem? (i := 3) rfl))) (mvT hZ (hw _ (List.mem_of_getElem? (i := 4) rfl))) (mvT hZ (hw _ (List.mem_of_getElem? (i := 5) rfl))) (by decide) (backOf (W := 0) (rm1 l Z a0 hw [] v r a3 V d A k4 h4 n0 Sz4 hv hD hA hA3 V_r ge_r) hZ (hw _ (List.mem_of_getElem? (i := 5) rfl)) (hw _ (List.mem_of_getElem? (i := 4) rfl)) (by decide) (by decide)) (g := (mkF m 29 #[.val (.long p0), .second, .val (.int p1), .val (.int p2), .val (.long v), .second, .val (.int a3), .val (.ref r), .unset, .unset] [(.int a3), (.ref r), (.long v)])) rfl (by rw [hml]; rfl) (argsL := [(.long v), (.ref r), (.int a3)]) (rest := []) (lenOf pd_1 rfl) rfl (by show 2 * 0 + _ ≤ _; exact Nat.le_of_eq rfl) (hb hby at_29) (fun _ _ => ⟨rfl, e4, (by decide : 1 + 0 ≤ _), (by decide : 24 + 0 ≤ _)⟩)
  dsimp only [Pt.U, Pt.locs, Pt.cells, Pt.slots] at X6 l6 y6 z6 st6 hQ6
  rw [y6, z6] at X6
  have X6 : Stand p l e room_1 s m #[(.long p0), (.int p1), (.int p2)] below meth c T6 L6 1 24 := X6
  obtain ⟨rfl, Nq6, K6, V_r⟩ := hQ6
  have N6 : Fr n0 L6 := by rw [l6]; exact Fr.app N0 Nq6
  clear l6 y6 z6
  have Sz6 := Nat.le_trans Sz4 K6.1
  have R7 : ∀ zt, Steps p.tables e below (T6.setTop (mkF m 36 #[.val (.long p0), .second, .val (.int p1), .val (.int p2), .val (.long v), .second, .val (.int a3), .val (.ref r), .val (.int (a3 + (Int32.ofNat d))), .unset] [(.long v)])) zt → Steps p.tables e below (s₁.setTop (entryFrame m #[(.long p0), (.int p1), (.int p2)] maxLocals)) zt := by
    intro zt zk
    refine R5 zt ?_
    show Steps p.tables e below (T4.setTop (mkF m 29 #[.val (.long p0), .second, .val (.int p1), .val (.int p2), .val (.long v), .second, .val (.int a3), .val (.ref r), .unset, .unset] [(.int a3), (.ref r), (.long v)])) _
    refine st6 _ ?_
    show Steps p.tables e below (T6.setTop (mkF m 32 #[.val (.long p0), .second, .val (.int p1), .val (.int p2), .val (.long v), .second, .val (.int a3), .val (.ref r), .unset, .unset] [(.int (a3 + (Int32.ofNat d)))])) _
    refine XS.istore X6.here hx rfl (hb hby at_32) rfl (l' := #[.val (.long p0), .second, .val (.int p1), .val (.int p2), .val (.long v), .second, .val (.int a3), .val (.ref r), .val (.int (a3 + (Int32.ofNat d))), .unset]) rfl ?_
    show Steps p.tables e below (T6.setTop (mkF m 34 #[.val (.long p0), .second, .val (.int p1), .val (.int p2), .val (.long v), .second, .val (.int a3), .val (.ref r), .val (.int (a3 + (Int32.ofNat d))), .unset] [])) _
    refine XS.lload X6.here hx rfl (hb hby at_34) rfl ?_
    exact zk
  obtain ⟨_, _, ⟨T8, L8, k8, n8⟩, -, X8, ⟨Lc8, hQ8, l8, y8, z8⟩, st8⟩ := Jvm.LawKit.callS X6 hx (y := (⟨"com/example/reset/reset/DecimalWriteWholePinLaw", "digits", "(J)I"⟩ : MethodName)) hown (mvT hZ (hw _ (List.mem_of_getElem? (i := 8) rfl))) (mvT hZ (hw _ (List.mem_of_getElem? (i := 9) rfl))) (mvT hZ (hw _ (List.mem_of_getElem? (i := 10) rfl))) (mvT hZ (hw _ (List.mem_of_getElem? (i := 11) rfl))) (by decide) (backOf (W := 0) (rm2 l Z a0 hw [] v V d T6.heap n0 Sz6 hv hD) hZ (hw _ (List.mem_of_getElem? (i := 11) rfl)) (hw _ (List.mem_of_getElem? (i := 10) rfl)) (by decide) (by decide)) (g := (mkF m 36 #[.val (.long p0), .second, .val (.int p1), .val (.int p2), .val (.long v), .second, .val (.int a3), .val (.ref r), .val (.int (a3 + (Int32.ofNat d))), .unset] [(.long v)])) rfl (by rw [hml]; rfl) (argsL := [(.long v)]) (rest := []) (lenOf pd_2 rfl) rfl (by show 2 * 0 + _ ≤ _; exact Nat.le_of_eq rfl) (hb hby at_36) (fun _ _ => ⟨rfl, rfl, (by decide : 1 + 0 ≤ _), (by decide : 24 + 0 ≤ _)⟩)
  dsimp only [Pt.U, Pt.locs, Pt.cells, Pt.slots] at X8 l8 y8 z8 st8 hQ8
  rw [y8, z8] at X8
  have X8 : Stand p l e room_1 s m #[(.long p0), (.int p1), (.int p2)] below meth c T8 L8 1 24 := X8
  obtain ⟨rfl, Nq8, eq8⟩ := hQ8
  have N8 : Fr n0 L8 := by rw [l8]; exact Fr.app N6 Nq8
  clear l8 y8 z8
  have e8 : T8.heap = T6.heap := eq8
  have R9 : ∀ zt, Steps p.tables e below (T8.setTop (mkF m 62 #[.val (.long p0), .second, .val (.int p1), .val (.int p2), .val (.long v), .second, .val (.int a3), .val (.ref r), .val (.int (a3 + (Int32.ofNat d))), .val (.int (Int32.ofNat d))] [(.int (0 : Int32)), (.int (Int32.ofNat d)), (.int a3), (.ref r), (.long v)])) zt → Steps p.tables e below (s₁.setTop (entryFrame m #[(.long p0), (.int p1), (.int p2)] maxLocals)) zt := by
    intro zt zk
    refine R7 zt ?_
    show Steps p.tables e below (T6.setTop (mkF m 36 #[.val (.long p0), .second, .val (.int p1), .val (.int p2), .val (.long v), .second, .val (.int a3), .val (.ref r), .val (.int (a3 + (Int32.ofNat d))), .unset] [(.long v)])) _
    refine st8 _ ?_
    show Steps p.tables e below (T8.setTop (mkF m 39 #[.val (.long p0), .second, .val (.int p1), .val (.int p2), .val (.long v), .second, .val (.int a3), .val (.ref r), .val (.int (a3 + (Int32.ofNat d))), .unset] [(.int (Int32.ofNat d))])) _
    refine XS.istore X8.here hx rfl (hb hby at_39) rfl (l' := #[.val (.long p0), .second, .val (.int p1), .val (.int p2), .val (.long v), .second, .val (.int a3), .val (.ref r), .val (.int (a3 + (Int32.ofNat d))), .val (.int (Int32.ofNat d))]) rfl ?_
    show Steps p.tables e below (T8.setTop (mkF m 41 #[.val (.long p0), .second, .val (.int p1), .val (.int p2), .val (.long v), .second, .val (.int a3), .val (.ref r), .val (.int (a3 + (Int32.ofNat d))), .val (.int (Int32.ofNat d))] [])) _
    refine XS.iload X8.here hx rfl (hb hby at_41) rfl ?_
    show Steps p.tables e below (T8.setTop (mkF m 43 #[.val (.long p0), .second, .val (.int p1), .val (.int p2), .val (.long v), .second, .val (.int a3), .val (.ref r), .val (.int (a3 + (Int32.ofNat d))), .val (.int (Int32.ofNat d))] [(.int (a3 + (Int32.ofNat d)))])) _
    refine XS.iload X8.here hx rfl (hb hby at_43) rfl ?_
    show Steps p.tables e below (T8.setTop (mkF m 45 #[.val (.long p0), .second, .val (.int p1), .val (.int p2), .val (.long v), .second, .val (.int a3), .val (.ref r), .val (.int (a3 + (Int32.ofNat d))), .val (.int (Int32.ofNat d))] [(.int a3), (.int (a3 + (Int32.ofNat d)))])) _
    refine XS.iload X8.here hx rfl (hb hby at_45) rfl ?_
    show Steps p.tables e below (T8.setTop (mkF m 47 #[.val (.long p0), .second, .val (.int p1), .val (.int p2), .val (.long v), .second, .val (.int a3), .val (.ref r), .val (.int (a3 + (Int32.ofNat d))), .val (.int (Int32.ofNat d))] [(.int (Int32.ofNat d)), (.int a3), (.int (a3 + (Int32.ofNat d)))])) _
    refine XS.iadd X8.here hx rfl (hb hby at_47) rfl ?_
    show Steps p.tables e below (T8.setTop (mkF m 48 #[.val (.long p0), .second, .val (.int p1), .val (.int p2), .val (.long v), .second, .val (.int a3), .val (.ref r), .val (.int (a3 + (Int32.ofNat d))), .val (.int (Int32.ofNat d))] [(.int (a3 + (Int32.ofNat d))), (.int (a3 + (Int32.ofNat d)))])) _
    refine XS.icmpYes X8.here hx rfl (pc0 := 48) (pc' := 53) rfl (hb hby at_48) rfl (teq (rfl : (a3 + (Int32.ofNat d)) = (a3 + (Int32.ofNat d)))).1 (by decide) (by decide) ?_
    show Steps p.tables e below (T8.setTop (mkF m 53 #[.val (.long p0), .second, .val (.int p1), .val (.int p2), .val (.long v), .second, .val (.int a3), .val (.ref r), .val (.int (a3 + (Int32.ofNat d))), .val (.int (Int32.ofNat d))] [])) _
    refine XS.lload X8.here hx rfl (hb hby at_53) rfl ?_
    show Steps p.tables e below (T8.setTop (mkF m 55 #[.val (.long p0), .second, .val (.int p1), .val (.int p2), .val (.long v), .second, .val (.int a3), .val (.ref r), .val (.int (a3 + (Int32.ofNat d))), .val (.int (Int32.ofNat d))] [(.long v)])) _
    refine XS.aload X8.here hx rfl (hb hby at_55) rfl rfl ?_
    show Steps p.tables e below (T8.setTop (mkF m 57 #[.val (.long p0), .second, .val (.int p1), .val (.int p2), .val (.long v), .second, .val (.int a3), .val (.ref r), .val (.int (a3 + (Int32.ofNat d))), .val (.int (Int32.ofNat d))] [(.ref r), (.long v)])) _
    refine XS.iload X8.here hx rfl (hb hby at_57) rfl ?_
    show Steps p.tables e below (T8.setTop (mkF m 59 #[.val (.long p0), .second, .val (.int p1), .val (.int p2), .val (.long v), .second, .val (.int a3), .val (.ref r), .val (.int (a3 + (Int32.ofNat d))), .val (.int (Int32.ofNat d))] [(.int a3), (.ref r), (.long v)])) _
    refine XS.iload X8.here hx rfl (hb hby at_59) rfl ?_
    show Steps p.tables e below (T8.setTop (mkF m 61 #[.val (.long p0), .second, .val (.int p1), .val (.int p2), .val (.long v), .second, .val (.int a3), .val (.ref r), .val (.int (a3 + (Int32.ofNat d))), .val (.int (Int32.ofNat d))] [(.int (Int32.ofNat d)), (.int a3), (.ref r), (.long v)])) _
    refine XS.iconst X8.here hx rfl (hb hby at_61) ?_
    exact zk
  obtain ⟨_, _, ⟨T10, L10, k10, n10⟩, -, X10, ⟨Lc10, hQ10, l10, y10, z10⟩, st10⟩ := Jvm.LawKit.callS X8 hx (y := (⟨"com/example/reset/reset/DecimalWriteWholePinLaw", "place", "(J[CIII)Z"⟩ : MethodName)) hown (mvT hZ (hw _ (List.mem_of_getElem? (i := 30) rfl))) (mvT hZ (hw _ (List.mem_of_getElem? (i := 31) rfl))) (mvT hZ (hw _ (List.mem_of_getElem? (i := 10) rfl))) (mvT hZ (hw _ (List.mem_of_getElem? (i := 32) rfl))) (by decide) (backOf (W := 0) (rm3 l Z a0 hw [] v r a3 (Int32.ofNat d) (0 : Int32) V d A k4 0 T6.heap n0 Sz6 hv hD hA hA3 hnn rfl (by decide) V_r) hZ (hw _ (List.mem_of_getElem? (i := 32) rfl)) (hw _ (List.mem_of_getElem? (i := 10) rfl)) (by decide) (by decide)) (g := (mkF m 62 #[.val (.long p0), .second, .val (.int p1), .val (.int p2), .val (.long v), .second, .val (.int a3), .val (.ref r), .val (.int (a3 + (Int32.ofNat d))), .val (.int (Int32.ofNat d))] [(.int (0 : Int32)), (.int (Int32.ofNat d)), (.int a3), (.ref r), (.long v)])) rfl (by rw [hml]; rfl) (argsL := [(.long v), (.ref r), (.int a3), (.int (Int32.ofNat d)), (.int (0 : Int32))]) (rest := []) (lenOf pd_3 rfl) rfl (by show 2 * 0 + _ ≤ _; exact Nat.le_of_eq rfl) (hb hby at_62) (fun _ _ => ⟨rfl, e8, (by decide : 1 + 1 ≤ _), (by decide : 24 + 19 ≤ _)⟩)
  dsimp only [Pt.U, Pt.locs, Pt.cells, Pt.slots] at X10 l10 y10 z10 st10 hQ10
  rw [y10, z10] at X10
  have X10 : Stand p l e room_1 s m #[(.long p0), (.int p1), (.int p2)] below meth c T10 L10 2 43 := X10
  obtain ⟨rfl, Nq10, K10⟩ := hQ10
  have N10 : Fr n0 L10 := by rw [l10]; exact Fr.app N8 Nq10
  clear l10 y10 z10
  have Sz10 := Nat.le_trans Sz6 K10.1
  have V_r := V_r.keep K10 nin0
  have R11 : ∀ zt, Steps p.tables e below (T10.setTop (mkF m 77 #[.val (.long p0), .second, .val (.int p1), .val (.int p2), .val (.long v), .second, .val (.int a3), .val (.ref r), .val (.int (a3 + (Int32.ofNat d))), .val (.int (Int32.ofNat d))] [(.int (1 : Int32)), (.int (Int32.ofNat d)), (.int a3), (.ref r), (.long v)])) zt → Steps p.tables e below (s₁.setTop (entryFrame m #[(.long p0), (.int p1), (.int p2)] maxLocals)) zt := by
    intro zt zk
    refine R9 zt ?_
    show Steps p.tables e below (T8.setTop (mkF m 62 #[.val (.long p0), .second, .val (.int p1), .val (.int p2), .val (.long v), .second, .val (.int a3), .val (.ref r), .val (.int (a3 + (Int32.ofNat d))), .val (.int (Int32.ofNat d))] [(.int (0 : Int32)), (.int (Int32.ofNat d)), (.int a3), (.ref r), (.long v)])) _
    refine st10 _ ?_
    show Steps p.tables e below (T10.setTop (mkF m 65 #[.val (.long p0), .second, .val (.int p1), .val (.int p2), .val (.long v), .second, .val (.int a3), .val (.ref r), .val (.int (a3 + (Int32.ofNat d))), .val (.int (Int32.ofNat d))] [(.int (1 : Int32))])) _
    refine XS.ifNo X10.here hx rfl (hb hby at_65) rfl ((if0 _ _).trans (feq (by decide)).1) ?_
    show Steps p.tables e below (T10.setTop (mkF m 68 #[.val (.long p0), .second, .val (.int p1), .val (.int p2), .val (.long v), .second, .val (.int a3), .val (.ref r), .val (.int (a3 + (Int32.ofNat d))), .val (.int (Int32.ofNat d))] [])) _
    refine XS.lload X10.here hx rfl (hb hby at_68) rfl ?_
    show Steps p.tables e below (T10.setTop (mkF m 70 #[.val (.long p0), .second, .val (.int p1), .val (.int p2), .val (.long v), .second, .val (.int a3), .val (.ref r), .val (.int (a3 + (Int32.ofNat d))), .val (.int (Int32.ofNat d))] [(.long v)])) _
    refine XS.aload X10.here hx rfl (hb hby at_70) rfl rfl ?_
    show Steps p.tables e below (T10.setTop (mkF m 72 #[.val (.long p0), .second, .val (.int p1), .val (.int p2), .val (.long v), .second, .val (.int a3), .val (.ref r), .val (.int (a3 + (Int32.ofNat d))), .val (.int (Int32.ofNat d))] [(.ref r), (.long v)])) _
    refine XS.iload X10.here hx rfl (hb hby at_72) rfl ?_
    show Steps p.tables e below (T10.setTop (mkF m 74 #[.val (.long p0), .second, .val (.int p1), .val (.int p2), .val (.long v), .second, .val (.int a3), .val (.ref r), .val (.int (a3 + (Int32.ofNat d))), .val (.int (Int32.ofNat d))] [(.int a3), (.ref r), (.long v)])) _
    refine XS.iload X10.here hx rfl (hb hby at_74) rfl ?_
    show Steps p.tables e below (T10.setTop (mkF m 76 #[.val (.long p0), .second, .val (.int p1), .val (.int p2), .val (.long v), .second, .val (.int a3), .val (.ref r), .val (.int (a3 + (Int32.ofNat d))), .val (.int (Int32.ofNat d))] [(.int (Int32.ofNat d)), (.int a3), (.ref r), (.long v)])) _
    refine XS.iconst X10.here hx rfl (hb hby at_76) ?_
    exact zk
  obtain ⟨_, _, ⟨T12, L12, k12, n12⟩, -, X12, ⟨Lc12, hQ12, l12, y12, z12⟩, st12⟩ := Jvm.LawKit.callS X10 hx (y := (⟨"com/example/reset/reset/DecimalWriteWholePinLaw", "place", "(J[CIII)Z"⟩ : MethodName)) hown (mvT hZ (hw _ (List.mem_of_getElem? (i := 30) rfl))) (mvT hZ (hw _ (List.mem_of_getElem? (i := 31) rfl))) (mvT hZ (hw _ (List.mem_of_getElem? (i := 10) rfl))) (mvT hZ (hw _ (List.mem_of_getElem? (i := 32) rfl))) (by decide) (backOf (W := 0) (rm3 l Z a0 hw [] v r a3 (Int32.ofNat d) (1 : Int32) V d A k4 1 T10.heap n0 Sz10 hv hD hA hA3 hnn rfl (by decide) V_r) hZ (hw _ (List.mem_of_getElem? (i := 32) rfl)) (hw _ (List.mem_of_getElem? (i := 10) rfl)) (by decide) (by decide)) (g := (mkF m 77 #[.val (.long p0), .second, .val (.int p1), .val (.int p2), .val (.long v), .second, .val (.int a3), .val (.ref r), .val (.int (a3 + (Int32.ofNat d))), .val (.int (Int32.ofNat d))] [(.int (1 : Int32)), (.int (Int32.ofNat d)), (.int a3), (.ref r), (.long v)])) rfl (by rw [hml]; rfl) (argsL := [(.long v), (.ref r), (.int a3), (.int (Int32.ofNat d)), (.int (1 : Int32))]) (rest := []) (lenOf pd_3 rfl) rfl (by show 2 * 0 + _ ≤ _; exact Nat.le_of_eq rfl) (hb hby at_77) (fun _ _ => ⟨rfl, rfl, (by decide : 2 + 1 ≤ _), (by decide : 43 + 19 ≤ _)⟩)
  dsimp only [Pt.U, Pt.locs, Pt.cells, Pt.slots] at X12 l12 y12 z12 st12 hQ12
  rw [y12, z12] at X12
  have X12 : Stand p l e room_1 s m #[(.long p0), (.int p1), (.int p2)] below meth c T12 L12 3 62 := X12
  obtain ⟨rfl, Nq12, K12⟩ := hQ12
  have N12 : Fr n0 L12 := by rw [l12]; exact Fr.app N10 Nq12
  clear l12 y12 z12
  have Sz12 := Nat.le_trans Sz10 K12.1
  have V_r := V_r.keep K12 nin0
  have R13 : ∀ zt, Steps p.tables e below (T12.setTop (mkF m 92 #[.val (.long p0), .second, .val (.int p1), .val (.int p2), .val (.long v), .second, .val (.int a3), .val (.ref r), .val (.int (a3 + (Int32.ofNat d))), .val (.int (Int32.ofNat d))] [(.int (2 : Int32)), (.int (Int32.ofNat d)), (.int a3), (.ref r), (.long v)])) zt → Steps p.tables e below (s₁.setTop (entryFrame m #[(.long p0), (.int p1), (.int p2)] maxLocals)) zt := by
    intro zt zk
    refine R11 zt ?_
    show Steps p.tables e below (T10.setTop (mkF m 77 #[.val (.long p0), .second, .val (.int p1), .val (.int p2), .val (.long v), .second, .val (.int a3), .val (.ref r), .val (.int (a3 + (Int32.ofNat d))), .val (.int (Int32.ofNat d))] [(.int (1 : Int32)), (.int (Int32.ofNat d)), (.int a3), (.ref r), (.long v)])) _
    refine st12 _ ?_
    show Steps p.tables e below (T12.setTop (mkF m 80 #[.val (.long p0), .second, .val (.int p1), .val (.int p2), .val (.long v), .second, .val (.int a3), .val (.ref r), .val (.int (a3 + (Int32.ofNat d))), .val (.int (Int32.ofNat d))] [(.int (1 : Int32))])) _
    refine XS.ifNo X12.here hx rfl (hb hby at_80) rfl ((if0 _ _).trans (feq (by decide)).1) ?_
    show Steps p.tables e below (T12.setTop (mkF m 83 #[.val (.long p0), .second, .val (.int p1), .val (.int p2), .val (.long v), .second, .val (.int a3), .val (.ref r), .val (.int (a3 + (Int32.ofNat d))), .val (.int (Int32.ofNat d))] [])) _
    refine XS.lload X12.here hx rfl (hb hby at_83) rfl ?_
    show Steps p.tables e below (T12.setTop (mkF m 85 #[.val (.long p0), .second, .val (.int p1), .val (.int p2), .val (.long v), .second, .val (.int a3), .val (.ref r), .val (.int (a3 + (Int32.ofNat d))), .val (.int (Int32.ofNat d))] [(.long v)])) _
    refine XS.aload X12.here hx rfl (hb hby at_85) rfl rfl ?_
    show Steps p.tables e below (T12.setTop (mkF m 87 #[.val (.long p0), .second, .val (.int p1), .val (.int p2), .val (.long v), .second, .val (.int a3), .val (.ref r), .val (.int (a3 + (Int32.ofNat d))), .val (.int (Int32.ofNat d))] [(.ref r), (.long v)])) _
    refine XS.iload X12.here hx rfl (hb hby at_87) rfl ?_
    show Steps p.tables e below (T12.setTop (mkF m 89 #[.val (.long p0), .second, .val (.int p1), .val (.int p2), .val (.long v), .second, .val (.int a3), .val (.ref r), .val (.int (a3 + (Int32.ofNat d))), .val (.int (Int32.ofNat d))] [(.int a3), (.ref r), (.long v)])) _
    refine XS.iload X12.here hx rfl (hb hby at_89) rfl ?_
    show Steps p.tables e below (T12.setTop (mkF m 91 #[.val (.long p0), .second, .val (.int p1), .val (.int p2), .val (.long v), .second, .val (.int a3), .val (.ref r), .val (.int (a3 + (Int32.ofNat d))), .val (.int (Int32.ofNat d))] [(.int (Int32.ofNat d)), (.int a3), (.ref r), (.long v)])) _
    refine XS.iconst X12.here hx rfl (hb hby at_91) ?_
    exact zk
  obtain ⟨_, _, ⟨T14, L14, k14, n14⟩, -, X14, ⟨Lc14, hQ14, l14, y14, z14⟩, st14⟩ := Jvm.LawKit.callS X12 hx (y := (⟨"com/example/reset/reset/DecimalWriteWholePinLaw", "place", "(J[CIII)Z"⟩ : MethodName)) hown (mvT hZ (hw _ (List.mem_of_getElem? (i := 30) rfl))) (mvT hZ (hw _ (List.mem_of_getElem? (i := 31) rfl))) (mvT hZ (hw _ (List.mem_of_getElem? (i := 10) rfl))) (mvT hZ (hw _ (List.mem_of_getElem? (i := 32) rfl))) (by decide) (backOf (W := 0) (rm3 l Z a0 hw [] v r a3 (Int32.ofNat d) (2 : Int32) V d A k4 2 T12.heap n0 Sz12 hv hD hA hA3 hnn rfl (by decide) V_r) hZ (hw _ (List.mem_of_getElem? (i := 32) rfl)) (hw _ (List.mem_of_getElem? (i := 10) rfl)) (by decide) (by decide)) (g := (mkF m 92 #[.val (.long p0), .second, .val (.int p1), .val (.int p2), .val (.long v), .second, .val (.int a3), .val (.ref r), .val (.int (a3 + (Int32.ofNat d))), .val (.int (Int32.ofNat d))] [(.int (2 : Int32)), (.int (Int32.ofNat d)), (.int a3), (.ref r), (.long v)])) rfl (by rw [hml]; rfl) (argsL := [(.long v), (.ref r), (.int a3), (.int (Int32.ofNat d)), (.int (2 : Int32))]) (rest := []) (lenOf pd_3 rfl) rfl (by show 2 * 0 + _ ≤ _; exact Nat.le_of_eq rfl) (hb hby at_92) (fun _ _ => ⟨rfl, rfl, (by decide : 3 + 1 ≤ _), (by decide : 62 + 19 ≤ _)⟩)
  dsimp only [Pt.U, Pt.locs, Pt.cells, Pt.slots] at X14 l14 y14 z14 st14 hQ14
  rw [y14, z14] at X14
  have X14 : Stand p l e room_1 s m #[(.long p0), (.int p1), (.int p2)] below meth c T14 L14 4 81 := X14
  obtain ⟨rfl, Nq14, K14⟩ := hQ14
  have N14 : Fr n0 L14 := by rw [l14]; exact Fr.app N12 Nq14
  clear l14 y14 z14
  have Sz14 := Nat.le_trans Sz12 K14.1
  have V_r := V_r.keep K14 nin0
  have R15 : ∀ zt, Steps p.tables e below (T14.setTop (mkF m 107 #[.val (.long p0), .second, .val (.int p1), .val (.int p2), .val (.long v), .second, .val (.int a3), .val (.ref r), .val (.int (a3 + (Int32.ofNat d))), .val (.int (Int32.ofNat d))] [(.int (3 : Int32)), (.int (Int32.ofNat d)), (.int a3), (.ref r), (.long v)])) zt → Steps p.tables e below (s₁.setTop (entryFrame m #[(.long p0), (.int p1), (.int p2)] maxLocals)) zt := by
    intro zt zk
    refine R13 zt ?_
    show Steps p.tables e below (T12.setTop (mkF m 92 #[.val (.long p0), .second, .val (.int p1), .val (.int p2), .val (.long v), .second, .val (.int a3), .val (.ref r), .val (.int (a3 + (Int32.ofNat d))), .val (.int (Int32.ofNat d))] [(.int (2 : Int32)), (.int (Int32.ofNat d)), (.int a3), (.ref r), (.long v)])) _
    refine st14 _ ?_
    show Steps p.tables e below (T14.setTop (mkF m 95 #[.val (.long p0), .second, .val (.int p1), .val (.int p2), .val (.long v), .second, .val (.int a3), .val (.ref r), .val (.int (a3 + (Int32.ofNat d))), .val (.int (Int32.ofNat d))] [(.int (1 : Int32))])) _
    refine XS.ifNo X14.here hx rfl (hb hby at_95) rfl ((if0 _ _).trans (feq (by decide)).1) ?_
    show Steps p.tables e below (T14.setTop (mkF m 98 #[.val (.long p0), .second, .val (.int p1), .val (.int p2), .val (.long v), .second, .val (.int a3), .val (.ref r), .val (.int (a3 + (Int32.ofNat d))), .val (.int (Int32.ofNat d))] [])) _
    refine XS.lload X14.here hx rfl (hb hby at_98) rfl ?_
    show Steps p.tables e below (T14.setTop (mkF m 100 #[.val (.long p0), .second, .val (.int p1), .val (.int p2), .val (.long v), .second, .val (.int a3), .val (.ref r), .val (.int (a3 + (Int32.ofNat d))), .val (.int (Int32.ofNat d))] [(.long v)])) _
    refine XS.aload X14.here hx rfl (hb hby at_100) rfl rfl ?_
    show Steps p.tables e below (T14.setTop (mkF m 102 #[.val (.long p0), .second, .val (.int p1), .val (.int p2), .val (.long v), .second, .val (.int a3), .val (.ref r), .val (.int (a3 + (Int32.ofNat d))), .val (.int (Int32.ofNat d))] [(.ref r), (.long v)])) _
    refine XS.iload X14.here hx rfl (hb hby at_102) rfl ?_
    show Steps p.tables e below (T14.setTop (mkF m 104 #[.val (.long p0), .second, .val (.int p1), .val (.int p2), .val (.long v), .second, .val (.int a3), .val (.ref r), .val (.int (a3 + (Int32.ofNat d))), .val (.int (Int32.ofNat d))] [(.int a3), (.ref r), (.long v)])) _
    refine XS.iload X14.here hx rfl (hb hby at_104) rfl ?_
    show Steps p.tables e below (T14.setTop (mkF m 106 #[.val (.long p0), .second, .val (.int p1), .val (.int p2), .val (.long v), .second, .val (.int a3), .val (.ref r), .val (.int (a3 + (Int32.ofNat d))), .val (.int (Int32.ofNat d))] [(.int (Int32.ofNat d)), (.int a3), (.ref r), (.long v)])) _
    refine XS.iconst X14.here hx rfl (hb hby at_106) ?_
    exact zk
  obtain ⟨_, _, ⟨T16, L16, k16, n16⟩, -, X16, ⟨Lc16, hQ16, l16, y16, z16⟩, st16⟩ := Jvm.LawKit.callS X14 hx (y := (⟨"com/example/reset/reset/DecimalWriteWholePinLaw", "place", "(J[CIII)Z"⟩ : MethodName)) hown (mvT hZ (hw _ (List.mem_of_getElem? (i := 30) rfl))) (mvT hZ (hw _ (List.mem_of_getElem? (i := 31) rfl))) (mvT hZ (hw _ (List.mem_of_getElem? (i := 10) rfl))) (mvT hZ (hw _ (List.mem_of_getElem? (i := 32) rfl))) (by decide) (backOf (W := 0) (rm3 l Z a0 hw [] v r a3 (Int32.ofNat d) (3 : Int32) V d A k4 3 T14.heap n0 Sz14 hv hD hA hA3 hnn rfl (by decide) V_r) hZ (hw _ (List.mem_of_getElem? (i := 32) rfl)) (hw _ (List.mem_of_getElem? (i := 10) rfl)) (by decide) (by decide)) (g := (mkF m 107 #[.val (.long p0), .second, .val (.int p1), .val (.int p2), .val (.long v), .second, .val (.int a3), .val (.ref r), .val (.int (a3 + (Int32.ofNat d))), .val (.int (Int32.ofNat d))] [(.int (3 : Int32)), (.int (Int32.ofNat d)), (.int a3), (.ref r), (.long v)])) rfl (by rw [hml]; rfl) (argsL := [(.long v), (.ref r), (.int a3), (.int (Int32.ofNat d)), (.int (3 : Int32))]) (rest := []) (lenOf pd_3 rfl) rfl (by show 2 * 0 + _ ≤ _; exact Nat.le_of_eq rfl) (hb hby at_107) (fun _ _ => ⟨rfl, rfl, (by decide : 4 + 1 ≤ _), (by decide : 81 + 19 ≤ _)⟩)
  dsimp only [Pt.U, Pt.locs, Pt.cells, Pt.slots] at X16 l16 y16 z16 st16 hQ16
  rw [y16, z16] at X16
  have X16 : Stand p l e room_1 s m #[(.long p0), (.int p1), (.int p2)] below meth c T16 L16 5 100 := X16
  obtain ⟨rfl, Nq16, K16⟩ := hQ16
  have N16 : Fr n0 L16 := by rw [l16]; exact Fr.app N14 Nq16
  clear l16 y16 z16
  have Sz16 := Nat.le_trans Sz14 K16.1
  have V_r := V_r.keep K16 nin0
  have R17 : ∀ zt, Steps p.tables e below (T16.setTop (mkF m 122 #[.val (.long p0), .second, .val (.int p1), .val (.int p2), .val (.long v), .second, .val (.int a3), .val (.ref r), .val (.int (a3 + (Int32.ofNat d))), .val (.int (Int32.ofNat d))] [(.int (4 : Int32)), (.int (Int32.ofNat d)), (.int a3), (.ref r), (.long v)])) zt → Steps p.tables e below (s₁.setTop (entryFrame m #[(.long p0), (.int p1), (.int p2)] maxLocals)) zt := by
    intro zt zk
    refine R15 zt ?_
    show Steps p.tables e below (T14.setTop (mkF m 107 #[.val (.long p0), .second, .val (.int p1), .val (.int p2), .val (.long v), .second, .val (.int a3), .val (.ref r), .val (.int (a3 + (Int32.ofNat d))), .val (.int (Int32.ofNat d))] [(.int (3 : Int32)), (.int (Int32.ofNat d)), (.int a3), (.ref r), (.long v)])) _
    refine st16 _ ?_
    show Steps p.tables e below (T16.setTop (mkF m 110 #[.val (.long p0), .second, .val (.int p1), .val (.int p2), .val (.long v), .second, .val (.int a3), .val (.ref r), .val (.int (a3 + (Int32.ofNat d))), .val (.int (Int32.ofNat d))] [(.int (1 : Int32))])) _
    refine XS.ifNo X16.here hx rfl (hb hby at_110) rfl ((if0 _ _).trans (feq (by decide)).1) ?_
    show Steps p.tables e below (T16.setTop (mkF m 113 #[.val (.long p0), .second, .val (.int p1), .val (.int p2), .val (.long v), .second, .val (.int a3), .val (.ref r), .val (.int (a3 + (Int32.ofNat d))), .val (.int (Int32.ofNat d))] [])) _
    refine XS.lload X16.here hx rfl (hb hby at_113) rfl ?_
    show Steps p.tables e below (T16.setTop (mkF m 115 #[.val (.long p0), .second, .val (.int p1), .val (.int p2), .val (.long v), .second, .val (.int a3), .val (.ref r), .val (.int (a3 + (Int32.ofNat d))), .val (.int (Int32.ofNat d))] [(.long v)])) _
    refine XS.aload X16.here hx rfl (hb hby at_115) rfl rfl ?_
    show Steps p.tables e below (T16.setTop (mkF m 117 #[.val (.long p0), .second, .val (.int p1), .val (.int p2), .val (.long v), .second, .val (.int a3), .val (.ref r), .val (.int (a3 + (Int32.ofNat d))), .val (.int (Int32.ofNat d))] [(.ref r), (.long v)])) _
    refine XS.iload X16.here hx rfl (hb hby at_117) rfl ?_
    show Steps p.tables e below (T16.setTop (mkF m 119 #[.val (.long p0), .second, .val (.int p1), .val (.int p2), .val (.long v), .second, .val (.int a3), .val (.ref r), .val (.int (a3 + (Int32.ofNat d))), .val (.int (Int32.ofNat d))] [(.int a3), (.ref r), (.long v)])) _
    refine XS.iload X16.here hx rfl (hb hby at_119) rfl ?_
    show Steps p.tables e below (T16.setTop (mkF m 121 #[.val (.long p0), .second, .val (.int p1), .val (.int p2), .val (.long v), .second, .val (.int a3), .val (.ref r), .val (.int (a3 + (Int32.ofNat d))), .val (.int (Int32.ofNat d))] [(.int (Int32.ofNat d)), (.int a3), (.ref r), (.long v)])) _
    refine XS.iconst X16.here hx rfl (hb hby at_121) ?_
    exact zk
  obtain ⟨_, _, ⟨T18, L18, k18, n18⟩, -, X18, ⟨Lc18, hQ18, l18, y18, z18⟩, st18⟩ := Jvm.LawKit.callS X16 hx (y := (⟨"com/example/reset/reset/DecimalWriteWholePinLaw", "place", "(J[CIII)Z"⟩ : MethodName)) hown (mvT hZ (hw _ (List.mem_of_getElem? (i := 30) rfl))) (mvT hZ (hw _ (List.mem_of_getElem? (i := 31) rfl))) (mvT hZ (hw _ (List.mem_of_getElem? (i := 10) rfl))) (mvT hZ (hw _ (List.mem_of_getElem? (i := 32) rfl))) (by decide) (backOf (W := 0) (rm3 l Z a0 hw [] v r a3 (Int32.ofNat d) (4 : Int32) V d A k4 4 T16.heap n0 Sz16 hv hD hA hA3 hnn rfl (by decide) V_r) hZ (hw _ (List.mem_of_getElem? (i := 32) rfl)) (hw _ (List.mem_of_getElem? (i := 10) rfl)) (by decide) (by decide)) (g := (mkF m 122 #[.val (.long p0), .second, .val (.int p1), .val (.int p2), .val (.long v), .second, .val (.int a3), .val (.ref r), .val (.int (a3 + (Int32.ofNat d))), .val (.int (Int32.ofNat d))] [(.int (4 : Int32)), (.int (Int32.ofNat d)), (.int a3), (.ref r), (.long v)])) rfl (by rw [hml]; rfl) (argsL := [(.long v), (.ref r), (.int a3), (.int (Int32.ofNat d)), (.int (4 : Int32))]) (rest := []) (lenOf pd_3 rfl) rfl (by show 2 * 0 + _ ≤ _; exact Nat.le_of_eq rfl) (hb hby at_122) (fun _ _ => ⟨rfl, rfl, (by decide : 5 + 1 ≤ _), (by decide : 100 + 19 ≤ _)⟩)
  dsimp only [Pt.U, Pt.locs, Pt.cells, Pt.slots] at X18 l18 y18 z18 st18 hQ18
  rw [y18, z18] at X18
  have X18 : Stand p l e room_1 s m #[(.long p0), (.int p1), (.int p2)] below meth c T18 L18 6 119 := X18
  obtain ⟨rfl, Nq18, K18⟩ := hQ18
  have N18 : Fr n0 L18 := by rw [l18]; exact Fr.app N16 Nq18
  clear l18 y18 z18
  have Sz18 := Nat.le_trans Sz16 K18.1
  have V_r := V_r.keep K18 nin0
  have R19 : ∀ zt, Steps p.tables e below (T18.setTop (mkF m 137 #[.val (.long p0), .second, .val (.int p1), .val (.int p2), .val (.long v), .second, .val (.int a3), .val (.ref r), .val (.int (a3 + (Int32.ofNat d))), .val (.int (Int32.ofNat d))] [(.int (5 : Int32)), (.int (Int32.ofNat d)), (.int a3), (.ref r), (.long v)])) zt → Steps p.tables e below (s₁.setTop (entryFrame m #[(.long p0), (.int p1), (.int p2)] maxLocals)) zt := by
    intro zt zk
    refine R17 zt ?_
    show Steps p.tables e below (T16.setTop (mkF m 122 #[.val (.long p0), .second, .val (.int p1), .val (.int p2), .val (.long v), .second, .val (.int a3), .val (.ref r), .val (.int (a3 + (Int32.ofNat d))), .val (.int (Int32.ofNat d))] [(.int (4 : Int32)), (.int (Int32.ofNat d)), (.int a3), (.ref r), (.long v)])) _
    refine st18 _ ?_
    show Steps p.tables e below (T18.setTop (mkF m 125 #[.val (.long p0), .second, .val (.int p1), .val (.int p2), .val (.long v), .second, .val (.int a3), .val (.ref r), .val (.int (a3 + (Int32.ofNat d))), .val (.int (Int32.ofNat d))] [(.int (1 : Int32))])) _
    refine XS.ifNo X18.here hx rfl (hb hby at_125) rfl ((if0 _ _).trans (feq (by decide)).1) ?_
    show Steps p.tables e below (T18.setTop (mkF m 128 #[.val (.long p0), .second, .val (.int p1), .val (.int p2), .val (.long v), .second, .val (.int a3), .val (.ref r), .val (.int (a3 + (Int32.ofNat d))), .val (.int (Int32.ofNat d))] [])) _
    refine XS.lload X18.here hx rfl (hb hby at_128) rfl ?_
    show Steps p.tables e below (T18.setTop (mkF m 130 #[.val (.long p0), .second, .val (.int p1), .val (.int p2), .val (.long v), .second, .val (.int a3), .val (.ref r), .val (.int (a3 + (Int32.ofNat d))), .val (.int (Int32.ofNat d))] [(.long v)])) _
    refine XS.aload X18.here hx rfl (hb hby at_130) rfl rfl ?_
    show Steps p.tables e below (T18.setTop (mkF m 132 #[.val (.long p0), .second, .val (.int p1), .val (.int p2), .val (.long v), .second, .val (.int a3), .val (.ref r), .val (.int (a3 + (Int32.ofNat d))), .val (.int (Int32.ofNat d))] [(.ref r), (.long v)])) _
    refine XS.iload X18.here hx rfl (hb hby at_132) rfl ?_
    show Steps p.tables e below (T18.setTop (mkF m 134 #[.val (.long p0), .second, .val (.int p1), .val (.int p2), .val (.long v), .second, .val (.int a3), .val (.ref r), .val (.int (a3 + (Int32.ofNat d))), .val (.int (Int32.ofNat d))] [(.int a3), (.ref r), (.long v)])) _
    refine XS.iload X18.here hx rfl (hb hby at_134) rfl ?_
    show Steps p.tables e below (T18.setTop (mkF m 136 #[.val (.long p0), .second, .val (.int p1), .val (.int p2), .val (.long v), .second, .val (.int a3), .val (.ref r), .val (.int (a3 + (Int32.ofNat d))), .val (.int (Int32.ofNat d))] [(.int (Int32.ofNat d)), (.int a3), (.ref r), (.long v)])) _
    refine XS.iconst X18.here hx rfl (hb hby at_136) ?_
    exact zk
  obtain ⟨_, _, ⟨T20, L20, k20, n20⟩, -, X20, ⟨Lc20, hQ20, l20, y20, z20⟩, st20⟩ := Jvm.LawKit.callS X18 hx (y := (⟨"com/example/reset/reset/DecimalWriteWholePinLaw", "place", "(J[CIII)Z"⟩ : MethodName)) hown (mvT hZ (hw _ (List.mem_of_getElem? (i := 30) rfl))) (mvT hZ (hw _ (List.mem_of_getElem? (i := 31) rfl))) (mvT hZ (hw _ (List.mem_of_getElem? (i := 10) rfl))) (mvT hZ (hw _ (List.mem_of_getElem? (i := 32) rfl))) (by decide) (backOf (W := 0) (rm3 l Z a0 hw [] v r a3 (Int32.ofNat d) (5 : Int32) V d A k4 5 T18.heap n0 Sz18 hv hD hA hA3 hnn rfl (by decide) V_r) hZ (hw _ (List.mem_of_getElem? (i := 32) rfl)) (hw _ (List.mem_of_getElem? (i := 10) rfl)) (by decide) (by decide)) (g := (mkF m 137 #[.val (.long p0), .second, .val (.int p1), .val (.int p2), .val (.long v), .second, .val (.int a3), .val (.ref r), .val (.int (a3 + (Int32.ofNat d))), .val (.int (Int32.ofNat d))] [(.int (5 : Int32)), (.int (Int32.ofNat d)), (.int a3), (.ref r), (.long v)])) rfl (by rw [hml]; rfl) (argsL := [(.long v), (.ref r), (.int a3), (.int (Int32.ofNat d)), (.int (5 : Int32))]) (rest := []) (lenOf pd_3 rfl) rfl (by show 2 * 0 + _ ≤ _; exact Nat.le_of_eq rfl) (hb hby at_137) (fun _ _ => ⟨rfl, rfl, (by decide : 6 + 1 ≤ _), (by decide : 119 + 19 ≤ _)⟩)
  dsimp only [Pt.U, Pt.locs, Pt.cells, Pt.slots] at X20 l20 y20 z20 st20 hQ20
  rw [y20, z20] at X20
  have X20 : Stand p l e room_1 s m #[(.long p0), (.int p1), (.int p2)] below meth c T20 L20 7 138 := X20
  obtain ⟨rfl, Nq20, K20⟩ := hQ20
  have N20 : Fr n0 L20 := by rw [l20]; exact Fr.app N18 Nq20
  clear l20 y20 z20
  have Sz20 := Nat.le_trans Sz18 K20.1
  have V_r := V_r.keep K20 nin0
  have R21 : ∀ zt, Steps p.tables e below (T20.setTop (mkF m 153 #[.val (.long p0), .second, .val (.int p1), .val (.int p2), .val (.long v), .second, .val (.int a3), .val (.ref r), .val (.int (a3 + (Int32.ofNat d))), .val (.int (Int32.ofNat d))] [(.int (6 : Int32)), (.int (Int32.ofNat d)), (.int a3), (.ref r), (.long v)])) zt → Steps p.tables e below (s₁.setTop (entryFrame m #[(.long p0), (.int p1), (.int p2)] maxLocals)) zt := by
    intro zt zk
    refine R19 zt ?_
    show Steps p.tables e below (T18.setTop (mkF m 137 #[.val (.long p0), .second, .val (.int p1), .val (.int p2), .val (.long v), .second, .val (.int a3), .val (.ref r), .val (.int (a3 + (Int32.ofNat d))), .val (.int (Int32.ofNat d))] [(.int (5 : Int32)), (.int (Int32.ofNat d)), (.int a3), (.ref r), (.long v)])) _
    refine st20 _ ?_
    show Steps p.tables e below (T20.setTop (mkF m 140 #[.val (.long p0), .second, .val (.int p1), .val (.int p2), .val (.long v), .second, .val (.int a3), .val (.ref r), .val (.int (a3 + (Int32.ofNat d))), .val (.int (Int32.ofNat d))] [(.int (1 : Int32))])) _
    refine XS.ifNo X20.here hx rfl (hb hby at_140) rfl ((if0 _ _).trans (feq (by decide)).1) ?_
    show Steps p.tables e below (T20.setTop (mkF m 143 #[.val (.long p0), .second, .val (.int p1), .val (.int p2), .val (.long v), .second, .val (.int a3), .val (.ref r), .val (.int (a3 + (Int32.ofNat d))), .val (.int (Int32.ofNat d))] [])) _
    refine XS.lload X20.here hx rfl (hb hby at_143) rfl ?_
    show Steps p.tables e below (T20.setTop (mkF m 145 #[.val (.long p0), .second, .val (.int p1), .val (.int p2), .val (.long v), .second, .val (.int a3), .val (.ref r), .val (.int (a3 + (Int32.ofNat d))), .val (.int (Int32.ofNat d))] [(.long v)])) _
    refine XS.aload X20.here hx rfl (hb hby at_145) rfl rfl ?_
    show Steps p.tables e below (T20.setTop (mkF m 147 #[.val (.long p0), .second, .val (.int p1), .val (.int p2), .val (.long v), .second, .val (.int a3), .val (.ref r), .val (.int (a3 + (Int32.ofNat d))), .val (.int (Int32.ofNat d))] [(.ref r), (.long v)])) _
    refine XS.iload X20.here hx rfl (hb hby at_147) rfl ?_
    show Steps p.tables e below (T20.setTop (mkF m 149 #[.val (.long p0), .second, .val (.int p1), .val (.int p2), .val (.long v), .second, .val (.int a3), .val (.ref r), .val (.int (a3 + (Int32.ofNat d))), .val (.int (Int32.ofNat d))] [(.int a3), (.ref r), (.long v)])) _
    refine XS.iload X20.here hx rfl (hb hby at_149) rfl ?_
    show Steps p.tables e below (T20.setTop (mkF m 151 #[.val (.long p0), .second, .val (.int p1), .val (.int p2), .val (.long v), .second, .val (.int a3), .val (.ref r), .val (.int (a3 + (Int32.ofNat d))), .val (.int (Int32.ofNat d))] [(.int (Int32.ofNat d)), (.int a3), (.ref r), (.long v)])) _
    refine XS.bipush X20.here hx rfl (hb hby at_151) ?_
    exact zk
  obtain ⟨_, _, ⟨T22, L22, k22, n22⟩, -, X22, ⟨Lc22, hQ22, l22, y22, z22⟩, st22⟩ := Jvm.LawKit.callS X20 hx (y := (⟨"com/example/reset/reset/DecimalWriteWholePinLaw", "place", "(J[CIII)Z"⟩ : MethodName)) hown (mvT hZ (hw _ (List.mem_of_getElem? (i := 30) rfl))) (mvT hZ (hw _ (List.mem_of_getElem? (i := 31) rfl))) (mvT hZ (hw _ (List.mem_of_getElem? (i := 10) rfl))) (mvT hZ (hw _ (List.mem_of_getElem? (i := 32) rfl))) (by decide) (backOf (W := 0) (rm3 l Z a0 hw [] v r a3 (Int32.ofNat d) (6 : Int32) V d A k4 6 T20.heap n0 Sz20 hv hD hA hA3 hnn rfl (by decide) V_r) hZ (hw _ (List.mem_of_getElem? (i := 32) rfl)) (hw _ (List.mem_of_getElem? (i := 10) rfl)) (by decide) (by decide)) (g := (mkF m 153 #[.val (.long p0), .second, .val (.int p1), .val (.int p2), .val (.long v), .second, .val (.int a3), .val (.ref r), .val (.int (a3 + (Int32.ofNat d))), .val (.int (Int32.ofNat d))] [(.int (6 : Int32)), (.int (Int32.ofNat d)), (.int a3), (.ref r), (.long v)])) rfl (by rw [hml]; rfl) (argsL := [(.long v), (.ref r), (.int a3), (.int (Int32.ofNat d)), (.int (6 : Int32))]) (rest := []) (lenOf pd_3 rfl) rfl (by show 2 * 0 + _ ≤ _; exact Nat.le_of_eq rfl) (hb hby at_153) (fun _ _ => ⟨rfl, rfl, (by decide : 7 + 1 ≤ _), (by decide : 138 + 19 ≤ _)⟩)
  dsimp only [Pt.U, Pt.locs, Pt.cells, Pt.slots] at X22 l22 y22 z22 st22 hQ22
  rw [y22, z22] at X22
  have X22 : Stand p l e room_1 s m #[(.long p0), (.int p1), (.int p2)] below meth c T22 L22 8 157 := X22
  obtain ⟨rfl, Nq22, K22⟩ := hQ22
  have N22 : Fr n0 L22 := by rw [l22]; exact Fr.app N20 Nq22
  clear l22 y22 z22
  have Sz22 := Nat.le_trans Sz20 K22.1
  have V_r := V_r.keep K22 nin0
  have R23 : ∀ zt, Steps p.tables e below (T22.setTop (mkF m 169 #[.val (.long p0), .second, .val (.int p1), .val (.int p2), .val (.long v), .second, .val (.int a3), .val (.ref r), .val (.int (a3 + (Int32.ofNat d))), .val (.int (Int32.ofNat d))] [(.int (7 : Int32)), (.int (Int32.ofNat d)), (.int a3), (.ref r), (.long v)])) zt → Steps p.tables e below (s₁.setTop (entryFrame m #[(.long p0), (.int p1), (.int p2)] maxLocals)) zt := by
    intro zt zk
    refine R21 zt ?_
    show Steps p.tables e below (T20.setTop (mkF m 153 #[.val (.long p0), .second, .val (.int p1), .val (.int p2), .val (.long v), .second, .val (.int a3), .val (.ref r), .val (.int (a3 + (Int32.ofNat d))), .val (.int (Int32.ofNat d))] [(.int (6 : Int32)), (.int (Int32.ofNat d)), (.int a3), (.ref r), (.long v)])) _
    refine st22 _ ?_
    show Steps p.tables e below (T22.setTop (mkF m 156 #[.val (.long p0), .second, .val (.int p1), .val (.int p2), .val (.long v), .second, .val (.int a3), .val (.ref r), .val (.int (a3 + (Int32.ofNat d))), .val (.int (Int32.ofNat d))] [(.int (1 : Int32))])) _
    refine XS.ifNo X22.here hx rfl (hb hby at_156) rfl ((if0 _ _).trans (feq (by decide)).1) ?_
    show Steps p.tables e below (T22.setTop (mkF m 159 #[.val (.long p0), .second, .val (.int p1), .val (.int p2), .val (.long v), .second, .val (.int a3), .val (.ref r), .val (.int (a3 + (Int32.ofNat d))), .val (.int (Int32.ofNat d))] [])) _
    refine XS.lload X22.here hx rfl (hb hby at_159) rfl ?_
    show Steps p.tables e below (T22.setTop (mkF m 161 #[.val (.long p0), .second, .val (.int p1), .val (.int p2), .val (.long v), .second, .val (.int a3), .val (.ref r), .val (.int (a3 + (Int32.ofNat d))), .val (.int (Int32.ofNat d))] [(.long v)])) _
    refine XS.aload X22.here hx rfl (hb hby at_161) rfl rfl ?_
    show Steps p.tables e below (T22.setTop (mkF m 163 #[.val (.long p0), .second, .val (.int p1), .val (.int p2), .val (.long v), .second, .val (.int a3), .val (.ref r), .val (.int (a3 + (Int32.ofNat d))), .val (.int (Int32.ofNat d))] [(.ref r), (.long v)])) _
    refine XS.iload X22.here hx rfl (hb hby at_163) rfl ?_
    show Steps p.tables e below (T22.setTop (mkF m 165 #[.val (.long p0), .second, .val (.int p1), .val (.int p2), .val (.long v), .second, .val (.int a3), .val (.ref r), .val (.int (a3 + (Int32.ofNat d))), .val (.int (Int32.ofNat d))] [(.int a3), (.ref r), (.long v)])) _
    refine XS.iload X22.here hx rfl (hb hby at_165) rfl ?_
    show Steps p.tables e below (T22.setTop (mkF m 167 #[.val (.long p0), .second, .val (.int p1), .val (.int p2), .val (.long v), .second, .val (.int a3), .val (.ref r), .val (.int (a3 + (Int32.ofNat d))), .val (.int (Int32.ofNat d))] [(.int (Int32.ofNat d)), (.int a3), (.ref r), (.long v)])) _
    refine XS.bipush X22.here hx rfl (hb hby at_167) ?_
    exact zk
  obtain ⟨_, _, ⟨T24, L24, k24, n24⟩, -, X24, ⟨Lc24, hQ24, l24, y24, z24⟩, st24⟩ := Jvm.LawKit.callS X22 hx (y := (⟨"com/example/reset/reset/DecimalWriteWholePinLaw", "place", "(J[CIII)Z"⟩ : MethodName)) hown (mvT hZ (hw _ (List.mem_of_getElem? (i := 30) rfl))) (mvT hZ (hw _ (List.mem_of_getElem? (i := 31) rfl))) (mvT hZ (hw _ (List.mem_of_getElem? (i := 10) rfl))) (mvT hZ (hw _ (List.mem_of_getElem? (i := 32) rfl))) (by decide) (backOf (W := 0) (rm3 l Z a0 hw [] v r a3 (Int32.ofNat d) (7 : Int32) V d A k4 7 T22.heap n0 Sz22 hv hD hA hA3 hnn rfl (by decide) V_r) hZ (hw _ (List.mem_of_getElem? (i := 32) rfl)) (hw _ (List.mem_of_getElem? (i := 10) rfl)) (by decide) (by decide)) (g := (mkF m 169 #[.val (.long p0), .second, .val (.int p1), .val (.int p2), .val (.long v), .second, .val (.int a3), .val (.ref r), .val (.int (a3 + (Int32.ofNat d))), .val (.int (Int32.ofNat d))] [(.int (7 : Int32)), (.int (Int32.ofNat d)), (.int a3), (.ref r), (.long v)])) rfl (by rw [hml]; rfl) (argsL := [(.long v), (.ref r), (.int a3), (.int (Int32.ofNat d)), (.int (7 : Int32))]) (rest := []) (lenOf pd_3 rfl) rfl (by show 2 * 0 + _ ≤ _; exact Nat.le_of_eq rfl) (hb hby at_169) (fun _ _ => ⟨rfl, rfl, (by decide : 8 + 1 ≤ _), (by decide : 157 + 19 ≤ _)⟩)
  dsimp only [Pt.U, Pt.locs, Pt.cells, Pt.slots] at X24 l24 y24 z24 st24 hQ24
  rw [y24, z24] at X24
  have X24 : Stand p l e room_1 s m #[(.long p0), (.int p1), (.int p2)] below meth c T24 L24 9 176 := X24
  obtain ⟨rfl, Nq24, K24⟩ := hQ24
  have N24 : Fr n0 L24 := by rw [l24]; exact Fr.app N22 Nq24
  clear l24 y24 z24
  have Sz24 := Nat.le_trans Sz22 K24.1
  have V_r := V_r.keep K24 nin0
  have R25 : ∀ zt, Steps p.tables e below (T24.setTop (mkF m 185 #[.val (.long p0), .second, .val (.int p1), .val (.int p2), .val (.long v), .second, .val (.int a3), .val (.ref r), .val (.int (a3 + (Int32.ofNat d))), .val (.int (Int32.ofNat d))] [(.int (8 : Int32)), (.int (Int32.ofNat d)), (.int a3), (.ref r), (.long v)])) zt → Steps p.tables e below (s₁.setTop (entryFrame m #[(.long p0), (.int p1), (.int p2)] maxLocals)) zt := by
    intro zt zk
    refine R23 zt ?_
    show Steps p.tables e below (T22.setTop (mkF m 169 #[.val (.long p0), .second, .val (.int p1), .val (.int p2), .val (.long v), .second, .val (.int a3), .val (.ref r), .val (.int (a3 + (Int32.ofNat d))), .val (.int (Int32.ofNat d))] [(.int (7 : Int32)), (.int (Int32.ofNat d)), (.int a3), (.ref r), (.long v)])) _
    refine st24 _ ?_
    show Steps p.tables e below (T24.setTop (mkF m 172 #[.val (.long p0), .second, .val (.int p1), .val (.int p2), .val (.long v), .second, .val (.int a3), .val (.ref r), .val (.int (a3 + (Int32.ofNat d))), .val (.int (Int32.ofNat d))] [(.int (1 : Int32))])) _
    refine XS.ifNo X24.here hx rfl (hb hby at_172) rfl ((if0 _ _).trans (feq (by decide)).1) ?_
    show Steps p.tables e below (T24.setTop (mkF m 175 #[.val (.long p0), .second, .val (.int p1), .val (.int p2), .val (.long v), .second, .val (.int a3), .val (.ref r), .val (.int (a3 + (Int32.ofNat d))), .val (.int (Int32.ofNat d))] [])) _
    refine XS.lload X24.here hx rfl (hb hby at_175) rfl ?_
    show Steps p.tables e below (T24.setTop (mkF m 177 #[.val (.long p0), .second, .val (.int p1), .val (.int p2), .val (.long v), .second, .val (.int a3), .val (.ref r), .val (.int (a3 + (Int32.ofNat d))), .val (.int (Int32.ofNat d))] [(.long v)])) _
    refine XS.aload X24.here hx rfl (hb hby at_177) rfl rfl ?_
    show Steps p.tables e below (T24.setTop (mkF m 179 #[.val (.long p0), .second, .val (.int p1), .val (.int p2), .val (.long v), .second, .val (.int a3), .val (.ref r), .val (.int (a3 + (Int32.ofNat d))), .val (.int (Int32.ofNat d))] [(.ref r), (.long v)])) _
    refine XS.iload X24.here hx rfl (hb hby at_179) rfl ?_
    show Steps p.tables e below (T24.setTop (mkF m 181 #[.val (.long p0), .second, .val (.int p1), .val (.int p2), .val (.long v), .second, .val (.int a3), .val (.ref r), .val (.int (a3 + (Int32.ofNat d))), .val (.int (Int32.ofNat d))] [(.int a3), (.ref r), (.long v)])) _
    refine XS.iload X24.here hx rfl (hb hby at_181) rfl ?_
    show Steps p.tables e below (T24.setTop (mkF m 183 #[.val (.long p0), .second, .val (.int p1), .val (.int p2), .val (.long v), .second, .val (.int a3), .val (.ref r), .val (.int (a3 + (Int32.ofNat d))), .val (.int (Int32.ofNat d))] [(.int (Int32.ofNat d)), (.int a3), (.ref r), (.long v)])) _
    refine XS.bipush X24.here hx rfl (hb hby at_183) ?_
    exact zk
  obtain ⟨_, _, ⟨T26, L26, k26, n26⟩, -, X26, ⟨Lc26, hQ26, l26, y26, z26⟩, st26⟩ := Jvm.LawKit.callS X24 hx (y := (⟨"com/example/reset/reset/DecimalWriteWholePinLaw", "place", "(J[CIII)Z"⟩ : MethodName)) hown (mvT hZ (hw _ (List.mem_of_getElem? (i := 30) rfl))) (mvT hZ (hw _ (List.mem_of_getElem? (i := 31) rfl))) (mvT hZ (hw _ (List.mem_of_getElem? (i := 10) rfl))) (mvT hZ (hw _ (List.mem_of_getElem? (i := 32) rfl))) (by decide) (backOf (W := 0) (rm3 l Z a0 hw [] v r a3 (Int32.ofNat d) (8 : Int32) V d A k4 8 T24.heap n0 Sz24 hv hD hA hA3 hnn rfl (by decide) V_r) hZ (hw _ (List.mem_of_getElem? (i := 32) rfl)) (hw _ (List.mem_of_getElem? (i := 10) rfl)) (by decide) (by decide)) (g := (mkF m 185 #[.val (.long p0), .second, .val (.int p1), .val (.int p2), .val (.long v), .second, .val (.int a3), .val (.ref r), .val (.int (a3 + (Int32.ofNat d))), .val (.int (Int32.ofNat d))] [(.int (8 : Int32)), (.int (Int32.ofNat d)), (.int a3), (.ref r), (.long v)])) rfl (by rw [hml]; rfl) (argsL := [(.long v), (.ref r), (.int a3), (.int (Int32.ofNat d)), (.int (8 : Int32))]) (rest := []) (lenOf pd_3 rfl) rfl (by show 2 * 0 + _ ≤ _; exact Nat.le_of_eq rfl) (hb hby at_185) (fun _ _ => ⟨rfl, rfl, (by decide : 9 + 1 ≤ _), (by decide : 176 + 19 ≤ _)⟩)
  dsimp only [Pt.U, Pt.locs, Pt.cells, Pt.slots] at X26 l26 y26 z26 st26 hQ26
  rw [y26, z26] at X26
  have X26 : Stand p l e room_1 s m #[(.long p0), (.int p1), (.int p2)] below meth c T26 L26 10 195 := X26
  obtain ⟨rfl, Nq26, K26⟩ := hQ26
  have N26 : Fr n0 L26 := by rw [l26]; exact Fr.app N24 Nq26
  clear l26 y26 z26
  have Sz26 := Nat.le_trans Sz24 K26.1
  have V_r := V_r.keep K26 nin0
  have R27 : ∀ zt, Steps p.tables e below (T26.setTop (mkF m 201 #[.val (.long p0), .second, .val (.int p1), .val (.int p2), .val (.long v), .second, .val (.int a3), .val (.ref r), .val (.int (a3 + (Int32.ofNat d))), .val (.int (Int32.ofNat d))] [(.int (9 : Int32)), (.int (Int32.ofNat d)), (.int a3), (.ref r), (.long v)])) zt → Steps p.tables e below (s₁.setTop (entryFrame m #[(.long p0), (.int p1), (.int p2)] maxLocals)) zt := by
    intro zt zk
    refine R25 zt ?_
    show Steps p.tables e below (T24.setTop (mkF m 185 #[.val (.long p0), .second, .val (.int p1), .val (.int p2), .val (.long v), .second, .val (.int a3), .val (.ref r), .val (.int (a3 + (Int32.ofNat d))), .val (.int (Int32.ofNat d))] [(.int (8 : Int32)), (.int (Int32.ofNat d)), (.int a3), (.ref r), (.long v)])) _
    refine st26 _ ?_
    show Steps p.tables e below (T26.setTop (mkF m 188 #[.val (.long p0), .second, .val (.int p1), .val (.int p2), .val (.long v), .second, .val (.int a3), .val (.ref r), .val (.int (a3 + (Int32.ofNat d))), .val (.int (Int32.ofNat d))] [(.int (1 : Int32))])) _
    refine XS.ifNo X26.here hx rfl (hb hby at_188) rfl ((if0 _ _).trans (feq (by decide)).1) ?_
    show Steps p.tables e below (T26.setTop (mkF m 191 #[.val (.long p0), .second, .val (.int p1), .val (.int p2), .val (.long v), .second, .val (.int a3), .val (.ref r), .val (.int (a3 + (Int32.ofNat d))), .val (.int (Int32.ofNat d))] [])) _
    refine XS.lload X26.here hx rfl (hb hby at_191) rfl ?_
    show Steps p.tables e below (T26.setTop (mkF m 193 #[.val (.long p0), .second, .val (.int p1), .val (.int p2), .val (.long v), .second, .val (.int a3), .val (.ref r), .val (.int (a3 + (Int32.ofNat d))), .val (.int (Int32.ofNat d))] [(.long v)])) _
    refine XS.aload X26.here hx rfl (hb hby at_193) rfl rfl ?_
    show Steps p.tables e below (T26.setTop (mkF m 195 #[.val (.long p0), .second, .val (.int p1), .val (.int p2), .val (.long v), .second, .val (.int a3), .val (.ref r), .val (.int (a3 + (Int32.ofNat d))), .val (.int (Int32.ofNat d))] [(.ref r), (.long v)])) _
    refine XS.iload X26.here hx rfl (hb hby at_195) rfl ?_
    show Steps p.tables e below (T26.setTop (mkF m 197 #[.val (.long p0), .second, .val (.int p1), .val (.int p2), .val (.long v), .second, .val (.int a3), .val (.ref r), .val (.int (a3 + (Int32.ofNat d))), .val (.int (Int32.ofNat d))] [(.int a3), (.ref r), (.long v)])) _
    refine XS.iload X26.here hx rfl (hb hby at_197) rfl ?_
    show Steps p.tables e below (T26.setTop (mkF m 199 #[.val (.long p0), .second, .val (.int p1), .val (.int p2), .val (.long v), .second, .val (.int a3), .val (.ref r), .val (.int (a3 + (Int32.ofNat d))), .val (.int (Int32.ofNat d))] [(.int (Int32.ofNat d)), (.int a3), (.ref r), (.long v)])) _
    refine XS.bipush X26.here hx rfl (hb hby at_199) ?_
    exact zk
  obtain ⟨_, _, ⟨T28, L28, k28, n28⟩, -, X28, ⟨Lc28, hQ28, l28, y28, z28⟩, st28⟩ := Jvm.LawKit.callS X26 hx (y := (⟨"com/example/reset/reset/DecimalWriteWholePinLaw", "place", "(J[CIII)Z"⟩ : MethodName)) hown (mvT hZ (hw _ (List.mem_of_getElem? (i := 30) rfl))) (mvT hZ (hw _ (List.mem_of_getElem? (i := 31) rfl))) (mvT hZ (hw _ (List.mem_of_getElem? (i := 10) rfl))) (mvT hZ (hw _ (List.mem_of_getElem? (i := 32) rfl))) (by decide) (backOf (W := 0) (rm3 l Z a0 hw [] v r a3 (Int32.ofNat d) (9 : Int32) V d A k4 9 T26.heap n0 Sz26 hv hD hA hA3 hnn rfl (by decide) V_r) hZ (hw _ (List.mem_of_getElem? (i := 32) rfl)) (hw _ (List.mem_of_getElem? (i := 10) rfl)) (by decide) (by decide)) (g := (mkF m 201 #[.val (.long p0), .second, .val (.int p1), .val (.int p2), .val (.long v), .second, .val (.int a3), .val (.ref r), .val (.int (a3 + (Int32.ofNat d))), .val (.int (Int32.ofNat d))] [(.int (9 : Int32)), (.int (Int32.ofNat d)), (.int a3), (.ref r), (.long v)])) rfl (by rw [hml]; rfl) (argsL := [(.long v), (.ref r), (.int a3), (.int (Int32.ofNat d)), (.int (9 : Int32))]) (rest := []) (lenOf pd_3 rfl) rfl (by show 2 * 0 + _ ≤ _; exact Nat.le_of_eq rfl) (hb hby at_201) (fun _ _ => ⟨rfl, rfl, (by decide : 10 + 1 ≤ _), (by decide : 195 + 19 ≤ _)⟩)
  dsimp only [Pt.U, Pt.locs, Pt.cells, Pt.slots] at X28 l28 y28 z28 st28 hQ28
  rw [y28, z28] at X28
  have X28 : Stand p l e room_1 s m #[(.long p0), (.int p1), (.int p2)] below meth c T28 L28 11 214 := X28
  obtain ⟨rfl, Nq28, K28⟩ := hQ28
  have N28 : Fr n0 L28 := by rw [l28]; exact Fr.app N26 Nq28
  clear l28 y28 z28
  have Sz28 := Nat.le_trans Sz26 K28.1
  have V_r := V_r.keep K28 nin0
  have R29 : ∀ zt, Steps p.tables e below (T28.setTop (mkF m 217 #[.val (.long p0), .second, .val (.int p1), .val (.int p2), .val (.long v), .second, .val (.int a3), .val (.ref r), .val (.int (a3 + (Int32.ofNat d))), .val (.int (Int32.ofNat d))] [(.int (10 : Int32)), (.int (Int32.ofNat d)), (.int a3), (.ref r), (.long v)])) zt → Steps p.tables e below (s₁.setTop (entryFrame m #[(.long p0), (.int p1), (.int p2)] maxLocals)) zt := by
    intro zt zk
    refine R27 zt ?_
    show Steps p.tables e below (T26.setTop (mkF m 201 #[.val (.long p0), .second, .val (.int p1), .val (.int p2), .val (.long v), .second, .val (.int a3), .val (.ref r), .val (.int (a3 + (Int32.ofNat d))), .val (.int (Int32.ofNat d))] [(.int (9 : Int32)), (.int (Int32.ofNat d)), (.int a3), (.ref r), (.long v)])) _
    refine st28 _ ?_
    show Steps p.tables e below (T28.setTop (mkF m 204 #[.val (.long p0), .second, .val (.int p1), .val (.int p2), .val (.long v), .second, .val (.int a3), .val (.ref r), .val (.int (a3 + (Int32.ofNat d))), .val (.int (Int32.ofNat d))] [(.int (1 : Int32))])) _
    refine XS.ifNo X28.here hx rfl (hb hby at_204) rfl ((if0 _ _).trans (feq (by decide)).1) ?_
    show Steps p.tables e below (T28.setTop (mkF m 207 #[.val (.long p0), .second, .val (.int p1), .val (.int p2), .val (.long v), .second, .val (.int a3), .val (.ref r), .val (.int (a3 + (Int32.ofNat d))), .val (.int (Int32.ofNat d))] [])) _
    refine XS.lload X28.here hx rfl (hb hby at_207) rfl ?_
    show Steps p.tables e below (T28.setTop (mkF m 209 #[.val (.long p0), .second, .val (.int p1), .val (.int p2), .val (.long v), .second, .val (.int a3), .val (.ref r), .val (.int (a3 + (Int32.ofNat d))), .val (.int (Int32.ofNat d))] [(.long v)])) _
    refine XS.aload X28.here hx rfl (hb hby at_209) rfl rfl ?_
    show Steps p.tables e below (T28.setTop (mkF m 211 #[.val (.long p0), .second, .val (.int p1), .val (.int p2), .val (.long v), .second, .val (.int a3), .val (.ref r), .val (.int (a3 + (Int32.ofNat d))), .val (.int (Int32.ofNat d))] [(.ref r), (.long v)])) _
    refine XS.iload X28.here hx rfl (hb hby at_211) rfl ?_
    show Steps p.tables e below (T28.setTop (mkF m 213 #[.val (.long p0), .second, .val (.int p1), .val (.int p2), .val (.long v), .second, .val (.int a3), .val (.ref r), .val (.int (a3 + (Int32.ofNat d))), .val (.int (Int32.ofNat d))] [(.int a3), (.ref r), (.long v)])) _
    refine XS.iload X28.here hx rfl (hb hby at_213) rfl ?_
    show Steps p.tables e below (T28.setTop (mkF m 215 #[.val (.long p0), .second, .val (.int p1), .val (.int p2), .val (.long v), .second, .val (.int a3), .val (.ref r), .val (.int (a3 + (Int32.ofNat d))), .val (.int (Int32.ofNat d))] [(.int (Int32.ofNat d)), (.int a3), (.ref r), (.long v)])) _
    refine XS.bipush X28.here hx rfl (hb hby at_215) ?_
    exact zk
  obtain ⟨_, _, ⟨T30, L30, k30, n30⟩, -, X30, ⟨Lc30, hQ30, l30, y30, z30⟩, st30⟩ := Jvm.LawKit.callS X28 hx (y := (⟨"com/example/reset/reset/DecimalWriteWholePinLaw", "place", "(J[CIII)Z"⟩ : MethodName)) hown (mvT hZ (hw _ (List.mem_of_getElem? (i := 30) rfl))) (mvT hZ (hw _ (List.mem_of_getElem? (i := 31) rfl))) (mvT hZ (hw _ (List.mem_of_getElem? (i := 10) rfl))) (mvT hZ (hw _ (List.mem_of_getElem? (i := 32) rfl))) (by decide) (backOf (W := 0) (rm3 l Z a0 hw [] v r a3 (Int32.ofNat d) (10 : Int32) V d A k4 10 T28.heap n0 Sz28 hv hD hA hA3 hnn rfl (by decide) V_r) hZ (hw _ (List.mem_of_getElem? (i := 32) rfl)) (hw _ (List.mem_of_getElem? (i := 10) rfl)) (by decide) (by decide)) (g := (mkF m 217 #[.val (.long p0), .second, .val (.int p1), .val (.int p2), .val (.long v), .second, .val (.int a3), .val (.ref r), .val (.int (a3 + (Int32.ofNat d))), .val (.int (Int32.ofNat d))] [(.int (10 : Int32)), (.int (Int32.ofNat d)), (.int a3), (.ref r), (.long v)])) rfl (by rw [hml]; rfl) (argsL := [(.long v), (.ref r), (.int a3), (.int (Int32.ofNat d)), (.int (10 : Int32))]) (rest := []) (lenOf pd_3 rfl) rfl (by show 2 * 0 + _ ≤ _; exact Nat.le_of_eq rfl) (hb hby at_217) (fun _ _ => ⟨rfl, rfl, (by decide : 11 + 1 ≤ _), (by decide : 214 + 19 ≤ _)⟩)
  dsimp only [Pt.U, Pt.locs, Pt.cells, Pt.slots] at X30 l30 y30 z30 st30 hQ30
  rw [y30, z30] at X30
  have X30 : Stand p l e room_1 s m #[(.long p0), (.int p1), (.int p2)] below meth c T30 L30 12 233 := X30
  obtain ⟨rfl, Nq30, K30⟩ := hQ30
  have N30 : Fr n0 L30 := by rw [l30]; exact Fr.app N28 Nq30
  clear l30 y30 z30
  have Sz30 := Nat.le_trans Sz28 K30.1
  have V_r := V_r.keep K30 nin0
  have R31 : ∀ zt, Steps p.tables e below (T30.setTop (mkF m 233 #[.val (.long p0), .second, .val (.int p1), .val (.int p2), .val (.long v), .second, .val (.int a3), .val (.ref r), .val (.int (a3 + (Int32.ofNat d))), .val (.int (Int32.ofNat d))] [(.int (11 : Int32)), (.int (Int32.ofNat d)), (.int a3), (.ref r), (.long v)])) zt → Steps p.tables e below (s₁.setTop (entryFrame m #[(.long p0), (.int p1), (.int p2)] maxLocals)) zt := by
    intro zt zk
    refine R29 zt ?_
    show Steps p.tables e below (T28.setTop (mkF m 217 #[.val (.long p0), .second, .val (.int p1), .val (.int p2), .val (.long v), .second, .val (.int a3), .val (.ref r), .val (.int (a3 + (Int32.ofNat d))), .val (.int (Int32.ofNat d))] [(.int (10 : Int32)), (.int (Int32.ofNat d)), (.int a3), (.ref r), (.long v)])) _
    refine st30 _ ?_
    show Steps p.tables e below (T30.setTop (mkF m 220 #[.val (.long p0), .second, .val (.int p1), .val (.int p2), .val (.long v), .second, .val (.int a3), .val (.ref r), .val (.int (a3 + (Int32.ofNat d))), .val (.int (Int32.ofNat d))] [(.int (1 : Int32))])) _
    refine XS.ifNo X30.here hx rfl (hb hby at_220) rfl ((if0 _ _).trans (feq (by decide)).1) ?_
    show Steps p.tables e below (T30.setTop (mkF m 223 #[.val (.long p0), .second, .val (.int p1), .val (.int p2), .val (.long v), .second, .val (.int a3), .val (.ref r), .val (.int (a3 + (Int32.ofNat d))), .val (.int (Int32.ofNat d))] [])) _
    refine XS.lload X30.here hx rfl (hb hby at_223) rfl ?_
    show Steps p.tables e below (T30.setTop (mkF m 225 #[.val (.long p0), .second, .val (.int p1), .val (.int p2), .val (.long v), .second, .val (.int a3), .val (.ref r), .val (.int (a3 + (Int32.ofNat d))), .val (.int (Int32.ofNat d))] [(.long v)])) _
    refine XS.aload X30.here hx rfl (hb hby at_225) rfl rfl ?_
    show Steps p.tables e below (T30.setTop (mkF m 227 #[.val (.long p0), .second, .val (.int p1), .val (.int p2), .val (.long v), .second, .val (.int a3), .val (.ref r), .val (.int (a3 + (Int32.ofNat d))), .val (.int (Int32.ofNat d))] [(.ref r), (.long v)])) _
    refine XS.iload X30.here hx rfl (hb hby at_227) rfl ?_
    show Steps p.tables e below (T30.setTop (mkF m 229 #[.val (.long p0), .second, .val (.int p1), .val (.int p2), .val (.long v), .second, .val (.int a3), .val (.ref r), .val (.int (a3 + (Int32.ofNat d))), .val (.int (Int32.ofNat d))] [(.int a3), (.ref r), (.long v)])) _
    refine XS.iload X30.here hx rfl (hb hby at_229) rfl ?_
    show Steps p.tables e below (T30.setTop (mkF m 231 #[.val (.long p0), .second, .val (.int p1), .val (.int p2), .val (.long v), .second, .val (.int a3), .val (.ref r), .val (.int (a3 + (Int32.ofNat d))), .val (.int (Int32.ofNat d))] [(.int (Int32.ofNat d)), (.int a3), (.ref r), (.long v)])) _
    refine XS.bipush X30.here hx rfl (hb hby at_231) ?_
    exact zk
  obtain ⟨_, _, ⟨T32, L32, k32, n32⟩, -, X32, ⟨Lc32, hQ32, l32, y32, z32⟩, st32⟩ := Jvm.LawKit.callS X30 hx (y := (⟨"com/example/reset/reset/DecimalWriteWholePinLaw", "place", "(J[CIII)Z"⟩ : MethodName)) hown (mvT hZ (hw _ (List.mem_of_getElem? (i := 30) rfl))) (mvT hZ (hw _ (List.mem_of_getElem? (i := 31) rfl))) (mvT hZ (hw _ (List.mem_of_getElem? (i := 10) rfl))) (mvT hZ (hw _ (List.mem_of_getElem? (i := 32) rfl))) (by decide) (backOf (W := 0) (rm3 l Z a0 hw [] v r a3 (Int32.ofNat d) (11 : Int32) V d A k4 11 T30.heap n0 Sz30 hv hD hA hA3 hnn rfl (by decide) V_r) hZ (hw _ (List.mem_of_getElem? (i := 32) rfl)) (hw _ (List.mem_of_getElem? (i := 10) rfl)) (by decide) (by decide)) (g := (mkF m 233 #[.val (.long p0), .second, .val (.int p1), .val (.int p2), .val (.long v), .second, .val (.int a3), .val (.ref r), .val (.int (a3 + (Int32.ofNat d))), .val (.int (Int32.ofNat d))] [(.int (11 : Int32)), (.int (Int32.ofNat d)), (.int a3), (.ref r), (.long v)])) rfl (by rw [hml]; rfl) (argsL := [(.long v), (.ref r), (.int a3), (.int (Int32.ofNat d)), (.int (11 : Int32))]) (rest := []) (lenOf pd_3 rfl) rfl (by show 2 * 0 + _ ≤ _; exact Nat.le_of_eq rfl) (hb hby at_233) (fun _ _ => ⟨rfl, rfl, (by decide : 12 + 1 ≤ _), (by decide : 233 + 19 ≤ _)⟩)
  dsimp only [Pt.U, Pt.locs, Pt.cells, Pt.slots] at X32 l32 y32 z32 st32 hQ32
  rw [y32, z32] at X32
  have X32 : Stand p l e room_1 s m #[(.long p0), (.int p1), (.int p2)] below meth c T32 L32 13 252 := X32
  obtain ⟨rfl, Nq32, K32⟩ := hQ32
  have N32 : Fr n0 L32 := by rw [l32]; exact Fr.app N30 Nq32
  clear l32 y32 z32
  have Sz32 := Nat.le_trans Sz30 K32.1
  have V_r := V_r.keep K32 nin0
  have R33 : ∀ zt, Steps p.tables e below (T32.setTop (mkF m 249 #[.val (.long p0), .second, .val (.int p1), .val (.int p2), .val (.long v), .second, .val (.int a3), .val (.ref r), .val (.int (a3 + (Int32.ofNat d))), .val (.int (Int32.ofNat d))] [(.int (12 : Int32)), (.int (Int32.ofNat d)), (.int a3), (.ref r), (.long v)])) zt → Steps p.tables e below (s₁.setTop (entryFrame m #[(.long p0), (.int p1), (.int p2)] maxLocals)) zt := by
    intro zt zk
    refine R31 zt ?_
    show Steps p.tables e below (T30.setTop (mkF m 233 #[.val (.long p0), .second, .val (.int p1), .val (.int p2), .val (.long v), .second, .val (.int a3), .val (.ref r), .val (.int (a3 + (Int32.ofNat d))), .val (.int (Int32.ofNat d))] [(.int (11 : Int32)), (.int (Int32.ofNat d)), (.int a3), (.ref r), (.long v)])) _
    refine st32 _ ?_
    show Steps p.tables e below (T32.setTop (mkF m 236 #[.val (.long p0), .second, .val (.int p1), .val (.int p2), .val (.long v), .second, .val (.int a3), .val (.ref r), .val (.int (a3 + (Int32.ofNat d))), .val (.int (Int32.ofNat d))] [(.int (1 : Int32))])) _
    refine XS.ifNo X32.here hx rfl (hb hby at_236) rfl ((if0 _ _).trans (feq (by decide)).1) ?_
    show Steps p.tables e below (T32.setTop (mkF m 239 #[.val (.long p0), .second, .val (.int p1), .val (.int p2), .val (.long v), .second, .val (.int a3), .val (.ref r), .val (.int (a3 + (Int32.ofNat d))), .val (.int (Int32.ofNat d))] [])) _
    refine XS.lload X32.here hx rfl (hb hby at_239) rfl ?_
    show Steps p.tables e below (T32.setTop (mkF m 241 #[.val (.long p0), .second, .val (.int p1), .val (.int p2), .val (.long v), .second, .val (.int a3), .val (.ref r), .val (.int (a3 + (Int32.ofNat d))), .val (.int (Int32.ofNat d))] [(.long v)])) _
    refine XS.aload X32.here hx rfl (hb hby at_241) rfl rfl ?_
    show Steps p.tables e below (T32.setTop (mkF m 243 #[.val (.long p0), .second, .val (.int p1), .val (.int p2), .val (.long v), .second, .val (.int a3), .val (.ref r), .val (.int (a3 + (Int32.ofNat d))), .val (.int (Int32.ofNat d))] [(.ref r), (.long v)])) _
    refine XS.iload X32.here hx rfl (hb hby at_243) rfl ?_
    show Steps p.tables e below (T32.setTop (mkF m 245 #[.val (.long p0), .second, .val (.int p1), .val (.int p2), .val (.long v), .second, .val (.int a3), .val (.ref r), .val (.int (a3 + (Int32.ofNat d))), .val (.int (Int32.ofNat d))] [(.int a3), (.ref r), (.long v)])) _
    refine XS.iload X32.here hx rfl (hb hby at_245) rfl ?_
    show Steps p.tables e below (T32.setTop (mkF m 247 #[.val (.long p0), .second, .val (.int p1), .val (.int p2), .val (.long v), .second, .val (.int a3), .val (.ref r), .val (.int (a3 + (Int32.ofNat d))), .val (.int (Int32.ofNat d))] [(.int (Int32.ofNat d)), (.int a3), (.ref r), (.long v)])) _
    refine XS.bipush X32.here hx rfl (hb hby at_247) ?_
    exact zk
  obtain ⟨_, _, ⟨T34, L34, k34, n34⟩, -, X34, ⟨Lc34, hQ34, l34, y34, z34⟩, st34⟩ := Jvm.LawKit.callS X32 hx (y := (⟨"com/example/reset/reset/DecimalWriteWholePinLaw", "place", "(J[CIII)Z"⟩ : MethodName)) hown (mvT hZ (hw _ (List.mem_of_getElem? (i := 30) rfl))) (mvT hZ (hw _ (List.mem_of_getElem? (i := 31) rfl))) (mvT hZ (hw _ (List.mem_of_getElem? (i := 10) rfl))) (mvT hZ (hw _ (List.mem_of_getElem? (i := 32) rfl))) (by decide) (backOf (W := 0) (rm3 l Z a0 hw [] v r a3 (Int32.ofNat d) (12 : Int32) V d A k4 12 T32.heap n0 Sz32 hv hD hA hA3 hnn rfl (by decide) V_r) hZ (hw _ (List.mem_of_getElem? (i := 32) rfl)) (hw _ (List.mem_of_getElem? (i := 10) rfl)) (by decide) (by decide)) (g := (mkF m 249 #[.val (.long p0), .second, .val (.int p1), .val (.int p2), .val (.long v), .second, .val (.int a3), .val (.ref r), .val (.int (a3 + (Int32.ofNat d))), .val (.int (Int32.ofNat d))] [(.int (12 : Int32)), (.int (Int32.ofNat d)), (.int a3), (.ref r), (.long v)])) rfl (by rw [hml]; rfl) (argsL := [(.long v), (.ref r), (.int a3), (.int (Int32.ofNat d)), (.int (12 : Int32))]) (rest := []) (lenOf pd_3 rfl) rfl (by show 2 * 0 + _ ≤ _; exact Nat.le_of_eq rfl) (hb hby at_249) (fun _ _ => ⟨rfl, rfl, (by decide : 13 + 1 ≤ _), (by decide : 252 + 19 ≤ _)⟩)
  dsimp only [Pt.U, Pt.locs, Pt.cells, Pt.slots] at X34 l34 y34 z34 st34 hQ34
  rw [y34, z34] at X34
  have X34 : Stand p l e room_1 s m #[(.long p0), (.int p1), (.int p2)] below meth c T34 L34 14 271 := X34
  obtain ⟨rfl, Nq34, K34⟩ := hQ34
  have N34 : Fr n0 L34 := by rw [l34]; exact Fr.app N32 Nq34
  clear l34 y34 z34
  have Sz34 := Nat.le_trans Sz32 K34.1
  have V_r := V_r.keep K34 nin0
  have R35 : ∀ zt, Steps p.tables e below (T34.setTop (mkF m 265 #[.val (.long p0), .second, .val (.int p1), .val (.int p2), .val (.long v), .second, .val (.int a3), .val (.ref r), .val (.int (a3 + (Int32.ofNat d))), .val (.int (Int32.ofNat d))] [(.int (13 : Int32)), (.int (Int32.ofNat d)), (.int a3), (.ref r), (.long v)])) zt → Steps p.tables e below (s₁.setTop (entryFrame m #[(.long p0), (.int p1), (.int p2)] maxLocals)) zt := by
    intro zt zk
    refine R33 zt ?_
    show Steps p.tables e below (T32.setTop (mkF m 249 #[.val (.long p0), .second, .val (.int p1), .val (.int p2), .val (.long v), .second, .val (.int a3), .val (.ref r), .val (.int (a3 + (Int32.ofNat d))), .val (.int (Int32.ofNat d))] [(.int (12 : Int32)), (.int (Int32.ofNat d)), (.int a3), (.ref r), (.long v)])) _
    refine st34 _ ?_
    show Steps p.tables e below (T34.setTop (mkF m 252 #[.val (.long p0), .second, .val (.int p1), .val (.int p2), .val (.long v), .second, .val (.int a3), .val (.ref r), .val (.int (a3 + (Int32.ofNat d))), .val (.int (Int32.ofNat d))] [(.int (1 : Int32))])) _
    refine XS.ifNo X34.here hx rfl (hb hby at_252) rfl ((if0 _ _).trans (feq (by decide)).1) ?_
    show Steps p.tables e below (T34.setTop (mkF m 255 #[.val (.long p0), .second, .val (.int p1), .val (.int p2), .val (.long v), .second, .val (.int a3), .val (.ref r), .val (.int (a3 + (Int32.ofNat d))), .val (.int (Int32.ofNat d))] [])) _
    refine XS.lload X34.here hx rfl (hb hby at_255) rfl ?_
    show Steps p.tables e below (T34.setTop (mkF m 257 #[.val (.long p0), .second, .val (.int p1), .val (.int p2), .val (.long v), .second, .val (.int a3), .val (.ref r), .val (.int (a3 + (Int32.ofNat d))), .val (.int (Int32.ofNat d))] [(.long v)])) _
    refine XS.aload X34.here hx rfl (hb hby at_257) rfl rfl ?_
    show Steps p.tables e below (T34.setTop (mkF m 259 #[.val (.long p0), .second, .val (.int p1), .val (.int p2), .val (.long v), .second, .val (.int a3), .val (.ref r), .val (.int (a3 + (Int32.ofNat d))), .val (.int (Int32.ofNat d))] [(.ref r), (.long v)])) _
    refine XS.iload X34.here hx rfl (hb hby at_259) rfl ?_
    show Steps p.tables e below (T34.setTop (mkF m 261 #[.val (.long p0), .second, .val (.int p1), .val (.int p2), .val (.long v), .second, .val (.int a3), .val (.ref r), .val (.int (a3 + (Int32.ofNat d))), .val (.int (Int32.ofNat d))] [(.int a3), (.ref r), (.long v)])) _
    refine XS.iload X34.here hx rfl (hb hby at_261) rfl ?_
    show Steps p.tables e below (T34.setTop (mkF m 263 #[.val (.long p0), .second, .val (.int p1), .val (.int p2), .val (.long v), .second, .val (.int a3), .val (.ref r), .val (.int (a3 + (Int32.ofNat d))), .val (.int (Int32.ofNat d))] [(.int (Int32.ofNat d)), (.int a3), (.ref r), (.long v)])) _
    refine XS.bipush X34.here hx rfl (hb hby at_263) ?_
    exact zk
  obtain ⟨_, _, ⟨T36, L36, k36, n36⟩, -, X36, ⟨Lc36, hQ36, l36, y36, z36⟩, st36⟩ := Jvm.LawKit.callS X34 hx (y := (⟨"com/example/reset/reset/DecimalWriteWholePinLaw", "place", "(J[CIII)Z"⟩ : MethodName)) hown (mvT hZ (hw _ (List.mem_of_getElem? (i := 30) rfl))) (mvT hZ (hw _ (List.mem_of_getElem? (i := 31) rfl))) (mvT hZ (hw _ (List.mem_of_getElem? (i := 10) rfl))) (mvT hZ (hw _ (List.mem_of_getElem? (i := 32) rfl))) (by decide) (backOf (W := 0) (rm3 l Z a0 hw [] v r a3 (Int32.ofNat d) (13 : Int32) V d A k4 13 T34.heap n0 Sz34 hv hD hA hA3 hnn rfl (by decide) V_r) hZ (hw _ (List.mem_of_getElem? (i := 32) rfl)) (hw _ (List.mem_of_getElem? (i := 10) rfl)) (by decide) (by decide)) (g := (mkF m 265 #[.val (.long p0), .second, .val (.int p1), .val (.int p2), .val (.long v), .second, .val (.int a3), .val (.ref r), .val (.int (a3 + (Int32.ofNat d))), .val (.int (Int32.ofNat d))] [(.int (13 : Int32)), (.int (Int32.ofNat d)), (.int a3), (.ref r), (.long v)])) rfl (by rw [hml]; rfl) (argsL := [(.long v), (.ref r), (.int a3), (.int (Int32.ofNat d)), (.int (13 : Int32))]) (rest := []) (lenOf pd_3 rfl) rfl (by show 2 * 0 + _ ≤ _; exact Nat.le_of_eq rfl) (hb hby at_265) (fun _ _ => ⟨rfl, rfl, (by decide : 14 + 1 ≤ _), (by decide : 271 + 19 ≤ _)⟩)
  dsimp only [Pt.U, Pt.locs, Pt.cells, Pt.slots] at X36 l36 y36 z36 st36 hQ36
  rw [y36, z36] at X36
  have X36 : Stand p l e room_1 s m #[(.long p0), (.int p1), (.int p2)] below meth c T36 L36 15 290 := X36
  obtain ⟨rfl, Nq36, K36⟩ := hQ36
  have N36 : Fr n0 L36 := by rw [l36]; exact Fr.app N34 Nq36
  clear l36 y36 z36
  have Sz36 := Nat.le_trans Sz34 K36.1
  have V_r := V_r.keep K36 nin0
  have R37 : ∀ zt, Steps p.tables e below (T36.setTop (mkF m 281 #[.val (.long p0), .second, .val (.int p1), .val (.int p2), .val (.long v), .second, .val (.int a3), .val (.ref r), .val (.int (a3 + (Int32.ofNat d))), .val (.int (Int32.ofNat d))] [(.int (14 : Int32)), (.int (Int32.ofNat d)), (.int a3), (.ref r), (.long v)])) zt → Steps p.tables e below (s₁.setTop (entryFrame m #[(.long p0), (.int p1), (.int p2)] maxLocals)) zt := by
    intro zt zk
    refine R35 zt ?_
    show Steps p.tables e below (T34.setTop (mkF m 265 #[.val (.long p0), .second, .val (.int p1), .val (.int p2), .val (.long v), .second, .val (.int a3), .val (.ref r), .val (.int (a3 + (Int32.ofNat d))), .val (.int (Int32.ofNat d))] [(.int (13 : Int32)), (.int (Int32.ofNat d)), (.int a3), (.ref r), (.long v)])) _
    refine st36 _ ?_
    show Steps p.tables e below (T36.setTop (mkF m 268 #[.val (.long p0), .second, .val (.int p1), .val (.int p2), .val (.long v), .second, .val (.int a3), .val (.ref r), .val (.int (a3 + (Int32.ofNat d))), .val (.int (Int32.ofNat d))] [(.int (1 : Int32))])) _
    refine XS.ifNo X36.here hx rfl (hb hby at_268) rfl ((if0 _ _).trans (feq (by decide)).1) ?_
    show Steps p.tables e below (T36.setTop (mkF m 271 #[.val (.long p0), .second, .val (.int p1), .val (.int p2), .val (.long v), .second, .val (.int a3), .val (.ref r), .val (.int (a3 + (Int32.ofNat d))), .val (.int (Int32.ofNat d))] [])) _
    refine XS.lload X36.here hx rfl (hb hby at_271) rfl ?_
    show Steps p.tables e below (T36.setTop (mkF m 273 #[.val (.long p0), .second, .val (.int p1), .val (.int p2), .val (.long v), .second, .val (.int a3), .val (.ref r), .val (.int (a3 + (Int32.ofNat d))), .val (.int (Int32.ofNat d))] [(.long v)])) _
    refine XS.aload X36.here hx rfl (hb hby at_273) rfl rfl ?_
    show Steps p.tables e below (T36.setTop (mkF m 275 #[.val (.long p0), .second, .val (.int p1), .val (.int p2), .val (.long v), .second, .val (.int a3), .val (.ref r), .val (.int (a3 + (Int32.ofNat d))), .val (.int (Int32.ofNat d))] [(.ref r), (.long v)])) _
    refine XS.iload X36.here hx rfl (hb hby at_275) rfl ?_
    show Steps p.tables e below (T36.setTop (mkF m 277 #[.val (.long p0), .second, .val (.int p1), .val (.int p2), .val (.long v), .second, .val (.int a3), .val (.ref r), .val (.int (a3 + (Int32.ofNat d))), .val (.int (Int32.ofNat d))] [(.int a3), (.ref r), (.long v)])) _
    refine XS.iload X36.here hx rfl (hb hby at_277) rfl ?_
    show Steps p.tables e below (T36.setTop (mkF m 279 #[.val (.long p0), .second, .val (.int p1), .val (.int p2), .val (.long v), .second, .val (.int a3), .val (.ref r), .val (.int (a3 + (Int32.ofNat d))), .val (.int (Int32.ofNat d))] [(.int (Int32.ofNat d)), (.int a3), (.ref r), (.long v)])) _
    refine XS.bipush X36.here hx rfl (hb hby at_279) ?_
    exact zk
  obtain ⟨_, _, ⟨T38, L38, k38, n38⟩, -, X38, ⟨Lc38, hQ38, l38, y38, z38⟩, st38⟩ := Jvm.LawKit.callS X36 hx (y := (⟨"com/example/reset/reset/DecimalWriteWholePinLaw", "place", "(J[CIII)Z"⟩ : MethodName)) hown (mvT hZ (hw _ (List.mem_of_getElem? (i := 30) rfl))) (mvT hZ (hw _ (List.mem_of_getElem? (i := 31) rfl))) (mvT hZ (hw _ (List.mem_of_getElem? (i := 10) rfl))) (mvT hZ (hw _ (List.mem_of_getElem? (i := 32) rfl))) (by decide) (backOf (W := 0) (rm3 l Z a0 hw [] v r a3 (Int32.ofNat d) (14 : Int32) V d A k4 14 T36.heap n0 Sz36 hv hD hA hA3 hnn rfl (by decide) V_r) hZ (hw _ (List.mem_of_getElem? (i := 32) rfl)) (hw _ (List.mem_of_getElem? (i := 10) rfl)) (by decide) (by decide)) (g := (mkF m 281 #[.val (.long p0), .second, .val (.int p1), .val (.int p2), .val (.long v), .second, .val (.int a3), .val (.ref r), .val (.int (a3 + (Int32.ofNat d))), .val (.int (Int32.ofNat d))] [(.int (14 : Int32)), (.int (Int32.ofNat d)), (.int a3), (.ref r), (.long v)])) rfl (by rw [hml]; rfl) (argsL := [(.long v), (.ref r), (.int a3), (.int (Int32.ofNat d)), (.int (14 : Int32))]) (rest := []) (lenOf pd_3 rfl) rfl (by show 2 * 0 + _ ≤ _; exact Nat.le_of_eq rfl) (hb hby at_281) (fun _ _ => ⟨rfl, rfl, (by decide : 15 + 1 ≤ _), (by decide : 290 + 19 ≤ _)⟩)
  dsimp only [Pt.U, Pt.locs, Pt.cells, Pt.slots] at X38 l38 y38 z38 st38 hQ38
  rw [y38, z38] at X38
  have X38 : Stand p l e room_1 s m #[(.long p0), (.int p1), (.int p2)] below meth c T38 L38 16 309 := X38
  obtain ⟨rfl, Nq38, K38⟩ := hQ38
  have N38 : Fr n0 L38 := by rw [l38]; exact Fr.app N36 Nq38
  clear l38 y38 z38
  have Sz38 := Nat.le_trans Sz36 K38.1
  have V_r := V_r.keep K38 nin0
  have R39 : ∀ zt, Steps p.tables e below (T38.setTop (mkF m 297 #[.val (.long p0), .second, .val (.int p1), .val (.int p2), .val (.long v), .second, .val (.int a3), .val (.ref r), .val (.int (a3 + (Int32.ofNat d))), .val (.int (Int32.ofNat d))] [(.int (15 : Int32)), (.int (Int32.ofNat d)), (.int a3), (.ref r), (.long v)])) zt → Steps p.tables e below (s₁.setTop (entryFrame m #[(.long p0), (.int p1), (.int p2)] maxLocals)) zt := by
    intro zt zk
    refine R37 zt ?_
    show Steps p.tables e below (T36.setTop (mkF m 281 #[.val (.long p0), .second, .val (.int p1), .val (.int p2), .val (.long v), .second, .val (.int a3), .val (.ref r), .val (.int (a3 + (Int32.ofNat d))), .val (.int (Int32.ofNat d))] [(.int (14 : Int32)), (.int (Int32.ofNat d)), (.int a3), (.ref r), (.long v)])) _
    refine st38 _ ?_
    show Steps p.tables e below (T38.setTop (mkF m 284 #[.val (.long p0), .second, .val (.int p1), .val (.int p2), .val (.long v), .second, .val (.int a3), .val (.ref r), .val (.int (a3 + (Int32.ofNat d))), .val (.int (Int32.ofNat d))] [(.int (1 : Int32))])) _
    refine XS.ifNo X38.here hx rfl (hb hby at_284) rfl ((if0 _ _).trans (feq (by decide)).1) ?_
    show Steps p.tables e below (T38.setTop (mkF m 287 #[.val (.long p0), .second, .val (.int p1), .val (.int p2), .val (.long v), .second, .val (.int a3), .val (.ref r), .val (.int (a3 + (Int32.ofNat d))), .val (.int (Int32.ofNat d))] [])) _
    refine XS.lload X38.here hx rfl (hb hby at_287) rfl ?_
    show Steps p.tables e below (T38.setTop (mkF m 289 #[.val (.long p0), .second, .val (.int p1), .val (.int p2), .val (.long v), .second, .val (.int a3), .val (.ref r), .val (.int (a3 + (Int32.ofNat d))), .val (.int (Int32.ofNat d))] [(.long v)])) _
    refine XS.aload X38.here hx rfl (hb hby at_289) rfl rfl ?_
    show Steps p.tables e below (T38.setTop (mkF m 291 #[.val (.long p0), .second, .val (.int p1), .val (.int p2), .val (.long v), .second, .val (.int a3), .val (.ref r), .val (.int (a3 + (Int32.ofNat d))), .val (.int (Int32.ofNat d))] [(.ref r), (.long v)])) _
    refine XS.iload X38.here hx rfl (hb hby at_291) rfl ?_
    show Steps p.tables e below (T38.setTop (mkF m 293 #[.val (.long p0), .second, .val (.int p1), .val (.int p2), .val (.long v), .second, .val (.int a3), .val (.ref r), .val (.int (a3 + (Int32.ofNat d))), .val (.int (Int32.ofNat d))] [(.int a3), (.ref r), (.long v)])) _
    refine XS.iload X38.here hx rfl (hb hby at_293) rfl ?_
    show Steps p.tables e below (T38.setTop (mkF m 295 #[.val (.long p0), .second, .val (.int p1), .val (.int p2), .val (.long v), .second, .val (.int a3), .val (.ref r), .val (.int (a3 + (Int32.ofNat d))), .val (.int (Int32.ofNat d))] [(.int (Int32.ofNat d)), (.int a3), (.ref r), (.long v)])) _
    refine XS.bipush X38.here hx rfl (hb hby at_295) ?_
    exact zk
  obtain ⟨_, _, ⟨T40, L40, k40, n40⟩, -, X40, ⟨Lc40, hQ40, l40, y40, z40⟩, st40⟩ := Jvm.LawKit.callS X38 hx (y := (⟨"com/example/reset/reset/DecimalWriteWholePinLaw", "place", "(J[CIII)Z"⟩ : MethodName)) hown (mvT hZ (hw _ (List.mem_of_getElem? (i := 30) rfl))) (mvT hZ (hw _ (List.mem_of_getElem? (i := 31) rfl))) (mvT hZ (hw _ (List.mem_of_getElem? (i := 10) rfl))) (mvT hZ (hw _ (List.mem_of_getElem? (i := 32) rfl))) (by decide) (backOf (W := 0) (rm3 l Z a0 hw [] v r a3 (Int32.ofNat d) (15 : Int32) V d A k4 15 T38.heap n0 Sz38 hv hD hA hA3 hnn rfl (by decide) V_r) hZ (hw _ (List.mem_of_getElem? (i := 32) rfl)) (hw _ (List.mem_of_getElem? (i := 10) rfl)) (by decide) (by decide)) (g := (mkF m 297 #[.val (.long p0), .second, .val (.int p1), .val (.int p2), .val (.long v), .second, .val (.int a3), .val (.ref r), .val (.int (a3 + (Int32.ofNat d))), .val (.int (Int32.ofNat d))] [(.int (15 : Int32)), (.int (Int32.ofNat d)), (.int a3), (.ref r), (.long v)])) rfl (by rw [hml]; rfl) (argsL := [(.long v), (.ref r), (.int a3), (.int (Int32.ofNat d)), (.int (15 : Int32))]) (rest := []) (lenOf pd_3 rfl) rfl (by show 2 * 0 + _ ≤ _; exact Nat.le_of_eq rfl) (hb hby at_297) (fun _ _ => ⟨rfl, rfl, (by decide : 16 + 1 ≤ _), (by decide : 309 + 19 ≤ _)⟩)
  dsimp only [Pt.U, Pt.locs, Pt.cells, Pt.slots] at X40 l40 y40 z40 st40 hQ40
  rw [y40, z40] at X40
  have X40 : Stand p l e room_1 s m #[(.long p0), (.int p1), (.int p2)] below meth c T40 L40 17 328 := X40
  obtain ⟨rfl, Nq40, K40⟩ := hQ40
  have N40 : Fr n0 L40 := by rw [l40]; exact Fr.app N38 Nq40
  clear l40 y40 z40
  have Sz40 := Nat.le_trans Sz38 K40.1
  have V_r := V_r.keep K40 nin0
  have R41 : ∀ zt, Steps p.tables e below (T40.setTop (mkF m 313 #[.val (.long p0), .second, .val (.int p1), .val (.int p2), .val (.long v), .second, .val (.int a3), .val (.ref r), .val (.int (a3 + (Int32.ofNat d))), .val (.int (Int32.ofNat d))] [(.int (16 : Int32)), (.int (Int32.ofNat d)), (.int a3), (.ref r), (.long v)])) zt → Steps p.tables e below (s₁.setTop (entryFrame m #[(.long p0), (.int p1), (.int p2)] maxLocals)) zt := by
    intro zt zk
    refine R39 zt ?_
    show Steps p.tables e below (T38.setTop (mkF m 297 #[.val (.long p0), .second, .val (.int p1), .val (.int p2), .val (.long v), .second, .val (.int a3), .val (.ref r), .val (.int (a3 + (Int32.ofNat d))), .val (.int (Int32.ofNat d))] [(.int (15 : Int32)), (.int (Int32.ofNat d)), (.int a3), (.ref r), (.long v)])) _
    refine st40 _ ?_
    show Steps p.tables e below (T40.setTop (mkF m 300 #[.val (.long p0), .second, .val (.int p1), .val (.int p2), .val (.long v), .second, .val (.int a3), .val (.ref r), .val (.int (a3 + (Int32.ofNat d))), .val (.int (Int32.ofNat d))] [(.int (1 : Int32))])) _
    refine XS.ifNo X40.here hx rfl (hb hby at_300) rfl ((if0 _ _).trans (feq (by decide)).1) ?_
    show Steps p.tables e below (T40.setTop (mkF m 303 #[.val (.long p0), .second, .val (.int p1), .val (.int p2), .val (.long v), .second, .val (.int a3), .val (.ref r), .val (.int (a3 + (Int32.ofNat d))), .val (.int (Int32.ofNat d))] [])) _
    refine XS.lload X40.here hx rfl (hb hby at_303) rfl ?_
    show Steps p.tables e below (T40.setTop (mkF m 305 #[.val (.long p0), .second, .val (.int p1), .val (.int p2), .val (.long v), .second, .val (.int a3), .val (.ref r), .val (.int (a3 + (Int32.ofNat d))), .val (.int (Int32.ofNat d))] [(.long v)])) _
    refine XS.aload X40.here hx rfl (hb hby at_305) rfl rfl ?_
    show Steps p.tables e below (T40.setTop (mkF m 307 #[.val (.long p0), .second, .val (.int p1), .val (.int p2), .val (.long v), .second, .val (.int a3), .val (.ref r), .val (.int (a3 + (Int32.ofNat d))), .val (.int (Int32.ofNat d))] [(.ref r), (.long v)])) _
    refine XS.iload X40.here hx rfl (hb hby at_307) rfl ?_
    show Steps p.tables e below (T40.setTop (mkF m 309 #[.val (.long p0), .second, .val (.int p1), .val (.int p2), .val (.long v), .second, .val (.int a3), .val (.ref r), .val (.int (a3 + (Int32.ofNat d))), .val (.int (Int32.ofNat d))] [(.int a3), (.ref r), (.long v)])) _
    refine XS.iload X40.here hx rfl (hb hby at_309) rfl ?_
    show Steps p.tables e below (T40.setTop (mkF m 311 #[.val (.long p0), .second, .val (.int p1), .val (.int p2), .val (.long v), .second, .val (.int a3), .val (.ref r), .val (.int (a3 + (Int32.ofNat d))), .val (.int (Int32.ofNat d))] [(.int (Int32.ofNat d)), (.int a3), (.ref r), (.long v)])) _
    refine XS.bipush X40.here hx rfl (hb hby at_311) ?_
    exact zk
  obtain ⟨_, _, ⟨T42, L42, k42, n42⟩, -, X42, ⟨Lc42, hQ42, l42, y42, z42⟩, st42⟩ := Jvm.LawKit.callS X40 hx (y := (⟨"com/example/reset/reset/DecimalWriteWholePinLaw", "place", "(J[CIII)Z"⟩ : MethodName)) hown (mvT hZ (hw _ (List.mem_of_getElem? (i := 30) rfl))) (mvT hZ (hw _ (List.mem_of_getElem? (i := 31) rfl))) (mvT hZ (hw _ (List.mem_of_getElem? (i := 10) rfl))) (mvT hZ (hw _ (List.mem_of_getElem? (i := 32) rfl))) (by decide) (backOf (W := 0) (rm3 l Z a0 hw [] v r a3 (Int32.ofNat d) (16 : Int32) V d A k4 16 T40.heap n0 Sz40 hv hD hA hA3 hnn rfl (by decide) V_r) hZ (hw _ (List.mem_of_getElem? (i := 32) rfl)) (hw _ (List.mem_of_getElem? (i := 10) rfl)) (by decide) (by decide)) (g := (mkF m 313 #[.val (.long p0), .second, .val (.int p1), .val (.int p2), .val (.long v), .second, .val (.int a3), .val (.ref r), .val (.int (a3 + (Int32.ofNat d))), .val (.int (Int32.ofNat d))] [(.int (16 : Int32)), (.int (Int32.ofNat d)), (.int a3), (.ref r), (.long v)])) rfl (by rw [hml]; rfl) (argsL := [(.long v), (.ref r), (.int a3), (.int (Int32.ofNat d)), (.int (16 : Int32))]) (rest := []) (lenOf pd_3 rfl) rfl (by show 2 * 0 + _ ≤ _; exact Nat.le_of_eq rfl) (hb hby at_313) (fun _ _ => ⟨rfl, rfl, (by decide : 17 + 1 ≤ _), (by decide : 328 + 19 ≤ _)⟩)
  dsimp only [Pt.U, Pt.locs, Pt.cells, Pt.slots] at X42 l42 y42 z42 st42 hQ42
  rw [y42, z42] at X42
  have X42 : Stand p l e room_1 s m #[(.long p0), (.int p1), (.int p2)] below meth c T42 L42 18 347 := X42
  obtain ⟨rfl, Nq42, K42⟩ := hQ42
  have N42 : Fr n0 L42 := by rw [l42]; exact Fr.app N40 Nq42
  clear l42 y42 z42
  have Sz42 := Nat.le_trans Sz40 K42.1
  have V_r := V_r.keep K42 nin0
  have R43 : ∀ zt, Steps p.tables e below (T42.setTop (mkF m 329 #[.val (.long p0), .second, .val (.int p1), .val (.int p2), .val (.long v), .second, .val (.int a3), .val (.ref r), .val (.int (a3 + (Int32.ofNat d))), .val (.int (Int32.ofNat d))] [(.int (17 : Int32)), (.int (Int32.ofNat d)), (.int a3), (.ref r), (.long v)])) zt → Steps p.tables e below (s₁.setTop (entryFrame m #[(.long p0), (.int p1), (.int p2)] maxLocals)) zt := by
    intro zt zk
    refine R41 zt ?_
    show Steps p.tables e below (T40.setTop (mkF m 313 #[.val (.long p0), .second, .val (.int p1), .val (.int p2), .val (.long v), .second, .val (.int a3), .val (.ref r), .val (.int (a3 + (Int32.ofNat d))), .val (.int (Int32.ofNat d))] [(.int (16 : Int32)), (.int (Int32.ofNat d)), (.int a3), (.ref r), (.long v)])) _
    refine st42 _ ?_
    show Steps p.tables e below (T42.setTop (mkF m 316 #[.val (.long p0), .second, .val (.int p1), .val (.int p2), .val (.long v), .second, .val (.int a3), .val (.ref r), .val (.int (a3 + (Int32.ofNat d))), .val (.int (Int32.ofNat d))] [(.int (1 : Int32))])) _
    refine XS.ifNo X42.here hx rfl (hb hby at_316) rfl ((if0 _ _).trans (feq (by decide)).1) ?_
    show Steps p.tables e below (T42.setTop (mkF m 319 #[.val (.long p0), .second, .val (.int p1), .val (.int p2), .val (.long v), .second, .val (.int a3), .val (.ref r), .val (.int (a3 + (Int32.ofNat d))), .val (.int (Int32.ofNat d))] [])) _
    refine XS.lload X42.here hx rfl (hb hby at_319) rfl ?_
    show Steps p.tables e below (T42.setTop (mkF m 321 #[.val (.long p0), .second, .val (.int p1), .val (.int p2), .val (.long v), .second, .val (.int a3), .val (.ref r), .val (.int (a3 + (Int32.ofNat d))), .val (.int (Int32.ofNat d))] [(.long v)])) _
    refine XS.aload X42.here hx rfl (hb hby at_321) rfl rfl ?_
    show Steps p.tables e below (T42.setTop (mkF m 323 #[.val (.long p0), .second, .val (.int p1), .val (.int p2), .val (.long v), .second, .val (.int a3), .val (.ref r), .val (.int (a3 + (Int32.ofNat d))), .val (.int (Int32.ofNat d))] [(.ref r), (.long v)])) _
    refine XS.iload X42.here hx rfl (hb hby at_323) rfl ?_
    show Steps p.tables e below (T42.setTop (mkF m 325 #[.val (.long p0), .second, .val (.int p1), .val (.int p2), .val (.long v), .second, .val (.int a3), .val (.ref r), .val (.int (a3 + (Int32.ofNat d))), .val (.int (Int32.ofNat d))] [(.int a3), (.ref r), (.long v)])) _
    refine XS.iload X42.here hx rfl (hb hby at_325) rfl ?_
    show Steps p.tables e below (T42.setTop (mkF m 327 #[.val (.long p0), .second, .val (.int p1), .val (.int p2), .val (.long v), .second, .val (.int a3), .val (.ref r), .val (.int (a3 + (Int32.ofNat d))), .val (.int (Int32.ofNat d))] [(.int (Int32.ofNat d)), (.int a3), (.ref r), (.long v)])) _
    refine XS.bipush X42.here hx rfl (hb hby at_327) ?_
    exact zk
  obtain ⟨_, _, ⟨T44, L44, k44, n44⟩, -, X44, ⟨Lc44, hQ44, l44, y44, z44⟩, st44⟩ := Jvm.LawKit.callS X42 hx (y := (⟨"com/example/reset/reset/DecimalWriteWholePinLaw", "place", "(J[CIII)Z"⟩ : MethodName)) hown (mvT hZ (hw _ (List.mem_of_getElem? (i := 30) rfl))) (mvT hZ (hw _ (List.mem_of_getElem? (i := 31) rfl))) (mvT hZ (hw _ (List.mem_of_getElem? (i := 10) rfl))) (mvT hZ (hw _ (List.mem_of_getElem? (i := 32) rfl))) (by decide) (backOf (W := 0) (rm3 l Z a0 hw [] v r a3 (Int32.ofNat d) (17 : Int32) V d A k4 17 T42.heap n0 Sz42 hv hD hA hA3 hnn rfl (by decide) V_r) hZ (hw _ (List.mem_of_getElem? (i := 32) rfl)) (hw _ (List.mem_of_getElem? (i := 10) rfl)) (by decide) (by decide)) (g := (mkF m 329 #[.val (.long p0), .second, .val (.int p1), .val (.int p2), .val (.long v), .second, .val (.int a3), .val (.ref r), .val (.int (a3 + (Int32.ofNat d))), .val (.int (Int32.ofNat d))] [(.int (17 : Int32)), (.int (Int32.ofNat d)), (.int a3), (.ref r), (.long v)])) rfl (by rw [hml]; rfl) (argsL := [(.long v), (.ref r), (.int a3), (.int (Int32.ofNat d)), (.int (17 : Int32))]) (rest := []) (lenOf pd_3 rfl) rfl (by show 2 * 0 + _ ≤ _; exact Nat.le_of_eq rfl) (hb hby at_329) (fun _ _ => ⟨rfl, rfl, (by decide : 18 + 1 ≤ _), (by decide : 347 + 19 ≤ _)⟩)
  dsimp only [Pt.U, Pt.locs, Pt.cells, Pt.slots] at X44 l44 y44 z44 st44 hQ44
  rw [y44, z44] at X44
  have X44 : Stand p l e room_1 s m #[(.long p0), (.int p1), (.int p2)] below meth c T44 L44 19 366 := X44
  obtain ⟨rfl, Nq44, K44⟩ := hQ44
  have N44 : Fr n0 L44 := by rw [l44]; exact Fr.app N42 Nq44
  clear l44 y44 z44
  have Sz44 := Nat.le_trans Sz42 K44.1
  have V_r := V_r.keep K44 nin0
  have R45 : ∀ zt, Steps p.tables e below (T44.setTop (mkF m 345 #[.val (.long p0), .second, .val (.int p1), .val (.int p2), .val (.long v), .second, .val (.int a3), .val (.ref r), .val (.int (a3 + (Int32.ofNat d))), .val (.int (Int32.ofNat d))] [(.int (18 : Int32)), (.int (Int32.ofNat d)), (.int a3), (.ref r), (.long v)])) zt → Steps p.tables e below (s₁.setTop (entryFrame m #[(.long p0), (.int p1), (.int p2)] maxLocals)) zt := by
    intro zt zk
    refine R43 zt ?_
    show Steps p.tables e below (T42.setTop (mkF m 329 #[.val (.long p0), .second, .val (.int p1), .val (.int p2), .val (.long v), .second, .val (.int a3), .val (.ref r), .val (.int (a3 + (Int32.ofNat d))), .val (.int (Int32.ofNat d))] [(.int (17 : Int32)), (.int (Int32.ofNat d)), (.int a3), (.ref r), (.long v)])) _
    refine st44 _ ?_
    show Steps p.tables e below (T44.setTop (mkF m 332 #[.val (.long p0), .second, .val (.int p1), .val (.int p2), .val (.long v), .second, .val (.int a3), .val (.ref r), .val (.int (a3 + (Int32.ofNat d))), .val (.int (Int32.ofNat d))] [(.int (1 : Int32))])) _
    refine XS.ifNo X44.here hx rfl (hb hby at_332) rfl ((if0 _ _).trans (feq (by decide)).1) ?_
    show Steps p.tables e below (T44.setTop (mkF m 335 #[.val (.long p0), .second, .val (.int p1), .val (.int p2), .val (.long v), .second, .val (.int a3), .val (.ref r), .val (.int (a3 + (Int32.ofNat d))), .val (.int (Int32.ofNat d))] [])) _
    refine XS.lload X44.here hx rfl (hb hby at_335) rfl ?_
    show Steps p.tables e below (T44.setTop (mkF m 337 #[.val (.long p0), .second, .val (.int p1), .val (.int p2), .val (.long v), .second, .val (.int a3), .val (.ref r), .val (.int (a3 + (Int32.ofNat d))), .val (.int (Int32.ofNat d))] [(.long v)])) _
    refine XS.aload X44.here hx rfl (hb hby at_337) rfl rfl ?_
    show Steps p.tables e below (T44.setTop (mkF m 339 #[.val (.long p0), .second, .val (.int p1), .val (.int p2), .val (.long v), .second, .val (.int a3), .val (.ref r), .val (.int (a3 + (Int32.ofNat d))), .val (.int (Int32.ofNat d))] [(.ref r), (.long v)])) _
    refine XS.iload X44.here hx rfl (hb hby at_339) rfl ?_
    show Steps p.tables e below (T44.setTop (mkF m 341 #[.val (.long p0), .second, .val (.int p1), .val (.int p2), .val (.long v), .second, .val (.int a3), .val (.ref r), .val (.int (a3 + (Int32.ofNat d))), .val (.int (Int32.ofNat d))] [(.int a3), (.ref r), (.long v)])) _
    refine XS.iload X44.here hx rfl (hb hby at_341) rfl ?_
    show Steps p.tables e below (T44.setTop (mkF m 343 #[.val (.long p0), .second, .val (.int p1), .val (.int p2), .val (.long v), .second, .val (.int a3), .val (.ref r), .val (.int (a3 + (Int32.ofNat d))), .val (.int (Int32.ofNat d))] [(.int (Int32.ofNat d)), (.int a3), (.ref r), (.long v)])) _
    refine XS.bipush X44.here hx rfl (hb hby at_343) ?_
    exact zk
  obtain ⟨_, _, ⟨T46, L46, k46, n46⟩, -, X46, ⟨Lc46, hQ46, l46, y46, z46⟩, st46⟩ := Jvm.LawKit.callS X44 hx (y := (⟨"com/example/reset/reset/DecimalWriteWholePinLaw", "place", "(J[CIII)Z"⟩ : MethodName)) hown (mvT hZ (hw _ (List.mem_of_getElem? (i := 30) rfl))) (mvT hZ (hw _ (List.mem_of_getElem? (i := 31) rfl))) (mvT hZ (hw _ (List.mem_of_getElem? (i := 10) rfl))) (mvT hZ (hw _ (List.mem_of_getElem? (i := 32) rfl))) (by decide) (backOf (W := 0) (rm3 l Z a0 hw [] v r a3 (Int32.ofNat d) (18 : Int32) V d A k4 18 T44.heap n0 Sz44 hv hD hA hA3 hnn rfl (by decide) V_r) hZ (hw _ (List.mem_of_getElem? (i := 32) rfl)) (hw _ (List.mem_of_getElem? (i := 10) rfl)) (by decide) (by decide)) (g := (mkF m 345 #[.val (.long p0), .second, .val (.int p1), .val (.int p2), .val (.long v), .second, .val (.int a3), .val (.ref r), .val (.int (a3 + (Int32.ofNat d))), .val (.int (Int32.ofNat d))] [(.int (18 : Int32)), (.int (Int32.ofNat d)), (.int a3), (.ref r), (.long v)])) rfl (by rw [hml]; rfl) (argsL := [(.long v), (.ref r), (.int a3), (.int (Int32.ofNat d)), (.int (18 : Int32))]) (rest := []) (lenOf pd_3 rfl) rfl (by show 2 * 0 + _ ≤ _; exact Nat.le_of_eq rfl) (hb hby at_345) (fun _ _ => ⟨rfl, rfl, (by decide : 19 + 1 ≤ _), (by decide : 366 + 19 ≤ _)⟩)
  dsimp only [Pt.U, Pt.locs, Pt.cells, Pt.slots] at X46 l46 y46 z46 st46 hQ46
  rw [y46, z46] at X46
  have X46 : Stand p l e room_1 s m #[(.long p0), (.int p1), (.int p2)] below meth c T46 L46 20 385 := X46
  obtain ⟨rfl, Nq46, K46⟩ := hQ46
  have N46 : Fr n0 L46 := by rw [l46]; exact Fr.app N44 Nq46
  clear l46 y46 z46
  have Sz46 := Nat.le_trans Sz44 K46.1
  have V_r := V_r.keep K46 nin0
  have R47 : ∀ zt, Steps p.tables e below (T46.setTop (mkF m 361 #[.val (.long p0), .second, .val (.int p1), .val (.int p2), .val (.long v), .second, .val (.int a3), .val (.ref r), .val (.int (a3 + (Int32.ofNat d))), .val (.int (Int32.ofNat d))] [(.int (19 : Int32)), (.int (Int32.ofNat d)), (.int a3), (.ref r), (.long v)])) zt → Steps p.tables e below (s₁.setTop (entryFrame m #[(.long p0), (.int p1), (.int p2)] maxLocals)) zt := by
    intro zt zk
    refine R45 zt ?_
    show Steps p.tables e below (T44.setTop (mkF m 345 #[.val (.long p0), .second, .val (.int p1), .val (.int p2), .val (.long v), .second, .val (.int a3), .val (.ref r), .val (.int (a3 + (Int32.ofNat d))), .val (.int (Int32.ofNat d))] [(.int (18 : Int32)), (.int (Int32.ofNat d)), (.int a3), (.ref r), (.long v)])) _
    refine st46 _ ?_
    show Steps p.tables e below (T46.setTop (mkF m 348 #[.val (.long p0), .second, .val (.int p1), .val (.int p2), .val (.long v), .second, .val (.int a3), .val (.ref r), .val (.int (a3 + (Int32.ofNat d))), .val (.int (Int32.ofNat d))] [(.int (1 : Int32))])) _
    refine XS.ifNo X46.here hx rfl (hb hby at_348) rfl ((if0 _ _).trans (feq (by decide)).1) ?_
    show Steps p.tables e below (T46.setTop (mkF m 351 #[.val (.long p0), .second, .val (.int p1), .val (.int p2), .val (.long v), .second, .val (.int a3), .val (.ref r), .val (.int (a3 + (Int32.ofNat d))), .val (.int (Int32.ofNat d))] [])) _
    refine XS.lload X46.here hx rfl (hb hby at_351) rfl ?_
    show Steps p.tables e below (T46.setTop (mkF m 353 #[.val (.long p0), .second, .val (.int p1), .val (.int p2), .val (.long v), .second, .val (.int a3), .val (.ref r), .val (.int (a3 + (Int32.ofNat d))), .val (.int (Int32.ofNat d))] [(.long v)])) _
    refine XS.aload X46.here hx rfl (hb hby at_353) rfl rfl ?_
    show Steps p.tables e below (T46.setTop (mkF m 355 #[.val (.long p0), .second, .val (.int p1), .val (.int p2), .val (.long v), .second, .val (.int a3), .val (.ref r), .val (.int (a3 + (Int32.ofNat d))), .val (.int (Int32.ofNat d))] [(.ref r), (.long v)])) _
    refine XS.iload X46.here hx rfl (hb hby at_355) rfl ?_
    show Steps p.tables e below (T46.setTop (mkF m 357 #[.val (.long p0), .second, .val (.int p1), .val (.int p2), .val (.long v), .second, .val (.int a3), .val (.ref r), .val (.int (a3 + (Int32.ofNat d))), .val (.int (Int32.ofNat d))] [(.int a3), (.ref r), (.long v)])) _
    refine XS.iload X46.here hx rfl (hb hby at_357) rfl ?_
    show Steps p.tables e below (T46.setTop (mkF m 359 #[.val (.long p0), .second, .val (.int p1), .val (.int p2), .val (.long v), .second, .val (.int a3), .val (.ref r), .val (.int (a3 + (Int32.ofNat d))), .val (.int (Int32.ofNat d))] [(.int (Int32.ofNat d)), (.int a3), (.ref r), (.long v)])) _
    refine XS.bipush X46.here hx rfl (hb hby at_359) ?_
    exact zk
  obtain ⟨_, _, ⟨T48, L48, k48, n48⟩, -, X48, ⟨Lc48, hQ48, l48, y48, z48⟩, st48⟩ := Jvm.LawKit.callS X46 hx (y := (⟨"com/example/reset/reset/DecimalWriteWholePinLaw", "place", "(J[CIII)Z"⟩ : MethodName)) hown (mvT hZ (hw _ (List.mem_of_getElem? (i := 30) rfl))) (mvT hZ (hw _ (List.mem_of_getElem? (i := 31) rfl))) (mvT hZ (hw _ (List.mem_of_getElem? (i := 10) rfl))) (mvT hZ (hw _ (List.mem_of_getElem? (i := 32) rfl))) (by decide) (backOf (W := 0) (rm3 l Z a0 hw [] v r a3 (Int32.ofNat d) (19 : Int32) V d A k4 19 T46.heap n0 Sz46 hv hD hA hA3 hnn rfl (by decide) V_r) hZ (hw _ (List.mem_of_getElem? (i := 32) rfl)) (hw _ (List.mem_of_getElem? (i := 10) rfl)) (by decide) (by decide)) (g := (mkF m 361 #[.val (.long p0), .second, .val (.int p1), .val (.int p2), .val (.long v), .second, .val (.int a3), .val (.ref r), .val (.int (a3 + (Int32.ofNat d))), .val (.int (Int32.ofNat d))] [(.int (19 : Int32)), (.int (Int32.ofNat d)), (.int a3), (.ref r), (.long v)])) rfl (by rw [hml]; rfl) (argsL := [(.long v), (.ref r), (.int a3), (.int (Int32.ofNat d)), (.int (19 : Int32))]) (rest := []) (lenOf pd_3 rfl) rfl (by show 2 * 0 + _ ≤ _; exact Nat.le_of_eq rfl) (hb hby at_361) (fun _ _ => ⟨rfl, rfl, (by decide : 20 + 1 ≤ _), (by decide : 385 + 19 ≤ _)⟩)
  dsimp only [Pt.U, Pt.locs, Pt.cells, Pt.slots] at X48 l48 y48 z48 st48 hQ48
  rw [y48, z48] at X48
  have X48 : Stand p l e room_1 s m #[(.long p0), (.int p1), (.int p2)] below meth c T48 L48 21 404 := X48
  obtain ⟨rfl, Nq48, K48⟩ := hQ48
  have N48 : Fr n0 L48 := by rw [l48]; exact Fr.app N46 Nq48
  clear l48 y48 z48
  have Sz48 := Nat.le_trans Sz46 K48.1
  have V_r := V_r.keep K48 nin0
  have R49 : ∀ zt, Steps p.tables e below (T48.setTop (mkF m 377 #[.val (.long p0), .second, .val (.int p1), .val (.int p2), .val (.long v), .second, .val (.int a3), .val (.ref r), .val (.int (a3 + (Int32.ofNat d))), .val (.int (Int32.ofNat d))] [(.int (20 : Int32)), (.int (Int32.ofNat d)), (.int a3), (.ref r), (.long v)])) zt → Steps p.tables e below (s₁.setTop (entryFrame m #[(.long p0), (.int p1), (.int p2)] maxLocals)) zt := by
    intro zt zk
    refine R47 zt ?_
    show Steps p.tables e below (T46.setTop (mkF m 361 #[.val (.long p0), .second, .val (.int p1), .val (.int p2), .val (.long v), .second, .val (.int a3), .val (.ref r), .val (.int (a3 + (Int32.ofNat d))), .val (.int (Int32.ofNat d))] [(.int (19 : Int32)), (.int (Int32.ofNat d)), (.int a3), (.ref r), (.long v)])) _
    refine st48 _ ?_
    show Steps p.tables e below (T48.setTop (mkF m 364 #[.val (.long p0), .second, .val (.int p1), .val (.int p2), .val (.long v), .second, .val (.int a3), .val (.ref r), .val (.int (a3 + (Int32.ofNat d))), .val (.int (Int32.ofNat d))] [(.int (1 : Int32))])) _
    refine XS.ifNo X48.here hx rfl (hb hby at_364) rfl ((if0 _ _).trans (feq (by decide)).1) ?_
    show Steps p.tables e below (T48.setTop (mkF m 367 #[.val (.long p0), .second, .val (.int p1), .val (.int p2), .val (.long v), .second, .val (.int a3), .val (.ref r), .val (.int (a3 + (Int32.ofNat d))), .val (.int (Int32.ofNat d))] [])) _
    refine XS.lload X48.here hx rfl (hb hby at_367) rfl ?_
    show Steps p.tables e below (T48.setTop (mkF m 369 #[.val (.long p0), .second, .val (.int p1), .val (.int p2), .val (.long v), .second, .val (.int a3), .val (.ref r), .val (.int (a3 + (Int32.ofNat d))), .val (.int (Int32.ofNat d))] [(.long v)])) _
    refine XS.aload X48.here hx rfl (hb hby at_369) rfl rfl ?_
    show Steps p.tables e below (T48.setTop (mkF m 371 #[.val (.long p0), .second, .val (.int p1), .val (.int p2), .val (.long v), .second, .val (.int a3), .val (.ref r), .val (.int (a3 + (Int32.ofNat d))), .val (.int (Int32.ofNat d))] [(.ref r), (.long v)])) _
    refine XS.iload X48.here hx rfl (hb hby at_371) rfl ?_
    show Steps p.tables e below (T48.setTop (mkF m 373 #[.val (.long p0), .second, .val (.int p1), .val (.int p2), .val (.long v), .second, .val (.int a3), .val (.ref r), .val (.int (a3 + (Int32.ofNat d))), .val (.int (Int32.ofNat d))] [(.int a3), (.ref r), (.long v)])) _
    refine XS.iload X48.here hx rfl (hb hby at_373) rfl ?_
    show Steps p.tables e below (T48.setTop (mkF m 375 #[.val (.long p0), .second, .val (.int p1), .val (.int p2), .val (.long v), .second, .val (.int a3), .val (.ref r), .val (.int (a3 + (Int32.ofNat d))), .val (.int (Int32.ofNat d))] [(.int (Int32.ofNat d)), (.int a3), (.ref r), (.long v)])) _
    refine XS.bipush X48.here hx rfl (hb hby at_375) ?_
    exact zk
  obtain ⟨_, _, ⟨T50, L50, k50, n50⟩, -, X50, ⟨Lc50, hQ50, l50, y50, z50⟩, st50⟩ := Jvm.LawKit.callS X48 hx (y := (⟨"com/example/reset/reset/DecimalWriteWholePinLaw", "place", "(J[CIII)Z"⟩ : MethodName)) hown (mvT hZ (hw _ (List.mem_of_getElem? (i := 30) rfl))) (mvT hZ (hw _ (List.mem_of_getElem? (i := 31) rfl))) (mvT hZ (hw _ (List.mem_of_getElem? (i := 10) rfl))) (mvT hZ (hw _ (List.mem_of_getElem? (i := 32) rfl))) (by decide) (backOf (W := 0) (rm3 l Z a0 hw [] v r a3 (Int32.ofNat d) (20 : Int32) V d A k4 20 T48.heap n0 Sz48 hv hD hA hA3 hnn rfl (by decide) V_r) hZ (hw _ (List.mem_of_getElem? (i := 32) rfl)) (hw _ (List.mem_of_getElem? (i := 10) rfl)) (by decide) (by decide)) (g := (mkF m 377 #[.val (.long p0), .second, .val (.int p1), .val (.int p2), .val (.long v), .second, .val (.int a3), .val (.ref r), .val (.int (a3 + (Int32.ofNat d))), .val (.int (Int32.ofNat d))] [(.int (20 : Int32)), (.int (Int32.ofNat d)), (.int a3), (.ref r), (.long v)])) rfl (by rw [hml]; rfl) (argsL := [(.long v), (.ref r), (.int a3), (.int (Int32.ofNat d)), (.int (20 : Int32))]) (rest := []) (lenOf pd_3 rfl) rfl (by show 2 * 0 + _ ≤ _; exact Nat.le_of_eq rfl) (hb hby at_377) (fun _ _ => ⟨rfl, rfl, (by decide : 21 + 1 ≤ _), (by decide : 404 + 19 ≤ _)⟩)
  dsimp only [Pt.U, Pt.locs, Pt.cells, Pt.slots] at X50 l50 y50 z50 st50 hQ50
  rw [y50, z50] at X50
  have X50 : Stand p l e room_1 s m #[(.long p0), (.int p1), (.int p2)] below meth c T50 L50 22 423 := X50
  obtain ⟨rfl, Nq50, K50⟩ := hQ50
  have N50 : Fr n0 L50 := by rw [l50]; exact Fr.app N48 Nq50
  clear l50 y50 z50
  have Sz50 := Nat.le_trans Sz48 K50.1
  have V_r := V_r.keep K50 nin0
  have R51 : ∀ zt, Steps p.tables e below (T50.setTop (mkF m 393 #[.val (.long p0), .second, .val (.int p1), .val (.int p2), .val (.long v), .second, .val (.int a3), .val (.ref r), .val (.int (a3 + (Int32.ofNat d))), .val (.int (Int32.ofNat d))] [(.int (21 : Int32)), (.int (Int32.ofNat d)), (.int a3), (.ref r), (.long v)])) zt → Steps p.tables e below (s₁.setTop (entryFrame m #[(.long p0), (.int p1), (.int p2)] maxLocals)) zt := by
    intro zt zk
    refine R49 zt ?_
    show Steps p.tables e below (T48.setTop (mkF m 377 #[.val (.long p0), .second, .val (.int p1), .val (.int p2), .val (.long v), .second, .val (.int a3), .val (.ref r), .val (.int (a3 + (Int32.ofNat d))), .val (.int (Int32.ofNat d))] [(.int (20 : Int32)), (.int (Int32.ofNat d)), (.int a3), (.ref r), (.long v)])) _
    refine st50 _ ?_
    show Steps p.tables e below (T50.setTop (mkF m 380 #[.val (.long p0), .second, .val (.int p1), .val (.int p2), .val (.long v), .second, .val (.int a3), .val (.ref r), .val (.int (a3 + (Int32.ofNat d))), .val (.int (Int32.ofNat d))] [(.int (1 : Int32))])) _
    refine XS.ifNo X50.here hx rfl (hb hby at_380) rfl ((if0 _ _).trans (feq (by decide)).1) ?_
    show Steps p.tables e below (T50.setTop (mkF m 383 #[.val (.long p0), .second, .val (.int p1), .val (.int p2), .val (.long v), .second, .val (.int a3), .val (.ref r), .val (.int (a3 + (Int32.ofNat d))), .val (.int (Int32.ofNat d))] [])) _
    refine XS.lload X50.here hx rfl (hb hby at_383) rfl ?_
    show Steps p.tables e below (T50.setTop (mkF m 385 #[.val (.long p0), .second, .val (.int p1), .val (.int p2), .val (.long v), .second, .val (.int a3), .val (.ref r), .val (.int (a3 + (Int32.ofNat d))), .val (.int (Int32.ofNat d))] [(.long v)])) _
    refine XS.aload X50.here hx rfl (hb hby at_385) rfl rfl ?_
    show Steps p.tables e below (T50.setTop (mkF m 387 #[.val (.long p0), .second, .val (.int p1), .val (.int p2), .val (.long v), .second, .val (.int a3), .val (.ref r), .val (.int (a3 + (Int32.ofNat d))), .val (.int (Int32.ofNat d))] [(.ref r), (.long v)])) _
    refine XS.iload X50.here hx rfl (hb hby at_387) rfl ?_
    show Steps p.tables e below (T50.setTop (mkF m 389 #[.val (.long p0), .second, .val (.int p1), .val (.int p2), .val (.long v), .second, .val (.int a3), .val (.ref r), .val (.int (a3 + (Int32.ofNat d))), .val (.int (Int32.ofNat d))] [(.int a3), (.ref r), (.long v)])) _
    refine XS.iload X50.here hx rfl (hb hby at_389) rfl ?_
    show Steps p.tables e below (T50.setTop (mkF m 391 #[.val (.long p0), .second, .val (.int p1), .val (.int p2), .val (.long v), .second, .val (.int a3), .val (.ref r), .val (.int (a3 + (Int32.ofNat d))), .val (.int (Int32.ofNat d))] [(.int (Int32.ofNat d)), (.int a3), (.ref r), (.long v)])) _
    refine XS.bipush X50.here hx rfl (hb hby at_391) ?_
    exact zk
  obtain ⟨_, _, ⟨T52, L52, k52, n52⟩, -, X52, ⟨Lc52, hQ52, l52, y52, z52⟩, st52⟩ := Jvm.LawKit.callS X50 hx (y := (⟨"com/example/reset/reset/DecimalWriteWholePinLaw", "place", "(J[CIII)Z"⟩ : MethodName)) hown (mvT hZ (hw _ (List.mem_of_getElem? (i := 30) rfl))) (mvT hZ (hw _ (List.mem_of_getElem? (i := 31) rfl))) (mvT hZ (hw _ (List.mem_of_getElem? (i := 10) rfl))) (mvT hZ (hw _ (List.mem_of_getElem? (i := 32) rfl))) (by decide) (backOf (W := 0) (rm3 l Z a0 hw [] v r a3 (Int32.ofNat d) (21 : Int32) V d A k4 21 T50.heap n0 Sz50 hv hD hA hA3 hnn rfl (by decide) V_r) hZ (hw _ (List.mem_of_getElem? (i := 32) rfl)) (hw _ (List.mem_of_getElem? (i := 10) rfl)) (by decide) (by decide)) (g := (mkF m 393 #[.val (.long p0), .second, .val (.int p1), .val (.int p2), .val (.long v), .second, .val (.int a3), .val (.ref r), .val (.int (a3 + (Int32.ofNat d))), .val (.int (Int32.ofNat d))] [(.int (21 : Int32)), (.int (Int32.ofNat d)), (.int a3), (.ref r), (.long v)])) rfl (by rw [hml]; rfl) (argsL := [(.long v), (.ref r), (.int a3), (.int (Int32.ofNat d)), (.int (21 : Int32))]) (rest := []) (lenOf pd_3 rfl) rfl (by show 2 * 0 + _ ≤ _; exact Nat.le_of_eq rfl) (hb hby at_393) (fun _ _ => ⟨rfl, rfl, (by decide : 22 + 1 ≤ _), (by decide : 423 + 19 ≤ _)⟩)
  dsimp only [Pt.U, Pt.locs, Pt.cells, Pt.slots] at X52 l52 y52 z52 st52 hQ52
  rw [y52, z52] at X52
  have X52 : Stand p l e room_1 s m #[(.long p0), (.int p1), (.int p2)] below meth c T52 L52 23 442 := X52
  obtain ⟨rfl, Nq52, K52⟩ := hQ52
  have N52 : Fr n0 L52 := by rw [l52]; exact Fr.app N50 Nq52
  clear l52 y52 z52
  have Sz52 := Nat.le_trans Sz50 K52.1
  have V_r := V_r.keep K52 nin0
  have R53 : ∀ zt, Steps p.tables e below (T52.setTop (mkF m 409 #[.val (.long p0), .second, .val (.int p1), .val (.int p2), .val (.long v), .second, .val (.int a3), .val (.ref r), .val (.int (a3 + (Int32.ofNat d))), .val (.int (Int32.ofNat d))] [(.int (22 : Int32)), (.int (Int32.ofNat d)), (.int a3), (.ref r), (.long v)])) zt → Steps p.tables e below (s₁.setTop (entryFrame m #[(.long p0), (.int p1), (.int p2)] maxLocals)) zt := by
    intro zt zk
    refine R51 zt ?_
    show Steps p.tables e below (T50.setTop (mkF m 393 #[.val (.long p0), .second, .val (.int p1), .val (.int p2), .val (.long v), .second, .val (.int a3), .val (.ref r), .val (.int (a3 + (Int32.ofNat d))), .val (.int (Int32.ofNat d))] [(.int (21 : Int32)), (.int (Int32.ofNat d)), (.int a3), (.ref r), (.long v)])) _
    refine st52 _ ?_
    show Steps p.tables e below (T52.setTop (mkF m 396 #[.val (.long p0), .second, .val (.int p1), .val (.int p2), .val (.long v), .second, .val (.int a3), .val (.ref r), .val (.int (a3 + (Int32.ofNat d))), .val (.int (Int32.ofNat d))] [(.int (1 : Int32))])) _
    refine XS.ifNo X52.here hx rfl (hb hby at_396) rfl ((if0 _ _).trans (feq (by decide)).1) ?_
    show Steps p.tables e below (T52.setTop (mkF m 399 #[.val (.long p0), .second, .val (.int p1), .val (.int p2), .val (.long v), .second, .val (.int a3), .val (.ref r), .val (.int (a3 + (Int32.ofNat d))), .val (.int (Int32.ofNat d))] [])) _
    refine XS.lload X52.here hx rfl (hb hby at_399) rfl ?_
    show Steps p.tables e below (T52.setTop (mkF m 401 #[.val (.long p0), .second, .val (.int p1), .val (.int p2), .val (.long v), .second, .val (.int a3), .val (.ref r), .val (.int (a3 + (Int32.ofNat d))), .val (.int (Int32.ofNat d))] [(.long v)])) _
    refine XS.aload X52.here hx rfl (hb hby at_401) rfl rfl ?_
    show Steps p.tables e below (T52.setTop (mkF m 403 #[.val (.long p0), .second, .val (.int p1), .val (.int p2), .val (.long v), .second, .val (.int a3), .val (.ref r), .val (.int (a3 + (Int32.ofNat d))), .val (.int (Int32.ofNat d))] [(.ref r), (.long v)])) _
    refine XS.iload X52.here hx rfl (hb hby at_403) rfl ?_
    show Steps p.tables e below (T52.setTop (mkF m 405 #[.val (.long p0), .second, .val (.int p1), .val (.int p2), .val (.long v), .second, .val (.int a3), .val (.ref r), .val (.int (a3 + (Int32.ofNat d))), .val (.int (Int32.ofNat d))] [(.int a3), (.ref r), (.long v)])) _
    refine XS.iload X52.here hx rfl (hb hby at_405) rfl ?_
    show Steps p.tables e below (T52.setTop (mkF m 407 #[.val (.long p0), .second, .val (.int p1), .val (.int p2), .val (.long v), .second, .val (.int a3), .val (.ref r), .val (.int (a3 + (Int32.ofNat d))), .val (.int (Int32.ofNat d))] [(.int (Int32.ofNat d)), (.int a3), (.ref r), (.long v)])) _
    refine XS.bipush X52.here hx rfl (hb hby at_407) ?_
    exact zk
  obtain ⟨_, _, ⟨T54, L54, k54, n54⟩, -, X54, ⟨Lc54, hQ54, l54, y54, z54⟩, st54⟩ := Jvm.LawKit.callS X52 hx (y := (⟨"com/example/reset/reset/DecimalWriteWholePinLaw", "place", "(J[CIII)Z"⟩ : MethodName)) hown (mvT hZ (hw _ (List.mem_of_getElem? (i := 30) rfl))) (mvT hZ (hw _ (List.mem_of_getElem? (i := 31) rfl))) (mvT hZ (hw _ (List.mem_of_getElem? (i := 10) rfl))) (mvT hZ (hw _ (List.mem_of_getElem? (i := 32) rfl))) (by decide) (backOf (W := 0) (rm3 l Z a0 hw [] v r a3 (Int32.ofNat d) (22 : Int32) V d A k4 22 T52.heap n0 Sz52 hv hD hA hA3 hnn rfl (by decide) V_r) hZ (hw _ (List.mem_of_getElem? (i := 32) rfl)) (hw _ (List.mem_of_getElem? (i := 10) rfl)) (by decide) (by decide)) (g := (mkF m 409 #[.val (.long p0), .second, .val (.int p1), .val (.int p2), .val (.long v), .second, .val (.int a3), .val (.ref r), .val (.int (a3 + (Int32.ofNat d))), .val (.int (Int32.ofNat d))] [(.int (22 : Int32)), (.int (Int32.ofNat d)), (.int a3), (.ref r), (.long v)])) rfl (by rw [hml]; rfl) (argsL := [(.long v), (.ref r), (.int a3), (.int (Int32.ofNat d)), (.int (22 : Int32))]) (rest := []) (lenOf pd_3 rfl) rfl (by show 2 * 0 + _ ≤ _; exact Nat.le_of_eq rfl) (hb hby at_409) (fun _ _ => ⟨rfl, rfl, (by decide : 23 + 1 ≤ _), (by decide : 442 + 19 ≤ _)⟩)
  dsimp only [Pt.U, Pt.locs, Pt.cells, Pt.slots] at X54 l54 y54 z54 st54 hQ54
  rw [y54, z54] at X54
  have X54 : Stand p l e room_1 s m #[(.long p0), (.int p1), (.int p2)] below meth c T54 L54 24 461 := X54
  obtain ⟨rfl, Nq54, K54⟩ := hQ54
  have N54 : Fr n0 L54 := by rw [l54]; exact Fr.app N52 Nq54
  clear l54 y54 z54
  have Sz54 := Nat.le_trans Sz52 K54.1
  have V_r := V_r.keep K54 nin0
  have R55 : ∀ zt, Steps p.tables e below (T54.setTop (mkF m 425 #[.val (.long p0), .second, .val (.int p1), .val (.int p2), .val (.long v), .second, .val (.int a3), .val (.ref r), .val (.int (a3 + (Int32.ofNat d))), .val (.int (Int32.ofNat d))] [(.int (23 : Int32)), (.int (Int32.ofNat d)), (.int a3), (.ref r), (.long v)])) zt → Steps p.tables e below (s₁.setTop (entryFrame m #[(.long p0), (.int p1), (.int p2)] maxLocals)) zt := by
    intro zt zk
    refine R53 zt ?_
    show Steps p.tables e below (T52.setTop (mkF m 409 #[.val (.long p0), .second, .val (.int p1), .val (.int p2), .val (.long v), .second, .val (.int a3), .val (.ref r), .val (.int (a3 + (Int32.ofNat d))), .val (.int (Int32.ofNat d))] [(.int (22 : Int32)), (.int (Int32.ofNat d)), (.int a3), (.ref r), (.long v)])) _
    refine st54 _ ?_
    show Steps p.tables e below (T54.setTop (mkF m 412 #[.val (.long p0), .second, .val (.int p1), .val (.int p2), .val (.long v), .second, .val (.int a3), .val (.ref r), .val (.int (a3 + (Int32.ofNat d))), .val (.int (Int32.ofNat d))] [(.int (1 : Int32))])) _
    refine XS.ifNo X54.here hx rfl (hb hby at_412) rfl ((if0 _ _).trans (feq (by decide)).1) ?_
    show Steps p.tables e below (T54.setTop (mkF m 415 #[.val (.long p0), .second, .val (.int p1), .val (.int p2), .val (.long v), .second, .val (.int a3), .val (.ref r), .val (.int (a3 + (Int32.ofNat d))), .val (.int (Int32.ofNat d))] [])) _
    refine XS.lload X54.here hx rfl (hb hby at_415) rfl ?_
    show Steps p.tables e below (T54.setTop (mkF m 417 #[.val (.long p0), .second, .val (.int p1), .val (.int p2), .val (.long v), .second, .val (.int a3), .val (.ref r), .val (.int (a3 + (Int32.ofNat d))), .val (.int (Int32.ofNat d))] [(.long v)])) _
    refine XS.aload X54.here hx rfl (hb hby at_417) rfl rfl ?_
    show Steps p.tables e below (T54.setTop (mkF m 419 #[.val (.long p0), .second, .val (.int p1), .val (.int p2), .val (.long v), .second, .val (.int a3), .val (.ref r), .val (.int (a3 + (Int32.ofNat d))), .val (.int (Int32.ofNat d))] [(.ref r), (.long v)])) _
    refine XS.iload X54.here hx rfl (hb hby at_419) rfl ?_
    show Steps p.tables e below (T54.setTop (mkF m 421 #[.val (.long p0), .second, .val (.int p1), .val (.int p2), .val (.long v), .second, .val (.int a3), .val (.ref r), .val (.int (a3 + (Int32.ofNat d))), .val (.int (Int32.ofNat d))] [(.int a3), (.ref r), (.long v)])) _
    refine XS.iload X54.here hx rfl (hb hby at_421) rfl ?_
    show Steps p.tables e below (T54.setTop (mkF m 423 #[.val (.long p0), .second, .val (.int p1), .val (.int p2), .val (.long v), .second, .val (.int a3), .val (.ref r), .val (.int (a3 + (Int32.ofNat d))), .val (.int (Int32.ofNat d))] [(.int (Int32.ofNat d)), (.int a3), (.ref r), (.long v)])) _
    refine XS.bipush X54.here hx rfl (hb hby at_423) ?_
    exact zk
  obtain ⟨_, _, ⟨T56, L56, k56, n56⟩, -, X56, ⟨Lc56, hQ56, l56, y56, z56⟩, st56⟩ := Jvm.LawKit.callS X54 hx (y := (⟨"com/example/reset/reset/DecimalWriteWholePinLaw", "place", "(J[CIII)Z"⟩ : MethodName)) hown (mvT hZ (hw _ (List.mem_of_getElem? (i := 30) rfl))) (mvT hZ (hw _ (List.mem_of_getElem? (i := 31) rfl))) (mvT hZ (hw _ (List.mem_of_getElem? (i := 10) rfl))) (mvT hZ (hw _ (List.mem_of_getElem? (i := 32) rfl))) (by decide) (backOf (W := 0) (rm3 l Z a0 hw [] v r a3 (Int32.ofNat d) (23 : Int32) V d A k4 23 T54.heap n0 Sz54 hv hD hA hA3 hnn rfl (by decide) V_r) hZ (hw _ (List.mem_of_getElem? (i := 32) rfl)) (hw _ (List.mem_of_getElem? (i := 10) rfl)) (by decide) (by decide)) (g := (mkF m 425 #[.val (.long p0), .second, .val (.int p1), .val (.int p2), .val (.long v), .second, .val (.int a3), .val (.ref r), .val (.int (a3 + (Int32.ofNat d))), .val (.int (Int32.ofNat d))] [(.int (23 : Int32)), (.int (Int32.ofNat d)), (.int a3), (.ref r), (.long v)])) rfl (by rw [hml]; rfl) (argsL := [(.long v), (.ref r), (.int a3), (.int (Int32.ofNat d)), (.int (23 : Int32))]) (rest := []) (lenOf pd_3 rfl) rfl (by show 2 * 0 + _ ≤ _; exact Nat.le_of_eq rfl) (hb hby at_425) (fun _ _ => ⟨rfl, rfl, (by decide : 24 + 1 ≤ _), (by decide : 461 + 19 ≤ _)⟩)
  dsimp only [Pt.U, Pt.locs, Pt.cells, Pt.slots] at X56 l56 y56 z56 st56 hQ56
  rw [y56, z56] at X56
  have X56 : Stand p l e room_1 s m #[(.long p0), (.int p1), (.int p2)] below meth c T56 L56 25 480 := X56
  obtain ⟨rfl, Nq56, K56⟩ := hQ56
  have N56 : Fr n0 L56 := by rw [l56]; exact Fr.app N54 Nq56
  clear l56 y56 z56
  have Sz56 := Nat.le_trans Sz54 K56.1
  have V_r := V_r.keep K56 nin0
  have R57 : ∀ zt, Steps p.tables e below (T56.setTop (mkF m 436 #[.val (.long p0), .second, .val (.int p1), .val (.int p2), .val (.long v), .second, .val (.int a3), .val (.ref r), .val (.int (a3 + (Int32.ofNat d))), .val (.int (Int32.ofNat d))] [(.int (1 : Int32))])) zt → Steps p.tables e below (s₁.setTop (entryFrame m #[(.long p0), (.int p1), (.int p2)] maxLocals)) zt := by
    intro zt zk
    refine R55 zt ?_
    show Steps p.tables e below (T54.setTop (mkF m 425 #[.val (.long p0), .second, .val (.int p1), .val (.int p2), .val (.long v), .second, .val (.int a3), .val (.ref r), .val (.int (a3 + (Int32.ofNat d))), .val (.int (Int32.ofNat d))] [(.int (23 : Int32)), (.int (Int32.ofNat d)), (.int a3), (.ref r), (.long v)])) _
    refine st56 _ ?_
    show Steps p.tables e below (T56.setTop (mkF m 428 #[.val (.long p0), .second, .val (.int p1), .val (.int p2), .val (.long v), .second, .val (.int a3), .val (.ref r), .val (.int (a3 + (Int32.ofNat d))), .val (.int (Int32.ofNat d))] [(.int (1 : Int32))])) _
    refine XS.ifNo X56.here hx rfl (hb hby at_428) rfl ((if0 _ _).trans (feq (by decide)).1) ?_
    show Steps p.tables e below (T56.setTop (mkF m 431 #[.val (.long p0), .second, .val (.int p1), .val (.int p2), .val (.long v), .second, .val (.int a3), .val (.ref r), .val (.int (a3 + (Int32.ofNat d))), .val (.int (Int32.ofNat d))] [])) _
    refine XS.iconst X56.here hx rfl (hb hby at_431) ?_
    show Steps p.tables e below (T56.setTop (mkF m 432 #[.val (.long p0), .second, .val (.int p1), .val (.int p2), .val (.long v), .second, .val (.int a3), .val (.ref r), .val (.int (a3 + (Int32.ofNat d))), .val (.int (Int32.ofNat d))] [(.int (1 : Int32))])) _
    refine XS.goto X56.here hx rfl (pc0 := 432) (pc' := 436) rfl (hb hby at_432) (by decide) (by decide) ?_
    exact zk
  obtain ⟨fs, hr, hrun, hended, hW, hsame⟩ := X56.leave (v := some (.int (1 : Int32))) (fun h => by rw [Bd.returns] at h; cases h)
  refine ⟨_, _, R57 _ ?_, hrun, hended, _, _, rfl, ?_, ⟨_, rfl⟩, hW, hsame.mono (by decide) (by decide)⟩
  · exact retN X56 hx (t := .boolean) Bd.returns (by simp) (hb hby at_436) hr
  · show Q0 Z p0 p1 p2 h0 n0 _ T56.heap _
    exact ⟨rfl, N56⟩
set_option maxRecDepth 65536 in
set_option maxHeartbeats 40000000 in
theorem comes_1 {Post : Tables → Env → Array Value → State → Outcome → State → Prop} (hpost : ∀ tb e args s v u, (limb_1_1.after args s (.returned v) u = true ∧ limb_1_2.after args s (.returned v) u = true ∧ True) → FrameEnd s (.returned v) u (Jvm.fieldLocs frame_1_writes args s ++ Jvm.arrayLocs frame_1_arrays args s ++ Jvm.staticLocs frame_1_statics s) 48 896 → Post tb e args s (.returned v) u) :
    ArmFor flags0 classFile x code maxLocals ret World_1 tables_1 room_1 Calls_1 rest_1 Pre_1 Post := by
  intro l hfl _ _ p e ha hc hk s m args below hf hA hF happ hP
  obtain ⟨hcalls, hrest, hpre⟩ := hP
  obtain ⟨-, -, -, hnamed, -, -, -, hat⟩ := (Spec.applies_iff hf).mp happ
  obtain ⟨hg, hn⟩ := and_e (Cond.before_iff.mp (show (Jvm.Cond.and given_1 narrow_1).before args s = true from hpre))
  obtain ⟨hcount, hg0⟩ := and_e hg
  obtain ⟨hi0, hg1⟩ := and_e hg0
  obtain ⟨hi1, hg2⟩ := and_e hg1
  have hi2 := hg2
  obtain ⟨w0, w1, w2, rfl⟩ : ∃ w0 w1 w2 : Value, args = #[w0, w1, w2] := by
    have hs : args.size = 3 := by simpa [Cond.value, given_1] using hcount
    obtain ⟨L⟩ := args
    match L, hs with
    | [w0, w1, w2], _ => exact ⟨w0, w1, w2, rfl⟩
  have hw := fun d (hd : d ∈ tables_1) => atoms_spec (ws := Jvm.Cond.code x code maxLocals ret :: tables_1) hat d (List.mem_cons_of_mem _ hd)
  have hfit : Fit s := fun {y c} hc i hi => by
    obtain ⟨ha, rfl⟩ := Array.getElem?_eq_some_iff.mp hc
    have q := List.all_eq_true.mp ((Array.all_eq_true_iff_forall_mem.mp hF) _ (Array.getElem_mem ha)) i (List.mem_range.mpr hi)
    simpa [Array.getElem?_eq_getElem hi] using q
  obtain ⟨i0, ei0⟩ := isL_v hi0
  obtain rfl : w0 = (.long i0) := Option.some.inj ei0
  obtain ⟨i1, ei1⟩ := is_v hi1
  obtain rfl : w1 = (.int i1) := Option.some.inj ei1
  obtain ⟨i2, ei2⟩ := is_v hi2
  obtain rfl : w2 = (.int i2) := Option.some.inj ei2
  obtain ⟨n, o, h1, h2, h3, _, L, rfl, ⟨rfl, N⟩, hq⟩ := rm0 l s _ hw tables_1 i0 i1 i2 s.heap s.heap.size (Nat.le_refl _) p e ha hc hk s m _ below hf ((Spec.applies_iff_loose hf).mp happ).1 ⟨rfl, State.Warmed39.refl s, rfl⟩ trivial
  refine ⟨n, _, h1, h2, h3, hpost _ _ _ _ _ _ ⟨Cond.after_iff.mpr rfl, Cond.after_iff.mpr (eq_i res_at (Term.int_eval (1)) rfl), trivial⟩ ⟨hq.1, hq.2.1, (hq.2.2.sift fun y hy => Or.inr (N y hy)).mono (by decide) (by decide)⟩⟩
theorem main_1_1 : Claimed_1_1 := comes_1 fun _ _ _ _ _ _ h hF => ⟨h.1, hF⟩
theorem main_1_2 : Claimed_1_2 := comes_1 fun _ _ _ _ _ _ h hF => ⟨h.2.1, hF⟩
end Jvm.Pilot.@@N@@
namespace Jvm.Pilot.@@N@@
open Jvm Jvm.ClassFile Sem Op Lib Jvm.Free Jvm.Stand Jvm.Pilot.@@N@@.Jvm.D
/-! MADE BY PROGRAM (witnessworld.py) out of the Statement's table words and the real class files: 13 classes; the members and pool entries that the words name. The judged class is class 1, her method 1. -/
namespace start1
open Jvm.ClassFile
def u (s : String) : CpInfo := .utf8 (stringToUtf16 s)
/-- a pool by its gaps: so many unusable entries, then the entry; so many at the end -/
def gap : Nat → List CpInfo → List CpInfo
  | 0, r => r
  | n + 1, r => .unusable :: gap n r
def poolList (es : List (Nat × CpInfo)) (last : Nat) : List CpInfo := es.foldr (fun e r => gap e.1 (e.2 :: r)) (gap last [])
def pool (es : List (Nat × CpInfo)) (last : Nat) : Array CpInfo := ⟨poolList es last⟩
def fileOf (pool : Array CpInfo) (this : Nat) (attrs : Array Attribute := #[]) (ms : Array MethodInfo := #[]) (fl : Nat := 33) (sup : Nat := 0) (ifs : Array Nat := #[]) (fds : Array FieldInfo := #[]) : ClassFile where
  minorVersion := 0
  majorVersion := 65
  constantPool := pool
  accessFlags := fl
  thisClass := this
  superClass := sup
  interfaces := ifs
  fields := fds
  methods := ms
  attributes := attrs
def plain (name : String) (sup : Option ClassId) : Class where
  name := name
  kind := .ordinary
  loader := none
  accessFlags := 33
  super := sup
  interfaces := #[]
  cf := none
  fields := #[]
  methods := #[]
  instanceTypes := #[]
  staticTypes := #[]
  resolved := #[]
  callSites := []
  init := .initialized
  statics := none
  mirror := none

def pool0 : Array CpInfo := pool [(5, u "<init>"), (0, u "()V"), (1, .class_ 10), (1, u "java/lang/Object")] 113

def k0m0 : Method := { name := "<init>", desc := "()V", sig := { parameters := [], returnType := none }, accessFlags := 1, code := none }
/-- java/lang/Object -/
def k0 : Class := { plain "java/lang/Object" none with
  accessFlags := 33
  interfaces := #[]
  cf := some (fileOf pool0 8 #[] #[{ accessFlags := 1, nameIndex := 5, descriptorIndex := 6, attributes := #[] }] 33 0 #[] #[])
  fields := #[]
  methods := #[k0m0]
  instanceTypes := #[]
  staticTypes := #[]
  resolved := Array.replicate 124 none
  statics := none }

def pool1 : Array CpInfo := pool [(2, .class_ 4), (1, u "java/lang/Object"), (0, u "<init>"), (0, u "()V"), (2, .long 9223372036854775807), (1, .methodref 12 13), (0, .class_ 14), (0, .nameAndType 15 16), (0, u "com/example/reset/reset/Decimal"), (0, u "writeWhole"), (0, u "(J[CI)I"), (0, .methodref 18 19), (0, .class_ 20), (0, .nameAndType 21 22), (0, u "com/example/reset/reset/DecimalWriteWholePinLaw"), (0, u "digits"), (0, u "(J)I"), (0, .methodref 18 24), (0, .nameAndType 25 26), (0, u "place"), (0, u "(J[CIII)Z"), (0, .long 10), (1, .long 100), (1, .long 1000), (1, .long 10000), (1, .long 100000), (1, .long 1000000), (1, .long 10000000), (1, .long 100000000), (1, .long 1000000000), (1, .long 10000000000), (1, .long 100000000000), (1, .long 1000000000000), (1, .long 10000000000000), (1, .long 100000000000000), (1, .long 1000000000000000), (1, .long 10000000000000000), (1, .long 100000000000000000), (1, .long 1000000000000000000), (1, .long 48), (1, .methodref 18 66), (0, .nameAndType 67 68), (0, u "pow10"), (0, u "(I)J"), (2, u "law"), (0, u "(JII)Z")] 5

def k1m0 : Method := { name := "<init>", desc := "()V", sig := { parameters := [], returnType := none }, accessFlags := 1, code := none }
def k1c1 : Code := { maxStack := 6, maxLocals := 10, code := code, exceptionTable := #[], attributes := #[] }
def k1m1 : Method := { name := "law", desc := "(JII)Z", sig := { parameters := [.long, .int, .int], returnType := some .boolean }, accessFlags := 9, code := some k1c1 }
def k1c2 : Code := { maxStack := 5, maxLocals := 2, code := method_3_code, exceptionTable := #[], attributes := #[] }
def k1m2 : Method := { name := "digits", desc := "(J)I", sig := { parameters := [.long], returnType := some .int }, accessFlags := 10, code := some k1c2 }
def k1c3 : Code := { maxStack := 5, maxLocals := 2, code := method_4_code, exceptionTable := #[], attributes := #[] }
def k1m3 : Method := { name := "pow10", desc := "(I)J", sig := { parameters := [.int], returnType := some .long }, accessFlags := 10, code := some k1c3 }
def k1c4 : Code := { maxStack := 8, maxLocals := 6, code := method_5_code, exceptionTable := #[], attributes := #[] }
def k1m4 : Method := { name := "place", desc := "(J[CIII)Z", sig := { parameters := [.long, (.array .char), .int, .int, .int], returnType := some .boolean }, accessFlags := 10, code := some k1c4 }
/-- com/example/reset/reset/DecimalWriteWholePinLaw -/
def k1 : Class := { plain "com/example/reset/reset/DecimalWriteWholePinLaw" (some 0) with
  accessFlags := 49
  interfaces := #[]
  cf := some (fileOf pool1 18 #[] #[{ accessFlags := 1, nameIndex := 5, descriptorIndex := 6, attributes := #[] }, { accessFlags := 9, nameIndex := 71, descriptorIndex := 72, attributes := #[] }, { accessFlags := 10, nameIndex := 21, descriptorIndex := 22, attributes := #[] }, { accessFlags := 10, nameIndex := 67, descriptorIndex := 68, attributes := #[] }, { accessFlags := 10, nameIndex := 25, descriptorIndex := 26, attributes := #[] }] 49 2 #[] #[])
  fields := #[]
  methods := #[k1m0, k1m1, k1m2, k1m3, k1m4]
  instanceTypes := #[]
  staticTypes := #[]
  resolved := Array.replicate 78 none
  statics := none }

def pool2 : Array CpInfo := pool [(2, .class_ 4), (1, u "java/lang/Object"), (0, u "<init>"), (0, u "()V"), (1, .class_ 10), (1, u "com/example/reset/reset/Decimal"), (0, u "SIGNED"), (0, u "Ljava/util/regex/Pattern;"), (69, u "writeWhole"), (0, u "(J[CI)I"), (0, .long 48), (1, .long 10), (48, u "UNSIGNED"), (8, u "MOST_CHARS"), (0, u "I"), (2, u "MILLION"), (0, u "J"), (0, u "DECIMALS"), (1, u "LARGEST"), (0, u "D")] 25

def k2m0 : Method := { name := "<init>", desc := "()V", sig := { parameters := [], returnType := none }, accessFlags := 2, code := none }
def k2c1 : Code := { maxStack := 8, maxLocals := 8, code := prog_12_method_6_code, exceptionTable := #[], attributes := #[] }
def k2m1 : Method := { name := "writeWhole", desc := "(J[CI)I", sig := { parameters := [.long, (.array .char), .int], returnType := some .int }, accessFlags := 8, code := some k2c1 }
/-- com/example/reset/reset/Decimal -/
def k2 : Class := { plain "com/example/reset/reset/Decimal" (some 0) with
  accessFlags := 32
  interfaces := #[]
  cf := some (fileOf pool2 8 #[] #[{ accessFlags := 2, nameIndex := 5, descriptorIndex := 6, attributes := #[] }, { accessFlags := 8, nameIndex := 82, descriptorIndex := 83, attributes := #[] }] 32 2 #[] #[{ accessFlags := 24, nameIndex := 135, descriptorIndex := 12, attributes := #[] }, { accessFlags := 26, nameIndex := 11, descriptorIndex := 12, attributes := #[] }, { accessFlags := 24, nameIndex := 144, descriptorIndex := 145, attributes := #[] }, { accessFlags := 26, nameIndex := 148, descriptorIndex := 149, attributes := #[] }, { accessFlags := 26, nameIndex := 150, descriptorIndex := 145, attributes := #[] }, { accessFlags := 26, nameIndex := 152, descriptorIndex := 153, attributes := #[] }])
  fields := #[{ name := "UNSIGNED", type := (.object "java/util/regex/Pattern"), accessFlags := 24, slot := 0, constantValue := 0 }, { name := "SIGNED", type := (.object "java/util/regex/Pattern"), accessFlags := 26, slot := 1, constantValue := 0 }, { name := "MOST_CHARS", type := .int, accessFlags := 24, slot := 2, constantValue := 0 }, { name := "MILLION", type := .long, accessFlags := 26, slot := 3, constantValue := 0 }, { name := "DECIMALS", type := .int, accessFlags := 26, slot := 4, constantValue := 0 }, { name := "LARGEST", type := .double, accessFlags := 26, slot := 5, constantValue := 0 }]
  methods := #[k2m0, k2m1]
  instanceTypes := #[]
  staticTypes := #[(.object "java/util/regex/Pattern"), (.object "java/util/regex/Pattern"), .int, .long, .int, .double]
  resolved := Array.replicate 179 none
  statics := none }

def pool3 : Array CpInfo := pool [(1, u "java/lang/Cloneable"), (0, .class_ 1), (0, u "java/lang/Object"), (0, .class_ 3)] 3

/-- java/lang/Cloneable -/
def k3 : Class := { plain "java/lang/Cloneable" (some 0) with
  accessFlags := 1537
  interfaces := #[]
  cf := some (fileOf pool3 2 #[] #[] 1537 4 #[] #[])
  fields := #[]
  methods := #[]
  instanceTypes := #[]
  staticTypes := #[]
  resolved := Array.replicate 8 none
  statics := none }

def pool4 : Array CpInfo := pool [(1, u "java/io/Serializable"), (0, .class_ 1), (0, u "java/lang/Object"), (0, .class_ 3)] 3

/-- java/io/Serializable -/
def k4 : Class := { plain "java/io/Serializable" (some 0) with
  accessFlags := 1537
  interfaces := #[]
  cf := some (fileOf pool4 2 #[] #[] 1537 4 #[] #[])
  fields := #[]
  methods := #[]
  instanceTypes := #[]
  staticTypes := #[]
  resolved := Array.replicate 8 none
  statics := none }

/-- the primitive byte -/
def k5 : Class := { plain "byte" none with kind := .primitive 'B', accessFlags := 0x411 }
/-- [B -/
def k6 : Class := { plain "[B" (some 0) with kind := .array 5 .byte, interfaces := #[3, 4], accessFlags := 1041 }

/-- the primitive char -/
def k7 : Class := { plain "char" none with kind := .primitive 'C', accessFlags := 0x411 }
/-- [C -/
def k8 : Class := { plain "[C" (some 0) with kind := .array 7 .char, interfaces := #[3, 4], accessFlags := 1041 }

/-- the primitive int -/
def k9 : Class := { plain "int" none with kind := .primitive 'I', accessFlags := 0x411 }
/-- [I -/
def k10 : Class := { plain "[I" (some 0) with kind := .array 9 .int, interfaces := #[3, 4], accessFlags := 1041 }

/-- the primitive long -/
def k11 : Class := { plain "long" none with kind := .primitive 'J', accessFlags := 0x411 }
/-- [J -/
def k12 : Class := { plain "[J" (some 0) with kind := .array 11 .long, interfaces := #[3, 4], accessFlags := 1041 }

def heap : Heap := #[]
def classes : Array Class := #[k0, k1, k2, k3, k4, k5, k6, k7, k8, k9, k10, k11, k12]
def interned : List (Array UInt16 × Addr) := []
def slotsUsed : Nat := 0
def theMethod : MethodId := ⟨1, 1⟩
def args0 : Array Value := #[.long 5, .int 2, .int 3]
def aboutOver (below : List Frame) : State where
  vm := { classes := classes, interned := interned.toArray }
  heap := heap
  slotsUsed := slotsUsed
  threads := #[{ frames := .invoking theMethod args0 :: below }]
def below0 : List Frame := [.native { method := ⟨0, 0⟩, args := #[] }]
def about1 : State := aboutOver below0
def p0 : Program := .bare "" "" ""
def e0 : Env := launch0.env 0 0 0
theorem w_frames : about1.frames = Frame.invoking theMethod args0 :: below0 := rfl
set_option maxRecDepth 65536 in
theorem w_args : argsFit about1.vm theMethod args0 = true := by decide +kernel
set_option maxRecDepth 65536 in
theorem w_heap : heapFits about1 = true := by decide +kernel
set_option maxRecDepth 65536 in
theorem w_runnable : about1.curStatus? = some .runnable := by decide +kernel
set_option maxRecDepth 65536 in
theorem w_alone : about1.alone = true := by decide +kernel
set_option maxRecDepth 65536 in
theorem w_named : about1.methodNamed? x = some theMethod := by decide +kernel
set_option maxRecDepth 65536 in
theorem w_hears : about1.hears theMethod below0 = true := by decide +kernel
set_option maxRecDepth 65536 in
theorem w_ripe : about1.ripe theMethod args0 below0 = true := by decide +kernel
theorem w_running : about1.status = .running := rfl
set_option maxRecDepth 65536 in
theorem w_room : about1.hasRoom e0.platform room_1 = true :=
  launch0.hasRoom_least _ room_1 (by decide +kernel) (by decide +kernel) (by decide +kernel) (by decide +kernel) (by decide +kernel) (by decide +kernel)
theorem allAtoms_all (ts : List Jvm.Cond) (a : Array Jvm.Value) (st : Jvm.State) : (allAtoms ts).before a st = ts.all (fun c => c.before a st) := by
  induction ts with
  | nil => rfl
  | cons c t ih =>
    show (Jvm.Cond.and c (allAtoms t)).before a st = _
    rw [Jvm.Cond.before_and, ih, List.all_cons]
def words1 : List Jvm.Cond := Jvm.Cond.code x code maxLocals ret :: tables_1
/-- a 'code' word, met by the world's own term for the bytes: nothing is compared byte by byte -/
theorem code_word {y : MethodName} {bytes : ByteArray} {mx : Nat} {rt : Option FieldType} {a : Array Value} {s : State} {m : MethodId} {meth : Method} {c : Code} (h1 : s.methodNamed? y = some m) (h2 : s.vm.method? m = some meth) (h3 : meth.code = some c) (h4 : c.code = bytes)
    (h5 : (c.maxLocals == mx && c.exceptionTable.isEmpty && decide (c.maxStack ≤ mostOperands) && decide (meth.sig.returnType = rt) && !meth.locks && decide (parseMethodDescriptor y.desc = some meth.sig)) = true) : (Jvm.Cond.code y bytes mx rt).before a s = true := by
  simp only [Bool.and_eq_true, beq_iff_eq, Bool.not_eq_true', decide_eq_true_eq] at h5
  obtain ⟨⟨⟨⟨⟨g1, g2⟩, g3⟩, g4⟩, g5⟩, g6⟩ := h5
  simp [Cond.before, Cond.holds, Cond.value, h1, h2, h3, h4, g1, g2, g3, g4, g5, g6]
def isCode : Jvm.Cond → Bool
  | .code _ _ _ _ => true
  | _ => false
theorem all_split {L : List Jvm.Cond} {P : Jvm.Cond → Bool} (h1 : L.all (fun c => isCode c || P c) = true) (h2 : ∀ c ∈ L.filter isCode, P c = true) : L.all P = true := by
  refine List.all_eq_true.mpr fun c hc => ?_
  have h := List.all_eq_true.mp h1 c hc
  rcases Bool.eq_false_or_eq_true (isCode c) with hi | hi
  · exact h2 c (List.mem_filter.mpr ⟨hc, hi⟩)
  · simpa [hi] using h
set_option maxRecDepth 65536 in
theorem w_c0 : (Jvm.Cond.code x code maxLocals ret).before args0 about1 = true := code_word (m := ⟨1, 1⟩) (meth := k1m1) (c := k1c1) (by decide +kernel) rfl rfl rfl (by decide +kernel)
set_option maxRecDepth 65536 in
theorem w_c1 : (Jvm.Cond.code ({ cls := "com/example/reset/reset/Decimal", name := "writeWhole", desc := "(J[CI)I" } : Jvm.MethodName) prog_12_method_6_code (8 : Nat) (Option.some Jvm.ClassFile.FieldType.int)).before args0 about1 = true := code_word (m := ⟨2, 1⟩) (meth := k2m1) (c := k2c1) (by decide +kernel) rfl rfl rfl (by decide +kernel)
set_option maxRecDepth 65536 in
theorem w_c2 : (Jvm.Cond.code ({ cls := "com/example/reset/reset/DecimalWriteWholePinLaw", name := "digits", desc := "(J)I" } : Jvm.MethodName) method_3_code (2 : Nat) (Option.some Jvm.ClassFile.FieldType.int)).before args0 about1 = true := code_word (m := ⟨1, 2⟩) (meth := k1m2) (c := k1c2) (by decide +kernel) rfl rfl rfl (by decide +kernel)
set_option maxRecDepth 65536 in
theorem w_c3 : (Jvm.Cond.code ({ cls := "com/example/reset/reset/DecimalWriteWholePinLaw", name := "place", desc := "(J[CIII)Z" } : Jvm.MethodName) method_5_code (6 : Nat) (Option.some Jvm.ClassFile.FieldType.boolean)).before args0 about1 = true := code_word (m := ⟨1, 4⟩) (meth := k1m4) (c := k1c4) (by decide +kernel) rfl rfl rfl (by decide +kernel)
set_option maxRecDepth 65536 in
theorem w_c4 : (Jvm.Cond.code ({ cls := "com/example/reset/reset/DecimalWriteWholePinLaw", name := "pow10", desc := "(I)J" } : Jvm.MethodName) method_4_code (2 : Nat) (Option.some Jvm.ClassFile.FieldType.long)).before args0 about1 = true := code_word (m := ⟨1, 3⟩) (meth := k1m3) (c := k1c3) (by decide +kernel) rfl rfl rfl (by decide +kernel)
def codes1 : List Jvm.Cond := [Jvm.Cond.code x code maxLocals ret, Jvm.Cond.code ({ cls := "com/example/reset/reset/Decimal", name := "writeWhole", desc := "(J[CI)I" } : Jvm.MethodName) prog_12_method_6_code (8 : Nat) (Option.some Jvm.ClassFile.FieldType.int), Jvm.Cond.code ({ cls := "com/example/reset/reset/DecimalWriteWholePinLaw", name := "digits", desc := "(J)I" } : Jvm.MethodName) method_3_code (2 : Nat) (Option.some Jvm.ClassFile.FieldType.int), Jvm.Cond.code ({ cls := "com/example/reset/reset/DecimalWriteWholePinLaw", name := "place", desc := "(J[CIII)Z" } : Jvm.MethodName) method_5_code (6 : Nat) (Option.some Jvm.ClassFile.FieldType.boolean), Jvm.Cond.code ({ cls := "com/example/reset/reset/DecimalWriteWholePinLaw", name := "pow10", desc := "(I)J" } : Jvm.MethodName) method_4_code (2 : Nat) (Option.some Jvm.ClassFile.FieldType.long)]
set_option maxRecDepth 65536 in
theorem codes_eq : words1.filter isCode = codes1 := rfl
theorem w_codes : ∀ c ∈ words1.filter isCode, c.before args0 about1 = true := by
  rw [codes_eq]
  intro c hc
  simp only [codes1, List.mem_cons, List.not_mem_nil, or_false] at hc
  rcases hc with rfl | rfl | rfl | rfl | rfl
  · exact w_c0
  · exact w_c1
  · exact w_c2
  · exact w_c3
  · exact w_c4
set_option maxRecDepth 65536 in
theorem w_t1 : (words1.take 24).all (fun c => isCode c || c.before args0 about1) = true := by decide +kernel
set_option maxRecDepth 65536 in
theorem w_t2 : (words1.drop 24).all (fun c => isCode c || c.before args0 about1) = true := by decide +kernel
theorem w_tables : (allAtoms (Jvm.Cond.code x code maxLocals ret :: tables_1)).before args0 about1 = true := by
  rw [allAtoms_all]
  show words1.all (fun c => c.before args0 about1) = true
  refine all_split ?_ w_codes
  rw [← List.take_append_drop 24 words1, List.all_append, w_t1, w_t2]
  rfl
set_option maxRecDepth 65536 in
theorem w_case : (Jvm.Cond.and given_1 narrow_1).before args0 about1 = true := by decide +kernel
theorem w_applies : (headSpec (Jvm.Cond.code x code maxLocals ret :: tables_1) room_1).applies x e0.platform about1 = true :=
  (Spec.applies_iff w_frames).mpr ⟨w_running, w_runnable, w_alone, w_named, w_hears, w_ripe, w_room, w_tables⟩
theorem atStart : AtStart classFile x code maxLocals ret World_1 tables_1 room_1 Calls_1 rest_1 Pre_1 launch0 p0 e0 about1 theMethod args0 below0 :=
  ⟨lists_1, trivial, launch0.admits_env _ _ _, launch0.least_env, fairChoices_fair.cas, fairChoices_fair.clock, w_frames, w_args, w_heap, w_applies, trivial, trivial, w_case⟩
end start1
theorem witness_1 : WitnessClaimed_1 := ⟨start1.p0, start1.e0, start1.about1, start1.theMethod, start1.args0, start1.below0, start1.atStart⟩
end Jvm.Pilot.@@N@@
