import JvmDerived
import JvmDerived.Pilot.@@N@@Statement
import JvmDerived.Pilot.@@N@@Code
set_option linter.unusedVariables false
set_option linter.unusedSimpArgs false
namespace Jvm.Pilot.@@N@@
section
open Jvm.FP.Core
theorem own_qmin : b64.qmin = -1074 := by decide
theorem own_qmax : b64.qmax = 971 := by decide
theorem own_tails : b64.tails = 2 ^ 52 := by decide
theorem own_p : b64.p = 53 := by decide
theorem own_exact (i : Int) (h : i.natAbs < 2 ^ 53) : ∃ c q, round b64 (ofInt i) = .fin (decide (i < 0)) c q ∧ -1074 ≤ q ∧ q ≤ 0 ∧ inUnits c q (-1075) = i.natAbs * 2 ^ 1075 ∧ ((c = 0 ∧ q = -1074) ∨ (2 ^ 52 ≤ c ∧ c < 2 ^ 53 ∧ -52 ≤ q)) := by
  show ∃ c q, roundRatio b64 (decide (i < 0)) i.natAbs 1 0 = _ ∧ _
  generalize hn : i.natAbs = n at *
  by_cases h0 : n = 0
  · subst h0
    refine ⟨0, -1074, ?_, by omega, by omega, ?_, Or.inl ⟨rfl, rfl⟩⟩
    · simp [roundRatio, own_qmin]
    · simp only [inUnits, Nat.zero_mul]
  · have hl : n.log2 < 53 := (Nat.log2_lt h0).mpr h
    have hle : 2 ^ n.log2 ≤ n := Nat.log2_self_le h0
    have hlt : n < 2 ^ (n.log2 + 1) := Nat.lt_log2_self
    generalize n.log2 = k at *
    obtain ⟨j, hj⟩ : ∃ j, k + j = 52 := ⟨52 - k, by omega⟩
    have e1 : 2 ^ k * 2 ^ j = 2 ^ 52 := by rw [← Nat.pow_add, hj]
    have e2 : 2 ^ (k + 1) * 2 ^ j = 2 ^ 53 := by rw [← Nat.pow_add]; congr 1; omega
    have b1 : 2 ^ 52 ≤ n * 2 ^ j := by rw [← e1]; exact Nat.mul_le_mul_right _ hle
    have b2 : n * 2 ^ j < 2 ^ 53 := by rw [← e2]; exact Nat.mul_lt_mul_of_pos_right hlt (Nat.two_pow_pos _)
    refine ⟨n * 2 ^ j, -(j : Int), ?_, by omega, by omega, ?_, Or.inr ⟨b1, b2, by omega⟩⟩
    · refine roundRatio_exact good_b64 (by decide) ⟨by rw [own_p]; exact b2, by rw [own_qmin]; omega, by rw [own_qmax]; omega, Or.inr (by rw [own_tails]; exact b1)⟩ ?_
      have t1 : (0 - -(j : Int)).toNat = j := by omega
      have t2 : (-(j : Int) - 0).toNat = 0 := by omega
      rw [t1, t2, Nat.pow_zero, Nat.mul_one, Nat.mul_one]
    · have t3 : (-(j : Int) - -1075).toNat = 1075 - j := by omega
      have t4 : j + (1075 - j) = 1075 := by omega
      rw [inUnits, t3, Nat.mul_assoc, ← Nat.pow_add, t4]
theorem own_order (s t : Bool) (c d : Nat) (q r : Int) (h1 : -1075 ≤ q) (h2 : -1075 ≤ r) : order (.fin s c q) (.fin t d r) = some (compare (signed s (inUnits c q (-1075))) (signed t (inUnits d r (-1075)))) := by
  have e1 := inUnits_move c (q := q) (r := min q r) (e := -1075) (by omega) (by omega)
  have e2 := inUnits_move d (q := r) (r := min q r) (e := -1075) (by omega) (by omega)
  rw [e1, e2]
  show some (compare _ _) = _
  congr 1
  generalize (min q r - -1075).toNat = m
  have hp : (0 : Int) < 2 ^ m := Int.pow_pos (by decide)
  have g : ∀ (b : Bool) (x : Nat), signed b (x * 2 ^ m) = signed b x * 2 ^ m := by
    intro b x
    cases b <;> simp [signed, Int.neg_mul]
  rw [g, g]
  generalize signed s (inUnits c q (min q r)) = X
  generalize signed t (inUnits d r (min q r)) = Y
  rcases Int.lt_trichotomy X Y with k | k | k
  · rw [Int.compare_eq_lt.mpr k, Int.compare_eq_lt.mpr (Int.mul_lt_mul_of_pos_right k hp)]
  · rw [k]
    rw [Int.compare_eq_eq.mpr rfl, Int.compare_eq_eq.mpr rfl]
  · rw [Int.compare_eq_gt.mpr k, Int.compare_eq_gt.mpr (Int.mul_lt_mul_of_pos_right k hp)]
theorem own_sgn (i : Int) (K : Nat) : signed (decide (i < 0)) (i.natAbs * K) = i * K := by
  unfold signed
  by_cases h : i < 0
  · simp only [h, decide_true, if_true]
    have : (i.natAbs : Int) = -i := by omega
    rw [Int.natCast_mul, this, Int.neg_mul, Int.neg_neg]
  · simp only [h, decide_false, Bool.false_eq_true, if_false]
    have : (i.natAbs : Int) = i := by omega
    rw [Int.natCast_mul, this]
theorem own_cmpK (X Y : Int) (K : Nat) (hK : 0 < K) : compare (X * K) (Y * K) = compare X Y := by
  have hp : (0 : Int) < K := by omega
  rcases Int.lt_trichotomy X Y with k | k | k
  · rw [Int.compare_eq_lt.mpr k, Int.compare_eq_lt.mpr (Int.mul_lt_mul_of_pos_right k hp)]
  · rw [k, Int.compare_eq_eq.mpr rfl, Int.compare_eq_eq.mpr rfl]
  · rw [Int.compare_eq_gt.mpr k, Int.compare_eq_gt.mpr (Int.mul_lt_mul_of_pos_right k hp)]
theorem own_dcmp (a b : UInt64) : dcmp a b = order (val64 a) (val64 b) := rfl
theorem own_cmpll {a b : Int64} (ha : a.toInt.natAbs < 2 ^ 53) (hb : b.toInt.natAbs < 2 ^ 53) : dcmp (l2d a) (l2d b) = some (compare a.toInt b.toInt) := by
  obtain ⟨c, q, e, q1, -, hv, -⟩ := own_exact a.toInt ha
  obtain ⟨d, r, e', r1, -, hv', -⟩ := own_exact b.toInt hb
  rw [own_dcmp, val64_l2d, val64_l2d, e, e', own_order _ _ _ _ _ _ (by omega) (by omega), hv, hv', own_sgn, own_sgn, own_cmpK _ _ _ (Nat.two_pow_pos _)]
def own_two : UInt64 := 4611686018427387904
def own_inf : UInt64 := 9218868437227405312
theorem own_two_val : val64 own_two = .fin false (2 ^ 52) (-51) := by decide +kernel
theorem own_inf_val : val64 own_inf = .inf false := by decide +kernel
theorem own_half {a : Int64} (ha : a.toInt.natAbs < 2 ^ 53) : ∃ c q, val64 (ddiv (l2d a) own_two) = .fin (decide (a.toInt < 0)) c q ∧ -1075 ≤ q ∧ inUnits c q (-1075) = a.toInt.natAbs * 2 ^ 1074 := by
  obtain ⟨c, q, e, q1, q2, hv, hc⟩ := own_exact a.toInt ha
  rw [val64_ddiv, val64_l2d, e, own_two_val]
  generalize decide (a.toInt < 0) = s
  have hs : (s != false) = s := by cases s <;> rfl
  have hne : ¬ (2 ^ 52 = 0) := by decide
  have hq : quotient b64 (.fin s c q) (.fin false (2 ^ 52) (-51)) = roundRatio b64 s c (2 ^ 52) (q - -51) := by
    simp only [quotient, hne, if_false, hs]
  rw [hq]
  have hpow : (2 : Nat) ^ 1075 = 2 ^ 1074 * 2 := Nat.pow_succ ..
  rcases hc with ⟨rfl, rfl⟩ | ⟨c1, c2, c3⟩
  · refine ⟨0, -1074, by simp [roundRatio, own_qmin], by omega, ?_⟩
    have h0 : a.toInt.natAbs * 2 ^ 1075 = 0 := by rw [← hv, inUnits, Nat.zero_mul]
    have h1 : a.toInt.natAbs = 0 := (Nat.mul_eq_zero.mp h0).resolve_right (Nat.ne_of_gt (Nat.two_pow_pos _))
    rw [h1, inUnits, Nat.zero_mul, Nat.zero_mul]
  · refine ⟨c, q - 1, ?_, by omega, ?_⟩
    · refine roundRatio_exact good_b64 (by decide) ⟨by rw [own_p]; exact c2, by rw [own_qmin]; omega, by rw [own_qmax]; omega, Or.inr (by rw [own_tails]; exact c1)⟩ ?_
      have t1 : (q - -51 - (q - 1)).toNat = 52 := by omega
      have t2 : (q - 1 - (q - -51)).toNat = 0 := by omega
      rw [t1, t2, Nat.pow_zero, Nat.mul_one]
    · have t3 : (q - -1075).toNat = (q - 1 - -1075).toNat + 1 := by omega
      rw [inUnits, t3, Nat.pow_succ, ← Nat.mul_assoc, hpow, ← Nat.mul_assoc] at hv
      exact Nat.mul_right_cancel (by decide) hv
theorem own_cmphalf {a b : Int64} (ha : a.toInt.natAbs < 2 ^ 53) (hb : b.toInt.natAbs < 2 ^ 53) : dcmp (ddiv (l2d a) own_two) (l2d b) = some (compare a.toInt (2 * b.toInt)) := by
  obtain ⟨c, q, e, q1, hv⟩ := own_half ha
  obtain ⟨d, r, e', r1, -, hv', -⟩ := own_exact b.toInt hb
  rw [own_dcmp, val64_l2d, e, e', own_order _ _ _ _ _ _ (by omega) (by omega), hv, hv', own_sgn, own_sgn]
  have hpow : ((2 ^ 1075 : Nat) : Int) = 2 * ((2 ^ 1074 : Nat) : Int) := by
    have : (2 : Nat) ^ 1075 = 2 * 2 ^ 1074 := by rw [Nat.mul_comm]; exact Nat.pow_succ ..
    rw [this, Int.natCast_mul]
    rfl
  rw [hpow, ← Int.mul_assoc, Int.mul_comm b.toInt 2, own_cmpK _ _ _ (Nat.two_pow_pos _)]
theorem own_cmpinf {b : Int64} (hb : b.toInt.natAbs < 2 ^ 53) : dcmp own_inf (l2d b) = some .gt := by
  obtain ⟨d, r, e', r1, -, hv', -⟩ := own_exact b.toInt hb
  rw [own_dcmp, own_inf_val, val64_l2d, e']
  rfl
end
end Jvm.Pilot.@@N@@
namespace Jvm.Pilot.@@N@@
section
open Sem ClassFile Op Lib Jvm.Stand Jvm.Free Jvm.LawKit
theorem own_l2d {tb : Tables} [Ours tb] {e : Env} {below : List Frame} {T target : State} {m : MethodId} {c : Code} {g : JFrame} (h : At T m c below) (hx : tb.exec = Jvm.exec) (hg : g.method = m) {x : Int64} {rest : List Value} (hd : decode c.code g.pc = .ok (.l2d, 1)) (hs : g.stack = .long x :: rest)
    (hr : Steps tb e below (T.setTop { g with pc := g.pc + 1, stack := .double (FP.l2d x) :: rest }) target) : Steps tb e below (T.setTop g) target := by
  subst hg
  jvm_step h [h.top, hx, hd, hs]
  exact hr
theorem own_i2d {tb : Tables} [Ours tb] {e : Env} {below : List Frame} {T target : State} {m : MethodId} {c : Code} {g : JFrame} (h : At T m c below) (hx : tb.exec = Jvm.exec) (hg : g.method = m) {x : Int32} {rest : List Value} (hd : decode c.code g.pc = .ok (.i2d, 1)) (hs : g.stack = .int x :: rest)
    (hr : Steps tb e below (T.setTop { g with pc := g.pc + 1, stack := .double (FP.i2d x) :: rest }) target) : Steps tb e below (T.setTop g) target := by
  subst hg
  jvm_step h [h.top, hx, hd, hs]
  exact hr
theorem own_dloadN {tb : Tables} [Ours tb] {e : Env} {below : List Frame} {T target : State} {m : MethodId} {c : Code} {g : JFrame} (h : At T m c below) (hx : tb.exec = Jvm.exec) (hg : g.method = m) {k : Fin 4} {x : UInt64} (hd : decode c.code g.pc = .ok (.dload_n k, 1)) (hl : g.locals[k.val]? = some (.val (.double x)))
    (hr : Steps tb e below (T.setTop { g with pc := g.pc + 1, stack := .double x :: g.stack }) target) : Steps tb e below (T.setTop g) target := by
  subst hg
  jvm_step h [h.top, hx, hd, hl]
  exact hr
theorem own_dload {tb : Tables} [Ours tb] {e : Env} {below : List Frame} {T target : State} {m : MethodId} {c : Code} {g : JFrame} (h : At T m c below) (hx : tb.exec = Jvm.exec) (hg : g.method = m) {k : Nat} {x : UInt64} (hd : decode c.code g.pc = .ok (.dload k, 2)) (hl : g.locals[k]? = some (.val (.double x)))
    (hr : Steps tb e below (T.setTop { g with pc := g.pc + 2, stack := .double x :: g.stack }) target) : Steps tb e below (T.setTop g) target := by
  subst hg
  jvm_step h [h.top, hx, hd, hl]
  exact hr
theorem own_dstore {tb : Tables} [Ours tb] {e : Env} {below : List Frame} {T target : State} {m : MethodId} {c : Code} {g : JFrame} (h : At T m c below) (hx : tb.exec = Jvm.exec) (hg : g.method = m) {k : Nat} {x : UInt64} {rest : List Value} {l' : Array Slot} (hd : decode c.code g.pc = .ok (.dstore k, 2)) (hs : g.stack = .double x :: rest) (hl : storeLocals g.locals k (.double x) = some l')
    (hr : Steps tb e below (T.setTop { g with pc := g.pc + 2, stack := rest, locals := l' }) target) : Steps tb e below (T.setTop g) target := by
  subst hg
  jvm_step h [h.top, hx, hd, hs, hl]
  exact hr
theorem own_dcmp_ {tb : Tables} [Ours tb] {e : Env} {below : List Frame} {T target : State} {m : MethodId} {c : Code} {g : JFrame} (h : At T m c below) (hx : tb.exec = Jvm.exec) (hg : g.method = m) {x y : UInt64} {o : CmpOp} {rest : List Value} (hd : decode c.code g.pc = .ok (.dcmp o, 1)) (hs : g.stack = .double y :: .double x :: rest)
    (hr : Steps tb e below (T.setTop { g with pc := g.pc + 1, stack := .int (cmpValue (FP.dcmp x y) o) :: rest }) target) : Steps tb e below (T.setTop g) target := by
  subst hg
  jvm_step h [h.top, hx, hd, hs]
  exact hr
theorem own_ddiv {tb : Tables} [Ours tb] {e : Env} {below : List Frame} {T target : State} {m : MethodId} {c : Code} (h : At T m c below) (hx : tb.exec = Jvm.exec) {pc : Nat} {Ls : Array Slot} {x y : UInt64} {rest : List Value} (hd : decode c.code pc = .ok (.ddiv, 1)) (hn : Jvm.Free.Fl.NoNaN64 (FP.ddiv x y))
    (hr : Steps tb e below (T.setTop (mkF m (pc + 1) Ls (.double (FP.ddiv x y) :: rest))) target) : Steps tb e below (T.setTop (mkF m pc Ls (.double y :: .double x :: rest))) target := by
  show Steps tb e below (T.setTop { method := m, pc := pc, locals := Ls, stack := .double y :: .double x :: rest, locked := none }) _
  jvm_step h [h.top, hx, hd, Op.ddiv.at_number h.top hn]
  exact hr
end
end Jvm.Pilot.@@N@@
set_option maxRecDepth 65536
namespace Jvm.RoadKit
open Sem ClassFile Op Lib Jvm.Stand Jvm.Free Jvm.LawKit
section New
variable {p : Program} {l : Launch} {e : Env} {R : Room} {s : State} {m : MethodId} {args : Array Value} {below : List Frame} {meth : Method} {c : Code} {T : State} {locs : List Loc} {cells slots : Nat}
theorem retI (X : Stand p l e R s m args below meth c T locs cells slots) (hx : p.tables.exec = Jvm.exec) {pc : Nat} {Ls : Array Slot} {z : Int32} {rest : List Value} (hret : meth.sig.returnType = some .int) (hd : decode c.code pc = .ok (.ireturn, 1)) {fs : List Frame}
    (hl : ∀ (f : JFrame) (acts : List Action), f.method = m → f.locked = none → f.entered = [] → (doReturn e (T.setTop f) acts (some (.int z))).1 = T.setFrames fs) : Steps p.tables e below (T.setTop (mkF m pc Ls (.int z :: rest))) (T.setFrames fs) := by
  have hm' : T.vm.method? m = some meth := X.method'
  have hn : narrow .int (.int z) = .int z := rfl
  show Steps p.tables e below (T.setTop { method := m, pc := pc, locals := Ls, stack := _ :: rest, locked := none }) _
  jvm_step X.here [X.here.top, hx, hd, hm', hret, hn]
  first | (intro acts; rw [hl _ acts rfl rfl rfl]) | rw [hl _ _ rfl rfl rfl]
  exact Steps.refl _
end New
end Jvm.RoadKit
namespace Jvm.Pilot.@@N@@
open Jvm Jvm.ClassFile Sem Op Lib Jvm.Free Jvm.Stand Jvm.LawKit Jvm.RoadKit Bundle Jvm.Pilot.@@N@@.Jvm.D
theorem own_eqlong {args : Array Value} {first s : State} {o : Option Outcome} {idx : List Nat} {t : Term} {j : Int64} (h : (Cond.eq t (.long j)).value args first o s idx = some true) : t.eval args first o idx s = some (.long j) := by
  obtain ⟨x, y, h1, h2, k1, k2⟩ := cmp_v (Or.inl h)
  have e2 : Value.long j = y := Option.some.inj h2
  subst e2
  obtain ⟨z, rfl⟩ := k2
  have h3 : (Term.long j).eval args first o idx s = some (.long j) := rfl
  have : z = j := by simpa [Cond.value, h1, h3] using h
  rw [h1, this]
theorem own_and (x m : Int32) (hm : 0 ≤ m.toInt) : 0 ≤ (x &&& m).toInt ∧ (x &&& m).toInt ≤ m.toInt := by
  have e : (x &&& m).toBitVec.toNat = x.toBitVec.toNat &&& m.toBitVec.toNat := by simp
  have h1 : (x &&& m).toBitVec.toNat ≤ m.toBitVec.toNat := by rw [e]; exact Nat.and_le_right
  have h2 := m.toBitVec.isLt
  rw [← Int32.toInt_toBitVec, BitVec.toInt_eq_toNat_cond] at hm ⊢
  rw [← Int32.toInt_toBitVec m, BitVec.toInt_eq_toNat_cond]
  generalize (x &&& m).toBitVec.toNat = a at *
  generalize m.toBitVec.toNat = b at *
  split at hm
  · split <;> omega
  · omega
theorem own_of (t : Int32) (n : Nat) (h0 : 0 ≤ t.toInt) (h1 : t.toInt < n) (hn : n ≤ 2 ^ 31) : ∃ k, k < n ∧ t = Int32.ofNat k ∧ t.toNatClampNeg = k := by
  refine ⟨t.toInt.toNat, by omega, ?_, ?_⟩
  · apply Int32.toInt_inj.1
    rw [Int32.toInt_ofNat_of_lt (by omega)]
    omega
  · rfl
theorem own_sta_keep {Z : State} {h h' : Heap} {a : Addr} {C n d K : String} {v : Value} (F : Sta Z h C n d v) (E : Exa Z h a K) (Kp : Keep h h' [a]) : Sta Z h' C n d v := by
  obtain ⟨cf, i, k, f, st, cell, h1, h2, h3, h4, h5, h6, h7⟩ := F
  obtain ⟨cell', k', e1, -, -, e4, -⟩ := E
  have ne : st ≠ a := fun q => by
    subst q
    cases h5.symm.trans e1
    rw [h6] at e4
    cases e4
  exact ⟨cf, i, k, f, st, cell, h1, h2, h3, h4, Kp.2.1 _ _ h5 (by simpa using ne), h6, h7⟩
def own_rf (x : UInt64) (m : Int64) : Int32 := if 0 < cmpValue (FP.dcmp x (FP.l2d m)) .l then 1 else 0
theorem own_cv (o : Ordering) : (0 < cmpValue (some o) .l) ↔ o = .gt := by cases o <;> decide
theorem own_gt {X Y : Int} : compare X Y = .gt ↔ Y < X := Int.compare_eq_gt
theorem own_rf_of {x : UInt64} {m : Int64} {X Y : Int} (h : FP.dcmp x (FP.l2d m) = some (compare X Y)) : own_rf x m = if Y < X then 1 else 0 := by
  unfold own_rf
  rw [h]
  simp only [own_cv, own_gt]
theorem own_ms (x : Int32) : 0 ≤ (x &&& 2147483647).toInt64.toInt ∧ (x &&& 2147483647).toInt64.toInt ≤ 2147483647 := by
  have h := own_and x 2147483647 (by decide)
  have e : (2147483647 : Int32).toInt = 2147483647 := by decide
  rw [Int32.toInt_toInt64]
  omega
theorem own_mq (x : Int32) : ((x &&& 2147483647).toInt64 * 1000000).toInt = (x &&& 2147483647).toInt64.toInt * 1000000 := by
  have h := own_ms x
  rw [Int64.toInt_mul, Int.bmod_def]
  have e : (1000000 : Int64).toInt = 1000000 := by decide
  rw [e]
  split <;> omega
theorem own_mb (x : Int32) : ((x &&& 2147483647).toInt64 * 1000000).toInt.natAbs < 2 ^ 53 := by
  have h := own_ms x
  rw [own_mq]
  omega
theorem own_lc (x y : Int64) : (lcmpW x y < 0 ↔ x.toInt < y.toInt) ∧ (0 < lcmpW x y ↔ y.toInt < x.toInt) := by
  unfold lcmpW
  constructor <;> (repeat' split) <;> simp_all [Int64.lt_iff_toInt_lt, ← Int64.toInt_inj] <;> omega
theorem own_t1 (x : Int32) : ¬ 0 < lcmpW (x &&& 2147483647).toInt64 9223372036854 := by
  have h := own_ms x
  rw [(own_lc _ _).2]
  have e : (9223372036854 : Int64).toInt = 9223372036854 := by decide
  omega
theorem own_t2 (x : Int32) : ¬ lcmpW (x &&& 2147483647).toInt64 (-9223372036854) < 0 := by
  have h := own_ms x
  rw [(own_lc _ _).1]
  have e : (-9223372036854 : Int64).toInt = -9223372036854 := by decide
  omega
theorem own_m3 (x : Int32) : own_rf (9218868437227405312 : UInt64) ((x &&& 2147483647).toInt64 * 1000000) = 1 := by
  unfold own_rf
  rw [if_pos]
  rw [show FP.dcmp (9218868437227405312 : UInt64) (FP.l2d ((x &&& 2147483647).toInt64 * 1000000)) = some .gt from own_cmpinf (own_mb x)]
  decide
theorem own_v53 (w : Int64) : (w &&& 9007199254740991).toInt.natAbs < 2 ^ 53 := by
  have e : (w &&& 9007199254740991).toBitVec.toNat = w.toBitVec.toNat &&& 9007199254740991 := by simp
  have h1 : (w &&& 9007199254740991).toBitVec.toNat ≤ 9007199254740991 := by rw [e]; exact Nat.and_le_right
  rw [← Int64.toInt_toBitVec, BitVec.toInt_eq_toNat_cond]
  generalize (w &&& 9007199254740991).toBitVec.toNat = a at *
  split <;> omega
theorem own_m2 (x : Int32) (w : Int64) : own_rf (FP.l2d (w &&& 9007199254740991)) ((x &&& 2147483647).toInt64 * 1000000) = if 0 < lcmpW (w &&& 9007199254740991) ((x &&& 2147483647).toInt64 * 1000000) then 1 else 0 := by
  rw [own_rf_of (own_cmpll (own_v53 w) (own_mb x))]
  simp only [(own_lc _ _).2]
theorem own_k (w : Int64) : -8 ≤ ((w &&& 15).toInt32 - 8).toInt ∧ ((w &&& 15).toInt32 - 8).toInt ≤ 7 := by
  have e : (w &&& 15).toBitVec.toNat = w.toBitVec.toNat &&& 15 := by simp
  have h1 : (w &&& 15).toBitVec.toNat ≤ 15 := by rw [e]; exact Nat.and_le_right
  have h2 : 0 ≤ (w &&& 15).toInt ∧ (w &&& 15).toInt ≤ 15 := by
    rw [← Int64.toInt_toBitVec, BitVec.toInt_eq_toNat_cond]
    generalize (w &&& 15).toBitVec.toNat = a at *
    split <;> omega
  have h3 : (w &&& 15).toInt32.toInt = (w &&& 15).toInt := by
    rw [Int64.toInt_toInt32, Int.bmod_def]
    split <;> omega
  rw [Int32.toInt_sub, h3, Int.bmod_def]
  have e8 : (8 : Int32).toInt = 8 := by decide
  rw [e8]
  split <;> omega
theorem own_sum (x : Int32) (k : Int32) (h : -8 ≤ k.toInt ∧ k.toInt ≤ 7) : (2 * ((x &&& 2147483647).toInt64 * 1000000) + k.toInt64).toInt = 2 * ((x &&& 2147483647).toInt64 * 1000000).toInt + k.toInt := by
  have hm := own_ms x
  have hq := own_mq x
  generalize ((x &&& 2147483647).toInt64 * 1000000) = m at *
  have e2 : (2 : Int64).toInt = 2 := by decide
  rw [Int64.toInt_add, Int64.toInt_mul, e2, Int32.toInt_toInt64]
  have : (2 * m.toInt).bmod (2 ^ 64) = 2 * m.toInt := by rw [Int.bmod_def]; split <;> omega
  rw [this, Int.bmod_def]
  split <;> omega
theorem own_sb (x : Int32) (k : Int32) (h : -8 ≤ k.toInt ∧ k.toInt ≤ 7) : (2 * ((x &&& 2147483647).toInt64 * 1000000) + k.toInt64).toInt.natAbs < 2 ^ 53 := by
  have hm := own_ms x
  rw [own_sum x k h, own_mq]
  omega
theorem own_h (x : Int32) (k : Int32) (h : -8 ≤ k.toInt ∧ k.toInt ≤ 7) : FP.dcmp (FP.ddiv (FP.l2d (2 * ((x &&& 2147483647).toInt64 * 1000000) + k.toInt64)) (4611686018427387904 : UInt64)) (FP.l2d ((x &&& 2147483647).toInt64 * 1000000)) = some (compare (2 * ((x &&& 2147483647).toInt64 * 1000000).toInt + k.toInt) (2 * ((x &&& 2147483647).toInt64 * 1000000).toInt)) := by
  rw [← own_sum x k h]
  exact own_cmphalf (own_sb x k h) (own_mb x)
theorem own_m1 (x : Int32) (k : Int32) (h : -8 ≤ k.toInt ∧ k.toInt ≤ 7) : own_rf (FP.ddiv (FP.l2d (2 * ((x &&& 2147483647).toInt64 * 1000000) + k.toInt64)) (4611686018427387904 : UInt64)) ((x &&& 2147483647).toInt64 * 1000000) = if 0 < k then 1 else 0 := by
  rw [own_rf_of (own_h x k h)]
  have e0 : (0 : Int32).toInt = 0 := by decide
  have q : (2 * ((x &&& 2147483647).toInt64 * 1000000).toInt < 2 * ((x &&& 2147483647).toInt64 * 1000000).toInt + k.toInt) ↔ 0 < k := by rw [Int32.lt_iff_toInt_lt, e0]; omega
  simp only [q]
theorem own_nan1 (x : Int32) (w : Int64) : Jvm.Free.Fl.NoNaN64 (FP.ddiv (FP.l2d (2 * ((x &&& 2147483647).toInt64 * 1000000) + ((w &&& 15).toInt32 - 8).toInt64)) (4611686018427387904 : UInt64)) := (Jvm.Free.Fl.dcmp_some (own_h x _ (own_k w))).1
theorem own_nan2 (n : Int32) : Jvm.Free.Fl.NoNaN64 (FP.ddiv (4741671816366391296 : UInt64) (FP.i2d n)) := Jvm.Free.Fl.ddiv_out0 (by unfold Jvm.Free.Fl.Fin64; decide) (by unfold Jvm.Free.Fl.Nz64; decide) (Jvm.Free.Fl.i2d_fin n).noNaN
theorem d4_0 : decode jdk_71_method_1_code 0 = .ok (.aload_n 0, 1) := by decide +kernel
theorem d4_1 : decode jdk_71_method_1_code 1 = .ok (.invokespecial 1, 3) := by decide +kernel
theorem d4_4 : decode jdk_71_method_1_code 4 = .ok (.return_, 1) := by decide +kernel
theorem pn_0 : plainName "java/util/AbstractMap" = true := by first | (simp [plainName, overriddenIn]; done) | decide +kernel
theorem ef_rm4 (m : MethodId) (x0 : Addr) : entryFrame m #[(.ref x0)] 1 = mkF m 0 #[.val (.ref x0)] [] := by first | (simp [entryFrame, mkF, argsToLocals, Value.category]; done) | rfl
def Q4 (Z : State) (a1 : Addr) (h0 : Heap) (n0 : Nat) (v : Option Value) (h : Heap) (L : List Loc) : Prop := v = none ∧ Fr n0 L ∧ h = h0
set_option maxHeartbeats 40000000 in
theorem rm4 (l : Launch) (Z : State) (a0 : Array Value) (hw : ∀ d ∈ tables_1, d.before a0 Z = true) (ws : List Jvm.Cond) (a1 : Addr) (h0 : Heap) (n0 : Nat) (Z0 : n0 ≤ h0.size) :
    MetFree l (⟨"java/util/AbstractMap", "<init>", "()V"⟩ : MethodName) (head1 (Jvm.Cond.code (⟨"java/util/AbstractMap", "<init>", "()V"⟩ : MethodName) jdk_71_method_1_code 1 none :: ws) ({ frames := 1, cells := 0, slots := 0, locals := 12 } : Room)) (fun a U => a = #[(.ref a1)] ∧ Z.Warmed39 U.vm ∧ U.heap = h0) (fun _ _ _ _ _ => True) (fun _ U o U' => ∃ v L, o = .returned v ∧ Q4 Z a1 h0 n0 v U'.heap L ∧ FrameEnd U o U' L ({ frames := 1, cells := 0, slots := 0, locals := 12 } : Room).cells ({ frames := 1, cells := 0, slots := 0, locals := 12 } : Room).slots) := by
  refine MetFree.of_bodySF (plainFor_of_name pn_0) hisR ?_
  intro p e s m args below meth c s₁ Bd hml0 hP hK
  obtain ⟨rfl, hZ, hh⟩ := hP
  have hx := Bd.exec
  have hby := Bd.bytes
  have hml : c.maxLocals = 1 := hml0
  have hown : s.vm.findClass "java/util/AbstractMap" = some m.cls := findClass_of_methodNamed Bd.named
  have hnm := (name_of_methodNamed Bd.named Bd.method).1
  have X0 : Stand p l e ({ frames := 1, cells := 0, slots := 0, locals := 12 } : Room) s m #[(.ref a1)] below meth c s₁ [] 0 0 := Stand.of_body Bd
  have e0 : s₁.heap = h0 := by rw [← hh, Bd.state]; rfl
  have N0 := Fr.nil n0
  have pre0 : ∀ tgt, Steps p.tables e below (s₁.setTop (mkF m 0 #[.val (.ref a1)] [])) tgt → Steps p.tables e below (s₁.setTop (entryFrame m #[(.ref a1)] 1)) tgt := fun tgt k => castTop (ef_rm4 m a1) k
  obtain ⟨T1, X1, e1, st1⟩ := initO X0 hx hZ hown (hw _ (List.mem_of_getElem? (i := 23) rfl)) (hw _ (List.mem_of_getElem? (i := 9) rfl)) (hw _ (List.mem_of_getElem? (i := 10) rfl)) e0 (g := (mkF m 1 #[.val (.ref a1)] [(.ref a1)])) rfl (by rw [hml]; rfl) rfl (hb hby d4_1) (by decide) (W := 0) (by show 2 * 0 + _ ≤ _; exact Nat.le_of_eq rfl) (by decide)
  obtain ⟨fs, hr, hrun, hended, hW, hsame⟩ := X1.leave (v := none) (fun _ => rfl)
  refine ⟨_, _, pre0 _ ?_, hrun, hended, _, _, rfl, ?_, ⟨_, rfl⟩, hW, hsame.mono (by decide) (by decide)⟩
  · show Steps p.tables e below (s₁.setTop (mkF m 0 #[.val (.ref a1)] [])) _
    refine XS.aloadN X0.here hx rfl (hb hby d4_0) rfl rfl ?_
    show Steps p.tables e below (s₁.setTop (mkF m 1 #[.val (.ref a1)] [(.ref a1)])) _
    refine st1 _ ?_
    show Steps p.tables e below (T1.setTop (mkF m 4 #[.val (.ref a1)] [])) _
    exact X1.returnOut hx Bd.returns (hb hby d4_4) hr
  · show Q4 Z a1 h0 n0 _ T1.heap _
    rw [e1]
    exact ⟨rfl, N0, rfl⟩
theorem d5_0 : decode jdk_2581_method_6_code 0 = .ok (.aload_n 0, 1) := by decide +kernel
theorem d5_1 : decode jdk_2581_method_6_code 1 = .ok (.iconst 2, 1) := by decide +kernel
theorem d5_2 : decode jdk_2581_method_6_code 2 = .ok (.iload_n 1, 1) := by decide +kernel
theorem d5_3 : decode jdk_2581_method_6_code 3 = .ok (.imul, 1) := by decide +kernel
theorem d5_4 : decode jdk_2581_method_6_code 4 = .ok (.anewarray 49, 3) := by decide +kernel
theorem d5_7 : decode jdk_2581_method_6_code 7 = .ok (.putfield 51, 3) := by decide +kernel
theorem d5_10 : decode jdk_2581_method_6_code 10 = .ok (.return_, 1) := by decide +kernel
theorem pn_1 : plainName "java/util/IdentityHashMap" = true := by first | (simp [plainName, overriddenIn]; done) | decide +kernel
theorem ef_rm5 (m : MethodId) (x0 : Addr) (x1 : Int32) : entryFrame m #[(.ref x0), (.int x1)] 2 = mkF m 0 #[.val (.ref x0), .val (.int x1)] [] := by first | (simp [entryFrame, mkF, argsToLocals, Value.category]; done) | rfl
def Q5 (Z : State) (a1 : Addr) (p1 : Int32) (h0 : Heap) (n0 : Nat) (v : Option Value) (h : Heap) (L : List Loc) : Prop := v = none ∧ Fr n0 L ∧ Keep h0 h [a1] ∧ Exa Z h a1 "java/util/IdentityHashMap"
set_option maxHeartbeats 40000000 in
theorem rm5 (l : Launch) (Z : State) (a0 : Array Value) (hw : ∀ d ∈ tables_1, d.before a0 Z = true) (ws : List Jvm.Cond) (a1 : Addr) (p1 : Int32) (h0 : Heap) (n0 : Nat) (Z0 : n0 ≤ h0.size) (E1 : Exa Z h0 a1 "java/util/IdentityHashMap") (gn_a1 : n0 ≤ a1) (F1 : Fld Z h0 a1 "java/util/IdentityHashMap" "table" "[Ljava/lang/Object;" .null) (hp : p1 = 32) :
    MetFree l (⟨"java/util/IdentityHashMap", "init", "(I)V"⟩ : MethodName) (head1 (Jvm.Cond.code (⟨"java/util/IdentityHashMap", "init", "(I)V"⟩ : MethodName) jdk_2581_method_6_code 2 none :: ws) ({ frames := 0, cells := 1, slots := 64, locals := 0 } : Room)) (fun a U => a = #[(.ref a1), (.int p1)] ∧ Z.Warmed39 U.vm ∧ U.heap = h0) (fun _ _ _ _ _ => True) (fun _ U o U' => ∃ v L, o = .returned v ∧ Q5 Z a1 p1 h0 n0 v U'.heap L ∧ FrameEnd U o U' L ({ frames := 0, cells := 1, slots := 64, locals := 0 } : Room).cells ({ frames := 0, cells := 1, slots := 64, locals := 0 } : Room).slots) := by
  refine MetFree.of_bodySF (plainFor_of_name pn_1) hisR ?_
  intro p e s m args below meth c s₁ Bd hml0 hP hK
  obtain ⟨rfl, hZ, hh⟩ := hP
  have hx := Bd.exec
  have hby := Bd.bytes
  have hml : c.maxLocals = 2 := hml0
  have hown : s.vm.findClass "java/util/IdentityHashMap" = some m.cls := findClass_of_methodNamed Bd.named
  have hnm := (name_of_methodNamed Bd.named Bd.method).1
  have X0 : Stand p l e ({ frames := 0, cells := 1, slots := 64, locals := 0 } : Room) s m #[(.ref a1), (.int p1)] below meth c s₁ [] 0 0 := Stand.of_body Bd
  have e0 : s₁.heap = h0 := by rw [← hh, Bd.state]; rfl
  have N0 := Fr.nil n0
  have pre0 : ∀ tgt, Steps p.tables e below (s₁.setTop (mkF m 0 #[.val (.ref a1), .val (.int p1)] [])) tgt → Steps p.tables e below (s₁.setTop (entryFrame m #[(.ref a1), (.int p1)] 2)) tgt := fun tgt k => castTop (ef_rm5 m a1 p1) k
  have pre1 : ∀ tgt, Steps p.tables e below (s₁.setTop (mkF m 4 #[.val (.ref a1), .val (.int p1)] [(.int ((2 : Int32) * p1)), (.ref a1)])) tgt → Steps p.tables e below (s₁.setTop (entryFrame m #[(.ref a1), (.int p1)] 2)) tgt := fun tgt kt => pre0 _ (by
    show Steps p.tables e below (s₁.setTop (mkF m 0 #[.val (.ref a1), .val (.int p1)] [])) _
    refine XS.aloadN X0.here hx rfl (hb hby d5_0) rfl rfl ?_
    show Steps p.tables e below (s₁.setTop (mkF m 1 #[.val (.ref a1), .val (.int p1)] [(.ref a1)])) _
    refine XS.iconst X0.here hx rfl (hb hby d5_1) ?_
    show Steps p.tables e below (s₁.setTop (mkF m 2 #[.val (.ref a1), .val (.int p1)] [(.int (2 : Int32)), (.ref a1)])) _
    refine XS.iloadN X0.here hx rfl (hb hby d5_2) rfl ?_
    show Steps p.tables e below (s₁.setTop (mkF m 3 #[.val (.ref a1), .val (.int p1)] [(.int p1), (.int (2 : Int32)), (.ref a1)])) _
    refine XS.imul X0.here hx rfl (hb hby d5_3) rfl ?_
    exact kt)
  have rw2 : ((2 : Int32) * p1) = (64 : Int32) := by first | (rw [hp]; done) | (rw [hp]; rfl)
  rw [rw2] at pre1
  obtain ⟨T3, h3, k3, X3, e3, E3, A3, O3, st3⟩ := newR X0 hx hZ hown (hw _ (List.mem_of_getElem? (i := 29) rfl)) (hw _ (List.mem_of_getElem? (i := 30) rfl)) e0 (g := (mkF m 4 #[.val (.ref a1), .val (.int p1)] [(.int (64 : Int32)), (.ref a1)])) rfl (hb hby d5_4) rfl (by decide) (cap := 64) (by decide) (by decide) (by decide) (by decide)
  obtain ⟨b3, g3⟩ : ∃ z, z = h0.size := ⟨_, rfl⟩
  rw [← g3] at A3 st3
  have ne4 : a1 ≠ b3 := Nat.ne_of_lt (Nat.lt_of_lt_of_le E1.lt (Nat.le_of_eq g3.symm))
  have f5 := E1.ext E3
  have f6 := F1.ext E3
  have gn_b3 : n0 ≤ b3 := Nat.le_trans Z0 (Nat.le_of_eq g3.symm)
  have zz7 : n0 ≤ h3.size := Nat.le_trans Z0 E3.1
  have sz_b3 : h0.size ≤ b3 := Nat.le_trans (Keep.refl h0 [a1]).1 (Nat.le_of_eq g3.symm)
  have K8 : Keep h0 h3 [a1] := (Keep.refl h0 [a1]).ext E3
  obtain ⟨T9, h9, X9, e9, W9, st9⟩ := putF X3 hx hZ hown (host := "") (Or.inl (hw _ (List.mem_of_getElem? (i := 31) rfl))) Via.refl e3 f6 f5 (Or.inl (hw _ (List.mem_of_getElem? (i := 32) rfl))) (hw _ (List.mem_of_getElem? (i := 12) rfl)) (ty := (.array (.object "java/lang/Object"))) (by decide) rfl rfl (g := (mkF m 7 #[.val (.ref a1), .val (.int p1)] [(.ref b3), (.ref a1)])) rfl rfl (hb hby d5_7)
  have f10 := f6.same W9
  have f11 := f5.wr W9
  have zz12 : n0 ≤ h9.size := Nat.le_trans zz7 (Keep.of_wr W9).1
  have N13 := Fr.snoc X9 N0 gn_a1
  have K14 : Keep h0 h9 [a1] := K8.wr W9 (Or.inl (List.mem_of_getElem? (i := 0) rfl))
  obtain ⟨fs, hr, hrun, hended, hW, hsame⟩ := X9.leave (v := none) (fun _ => rfl)
  refine ⟨_, _, pre1 _ ?_, hrun, hended, _, _, rfl, ?_, ⟨_, rfl⟩, hW, hsame.mono (by decide) (by decide)⟩
  · show Steps p.tables e below (s₁.setTop (mkF m 4 #[.val (.ref a1), .val (.int p1)] [(.int (64 : Int32)), (.ref a1)])) _
    refine st3 _ ?_
    show Steps p.tables e below (T3.setTop (mkF m 7 #[.val (.ref a1), .val (.int p1)] [(.ref b3), (.ref a1)])) _
    refine st9 _ ?_
    show Steps p.tables e below (T9.setTop (mkF m 10 #[.val (.ref a1), .val (.int p1)] [])) _
    exact X9.returnOut hx Bd.returns (hb hby d5_10) hr
  · show Q5 Z a1 p1 h0 n0 _ T9.heap _
    rw [e9]
    exact ⟨rfl, N13, K14, f11⟩
theorem d3_0 : decode jdk_2581_method_3_code 0 = .ok (.aload_n 0, 1) := by decide +kernel
theorem d3_1 : decode jdk_2581_method_3_code 1 = .ok (.invokespecial 7, 3) := by decide +kernel
theorem pd_0 : parseMethodDescriptor "()V" = some ⟨[], none⟩ := by decide +kernel
theorem d3_4 : decode jdk_2581_method_3_code 4 = .ok (.aload_n 0, 1) := by decide +kernel
theorem d3_5 : decode jdk_2581_method_3_code 5 = .ok (.bipush 32, 2) := by decide +kernel
theorem d3_7 : decode jdk_2581_method_3_code 7 = .ok (.invokevirtual 13, 3) := by decide +kernel
theorem pd_1 : parseMethodDescriptor "(I)V" = some ⟨[.int], none⟩ := by decide +kernel
theorem d3_10 : decode jdk_2581_method_3_code 10 = .ok (.return_, 1) := by decide +kernel
theorem ef_rm3 (m : MethodId) (x0 : Addr) : entryFrame m #[(.ref x0)] 1 = mkF m 0 #[.val (.ref x0)] [] := by first | (simp [entryFrame, mkF, argsToLocals, Value.category]; done) | rfl
def Q3 (Z : State) (a1 : Addr) (h0 : Heap) (n0 : Nat) (v : Option Value) (h : Heap) (L : List Loc) : Prop := v = none ∧ Fr n0 L ∧ Keep h0 h [a1] ∧ Exa Z h a1 "java/util/IdentityHashMap"
set_option maxHeartbeats 40000000 in
theorem rm3 (l : Launch) (Z : State) (a0 : Array Value) (hw : ∀ d ∈ tables_1, d.before a0 Z = true) (ws : List Jvm.Cond) (a1 : Addr) (h0 : Heap) (n0 : Nat) (Z0 : n0 ≤ h0.size) (E1 : Exa Z h0 a1 "java/util/IdentityHashMap") (gn_a1 : n0 ≤ a1) (F1 : Fld Z h0 a1 "java/util/IdentityHashMap" "table" "[Ljava/lang/Object;" .null)  :
    MetFree l (⟨"java/util/IdentityHashMap", "<init>", "()V"⟩ : MethodName) (head1 (Jvm.Cond.code (⟨"java/util/IdentityHashMap", "<init>", "()V"⟩ : MethodName) jdk_2581_method_3_code 1 none :: ws) ({ frames := 2, cells := 1, slots := 64, locals := 24 } : Room)) (fun a U => a = #[(.ref a1)] ∧ Z.Warmed39 U.vm ∧ U.heap = h0) (fun _ _ _ _ _ => True) (fun _ U o U' => ∃ v L, o = .returned v ∧ Q3 Z a1 h0 n0 v U'.heap L ∧ FrameEnd U o U' L ({ frames := 2, cells := 1, slots := 64, locals := 24 } : Room).cells ({ frames := 2, cells := 1, slots := 64, locals := 24 } : Room).slots) := by
  refine MetFree.of_bodySF (plainFor_of_name pn_1) hisR ?_
  intro p e s m args below meth c s₁ Bd hml0 hP hK
  obtain ⟨rfl, hZ, hh⟩ := hP
  have hx := Bd.exec
  have hby := Bd.bytes
  have hml : c.maxLocals = 1 := hml0
  have hown : s.vm.findClass "java/util/IdentityHashMap" = some m.cls := findClass_of_methodNamed Bd.named
  have hnm := (name_of_methodNamed Bd.named Bd.method).1
  have X0 : Stand p l e ({ frames := 2, cells := 1, slots := 64, locals := 24 } : Room) s m #[(.ref a1)] below meth c s₁ [] 0 0 := Stand.of_body Bd
  have e0 : s₁.heap = h0 := by rw [← hh, Bd.state]; rfl
  have N0 := Fr.nil n0
  have pre0 : ∀ tgt, Steps p.tables e below (s₁.setTop (mkF m 0 #[.val (.ref a1)] [])) tgt → Steps p.tables e below (s₁.setTop (entryFrame m #[(.ref a1)] 1)) tgt := fun tgt k => castTop (ef_rm3 m a1) k
  obtain ⟨_, _, ⟨T1, L1, k1, n1⟩, -, X1, ⟨Lc1, hQ1, l1, y1, z1⟩, st1⟩ := X0.specialBack hx (y := (⟨"java/util/AbstractMap", "<init>", "()V"⟩ : MethodName)) rfl hown (mvT hZ (hw _ (List.mem_of_getElem? (i := 17) rfl))) (mvT hZ (hw _ (List.mem_of_getElem? (i := 18) rfl))) (mvT hZ (hw _ (List.mem_of_getElem? (i := 22) rfl))) (by decide) (backOf (W := 0) (rm4 l Z a0 hw [] a1  h0 n0 Z0 ) hZ (hw _ (List.mem_of_getElem? (i := 22) rfl)) (hw _ (List.mem_of_getElem? (i := 21) rfl)) (by decide) (by decide)) (g := (mkF m 1 #[.val (.ref a1)] [(.ref a1)])) rfl (by rw [hml]; rfl) (Steps.refl _) (a := a1) (argsL := []) (rest := []) (lenOf pd_0 rfl) rfl (by show 2 * 0 + _ ≤ _; exact Nat.le_of_eq rfl) (hb hby d3_1) (fun _ _ => ⟨rfl, e0, (by decide : 0 + 0 ≤ _), (by decide : 0 + 0 ≤ _)⟩)
  dsimp only [Pt.U, Pt.locs, Pt.cells, Pt.slots] at X1 l1 y1 z1 st1 hQ1
  subst l1 y1 z1
  obtain ⟨rfl, Nq1, e1⟩ := hQ1
  have N2 := Fr.app N0 Nq1
  obtain ⟨cq3, q3, q3'⟩ := E1.cell
  obtain ⟨_, _, ⟨T3, L3, k3, n3⟩, -, X3, ⟨Lc3, hQ3, l3, y3, z3⟩, st3⟩ := X1.privateBack hx (y := (⟨"java/util/IdentityHashMap", "init", "(I)V"⟩ : MethodName)) hown (mvT hZ (hw _ (List.mem_of_getElem? (i := 24) rfl))) (mvT hZ (hw _ (List.mem_of_getElem? (i := 25) rfl))) (mvT hZ (hw _ (List.mem_of_getElem? (i := 27) rfl))) (Cond.privateMethod_at (mvP hZ (hw _ (List.mem_of_getElem? (i := 26) rfl)) (args := #[]))) (mvT hZ (hw _ (List.mem_of_getElem? (i := 28) rfl))) (by decide) (backOf (W := 0) (rm5 l Z a0 hw [] a1 (32 : Int32) h0 n0 Z0 E1 gn_a1 F1 rfl) hZ (hw _ (List.mem_of_getElem? (i := 28) rfl)) (hw _ (List.mem_of_getElem? (i := 13) rfl)) (by decide) (by decide)) (g := (mkF m 7 #[.val (.ref a1)] [(.int (32 : Int32)), (.ref a1)])) rfl (by rw [hml]; rfl) (Steps.refl _) (a := a1) (by rw [e1]; exact q3) q3' (argsL := [(.int (32 : Int32))]) (rest := []) (lenOf pd_1 rfl) rfl (by show 2 * 0 + _ ≤ _; exact Nat.le_of_eq rfl) (hb hby d3_7) (fun _ _ => ⟨rfl, e1, (by decide : 0 + 1 ≤ _), (by decide : 0 + 64 ≤ _)⟩)
  dsimp only [Pt.U, Pt.locs, Pt.cells, Pt.slots] at X3 l3 y3 z3 st3 hQ3
  subst l3 y3 z3
  obtain ⟨rfl, Nq3, K3, f4⟩ := hQ3
  have zz5 : n0 ≤ T3.heap.size := Nat.le_trans Z0 K3.1
  have K6 : Keep h0 T3.heap [a1] := Keep.trans (Keep.refl h0 [a1]) K3 (fun x hx => Or.inl (List.mem_singleton.mp hx ▸ List.mem_of_getElem? (i := 0) rfl))
  have N7 := Fr.app N2 Nq3
  obtain ⟨fs, hr, hrun, hended, hW, hsame⟩ := X3.leave (v := none) (fun _ => rfl)
  refine ⟨_, _, pre0 _ ?_, hrun, hended, _, _, rfl, ?_, ⟨_, rfl⟩, hW, hsame.mono (by decide) (by decide)⟩
  · show Steps p.tables e below (s₁.setTop (mkF m 0 #[.val (.ref a1)] [])) _
    refine XS.aloadN X0.here hx rfl (hb hby d3_0) rfl rfl ?_
    show Steps p.tables e below (s₁.setTop (mkF m 1 #[.val (.ref a1)] [(.ref a1)])) _
    refine st1.trans ?_
    show Steps p.tables e below (T1.setTop (mkF m 4 #[.val (.ref a1)] [])) _
    refine XS.aloadN X1.here hx rfl (hb hby d3_4) rfl rfl ?_
    show Steps p.tables e below (T1.setTop (mkF m 5 #[.val (.ref a1)] [(.ref a1)])) _
    refine XS.bipush X1.here hx rfl (hb hby d3_5) ?_
    show Steps p.tables e below (T1.setTop (mkF m 7 #[.val (.ref a1)] [(.int (32 : Int32)), (.ref a1)])) _
    refine st3.trans ?_
    show Steps p.tables e below (T3.setTop (mkF m 10 #[.val (.ref a1)] [])) _
    exact X3.returnOut hx Bd.returns (hb hby d3_10) hr
  · show Q3 Z a1 h0 n0 _ T3.heap _
    exact ⟨rfl, N7, K6, f4⟩
theorem d6_0 : decode jdk_2799_method_7_code 0 = .ok (.aload_n 0, 1) := by decide +kernel
theorem d6_1 : decode jdk_2799_method_7_code 1 = .ok (.getfield 44, 3) := by decide +kernel
theorem d6_4 : decode jdk_2799_method_7_code 4 = .ok (.dup2, 1) := by decide +kernel
theorem d6_5 : decode jdk_2799_method_7_code 5 = .ok (.lstore_n 3, 1) := by decide +kernel
theorem d6_6 : decode jdk_2799_method_7_code 6 = .ok (.lconst 1, 1) := by decide +kernel
theorem d6_7 : decode jdk_2799_method_7_code 7 = .ok (.lcmp, 1) := by decide +kernel
theorem d6_8 : decode jdk_2799_method_7_code 8 = .ok (.ifCond .ne 5, 3) := by decide +kernel
theorem d6_13 : decode jdk_2799_method_7_code 13 = .ok (.lload_n 1, 1) := by decide +kernel
theorem d6_14 : decode jdk_2799_method_7_code 14 = .ok (.aload_n 0, 1) := by decide +kernel
theorem d6_15 : decode jdk_2799_method_7_code 15 = .ok (.getfield 52, 3) := by decide +kernel
theorem d6_18 : decode jdk_2799_method_7_code 18 = .ok (.dup2, 1) := by decide +kernel
theorem d6_19 : decode jdk_2799_method_7_code 19 = .ok (.lstore 5, 2) := by decide +kernel
theorem d6_21 : decode jdk_2799_method_7_code 21 = .ok (.lcmp, 1) := by decide +kernel
theorem d6_22 : decode jdk_2799_method_7_code 22 = .ok (.ifCond .le 7, 3) := by decide +kernel
theorem d6_29 : decode jdk_2799_method_7_code 29 = .ok (.lload_n 1, 1) := by decide +kernel
theorem d6_30 : decode jdk_2799_method_7_code 30 = .ok (.lload 5, 2) := by decide +kernel
theorem d6_32 : decode jdk_2799_method_7_code 32 = .ok (.lneg, 1) := by decide +kernel
theorem d6_33 : decode jdk_2799_method_7_code 33 = .ok (.lcmp, 1) := by decide +kernel
theorem d6_34 : decode jdk_2799_method_7_code 34 = .ok (.ifCond .ge 7, 3) := by decide +kernel
theorem d6_41 : decode jdk_2799_method_7_code 41 = .ok (.lload_n 1, 1) := by decide +kernel
theorem d6_42 : decode jdk_2799_method_7_code 42 = .ok (.lload_n 3, 1) := by decide +kernel
theorem d6_43 : decode jdk_2799_method_7_code 43 = .ok (.lmul, 1) := by decide +kernel
theorem d6_44 : decode jdk_2799_method_7_code 44 = .ok (.lreturn, 1) := by decide +kernel
theorem pn_2 : plainName "java/util/concurrent/TimeUnit" = true := by first | (simp [plainName, overriddenIn]; done) | decide +kernel
theorem ef_rm6 (m : MethodId) (x0 : Addr) (x1 : Int64) : entryFrame m #[(.ref x0), (.long x1)] 7 = mkF m 0 #[.val (.ref x0), .val (.long x1), .second, .unset, .unset, .unset, .unset] [] := by first | (simp [entryFrame, mkF, argsToLocals, Value.category]; done) | rfl
def Q6 (Z : State) (a1 : Addr) (q1 : Int64) (h0 : Heap) (n0 : Nat) (v : Option Value) (h : Heap) (L : List Loc) : Prop := v = some (.long (q1 * (1000000 : Int64))) ∧ Fr n0 L ∧ h = h0
set_option maxHeartbeats 40000000 in
theorem rm6 (l : Launch) (Z : State) (a0 : Array Value) (hw : ∀ d ∈ tables_1, d.before a0 Z = true) (ws : List Jvm.Cond) (a1 : Addr) (q1 : Int64) (h0 : Heap) (n0 : Nat) (Z0 : n0 ≤ h0.size) (F1 : Fld Z h0 a1 "java/util/concurrent/TimeUnit" "scale" "J" (.long (1000000 : Int64))) (F2 : Fld Z h0 a1 "java/util/concurrent/TimeUnit" "maxNanos" "J" (.long (9223372036854 : Int64))) (hq1 : ¬ 0 < lcmpW q1 9223372036854) (hq2 : ¬ lcmpW q1 (-9223372036854) < 0) :
    MetFree l (⟨"java/util/concurrent/TimeUnit", "toNanos", "(J)J"⟩ : MethodName) (head1 (Jvm.Cond.code (⟨"java/util/concurrent/TimeUnit", "toNanos", "(J)J"⟩ : MethodName) jdk_2799_method_7_code 7 (some .long) :: ws) ({ frames := 0, cells := 0, slots := 0, locals := 0 } : Room)) (fun a U => a = #[(.ref a1), (.long q1)] ∧ Z.Warmed39 U.vm ∧ U.heap = h0) (fun _ _ _ _ _ => True) (fun _ U o U' => ∃ v L, o = .returned v ∧ Q6 Z a1 q1 h0 n0 v U'.heap L ∧ FrameEnd U o U' L ({ frames := 0, cells := 0, slots := 0, locals := 0 } : Room).cells ({ frames := 0, cells := 0, slots := 0, locals := 0 } : Room).slots) := by
  refine MetFree.of_bodySF (plainFor_of_name pn_2) hisR ?_
  intro p e s m args below meth c s₁ Bd hml0 hP hK
  obtain ⟨rfl, hZ, hh⟩ := hP
  have hx := Bd.exec
  have hby := Bd.bytes
  have hml : c.maxLocals = 7 := hml0
  have hown : s.vm.findClass "java/util/concurrent/TimeUnit" = some m.cls := findClass_of_methodNamed Bd.named
  have hnm := (name_of_methodNamed Bd.named Bd.method).1
  have X0 : Stand p l e ({ frames := 0, cells := 0, slots := 0, locals := 0 } : Room) s m #[(.ref a1), (.long q1)] below meth c s₁ [] 0 0 := Stand.of_body Bd
  have e0 : s₁.heap = h0 := by rw [← hh, Bd.state]; rfl
  have N0 := Fr.nil n0
  have pre0 : ∀ tgt, Steps p.tables e below (s₁.setTop (mkF m 0 #[.val (.ref a1), .val (.long q1), .second, .unset, .unset, .unset, .unset] [])) tgt → Steps p.tables e below (s₁.setTop (entryFrame m #[(.ref a1), (.long q1)] 7)) tgt := fun tgt k => castTop (ef_rm6 m a1 q1) k
  obtain ⟨T1, X1, e1, st1⟩ := getF X0 hx hZ hown (host := "") (Or.inl (hw _ (List.mem_of_getElem? (i := 45) rfl))) Via.refl e0 F1 (g := (mkF m 1 #[.val (.ref a1), .val (.long q1), .second, .unset, .unset, .unset, .unset] [(.ref a1)])) rfl rfl (hb hby d6_1)
  obtain ⟨T2, X2, e2, st2⟩ := getF X1 hx hZ hown (host := "") (Or.inl (hw _ (List.mem_of_getElem? (i := 47) rfl))) Via.refl e1 F2 (g := (mkF m 15 #[.val (.ref a1), .val (.long q1), .second, .val (.long (1000000 : Int64)), .second, .unset, .unset] [(.ref a1), (.long q1)])) rfl rfl (hb hby d6_15)
  obtain ⟨fs, hr, hrun, hended, hW, hsame⟩ := X2.leave (v := some (.long (q1 * (1000000 : Int64)))) (fun h => by rw [Bd.returns] at h; cases h)
  refine ⟨_, _, pre0 _ ?_, hrun, hended, _, _, rfl, ?_, ⟨_, rfl⟩, hW, hsame.mono (by decide) (by decide)⟩
  · show Steps p.tables e below (s₁.setTop (mkF m 0 #[.val (.ref a1), .val (.long q1), .second, .unset, .unset, .unset, .unset] [])) _
    refine XS.aloadN X0.here hx rfl (hb hby d6_0) rfl rfl ?_
    show Steps p.tables e below (s₁.setTop (mkF m 1 #[.val (.ref a1), .val (.long q1), .second, .unset, .unset, .unset, .unset] [(.ref a1)])) _
    refine st1 _ ?_
    show Steps p.tables e below (T1.setTop (mkF m 4 #[.val (.ref a1), .val (.long q1), .second, .unset, .unset, .unset, .unset] [(.long (1000000 : Int64))])) _
    jvm_step X1.here [X1.here.top, hx, (hb hby d6_4), Value.category]
    show Steps p.tables e below (T1.setTop (mkF m 5 #[.val (.ref a1), .val (.long q1), .second, .unset, .unset, .unset, .unset] [(.long (1000000 : Int64)), (.long (1000000 : Int64))])) _
    refine XS.lstoreN X1.here hx rfl (hb hby d6_5) rfl (l' := #[.val (.ref a1), .val (.long q1), .second, .val (.long (1000000 : Int64)), .second, .unset, .unset]) rfl ?_
    show Steps p.tables e below (T1.setTop (mkF m 6 #[.val (.ref a1), .val (.long q1), .second, .val (.long (1000000 : Int64)), .second, .unset, .unset] [(.long (1000000 : Int64))])) _
    refine XS.lconst X1.here hx rfl (hb hby d6_6) ?_
    show Steps p.tables e below (T1.setTop (mkF m 7 #[.val (.ref a1), .val (.long q1), .second, .val (.long (1000000 : Int64)), .second, .unset, .unset] [(.long (1 : Int64)), (.long (1000000 : Int64))])) _
    refine XS.lcmp X1.here hx rfl (hb hby d6_7) rfl ?_
    show Steps p.tables e below (T1.setTop (mkF m 8 #[.val (.ref a1), .val (.long q1), .second, .val (.long (1000000 : Int64)), .second, .unset, .unset] [(.int (lcmpW (1000000 : Int64) (1 : Int64)))])) _
    refine XS.ifYes X1.here hx rfl (pc0 := 8) (pc' := 13) rfl (hb hby d6_8) rfl ((if0 _ _).trans (feq (by decide)).2) (by decide) (by decide) ?_
    show Steps p.tables e below (T1.setTop (mkF m 13 #[.val (.ref a1), .val (.long q1), .second, .val (.long (1000000 : Int64)), .second, .unset, .unset] [])) _
    refine XS.lloadN X1.here hx rfl (hb hby d6_13) rfl ?_
    show Steps p.tables e below (T1.setTop (mkF m 14 #[.val (.ref a1), .val (.long q1), .second, .val (.long (1000000 : Int64)), .second, .unset, .unset] [(.long q1)])) _
    refine XS.aloadN X1.here hx rfl (hb hby d6_14) rfl rfl ?_
    show Steps p.tables e below (T1.setTop (mkF m 15 #[.val (.ref a1), .val (.long q1), .second, .val (.long (1000000 : Int64)), .second, .unset, .unset] [(.ref a1), (.long q1)])) _
    refine st2 _ ?_
    show Steps p.tables e below (T2.setTop (mkF m 18 #[.val (.ref a1), .val (.long q1), .second, .val (.long (1000000 : Int64)), .second, .unset, .unset] [(.long (9223372036854 : Int64)), (.long q1)])) _
    jvm_step X2.here [X2.here.top, hx, (hb hby d6_18), Value.category]
    show Steps p.tables e below (T2.setTop (mkF m 19 #[.val (.ref a1), .val (.long q1), .second, .val (.long (1000000 : Int64)), .second, .unset, .unset] [(.long (9223372036854 : Int64)), (.long (9223372036854 : Int64)), (.long q1)])) _
    refine XS.lstore X2.here hx rfl (hb hby d6_19) rfl (l' := #[.val (.ref a1), .val (.long q1), .second, .val (.long (1000000 : Int64)), .second, .val (.long (9223372036854 : Int64)), .second]) rfl ?_
    show Steps p.tables e below (T2.setTop (mkF m 21 #[.val (.ref a1), .val (.long q1), .second, .val (.long (1000000 : Int64)), .second, .val (.long (9223372036854 : Int64)), .second] [(.long (9223372036854 : Int64)), (.long q1)])) _
    refine XS.lcmp X2.here hx rfl (hb hby d6_21) rfl ?_
    show Steps p.tables e below (T2.setTop (mkF m 22 #[.val (.ref a1), .val (.long q1), .second, .val (.long (1000000 : Int64)), .second, .val (.long (9223372036854 : Int64)), .second] [(.int (lcmpW q1 (9223372036854 : Int64)))])) _
    refine XS.ifYes X2.here hx rfl (pc0 := 22) (pc' := 29) rfl (hb hby d6_22) rfl ((if0 _ _).trans (flt hq1).2.2.2) (by decide) (by decide) ?_
    show Steps p.tables e below (T2.setTop (mkF m 29 #[.val (.ref a1), .val (.long q1), .second, .val (.long (1000000 : Int64)), .second, .val (.long (9223372036854 : Int64)), .second] [])) _
    refine XS.lloadN X2.here hx rfl (hb hby d6_29) rfl ?_
    show Steps p.tables e below (T2.setTop (mkF m 30 #[.val (.ref a1), .val (.long q1), .second, .val (.long (1000000 : Int64)), .second, .val (.long (9223372036854 : Int64)), .second] [(.long q1)])) _
    refine XS.lload X2.here hx rfl (hb hby d6_30) rfl ?_
    show Steps p.tables e below (T2.setTop (mkF m 32 #[.val (.ref a1), .val (.long q1), .second, .val (.long (1000000 : Int64)), .second, .val (.long (9223372036854 : Int64)), .second] [(.long (9223372036854 : Int64)), (.long q1)])) _
    refine XS.lneg X2.here hx rfl (hb hby d6_32) rfl ?_
    show Steps p.tables e below (T2.setTop (mkF m 33 #[.val (.ref a1), .val (.long q1), .second, .val (.long (1000000 : Int64)), .second, .val (.long (9223372036854 : Int64)), .second] [(.long (-(9223372036854 : Int64))), (.long q1)])) _
    refine XS.lcmp X2.here hx rfl (hb hby d6_33) rfl ?_
    show Steps p.tables e below (T2.setTop (mkF m 34 #[.val (.ref a1), .val (.long q1), .second, .val (.long (1000000 : Int64)), .second, .val (.long (9223372036854 : Int64)), .second] [(.int (lcmpW q1 (-(9223372036854 : Int64))))])) _
    refine XS.ifYes X2.here hx rfl (pc0 := 34) (pc' := 41) rfl (hb hby d6_34) rfl ((if0 _ _).trans (flt hq2).2.1) (by decide) (by decide) ?_
    show Steps p.tables e below (T2.setTop (mkF m 41 #[.val (.ref a1), .val (.long q1), .second, .val (.long (1000000 : Int64)), .second, .val (.long (9223372036854 : Int64)), .second] [])) _
    refine XS.lloadN X2.here hx rfl (hb hby d6_41) rfl ?_
    show Steps p.tables e below (T2.setTop (mkF m 42 #[.val (.ref a1), .val (.long q1), .second, .val (.long (1000000 : Int64)), .second, .val (.long (9223372036854 : Int64)), .second] [(.long q1)])) _
    refine XS.lloadN X2.here hx rfl (hb hby d6_42) rfl ?_
    show Steps p.tables e below (T2.setTop (mkF m 43 #[.val (.ref a1), .val (.long q1), .second, .val (.long (1000000 : Int64)), .second, .val (.long (9223372036854 : Int64)), .second] [(.long (1000000 : Int64)), (.long q1)])) _
    refine XS.lmul X2.here hx rfl (hb hby d6_43) rfl ?_
    show Steps p.tables e below (T2.setTop (mkF m 44 #[.val (.ref a1), .val (.long q1), .second, .val (.long (1000000 : Int64)), .second, .val (.long (9223372036854 : Int64)), .second] [(.long (q1 * (1000000 : Int64)))])) _
    exact retOut X2 hx Bd.returns rfl (Or.inr (Or.inl ⟨rfl, rfl, _, rfl⟩)) (hb hby d6_44) hr
  · show Q6 Z a1 q1 h0 n0 _ T2.heap _
    rw [e2]
    exact ⟨rfl, N0, rfl⟩
theorem d1_0 : decode prog_18_method_1_code 0 = .ok (.aload_n 0, 1) := by decide +kernel
theorem d1_1 : decode prog_18_method_1_code 1 = .ok (.invokespecial 1, 3) := by decide +kernel
theorem d1_4 : decode prog_18_method_1_code 4 = .ok (.aload_n 0, 1) := by decide +kernel
theorem d1_5 : decode prog_18_method_1_code 5 = .ok (.new 7, 3) := by decide +kernel
theorem d1_8 : decode prog_18_method_1_code 8 = .ok (.dup, 1) := by decide +kernel
theorem d1_9 : decode prog_18_method_1_code 9 = .ok (.invokespecial 9, 3) := by decide +kernel
theorem d1_12 : decode prog_18_method_1_code 12 = .ok (.putfield 10, 3) := by decide +kernel
theorem d1_15 : decode prog_18_method_1_code 15 = .ok (.aload_n 0, 1) := by decide +kernel
theorem d1_16 : decode prog_18_method_1_code 16 = .ok (.ldc2_w 16, 3) := by decide +kernel
theorem d1_19 : decode prog_18_method_1_code 19 = .ok (.dload_n 1, 1) := by decide +kernel
theorem d1_20 : decode prog_18_method_1_code 20 = .ok (.ddiv, 1) := by decide +kernel
theorem d1_21 : decode prog_18_method_1_code 21 = .ok (.putfield 18, 3) := by decide +kernel
theorem d1_24 : decode prog_18_method_1_code 24 = .ok (.aload_n 0, 1) := by decide +kernel
theorem d1_25 : decode prog_18_method_1_code 25 = .ok (.getstatic 22, 3) := by decide +kernel
theorem d1_28 : decode prog_18_method_1_code 28 = .ok (.iload_n 3, 1) := by decide +kernel
theorem d1_29 : decode prog_18_method_1_code 29 = .ok (.i2l, 1) := by decide +kernel
theorem d1_30 : decode prog_18_method_1_code 30 = .ok (.invokevirtual 28, 3) := by decide +kernel
theorem pd_2 : parseMethodDescriptor "(J)J" = some ⟨[.long], some .long⟩ := by decide +kernel
theorem d1_33 : decode prog_18_method_1_code 33 = .ok (.putfield 32, 3) := by decide +kernel
theorem d1_36 : decode prog_18_method_1_code 36 = .ok (.return_, 1) := by decide +kernel
theorem pn_3 : plainName "com/example/link7/link7/rule/flow/Pacing" = true := by first | (simp [plainName, overriddenIn]; done) | decide +kernel
theorem ef_rm1 (m : MethodId) (x0 : Addr) (x1 : UInt64) (x2 : Int32) : entryFrame m #[(.ref x0), (.double x1), (.int x2)] 4 = mkF m 0 #[.val (.ref x0), .val (.double x1), .second, .val (.int x2)] [] := by first | (simp [entryFrame, mkF, argsToLocals, Value.category]; done) | rfl
def Q1 (Z : State) (a1 : Addr) (x1 : UInt64) (p1 : Int32) (tu : Addr) (h0 : Heap) (n0 : Nat) (v : Option Value) (h : Heap) (L : List Loc) : Prop := v = none ∧ Fr n0 L ∧ Keep h0 h [a1] ∧ Exa Z h a1 "com/example/link7/link7/rule/flow/Pacing" ∧ Fld Z h a1 "com/example/link7/link7/rule/flow/Pacing" "maxQueueingNs" "J" (.long (p1.toInt64 * (1000000 : Int64)))
set_option maxHeartbeats 40000000 in
theorem rm1 (l : Launch) (Z : State) (a0 : Array Value) (hw : ∀ d ∈ tables_1, d.before a0 Z = true) (ws : List Jvm.Cond) (a1 : Addr) (x1 : UInt64) (p1 : Int32) (tu : Addr) (h0 : Heap) (n0 : Nat) (Z0 : n0 ≤ h0.size) (E1 : Exa Z h0 a1 "com/example/link7/link7/rule/flow/Pacing") (gn_a1 : n0 ≤ a1) (net : tu ≠ a1) (F1 : Fld Z h0 a1 "com/example/link7/link7/rule/flow/Pacing" "lastTurnsNs" "Ljava/util/Map;" .null) (F2 : Fld Z h0 a1 "com/example/link7/link7/rule/flow/Pacing" "requestSpacingNs" "D" (.double (0 : UInt64))) (F3 : Fld Z h0 a1 "com/example/link7/link7/rule/flow/Pacing" "maxQueueingNs" "J" (.long (0 : Int64))) (S0 : Sta Z h0 "java/util/concurrent/TimeUnit" "MILLISECONDS" "Ljava/util/concurrent/TimeUnit;" (.ref tu)) (ET : Exa Z h0 tu "java/util/concurrent/TimeUnit") (FT1 : Fld Z h0 tu "java/util/concurrent/TimeUnit" "scale" "J" (.long (1000000 : Int64))) (FT2 : Fld Z h0 tu "java/util/concurrent/TimeUnit" "maxNanos" "J" (.long (9223372036854 : Int64))) (hq1 : ¬ 0 < lcmpW p1.toInt64 9223372036854) (hq2 : ¬ lcmpW p1.toInt64 (-9223372036854) < 0) (hnan : Jvm.Free.Fl.NoNaN64 (FP.ddiv (4741671816366391296 : UInt64) x1)) :
    MetFree l (⟨"com/example/link7/link7/rule/flow/Pacing", "<init>", "(DI)V"⟩ : MethodName) (head1 (Jvm.Cond.code (⟨"com/example/link7/link7/rule/flow/Pacing", "<init>", "(DI)V"⟩ : MethodName) prog_18_method_1_code 4 none :: ws) ({ frames := 3, cells := 2, slots := 70, locals := 38 } : Room)) (fun a U => a = #[(.ref a1), (.double x1), (.int p1)] ∧ Z.Warmed39 U.vm ∧ U.heap = h0) (fun _ _ _ _ _ => True) (fun _ U o U' => ∃ v L, o = .returned v ∧ Q1 Z a1 x1 p1 tu h0 n0 v U'.heap L ∧ FrameEnd U o U' L ({ frames := 3, cells := 2, slots := 70, locals := 38 } : Room).cells ({ frames := 3, cells := 2, slots := 70, locals := 38 } : Room).slots) := by
  refine MetFree.of_bodySF (plainFor_of_name pn_3) hisR ?_
  intro p e s m args below meth c s₁ Bd hml0 hP hK
  obtain ⟨rfl, hZ, hh⟩ := hP
  have hx := Bd.exec
  have hby := Bd.bytes
  have hml : c.maxLocals = 4 := hml0
  have hown : s.vm.findClass "com/example/link7/link7/rule/flow/Pacing" = some m.cls := findClass_of_methodNamed Bd.named
  have hnm := (name_of_methodNamed Bd.named Bd.method).1
  have X0 : Stand p l e ({ frames := 3, cells := 2, slots := 70, locals := 38 } : Room) s m #[(.ref a1), (.double x1), (.int p1)] below meth c s₁ [] 0 0 := Stand.of_body Bd
  have e0 : s₁.heap = h0 := by rw [← hh, Bd.state]; rfl
  have N0 := Fr.nil n0
  have pre0 : ∀ tgt, Steps p.tables e below (s₁.setTop (mkF m 0 #[.val (.ref a1), .val (.double x1), .second, .val (.int p1)] [])) tgt → Steps p.tables e below (s₁.setTop (entryFrame m #[(.ref a1), (.double x1), (.int p1)] 4)) tgt := fun tgt k => castTop (ef_rm1 m a1 x1 p1) k
  obtain ⟨T1, X1, e1, st1⟩ := initO X0 hx hZ hown (hw _ (List.mem_of_getElem? (i := 8) rfl)) (hw _ (List.mem_of_getElem? (i := 9) rfl)) (hw _ (List.mem_of_getElem? (i := 10) rfl)) e0 (g := (mkF m 1 #[.val (.ref a1), .val (.double x1), .second, .val (.int p1)] [(.ref a1)])) rfl (by rw [hml]; rfl) rfl (hb hby d1_1) (by decide) (W := 0) (by show 2 * 0 + _ ≤ _; exact Nat.le_of_eq rfl) (by decide)
  obtain ⟨T2, h2, X2, e2, E2, A2, D2, -, st2⟩ := newO X1 hx hZ hown (hw _ (List.mem_of_getElem? (i := 11) rfl)) (hw _ (List.mem_of_getElem? (i := 12) rfl)) (hw _ (List.mem_of_getElem? (i := 13) rfl)) e1 (g := (mkF m 5 #[.val (.ref a1), .val (.double x1), .second, .val (.int p1)] [(.ref a1)])) rfl (hb hby d1_5) (by decide) (by decide)
  obtain ⟨b2, g2⟩ : ∃ z, z = h0.size := ⟨_, rfl⟩
  rw [← g2] at A2 D2 st2
  have ne3 : a1 ≠ b2 := Nat.ne_of_lt (Nat.lt_of_lt_of_le E1.lt (Nat.le_of_eq g2.symm))
  have ne4 : tu ≠ b2 := Nat.ne_of_lt (Nat.lt_of_lt_of_le ET.lt (Nat.le_of_eq g2.symm))
  have f5 := E1.ext E2
  have f6 := F1.ext E2
  have f7 := F2.ext E2
  have f8 := F3.ext E2
  have f9 := S0.ext E2
  have f10 := ET.ext E2
  have f11 := FT1.ext E2
  have f12 := FT2.ext E2
  have gn_b2 : n0 ≤ b2 := Nat.le_trans Z0 (Nat.le_of_eq g2.symm)
  have zz13 : n0 ≤ h2.size := Nat.le_trans Z0 E2.1
  have sz_b2 : h0.size ≤ b2 := Nat.le_trans (Keep.refl h0 [a1]).1 (Nat.le_of_eq g2.symm)
  have K14 : Keep h0 h2 [a1] := (Keep.refl h0 [a1]).ext E2
  have f15 : Fld Z h2 b2 "java/util/IdentityHashMap" "table" "[Ljava/lang/Object;" .null := D2 (Or.inl (hw _ (List.mem_of_getElem? (i := 32) rfl))) (ty := (.array (.object "java/lang/Object"))) (by decide)
  obtain ⟨_, _, ⟨T16, L16, k16, n16⟩, -, X16, ⟨Lc16, hQ16, l16, y16, z16⟩, st16⟩ := X2.specialBack hx (y := (⟨"java/util/IdentityHashMap", "<init>", "()V"⟩ : MethodName)) rfl hown (mvT hZ (hw _ (List.mem_of_getElem? (i := 14) rfl))) (mvT hZ (hw _ (List.mem_of_getElem? (i := 15) rfl))) (mvT hZ (hw _ (List.mem_of_getElem? (i := 16) rfl))) (by decide) (backOf (W := 2) (rm3 l Z a0 hw [] b2 h2 n0 zz13 A2 gn_b2 f15 ) hZ (hw _ (List.mem_of_getElem? (i := 16) rfl)) (hw _ (List.mem_of_getElem? (i := 13) rfl)) (by decide) (by decide)) (g := (mkF m 9 #[.val (.ref a1), .val (.double x1), .second, .val (.int p1)] [(.ref b2), (.ref b2), (.ref a1)])) rfl (by rw [hml]; rfl) (Steps.refl _) (a := b2) (argsL := []) (rest := [(.ref b2), (.ref a1)]) (lenOf pd_0 rfl) rfl (by show 2 * 0 + _ ≤ _; exact Nat.le_of_eq rfl) (hb hby d1_9) (fun _ _ => ⟨rfl, e2, (by decide : 1 + 1 ≤ _), (by decide : 6 + 64 ≤ _)⟩)
  dsimp only [Pt.U, Pt.locs, Pt.cells, Pt.slots] at X16 l16 y16 z16 st16 hQ16
  subst l16 y16 z16
  obtain ⟨rfl, Nq16, K16, f17⟩ := hQ16
  have f18 := f5.keep K16
  have f19 := f6.keep K16 (fun q => ne3 (List.mem_singleton.mp q))
  have f20 := f7.keep K16 (fun q => ne3 (List.mem_singleton.mp q))
  have f21 := f8.keep K16 (fun q => ne3 (List.mem_singleton.mp q))
  have f22 := own_sta_keep f9 A2 K16
  have f23 := f10.keep K16
  have f24 := f11.keep K16 (fun q => ne4 (List.mem_singleton.mp q))
  have f25 := f12.keep K16 (fun q => ne4 (List.mem_singleton.mp q))
  have zz26 : n0 ≤ T16.heap.size := Nat.le_trans zz13 K16.1
  have K27 : Keep h0 T16.heap [a1] := Keep.trans K14 K16 (fun x hx => Or.inr (List.mem_singleton.mp hx ▸ sz_b2))
  have N28 := Fr.app N0 Nq16
  obtain ⟨T29, h29, X29, e29, W29, st29⟩ := putF X16 hx hZ hown (host := "") (Or.inl (hw _ (List.mem_of_getElem? (i := 33) rfl))) Via.refl rfl f19 f18 (Or.inr ⟨(hw _ (List.mem_of_getElem? (i := 34) rfl)), rfl, hnm⟩) (hw _ (List.mem_of_getElem? (i := 2) rfl)) (ty := (.object "java/util/Map")) (by decide) rfl rfl (g := (mkF m 12 #[.val (.ref a1), .val (.double x1), .second, .val (.int p1)] [(.ref b2), (.ref a1)])) rfl rfl (hb hby d1_12)
  have f30 := f19.same W29
  have f31 := f18.wr W29
  have f32 := f20.other W29 (Or.inr (slot_ne (Or.inr (hw _ (List.mem_of_getElem? (i := 37) rfl))) (Or.inr (hw _ (List.mem_of_getElem? (i := 34) rfl))) (by decide) (t := .double) (t' := (.object "java/util/Map")) (by decide) (by decide)))
  have f33 := f21.other W29 (Or.inr (slot_ne (Or.inr (hw _ (List.mem_of_getElem? (i := 50) rfl))) (Or.inr (hw _ (List.mem_of_getElem? (i := 34) rfl))) (by decide) (t := .long) (t' := (.object "java/util/Map")) (by decide) (by decide)))
  have f34 := f22.wr W29
  have f35 := f23.wr W29
  have f36 := f24.other W29 (Or.inl net)
  have f37 := f25.other W29 (Or.inl net)
  have f38 := f17.wr W29
  have zz39 : n0 ≤ h29.size := Nat.le_trans zz26 (Keep.of_wr W29).1
  have N40 := Fr.snoc X29 N28 gn_a1
  have K41 : Keep h0 h29 [a1] := K27.wr W29 (Or.inl (List.mem_of_getElem? (i := 0) rfl))
  obtain ⟨T42, h42, X42, e42, W42, st42⟩ := putF X29 hx hZ hown (host := "") (Or.inl (hw _ (List.mem_of_getElem? (i := 36) rfl))) Via.refl e29 f32 f31 (Or.inr ⟨(hw _ (List.mem_of_getElem? (i := 37) rfl)), rfl, hnm⟩) (hw _ (List.mem_of_getElem? (i := 2) rfl)) (ty := .double) (by decide) rfl rfl (g := (mkF m 21 #[.val (.ref a1), .val (.double x1), .second, .val (.int p1)] [(.double (FP.ddiv (4741671816366391296 : UInt64) x1)), (.ref a1)])) rfl rfl (hb hby d1_21)
  have f43 := f32.same W42
  have f44 := f31.wr W42
  have f45 := f30.other W42 (Or.inr (slot_ne (Or.inr (hw _ (List.mem_of_getElem? (i := 34) rfl))) (Or.inr (hw _ (List.mem_of_getElem? (i := 37) rfl))) (by decide) (t := (.object "java/util/Map")) (t' := .double) (by decide) (by decide)))
  have f46 := f33.other W42 (Or.inr (slot_ne (Or.inr (hw _ (List.mem_of_getElem? (i := 50) rfl))) (Or.inr (hw _ (List.mem_of_getElem? (i := 37) rfl))) (by decide) (t := .long) (t' := .double) (by decide) (by decide)))
  have f47 := f34.wr W42
  have f48 := f35.wr W42
  have f49 := f36.other W42 (Or.inl net)
  have f50 := f37.other W42 (Or.inl net)
  have f51 := f38.wr W42
  have zz52 : n0 ≤ h42.size := Nat.le_trans zz39 (Keep.of_wr W42).1
  have N53 := Fr.snoc X42 N40 gn_a1
  have K54 : Keep h0 h42 [a1] := K41.wr W42 (Or.inl (List.mem_of_getElem? (i := 0) rfl))
  obtain ⟨T55, X55, e55, st55⟩ := getS2 X42 hx hZ hown (host := "") (Or.inl (hw _ (List.mem_of_getElem? (i := 38) rfl))) Via.refl e42 f47 (g := (mkF m 25 #[.val (.ref a1), .val (.double x1), .second, .val (.int p1)] [(.ref a1)])) rfl (hb hby d1_25)
  obtain ⟨cq56, kq56, q56a, q56b, q56c⟩ := isOf hZ e55 f48
  obtain ⟨_, _, ⟨T56, L56, k56, n56⟩, -, X56, ⟨Lc56, hQ56, l56, y56, z56⟩, st56⟩ := X55.virtualBack hx (y := (⟨"java/util/concurrent/TimeUnit", "toNanos", "(J)J"⟩ : MethodName)) (z := (⟨"java/util/concurrent/TimeUnit", "toNanos", "(J)J"⟩ : MethodName)) hown (mvT hZ (hw _ (List.mem_of_getElem? (i := 40) rfl))) (mvT hZ (hw _ (List.mem_of_getElem? (i := 41) rfl))) (notFace_of_selects (args := #[]) (mvT hZ (hw _ (List.mem_of_getElem? (i := 43) rfl)))) (mvT hZ (hw _ (List.mem_of_getElem? (i := 43) rfl))) (mvT hZ (hw _ (List.mem_of_getElem? (i := 42) rfl))) (by decide) (backOf (W := 1) (rm6 l Z a0 hw [] tu (p1.toInt64) h42 n0 zz52 f49 f50 hq1 hq2) hZ (hw _ (List.mem_of_getElem? (i := 44) rfl)) (hw _ (List.mem_of_getElem? (i := 39) rfl)) (by decide) (by decide)) q56a q56c (g := (mkF m 30 #[.val (.ref a1), .val (.double x1), .second, .val (.int p1)] [(.long (p1.toInt64)), (.ref tu), (.ref a1)])) rfl (by rw [hml]; rfl) (Steps.refl _) (argsL := [(.long (p1.toInt64))]) (rest := [(.ref a1)]) (lenOf pd_2 rfl) rfl (by show 2 * 0 + _ ≤ _; exact Nat.le_of_eq rfl) (hb hby d1_30) (fun _ _ => ⟨rfl, e55, (by decide : 2 + 0 ≤ _), (by decide : 70 + 0 ≤ _)⟩)
  dsimp only [Pt.U, Pt.locs, Pt.cells, Pt.slots] at X56 l56 y56 z56 st56 hQ56
  subst l56 y56 z56
  obtain ⟨rfl, Nq56, e56⟩ := hQ56
  have N57 := Fr.app N53 Nq56
  obtain ⟨T58, h58, X58, e58, W58, st58⟩ := putF X56 hx hZ hown (host := "") (Or.inl (hw _ (List.mem_of_getElem? (i := 49) rfl))) Via.refl e56 f46 f44 (Or.inr ⟨(hw _ (List.mem_of_getElem? (i := 50) rfl)), rfl, hnm⟩) (hw _ (List.mem_of_getElem? (i := 2) rfl)) (ty := .long) (by decide) rfl rfl (g := (mkF m 33 #[.val (.ref a1), .val (.double x1), .second, .val (.int p1)] [(.long ((p1.toInt64) * (1000000 : Int64))), (.ref a1)])) rfl rfl (hb hby d1_33)
  have f59 := f46.same W58
  have f60 := f44.wr W58
  have f61 := f45.other W58 (Or.inr (slot_ne (Or.inr (hw _ (List.mem_of_getElem? (i := 34) rfl))) (Or.inr (hw _ (List.mem_of_getElem? (i := 50) rfl))) (by decide) (t := (.object "java/util/Map")) (t' := .long) (by decide) (by decide)))
  have f62 := f43.other W58 (Or.inr (slot_ne (Or.inr (hw _ (List.mem_of_getElem? (i := 37) rfl))) (Or.inr (hw _ (List.mem_of_getElem? (i := 50) rfl))) (by decide) (t := .double) (t' := .long) (by decide) (by decide)))
  have f63 := f47.wr W58
  have f64 := f48.wr W58
  have f65 := f49.other W58 (Or.inl net)
  have f66 := f50.other W58 (Or.inl net)
  have f67 := f51.wr W58
  have zz68 : n0 ≤ h58.size := Nat.le_trans zz52 (Keep.of_wr W58).1
  have N69 := Fr.snoc X58 N57 gn_a1
  have K70 : Keep h0 h58 [a1] := K54.wr W58 (Or.inl (List.mem_of_getElem? (i := 0) rfl))
  obtain ⟨fs, hr, hrun, hended, hW, hsame⟩ := X58.leave (v := none) (fun _ => rfl)
  refine ⟨_, _, pre0 _ ?_, hrun, hended, _, _, rfl, ?_, ⟨_, rfl⟩, hW, hsame.mono (by decide) (by decide)⟩
  · show Steps p.tables e below (s₁.setTop (mkF m 0 #[.val (.ref a1), .val (.double x1), .second, .val (.int p1)] [])) _
    refine XS.aloadN X0.here hx rfl (hb hby d1_0) rfl rfl ?_
    show Steps p.tables e below (s₁.setTop (mkF m 1 #[.val (.ref a1), .val (.double x1), .second, .val (.int p1)] [(.ref a1)])) _
    refine st1 _ ?_
    show Steps p.tables e below (T1.setTop (mkF m 4 #[.val (.ref a1), .val (.double x1), .second, .val (.int p1)] [])) _
    refine XS.aloadN X1.here hx rfl (hb hby d1_4) rfl rfl ?_
    show Steps p.tables e below (T1.setTop (mkF m 5 #[.val (.ref a1), .val (.double x1), .second, .val (.int p1)] [(.ref a1)])) _
    refine st2 _ ?_
    show Steps p.tables e below (T2.setTop (mkF m 8 #[.val (.ref a1), .val (.double x1), .second, .val (.int p1)] [(.ref b2), (.ref a1)])) _
    refine XS.dup X2.here hx rfl (hb hby d1_8) rfl rfl ?_
    show Steps p.tables e below (T2.setTop (mkF m 9 #[.val (.ref a1), .val (.double x1), .second, .val (.int p1)] [(.ref b2), (.ref b2), (.ref a1)])) _
    refine st16.trans ?_
    show Steps p.tables e below (T16.setTop (mkF m 12 #[.val (.ref a1), .val (.double x1), .second, .val (.int p1)] [(.ref b2), (.ref a1)])) _
    refine st29 _ ?_
    show Steps p.tables e below (T29.setTop (mkF m 15 #[.val (.ref a1), .val (.double x1), .second, .val (.int p1)] [])) _
    refine XS.aloadN X29.here hx rfl (hb hby d1_15) rfl rfl ?_
    show Steps p.tables e below (T29.setTop (mkF m 16 #[.val (.ref a1), .val (.double x1), .second, .val (.int p1)] [(.ref a1)])) _
    refine X29.ldc2DoubleC hx hown (mvT hZ (hw _ (List.mem_of_getElem? (i := 35) rfl))) (g := (mkF m 16 #[.val (.ref a1), .val (.double x1), .second, .val (.int p1)] [(.ref a1)])) rfl (hb hby d1_16) _ ?_
    show Steps p.tables e below (T29.setTop (mkF m 19 #[.val (.ref a1), .val (.double x1), .second, .val (.int p1)] [(.double (4741671816366391296 : UInt64)), (.ref a1)])) _
    refine own_dloadN X29.here hx rfl (hb hby d1_19) rfl ?_
    show Steps p.tables e below (T29.setTop (mkF m 20 #[.val (.ref a1), .val (.double x1), .second, .val (.int p1)] [(.double x1), (.double (4741671816366391296 : UInt64)), (.ref a1)])) _
    refine own_ddiv X29.here hx (hb hby d1_20) hnan ?_
    show Steps p.tables e below (T29.setTop (mkF m 21 #[.val (.ref a1), .val (.double x1), .second, .val (.int p1)] [(.double (FP.ddiv (4741671816366391296 : UInt64) x1)), (.ref a1)])) _
    refine st42 _ ?_
    show Steps p.tables e below (T42.setTop (mkF m 24 #[.val (.ref a1), .val (.double x1), .second, .val (.int p1)] [])) _
    refine XS.aloadN X42.here hx rfl (hb hby d1_24) rfl rfl ?_
    show Steps p.tables e below (T42.setTop (mkF m 25 #[.val (.ref a1), .val (.double x1), .second, .val (.int p1)] [(.ref a1)])) _
    refine st55 _ ?_
    show Steps p.tables e below (T55.setTop (mkF m 28 #[.val (.ref a1), .val (.double x1), .second, .val (.int p1)] [(.ref tu), (.ref a1)])) _
    refine XS.iloadN X55.here hx rfl (hb hby d1_28) rfl ?_
    show Steps p.tables e below (T55.setTop (mkF m 29 #[.val (.ref a1), .val (.double x1), .second, .val (.int p1)] [(.int p1), (.ref tu), (.ref a1)])) _
    refine XS.i2l X55.here hx rfl (hb hby d1_29) rfl ?_
    show Steps p.tables e below (T55.setTop (mkF m 30 #[.val (.ref a1), .val (.double x1), .second, .val (.int p1)] [(.long (p1.toInt64)), (.ref tu), (.ref a1)])) _
    refine st56.trans ?_
    show Steps p.tables e below (T56.setTop (mkF m 33 #[.val (.ref a1), .val (.double x1), .second, .val (.int p1)] [(.long ((p1.toInt64) * (1000000 : Int64))), (.ref a1)])) _
    refine st58 _ ?_
    show Steps p.tables e below (T58.setTop (mkF m 36 #[.val (.ref a1), .val (.double x1), .second, .val (.int p1)] [])) _
    exact X58.returnOut hx Bd.returns (hb hby d1_36) hr
  · show Q1 Z a1 x1 p1 tu h0 n0 _ T58.heap _
    rw [e58]
    exact ⟨rfl, N69, K70, f60, f59⟩
theorem d7_0 : decode prog_18_method_3_code 0 = .ok (.dload_n 1, 1) := by decide +kernel
theorem d7_1 : decode prog_18_method_3_code 1 = .ok (.aload_n 0, 1) := by decide +kernel
theorem d7_2 : decode prog_18_method_3_code 2 = .ok (.getfield 32, 3) := by decide +kernel
theorem d7_5 : decode prog_18_method_3_code 5 = .ok (.l2d, 1) := by decide +kernel
theorem d7_6 : decode prog_18_method_3_code 6 = .ok (.dcmp .l, 1) := by decide +kernel
theorem d7_7 : decode prog_18_method_3_code 7 = .ok (.ifCond .le 7, 3) := by decide +kernel
theorem d7_10 : decode prog_18_method_3_code 10 = .ok (.iconst 1, 1) := by decide +kernel
theorem d7_11 : decode prog_18_method_3_code 11 = .ok (.goto 4, 3) := by decide +kernel
theorem d7_15 : decode prog_18_method_3_code 15 = .ok (.ireturn, 1) := by decide +kernel
theorem d7_14 : decode prog_18_method_3_code 14 = .ok (.iconst 0, 1) := by decide +kernel
theorem ef_rm7 (m : MethodId) (x0 : Addr) (x1 : UInt64) : entryFrame m #[(.ref x0), (.double x1)] 3 = mkF m 0 #[.val (.ref x0), .val (.double x1), .second] [] := by first | (simp [entryFrame, mkF, argsToLocals, Value.category]; done) | rfl
def Q7 (Z : State) (a1 : Addr) (x1 : UInt64) (mq : Int64) (h0 : Heap) (n0 : Nat) (v : Option Value) (h : Heap) (L : List Loc) : Prop := v = some (.int (own_rf x1 mq)) ∧ Fr n0 L ∧ h = h0
set_option maxHeartbeats 40000000 in
theorem rm7 (l : Launch) (Z : State) (a0 : Array Value) (hw : ∀ d ∈ tables_1, d.before a0 Z = true) (ws : List Jvm.Cond) (a1 : Addr) (x1 : UInt64) (mq : Int64) (h0 : Heap) (n0 : Nat) (Z0 : n0 ≤ h0.size) (F1 : Fld Z h0 a1 "com/example/link7/link7/rule/flow/Pacing" "maxQueueingNs" "J" (.long mq)) :
    MetFree l (⟨"com/example/link7/link7/rule/flow/Pacing", "refuses", "(D)Z"⟩ : MethodName) (head1 (Jvm.Cond.code (⟨"com/example/link7/link7/rule/flow/Pacing", "refuses", "(D)Z"⟩ : MethodName) prog_18_method_3_code 3 (some .boolean) :: ws) ({ frames := 0, cells := 0, slots := 0, locals := 0 } : Room)) (fun a U => a = #[(.ref a1), (.double x1)] ∧ Z.Warmed39 U.vm ∧ U.heap = h0) (fun _ _ _ _ _ => True) (fun _ U o U' => ∃ v L, o = .returned v ∧ Q7 Z a1 x1 mq h0 n0 v U'.heap L ∧ FrameEnd U o U' L ({ frames := 0, cells := 0, slots := 0, locals := 0 } : Room).cells ({ frames := 0, cells := 0, slots := 0, locals := 0 } : Room).slots) := by
  refine MetFree.of_bodySF (plainFor_of_name pn_3) hisR ?_
  intro p e s m args below meth c s₁ Bd hml0 hP hK
  obtain ⟨rfl, hZ, hh⟩ := hP
  have hx := Bd.exec
  have hby := Bd.bytes
  have hml : c.maxLocals = 3 := hml0
  have hown : s.vm.findClass "com/example/link7/link7/rule/flow/Pacing" = some m.cls := findClass_of_methodNamed Bd.named
  have hnm := (name_of_methodNamed Bd.named Bd.method).1
  have X0 : Stand p l e ({ frames := 0, cells := 0, slots := 0, locals := 0 } : Room) s m #[(.ref a1), (.double x1)] below meth c s₁ [] 0 0 := Stand.of_body Bd
  have e0 : s₁.heap = h0 := by rw [← hh, Bd.state]; rfl
  have N0 := Fr.nil n0
  have pre0 : ∀ tgt, Steps p.tables e below (s₁.setTop (mkF m 0 #[.val (.ref a1), .val (.double x1), .second] [])) tgt → Steps p.tables e below (s₁.setTop (entryFrame m #[(.ref a1), (.double x1)] 3)) tgt := fun tgt k => castTop (ef_rm7 m a1 x1) k
  obtain ⟨T1, X1, e1, st1⟩ := getF X0 hx hZ hown (host := "") (Or.inl (hw _ (List.mem_of_getElem? (i := 49) rfl))) Via.refl e0 F1 (g := (mkF m 2 #[.val (.ref a1), .val (.double x1), .second] [(.ref a1), (.double x1)])) rfl rfl (hb hby d7_2)
  have pre2 : ∀ tgt, Steps p.tables e below (T1.setTop (mkF m 7 #[.val (.ref a1), .val (.double x1), .second] [(.int (cmpValue (FP.dcmp x1 (FP.l2d mq)) .l))])) tgt → Steps p.tables e below (s₁.setTop (entryFrame m #[(.ref a1), (.double x1)] 3)) tgt := fun tgt kt => pre0 _ (by
    show Steps p.tables e below (s₁.setTop (mkF m 0 #[.val (.ref a1), .val (.double x1), .second] [])) _
    refine own_dloadN X0.here hx rfl (hb hby d7_0) rfl ?_
    show Steps p.tables e below (s₁.setTop (mkF m 1 #[.val (.ref a1), .val (.double x1), .second] [(.double x1)])) _
    refine XS.aloadN X0.here hx rfl (hb hby d7_1) rfl rfl ?_
    show Steps p.tables e below (s₁.setTop (mkF m 2 #[.val (.ref a1), .val (.double x1), .second] [(.ref a1), (.double x1)])) _
    refine st1 _ ?_
    show Steps p.tables e below (T1.setTop (mkF m 5 #[.val (.ref a1), .val (.double x1), .second] [(.long mq), (.double x1)])) _
    refine own_l2d X1.here hx rfl (hb hby d7_5) rfl ?_
    show Steps p.tables e below (T1.setTop (mkF m 6 #[.val (.ref a1), .val (.double x1), .second] [(.double (FP.l2d mq)), (.double x1)])) _
    refine own_dcmp_ X1.here hx rfl (hb hby d7_6) rfl ?_
    exact kt)
  by_cases hA : (0 : Int32) < (cmpValue (FP.dcmp x1 (FP.l2d mq)) .l)
  · obtain ⟨fs, hr, hrun, hended, hW, hsame⟩ := X1.leave (v := some (.int (1 : Int32))) (fun h => by rw [Bd.returns] at h; cases h)
    refine ⟨_, _, pre2 _ ?_, hrun, hended, _, _, rfl, ?_, ⟨_, rfl⟩, hW, hsame.mono (by decide) (by decide)⟩
    · show Steps p.tables e below (T1.setTop (mkF m 7 #[.val (.ref a1), .val (.double x1), .second] [(.int (cmpValue (FP.dcmp x1 (FP.l2d mq)) .l))])) _
      refine XS.ifNo X1.here hx rfl (hb hby d7_7) rfl ((if0 _ _).trans (tlt hA).2.2.2) ?_
      show Steps p.tables e below (T1.setTop (mkF m 10 #[.val (.ref a1), .val (.double x1), .second] [])) _
      refine XS.iconst X1.here hx rfl (hb hby d7_10) ?_
      show Steps p.tables e below (T1.setTop (mkF m 11 #[.val (.ref a1), .val (.double x1), .second] [(.int (1 : Int32))])) _
      refine XS.goto X1.here hx rfl (pc0 := 11) (pc' := 15) rfl (hb hby d7_11) (by decide) (by decide) ?_
      show Steps p.tables e below (T1.setTop (mkF m 15 #[.val (.ref a1), .val (.double x1), .second] [(.int (1 : Int32))])) _
      exact retN X1 hx (t := .boolean) Bd.returns (by simp) (hb hby d7_15) hr
    · show Q7 Z a1 x1 mq h0 n0 _ T1.heap _
      rw [e1]
      exact ⟨by first | (rw [own_rf, if_pos hA]; done) | (rw [own_rf, if_pos hA]; rfl), N0, rfl⟩
  · obtain ⟨fs, hr, hrun, hended, hW, hsame⟩ := X1.leave (v := some (.int (0 : Int32))) (fun h => by rw [Bd.returns] at h; cases h)
    refine ⟨_, _, pre2 _ ?_, hrun, hended, _, _, rfl, ?_, ⟨_, rfl⟩, hW, hsame.mono (by decide) (by decide)⟩
    · show Steps p.tables e below (T1.setTop (mkF m 7 #[.val (.ref a1), .val (.double x1), .second] [(.int (cmpValue (FP.dcmp x1 (FP.l2d mq)) .l))])) _
      refine XS.ifYes X1.here hx rfl (pc0 := 7) (pc' := 14) rfl (hb hby d7_7) rfl ((if0 _ _).trans (flt hA).2.2.2) (by decide) (by decide) ?_
      show Steps p.tables e below (T1.setTop (mkF m 14 #[.val (.ref a1), .val (.double x1), .second] [])) _
      refine XS.iconst X1.here hx rfl (hb hby d7_14) ?_
      show Steps p.tables e below (T1.setTop (mkF m 15 #[.val (.ref a1), .val (.double x1), .second] [(.int (0 : Int32))])) _
      exact retN X1 hx (t := .boolean) Bd.returns (by simp) (hb hby d7_15) hr
    · show Q7 Z a1 x1 mq h0 n0 _ T1.heap _
      rw [e1]
      exact ⟨by first | (rw [own_rf, if_neg hA]; done) | (rw [own_rf, if_neg hA]; rfl), N0, rfl⟩
theorem pd_3 : parseMethodDescriptor "(DI)V" = some ⟨[.double, .int], none⟩ := by decide +kernel
theorem pd_4 : parseMethodDescriptor "(D)Z" = some ⟨[.double], some .boolean⟩ := by decide +kernel
theorem pn_4 : plainName "com/example/link7/link7/rule/flow/PacingRefusesPinLaw" = true := by first | (simp [plainName, overriddenIn]; done) | decide +kernel
theorem ef_rm0 (m : MethodId) (x0 : Int32) (x1 : Int32) (x2 : Int32) (x3 : Int64) : entryFrame m #[(.int x0), (.int x1), (.int x2), (.long x3)] maxLocals = mkF m 0 #[.val (.int x0), .val (.int x1), .val (.int x2), .val (.long x3), .second, .unset, .unset, .unset, .unset, .unset, .unset, .unset, .unset] [] := by first | (simp [entryFrame, mkF, argsToLocals, Value.category, maxLocals]; done) | rfl
def Q0 (Z : State) (p0 : Int32) (p1 : Int32) (p2 : Int32) (p3 : Int64) (tu : Addr) (h0 : Heap) (n0 : Nat) (v : Option Value) (h : Heap) (L : List Loc) : Prop := v = some (.int (1 : Int32)) ∧ Fr n0 L
set_option maxHeartbeats 40000000 in
theorem rm0 (l : Launch) (Z : State) (a0 : Array Value) (hw : ∀ d ∈ tables_1, d.before a0 Z = true) (ws : List Jvm.Cond) (p0 : Int32) (p1 : Int32) (p2 : Int32) (p3 : Int64) (tu : Addr) (h0 : Heap) (n0 : Nat) (Z0 : n0 ≤ h0.size) (S0 : Sta Z h0 "java/util/concurrent/TimeUnit" "MILLISECONDS" "Ljava/util/concurrent/TimeUnit;" (.ref tu)) (ET : Exa Z h0 tu "java/util/concurrent/TimeUnit") (FT1 : Fld Z h0 tu "java/util/concurrent/TimeUnit" "scale" "J" (.long (1000000 : Int64))) (FT2 : Fld Z h0 tu "java/util/concurrent/TimeUnit" "maxNanos" "J" (.long (9223372036854 : Int64))) :
    MetFree l x (head1 (Jvm.Cond.code x code maxLocals ret :: ws) room_1) (fun a U => a = #[(.int p0), (.int p1), (.int p2), (.long p3)] ∧ Z.Warmed39 U.vm ∧ U.heap = h0) (fun _ _ _ _ _ => True) (fun _ U o U' => ∃ v L, o = .returned v ∧ Q0 Z p0 p1 p2 p3 tu h0 n0 v U'.heap L ∧ FrameEnd U o U' L room_1.cells room_1.slots) := by
  refine MetFree.of_bodySF (plainFor_of_name pn_4) hisR ?_
  intro p e s m args below meth c s₁ Bd hml0 hP hK
  obtain ⟨rfl, hZ, hh⟩ := hP
  have hx := Bd.exec
  have hby := Bd.bytes
  have hml : c.maxLocals = 13 := hml0
  have hown : s.vm.findClass "com/example/link7/link7/rule/flow/PacingRefusesPinLaw" = some m.cls := findClass_of_methodNamed Bd.named
  have hnm := (name_of_methodNamed Bd.named Bd.method).1
  have X0 : Stand p l e room_1 s m #[(.int p0), (.int p1), (.int p2), (.long p3)] below meth c s₁ [] 0 0 := Stand.of_body Bd
  have e0 : s₁.heap = h0 := by rw [← hh, Bd.state]; rfl
  have N0 := Fr.nil n0
  have pre0 : ∀ tgt, Steps p.tables e below (s₁.setTop (mkF m 0 #[.val (.int p0), .val (.int p1), .val (.int p2), .val (.long p3), .second, .unset, .unset, .unset, .unset, .unset, .unset, .unset, .unset] [])) tgt → Steps p.tables e below (s₁.setTop (entryFrame m #[(.int p0), (.int p1), (.int p2), (.long p3)] maxLocals)) tgt := fun tgt k => castTop (ef_rm0 m p0 p1 p2 p3) k
  obtain ⟨T1, h1, X1, e1, E1, A1, D1, -, st1⟩ := newO X0 hx hZ hown (hw _ (List.mem_of_getElem? (i := 1) rfl)) (hw _ (List.mem_of_getElem? (i := 2) rfl)) (hw _ (List.mem_of_getElem? (i := 3) rfl)) e0 (g := (mkF m 6 #[.val (.int p0), .val (.int p1), .val (.int p2), .val (.long p3), .second, .val (.int (p1 &&& (2147483647 : Int32))), .unset, .unset, .unset, .unset, .unset, .unset, .unset] [])) rfl (hb hby at_6) (by decide) (by decide)
  obtain ⟨b1, g1⟩ : ∃ z, z = h0.size := ⟨_, rfl⟩
  rw [← g1] at A1 D1 st1
  have ne2 : tu ≠ b1 := Nat.ne_of_lt (Nat.lt_of_lt_of_le ET.lt (Nat.le_of_eq g1.symm))
  have f3 := S0.ext E1
  have f4 := ET.ext E1
  have f5 := FT1.ext E1
  have f6 := FT2.ext E1
  have gn_b1 : n0 ≤ b1 := Nat.le_trans Z0 (Nat.le_of_eq g1.symm)
  have zz7 : n0 ≤ h1.size := Nat.le_trans Z0 E1.1
  have f8 : Fld Z h1 b1 "com/example/link7/link7/rule/flow/Pacing" "lastTurnsNs" "Ljava/util/Map;" .null := D1 (Or.inr (hw _ (List.mem_of_getElem? (i := 34) rfl))) (ty := (.object "java/util/Map")) (by decide)
  have f9 : Fld Z h1 b1 "com/example/link7/link7/rule/flow/Pacing" "requestSpacingNs" "D" (.double (0 : UInt64)) := D1 (Or.inr (hw _ (List.mem_of_getElem? (i := 37) rfl))) (ty := .double) (by decide)
  have f10 : Fld Z h1 b1 "com/example/link7/link7/rule/flow/Pacing" "maxQueueingNs" "J" (.long (0 : Int64)) := D1 (Or.inr (hw _ (List.mem_of_getElem? (i := 50) rfl))) (ty := .long) (by decide)
  obtain ⟨_, _, ⟨T11, L11, k11, n11⟩, -, X11, ⟨Lc11, hQ11, l11, y11, z11⟩, st11⟩ := X1.specialBack hx (y := (⟨"com/example/link7/link7/rule/flow/Pacing", "<init>", "(DI)V"⟩ : MethodName)) rfl hown (mvT hZ (hw _ (List.mem_of_getElem? (i := 5) rfl))) (mvT hZ (hw _ (List.mem_of_getElem? (i := 6) rfl))) (mvT hZ (hw _ (List.mem_of_getElem? (i := 7) rfl))) (by decide) (backOf (W := 1) (rm1 l Z a0 hw [] b1 (FP.i2d (p0 &&& (65535 : Int32))) (p1 &&& (2147483647 : Int32)) tu h1 n0 zz7 A1 gn_b1 ne2 f8 f9 f10 f3 f4 f5 f6 (own_t1 _) (own_t2 _) (own_nan2 _)) hZ (hw _ (List.mem_of_getElem? (i := 7) rfl)) (hw _ (List.mem_of_getElem? (i := 3) rfl)) (by decide) (by decide)) (g := (mkF m 17 #[.val (.int p0), .val (.int p1), .val (.int p2), .val (.long p3), .second, .val (.int (p1 &&& (2147483647 : Int32))), .unset, .unset, .unset, .unset, .unset, .unset, .unset] [(.int (p1 &&& (2147483647 : Int32))), (.double (FP.i2d (p0 &&& (65535 : Int32)))), (.ref b1), (.ref b1)])) rfl (by rw [hml]; rfl) (Steps.refl _) (a := b1) (argsL := [(.double (FP.i2d (p0 &&& (65535 : Int32)))), (.int (p1 &&& (2147483647 : Int32)))]) (rest := [(.ref b1)]) (lenOf pd_3 rfl) rfl (by show 2 * 0 + _ ≤ _; exact Nat.le_of_eq rfl) (hb hby at_17) (fun _ _ => ⟨rfl, e1, (by decide : 1 + 2 ≤ _), (by decide : 3 + 70 ≤ _)⟩)
  dsimp only [Pt.U, Pt.locs, Pt.cells, Pt.slots] at X11 l11 y11 z11 st11 hQ11
  subst l11 y11 z11
  obtain ⟨rfl, Nq11, K11, f12, f13⟩ := hQ11
  have f14 := own_sta_keep f3 A1 K11
  have f15 := f4.keep K11
  have f16 := f5.keep K11 (fun q => ne2 (List.mem_singleton.mp q))
  have f17 := f6.keep K11 (fun q => ne2 (List.mem_singleton.mp q))
  have zz18 : n0 ≤ T11.heap.size := Nat.le_trans zz7 K11.1
  have N19 := Fr.app N0 Nq11
  have pre20 : ∀ tgt, Steps p.tables e below (T11.setTop (mkF m 39 #[.val (.int p0), .val (.int p1), .val (.int p2), .val (.long p3), .second, .val (.int (p1 &&& (2147483647 : Int32))), .val (.ref b1), .val (.long (((p1 &&& (2147483647 : Int32)).toInt64) * (1000000 : Int64))), .second, .val (.int (p2 &&& (3 : Int32))), .unset, .unset, .unset] [(.int (3 : Int32)), (.int (p2 &&& (3 : Int32)))])) tgt → Steps p.tables e below (s₁.setTop (entryFrame m #[(.int p0), (.int p1), (.int p2), (.long p3)] maxLocals)) tgt := fun tgt kt => pre0 _ (by
    show Steps p.tables e below (s₁.setTop (mkF m 0 #[.val (.int p0), .val (.int p1), .val (.int p2), .val (.long p3), .second, .unset, .unset, .unset, .unset, .unset, .unset, .unset, .unset] [])) _
    refine XS.iloadN X0.here hx rfl (hb hby at_0) rfl ?_
    show Steps p.tables e below (s₁.setTop (mkF m 1 #[.val (.int p0), .val (.int p1), .val (.int p2), .val (.long p3), .second, .unset, .unset, .unset, .unset, .unset, .unset, .unset, .unset] [(.int p1)])) _
    refine X0.ldcInt hx hown (mvT hZ (hw _ (List.mem_of_getElem? (i := 0) rfl))) (g := (mkF m 1 #[.val (.int p0), .val (.int p1), .val (.int p2), .val (.long p3), .second, .unset, .unset, .unset, .unset, .unset, .unset, .unset, .unset] [(.int p1)])) rfl (hb hby at_1) _ ?_
    show Steps p.tables e below (s₁.setTop (mkF m 3 #[.val (.int p0), .val (.int p1), .val (.int p2), .val (.long p3), .second, .unset, .unset, .unset, .unset, .unset, .unset, .unset, .unset] [(.int (2147483647 : Int32)), (.int p1)])) _
    refine XS.iand X0.here hx rfl (hb hby at_3) rfl ?_
    show Steps p.tables e below (s₁.setTop (mkF m 4 #[.val (.int p0), .val (.int p1), .val (.int p2), .val (.long p3), .second, .unset, .unset, .unset, .unset, .unset, .unset, .unset, .unset] [(.int (p1 &&& (2147483647 : Int32)))])) _
    refine XS.istore X0.here hx rfl (hb hby at_4) rfl (l' := #[.val (.int p0), .val (.int p1), .val (.int p2), .val (.long p3), .second, .val (.int (p1 &&& (2147483647 : Int32))), .unset, .unset, .unset, .unset, .unset, .unset, .unset]) rfl ?_
    show Steps p.tables e below (s₁.setTop (mkF m 6 #[.val (.int p0), .val (.int p1), .val (.int p2), .val (.long p3), .second, .val (.int (p1 &&& (2147483647 : Int32))), .unset, .unset, .unset, .unset, .unset, .unset, .unset] [])) _
    refine st1 _ ?_
    show Steps p.tables e below (T1.setTop (mkF m 9 #[.val (.int p0), .val (.int p1), .val (.int p2), .val (.long p3), .second, .val (.int (p1 &&& (2147483647 : Int32))), .unset, .unset, .unset, .unset, .unset, .unset, .unset] [(.ref b1)])) _
    refine XS.dup X1.here hx rfl (hb hby at_9) rfl rfl ?_
    show Steps p.tables e below (T1.setTop (mkF m 10 #[.val (.int p0), .val (.int p1), .val (.int p2), .val (.long p3), .second, .val (.int (p1 &&& (2147483647 : Int32))), .unset, .unset, .unset, .unset, .unset, .unset, .unset] [(.ref b1), (.ref b1)])) _
    refine XS.iloadN X1.here hx rfl (hb hby at_10) rfl ?_
    show Steps p.tables e below (T1.setTop (mkF m 11 #[.val (.int p0), .val (.int p1), .val (.int p2), .val (.long p3), .second, .val (.int (p1 &&& (2147483647 : Int32))), .unset, .unset, .unset, .unset, .unset, .unset, .unset] [(.int p0), (.ref b1), (.ref b1)])) _
    refine X1.ldcInt hx hown (mvT hZ (hw _ (List.mem_of_getElem? (i := 4) rfl))) (g := (mkF m 11 #[.val (.int p0), .val (.int p1), .val (.int p2), .val (.long p3), .second, .val (.int (p1 &&& (2147483647 : Int32))), .unset, .unset, .unset, .unset, .unset, .unset, .unset] [(.int p0), (.ref b1), (.ref b1)])) rfl (hb hby at_11) _ ?_
    show Steps p.tables e below (T1.setTop (mkF m 13 #[.val (.int p0), .val (.int p1), .val (.int p2), .val (.long p3), .second, .val (.int (p1 &&& (2147483647 : Int32))), .unset, .unset, .unset, .unset, .unset, .unset, .unset] [(.int (65535 : Int32)), (.int p0), (.ref b1), (.ref b1)])) _
    refine XS.iand X1.here hx rfl (hb hby at_13) rfl ?_
    show Steps p.tables e below (T1.setTop (mkF m 14 #[.val (.int p0), .val (.int p1), .val (.int p2), .val (.long p3), .second, .val (.int (p1 &&& (2147483647 : Int32))), .unset, .unset, .unset, .unset, .unset, .unset, .unset] [(.int (p0 &&& (65535 : Int32))), (.ref b1), (.ref b1)])) _
    refine own_i2d X1.here hx rfl (hb hby at_14) rfl ?_
    show Steps p.tables e below (T1.setTop (mkF m 15 #[.val (.int p0), .val (.int p1), .val (.int p2), .val (.long p3), .second, .val (.int (p1 &&& (2147483647 : Int32))), .unset, .unset, .unset, .unset, .unset, .unset, .unset] [(.double (FP.i2d (p0 &&& (65535 : Int32)))), (.ref b1), (.ref b1)])) _
    refine XS.iload X1.here hx rfl (hb hby at_15) rfl ?_
    show Steps p.tables e below (T1.setTop (mkF m 17 #[.val (.int p0), .val (.int p1), .val (.int p2), .val (.long p3), .second, .val (.int (p1 &&& (2147483647 : Int32))), .unset, .unset, .unset, .unset, .unset, .unset, .unset] [(.int (p1 &&& (2147483647 : Int32))), (.double (FP.i2d (p0 &&& (65535 : Int32)))), (.ref b1), (.ref b1)])) _
    refine st11.trans ?_
    show Steps p.tables e below (T11.setTop (mkF m 20 #[.val (.int p0), .val (.int p1), .val (.int p2), .val (.long p3), .second, .val (.int (p1 &&& (2147483647 : Int32))), .unset, .unset, .unset, .unset, .unset, .unset, .unset] [(.ref b1)])) _
    refine XS.astore X11.here hx rfl (hb hby at_20) rfl rfl (l' := #[.val (.int p0), .val (.int p1), .val (.int p2), .val (.long p3), .second, .val (.int (p1 &&& (2147483647 : Int32))), .val (.ref b1), .unset, .unset, .unset, .unset, .unset, .unset]) rfl ?_
    show Steps p.tables e below (T11.setTop (mkF m 22 #[.val (.int p0), .val (.int p1), .val (.int p2), .val (.long p3), .second, .val (.int (p1 &&& (2147483647 : Int32))), .val (.ref b1), .unset, .unset, .unset, .unset, .unset, .unset] [])) _
    refine XS.iload X11.here hx rfl (hb hby at_22) rfl ?_
    show Steps p.tables e below (T11.setTop (mkF m 24 #[.val (.int p0), .val (.int p1), .val (.int p2), .val (.long p3), .second, .val (.int (p1 &&& (2147483647 : Int32))), .val (.ref b1), .unset, .unset, .unset, .unset, .unset, .unset] [(.int (p1 &&& (2147483647 : Int32)))])) _
    refine XS.i2l X11.here hx rfl (hb hby at_24) rfl ?_
    show Steps p.tables e below (T11.setTop (mkF m 25 #[.val (.int p0), .val (.int p1), .val (.int p2), .val (.long p3), .second, .val (.int (p1 &&& (2147483647 : Int32))), .val (.ref b1), .unset, .unset, .unset, .unset, .unset, .unset] [(.long ((p1 &&& (2147483647 : Int32)).toInt64))])) _
    refine X11.ldc2Long hx hown (mvT hZ (hw _ (List.mem_of_getElem? (i := 51) rfl))) (g := (mkF m 25 #[.val (.int p0), .val (.int p1), .val (.int p2), .val (.long p3), .second, .val (.int (p1 &&& (2147483647 : Int32))), .val (.ref b1), .unset, .unset, .unset, .unset, .unset, .unset] [(.long ((p1 &&& (2147483647 : Int32)).toInt64))])) rfl (hb hby at_25) _ ?_
    show Steps p.tables e below (T11.setTop (mkF m 28 #[.val (.int p0), .val (.int p1), .val (.int p2), .val (.long p3), .second, .val (.int (p1 &&& (2147483647 : Int32))), .val (.ref b1), .unset, .unset, .unset, .unset, .unset, .unset] [(.long (1000000 : Int64)), (.long ((p1 &&& (2147483647 : Int32)).toInt64))])) _
    refine XS.lmul X11.here hx rfl (hb hby at_28) rfl ?_
    show Steps p.tables e below (T11.setTop (mkF m 29 #[.val (.int p0), .val (.int p1), .val (.int p2), .val (.long p3), .second, .val (.int (p1 &&& (2147483647 : Int32))), .val (.ref b1), .unset, .unset, .unset, .unset, .unset, .unset] [(.long (((p1 &&& (2147483647 : Int32)).toInt64) * (1000000 : Int64)))])) _
    refine XS.lstore X11.here hx rfl (hb hby at_29) rfl (l' := #[.val (.int p0), .val (.int p1), .val (.int p2), .val (.long p3), .second, .val (.int (p1 &&& (2147483647 : Int32))), .val (.ref b1), .val (.long (((p1 &&& (2147483647 : Int32)).toInt64) * (1000000 : Int64))), .second, .unset, .unset, .unset, .unset]) rfl ?_
    show Steps p.tables e below (T11.setTop (mkF m 31 #[.val (.int p0), .val (.int p1), .val (.int p2), .val (.long p3), .second, .val (.int (p1 &&& (2147483647 : Int32))), .val (.ref b1), .val (.long (((p1 &&& (2147483647 : Int32)).toInt64) * (1000000 : Int64))), .second, .unset, .unset, .unset, .unset] [])) _
    refine XS.iloadN X11.here hx rfl (hb hby at_31) rfl ?_
    show Steps p.tables e below (T11.setTop (mkF m 32 #[.val (.int p0), .val (.int p1), .val (.int p2), .val (.long p3), .second, .val (.int (p1 &&& (2147483647 : Int32))), .val (.ref b1), .val (.long (((p1 &&& (2147483647 : Int32)).toInt64) * (1000000 : Int64))), .second, .unset, .unset, .unset, .unset] [(.int p2)])) _
    refine XS.iconst X11.here hx rfl (hb hby at_32) ?_
    show Steps p.tables e below (T11.setTop (mkF m 33 #[.val (.int p0), .val (.int p1), .val (.int p2), .val (.long p3), .second, .val (.int (p1 &&& (2147483647 : Int32))), .val (.ref b1), .val (.long (((p1 &&& (2147483647 : Int32)).toInt64) * (1000000 : Int64))), .second, .unset, .unset, .unset, .unset] [(.int (3 : Int32)), (.int p2)])) _
    refine XS.iand X11.here hx rfl (hb hby at_33) rfl ?_
    show Steps p.tables e below (T11.setTop (mkF m 34 #[.val (.int p0), .val (.int p1), .val (.int p2), .val (.long p3), .second, .val (.int (p1 &&& (2147483647 : Int32))), .val (.ref b1), .val (.long (((p1 &&& (2147483647 : Int32)).toInt64) * (1000000 : Int64))), .second, .unset, .unset, .unset, .unset] [(.int (p2 &&& (3 : Int32)))])) _
    refine XS.istore X11.here hx rfl (hb hby at_34) rfl (l' := #[.val (.int p0), .val (.int p1), .val (.int p2), .val (.long p3), .second, .val (.int (p1 &&& (2147483647 : Int32))), .val (.ref b1), .val (.long (((p1 &&& (2147483647 : Int32)).toInt64) * (1000000 : Int64))), .second, .val (.int (p2 &&& (3 : Int32))), .unset, .unset, .unset]) rfl ?_
    show Steps p.tables e below (T11.setTop (mkF m 36 #[.val (.int p0), .val (.int p1), .val (.int p2), .val (.long p3), .second, .val (.int (p1 &&& (2147483647 : Int32))), .val (.ref b1), .val (.long (((p1 &&& (2147483647 : Int32)).toInt64) * (1000000 : Int64))), .second, .val (.int (p2 &&& (3 : Int32))), .unset, .unset, .unset] [])) _
    refine XS.iload X11.here hx rfl (hb hby at_36) rfl ?_
    show Steps p.tables e below (T11.setTop (mkF m 38 #[.val (.int p0), .val (.int p1), .val (.int p2), .val (.long p3), .second, .val (.int (p1 &&& (2147483647 : Int32))), .val (.ref b1), .val (.long (((p1 &&& (2147483647 : Int32)).toInt64) * (1000000 : Int64))), .second, .val (.int (p2 &&& (3 : Int32))), .unset, .unset, .unset] [(.int (p2 &&& (3 : Int32)))])) _
    refine XS.iconst X11.here hx rfl (hb hby at_38) ?_
    exact kt)
  by_cases hM3 : (p2 &&& (3 : Int32)) = (3 : Int32)
  · obtain ⟨cq21, kq21, q21a, q21b, q21c⟩ := isOf hZ rfl f12
    obtain ⟨_, _, ⟨T21, L21, k21, n21⟩, -, X21, ⟨Lc21, hQ21, l21, y21, z21⟩, st21⟩ := X11.virtualBack hx (y := (⟨"com/example/link7/link7/rule/flow/Pacing", "refuses", "(D)Z"⟩ : MethodName)) (z := (⟨"com/example/link7/link7/rule/flow/Pacing", "refuses", "(D)Z"⟩ : MethodName)) hown (mvT hZ (hw _ (List.mem_of_getElem? (i := 53) rfl))) (mvT hZ (hw _ (List.mem_of_getElem? (i := 54) rfl))) (notFace_of_selects (args := #[]) (mvT hZ (hw _ (List.mem_of_getElem? (i := 56) rfl)))) (mvT hZ (hw _ (List.mem_of_getElem? (i := 56) rfl))) (mvT hZ (hw _ (List.mem_of_getElem? (i := 55) rfl))) (by decide) (backOf (W := 0) (rm7 l Z a0 hw [] b1 (9218868437227405312 : UInt64) (((p1 &&& (2147483647 : Int32)).toInt64) * (1000000 : Int64)) T11.heap n0 zz18 f13) hZ (hw _ (List.mem_of_getElem? (i := 57) rfl)) (hw _ (List.mem_of_getElem? (i := 3) rfl)) (by decide) (by decide)) q21a q21c (g := (mkF m 47 #[.val (.int p0), .val (.int p1), .val (.int p2), .val (.long p3), .second, .val (.int (p1 &&& (2147483647 : Int32))), .val (.ref b1), .val (.long (((p1 &&& (2147483647 : Int32)).toInt64) * (1000000 : Int64))), .second, .val (.int (p2 &&& (3 : Int32))), .unset, .unset, .unset] [(.double (9218868437227405312 : UInt64)), (.ref b1)])) rfl (by rw [hml]; rfl) (Steps.refl _) (argsL := [(.double (9218868437227405312 : UInt64))]) (rest := []) (lenOf pd_4 rfl) rfl (by show 2 * 0 + _ ≤ _; exact Nat.le_of_eq rfl) (hb hby at_47) (fun _ _ => ⟨rfl, rfl, (by decide : 3 + 0 ≤ _), (by decide : 73 + 0 ≤ _)⟩)
    dsimp only [Pt.U, Pt.locs, Pt.cells, Pt.slots] at X21 l21 y21 z21 st21 hQ21
    subst l21 y21 z21
    obtain ⟨rfl, Nq21, e21⟩ := hQ21
    have N22 := Fr.app N19 Nq21
    have pre23 : ∀ tgt, Steps p.tables e below (T21.setTop (mkF m 50 #[.val (.int p0), .val (.int p1), .val (.int p2), .val (.long p3), .second, .val (.int (p1 &&& (2147483647 : Int32))), .val (.ref b1), .val (.long (((p1 &&& (2147483647 : Int32)).toInt64) * (1000000 : Int64))), .second, .val (.int (p2 &&& (3 : Int32))), .unset, .unset, .unset] [(.int (own_rf (9218868437227405312 : UInt64) (((p1 &&& (2147483647 : Int32)).toInt64) * (1000000 : Int64))))])) tgt → Steps p.tables e below (s₁.setTop (entryFrame m #[(.int p0), (.int p1), (.int p2), (.long p3)] maxLocals)) tgt := fun tgt kt => pre20 _ (by
      show Steps p.tables e below (T11.setTop (mkF m 39 #[.val (.int p0), .val (.int p1), .val (.int p2), .val (.long p3), .second, .val (.int (p1 &&& (2147483647 : Int32))), .val (.ref b1), .val (.long (((p1 &&& (2147483647 : Int32)).toInt64) * (1000000 : Int64))), .second, .val (.int (p2 &&& (3 : Int32))), .unset, .unset, .unset] [(.int (3 : Int32)), (.int (p2 &&& (3 : Int32)))])) _
      refine XS.icmpNo X11.here hx rfl (hb hby at_39) rfl (teq hM3).2 ?_
      show Steps p.tables e below (T11.setTop (mkF m 42 #[.val (.int p0), .val (.int p1), .val (.int p2), .val (.long p3), .second, .val (.int (p1 &&& (2147483647 : Int32))), .val (.ref b1), .val (.long (((p1 &&& (2147483647 : Int32)).toInt64) * (1000000 : Int64))), .second, .val (.int (p2 &&& (3 : Int32))), .unset, .unset, .unset] [])) _
      refine XS.aload X11.here hx rfl (hb hby at_42) rfl rfl ?_
      show Steps p.tables e below (T11.setTop (mkF m 44 #[.val (.int p0), .val (.int p1), .val (.int p2), .val (.long p3), .second, .val (.int (p1 &&& (2147483647 : Int32))), .val (.ref b1), .val (.long (((p1 &&& (2147483647 : Int32)).toInt64) * (1000000 : Int64))), .second, .val (.int (p2 &&& (3 : Int32))), .unset, .unset, .unset] [(.ref b1)])) _
      refine X11.ldc2DoubleC hx hown (mvT hZ (hw _ (List.mem_of_getElem? (i := 58) rfl))) (g := (mkF m 44 #[.val (.int p0), .val (.int p1), .val (.int p2), .val (.long p3), .second, .val (.int (p1 &&& (2147483647 : Int32))), .val (.ref b1), .val (.long (((p1 &&& (2147483647 : Int32)).toInt64) * (1000000 : Int64))), .second, .val (.int (p2 &&& (3 : Int32))), .unset, .unset, .unset] [(.ref b1)])) rfl (hb hby at_44) _ ?_
      show Steps p.tables e below (T11.setTop (mkF m 47 #[.val (.int p0), .val (.int p1), .val (.int p2), .val (.long p3), .second, .val (.int (p1 &&& (2147483647 : Int32))), .val (.ref b1), .val (.long (((p1 &&& (2147483647 : Int32)).toInt64) * (1000000 : Int64))), .second, .val (.int (p2 &&& (3 : Int32))), .unset, .unset, .unset] [(.double (9218868437227405312 : UInt64)), (.ref b1)])) _
      refine st21.trans ?_
      exact kt)
    have rw24 : (own_rf (9218868437227405312 : UInt64) (((p1 &&& (2147483647 : Int32)).toInt64) * (1000000 : Int64))) = (1 : Int32) := own_m3 p1
    rw [rw24] at pre23
    obtain ⟨fs, hr, hrun, hended, hW, hsame⟩ := X21.leave (v := some (.int (1 : Int32))) (fun h => by rw [Bd.returns] at h; cases h)
    refine ⟨_, _, pre23 _ ?_, hrun, hended, _, _, rfl, ?_, ⟨_, rfl⟩, hW, hsame.mono (by decide) (by decide)⟩
    · show Steps p.tables e below (T21.setTop (mkF m 50 #[.val (.int p0), .val (.int p1), .val (.int p2), .val (.long p3), .second, .val (.int (p1 &&& (2147483647 : Int32))), .val (.ref b1), .val (.long (((p1 &&& (2147483647 : Int32)).toInt64) * (1000000 : Int64))), .second, .val (.int (p2 &&& (3 : Int32))), .unset, .unset, .unset] [(.int (1 : Int32))])) _
      exact retN X21 hx (t := .boolean) Bd.returns (by simp) (hb hby at_50) hr
    · show Q0 Z p0 p1 p2 p3 tu h0 n0 _ T21.heap _
      rw [e21]
      exact ⟨rfl, N22⟩
  · have pre25 : ∀ tgt, Steps p.tables e below (T11.setTop (mkF m 54 #[.val (.int p0), .val (.int p1), .val (.int p2), .val (.long p3), .second, .val (.int (p1 &&& (2147483647 : Int32))), .val (.ref b1), .val (.long (((p1 &&& (2147483647 : Int32)).toInt64) * (1000000 : Int64))), .second, .val (.int (p2 &&& (3 : Int32))), .unset, .unset, .unset] [(.int (2 : Int32)), (.int (p2 &&& (3 : Int32)))])) tgt → Steps p.tables e below (s₁.setTop (entryFrame m #[(.int p0), (.int p1), (.int p2), (.long p3)] maxLocals)) tgt := fun tgt kt => pre20 _ (by
      show Steps p.tables e below (T11.setTop (mkF m 39 #[.val (.int p0), .val (.int p1), .val (.int p2), .val (.long p3), .second, .val (.int (p1 &&& (2147483647 : Int32))), .val (.ref b1), .val (.long (((p1 &&& (2147483647 : Int32)).toInt64) * (1000000 : Int64))), .second, .val (.int (p2 &&& (3 : Int32))), .unset, .unset, .unset] [(.int (3 : Int32)), (.int (p2 &&& (3 : Int32)))])) _
      refine XS.icmpYes X11.here hx rfl (pc0 := 39) (pc' := 51) rfl (hb hby at_39) rfl (feq hM3).2 (by decide) (by decide) ?_
      show Steps p.tables e below (T11.setTop (mkF m 51 #[.val (.int p0), .val (.int p1), .val (.int p2), .val (.long p3), .second, .val (.int (p1 &&& (2147483647 : Int32))), .val (.ref b1), .val (.long (((p1 &&& (2147483647 : Int32)).toInt64) * (1000000 : Int64))), .second, .val (.int (p2 &&& (3 : Int32))), .unset, .unset, .unset] [])) _
      refine XS.iload X11.here hx rfl (hb hby at_51) rfl ?_
      show Steps p.tables e below (T11.setTop (mkF m 53 #[.val (.int p0), .val (.int p1), .val (.int p2), .val (.long p3), .second, .val (.int (p1 &&& (2147483647 : Int32))), .val (.ref b1), .val (.long (((p1 &&& (2147483647 : Int32)).toInt64) * (1000000 : Int64))), .second, .val (.int (p2 &&& (3 : Int32))), .unset, .unset, .unset] [(.int (p2 &&& (3 : Int32)))])) _
      refine XS.iconst X11.here hx rfl (hb hby at_53) ?_
      exact kt)
    by_cases hM2 : (p2 &&& (3 : Int32)) = (2 : Int32)
    · obtain ⟨cq26, kq26, q26a, q26b, q26c⟩ := isOf hZ rfl f12
      obtain ⟨_, _, ⟨T26, L26, k26, n26⟩, -, X26, ⟨Lc26, hQ26, l26, y26, z26⟩, st26⟩ := X11.virtualBack hx (y := (⟨"com/example/link7/link7/rule/flow/Pacing", "refuses", "(D)Z"⟩ : MethodName)) (z := (⟨"com/example/link7/link7/rule/flow/Pacing", "refuses", "(D)Z"⟩ : MethodName)) hown (mvT hZ (hw _ (List.mem_of_getElem? (i := 53) rfl))) (mvT hZ (hw _ (List.mem_of_getElem? (i := 54) rfl))) (notFace_of_selects (args := #[]) (mvT hZ (hw _ (List.mem_of_getElem? (i := 56) rfl)))) (mvT hZ (hw _ (List.mem_of_getElem? (i := 56) rfl))) (mvT hZ (hw _ (List.mem_of_getElem? (i := 55) rfl))) (by decide) (backOf (W := 0) (rm7 l Z a0 hw [] b1 (FP.l2d (p3 &&& (9007199254740991 : Int64))) (((p1 &&& (2147483647 : Int32)).toInt64) * (1000000 : Int64)) T11.heap n0 zz18 f13) hZ (hw _ (List.mem_of_getElem? (i := 57) rfl)) (hw _ (List.mem_of_getElem? (i := 3) rfl)) (by decide) (by decide)) q26a q26c (g := (mkF m 69 #[.val (.int p0), .val (.int p1), .val (.int p2), .val (.long p3), .second, .val (.int (p1 &&& (2147483647 : Int32))), .val (.ref b1), .val (.long (((p1 &&& (2147483647 : Int32)).toInt64) * (1000000 : Int64))), .second, .val (.int (p2 &&& (3 : Int32))), .val (.long (p3 &&& (9007199254740991 : Int64))), .second, .unset] [(.double (FP.l2d (p3 &&& (9007199254740991 : Int64)))), (.ref b1)])) rfl (by rw [hml]; rfl) (Steps.refl _) (argsL := [(.double (FP.l2d (p3 &&& (9007199254740991 : Int64))))]) (rest := []) (lenOf pd_4 rfl) rfl (by show 2 * 0 + _ ≤ _; exact Nat.le_of_eq rfl) (hb hby at_69) (fun _ _ => ⟨rfl, rfl, (by decide : 3 + 0 ≤ _), (by decide : 73 + 0 ≤ _)⟩)
      dsimp only [Pt.U, Pt.locs, Pt.cells, Pt.slots] at X26 l26 y26 z26 st26 hQ26
      subst l26 y26 z26
      obtain ⟨rfl, Nq26, e26⟩ := hQ26
      have N27 := Fr.app N19 Nq26
      have pre28 : ∀ tgt, Steps p.tables e below (T26.setTop (mkF m 77 #[.val (.int p0), .val (.int p1), .val (.int p2), .val (.long p3), .second, .val (.int (p1 &&& (2147483647 : Int32))), .val (.ref b1), .val (.long (((p1 &&& (2147483647 : Int32)).toInt64) * (1000000 : Int64))), .second, .val (.int (p2 &&& (3 : Int32))), .val (.long (p3 &&& (9007199254740991 : Int64))), .second, .unset] [(.int (lcmpW (p3 &&& (9007199254740991 : Int64)) (((p1 &&& (2147483647 : Int32)).toInt64) * (1000000 : Int64)))), (.int (own_rf (FP.l2d (p3 &&& (9007199254740991 : Int64))) (((p1 &&& (2147483647 : Int32)).toInt64) * (1000000 : Int64))))])) tgt → Steps p.tables e below (s₁.setTop (entryFrame m #[(.int p0), (.int p1), (.int p2), (.long p3)] maxLocals)) tgt := fun tgt kt => pre25 _ (by
        show Steps p.tables e below (T11.setTop (mkF m 54 #[.val (.int p0), .val (.int p1), .val (.int p2), .val (.long p3), .second, .val (.int (p1 &&& (2147483647 : Int32))), .val (.ref b1), .val (.long (((p1 &&& (2147483647 : Int32)).toInt64) * (1000000 : Int64))), .second, .val (.int (p2 &&& (3 : Int32))), .unset, .unset, .unset] [(.int (2 : Int32)), (.int (p2 &&& (3 : Int32)))])) _
        refine XS.icmpNo X11.here hx rfl (hb hby at_54) rfl (teq hM2).2 ?_
        show Steps p.tables e below (T11.setTop (mkF m 57 #[.val (.int p0), .val (.int p1), .val (.int p2), .val (.long p3), .second, .val (.int (p1 &&& (2147483647 : Int32))), .val (.ref b1), .val (.long (((p1 &&& (2147483647 : Int32)).toInt64) * (1000000 : Int64))), .second, .val (.int (p2 &&& (3 : Int32))), .unset, .unset, .unset] [])) _
        refine XS.lloadN X11.here hx rfl (hb hby at_57) rfl ?_
        show Steps p.tables e below (T11.setTop (mkF m 58 #[.val (.int p0), .val (.int p1), .val (.int p2), .val (.long p3), .second, .val (.int (p1 &&& (2147483647 : Int32))), .val (.ref b1), .val (.long (((p1 &&& (2147483647 : Int32)).toInt64) * (1000000 : Int64))), .second, .val (.int (p2 &&& (3 : Int32))), .unset, .unset, .unset] [(.long p3)])) _
        refine X11.ldc2Long hx hown (mvT hZ (hw _ (List.mem_of_getElem? (i := 52) rfl))) (g := (mkF m 58 #[.val (.int p0), .val (.int p1), .val (.int p2), .val (.long p3), .second, .val (.int (p1 &&& (2147483647 : Int32))), .val (.ref b1), .val (.long (((p1 &&& (2147483647 : Int32)).toInt64) * (1000000 : Int64))), .second, .val (.int (p2 &&& (3 : Int32))), .unset, .unset, .unset] [(.long p3)])) rfl (hb hby at_58) _ ?_
        show Steps p.tables e below (T11.setTop (mkF m 61 #[.val (.int p0), .val (.int p1), .val (.int p2), .val (.long p3), .second, .val (.int (p1 &&& (2147483647 : Int32))), .val (.ref b1), .val (.long (((p1 &&& (2147483647 : Int32)).toInt64) * (1000000 : Int64))), .second, .val (.int (p2 &&& (3 : Int32))), .unset, .unset, .unset] [(.long (9007199254740991 : Int64)), (.long p3)])) _
        refine XS.land X11.here hx rfl (hb hby at_61) rfl ?_
        show Steps p.tables e below (T11.setTop (mkF m 62 #[.val (.int p0), .val (.int p1), .val (.int p2), .val (.long p3), .second, .val (.int (p1 &&& (2147483647 : Int32))), .val (.ref b1), .val (.long (((p1 &&& (2147483647 : Int32)).toInt64) * (1000000 : Int64))), .second, .val (.int (p2 &&& (3 : Int32))), .unset, .unset, .unset] [(.long (p3 &&& (9007199254740991 : Int64)))])) _
        refine XS.lstore X11.here hx rfl (hb hby at_62) rfl (l' := #[.val (.int p0), .val (.int p1), .val (.int p2), .val (.long p3), .second, .val (.int (p1 &&& (2147483647 : Int32))), .val (.ref b1), .val (.long (((p1 &&& (2147483647 : Int32)).toInt64) * (1000000 : Int64))), .second, .val (.int (p2 &&& (3 : Int32))), .val (.long (p3 &&& (9007199254740991 : Int64))), .second, .unset]) rfl ?_
        show Steps p.tables e below (T11.setTop (mkF m 64 #[.val (.int p0), .val (.int p1), .val (.int p2), .val (.long p3), .second, .val (.int (p1 &&& (2147483647 : Int32))), .val (.ref b1), .val (.long (((p1 &&& (2147483647 : Int32)).toInt64) * (1000000 : Int64))), .second, .val (.int (p2 &&& (3 : Int32))), .val (.long (p3 &&& (9007199254740991 : Int64))), .second, .unset] [])) _
        refine XS.aload X11.here hx rfl (hb hby at_64) rfl rfl ?_
        show Steps p.tables e below (T11.setTop (mkF m 66 #[.val (.int p0), .val (.int p1), .val (.int p2), .val (.long p3), .second, .val (.int (p1 &&& (2147483647 : Int32))), .val (.ref b1), .val (.long (((p1 &&& (2147483647 : Int32)).toInt64) * (1000000 : Int64))), .second, .val (.int (p2 &&& (3 : Int32))), .val (.long (p3 &&& (9007199254740991 : Int64))), .second, .unset] [(.ref b1)])) _
        refine XS.lload X11.here hx rfl (hb hby at_66) rfl ?_
        show Steps p.tables e below (T11.setTop (mkF m 68 #[.val (.int p0), .val (.int p1), .val (.int p2), .val (.long p3), .second, .val (.int (p1 &&& (2147483647 : Int32))), .val (.ref b1), .val (.long (((p1 &&& (2147483647 : Int32)).toInt64) * (1000000 : Int64))), .second, .val (.int (p2 &&& (3 : Int32))), .val (.long (p3 &&& (9007199254740991 : Int64))), .second, .unset] [(.long (p3 &&& (9007199254740991 : Int64))), (.ref b1)])) _
        refine own_l2d X11.here hx rfl (hb hby at_68) rfl ?_
        show Steps p.tables e below (T11.setTop (mkF m 69 #[.val (.int p0), .val (.int p1), .val (.int p2), .val (.long p3), .second, .val (.int (p1 &&& (2147483647 : Int32))), .val (.ref b1), .val (.long (((p1 &&& (2147483647 : Int32)).toInt64) * (1000000 : Int64))), .second, .val (.int (p2 &&& (3 : Int32))), .val (.long (p3 &&& (9007199254740991 : Int64))), .second, .unset] [(.double (FP.l2d (p3 &&& (9007199254740991 : Int64)))), (.ref b1)])) _
        refine st26.trans ?_
        show Steps p.tables e below (T26.setTop (mkF m 72 #[.val (.int p0), .val (.int p1), .val (.int p2), .val (.long p3), .second, .val (.int (p1 &&& (2147483647 : Int32))), .val (.ref b1), .val (.long (((p1 &&& (2147483647 : Int32)).toInt64) * (1000000 : Int64))), .second, .val (.int (p2 &&& (3 : Int32))), .val (.long (p3 &&& (9007199254740991 : Int64))), .second, .unset] [(.int (own_rf (FP.l2d (p3 &&& (9007199254740991 : Int64))) (((p1 &&& (2147483647 : Int32)).toInt64) * (1000000 : Int64))))])) _
        refine XS.lload X26.here hx rfl (hb hby at_72) rfl ?_
        show Steps p.tables e below (T26.setTop (mkF m 74 #[.val (.int p0), .val (.int p1), .val (.int p2), .val (.long p3), .second, .val (.int (p1 &&& (2147483647 : Int32))), .val (.ref b1), .val (.long (((p1 &&& (2147483647 : Int32)).toInt64) * (1000000 : Int64))), .second, .val (.int (p2 &&& (3 : Int32))), .val (.long (p3 &&& (9007199254740991 : Int64))), .second, .unset] [(.long (p3 &&& (9007199254740991 : Int64))), (.int (own_rf (FP.l2d (p3 &&& (9007199254740991 : Int64))) (((p1 &&& (2147483647 : Int32)).toInt64) * (1000000 : Int64))))])) _
        refine XS.lload X26.here hx rfl (hb hby at_74) rfl ?_
        show Steps p.tables e below (T26.setTop (mkF m 76 #[.val (.int p0), .val (.int p1), .val (.int p2), .val (.long p3), .second, .val (.int (p1 &&& (2147483647 : Int32))), .val (.ref b1), .val (.long (((p1 &&& (2147483647 : Int32)).toInt64) * (1000000 : Int64))), .second, .val (.int (p2 &&& (3 : Int32))), .val (.long (p3 &&& (9007199254740991 : Int64))), .second, .unset] [(.long (((p1 &&& (2147483647 : Int32)).toInt64) * (1000000 : Int64))), (.long (p3 &&& (9007199254740991 : Int64))), (.int (own_rf (FP.l2d (p3 &&& (9007199254740991 : Int64))) (((p1 &&& (2147483647 : Int32)).toInt64) * (1000000 : Int64))))])) _
        refine XS.lcmp X26.here hx rfl (hb hby at_76) rfl ?_
        exact kt)
      by_cases hV : (0 : Int32) < (lcmpW (p3 &&& (9007199254740991 : Int64)) (((p1 &&& (2147483647 : Int32)).toInt64) * (1000000 : Int64)))
      · obtain ⟨fs, hr, hrun, hended, hW, hsame⟩ := X26.leave (v := some (.int (1 : Int32))) (fun h => by rw [Bd.returns] at h; cases h)
        refine ⟨_, _, pre28 _ ?_, hrun, hended, _, _, rfl, ?_, ⟨_, rfl⟩, hW, hsame.mono (by decide) (by decide)⟩
        · show Steps p.tables e below (T26.setTop (mkF m 77 #[.val (.int p0), .val (.int p1), .val (.int p2), .val (.long p3), .second, .val (.int (p1 &&& (2147483647 : Int32))), .val (.ref b1), .val (.long (((p1 &&& (2147483647 : Int32)).toInt64) * (1000000 : Int64))), .second, .val (.int (p2 &&& (3 : Int32))), .val (.long (p3 &&& (9007199254740991 : Int64))), .second, .unset] [(.int (lcmpW (p3 &&& (9007199254740991 : Int64)) (((p1 &&& (2147483647 : Int32)).toInt64) * (1000000 : Int64)))), (.int (own_rf (FP.l2d (p3 &&& (9007199254740991 : Int64))) (((p1 &&& (2147483647 : Int32)).toInt64) * (1000000 : Int64))))])) _
          refine XS.ifNo X26.here hx rfl (hb hby at_77) rfl ((if0 _ _).trans (tlt hV).2.2.2) ?_
          show Steps p.tables e below (T26.setTop (mkF m 80 #[.val (.int p0), .val (.int p1), .val (.int p2), .val (.long p3), .second, .val (.int (p1 &&& (2147483647 : Int32))), .val (.ref b1), .val (.long (((p1 &&& (2147483647 : Int32)).toInt64) * (1000000 : Int64))), .second, .val (.int (p2 &&& (3 : Int32))), .val (.long (p3 &&& (9007199254740991 : Int64))), .second, .unset] [(.int (own_rf (FP.l2d (p3 &&& (9007199254740991 : Int64))) (((p1 &&& (2147483647 : Int32)).toInt64) * (1000000 : Int64))))])) _
          refine XS.iconst X26.here hx rfl (hb hby at_80) ?_
          show Steps p.tables e below (T26.setTop (mkF m 81 #[.val (.int p0), .val (.int p1), .val (.int p2), .val (.long p3), .second, .val (.int (p1 &&& (2147483647 : Int32))), .val (.ref b1), .val (.long (((p1 &&& (2147483647 : Int32)).toInt64) * (1000000 : Int64))), .second, .val (.int (p2 &&& (3 : Int32))), .val (.long (p3 &&& (9007199254740991 : Int64))), .second, .unset] [(.int (1 : Int32)), (.int (own_rf (FP.l2d (p3 &&& (9007199254740991 : Int64))) (((p1 &&& (2147483647 : Int32)).toInt64) * (1000000 : Int64))))])) _
          refine XS.goto X26.here hx rfl (pc0 := 81) (pc' := 85) rfl (hb hby at_81) (by decide) (by decide) ?_
          show Steps p.tables e below (T26.setTop (mkF m 85 #[.val (.int p0), .val (.int p1), .val (.int p2), .val (.long p3), .second, .val (.int (p1 &&& (2147483647 : Int32))), .val (.ref b1), .val (.long (((p1 &&& (2147483647 : Int32)).toInt64) * (1000000 : Int64))), .second, .val (.int (p2 &&& (3 : Int32))), .val (.long (p3 &&& (9007199254740991 : Int64))), .second, .unset] [(.int (1 : Int32)), (.int (own_rf (FP.l2d (p3 &&& (9007199254740991 : Int64))) (((p1 &&& (2147483647 : Int32)).toInt64) * (1000000 : Int64))))])) _
          refine XS.icmpNo X26.here hx rfl (hb hby at_85) rfl (teq ((own_m2 _ _).trans (if_pos hV))).2 ?_
          show Steps p.tables e below (T26.setTop (mkF m 88 #[.val (.int p0), .val (.int p1), .val (.int p2), .val (.long p3), .second, .val (.int (p1 &&& (2147483647 : Int32))), .val (.ref b1), .val (.long (((p1 &&& (2147483647 : Int32)).toInt64) * (1000000 : Int64))), .second, .val (.int (p2 &&& (3 : Int32))), .val (.long (p3 &&& (9007199254740991 : Int64))), .second, .unset] [])) _
          refine XS.iconst X26.here hx rfl (hb hby at_88) ?_
          show Steps p.tables e below (T26.setTop (mkF m 89 #[.val (.int p0), .val (.int p1), .val (.int p2), .val (.long p3), .second, .val (.int (p1 &&& (2147483647 : Int32))), .val (.ref b1), .val (.long (((p1 &&& (2147483647 : Int32)).toInt64) * (1000000 : Int64))), .second, .val (.int (p2 &&& (3 : Int32))), .val (.long (p3 &&& (9007199254740991 : Int64))), .second, .unset] [(.int (1 : Int32))])) _
          refine XS.goto X26.here hx rfl (pc0 := 89) (pc' := 93) rfl (hb hby at_89) (by decide) (by decide) ?_
          show Steps p.tables e below (T26.setTop (mkF m 93 #[.val (.int p0), .val (.int p1), .val (.int p2), .val (.long p3), .second, .val (.int (p1 &&& (2147483647 : Int32))), .val (.ref b1), .val (.long (((p1 &&& (2147483647 : Int32)).toInt64) * (1000000 : Int64))), .second, .val (.int (p2 &&& (3 : Int32))), .val (.long (p3 &&& (9007199254740991 : Int64))), .second, .unset] [(.int (1 : Int32))])) _
          exact retN X26 hx (t := .boolean) Bd.returns (by simp) (hb hby at_93) hr
        · show Q0 Z p0 p1 p2 p3 tu h0 n0 _ T26.heap _
          rw [e26]
          exact ⟨rfl, N27⟩
      · obtain ⟨fs, hr, hrun, hended, hW, hsame⟩ := X26.leave (v := some (.int (1 : Int32))) (fun h => by rw [Bd.returns] at h; cases h)
        refine ⟨_, _, pre28 _ ?_, hrun, hended, _, _, rfl, ?_, ⟨_, rfl⟩, hW, hsame.mono (by decide) (by decide)⟩
        · show Steps p.tables e below (T26.setTop (mkF m 77 #[.val (.int p0), .val (.int p1), .val (.int p2), .val (.long p3), .second, .val (.int (p1 &&& (2147483647 : Int32))), .val (.ref b1), .val (.long (((p1 &&& (2147483647 : Int32)).toInt64) * (1000000 : Int64))), .second, .val (.int (p2 &&& (3 : Int32))), .val (.long (p3 &&& (9007199254740991 : Int64))), .second, .unset] [(.int (lcmpW (p3 &&& (9007199254740991 : Int64)) (((p1 &&& (2147483647 : Int32)).toInt64) * (1000000 : Int64)))), (.int (own_rf (FP.l2d (p3 &&& (9007199254740991 : Int64))) (((p1 &&& (2147483647 : Int32)).toInt64) * (1000000 : Int64))))])) _
          refine XS.ifYes X26.here hx rfl (pc0 := 77) (pc' := 84) rfl (hb hby at_77) rfl ((if0 _ _).trans (flt hV).2.2.2) (by decide) (by decide) ?_
          show Steps p.tables e below (T26.setTop (mkF m 84 #[.val (.int p0), .val (.int p1), .val (.int p2), .val (.long p3), .second, .val (.int (p1 &&& (2147483647 : Int32))), .val (.ref b1), .val (.long (((p1 &&& (2147483647 : Int32)).toInt64) * (1000000 : Int64))), .second, .val (.int (p2 &&& (3 : Int32))), .val (.long (p3 &&& (9007199254740991 : Int64))), .second, .unset] [(.int (own_rf (FP.l2d (p3 &&& (9007199254740991 : Int64))) (((p1 &&& (2147483647 : Int32)).toInt64) * (1000000 : Int64))))])) _
          refine XS.iconst X26.here hx rfl (hb hby at_84) ?_
          show Steps p.tables e below (T26.setTop (mkF m 85 #[.val (.int p0), .val (.int p1), .val (.int p2), .val (.long p3), .second, .val (.int (p1 &&& (2147483647 : Int32))), .val (.ref b1), .val (.long (((p1 &&& (2147483647 : Int32)).toInt64) * (1000000 : Int64))), .second, .val (.int (p2 &&& (3 : Int32))), .val (.long (p3 &&& (9007199254740991 : Int64))), .second, .unset] [(.int (0 : Int32)), (.int (own_rf (FP.l2d (p3 &&& (9007199254740991 : Int64))) (((p1 &&& (2147483647 : Int32)).toInt64) * (1000000 : Int64))))])) _
          refine XS.icmpNo X26.here hx rfl (hb hby at_85) rfl (teq ((own_m2 _ _).trans (if_neg hV))).2 ?_
          show Steps p.tables e below (T26.setTop (mkF m 88 #[.val (.int p0), .val (.int p1), .val (.int p2), .val (.long p3), .second, .val (.int (p1 &&& (2147483647 : Int32))), .val (.ref b1), .val (.long (((p1 &&& (2147483647 : Int32)).toInt64) * (1000000 : Int64))), .second, .val (.int (p2 &&& (3 : Int32))), .val (.long (p3 &&& (9007199254740991 : Int64))), .second, .unset] [])) _
          refine XS.iconst X26.here hx rfl (hb hby at_88) ?_
          show Steps p.tables e below (T26.setTop (mkF m 89 #[.val (.int p0), .val (.int p1), .val (.int p2), .val (.long p3), .second, .val (.int (p1 &&& (2147483647 : Int32))), .val (.ref b1), .val (.long (((p1 &&& (2147483647 : Int32)).toInt64) * (1000000 : Int64))), .second, .val (.int (p2 &&& (3 : Int32))), .val (.long (p3 &&& (9007199254740991 : Int64))), .second, .unset] [(.int (1 : Int32))])) _
          refine XS.goto X26.here hx rfl (pc0 := 89) (pc' := 93) rfl (hb hby at_89) (by decide) (by decide) ?_
          show Steps p.tables e below (T26.setTop (mkF m 93 #[.val (.int p0), .val (.int p1), .val (.int p2), .val (.long p3), .second, .val (.int (p1 &&& (2147483647 : Int32))), .val (.ref b1), .val (.long (((p1 &&& (2147483647 : Int32)).toInt64) * (1000000 : Int64))), .second, .val (.int (p2 &&& (3 : Int32))), .val (.long (p3 &&& (9007199254740991 : Int64))), .second, .unset] [(.int (1 : Int32))])) _
          exact retN X26 hx (t := .boolean) Bd.returns (by simp) (hb hby at_93) hr
        · show Q0 Z p0 p1 p2 p3 tu h0 n0 _ T26.heap _
          rw [e26]
          exact ⟨rfl, N27⟩
    · obtain ⟨cq29, kq29, q29a, q29b, q29c⟩ := isOf hZ rfl f12
      obtain ⟨_, _, ⟨T29, L29, k29, n29⟩, -, X29, ⟨Lc29, hQ29, l29, y29, z29⟩, st29⟩ := X11.virtualBack hx (y := (⟨"com/example/link7/link7/rule/flow/Pacing", "refuses", "(D)Z"⟩ : MethodName)) (z := (⟨"com/example/link7/link7/rule/flow/Pacing", "refuses", "(D)Z"⟩ : MethodName)) hown (mvT hZ (hw _ (List.mem_of_getElem? (i := 53) rfl))) (mvT hZ (hw _ (List.mem_of_getElem? (i := 54) rfl))) (notFace_of_selects (args := #[]) (mvT hZ (hw _ (List.mem_of_getElem? (i := 56) rfl)))) (mvT hZ (hw _ (List.mem_of_getElem? (i := 56) rfl))) (mvT hZ (hw _ (List.mem_of_getElem? (i := 55) rfl))) (by decide) (backOf (W := 0) (rm7 l Z a0 hw [] b1 (FP.ddiv (FP.l2d (((2 : Int64) * (((p1 &&& (2147483647 : Int32)).toInt64) * (1000000 : Int64))) + ((((p3 &&& (15 : Int64)).toInt32) - (8 : Int32)).toInt64))) (4611686018427387904 : UInt64)) (((p1 &&& (2147483647 : Int32)).toInt64) * (1000000 : Int64)) T11.heap n0 zz18 f13) hZ (hw _ (List.mem_of_getElem? (i := 57) rfl)) (hw _ (List.mem_of_getElem? (i := 3) rfl)) (by decide) (by decide)) q29a q29c (g := (mkF m 126 #[.val (.int p0), .val (.int p1), .val (.int p2), .val (.long p3), .second, .val (.int (p1 &&& (2147483647 : Int32))), .val (.ref b1), .val (.long (((p1 &&& (2147483647 : Int32)).toInt64) * (1000000 : Int64))), .second, .val (.int (p2 &&& (3 : Int32))), .val (.int (((p3 &&& (15 : Int64)).toInt32) - (8 : Int32))), .val (.double (FP.ddiv (FP.l2d (((2 : Int64) * (((p1 &&& (2147483647 : Int32)).toInt64) * (1000000 : Int64))) + ((((p3 &&& (15 : Int64)).toInt32) - (8 : Int32)).toInt64))) (4611686018427387904 : UInt64))), .second] [(.double (FP.ddiv (FP.l2d (((2 : Int64) * (((p1 &&& (2147483647 : Int32)).toInt64) * (1000000 : Int64))) + ((((p3 &&& (15 : Int64)).toInt32) - (8 : Int32)).toInt64))) (4611686018427387904 : UInt64))), (.ref b1)])) rfl (by rw [hml]; rfl) (Steps.refl _) (argsL := [(.double (FP.ddiv (FP.l2d (((2 : Int64) * (((p1 &&& (2147483647 : Int32)).toInt64) * (1000000 : Int64))) + ((((p3 &&& (15 : Int64)).toInt32) - (8 : Int32)).toInt64))) (4611686018427387904 : UInt64)))]) (rest := []) (lenOf pd_4 rfl) rfl (by show 2 * 0 + _ ≤ _; exact Nat.le_of_eq rfl) (hb hby at_126) (fun _ _ => ⟨rfl, rfl, (by decide : 3 + 0 ≤ _), (by decide : 73 + 0 ≤ _)⟩)
      dsimp only [Pt.U, Pt.locs, Pt.cells, Pt.slots] at X29 l29 y29 z29 st29 hQ29
      subst l29 y29 z29
      obtain ⟨rfl, Nq29, e29⟩ := hQ29
      have N30 := Fr.app N19 Nq29
      have pre31 : ∀ tgt, Steps p.tables e below (T29.setTop (mkF m 131 #[.val (.int p0), .val (.int p1), .val (.int p2), .val (.long p3), .second, .val (.int (p1 &&& (2147483647 : Int32))), .val (.ref b1), .val (.long (((p1 &&& (2147483647 : Int32)).toInt64) * (1000000 : Int64))), .second, .val (.int (p2 &&& (3 : Int32))), .val (.int (((p3 &&& (15 : Int64)).toInt32) - (8 : Int32))), .val (.double (FP.ddiv (FP.l2d (((2 : Int64) * (((p1 &&& (2147483647 : Int32)).toInt64) * (1000000 : Int64))) + ((((p3 &&& (15 : Int64)).toInt32) - (8 : Int32)).toInt64))) (4611686018427387904 : UInt64))), .second] [(.int (((p3 &&& (15 : Int64)).toInt32) - (8 : Int32))), (.int (own_rf (FP.ddiv (FP.l2d (((2 : Int64) * (((p1 &&& (2147483647 : Int32)).toInt64) * (1000000 : Int64))) + ((((p3 &&& (15 : Int64)).toInt32) - (8 : Int32)).toInt64))) (4611686018427387904 : UInt64)) (((p1 &&& (2147483647 : Int32)).toInt64) * (1000000 : Int64))))])) tgt → Steps p.tables e below (s₁.setTop (entryFrame m #[(.int p0), (.int p1), (.int p2), (.long p3)] maxLocals)) tgt := fun tgt kt => pre25 _ (by
        show Steps p.tables e below (T11.setTop (mkF m 54 #[.val (.int p0), .val (.int p1), .val (.int p2), .val (.long p3), .second, .val (.int (p1 &&& (2147483647 : Int32))), .val (.ref b1), .val (.long (((p1 &&& (2147483647 : Int32)).toInt64) * (1000000 : Int64))), .second, .val (.int (p2 &&& (3 : Int32))), .unset, .unset, .unset] [(.int (2 : Int32)), (.int (p2 &&& (3 : Int32)))])) _
        refine XS.icmpYes X11.here hx rfl (pc0 := 54) (pc' := 94) rfl (hb hby at_54) rfl (feq hM2).2 (by decide) (by decide) ?_
        show Steps p.tables e below (T11.setTop (mkF m 94 #[.val (.int p0), .val (.int p1), .val (.int p2), .val (.long p3), .second, .val (.int (p1 &&& (2147483647 : Int32))), .val (.ref b1), .val (.long (((p1 &&& (2147483647 : Int32)).toInt64) * (1000000 : Int64))), .second, .val (.int (p2 &&& (3 : Int32))), .unset, .unset, .unset] [])) _
        refine XS.lloadN X11.here hx rfl (hb hby at_94) rfl ?_
        show Steps p.tables e below (T11.setTop (mkF m 95 #[.val (.int p0), .val (.int p1), .val (.int p2), .val (.long p3), .second, .val (.int (p1 &&& (2147483647 : Int32))), .val (.ref b1), .val (.long (((p1 &&& (2147483647 : Int32)).toInt64) * (1000000 : Int64))), .second, .val (.int (p2 &&& (3 : Int32))), .unset, .unset, .unset] [(.long p3)])) _
        refine X11.ldc2Long hx hown (mvT hZ (hw _ (List.mem_of_getElem? (i := 59) rfl))) (g := (mkF m 95 #[.val (.int p0), .val (.int p1), .val (.int p2), .val (.long p3), .second, .val (.int (p1 &&& (2147483647 : Int32))), .val (.ref b1), .val (.long (((p1 &&& (2147483647 : Int32)).toInt64) * (1000000 : Int64))), .second, .val (.int (p2 &&& (3 : Int32))), .unset, .unset, .unset] [(.long p3)])) rfl (hb hby at_95) _ ?_
        show Steps p.tables e below (T11.setTop (mkF m 98 #[.val (.int p0), .val (.int p1), .val (.int p2), .val (.long p3), .second, .val (.int (p1 &&& (2147483647 : Int32))), .val (.ref b1), .val (.long (((p1 &&& (2147483647 : Int32)).toInt64) * (1000000 : Int64))), .second, .val (.int (p2 &&& (3 : Int32))), .unset, .unset, .unset] [(.long (15 : Int64)), (.long p3)])) _
        refine XS.land X11.here hx rfl (hb hby at_98) rfl ?_
        show Steps p.tables e below (T11.setTop (mkF m 99 #[.val (.int p0), .val (.int p1), .val (.int p2), .val (.long p3), .second, .val (.int (p1 &&& (2147483647 : Int32))), .val (.ref b1), .val (.long (((p1 &&& (2147483647 : Int32)).toInt64) * (1000000 : Int64))), .second, .val (.int (p2 &&& (3 : Int32))), .unset, .unset, .unset] [(.long (p3 &&& (15 : Int64)))])) _
        refine XS.l2i X11.here hx rfl (hb hby at_99) rfl ?_
        show Steps p.tables e below (T11.setTop (mkF m 100 #[.val (.int p0), .val (.int p1), .val (.int p2), .val (.long p3), .second, .val (.int (p1 &&& (2147483647 : Int32))), .val (.ref b1), .val (.long (((p1 &&& (2147483647 : Int32)).toInt64) * (1000000 : Int64))), .second, .val (.int (p2 &&& (3 : Int32))), .unset, .unset, .unset] [(.int ((p3 &&& (15 : Int64)).toInt32))])) _
        refine XS.bipush X11.here hx rfl (hb hby at_100) ?_
        show Steps p.tables e below (T11.setTop (mkF m 102 #[.val (.int p0), .val (.int p1), .val (.int p2), .val (.long p3), .second, .val (.int (p1 &&& (2147483647 : Int32))), .val (.ref b1), .val (.long (((p1 &&& (2147483647 : Int32)).toInt64) * (1000000 : Int64))), .second, .val (.int (p2 &&& (3 : Int32))), .unset, .unset, .unset] [(.int (8 : Int32)), (.int ((p3 &&& (15 : Int64)).toInt32))])) _
        refine XS.isub X11.here hx rfl (hb hby at_102) rfl ?_
        show Steps p.tables e below (T11.setTop (mkF m 103 #[.val (.int p0), .val (.int p1), .val (.int p2), .val (.long p3), .second, .val (.int (p1 &&& (2147483647 : Int32))), .val (.ref b1), .val (.long (((p1 &&& (2147483647 : Int32)).toInt64) * (1000000 : Int64))), .second, .val (.int (p2 &&& (3 : Int32))), .unset, .unset, .unset] [(.int (((p3 &&& (15 : Int64)).toInt32) - (8 : Int32)))])) _
        refine XS.istore X11.here hx rfl (hb hby at_103) rfl (l' := #[.val (.int p0), .val (.int p1), .val (.int p2), .val (.long p3), .second, .val (.int (p1 &&& (2147483647 : Int32))), .val (.ref b1), .val (.long (((p1 &&& (2147483647 : Int32)).toInt64) * (1000000 : Int64))), .second, .val (.int (p2 &&& (3 : Int32))), .val (.int (((p3 &&& (15 : Int64)).toInt32) - (8 : Int32))), .unset, .unset]) rfl ?_
        show Steps p.tables e below (T11.setTop (mkF m 105 #[.val (.int p0), .val (.int p1), .val (.int p2), .val (.long p3), .second, .val (.int (p1 &&& (2147483647 : Int32))), .val (.ref b1), .val (.long (((p1 &&& (2147483647 : Int32)).toInt64) * (1000000 : Int64))), .second, .val (.int (p2 &&& (3 : Int32))), .val (.int (((p3 &&& (15 : Int64)).toInt32) - (8 : Int32))), .unset, .unset] [])) _
        refine X11.ldc2Long hx hown (mvT hZ (hw _ (List.mem_of_getElem? (i := 60) rfl))) (g := (mkF m 105 #[.val (.int p0), .val (.int p1), .val (.int p2), .val (.long p3), .second, .val (.int (p1 &&& (2147483647 : Int32))), .val (.ref b1), .val (.long (((p1 &&& (2147483647 : Int32)).toInt64) * (1000000 : Int64))), .second, .val (.int (p2 &&& (3 : Int32))), .val (.int (((p3 &&& (15 : Int64)).toInt32) - (8 : Int32))), .unset, .unset] [])) rfl (hb hby at_105) _ ?_
        show Steps p.tables e below (T11.setTop (mkF m 108 #[.val (.int p0), .val (.int p1), .val (.int p2), .val (.long p3), .second, .val (.int (p1 &&& (2147483647 : Int32))), .val (.ref b1), .val (.long (((p1 &&& (2147483647 : Int32)).toInt64) * (1000000 : Int64))), .second, .val (.int (p2 &&& (3 : Int32))), .val (.int (((p3 &&& (15 : Int64)).toInt32) - (8 : Int32))), .unset, .unset] [(.long (2 : Int64))])) _
        refine XS.lload X11.here hx rfl (hb hby at_108) rfl ?_
        show Steps p.tables e below (T11.setTop (mkF m 110 #[.val (.int p0), .val (.int p1), .val (.int p2), .val (.long p3), .second, .val (.int (p1 &&& (2147483647 : Int32))), .val (.ref b1), .val (.long (((p1 &&& (2147483647 : Int32)).toInt64) * (1000000 : Int64))), .second, .val (.int (p2 &&& (3 : Int32))), .val (.int (((p3 &&& (15 : Int64)).toInt32) - (8 : Int32))), .unset, .unset] [(.long (((p1 &&& (2147483647 : Int32)).toInt64) * (1000000 : Int64))), (.long (2 : Int64))])) _
        refine XS.lmul X11.here hx rfl (hb hby at_110) rfl ?_
        show Steps p.tables e below (T11.setTop (mkF m 111 #[.val (.int p0), .val (.int p1), .val (.int p2), .val (.long p3), .second, .val (.int (p1 &&& (2147483647 : Int32))), .val (.ref b1), .val (.long (((p1 &&& (2147483647 : Int32)).toInt64) * (1000000 : Int64))), .second, .val (.int (p2 &&& (3 : Int32))), .val (.int (((p3 &&& (15 : Int64)).toInt32) - (8 : Int32))), .unset, .unset] [(.long ((2 : Int64) * (((p1 &&& (2147483647 : Int32)).toInt64) * (1000000 : Int64))))])) _
        refine XS.iload X11.here hx rfl (hb hby at_111) rfl ?_
        show Steps p.tables e below (T11.setTop (mkF m 113 #[.val (.int p0), .val (.int p1), .val (.int p2), .val (.long p3), .second, .val (.int (p1 &&& (2147483647 : Int32))), .val (.ref b1), .val (.long (((p1 &&& (2147483647 : Int32)).toInt64) * (1000000 : Int64))), .second, .val (.int (p2 &&& (3 : Int32))), .val (.int (((p3 &&& (15 : Int64)).toInt32) - (8 : Int32))), .unset, .unset] [(.int (((p3 &&& (15 : Int64)).toInt32) - (8 : Int32))), (.long ((2 : Int64) * (((p1 &&& (2147483647 : Int32)).toInt64) * (1000000 : Int64))))])) _
        refine XS.i2l X11.here hx rfl (hb hby at_113) rfl ?_
        show Steps p.tables e below (T11.setTop (mkF m 114 #[.val (.int p0), .val (.int p1), .val (.int p2), .val (.long p3), .second, .val (.int (p1 &&& (2147483647 : Int32))), .val (.ref b1), .val (.long (((p1 &&& (2147483647 : Int32)).toInt64) * (1000000 : Int64))), .second, .val (.int (p2 &&& (3 : Int32))), .val (.int (((p3 &&& (15 : Int64)).toInt32) - (8 : Int32))), .unset, .unset] [(.long ((((p3 &&& (15 : Int64)).toInt32) - (8 : Int32)).toInt64)), (.long ((2 : Int64) * (((p1 &&& (2147483647 : Int32)).toInt64) * (1000000 : Int64))))])) _
        refine XS.ladd X11.here hx rfl (hb hby at_114) rfl ?_
        show Steps p.tables e below (T11.setTop (mkF m 115 #[.val (.int p0), .val (.int p1), .val (.int p2), .val (.long p3), .second, .val (.int (p1 &&& (2147483647 : Int32))), .val (.ref b1), .val (.long (((p1 &&& (2147483647 : Int32)).toInt64) * (1000000 : Int64))), .second, .val (.int (p2 &&& (3 : Int32))), .val (.int (((p3 &&& (15 : Int64)).toInt32) - (8 : Int32))), .unset, .unset] [(.long (((2 : Int64) * (((p1 &&& (2147483647 : Int32)).toInt64) * (1000000 : Int64))) + ((((p3 &&& (15 : Int64)).toInt32) - (8 : Int32)).toInt64)))])) _
        refine own_l2d X11.here hx rfl (hb hby at_115) rfl ?_
        show Steps p.tables e below (T11.setTop (mkF m 116 #[.val (.int p0), .val (.int p1), .val (.int p2), .val (.long p3), .second, .val (.int (p1 &&& (2147483647 : Int32))), .val (.ref b1), .val (.long (((p1 &&& (2147483647 : Int32)).toInt64) * (1000000 : Int64))), .second, .val (.int (p2 &&& (3 : Int32))), .val (.int (((p3 &&& (15 : Int64)).toInt32) - (8 : Int32))), .unset, .unset] [(.double (FP.l2d (((2 : Int64) * (((p1 &&& (2147483647 : Int32)).toInt64) * (1000000 : Int64))) + ((((p3 &&& (15 : Int64)).toInt32) - (8 : Int32)).toInt64))))])) _
        refine X11.ldc2DoubleC hx hown (mvT hZ (hw _ (List.mem_of_getElem? (i := 61) rfl))) (g := (mkF m 116 #[.val (.int p0), .val (.int p1), .val (.int p2), .val (.long p3), .second, .val (.int (p1 &&& (2147483647 : Int32))), .val (.ref b1), .val (.long (((p1 &&& (2147483647 : Int32)).toInt64) * (1000000 : Int64))), .second, .val (.int (p2 &&& (3 : Int32))), .val (.int (((p3 &&& (15 : Int64)).toInt32) - (8 : Int32))), .unset, .unset] [(.double (FP.l2d (((2 : Int64) * (((p1 &&& (2147483647 : Int32)).toInt64) * (1000000 : Int64))) + ((((p3 &&& (15 : Int64)).toInt32) - (8 : Int32)).toInt64))))])) rfl (hb hby at_116) _ ?_
        show Steps p.tables e below (T11.setTop (mkF m 119 #[.val (.int p0), .val (.int p1), .val (.int p2), .val (.long p3), .second, .val (.int (p1 &&& (2147483647 : Int32))), .val (.ref b1), .val (.long (((p1 &&& (2147483647 : Int32)).toInt64) * (1000000 : Int64))), .second, .val (.int (p2 &&& (3 : Int32))), .val (.int (((p3 &&& (15 : Int64)).toInt32) - (8 : Int32))), .unset, .unset] [(.double (4611686018427387904 : UInt64)), (.double (FP.l2d (((2 : Int64) * (((p1 &&& (2147483647 : Int32)).toInt64) * (1000000 : Int64))) + ((((p3 &&& (15 : Int64)).toInt32) - (8 : Int32)).toInt64))))])) _
        refine own_ddiv X11.here hx (hb hby at_119) (own_nan1 p1 p3) ?_
        show Steps p.tables e below (T11.setTop (mkF m 120 #[.val (.int p0), .val (.int p1), .val (.int p2), .val (.long p3), .second, .val (.int (p1 &&& (2147483647 : Int32))), .val (.ref b1), .val (.long (((p1 &&& (2147483647 : Int32)).toInt64) * (1000000 : Int64))), .second, .val (.int (p2 &&& (3 : Int32))), .val (.int (((p3 &&& (15 : Int64)).toInt32) - (8 : Int32))), .unset, .unset] [(.double (FP.ddiv (FP.l2d (((2 : Int64) * (((p1 &&& (2147483647 : Int32)).toInt64) * (1000000 : Int64))) + ((((p3 &&& (15 : Int64)).toInt32) - (8 : Int32)).toInt64))) (4611686018427387904 : UInt64)))])) _
        refine own_dstore X11.here hx rfl (hb hby at_120) rfl (l' := #[.val (.int p0), .val (.int p1), .val (.int p2), .val (.long p3), .second, .val (.int (p1 &&& (2147483647 : Int32))), .val (.ref b1), .val (.long (((p1 &&& (2147483647 : Int32)).toInt64) * (1000000 : Int64))), .second, .val (.int (p2 &&& (3 : Int32))), .val (.int (((p3 &&& (15 : Int64)).toInt32) - (8 : Int32))), .val (.double (FP.ddiv (FP.l2d (((2 : Int64) * (((p1 &&& (2147483647 : Int32)).toInt64) * (1000000 : Int64))) + ((((p3 &&& (15 : Int64)).toInt32) - (8 : Int32)).toInt64))) (4611686018427387904 : UInt64))), .second]) rfl ?_
        show Steps p.tables e below (T11.setTop (mkF m 122 #[.val (.int p0), .val (.int p1), .val (.int p2), .val (.long p3), .second, .val (.int (p1 &&& (2147483647 : Int32))), .val (.ref b1), .val (.long (((p1 &&& (2147483647 : Int32)).toInt64) * (1000000 : Int64))), .second, .val (.int (p2 &&& (3 : Int32))), .val (.int (((p3 &&& (15 : Int64)).toInt32) - (8 : Int32))), .val (.double (FP.ddiv (FP.l2d (((2 : Int64) * (((p1 &&& (2147483647 : Int32)).toInt64) * (1000000 : Int64))) + ((((p3 &&& (15 : Int64)).toInt32) - (8 : Int32)).toInt64))) (4611686018427387904 : UInt64))), .second] [])) _
        refine XS.aload X11.here hx rfl (hb hby at_122) rfl rfl ?_
        show Steps p.tables e below (T11.setTop (mkF m 124 #[.val (.int p0), .val (.int p1), .val (.int p2), .val (.long p3), .second, .val (.int (p1 &&& (2147483647 : Int32))), .val (.ref b1), .val (.long (((p1 &&& (2147483647 : Int32)).toInt64) * (1000000 : Int64))), .second, .val (.int (p2 &&& (3 : Int32))), .val (.int (((p3 &&& (15 : Int64)).toInt32) - (8 : Int32))), .val (.double (FP.ddiv (FP.l2d (((2 : Int64) * (((p1 &&& (2147483647 : Int32)).toInt64) * (1000000 : Int64))) + ((((p3 &&& (15 : Int64)).toInt32) - (8 : Int32)).toInt64))) (4611686018427387904 : UInt64))), .second] [(.ref b1)])) _
        refine own_dload X11.here hx rfl (hb hby at_124) rfl ?_
        show Steps p.tables e below (T11.setTop (mkF m 126 #[.val (.int p0), .val (.int p1), .val (.int p2), .val (.long p3), .second, .val (.int (p1 &&& (2147483647 : Int32))), .val (.ref b1), .val (.long (((p1 &&& (2147483647 : Int32)).toInt64) * (1000000 : Int64))), .second, .val (.int (p2 &&& (3 : Int32))), .val (.int (((p3 &&& (15 : Int64)).toInt32) - (8 : Int32))), .val (.double (FP.ddiv (FP.l2d (((2 : Int64) * (((p1 &&& (2147483647 : Int32)).toInt64) * (1000000 : Int64))) + ((((p3 &&& (15 : Int64)).toInt32) - (8 : Int32)).toInt64))) (4611686018427387904 : UInt64))), .second] [(.double (FP.ddiv (FP.l2d (((2 : Int64) * (((p1 &&& (2147483647 : Int32)).toInt64) * (1000000 : Int64))) + ((((p3 &&& (15 : Int64)).toInt32) - (8 : Int32)).toInt64))) (4611686018427387904 : UInt64))), (.ref b1)])) _
        refine st29.trans ?_
        show Steps p.tables e below (T29.setTop (mkF m 129 #[.val (.int p0), .val (.int p1), .val (.int p2), .val (.long p3), .second, .val (.int (p1 &&& (2147483647 : Int32))), .val (.ref b1), .val (.long (((p1 &&& (2147483647 : Int32)).toInt64) * (1000000 : Int64))), .second, .val (.int (p2 &&& (3 : Int32))), .val (.int (((p3 &&& (15 : Int64)).toInt32) - (8 : Int32))), .val (.double (FP.ddiv (FP.l2d (((2 : Int64) * (((p1 &&& (2147483647 : Int32)).toInt64) * (1000000 : Int64))) + ((((p3 &&& (15 : Int64)).toInt32) - (8 : Int32)).toInt64))) (4611686018427387904 : UInt64))), .second] [(.int (own_rf (FP.ddiv (FP.l2d (((2 : Int64) * (((p1 &&& (2147483647 : Int32)).toInt64) * (1000000 : Int64))) + ((((p3 &&& (15 : Int64)).toInt32) - (8 : Int32)).toInt64))) (4611686018427387904 : UInt64)) (((p1 &&& (2147483647 : Int32)).toInt64) * (1000000 : Int64))))])) _
        refine XS.iload X29.here hx rfl (hb hby at_129) rfl ?_
        exact kt)
      by_cases hV : (0 : Int32) < (((p3 &&& (15 : Int64)).toInt32) - (8 : Int32))
      · obtain ⟨fs, hr, hrun, hended, hW, hsame⟩ := X29.leave (v := some (.int (1 : Int32))) (fun h => by rw [Bd.returns] at h; cases h)
        refine ⟨_, _, pre31 _ ?_, hrun, hended, _, _, rfl, ?_, ⟨_, rfl⟩, hW, hsame.mono (by decide) (by decide)⟩
        · show Steps p.tables e below (T29.setTop (mkF m 131 #[.val (.int p0), .val (.int p1), .val (.int p2), .val (.long p3), .second, .val (.int (p1 &&& (2147483647 : Int32))), .val (.ref b1), .val (.long (((p1 &&& (2147483647 : Int32)).toInt64) * (1000000 : Int64))), .second, .val (.int (p2 &&& (3 : Int32))), .val (.int (((p3 &&& (15 : Int64)).toInt32) - (8 : Int32))), .val (.double (FP.ddiv (FP.l2d (((2 : Int64) * (((p1 &&& (2147483647 : Int32)).toInt64) * (1000000 : Int64))) + ((((p3 &&& (15 : Int64)).toInt32) - (8 : Int32)).toInt64))) (4611686018427387904 : UInt64))), .second] [(.int (((p3 &&& (15 : Int64)).toInt32) - (8 : Int32))), (.int (own_rf (FP.ddiv (FP.l2d (((2 : Int64) * (((p1 &&& (2147483647 : Int32)).toInt64) * (1000000 : Int64))) + ((((p3 &&& (15 : Int64)).toInt32) - (8 : Int32)).toInt64))) (4611686018427387904 : UInt64)) (((p1 &&& (2147483647 : Int32)).toInt64) * (1000000 : Int64))))])) _
          refine XS.ifNo X29.here hx rfl (hb hby at_131) rfl ((if0 _ _).trans (tlt hV).2.2.2) ?_
          show Steps p.tables e below (T29.setTop (mkF m 134 #[.val (.int p0), .val (.int p1), .val (.int p2), .val (.long p3), .second, .val (.int (p1 &&& (2147483647 : Int32))), .val (.ref b1), .val (.long (((p1 &&& (2147483647 : Int32)).toInt64) * (1000000 : Int64))), .second, .val (.int (p2 &&& (3 : Int32))), .val (.int (((p3 &&& (15 : Int64)).toInt32) - (8 : Int32))), .val (.double (FP.ddiv (FP.l2d (((2 : Int64) * (((p1 &&& (2147483647 : Int32)).toInt64) * (1000000 : Int64))) + ((((p3 &&& (15 : Int64)).toInt32) - (8 : Int32)).toInt64))) (4611686018427387904 : UInt64))), .second] [(.int (own_rf (FP.ddiv (FP.l2d (((2 : Int64) * (((p1 &&& (2147483647 : Int32)).toInt64) * (1000000 : Int64))) + ((((p3 &&& (15 : Int64)).toInt32) - (8 : Int32)).toInt64))) (4611686018427387904 : UInt64)) (((p1 &&& (2147483647 : Int32)).toInt64) * (1000000 : Int64))))])) _
          refine XS.iconst X29.here hx rfl (hb hby at_134) ?_
          show Steps p.tables e below (T29.setTop (mkF m 135 #[.val (.int p0), .val (.int p1), .val (.int p2), .val (.long p3), .second, .val (.int (p1 &&& (2147483647 : Int32))), .val (.ref b1), .val (.long (((p1 &&& (2147483647 : Int32)).toInt64) * (1000000 : Int64))), .second, .val (.int (p2 &&& (3 : Int32))), .val (.int (((p3 &&& (15 : Int64)).toInt32) - (8 : Int32))), .val (.double (FP.ddiv (FP.l2d (((2 : Int64) * (((p1 &&& (2147483647 : Int32)).toInt64) * (1000000 : Int64))) + ((((p3 &&& (15 : Int64)).toInt32) - (8 : Int32)).toInt64))) (4611686018427387904 : UInt64))), .second] [(.int (1 : Int32)), (.int (own_rf (FP.ddiv (FP.l2d (((2 : Int64) * (((p1 &&& (2147483647 : Int32)).toInt64) * (1000000 : Int64))) + ((((p3 &&& (15 : Int64)).toInt32) - (8 : Int32)).toInt64))) (4611686018427387904 : UInt64)) (((p1 &&& (2147483647 : Int32)).toInt64) * (1000000 : Int64))))])) _
          refine XS.goto X29.here hx rfl (pc0 := 135) (pc' := 139) rfl (hb hby at_135) (by decide) (by decide) ?_
          show Steps p.tables e below (T29.setTop (mkF m 139 #[.val (.int p0), .val (.int p1), .val (.int p2), .val (.long p3), .second, .val (.int (p1 &&& (2147483647 : Int32))), .val (.ref b1), .val (.long (((p1 &&& (2147483647 : Int32)).toInt64) * (1000000 : Int64))), .second, .val (.int (p2 &&& (3 : Int32))), .val (.int (((p3 &&& (15 : Int64)).toInt32) - (8 : Int32))), .val (.double (FP.ddiv (FP.l2d (((2 : Int64) * (((p1 &&& (2147483647 : Int32)).toInt64) * (1000000 : Int64))) + ((((p3 &&& (15 : Int64)).toInt32) - (8 : Int32)).toInt64))) (4611686018427387904 : UInt64))), .second] [(.int (1 : Int32)), (.int (own_rf (FP.ddiv (FP.l2d (((2 : Int64) * (((p1 &&& (2147483647 : Int32)).toInt64) * (1000000 : Int64))) + ((((p3 &&& (15 : Int64)).toInt32) - (8 : Int32)).toInt64))) (4611686018427387904 : UInt64)) (((p1 &&& (2147483647 : Int32)).toInt64) * (1000000 : Int64))))])) _
          refine XS.icmpNo X29.here hx rfl (hb hby at_139) rfl (teq ((own_m1 _ _ (own_k _)).trans (if_pos hV))).2 ?_
          show Steps p.tables e below (T29.setTop (mkF m 142 #[.val (.int p0), .val (.int p1), .val (.int p2), .val (.long p3), .second, .val (.int (p1 &&& (2147483647 : Int32))), .val (.ref b1), .val (.long (((p1 &&& (2147483647 : Int32)).toInt64) * (1000000 : Int64))), .second, .val (.int (p2 &&& (3 : Int32))), .val (.int (((p3 &&& (15 : Int64)).toInt32) - (8 : Int32))), .val (.double (FP.ddiv (FP.l2d (((2 : Int64) * (((p1 &&& (2147483647 : Int32)).toInt64) * (1000000 : Int64))) + ((((p3 &&& (15 : Int64)).toInt32) - (8 : Int32)).toInt64))) (4611686018427387904 : UInt64))), .second] [])) _
          refine XS.iconst X29.here hx rfl (hb hby at_142) ?_
          show Steps p.tables e below (T29.setTop (mkF m 143 #[.val (.int p0), .val (.int p1), .val (.int p2), .val (.long p3), .second, .val (.int (p1 &&& (2147483647 : Int32))), .val (.ref b1), .val (.long (((p1 &&& (2147483647 : Int32)).toInt64) * (1000000 : Int64))), .second, .val (.int (p2 &&& (3 : Int32))), .val (.int (((p3 &&& (15 : Int64)).toInt32) - (8 : Int32))), .val (.double (FP.ddiv (FP.l2d (((2 : Int64) * (((p1 &&& (2147483647 : Int32)).toInt64) * (1000000 : Int64))) + ((((p3 &&& (15 : Int64)).toInt32) - (8 : Int32)).toInt64))) (4611686018427387904 : UInt64))), .second] [(.int (1 : Int32))])) _
          refine XS.goto X29.here hx rfl (pc0 := 143) (pc' := 147) rfl (hb hby at_143) (by decide) (by decide) ?_
          show Steps p.tables e below (T29.setTop (mkF m 147 #[.val (.int p0), .val (.int p1), .val (.int p2), .val (.long p3), .second, .val (.int (p1 &&& (2147483647 : Int32))), .val (.ref b1), .val (.long (((p1 &&& (2147483647 : Int32)).toInt64) * (1000000 : Int64))), .second, .val (.int (p2 &&& (3 : Int32))), .val (.int (((p3 &&& (15 : Int64)).toInt32) - (8 : Int32))), .val (.double (FP.ddiv (FP.l2d (((2 : Int64) * (((p1 &&& (2147483647 : Int32)).toInt64) * (1000000 : Int64))) + ((((p3 &&& (15 : Int64)).toInt32) - (8 : Int32)).toInt64))) (4611686018427387904 : UInt64))), .second] [(.int (1 : Int32))])) _
          exact retN X29 hx (t := .boolean) Bd.returns (by simp) (hb hby at_147) hr
        · show Q0 Z p0 p1 p2 p3 tu h0 n0 _ T29.heap _
          rw [e29]
          exact ⟨rfl, N30⟩
      · obtain ⟨fs, hr, hrun, hended, hW, hsame⟩ := X29.leave (v := some (.int (1 : Int32))) (fun h => by rw [Bd.returns] at h; cases h)
        refine ⟨_, _, pre31 _ ?_, hrun, hended, _, _, rfl, ?_, ⟨_, rfl⟩, hW, hsame.mono (by decide) (by decide)⟩
        · show Steps p.tables e below (T29.setTop (mkF m 131 #[.val (.int p0), .val (.int p1), .val (.int p2), .val (.long p3), .second, .val (.int (p1 &&& (2147483647 : Int32))), .val (.ref b1), .val (.long (((p1 &&& (2147483647 : Int32)).toInt64) * (1000000 : Int64))), .second, .val (.int (p2 &&& (3 : Int32))), .val (.int (((p3 &&& (15 : Int64)).toInt32) - (8 : Int32))), .val (.double (FP.ddiv (FP.l2d (((2 : Int64) * (((p1 &&& (2147483647 : Int32)).toInt64) * (1000000 : Int64))) + ((((p3 &&& (15 : Int64)).toInt32) - (8 : Int32)).toInt64))) (4611686018427387904 : UInt64))), .second] [(.int (((p3 &&& (15 : Int64)).toInt32) - (8 : Int32))), (.int (own_rf (FP.ddiv (FP.l2d (((2 : Int64) * (((p1 &&& (2147483647 : Int32)).toInt64) * (1000000 : Int64))) + ((((p3 &&& (15 : Int64)).toInt32) - (8 : Int32)).toInt64))) (4611686018427387904 : UInt64)) (((p1 &&& (2147483647 : Int32)).toInt64) * (1000000 : Int64))))])) _
          refine XS.ifYes X29.here hx rfl (pc0 := 131) (pc' := 138) rfl (hb hby at_131) rfl ((if0 _ _).trans (flt hV).2.2.2) (by decide) (by decide) ?_
          show Steps p.tables e below (T29.setTop (mkF m 138 #[.val (.int p0), .val (.int p1), .val (.int p2), .val (.long p3), .second, .val (.int (p1 &&& (2147483647 : Int32))), .val (.ref b1), .val (.long (((p1 &&& (2147483647 : Int32)).toInt64) * (1000000 : Int64))), .second, .val (.int (p2 &&& (3 : Int32))), .val (.int (((p3 &&& (15 : Int64)).toInt32) - (8 : Int32))), .val (.double (FP.ddiv (FP.l2d (((2 : Int64) * (((p1 &&& (2147483647 : Int32)).toInt64) * (1000000 : Int64))) + ((((p3 &&& (15 : Int64)).toInt32) - (8 : Int32)).toInt64))) (4611686018427387904 : UInt64))), .second] [(.int (own_rf (FP.ddiv (FP.l2d (((2 : Int64) * (((p1 &&& (2147483647 : Int32)).toInt64) * (1000000 : Int64))) + ((((p3 &&& (15 : Int64)).toInt32) - (8 : Int32)).toInt64))) (4611686018427387904 : UInt64)) (((p1 &&& (2147483647 : Int32)).toInt64) * (1000000 : Int64))))])) _
          refine XS.iconst X29.here hx rfl (hb hby at_138) ?_
          show Steps p.tables e below (T29.setTop (mkF m 139 #[.val (.int p0), .val (.int p1), .val (.int p2), .val (.long p3), .second, .val (.int (p1 &&& (2147483647 : Int32))), .val (.ref b1), .val (.long (((p1 &&& (2147483647 : Int32)).toInt64) * (1000000 : Int64))), .second, .val (.int (p2 &&& (3 : Int32))), .val (.int (((p3 &&& (15 : Int64)).toInt32) - (8 : Int32))), .val (.double (FP.ddiv (FP.l2d (((2 : Int64) * (((p1 &&& (2147483647 : Int32)).toInt64) * (1000000 : Int64))) + ((((p3 &&& (15 : Int64)).toInt32) - (8 : Int32)).toInt64))) (4611686018427387904 : UInt64))), .second] [(.int (0 : Int32)), (.int (own_rf (FP.ddiv (FP.l2d (((2 : Int64) * (((p1 &&& (2147483647 : Int32)).toInt64) * (1000000 : Int64))) + ((((p3 &&& (15 : Int64)).toInt32) - (8 : Int32)).toInt64))) (4611686018427387904 : UInt64)) (((p1 &&& (2147483647 : Int32)).toInt64) * (1000000 : Int64))))])) _
          refine XS.icmpNo X29.here hx rfl (hb hby at_139) rfl (teq ((own_m1 _ _ (own_k _)).trans (if_neg hV))).2 ?_
          show Steps p.tables e below (T29.setTop (mkF m 142 #[.val (.int p0), .val (.int p1), .val (.int p2), .val (.long p3), .second, .val (.int (p1 &&& (2147483647 : Int32))), .val (.ref b1), .val (.long (((p1 &&& (2147483647 : Int32)).toInt64) * (1000000 : Int64))), .second, .val (.int (p2 &&& (3 : Int32))), .val (.int (((p3 &&& (15 : Int64)).toInt32) - (8 : Int32))), .val (.double (FP.ddiv (FP.l2d (((2 : Int64) * (((p1 &&& (2147483647 : Int32)).toInt64) * (1000000 : Int64))) + ((((p3 &&& (15 : Int64)).toInt32) - (8 : Int32)).toInt64))) (4611686018427387904 : UInt64))), .second] [])) _
          refine XS.iconst X29.here hx rfl (hb hby at_142) ?_
          show Steps p.tables e below (T29.setTop (mkF m 143 #[.val (.int p0), .val (.int p1), .val (.int p2), .val (.long p3), .second, .val (.int (p1 &&& (2147483647 : Int32))), .val (.ref b1), .val (.long (((p1 &&& (2147483647 : Int32)).toInt64) * (1000000 : Int64))), .second, .val (.int (p2 &&& (3 : Int32))), .val (.int (((p3 &&& (15 : Int64)).toInt32) - (8 : Int32))), .val (.double (FP.ddiv (FP.l2d (((2 : Int64) * (((p1 &&& (2147483647 : Int32)).toInt64) * (1000000 : Int64))) + ((((p3 &&& (15 : Int64)).toInt32) - (8 : Int32)).toInt64))) (4611686018427387904 : UInt64))), .second] [(.int (1 : Int32))])) _
          refine XS.goto X29.here hx rfl (pc0 := 143) (pc' := 147) rfl (hb hby at_143) (by decide) (by decide) ?_
          show Steps p.tables e below (T29.setTop (mkF m 147 #[.val (.int p0), .val (.int p1), .val (.int p2), .val (.long p3), .second, .val (.int (p1 &&& (2147483647 : Int32))), .val (.ref b1), .val (.long (((p1 &&& (2147483647 : Int32)).toInt64) * (1000000 : Int64))), .second, .val (.int (p2 &&& (3 : Int32))), .val (.int (((p3 &&& (15 : Int64)).toInt32) - (8 : Int32))), .val (.double (FP.ddiv (FP.l2d (((2 : Int64) * (((p1 &&& (2147483647 : Int32)).toInt64) * (1000000 : Int64))) + ((((p3 &&& (15 : Int64)).toInt32) - (8 : Int32)).toInt64))) (4611686018427387904 : UInt64))), .second] [(.int (1 : Int32))])) _
          exact retN X29 hx (t := .boolean) Bd.returns (by simp) (hb hby at_147) hr
        · show Q0 Z p0 p1 p2 p3 tu h0 n0 _ T29.heap _
          rw [e29]
          exact ⟨rfl, N30⟩
set_option maxHeartbeats 40000000 in
theorem comes_1 {Post : Tables → Env → Array Value → State → Outcome → State → Prop} (hpost : ∀ tb e args s v u, (limb_1_1.after args s (.returned v) u = true ∧ limb_1_2.after args s (.returned v) u = true ∧ True) → FrameEnd s (.returned v) u (Jvm.fieldLocs frame_1_writes args s ++ Jvm.arrayLocs frame_1_arrays args s ++ Jvm.staticLocs frame_1_statics s) 16 256 → Post tb e args s (.returned v) u) :
    ArmFor flags0 classFile x code maxLocals ret World_1 tables_1 room_1 Calls_1 rest_1 Pre_1 Post := by
  intro l hfl _ _ p e ha hc hk s m args below hf hA hF happ hP
  obtain ⟨hcalls, hrest, hpre⟩ := hP
  obtain ⟨-, -, -, hnamed, -, -, -, hat⟩ := (Spec.applies_iff hf).mp happ
  obtain ⟨hg, hn⟩ := and_e (Cond.before_iff.mp (show (Jvm.Cond.and given_1 narrow_1).before args s = true from hpre))
  obtain ⟨g1, g2⟩ := and_e hg
  obtain ⟨g3, g4⟩ := and_e g2
  obtain ⟨g5, g6⟩ := and_e g4
  obtain ⟨g7, g8⟩ := and_e g6
  obtain ⟨w0, w1, w2, w3, rfl⟩ : ∃ w0 w1 w2 w3 : Value, args = #[w0, w1, w2, w3] := by
    have hs : args.size = 4 := by simpa [Cond.value, given_1] using g1
    obtain ⟨L⟩ := args
    match L, hs with
    | [w0, w1, w2, w3], _ => exact ⟨w0, w1, w2, w3, rfl⟩
  have hw := fun d (hd : d ∈ tables_1) => atoms_spec (ws := Jvm.Cond.code x code maxLocals ret :: tables_1) hat d (List.mem_cons_of_mem _ hd)
  have hfit : Fit s := fun {y c} hc i hi => by
    obtain ⟨ha, rfl⟩ := Array.getElem?_eq_some_iff.mp hc
    have q := List.all_eq_true.mp ((Array.all_eq_true_iff_forall_mem.mp hF) _ (Array.getElem_mem ha)) i (List.mem_range.mpr hi)
    simpa [Array.getElem?_eq_getElem hi] using q
  obtain ⟨hsets, hown0⟩ := atoms_of _ (rest_1_c_eq ▸ (show rest_1_c.before _ s = true from hrest))
  have hr0 := Cond.before_iff.mp hown0
  obtain ⟨i0, ei0⟩ := is_v g3
  obtain rfl : w0 = (.int i0) := Option.some.inj ei0
  obtain ⟨i1, ei1⟩ := is_v g5
  obtain rfl : w1 = (.int i1) := Option.some.inj ei1
  obtain ⟨i2, ei2⟩ := is_v g7
  obtain rfl : w2 = (.int i2) := Option.some.inj ei2
  obtain ⟨i3, ei3⟩ := isL_v g8
  obtain rfl : w3 = (.long i3) := Option.some.inj ei3
  obtain ⟨tu, etu⟩ := exa_v (Cond.before_iff.mp (hsets _ (List.mem_of_getElem? (i := 2) rfl)))
  have S0 := Sta.start etu (Or.inl (hsets _ (List.mem_of_getElem? (i := 1) rfl)))
  have ET := Exa.start etu (Cond.before_iff.mp (hsets _ (List.mem_of_getElem? (i := 2) rfl)))
  have FT1 := Fld.start ((fld_at etu).symm.trans (own_eqlong (Cond.before_iff.mp (hsets _ (List.mem_of_getElem? (i := 5) rfl)))))
  have FT2 := Fld.start ((fld_at etu).symm.trans (own_eqlong (Cond.before_iff.mp (hsets _ (List.mem_of_getElem? (i := 6) rfl)))))
  obtain ⟨n, o, h1, h2, h3, _, L, rfl, ⟨rfl, N⟩, hq⟩ := rm0 l s _ hw tables_1 i0 i1 i2 i3 tu s.heap s.heap.size (Nat.le_refl _) S0 ET FT1 FT2 p e ha hc hk s m _ below hf ((Spec.applies_iff_loose hf).mp happ).1 ⟨rfl, State.Warmed39.refl s, rfl⟩ trivial
  refine ⟨n, _, h1, h2, h3, hpost _ _ _ _ _ _ ⟨Cond.after_iff.mpr rfl, Cond.after_iff.mpr (eq_i res_at (Term.int_eval (1)) rfl), trivial⟩ ⟨hq.1, hq.2.1, (hq.2.2.sift fun y hy => Or.inr (N y hy)).mono (by decide) (by decide)⟩⟩
theorem main_1_1 : Claimed_1_1 := comes_1 fun _ _ _ _ _ _ h hF => ⟨h.1, hF⟩
theorem main_1_2 : Claimed_1_2 := comes_1 fun _ _ _ _ _ _ h hF => ⟨h.2.1, hF⟩
end Jvm.Pilot.@@N@@
namespace Jvm.Pilot.@@N@@
open Jvm Jvm.ClassFile Sem Op Lib Jvm.Free Jvm.Stand Jvm.Pilot.@@N@@.Jvm.D
/-! MADE BY PROGRAM (witnessworld.py) out of the Statement's table words and the real class files: 20 classes; the members and pool entries that the words name. The judged class is class 1, her method 1. -/
namespace start1
open Jvm.ClassFile
def u (s : String) : CpInfo := .utf8 (stringToUtf16 s)
/-- a pool by its gaps: so many unusable entries, then the entry; so many at the end -/
def gap : Nat → List CpInfo → List CpInfo
  | 0, r => r
  | n + 1, r => .unusable :: gap n r
def poolList (es : List (Nat × CpInfo)) (last : Nat) : List CpInfo := es.foldr (fun e r => gap e.1 (e.2 :: r)) (gap last [])
def pool (es : List (Nat × CpInfo)) (last : Nat) : Array CpInfo := ⟨poolList es last⟩
def fileOf (pool : Array CpInfo) (this : Nat) (attrs : Array Attribute := #[]) (ms : Array MethodInfo := #[]) (fl : Nat := 33) (sup : Nat := 0) (ifs : Array Nat := #[]) (fds : Array FieldInfo := #[]) : ClassFile where
  minorVersion := 0
  majorVersion := 65
  constantPool := pool
  accessFlags := fl
  thisClass := this
  superClass := sup
  interfaces := ifs
  fields := fds
  methods := ms
  attributes := attrs
def plain (name : String) (sup : Option ClassId) : Class where
  name := name
  kind := .ordinary
  loader := none
  accessFlags := 33
  super := sup
  interfaces := #[]
  cf := none
  fields := #[]
  methods := #[]
  instanceTypes := #[]
  staticTypes := #[]
  resolved := #[]
  callSites := []
  init := .initialized
  statics := none
  mirror := none

def pool0 : Array CpInfo := pool [(5, u "<init>"), (0, u "()V"), (1, .class_ 10), (1, u "java/lang/Object")] 113

def k0c0 : Code := { maxStack := 0, maxLocals := 1, code := object_method_1_code, exceptionTable := #[], attributes := #[] }
def k0m0 : Method := { name := "<init>", desc := "()V", sig := { parameters := [], returnType := none }, accessFlags := 1, code := some k0c0 }
/-- java/lang/Object -/
def k0 : Class := { plain "java/lang/Object" none with
  accessFlags := 33
  interfaces := #[]
  cf := some (fileOf pool0 8 #[] #[{ accessFlags := 1, nameIndex := 5, descriptorIndex := 6, attributes := #[] }] 33 0 #[] #[])
  fields := #[]
  methods := #[k0m0]
  instanceTypes := #[]
  staticTypes := #[]
  resolved := Array.replicate 124 none
  statics := none }

def pool1 : Array CpInfo := pool [(2, .class_ 4), (1, u "java/lang/Object"), (0, u "<init>"), (0, u "()V"), (0, .integer 2147483647), (0, .class_ 9), (0, u "com/example/link7/link7/rule/flow/Pacing"), (0, .integer 65535), (0, .methodref 8 12), (0, .nameAndType 5 13), (0, u "(DI)V"), (0, .long 1000000), (3, .double 9218868437227405312), (1, .methodref 8 21), (0, .nameAndType 22 23), (0, u "refuses"), (0, u "(D)Z"), (0, .long 9007199254740991), (1, .long 15), (1, .long 2), (1, .double 4611686018427387904), (1, .class_ 33), (0, u "com/example/link7/link7/rule/flow/PacingRefusesPinLaw"), (2, u "law"), (0, u "(IIIJ)Z")] 3

def k1m0 : Method := { name := "<init>", desc := "()V", sig := { parameters := [], returnType := none }, accessFlags := 1, code := none }
def k1c1 : Code := { maxStack := 5, maxLocals := 13, code := code, exceptionTable := #[], attributes := #[] }
def k1m1 : Method := { name := "law", desc := "(IIIJ)Z", sig := { parameters := [.int, .int, .int, .long], returnType := some .boolean }, accessFlags := 9, code := some k1c1 }
/-- com/example/link7/link7/rule/flow/PacingRefusesPinLaw -/
def k1 : Class := { plain "com/example/link7/link7/rule/flow/PacingRefusesPinLaw" (some 0) with
  accessFlags := 49
  interfaces := #[]
  cf := some (fileOf pool1 32 #[] #[{ accessFlags := 1, nameIndex := 5, descriptorIndex := 6, attributes := #[] }, { accessFlags := 9, nameIndex := 36, descriptorIndex := 37, attributes := #[] }] 49 2 #[] #[])
  fields := #[]
  methods := #[k1m0, k1m1]
  instanceTypes := #[]
  staticTypes := #[]
  resolved := Array.replicate 41 none
  statics := none }

def pool2 : Array CpInfo := pool [(1, .methodref 2 3), (0, .class_ 4), (0, .nameAndType 5 6), (0, u "java/lang/Object"), (0, u "<init>"), (0, u "()V"), (0, .class_ 8), (0, u "java/util/IdentityHashMap"), (0, .methodref 7 3), (0, .fieldref 11 12), (0, .class_ 13), (0, .nameAndType 14 15), (0, u "com/example/link7/link7/rule/flow/Pacing"), (0, u "lastTurnsNs"), (0, u "Ljava/util/Map;"), (0, .double 4741671816366391296), (1, .fieldref 11 19), (0, .nameAndType 20 21), (0, u "requestSpacingNs"), (0, u "D"), (0, .fieldref 23 24), (0, .class_ 25), (0, .nameAndType 26 27), (0, u "java/util/concurrent/TimeUnit"), (0, u "MILLISECONDS"), (0, u "Ljava/util/concurrent/TimeUnit;"), (0, .methodref 23 29), (0, .nameAndType 30 31), (0, u "toNanos"), (0, u "(J)J"), (0, .fieldref 11 33), (0, .nameAndType 34 35), (0, u "maxQueueingNs"), (0, u "J"), (33, u "SECOND_NS"), (3, u "(DI)V"), (5, u "refuses"), (0, u "(D)Z")] 6

def k2c0 : Code := { maxStack := 5, maxLocals := 4, code := prog_18_method_1_code, exceptionTable := #[], attributes := #[] }
def k2m0 : Method := { name := "<init>", desc := "(DI)V", sig := { parameters := [.double, .int], returnType := none }, accessFlags := 0, code := some k2c0 }
def k2c1 : Code := { maxStack := 4, maxLocals := 3, code := prog_18_method_3_code, exceptionTable := #[], attributes := #[] }
def k2m1 : Method := { name := "refuses", desc := "(D)Z", sig := { parameters := [.double], returnType := some .boolean }, accessFlags := 0, code := some k2c1 }
/-- com/example/link7/link7/rule/flow/Pacing -/
def k2 : Class := { plain "com/example/link7/link7/rule/flow/Pacing" (some 0) with
  accessFlags := 32
  interfaces := #[]
  cf := some (fileOf pool2 11 #[] #[{ accessFlags := 0, nameIndex := 5, descriptorIndex := 73, attributes := #[] }, { accessFlags := 0, nameIndex := 79, descriptorIndex := 80, attributes := #[] }] 32 2 #[] #[{ accessFlags := 26, nameIndex := 69, descriptorIndex := 21, attributes := #[] }, { accessFlags := 18, nameIndex := 20, descriptorIndex := 21, attributes := #[] }, { accessFlags := 18, nameIndex := 34, descriptorIndex := 35, attributes := #[] }, { accessFlags := 18, nameIndex := 14, descriptorIndex := 15, attributes := #[] }])
  fields := #[{ name := "SECOND_NS", type := .double, accessFlags := 26, slot := 0, constantValue := 0 }, { name := "requestSpacingNs", type := .double, accessFlags := 18, slot := 0, constantValue := 0 }, { name := "maxQueueingNs", type := .long, accessFlags := 18, slot := 1, constantValue := 0 }, { name := "lastTurnsNs", type := (.object "java/util/Map"), accessFlags := 18, slot := 2, constantValue := 0 }]
  methods := #[k2m0, k2m1]
  instanceTypes := #[.double, .long, (.object "java/util/Map")]
  staticTypes := #[.double]
  resolved := Array.replicate 87 none
  statics := none }

def pool3 : Array CpInfo := pool [(2, .class_ 4), (1, u "java/util/Map"), (31, .class_ 37), (0, u "java/util/Map$Entry"), (55, .class_ 94), (0, u "java/lang/Object")] 168

/-- java/util/Map -/
def k3 : Class := { plain "java/util/Map" (some 0) with
  accessFlags := 1537
  interfaces := #[]
  cf := some (fileOf pool3 2 #[.nestMembers #[36]] #[] 1537 93 #[] #[])
  fields := #[]
  methods := #[]
  instanceTypes := #[]
  staticTypes := #[]
  resolved := Array.replicate 263 none
  statics := none }

def pool4 : Array CpInfo := pool [(1, .methodref 2 3), (0, .class_ 4), (0, .nameAndType 5 6), (0, u "java/lang/Object"), (0, u "<init>"), (0, u "()V"), (1, .class_ 10), (1, u "java/util/AbstractMap"), (42, .class_ 54), (0, u "java/util/Map"), (9, u "keySet"), (0, u "Ljava/util/Set;"), (0, .class_ 67), (0, u "java/util/AbstractMap$1"), (5, u "values"), (0, u "Ljava/util/Collection;"), (0, .class_ 76), (0, u "java/util/AbstractMap$2"), (104, .class_ 182), (0, u "java/util/AbstractMap$ViewCollection"), (0, .class_ 184), (0, u "java/util/AbstractMap$SimpleImmutableEntry"), (0, .class_ 186), (0, u "java/util/AbstractMap$SimpleEntry"), (0, .class_ 188), (0, u "java/util/AbstractMap$2$1"), (0, .class_ 190), (0, u "java/util/AbstractMap$1$1")] 5

def k4c0 : Code := { maxStack := 1, maxLocals := 1, code := jdk_71_method_1_code, exceptionTable := #[], attributes := #[] }
def k4m0 : Method := { name := "<init>", desc := "()V", sig := { parameters := [], returnType := none }, accessFlags := 4, code := some k4c0 }
/-- java/util/AbstractMap -/
def k4 : Class := { plain "java/util/AbstractMap" (some 0) with
  accessFlags := 1057
  interfaces := #[3]
  cf := some (fileOf pool4 8 #[.nestMembers #[181, 183, 185, 75, 187, 66, 189]] #[{ accessFlags := 4, nameIndex := 5, descriptorIndex := 6, attributes := #[] }] 1057 2 #[53] #[{ accessFlags := 128, nameIndex := 64, descriptorIndex := 65, attributes := #[] }, { accessFlags := 128, nameIndex := 73, descriptorIndex := 74, attributes := #[] }])
  fields := #[{ name := "keySet", type := (.object "java/util/Set"), accessFlags := 128, slot := 0, constantValue := 0 }, { name := "values", type := (.object "java/util/Collection"), accessFlags := 128, slot := 1, constantValue := 0 }]
  methods := #[k4m0]
  instanceTypes := #[(.object "java/util/Set"), (.object "java/util/Collection")]
  staticTypes := #[]
  resolved := Array.replicate 196 none
  statics := none }

def pool5 : Array CpInfo := pool [(1, .class_ 2), (0, u "java/io/Serializable"), (0, .class_ 4), (0, u "java/lang/Object")] 2

/-- java/io/Serializable -/
def k5 : Class := { plain "java/io/Serializable" (some 0) with
  accessFlags := 1537
  interfaces := #[]
  cf := some (fileOf pool5 1 #[] #[] 1537 3 #[] #[])
  fields := #[]
  methods := #[]
  instanceTypes := #[]
  staticTypes := #[]
  resolved := Array.replicate 7 none
  statics := none }

def pool6 : Array CpInfo := pool [(1, .class_ 2), (0, u "java/lang/Cloneable"), (0, .class_ 4), (0, u "java/lang/Object")] 2

/-- java/lang/Cloneable -/
def k6 : Class := { plain "java/lang/Cloneable" (some 0) with
  accessFlags := 1537
  interfaces := #[]
  cf := some (fileOf pool6 1 #[] #[] 1537 3 #[] #[])
  fields := #[]
  methods := #[]
  instanceTypes := #[]
  staticTypes := #[]
  resolved := Array.replicate 7 none
  statics := none }

def pool7 : Array CpInfo := pool [(2, .class_ 4), (1, u "java/util/IdentityHashMap"), (0, u "NULL_KEY"), (0, u "Ljava/lang/Object;"), (0, .methodref 8 9), (0, .class_ 10), (0, .nameAndType 11 12), (0, u "java/util/AbstractMap"), (0, u "<init>"), (0, u "()V"), (0, .methodref 2 14), (0, .nameAndType 15 16), (0, u "init"), (0, u "(I)V"), (32, .class_ 50), (0, u "java/lang/Object"), (0, .fieldref 2 52), (0, .nameAndType 53 54), (0, u "table"), (0, u "[Ljava/lang/Object;"), (1, .class_ 58), (1, u "java/util/Map"), (0, u "size"), (11, u "I"), (24, u "modCount"), (9, u "entrySet"), (50, u "Ljava/util/Set;"), (12, .class_ 171), (0, u "java/util/IdentityHashMap$KeySet"), (7, .class_ 180), (0, u "java/util/IdentityHashMap$Values"), (1, .class_ 183), (0, u "java/util/IdentityHashMap$EntrySet"), (69, .class_ 254), (0, u "java/io/Serializable"), (0, .class_ 256), (0, u "java/lang/Cloneable"), (0, u "DEFAULT_CAPACITY"), (2, u "MINIMUM_CAPACITY"), (1, u "MAXIMUM_CAPACITY"), (2, u "serialVersionUID"), (0, u "J"), (102, .class_ 370), (0, u "java/util/IdentityHashMap$EntrySpliterator"), (0, .class_ 372), (0, u "java/util/IdentityHashMap$ValueSpliterator"), (0, .class_ 374), (0, u "java/util/IdentityHashMap$KeySpliterator"), (0, .class_ 376), (0, u "java/util/IdentityHashMap$IdentityHashMapSpliterator"), (0, .class_ 378), (0, u "java/util/IdentityHashMap$EntryIterator"), (0, .class_ 380), (0, u "java/util/IdentityHashMap$EntryIterator$Entry"), (0, .class_ 382), (0, u "java/util/IdentityHashMap$ValueIterator"), (0, .class_ 384), (0, u "java/util/IdentityHashMap$KeyIterator"), (0, .class_ 386), (0, u "java/util/IdentityHashMap$IdentityHashMapIterator")] 16

def k7c0 : Code := { maxStack := 2, maxLocals := 1, code := jdk_2581_method_3_code, exceptionTable := #[], attributes := #[] }
def k7m0 : Method := { name := "<init>", desc := "()V", sig := { parameters := [], returnType := none }, accessFlags := 1, code := some k7c0 }
def k7c1 : Code := { maxStack := 3, maxLocals := 2, code := jdk_2581_method_6_code, exceptionTable := #[], attributes := #[] }
def k7m1 : Method := { name := "init", desc := "(I)V", sig := { parameters := [.int], returnType := none }, accessFlags := 2, code := some k7c1 }
/-- java/util/IdentityHashMap -/
def k7 : Class := { plain "java/util/IdentityHashMap" (some 4) with
  accessFlags := 33
  interfaces := #[3, 5, 6]
  cf := some (fileOf pool7 2 #[.nestMembers #[369, 371, 373, 375, 182, 179, 170, 377, 379, 381, 383, 385]] #[{ accessFlags := 1, nameIndex := 11, descriptorIndex := 12, attributes := #[] }, { accessFlags := 2, nameIndex := 15, descriptorIndex := 16, attributes := #[] }] 33 8 #[56, 253, 255] #[{ accessFlags := 26, nameIndex := 257, descriptorIndex := 71, attributes := #[] }, { accessFlags := 26, nameIndex := 260, descriptorIndex := 71, attributes := #[] }, { accessFlags := 26, nameIndex := 262, descriptorIndex := 71, attributes := #[] }, { accessFlags := 128, nameIndex := 53, descriptorIndex := 54, attributes := #[] }, { accessFlags := 0, nameIndex := 59, descriptorIndex := 71, attributes := #[] }, { accessFlags := 128, nameIndex := 96, descriptorIndex := 71, attributes := #[] }, { accessFlags := 24, nameIndex := 5, descriptorIndex := 6, attributes := #[] }, { accessFlags := 130, nameIndex := 106, descriptorIndex := 157, attributes := #[] }, { accessFlags := 26, nameIndex := 265, descriptorIndex := 266, attributes := #[] }])
  fields := #[{ name := "DEFAULT_CAPACITY", type := .int, accessFlags := 26, slot := 0, constantValue := 0 }, { name := "MINIMUM_CAPACITY", type := .int, accessFlags := 26, slot := 1, constantValue := 0 }, { name := "MAXIMUM_CAPACITY", type := .int, accessFlags := 26, slot := 2, constantValue := 0 }, { name := "table", type := (.array (.object "java/lang/Object")), accessFlags := 128, slot := 2, constantValue := 0 }, { name := "size", type := .int, accessFlags := 0, slot := 3, constantValue := 0 }, { name := "modCount", type := .int, accessFlags := 128, slot := 4, constantValue := 0 }, { name := "NULL_KEY", type := (.object "java/lang/Object"), accessFlags := 24, slot := 3, constantValue := 0 }, { name := "entrySet", type := (.object "java/util/Set"), accessFlags := 130, slot := 5, constantValue := 0 }, { name := "serialVersionUID", type := .long, accessFlags := 26, slot := 4, constantValue := 0 }]
  methods := #[k7m0, k7m1]
  instanceTypes := #[(.object "java/util/Set"), (.object "java/util/Collection"), (.array (.object "java/lang/Object")), .int, .int, (.object "java/util/Set")]
  staticTypes := #[.int, .int, .int, (.object "java/lang/Object"), .long]
  resolved := Array.replicate 403 none
  statics := none }

def pool8 : Array CpInfo := pool [(1, .class_ 2), (0, u "java/lang/constant/Constable"), (0, .class_ 4), (0, u "java/lang/Object")] 6

/-- java/lang/constant/Constable -/
def k8 : Class := { plain "java/lang/constant/Constable" (some 0) with
  accessFlags := 1537
  interfaces := #[]
  cf := some (fileOf pool8 1 #[] #[] 1537 3 #[] #[])
  fields := #[]
  methods := #[]
  instanceTypes := #[]
  staticTypes := #[]
  resolved := Array.replicate 11 none
  statics := none }

def pool9 : Array CpInfo := pool [(1, .class_ 2), (0, u "java/lang/Comparable"), (0, .class_ 4), (0, u "java/lang/Object")] 7

/-- java/lang/Comparable -/
def k9 : Class := { plain "java/lang/Comparable" (some 0) with
  accessFlags := 1537
  interfaces := #[]
  cf := some (fileOf pool9 1 #[] #[] 1537 3 #[] #[])
  fields := #[]
  methods := #[]
  instanceTypes := #[]
  staticTypes := #[]
  resolved := Array.replicate 12 none
  statics := none }

def pool10 : Array CpInfo := pool [(2, .class_ 4), (1, u "java/lang/Enum"), (0, u "name"), (0, u "Ljava/lang/String;"), (2, u "ordinal"), (0, u "I"), (1, .class_ 14), (1, u "java/lang/Object"), (4, u "hash"), (86, .class_ 108), (1, u "java/lang/Enum$EnumDesc"), (2, .class_ 112), (0, u "java/lang/constant/Constable"), (0, .class_ 114), (0, u "java/lang/Comparable"), (0, .class_ 116), (0, u "java/io/Serializable")] 87

/-- java/lang/Enum -/
def k10 : Class := { plain "java/lang/Enum" (some 0) with
  accessFlags := 1057
  interfaces := #[8, 9, 5]
  cf := some (fileOf pool10 2 #[.nestMembers #[106]] #[] 1057 12 #[111, 113, 115] #[{ accessFlags := 18, nameIndex := 5, descriptorIndex := 6, attributes := #[] }, { accessFlags := 18, nameIndex := 9, descriptorIndex := 10, attributes := #[] }, { accessFlags := 2, nameIndex := 19, descriptorIndex := 10, attributes := #[] }])
  fields := #[{ name := "name", type := (.object "java/lang/String"), accessFlags := 18, slot := 0, constantValue := 0 }, { name := "ordinal", type := .int, accessFlags := 18, slot := 1, constantValue := 0 }, { name := "hash", type := .int, accessFlags := 2, slot := 2, constantValue := 0 }]
  methods := #[]
  instanceTypes := #[(.object "java/lang/String"), .int, .int]
  staticTypes := #[]
  resolved := Array.replicate 204 none
  statics := none }

def pool11 : Array CpInfo := pool [(1, .class_ 2), (0, u "java/util/concurrent/TimeUnit"), (2, u "NANOSECONDS"), (0, u "Ljava/util/concurrent/TimeUnit;"), (2, u "MICROSECONDS"), (2, u "MILLISECONDS"), (2, u "SECONDS"), (2, u "MINUTES"), (2, u "HOURS"), (2, u "DAYS"), (2, u "$VALUES"), (0, u "[Ljava/util/concurrent/TimeUnit;"), (6, .class_ 37), (1, u "java/lang/Enum"), (6, .fieldref 1 45), (0, .nameAndType 46 47), (0, u "scale"), (0, u "J"), (4, .fieldref 1 53), (0, .nameAndType 54 47), (0, u "maxNanos"), (4, u "microRatio"), (2, u "maxMicros"), (4, u "milliRatio"), (0, u "I"), (2, u "maxMillis"), (4, u "secRatio"), (2, u "maxSecs"), (8, u "toNanos"), (0, u "(J)J"), (73, .class_ 165), (1, u "java/util/concurrent/TimeUnit$1"), (46, u "NANO_SCALE"), (3, u "MICRO_SCALE"), (0, u "MILLI_SCALE"), (0, u "SECOND_SCALE"), (0, u "MINUTE_SCALE"), (0, u "HOUR_SCALE"), (0, u "DAY_SCALE")] 61

def k11c0 : Code := { maxStack := 6, maxLocals := 7, code := jdk_2799_method_7_code, exceptionTable := #[], attributes := #[] }
def k11m0 : Method := { name := "toNanos", desc := "(J)J", sig := { parameters := [.long], returnType := some .long }, accessFlags := 1, code := some k11c0 }
/-- java/util/concurrent/TimeUnit -/
def k11 : Class := { plain "java/util/concurrent/TimeUnit" (some 10) with
  accessFlags := 16433
  interfaces := #[]
  cf := some (fileOf pool11 1 #[.nestMembers #[163]] #[{ accessFlags := 1, nameIndex := 88, descriptorIndex := 89, attributes := #[] }] 16433 35 #[] #[{ accessFlags := 16409, nameIndex := 5, descriptorIndex := 6, attributes := #[] }, { accessFlags := 16409, nameIndex := 9, descriptorIndex := 6, attributes := #[] }, { accessFlags := 16409, nameIndex := 12, descriptorIndex := 6, attributes := #[] }, { accessFlags := 16409, nameIndex := 15, descriptorIndex := 6, attributes := #[] }, { accessFlags := 16409, nameIndex := 18, descriptorIndex := 6, attributes := #[] }, { accessFlags := 16409, nameIndex := 21, descriptorIndex := 6, attributes := #[] }, { accessFlags := 16409, nameIndex := 24, descriptorIndex := 6, attributes := #[] }, { accessFlags := 26, nameIndex := 212, descriptorIndex := 47, attributes := #[] }, { accessFlags := 26, nameIndex := 216, descriptorIndex := 47, attributes := #[] }, { accessFlags := 26, nameIndex := 217, descriptorIndex := 47, attributes := #[] }, { accessFlags := 26, nameIndex := 218, descriptorIndex := 47, attributes := #[] }, { accessFlags := 26, nameIndex := 219, descriptorIndex := 47, attributes := #[] }, { accessFlags := 26, nameIndex := 220, descriptorIndex := 47, attributes := #[] }, { accessFlags := 26, nameIndex := 221, descriptorIndex := 47, attributes := #[] }, { accessFlags := 18, nameIndex := 46, descriptorIndex := 47, attributes := #[] }, { accessFlags := 18, nameIndex := 54, descriptorIndex := 47, attributes := #[] }, { accessFlags := 18, nameIndex := 62, descriptorIndex := 47, attributes := #[] }, { accessFlags := 18, nameIndex := 71, descriptorIndex := 47, attributes := #[] }, { accessFlags := 18, nameIndex := 79, descriptorIndex := 47, attributes := #[] }, { accessFlags := 18, nameIndex := 59, descriptorIndex := 47, attributes := #[] }, { accessFlags := 18, nameIndex := 67, descriptorIndex := 68, attributes := #[] }, { accessFlags := 18, nameIndex := 76, descriptorIndex := 68, attributes := #[] }, { accessFlags := 4122, nameIndex := 27, descriptorIndex := 28, attributes := #[] }])
  fields := #[{ name := "NANOSECONDS", type := (.object "java/util/concurrent/TimeUnit"), accessFlags := 16409, slot := 0, constantValue := 0 }, { name := "MICROSECONDS", type := (.object "java/util/concurrent/TimeUnit"), accessFlags := 16409, slot := 1, constantValue := 0 }, { name := "MILLISECONDS", type := (.object "java/util/concurrent/TimeUnit"), accessFlags := 16409, slot := 2, constantValue := 0 }, { name := "SECONDS", type := (.object "java/util/concurrent/TimeUnit"), accessFlags := 16409, slot := 3, constantValue := 0 }, { name := "MINUTES", type := (.object "java/util/concurrent/TimeUnit"), accessFlags := 16409, slot := 4, constantValue := 0 }, { name := "HOURS", type := (.object "java/util/concurrent/TimeUnit"), accessFlags := 16409, slot := 5, constantValue := 0 }, { name := "DAYS", type := (.object "java/util/concurrent/TimeUnit"), accessFlags := 16409, slot := 6, constantValue := 0 }, { name := "NANO_SCALE", type := .long, accessFlags := 26, slot := 7, constantValue := 0 }, { name := "MICRO_SCALE", type := .long, accessFlags := 26, slot := 8, constantValue := 0 }, { name := "MILLI_SCALE", type := .long, accessFlags := 26, slot := 9, constantValue := 0 }, { name := "SECOND_SCALE", type := .long, accessFlags := 26, slot := 10, constantValue := 0 }, { name := "MINUTE_SCALE", type := .long, accessFlags := 26, slot := 11, constantValue := 0 }, { name := "HOUR_SCALE", type := .long, accessFlags := 26, slot := 12, constantValue := 0 }, { name := "DAY_SCALE", type := .long, accessFlags := 26, slot := 13, constantValue := 0 }, { name := "scale", type := .long, accessFlags := 18, slot := 3, constantValue := 0 }, { name := "maxNanos", type := .long, accessFlags := 18, slot := 4, constantValue := 0 }, { name := "maxMicros", type := .long, accessFlags := 18, slot := 5, constantValue := 0 }, { name := "maxMillis", type := .long, accessFlags := 18, slot := 6, constantValue := 0 }, { name := "maxSecs", type := .long, accessFlags := 18, slot := 7, constantValue := 0 }, { name := "microRatio", type := .long, accessFlags := 18, slot := 8, constantValue := 0 }, { name := "milliRatio", type := .int, accessFlags := 18, slot := 9, constantValue := 0 }, { name := "secRatio", type := .int, accessFlags := 18, slot := 10, constantValue := 0 }, { name := "$VALUES", type := (.array (.object "java/util/concurrent/TimeUnit")), accessFlags := 4122, slot := 14, constantValue := 0 }]
  methods := #[k11m0]
  instanceTypes := #[(.object "java/lang/String"), .int, .int, .long, .long, .long, .long, .long, .long, .int, .int]
  staticTypes := #[(.object "java/util/concurrent/TimeUnit"), (.object "java/util/concurrent/TimeUnit"), (.object "java/util/concurrent/TimeUnit"), (.object "java/util/concurrent/TimeUnit"), (.object "java/util/concurrent/TimeUnit"), (.object "java/util/concurrent/TimeUnit"), (.object "java/util/concurrent/TimeUnit"), .long, .long, .long, .long, .long, .long, .long, (.array (.object "java/util/concurrent/TimeUnit"))]
  resolved := Array.replicate 283 none
  statics := some 0 }

def pool12 : Array CpInfo := pool [(2, .class_ 4), (1, u "java/lang/CharSequence"), (42, .class_ 48), (0, u "java/lang/CharSequence$1CodePointIterator"), (10, .class_ 60), (0, u "java/lang/CharSequence$1CharIterator"), (5, .class_ 67), (0, u "java/lang/Object")] 63

/-- java/lang/CharSequence -/
def k12 : Class := { plain "java/lang/CharSequence" (some 0) with
  accessFlags := 1537
  interfaces := #[]
  cf := some (fileOf pool12 2 #[.nestMembers #[47, 59]] #[] 1537 66 #[] #[])
  fields := #[]
  methods := #[]
  instanceTypes := #[]
  staticTypes := #[]
  resolved := Array.replicate 131 none
  statics := none }

def pool13 : Array CpInfo := pool [(1, .class_ 2), (0, u "java/lang/constant/ConstantDesc"), (0, .class_ 4), (0, u "java/lang/Object")] 32

/-- java/lang/constant/ConstantDesc -/
def k13 : Class := { plain "java/lang/constant/ConstantDesc" (some 0) with
  accessFlags := 1537
  interfaces := #[]
  cf := some (fileOf pool13 1 #[] #[] 1537 3 #[] #[])
  fields := #[]
  methods := #[]
  instanceTypes := #[]
  staticTypes := #[]
  resolved := Array.replicate 37 none
  statics := none }

def pool14 : Array CpInfo := pool [(2, .class_ 4), (1, u "java/lang/Object"), (0, u "<init>"), (0, u "()V"), (3, .class_ 12), (1, u "java/lang/String"), (0, u "value"), (0, u "[B"), (2, u "coder"), (0, u "B"), (2, u "hash"), (0, u "I"), (2, u "hashIsZero"), (0, u "Z"), (13, u "COMPACT_STRINGS"), (534, .class_ 576), (0, u "java/lang/CharSequence"), (22, u "CASE_INSENSITIVE_ORDER"), (0, u "Ljava/util/Comparator;"), (500, u "serialPersistentFields"), (0, u "[Ljava/io/ObjectStreamField;"), (0, .class_ 1104), (0, u "java/lang/String$CaseInsensitiveComparator"), (1, .class_ 1107), (0, u "java/io/Serializable"), (0, .class_ 1109), (0, u "java/lang/Comparable"), (0, .class_ 1111), (0, u "java/lang/constant/Constable"), (0, .class_ 1113), (0, u "java/lang/constant/ConstantDesc"), (2, u "serialVersionUID"), (0, u "J"), (3, u "REPL"), (0, u "C"), (2, u "LATIN1"), (1, u "UTF16")] 323

def k14m0 : Method := { name := "<init>", desc := "()V", sig := { parameters := [], returnType := none }, accessFlags := 1, code := none }
/-- java/lang/String -/
def k14 : Class := { plain "java/lang/String" (some 0) with
  accessFlags := 49
  interfaces := #[5, 9, 12, 8, 13]
  cf := some (fileOf pool14 10 #[.nestMembers #[1103]] #[{ accessFlags := 1, nameIndex := 5, descriptorIndex := 6, attributes := #[] }] 49 2 #[1106, 1108, 575, 1110, 1112] #[{ accessFlags := 18, nameIndex := 13, descriptorIndex := 14, attributes := #[] }, { accessFlags := 18, nameIndex := 17, descriptorIndex := 18, attributes := #[] }, { accessFlags := 2, nameIndex := 21, descriptorIndex := 22, attributes := #[] }, { accessFlags := 2, nameIndex := 25, descriptorIndex := 26, attributes := #[] }, { accessFlags := 26, nameIndex := 1116, descriptorIndex := 1117, attributes := #[] }, { accessFlags := 24, nameIndex := 40, descriptorIndex := 26, attributes := #[] }, { accessFlags := 26, nameIndex := 1101, descriptorIndex := 1102, attributes := #[] }, { accessFlags := 26, nameIndex := 1121, descriptorIndex := 1122, attributes := #[] }, { accessFlags := 25, nameIndex := 599, descriptorIndex := 600, attributes := #[] }, { accessFlags := 24, nameIndex := 1125, descriptorIndex := 18, attributes := #[] }, { accessFlags := 24, nameIndex := 1127, descriptorIndex := 18, attributes := #[] }])
  fields := #[{ name := "value", type := (.array .byte), accessFlags := 18, slot := 0, constantValue := 0 }, { name := "coder", type := .byte, accessFlags := 18, slot := 1, constantValue := 0 }, { name := "hash", type := .int, accessFlags := 2, slot := 2, constantValue := 0 }, { name := "hashIsZero", type := .boolean, accessFlags := 2, slot := 3, constantValue := 0 }, { name := "serialVersionUID", type := .long, accessFlags := 26, slot := 0, constantValue := 0 }, { name := "COMPACT_STRINGS", type := .boolean, accessFlags := 24, slot := 1, constantValue := 0 }, { name := "serialPersistentFields", type := (.array (.object "java/io/ObjectStreamField")), accessFlags := 26, slot := 2, constantValue := 0 }, { name := "REPL", type := .char, accessFlags := 26, slot := 3, constantValue := 0 }, { name := "CASE_INSENSITIVE_ORDER", type := (.object "java/util/Comparator"), accessFlags := 25, slot := 4, constantValue := 0 }, { name := "LATIN1", type := .byte, accessFlags := 24, slot := 5, constantValue := 0 }, { name := "UTF16", type := .byte, accessFlags := 24, slot := 6, constantValue := 0 }]
  methods := #[k14m0]
  instanceTypes := #[(.array .byte), .byte, .int, .boolean]
  staticTypes := #[.long, .boolean, (.array (.object "java/io/ObjectStreamField")), .char, (.object "java/util/Comparator"), .byte, .byte]
  resolved := Array.replicate 1451 none
  statics := none }

/-- the primitive byte -/
def k15 : Class := { plain "byte" none with kind := .primitive 'B', accessFlags := 0x411 }
/-- [B -/
def k16 : Class := { plain "[B" (some 0) with kind := .array 15 .byte, interfaces := #[6, 5], accessFlags := 1041 }

/-- the primitive int -/
def k17 : Class := { plain "int" none with kind := .primitive 'I', accessFlags := 0x411 }
/-- [I -/
def k18 : Class := { plain "[I" (some 0) with kind := .array 17 .int, interfaces := #[6, 5], accessFlags := 1041 }

/-- [Ljava/lang/Object; -/
def k19 : Class := { plain "[Ljava/lang/Object;" (some 0) with kind := .array 0 (.object "java/lang/Object"), interfaces := #[6, 5], accessFlags := 1041 }

def heap : Heap := #[{ cls := 11, slots := #[.null, .null, .ref 2, .null, .null, .null, .null, .long 0, .long 0, .long 0, .long 0, .long 0, .long 0, .long 0, .null], vm := .statics 11 },
  { cls := 14, slots := #[.null, .int 0, .int 0, .int 0], vm := .none },
  { cls := 11, slots := #[.ref 1, .int 2, .int 0, .long 1000000, .long 9223372036854, .long 9223372036854775, .long 9223372036854775807, .long 9223372036854775, .long 1000, .int 1, .int 1000], vm := .none }]
def classes : Array Class := #[k0, k1, k2, k3, k4, k5, k6, k7, k8, k9, k10, k11, k12, k13, k14, k15, k16, k17, k18, k19]
def interned : List (Array UInt16 × Addr) := []
def slotsUsed : Nat := 30
def theMethod : MethodId := ⟨1, 1⟩
def args0 : Array Value := #[.int 5, .int 7, .int 2, .long 9]
def aboutOver (below : List Frame) : State where
  vm := { classes := classes, interned := interned.toArray }
  heap := heap
  slotsUsed := slotsUsed
  threads := #[{ frames := .invoking theMethod args0 :: below }]
def below0 : List Frame := [.native { method := ⟨0, 0⟩, args := #[] }]
def about1 : State := aboutOver below0
def p0 : Program := .bare "" "" ""
def e0 : Env := launch0.env 0 0 0
theorem w_frames : about1.frames = Frame.invoking theMethod args0 :: below0 := rfl
set_option maxRecDepth 65536 in
theorem w_args : argsFit about1.vm theMethod args0 = true := by decide +kernel
set_option maxRecDepth 65536 in
theorem w_heap : heapFits about1 = true := by decide +kernel
set_option maxRecDepth 65536 in
theorem w_runnable : about1.curStatus? = some .runnable := by decide +kernel
set_option maxRecDepth 65536 in
theorem w_alone : about1.alone = true := by decide +kernel
set_option maxRecDepth 65536 in
theorem w_named : about1.methodNamed? x = some theMethod := by decide +kernel
set_option maxRecDepth 65536 in
theorem w_hears : about1.hears theMethod below0 = true := by decide +kernel
set_option maxRecDepth 65536 in
theorem w_ripe : about1.ripe theMethod args0 below0 = true := by decide +kernel
theorem w_running : about1.status = .running := rfl
set_option maxRecDepth 65536 in
theorem w_room : about1.hasRoom e0.platform room_1 = true :=
  launch0.hasRoom_least _ room_1 (by decide +kernel) (by decide +kernel) (by decide +kernel) (by decide +kernel) (by decide +kernel) (by decide +kernel)
theorem allAtoms_all (ts : List Jvm.Cond) (a : Array Jvm.Value) (st : Jvm.State) : (allAtoms ts).before a st = ts.all (fun c => c.before a st) := by
  induction ts with
  | nil => rfl
  | cons c t ih =>
    show (Jvm.Cond.and c (allAtoms t)).before a st = _
    rw [Jvm.Cond.before_and, ih, List.all_cons]
def words1 : List Jvm.Cond := Jvm.Cond.code x code maxLocals ret :: tables_1
/-- a 'code' word, met by the world's own term for the bytes: nothing is compared byte by byte -/
theorem code_word {y : MethodName} {bytes : ByteArray} {mx : Nat} {rt : Option FieldType} {a : Array Value} {s : State} {m : MethodId} {meth : Method} {c : Code} (h1 : s.methodNamed? y = some m) (h2 : s.vm.method? m = some meth) (h3 : meth.code = some c) (h4 : c.code = bytes)
    (h5 : (c.maxLocals == mx && c.exceptionTable.isEmpty && decide (c.maxStack ≤ mostOperands) && decide (meth.sig.returnType = rt) && !meth.locks && decide (parseMethodDescriptor y.desc = some meth.sig)) = true) : (Jvm.Cond.code y bytes mx rt).before a s = true := by
  simp only [Bool.and_eq_true, beq_iff_eq, Bool.not_eq_true', decide_eq_true_eq] at h5
  obtain ⟨⟨⟨⟨⟨g1, g2⟩, g3⟩, g4⟩, g5⟩, g6⟩ := h5
  simp [Cond.before, Cond.holds, Cond.value, h1, h2, h3, h4, g1, g2, g3, g4, g5, g6]
def isCode : Jvm.Cond → Bool
  | .code _ _ _ _ => true
  | _ => false
theorem all_split {L : List Jvm.Cond} {P : Jvm.Cond → Bool} (h1 : L.all (fun c => isCode c || P c) = true) (h2 : ∀ c ∈ L.filter isCode, P c = true) : L.all P = true := by
  refine List.all_eq_true.mpr fun c hc => ?_
  have h := List.all_eq_true.mp h1 c hc
  rcases Bool.eq_false_or_eq_true (isCode c) with hi | hi
  · exact h2 c (List.mem_filter.mpr ⟨hc, hi⟩)
  · simpa [hi] using h
set_option maxRecDepth 65536 in
theorem w_c0 : (Jvm.Cond.code x code maxLocals ret).before args0 about1 = true := code_word (m := ⟨1, 1⟩) (meth := k1m1) (c := k1c1) (by decide +kernel) rfl rfl rfl (by decide +kernel)
set_option maxRecDepth 65536 in
theorem w_c1 : (Jvm.Cond.code ({ cls := "com/example/link7/link7/rule/flow/Pacing", name := "<init>", desc := "(DI)V" } : Jvm.MethodName) prog_18_method_1_code (4 : Nat) (Option.none : Option Jvm.ClassFile.FieldType)).before args0 about1 = true := code_word (m := ⟨2, 0⟩) (meth := k2m0) (c := k2c0) (by decide +kernel) rfl rfl rfl (by decide +kernel)
set_option maxRecDepth 65536 in
theorem w_c2 : (Jvm.Cond.code ({ cls := "java/lang/Object", name := "<init>", desc := "()V" } : Jvm.MethodName) object_method_1_code (1 : Nat) (Option.none : Option Jvm.ClassFile.FieldType)).before args0 about1 = true := code_word (m := ⟨0, 0⟩) (meth := k0m0) (c := k0c0) (by decide +kernel) rfl rfl rfl (by decide +kernel)
set_option maxRecDepth 65536 in
theorem w_c3 : (Jvm.Cond.code ({ cls := "java/util/IdentityHashMap", name := "<init>", desc := "()V" } : Jvm.MethodName) jdk_2581_method_3_code (1 : Nat) (Option.none : Option Jvm.ClassFile.FieldType)).before args0 about1 = true := code_word (m := ⟨7, 0⟩) (meth := k7m0) (c := k7c0) (by decide +kernel) rfl rfl rfl (by decide +kernel)
set_option maxRecDepth 65536 in
theorem w_c4 : (Jvm.Cond.code ({ cls := "java/util/AbstractMap", name := "<init>", desc := "()V" } : Jvm.MethodName) jdk_71_method_1_code (1 : Nat) (Option.none : Option Jvm.ClassFile.FieldType)).before args0 about1 = true := code_word (m := ⟨4, 0⟩) (meth := k4m0) (c := k4c0) (by decide +kernel) rfl rfl rfl (by decide +kernel)
set_option maxRecDepth 65536 in
theorem w_c5 : (Jvm.Cond.code ({ cls := "java/util/IdentityHashMap", name := "init", desc := "(I)V" } : Jvm.MethodName) jdk_2581_method_6_code (2 : Nat) (Option.none : Option Jvm.ClassFile.FieldType)).before args0 about1 = true := code_word (m := ⟨7, 1⟩) (meth := k7m1) (c := k7c1) (by decide +kernel) rfl rfl rfl (by decide +kernel)
set_option maxRecDepth 65536 in
theorem w_c6 : (Jvm.Cond.code ({ cls := "java/util/concurrent/TimeUnit", name := "toNanos", desc := "(J)J" } : Jvm.MethodName) jdk_2799_method_7_code (7 : Nat) (Option.some Jvm.ClassFile.FieldType.long)).before args0 about1 = true := code_word (m := ⟨11, 0⟩) (meth := k11m0) (c := k11c0) (by decide +kernel) rfl rfl rfl (by decide +kernel)
set_option maxRecDepth 65536 in
theorem w_c7 : (Jvm.Cond.code ({ cls := "com/example/link7/link7/rule/flow/Pacing", name := "refuses", desc := "(D)Z" } : Jvm.MethodName) prog_18_method_3_code (3 : Nat) (Option.some Jvm.ClassFile.FieldType.boolean)).before args0 about1 = true := code_word (m := ⟨2, 1⟩) (meth := k2m1) (c := k2c1) (by decide +kernel) rfl rfl rfl (by decide +kernel)
def codes1 : List Jvm.Cond := [Jvm.Cond.code x code maxLocals ret, Jvm.Cond.code ({ cls := "com/example/link7/link7/rule/flow/Pacing", name := "<init>", desc := "(DI)V" } : Jvm.MethodName) prog_18_method_1_code (4 : Nat) (Option.none : Option Jvm.ClassFile.FieldType), Jvm.Cond.code ({ cls := "java/lang/Object", name := "<init>", desc := "()V" } : Jvm.MethodName) object_method_1_code (1 : Nat) (Option.none : Option Jvm.ClassFile.FieldType), Jvm.Cond.code ({ cls := "java/util/IdentityHashMap", name := "<init>", desc := "()V" } : Jvm.MethodName) jdk_2581_method_3_code (1 : Nat) (Option.none : Option Jvm.ClassFile.FieldType), Jvm.Cond.code ({ cls := "java/util/AbstractMap", name := "<init>", desc := "()V" } : Jvm.MethodName) jdk_71_method_1_code (1 : Nat) (Option.none : Option Jvm.ClassFile.FieldType), Jvm.Cond.code ({ cls := "java/util/IdentityHashMap", name := "init", desc := "(I)V" } : Jvm.MethodName) jdk_2581_method_6_code (2 : Nat) (Option.none : Option Jvm.ClassFile.FieldType), Jvm.Cond.code ({ cls := "java/util/concurrent/TimeUnit", name := "toNanos", desc := "(J)J" } : Jvm.MethodName) jdk_2799_method_7_code (7 : Nat) (Option.some Jvm.ClassFile.FieldType.long), Jvm.Cond.code ({ cls := "com/example/link7/link7/rule/flow/Pacing", name := "refuses", desc := "(D)Z" } : Jvm.MethodName) prog_18_method_3_code (3 : Nat) (Option.some Jvm.ClassFile.FieldType.boolean)]
set_option maxRecDepth 65536 in
theorem codes_eq : words1.filter isCode = codes1 := rfl
theorem w_codes : ∀ c ∈ words1.filter isCode, c.before args0 about1 = true := by
  rw [codes_eq]
  intro c hc
  simp only [codes1, List.mem_cons, List.not_mem_nil, or_false] at hc
  rcases hc with rfl | rfl | rfl | rfl | rfl | rfl | rfl | rfl
  · exact w_c0
  · exact w_c1
  · exact w_c2
  · exact w_c3
  · exact w_c4
  · exact w_c5
  · exact w_c6
  · exact w_c7
set_option maxRecDepth 65536 in
theorem w_t1 : (words1.take 24).all (fun c => isCode c || c.before args0 about1) = true := by decide +kernel
set_option maxRecDepth 65536 in
theorem w_t2 : ((words1.drop 24).take 24).all (fun c => isCode c || c.before args0 about1) = true := by decide +kernel
set_option maxRecDepth 65536 in
theorem w_t3 : ((words1.drop 24).drop 24).all (fun c => isCode c || c.before args0 about1) = true := by decide +kernel
theorem w_tables : (allAtoms (Jvm.Cond.code x code maxLocals ret :: tables_1)).before args0 about1 = true := by
  rw [allAtoms_all]
  show words1.all (fun c => c.before args0 about1) = true
  refine all_split ?_ w_codes
  rw [← List.take_append_drop 24 words1, List.all_append, w_t1, ← List.take_append_drop 24 (words1.drop 24), List.all_append, w_t2, w_t3]
  rfl
set_option maxRecDepth 65536 in
theorem w_rest : rest_1_c.before args0 about1 = true := by decide +kernel
set_option maxRecDepth 65536 in
theorem w_case : (Jvm.Cond.and given_1 narrow_1).before args0 about1 = true := by decide +kernel
theorem w_applies : (headSpec (Jvm.Cond.code x code maxLocals ret :: tables_1) room_1).applies x e0.platform about1 = true :=
  (Spec.applies_iff w_frames).mpr ⟨w_running, w_runnable, w_alone, w_named, w_hears, w_ripe, w_room, w_tables⟩
theorem atStart : AtStart classFile x code maxLocals ret World_1 tables_1 room_1 Calls_1 rest_1 Pre_1 launch0 p0 e0 about1 theMethod args0 below0 :=
  ⟨lists_1, trivial, launch0.admits_env _ _ _, launch0.least_env, fairChoices_fair.cas, fairChoices_fair.clock, w_frames, w_args, w_heap, w_applies, trivial, w_rest, w_case⟩
end start1
theorem witness_1 : WitnessClaimed_1 := ⟨start1.p0, start1.e0, start1.about1, start1.theMethod, start1.args0, start1.below0, start1.atStart⟩
end Jvm.Pilot.@@N@@
