import JvmDerived
import JvmDerived.Pilot.@@N@@Statement
import JvmDerived.Pilot.@@N@@Code
set_option linter.unusedVariables false
set_option linter.unusedSimpArgs false
set_option maxRecDepth 65536
namespace Jvm.RoadKit
open Sem ClassFile Op Lib Jvm.Stand Jvm.Free Jvm.LawKit
section New
variable {p : Program} {l : Launch} {e : Env} {R : Room} {s : State} {m : MethodId} {args : Array Value} {below : List Frame} {meth : Method} {c : Code} {T : State} {locs : List Loc} {cells slots : Nat}
theorem retI (X : Stand p l e R s m args below meth c T locs cells slots) (hx : p.tables.exec = Jvm.exec) {pc : Nat} {Ls : Array Slot} {z : Int32} {rest : List Value} (hret : meth.sig.returnType = some .int) (hd : decode c.code pc = .ok (.ireturn, 1)) {fs : List Frame}
    (hl : ∀ (f : JFrame) (acts : List Action), f.method = m → f.locked = none → f.entered = [] → (doReturn e (T.setTop f) acts (some (.int z))).1 = T.setFrames fs) : Steps p.tables e below (T.setTop (mkF m pc Ls (.int z :: rest))) (T.setFrames fs) := by
  have hm' : T.vm.method? m = some meth := X.method'
  have hn : narrow .int (.int z) = .int z := rfl
  show Steps p.tables e below (T.setTop { method := m, pc := pc, locals := Ls, stack := _ :: rest, locked := none }) _
  jvm_step X.here [X.here.top, hx, hd, hm', hret, hn]
  first | (intro acts; rw [hl _ acts rfl rfl rfl]) | rw [hl _ _ rfl rfl rfl]
  exact Steps.refl _
end New
end Jvm.RoadKit
namespace Jvm.Pilot.@@N@@
open Jvm Jvm.ClassFile Sem Op Lib Jvm.Free Jvm.Stand Jvm.LawKit Jvm.RoadKit Bundle Jvm.Pilot.@@N@@.Jvm.D
def own_S (Z : State) (h : Heap) (ad : Nat → Addr) : Prop := Sta Z h "com/example/tracelint/tracelint/spec/Operator" "TRUE" "Lcom/example/tracelint/tracelint/spec/Operator;" (.ref (ad 0)) ∧ Sta Z h "com/example/tracelint/tracelint/spec/Operator" "FALSE" "Lcom/example/tracelint/tracelint/spec/Operator;" (.ref (ad 1)) ∧ Sta Z h "com/example/tracelint/tracelint/spec/Operator" "ATOM" "Lcom/example/tracelint/tracelint/spec/Operator;" (.ref (ad 2)) ∧ Sta Z h "com/example/tracelint/tracelint/spec/Operator" "RULE" "Lcom/example/tracelint/tracelint/spec/Operator;" (.ref (ad 3)) ∧ Sta Z h "com/example/tracelint/tracelint/spec/Operator" "EQUAL" "Lcom/example/tracelint/tracelint/spec/Operator;" (.ref (ad 4)) ∧ Sta Z h "com/example/tracelint/tracelint/spec/Operator" "NOT_EQUAL" "Lcom/example/tracelint/tracelint/spec/Operator;" (.ref (ad 5)) ∧ Sta Z h "com/example/tracelint/tracelint/spec/Operator" "LESS" "Lcom/example/tracelint/tracelint/spec/Operator;" (.ref (ad 6)) ∧ Sta Z h "com/example/tracelint/tracelint/spec/Operator" "LESS_OR_EQUAL" "Lcom/example/tracelint/tracelint/spec/Operator;" (.ref (ad 7)) ∧ Sta Z h "com/example/tracelint/tracelint/spec/Operator" "GREATER" "Lcom/example/tracelint/tracelint/spec/Operator;" (.ref (ad 8)) ∧ Sta Z h "com/example/tracelint/tracelint/spec/Operator" "GREATER_OR_EQUAL" "Lcom/example/tracelint/tracelint/spec/Operator;" (.ref (ad 9)) ∧ Sta Z h "com/example/tracelint/tracelint/spec/Operator" "NOT" "Lcom/example/tracelint/tracelint/spec/Operator;" (.ref (ad 10)) ∧ Sta Z h "com/example/tracelint/tracelint/spec/Operator" "PREV" "Lcom/example/tracelint/tracelint/spec/Operator;" (.ref (ad 11)) ∧ Sta Z h "com/example/tracelint/tracelint/spec/Operator" "ONCE" "Lcom/example/tracelint/tracelint/spec/Operator;" (.ref (ad 12)) ∧ Sta Z h "com/example/tracelint/tracelint/spec/Operator" "HISTORICALLY" "Lcom/example/tracelint/tracelint/spec/Operator;" (.ref (ad 13)) ∧ Sta Z h "com/example/tracelint/tracelint/spec/Operator" "NEXT" "Lcom/example/tracelint/tracelint/spec/Operator;" (.ref (ad 14)) ∧ Sta Z h "com/example/tracelint/tracelint/spec/Operator" "EVENTUALLY" "Lcom/example/tracelint/tracelint/spec/Operator;" (.ref (ad 15)) ∧ Sta Z h "com/example/tracelint/tracelint/spec/Operator" "ALWAYS" "Lcom/example/tracelint/tracelint/spec/Operator;" (.ref (ad 16)) ∧ Sta Z h "com/example/tracelint/tracelint/spec/Operator" "FORALL" "Lcom/example/tracelint/tracelint/spec/Operator;" (.ref (ad 17)) ∧ Sta Z h "com/example/tracelint/tracelint/spec/Operator" "EXISTS" "Lcom/example/tracelint/tracelint/spec/Operator;" (.ref (ad 18)) ∧ Sta Z h "com/example/tracelint/tracelint/spec/Operator" "IFF" "Lcom/example/tracelint/tracelint/spec/Operator;" (.ref (ad 19)) ∧ Sta Z h "com/example/tracelint/tracelint/spec/Operator" "IMPLIES" "Lcom/example/tracelint/tracelint/spec/Operator;" (.ref (ad 20)) ∧ Sta Z h "com/example/tracelint/tracelint/spec/Operator" "OR" "Lcom/example/tracelint/tracelint/spec/Operator;" (.ref (ad 21)) ∧ Sta Z h "com/example/tracelint/tracelint/spec/Operator" "AND" "Lcom/example/tracelint/tracelint/spec/Operator;" (.ref (ad 22)) ∧ Sta Z h "com/example/tracelint/tracelint/spec/Operator" "SINCE" "Lcom/example/tracelint/tracelint/spec/Operator;" (.ref (ad 23)) ∧ Sta Z h "com/example/tracelint/tracelint/spec/Operator" "UNTIL" "Lcom/example/tracelint/tracelint/spec/Operator;" (.ref (ad 24))
theorem own_and (x m : Int32) (hm : 0 ≤ m.toInt) : 0 ≤ (x &&& m).toInt ∧ (x &&& m).toInt ≤ m.toInt := by
  have e : (x &&& m).toBitVec.toNat = x.toBitVec.toNat &&& m.toBitVec.toNat := by simp
  have h1 : (x &&& m).toBitVec.toNat ≤ m.toBitVec.toNat := by rw [e]; exact Nat.and_le_right
  have h2 := m.toBitVec.isLt
  rw [← Int32.toInt_toBitVec, BitVec.toInt_eq_toNat_cond] at hm ⊢
  rw [← Int32.toInt_toBitVec m, BitVec.toInt_eq_toNat_cond]
  generalize (x &&& m).toBitVec.toNat = a at *
  generalize m.toBitVec.toNat = b at *
  split at hm
  · split <;> omega
  · omega
theorem own_of (t : Int32) (n : Nat) (h0 : 0 ≤ t.toInt) (h1 : t.toInt < n) (hn : n ≤ 2 ^ 31) : ∃ k, k < n ∧ t = Int32.ofNat k ∧ t.toNatClampNeg = k := by
  refine ⟨t.toInt.toNat, by omega, ?_, ?_⟩
  · apply Int32.toInt_inj.1
    rw [Int32.toInt_ofNat_of_lt (by omega)]
    omega
  · rfl
theorem own_lit {i j : Nat} (hi : i < 1000) (hj : j < 1000) : (Int32.ofNat i = Int32.ofNat j ↔ i = j) ∧ (Int32.ofNat i < Int32.ofNat j ↔ i < j) := by
  have h1 : (Int32.ofNat i).toInt = i := Int32.toInt_ofNat_of_lt (by omega)
  have h2 : (Int32.ofNat j).toInt = j := Int32.toInt_ofNat_of_lt (by omega)
  rw [← Int32.toInt_inj, Int32.lt_iff_toInt_lt, h1, h2]
  omega
theorem own_eqint {args : Array Value} {first s : State} {o : Option Outcome} {idx : List Nat} {t : Term} {j : Int32} (h : (Cond.eq t (.int j)).value args first o s idx = some true) : t.eval args first o idx s = some (.int j) := by
  obtain ⟨x, y, h1, h2, k1, k2⟩ := cmp_v (Or.inl h)
  have e2 : Value.int j = y := Option.some.inj h2
  subst e2
  obtain ⟨z, rfl⟩ := k2
  have h3 : (Term.int j).eval args first o idx s = some (.int j) := rfl
  have : z = j := by simpa [Cond.value, h1, h3] using h
  rw [h1, this]
theorem own_rem (x n : Int32) (k : Nat) (hk : n.toInt = k) (h0 : 0 < k) (h1 : k < 1000) : ∃ i, i < k ∧ (x &&& 2147483647) % n = Int32.ofNat i := by
  have h := (own_and x 2147483647 (by decide)).1
  have e : ((x &&& 2147483647) % n).toInt = (x &&& 2147483647).toInt % k := by rw [Int32.toInt_mod, hk, Int.tmod_eq_emod_of_nonneg h]
  have b1 := Int.emod_nonneg (x &&& 2147483647).toInt (b := k) (by omega)
  have b2 := Int.emod_lt_of_pos (x &&& 2147483647).toInt (b := k) (by omega)
  obtain ⟨i, hi, q, -⟩ := own_of ((x &&& 2147483647) % n) k (by omega) (by omega) (by omega)
  exact ⟨i, hi, q⟩
def own_cp (i : Nat) : Int32 := if 4 ≤ i ∧ i ≤ 9 then 1 else 0
theorem own_cpa {i : Nat} (hi : i < 25) (h : Int32.ofNat i < 4) : own_cp i = 0 := if_neg (by have := (own_lit (i := i) (j := 4) (by omega) (by decide)).2.mp h; omega)
theorem own_cpb {i : Nat} (hi : i < 25) (h : 9 < Int32.ofNat i) : own_cp i = 0 := if_neg (by have := (own_lit (i := 9) (j := i) (by decide) (by omega)).2.mp h; omega)
theorem own_cpc {i : Nat} (hi : i < 25) (h : ¬ Int32.ofNat i < 4) (h' : ¬ 9 < Int32.ofNat i) : own_cp i = 1 := if_pos (by
  have a : ¬ i < 4 := fun q => h ((own_lit (i := i) (j := 4) (by omega) (by decide)).2.mpr q)
  have b : ¬ 9 < i := fun q => h' ((own_lit (i := 9) (j := i) (by decide) (by omega)).2.mpr q)
  omega)
theorem d1_0 : decode method_2_code 0 = .ok (.iload_n 0, 1) := by decide +kernel
theorem d1_1 : decode method_2_code 1 = .ok (.ifCond .ne 7, 3) := by decide +kernel
theorem d1_4 : decode method_2_code 4 = .ok (.getstatic 7, 3) := by decide +kernel
theorem d1_7 : decode method_2_code 7 = .ok (.areturn, 1) := by decide +kernel
theorem d1_8 : decode method_2_code 8 = .ok (.iload_n 0, 1) := by decide +kernel
theorem d1_9 : decode method_2_code 9 = .ok (.iconst 1, 1) := by decide +kernel
theorem d1_10 : decode method_2_code 10 = .ok (.if_icmp .ne 7, 3) := by decide +kernel
theorem d1_13 : decode method_2_code 13 = .ok (.getstatic 13, 3) := by decide +kernel
theorem d1_16 : decode method_2_code 16 = .ok (.areturn, 1) := by decide +kernel
theorem d1_17 : decode method_2_code 17 = .ok (.iload_n 0, 1) := by decide +kernel
theorem d1_18 : decode method_2_code 18 = .ok (.iconst 2, 1) := by decide +kernel
theorem d1_19 : decode method_2_code 19 = .ok (.if_icmp .ne 7, 3) := by decide +kernel
theorem d1_22 : decode method_2_code 22 = .ok (.getstatic 16, 3) := by decide +kernel
theorem d1_25 : decode method_2_code 25 = .ok (.areturn, 1) := by decide +kernel
theorem d1_26 : decode method_2_code 26 = .ok (.iload_n 0, 1) := by decide +kernel
theorem d1_27 : decode method_2_code 27 = .ok (.iconst 3, 1) := by decide +kernel
theorem d1_28 : decode method_2_code 28 = .ok (.if_icmp .ne 7, 3) := by decide +kernel
theorem d1_31 : decode method_2_code 31 = .ok (.getstatic 19, 3) := by decide +kernel
theorem d1_34 : decode method_2_code 34 = .ok (.areturn, 1) := by decide +kernel
theorem d1_35 : decode method_2_code 35 = .ok (.iload_n 0, 1) := by decide +kernel
theorem d1_36 : decode method_2_code 36 = .ok (.iconst 4, 1) := by decide +kernel
theorem d1_37 : decode method_2_code 37 = .ok (.if_icmp .ne 7, 3) := by decide +kernel
theorem d1_40 : decode method_2_code 40 = .ok (.getstatic 22, 3) := by decide +kernel
theorem d1_43 : decode method_2_code 43 = .ok (.areturn, 1) := by decide +kernel
theorem d1_44 : decode method_2_code 44 = .ok (.iload_n 0, 1) := by decide +kernel
theorem d1_45 : decode method_2_code 45 = .ok (.iconst 5, 1) := by decide +kernel
theorem d1_46 : decode method_2_code 46 = .ok (.if_icmp .ne 7, 3) := by decide +kernel
theorem d1_49 : decode method_2_code 49 = .ok (.getstatic 25, 3) := by decide +kernel
theorem d1_52 : decode method_2_code 52 = .ok (.areturn, 1) := by decide +kernel
theorem d1_53 : decode method_2_code 53 = .ok (.iload_n 0, 1) := by decide +kernel
theorem d1_54 : decode method_2_code 54 = .ok (.bipush 6, 2) := by decide +kernel
theorem d1_56 : decode method_2_code 56 = .ok (.if_icmp .ne 7, 3) := by decide +kernel
theorem d1_59 : decode method_2_code 59 = .ok (.getstatic 28, 3) := by decide +kernel
theorem d1_62 : decode method_2_code 62 = .ok (.areturn, 1) := by decide +kernel
theorem d1_63 : decode method_2_code 63 = .ok (.iload_n 0, 1) := by decide +kernel
theorem d1_64 : decode method_2_code 64 = .ok (.bipush 7, 2) := by decide +kernel
theorem d1_66 : decode method_2_code 66 = .ok (.if_icmp .ne 7, 3) := by decide +kernel
theorem d1_69 : decode method_2_code 69 = .ok (.getstatic 31, 3) := by decide +kernel
theorem d1_72 : decode method_2_code 72 = .ok (.areturn, 1) := by decide +kernel
theorem d1_73 : decode method_2_code 73 = .ok (.iload_n 0, 1) := by decide +kernel
theorem d1_74 : decode method_2_code 74 = .ok (.bipush 8, 2) := by decide +kernel
theorem d1_76 : decode method_2_code 76 = .ok (.if_icmp .ne 7, 3) := by decide +kernel
theorem d1_79 : decode method_2_code 79 = .ok (.getstatic 34, 3) := by decide +kernel
theorem d1_82 : decode method_2_code 82 = .ok (.areturn, 1) := by decide +kernel
theorem d1_83 : decode method_2_code 83 = .ok (.iload_n 0, 1) := by decide +kernel
theorem d1_84 : decode method_2_code 84 = .ok (.bipush 9, 2) := by decide +kernel
theorem d1_86 : decode method_2_code 86 = .ok (.if_icmp .ne 7, 3) := by decide +kernel
theorem d1_89 : decode method_2_code 89 = .ok (.getstatic 37, 3) := by decide +kernel
theorem d1_92 : decode method_2_code 92 = .ok (.areturn, 1) := by decide +kernel
theorem d1_93 : decode method_2_code 93 = .ok (.iload_n 0, 1) := by decide +kernel
theorem d1_94 : decode method_2_code 94 = .ok (.bipush 10, 2) := by decide +kernel
theorem d1_96 : decode method_2_code 96 = .ok (.if_icmp .ne 7, 3) := by decide +kernel
theorem d1_99 : decode method_2_code 99 = .ok (.getstatic 40, 3) := by decide +kernel
theorem d1_102 : decode method_2_code 102 = .ok (.areturn, 1) := by decide +kernel
theorem d1_103 : decode method_2_code 103 = .ok (.iload_n 0, 1) := by decide +kernel
theorem d1_104 : decode method_2_code 104 = .ok (.bipush 11, 2) := by decide +kernel
theorem d1_106 : decode method_2_code 106 = .ok (.if_icmp .ne 7, 3) := by decide +kernel
theorem d1_109 : decode method_2_code 109 = .ok (.getstatic 43, 3) := by decide +kernel
theorem d1_112 : decode method_2_code 112 = .ok (.areturn, 1) := by decide +kernel
theorem d1_113 : decode method_2_code 113 = .ok (.iload_n 0, 1) := by decide +kernel
theorem d1_114 : decode method_2_code 114 = .ok (.bipush 12, 2) := by decide +kernel
theorem d1_116 : decode method_2_code 116 = .ok (.if_icmp .ne 7, 3) := by decide +kernel
theorem d1_119 : decode method_2_code 119 = .ok (.getstatic 46, 3) := by decide +kernel
theorem d1_122 : decode method_2_code 122 = .ok (.areturn, 1) := by decide +kernel
theorem d1_123 : decode method_2_code 123 = .ok (.iload_n 0, 1) := by decide +kernel
theorem d1_124 : decode method_2_code 124 = .ok (.bipush 13, 2) := by decide +kernel
theorem d1_126 : decode method_2_code 126 = .ok (.if_icmp .ne 7, 3) := by decide +kernel
theorem d1_129 : decode method_2_code 129 = .ok (.getstatic 49, 3) := by decide +kernel
theorem d1_132 : decode method_2_code 132 = .ok (.areturn, 1) := by decide +kernel
theorem d1_133 : decode method_2_code 133 = .ok (.iload_n 0, 1) := by decide +kernel
theorem d1_134 : decode method_2_code 134 = .ok (.bipush 14, 2) := by decide +kernel
theorem d1_136 : decode method_2_code 136 = .ok (.if_icmp .ne 7, 3) := by decide +kernel
theorem d1_139 : decode method_2_code 139 = .ok (.getstatic 52, 3) := by decide +kernel
theorem d1_142 : decode method_2_code 142 = .ok (.areturn, 1) := by decide +kernel
theorem d1_143 : decode method_2_code 143 = .ok (.iload_n 0, 1) := by decide +kernel
theorem d1_144 : decode method_2_code 144 = .ok (.bipush 15, 2) := by decide +kernel
theorem d1_146 : decode method_2_code 146 = .ok (.if_icmp .ne 7, 3) := by decide +kernel
theorem d1_149 : decode method_2_code 149 = .ok (.getstatic 55, 3) := by decide +kernel
theorem d1_152 : decode method_2_code 152 = .ok (.areturn, 1) := by decide +kernel
theorem d1_153 : decode method_2_code 153 = .ok (.iload_n 0, 1) := by decide +kernel
theorem d1_154 : decode method_2_code 154 = .ok (.bipush 16, 2) := by decide +kernel
theorem d1_156 : decode method_2_code 156 = .ok (.if_icmp .ne 7, 3) := by decide +kernel
theorem d1_159 : decode method_2_code 159 = .ok (.getstatic 58, 3) := by decide +kernel
theorem d1_162 : decode method_2_code 162 = .ok (.areturn, 1) := by decide +kernel
theorem d1_163 : decode method_2_code 163 = .ok (.iload_n 0, 1) := by decide +kernel
theorem d1_164 : decode method_2_code 164 = .ok (.bipush 17, 2) := by decide +kernel
theorem d1_166 : decode method_2_code 166 = .ok (.if_icmp .ne 7, 3) := by decide +kernel
theorem d1_169 : decode method_2_code 169 = .ok (.getstatic 61, 3) := by decide +kernel
theorem d1_172 : decode method_2_code 172 = .ok (.areturn, 1) := by decide +kernel
theorem d1_173 : decode method_2_code 173 = .ok (.iload_n 0, 1) := by decide +kernel
theorem d1_174 : decode method_2_code 174 = .ok (.bipush 18, 2) := by decide +kernel
theorem d1_176 : decode method_2_code 176 = .ok (.if_icmp .ne 7, 3) := by decide +kernel
theorem d1_179 : decode method_2_code 179 = .ok (.getstatic 64, 3) := by decide +kernel
theorem d1_182 : decode method_2_code 182 = .ok (.areturn, 1) := by decide +kernel
theorem d1_183 : decode method_2_code 183 = .ok (.iload_n 0, 1) := by decide +kernel
theorem d1_184 : decode method_2_code 184 = .ok (.bipush 19, 2) := by decide +kernel
theorem d1_186 : decode method_2_code 186 = .ok (.if_icmp .ne 7, 3) := by decide +kernel
theorem d1_189 : decode method_2_code 189 = .ok (.getstatic 67, 3) := by decide +kernel
theorem d1_192 : decode method_2_code 192 = .ok (.areturn, 1) := by decide +kernel
theorem d1_193 : decode method_2_code 193 = .ok (.iload_n 0, 1) := by decide +kernel
theorem d1_194 : decode method_2_code 194 = .ok (.bipush 20, 2) := by decide +kernel
theorem d1_196 : decode method_2_code 196 = .ok (.if_icmp .ne 7, 3) := by decide +kernel
theorem d1_199 : decode method_2_code 199 = .ok (.getstatic 70, 3) := by decide +kernel
theorem d1_202 : decode method_2_code 202 = .ok (.areturn, 1) := by decide +kernel
theorem d1_203 : decode method_2_code 203 = .ok (.iload_n 0, 1) := by decide +kernel
theorem d1_204 : decode method_2_code 204 = .ok (.bipush 21, 2) := by decide +kernel
theorem d1_206 : decode method_2_code 206 = .ok (.if_icmp .ne 7, 3) := by decide +kernel
theorem d1_209 : decode method_2_code 209 = .ok (.getstatic 73, 3) := by decide +kernel
theorem d1_212 : decode method_2_code 212 = .ok (.areturn, 1) := by decide +kernel
theorem d1_213 : decode method_2_code 213 = .ok (.iload_n 0, 1) := by decide +kernel
theorem d1_214 : decode method_2_code 214 = .ok (.bipush 22, 2) := by decide +kernel
theorem d1_216 : decode method_2_code 216 = .ok (.if_icmp .ne 7, 3) := by decide +kernel
theorem d1_219 : decode method_2_code 219 = .ok (.getstatic 76, 3) := by decide +kernel
theorem d1_222 : decode method_2_code 222 = .ok (.areturn, 1) := by decide +kernel
theorem d1_223 : decode method_2_code 223 = .ok (.iload_n 0, 1) := by decide +kernel
theorem d1_224 : decode method_2_code 224 = .ok (.bipush 23, 2) := by decide +kernel
theorem d1_226 : decode method_2_code 226 = .ok (.if_icmp .ne 7, 3) := by decide +kernel
theorem d1_229 : decode method_2_code 229 = .ok (.getstatic 79, 3) := by decide +kernel
theorem d1_232 : decode method_2_code 232 = .ok (.areturn, 1) := by decide +kernel
theorem d1_233 : decode method_2_code 233 = .ok (.getstatic 82, 3) := by decide +kernel
theorem d1_236 : decode method_2_code 236 = .ok (.areturn, 1) := by decide +kernel
theorem pn_0 : plainName "com/example/tracelint/tracelint/spec/OperatorIsComparisonPinLaw" = true := by first | (simp [plainName, overriddenIn]; done) | decide +kernel
theorem ef_rm1 (m : MethodId) (x0 : Int32) : entryFrame m #[(.int x0)] 1 = mkF m 0 #[.val (.int x0)] [] := by first | (simp [entryFrame, mkF, argsToLocals, Value.category]; done) | rfl
def Q1 (Z : State) (p1 : Int32) (ad : Nat → Addr) (i : Nat) (h0 : Heap) (n0 : Nat) (v : Option Value) (h : Heap) (L : List Loc) : Prop := v = some (.ref (ad i)) ∧ Fr n0 L ∧ h = h0
set_option maxHeartbeats 40000000 in
theorem rm1 (l : Launch) (Z : State) (a0 : Array Value) (hw : ∀ d ∈ tables_1, d.before a0 Z = true) (ws : List Jvm.Cond) (p1 : Int32) (ad : Nat → Addr) (i : Nat) (h0 : Heap) (n0 : Nat) (Z0 : n0 ≤ h0.size) (hi : i < 25) (hk : p1 = Int32.ofNat i) (hS : own_S Z h0 ad) :
    MetFree l (⟨"com/example/tracelint/tracelint/spec/OperatorIsComparisonPinLaw", "pick", "(I)Lcom/example/tracelint/tracelint/spec/Operator;"⟩ : MethodName) (head1 (Jvm.Cond.code (⟨"com/example/tracelint/tracelint/spec/OperatorIsComparisonPinLaw", "pick", "(I)Lcom/example/tracelint/tracelint/spec/Operator;"⟩ : MethodName) method_2_code 1 (some (.object "com/example/tracelint/tracelint/spec/Operator")) :: ws) ({ frames := 0, cells := 0, slots := 0, locals := 0 } : Room)) (fun a U => a = #[(.int p1)] ∧ Z.Warmed39 U.vm ∧ U.heap = h0) (fun _ _ _ _ _ => True) (fun _ U o U' => ∃ v L, o = .returned v ∧ Q1 Z p1 ad i h0 n0 v U'.heap L ∧ FrameEnd U o U' L ({ frames := 0, cells := 0, slots := 0, locals := 0 } : Room).cells ({ frames := 0, cells := 0, slots := 0, locals := 0 } : Room).slots) := by
  refine MetFree.of_bodySF (plainFor_of_name pn_0) hisR ?_
  intro p e s m args below meth c s₁ Bd hml0 hP hK
  obtain ⟨rfl, hZ, hh⟩ := hP
  have hx := Bd.exec
  have hby := Bd.bytes
  have hml : c.maxLocals = 1 := hml0
  have hown : s.vm.findClass "com/example/tracelint/tracelint/spec/OperatorIsComparisonPinLaw" = some m.cls := findClass_of_methodNamed Bd.named
  have hnm := (name_of_methodNamed Bd.named Bd.method).1
  have X0 : Stand p l e ({ frames := 0, cells := 0, slots := 0, locals := 0 } : Room) s m #[(.int p1)] below meth c s₁ [] 0 0 := Stand.of_body Bd
  have e0 : s₁.heap = h0 := by rw [← hh, Bd.state]; rfl
  have N0 := Fr.nil n0
  have pre0 : ∀ tgt, Steps p.tables e below (s₁.setTop (mkF m 0 #[.val (.int p1)] [])) tgt → Steps p.tables e below (s₁.setTop (entryFrame m #[(.int p1)] 1)) tgt := fun tgt k => castTop (ef_rm1 m p1) k
  obtain ⟨hS0, hS1, hS2, hS3, hS4, hS5, hS6, hS7, hS8, hS9, hS10, hS11, hS12, hS13, hS14, hS15, hS16, hS17, hS18, hS19, hS20, hS21, hS22, hS23, hS24⟩ := hS
  have pre1 : ∀ tgt, Steps p.tables e below (s₁.setTop (mkF m 1 #[.val (.int p1)] [(.int p1)])) tgt → Steps p.tables e below (s₁.setTop (entryFrame m #[(.int p1)] 1)) tgt := fun tgt kt => pre0 _ (by
    show Steps p.tables e below (s₁.setTop (mkF m 0 #[.val (.int p1)] [])) _
    refine XS.iloadN X0.here hx rfl (hb hby d1_0) rfl ?_
    exact kt)
  by_cases hc0 : p1 = (0 : Int32)
  · obtain ⟨T2, X2, e2, st2⟩ := getS2 X0 hx hZ hown (host := "") (Or.inl (hw _ (List.mem_of_getElem? (i := 5) rfl))) Via.refl e0 hS0 (g := (mkF m 4 #[.val (.int p1)] [])) rfl (hb hby d1_4)
    obtain ⟨fs, hr, hrun, hended, hW, hsame⟩ := X2.leave (v := some (.ref (ad 0))) (fun h => by rw [Bd.returns] at h; cases h)
    refine ⟨_, _, pre1 _ ?_, hrun, hended, _, _, rfl, ?_, ⟨_, rfl⟩, hW, hsame.mono (by decide) (by decide)⟩
    · show Steps p.tables e below (s₁.setTop (mkF m 1 #[.val (.int p1)] [(.int p1)])) _
      refine XS.ifNo X0.here hx rfl (hb hby d1_1) rfl ((if0 _ _).trans (teq hc0).2) ?_
      show Steps p.tables e below (s₁.setTop (mkF m 4 #[.val (.int p1)] [])) _
      refine st2 _ ?_
      show Steps p.tables e below (T2.setTop (mkF m 7 #[.val (.int p1)] [(.ref (ad 0))])) _
      exact retOut X2 hx Bd.returns rfl (Or.inr (Or.inr (Or.inr (Or.inr ⟨rfl, rfl, rfl⟩)))) (hb hby d1_7) hr
    · show Q1 Z p1 ad i h0 n0 _ T2.heap _
      rw [e2]
      have hj : i = 0 := (own_lit (by omega) (by decide)).1.mp (hk.symm.trans hc0)
      subst hj
      exact ⟨rfl, N0, rfl⟩
  · have pre3 : ∀ tgt, Steps p.tables e below (s₁.setTop (mkF m 10 #[.val (.int p1)] [(.int (1 : Int32)), (.int p1)])) tgt → Steps p.tables e below (s₁.setTop (entryFrame m #[(.int p1)] 1)) tgt := fun tgt kt => pre1 _ (by
      show Steps p.tables e below (s₁.setTop (mkF m 1 #[.val (.int p1)] [(.int p1)])) _
      refine XS.ifYes X0.here hx rfl (pc0 := 1) (pc' := 8) rfl (hb hby d1_1) rfl ((if0 _ _).trans (feq hc0).2) (by decide) (by decide) ?_
      show Steps p.tables e below (s₁.setTop (mkF m 8 #[.val (.int p1)] [])) _
      refine XS.iloadN X0.here hx rfl (hb hby d1_8) rfl ?_
      show Steps p.tables e below (s₁.setTop (mkF m 9 #[.val (.int p1)] [(.int p1)])) _
      refine XS.iconst X0.here hx rfl (hb hby d1_9) ?_
      exact kt)
    by_cases hc1 : p1 = (1 : Int32)
    · obtain ⟨T4, X4, e4, st4⟩ := getS2 X0 hx hZ hown (host := "") (Or.inl (hw _ (List.mem_of_getElem? (i := 40) rfl))) Via.refl e0 hS1 (g := (mkF m 13 #[.val (.int p1)] [])) rfl (hb hby d1_13)
      obtain ⟨fs, hr, hrun, hended, hW, hsame⟩ := X4.leave (v := some (.ref (ad 1))) (fun h => by rw [Bd.returns] at h; cases h)
      refine ⟨_, _, pre3 _ ?_, hrun, hended, _, _, rfl, ?_, ⟨_, rfl⟩, hW, hsame.mono (by decide) (by decide)⟩
      · show Steps p.tables e below (s₁.setTop (mkF m 10 #[.val (.int p1)] [(.int (1 : Int32)), (.int p1)])) _
        refine XS.icmpNo X0.here hx rfl (hb hby d1_10) rfl (teq hc1).2 ?_
        show Steps p.tables e below (s₁.setTop (mkF m 13 #[.val (.int p1)] [])) _
        refine st4 _ ?_
        show Steps p.tables e below (T4.setTop (mkF m 16 #[.val (.int p1)] [(.ref (ad 1))])) _
        exact retOut X4 hx Bd.returns rfl (Or.inr (Or.inr (Or.inr (Or.inr ⟨rfl, rfl, rfl⟩)))) (hb hby d1_16) hr
      · show Q1 Z p1 ad i h0 n0 _ T4.heap _
        rw [e4]
        have hj : i = 1 := (own_lit (by omega) (by decide)).1.mp (hk.symm.trans hc1)
        subst hj
        exact ⟨rfl, N0, rfl⟩
    · have pre5 : ∀ tgt, Steps p.tables e below (s₁.setTop (mkF m 19 #[.val (.int p1)] [(.int (2 : Int32)), (.int p1)])) tgt → Steps p.tables e below (s₁.setTop (entryFrame m #[(.int p1)] 1)) tgt := fun tgt kt => pre3 _ (by
        show Steps p.tables e below (s₁.setTop (mkF m 10 #[.val (.int p1)] [(.int (1 : Int32)), (.int p1)])) _
        refine XS.icmpYes X0.here hx rfl (pc0 := 10) (pc' := 17) rfl (hb hby d1_10) rfl (feq hc1).2 (by decide) (by decide) ?_
        show Steps p.tables e below (s₁.setTop (mkF m 17 #[.val (.int p1)] [])) _
        refine XS.iloadN X0.here hx rfl (hb hby d1_17) rfl ?_
        show Steps p.tables e below (s₁.setTop (mkF m 18 #[.val (.int p1)] [(.int p1)])) _
        refine XS.iconst X0.here hx rfl (hb hby d1_18) ?_
        exact kt)
      by_cases hc2 : p1 = (2 : Int32)
      · obtain ⟨T6, X6, e6, st6⟩ := getS2 X0 hx hZ hown (host := "") (Or.inl (hw _ (List.mem_of_getElem? (i := 33) rfl))) Via.refl e0 hS2 (g := (mkF m 22 #[.val (.int p1)] [])) rfl (hb hby d1_22)
        obtain ⟨fs, hr, hrun, hended, hW, hsame⟩ := X6.leave (v := some (.ref (ad 2))) (fun h => by rw [Bd.returns] at h; cases h)
        refine ⟨_, _, pre5 _ ?_, hrun, hended, _, _, rfl, ?_, ⟨_, rfl⟩, hW, hsame.mono (by decide) (by decide)⟩
        · show Steps p.tables e below (s₁.setTop (mkF m 19 #[.val (.int p1)] [(.int (2 : Int32)), (.int p1)])) _
          refine XS.icmpNo X0.here hx rfl (hb hby d1_19) rfl (teq hc2).2 ?_
          show Steps p.tables e below (s₁.setTop (mkF m 22 #[.val (.int p1)] [])) _
          refine st6 _ ?_
          show Steps p.tables e below (T6.setTop (mkF m 25 #[.val (.int p1)] [(.ref (ad 2))])) _
          exact retOut X6 hx Bd.returns rfl (Or.inr (Or.inr (Or.inr (Or.inr ⟨rfl, rfl, rfl⟩)))) (hb hby d1_25) hr
        · show Q1 Z p1 ad i h0 n0 _ T6.heap _
          rw [e6]
          have hj : i = 2 := (own_lit (by omega) (by decide)).1.mp (hk.symm.trans hc2)
          subst hj
          exact ⟨rfl, N0, rfl⟩
      · have pre7 : ∀ tgt, Steps p.tables e below (s₁.setTop (mkF m 28 #[.val (.int p1)] [(.int (3 : Int32)), (.int p1)])) tgt → Steps p.tables e below (s₁.setTop (entryFrame m #[(.int p1)] 1)) tgt := fun tgt kt => pre5 _ (by
          show Steps p.tables e below (s₁.setTop (mkF m 19 #[.val (.int p1)] [(.int (2 : Int32)), (.int p1)])) _
          refine XS.icmpYes X0.here hx rfl (pc0 := 19) (pc' := 26) rfl (hb hby d1_19) rfl (feq hc2).2 (by decide) (by decide) ?_
          show Steps p.tables e below (s₁.setTop (mkF m 26 #[.val (.int p1)] [])) _
          refine XS.iloadN X0.here hx rfl (hb hby d1_26) rfl ?_
          show Steps p.tables e below (s₁.setTop (mkF m 27 #[.val (.int p1)] [(.int p1)])) _
          refine XS.iconst X0.here hx rfl (hb hby d1_27) ?_
          exact kt)
        by_cases hc3 : p1 = (3 : Int32)
        · obtain ⟨T8, X8, e8, st8⟩ := getS2 X0 hx hZ hown (host := "") (Or.inl (hw _ (List.mem_of_getElem? (i := 25) rfl))) Via.refl e0 hS3 (g := (mkF m 31 #[.val (.int p1)] [])) rfl (hb hby d1_31)
          obtain ⟨fs, hr, hrun, hended, hW, hsame⟩ := X8.leave (v := some (.ref (ad 3))) (fun h => by rw [Bd.returns] at h; cases h)
          refine ⟨_, _, pre7 _ ?_, hrun, hended, _, _, rfl, ?_, ⟨_, rfl⟩, hW, hsame.mono (by decide) (by decide)⟩
          · show Steps p.tables e below (s₁.setTop (mkF m 28 #[.val (.int p1)] [(.int (3 : Int32)), (.int p1)])) _
            refine XS.icmpNo X0.here hx rfl (hb hby d1_28) rfl (teq hc3).2 ?_
            show Steps p.tables e below (s₁.setTop (mkF m 31 #[.val (.int p1)] [])) _
            refine st8 _ ?_
            show Steps p.tables e below (T8.setTop (mkF m 34 #[.val (.int p1)] [(.ref (ad 3))])) _
            exact retOut X8 hx Bd.returns rfl (Or.inr (Or.inr (Or.inr (Or.inr ⟨rfl, rfl, rfl⟩)))) (hb hby d1_34) hr
          · show Q1 Z p1 ad i h0 n0 _ T8.heap _
            rw [e8]
            have hj : i = 3 := (own_lit (by omega) (by decide)).1.mp (hk.symm.trans hc3)
            subst hj
            exact ⟨rfl, N0, rfl⟩
        · have pre9 : ∀ tgt, Steps p.tables e below (s₁.setTop (mkF m 37 #[.val (.int p1)] [(.int (4 : Int32)), (.int p1)])) tgt → Steps p.tables e below (s₁.setTop (entryFrame m #[(.int p1)] 1)) tgt := fun tgt kt => pre7 _ (by
            show Steps p.tables e below (s₁.setTop (mkF m 28 #[.val (.int p1)] [(.int (3 : Int32)), (.int p1)])) _
            refine XS.icmpYes X0.here hx rfl (pc0 := 28) (pc' := 35) rfl (hb hby d1_28) rfl (feq hc3).2 (by decide) (by decide) ?_
            show Steps p.tables e below (s₁.setTop (mkF m 35 #[.val (.int p1)] [])) _
            refine XS.iloadN X0.here hx rfl (hb hby d1_35) rfl ?_
            show Steps p.tables e below (s₁.setTop (mkF m 36 #[.val (.int p1)] [(.int p1)])) _
            refine XS.iconst X0.here hx rfl (hb hby d1_36) ?_
            exact kt)
          by_cases hc4 : p1 = (4 : Int32)
          · obtain ⟨T10, X10, e10, st10⟩ := getS2 X0 hx hZ hown (host := "") (Or.inl (hw _ (List.mem_of_getElem? (i := 60) rfl))) Via.refl e0 hS4 (g := (mkF m 40 #[.val (.int p1)] [])) rfl (hb hby d1_40)
            obtain ⟨fs, hr, hrun, hended, hW, hsame⟩ := X10.leave (v := some (.ref (ad 4))) (fun h => by rw [Bd.returns] at h; cases h)
            refine ⟨_, _, pre9 _ ?_, hrun, hended, _, _, rfl, ?_, ⟨_, rfl⟩, hW, hsame.mono (by decide) (by decide)⟩
            · show Steps p.tables e below (s₁.setTop (mkF m 37 #[.val (.int p1)] [(.int (4 : Int32)), (.int p1)])) _
              refine XS.icmpNo X0.here hx rfl (hb hby d1_37) rfl (teq hc4).2 ?_
              show Steps p.tables e below (s₁.setTop (mkF m 40 #[.val (.int p1)] [])) _
              refine st10 _ ?_
              show Steps p.tables e below (T10.setTop (mkF m 43 #[.val (.int p1)] [(.ref (ad 4))])) _
              exact retOut X10 hx Bd.returns rfl (Or.inr (Or.inr (Or.inr (Or.inr ⟨rfl, rfl, rfl⟩)))) (hb hby d1_43) hr
            · show Q1 Z p1 ad i h0 n0 _ T10.heap _
              rw [e10]
              have hj : i = 4 := (own_lit (by omega) (by decide)).1.mp (hk.symm.trans hc4)
              subst hj
              exact ⟨rfl, N0, rfl⟩
          · have pre11 : ∀ tgt, Steps p.tables e below (s₁.setTop (mkF m 46 #[.val (.int p1)] [(.int (5 : Int32)), (.int p1)])) tgt → Steps p.tables e below (s₁.setTop (entryFrame m #[(.int p1)] 1)) tgt := fun tgt kt => pre9 _ (by
              show Steps p.tables e below (s₁.setTop (mkF m 37 #[.val (.int p1)] [(.int (4 : Int32)), (.int p1)])) _
              refine XS.icmpYes X0.here hx rfl (pc0 := 37) (pc' := 44) rfl (hb hby d1_37) rfl (feq hc4).2 (by decide) (by decide) ?_
              show Steps p.tables e below (s₁.setTop (mkF m 44 #[.val (.int p1)] [])) _
              refine XS.iloadN X0.here hx rfl (hb hby d1_44) rfl ?_
              show Steps p.tables e below (s₁.setTop (mkF m 45 #[.val (.int p1)] [(.int p1)])) _
              refine XS.iconst X0.here hx rfl (hb hby d1_45) ?_
              exact kt)
            by_cases hc5 : p1 = (5 : Int32)
            · obtain ⟨T12, X12, e12, st12⟩ := getS2 X0 hx hZ hown (host := "") (Or.inl (hw _ (List.mem_of_getElem? (i := 54) rfl))) Via.refl e0 hS5 (g := (mkF m 49 #[.val (.int p1)] [])) rfl (hb hby d1_49)
              obtain ⟨fs, hr, hrun, hended, hW, hsame⟩ := X12.leave (v := some (.ref (ad 5))) (fun h => by rw [Bd.returns] at h; cases h)
              refine ⟨_, _, pre11 _ ?_, hrun, hended, _, _, rfl, ?_, ⟨_, rfl⟩, hW, hsame.mono (by decide) (by decide)⟩
              · show Steps p.tables e below (s₁.setTop (mkF m 46 #[.val (.int p1)] [(.int (5 : Int32)), (.int p1)])) _
                refine XS.icmpNo X0.here hx rfl (hb hby d1_46) rfl (teq hc5).2 ?_
                show Steps p.tables e below (s₁.setTop (mkF m 49 #[.val (.int p1)] [])) _
                refine st12 _ ?_
                show Steps p.tables e below (T12.setTop (mkF m 52 #[.val (.int p1)] [(.ref (ad 5))])) _
                exact retOut X12 hx Bd.returns rfl (Or.inr (Or.inr (Or.inr (Or.inr ⟨rfl, rfl, rfl⟩)))) (hb hby d1_52) hr
              · show Q1 Z p1 ad i h0 n0 _ T12.heap _
                rw [e12]
                have hj : i = 5 := (own_lit (by omega) (by decide)).1.mp (hk.symm.trans hc5)
                subst hj
                exact ⟨rfl, N0, rfl⟩
            · have pre13 : ∀ tgt, Steps p.tables e below (s₁.setTop (mkF m 56 #[.val (.int p1)] [(.int (6 : Int32)), (.int p1)])) tgt → Steps p.tables e below (s₁.setTop (entryFrame m #[(.int p1)] 1)) tgt := fun tgt kt => pre11 _ (by
                show Steps p.tables e below (s₁.setTop (mkF m 46 #[.val (.int p1)] [(.int (5 : Int32)), (.int p1)])) _
                refine XS.icmpYes X0.here hx rfl (pc0 := 46) (pc' := 53) rfl (hb hby d1_46) rfl (feq hc5).2 (by decide) (by decide) ?_
                show Steps p.tables e below (s₁.setTop (mkF m 53 #[.val (.int p1)] [])) _
                refine XS.iloadN X0.here hx rfl (hb hby d1_53) rfl ?_
                show Steps p.tables e below (s₁.setTop (mkF m 54 #[.val (.int p1)] [(.int p1)])) _
                refine XS.bipush X0.here hx rfl (hb hby d1_54) ?_
                exact kt)
              by_cases hc6 : p1 = (6 : Int32)
              · obtain ⟨T14, X14, e14, st14⟩ := getS2 X0 hx hZ hown (host := "") (Or.inl (hw _ (List.mem_of_getElem? (i := 29) rfl))) Via.refl e0 hS6 (g := (mkF m 59 #[.val (.int p1)] [])) rfl (hb hby d1_59)
                obtain ⟨fs, hr, hrun, hended, hW, hsame⟩ := X14.leave (v := some (.ref (ad 6))) (fun h => by rw [Bd.returns] at h; cases h)
                refine ⟨_, _, pre13 _ ?_, hrun, hended, _, _, rfl, ?_, ⟨_, rfl⟩, hW, hsame.mono (by decide) (by decide)⟩
                · show Steps p.tables e below (s₁.setTop (mkF m 56 #[.val (.int p1)] [(.int (6 : Int32)), (.int p1)])) _
                  refine XS.icmpNo X0.here hx rfl (hb hby d1_56) rfl (teq hc6).2 ?_
                  show Steps p.tables e below (s₁.setTop (mkF m 59 #[.val (.int p1)] [])) _
                  refine st14 _ ?_
                  show Steps p.tables e below (T14.setTop (mkF m 62 #[.val (.int p1)] [(.ref (ad 6))])) _
                  exact retOut X14 hx Bd.returns rfl (Or.inr (Or.inr (Or.inr (Or.inr ⟨rfl, rfl, rfl⟩)))) (hb hby d1_62) hr
                · show Q1 Z p1 ad i h0 n0 _ T14.heap _
                  rw [e14]
                  have hj : i = 6 := (own_lit (by omega) (by decide)).1.mp (hk.symm.trans hc6)
                  subst hj
                  exact ⟨rfl, N0, rfl⟩
              · have pre15 : ∀ tgt, Steps p.tables e below (s₁.setTop (mkF m 66 #[.val (.int p1)] [(.int (7 : Int32)), (.int p1)])) tgt → Steps p.tables e below (s₁.setTop (entryFrame m #[(.int p1)] 1)) tgt := fun tgt kt => pre13 _ (by
                  show Steps p.tables e below (s₁.setTop (mkF m 56 #[.val (.int p1)] [(.int (6 : Int32)), (.int p1)])) _
                  refine XS.icmpYes X0.here hx rfl (pc0 := 56) (pc' := 63) rfl (hb hby d1_56) rfl (feq hc6).2 (by decide) (by decide) ?_
                  show Steps p.tables e below (s₁.setTop (mkF m 63 #[.val (.int p1)] [])) _
                  refine XS.iloadN X0.here hx rfl (hb hby d1_63) rfl ?_
                  show Steps p.tables e below (s₁.setTop (mkF m 64 #[.val (.int p1)] [(.int p1)])) _
                  refine XS.bipush X0.here hx rfl (hb hby d1_64) ?_
                  exact kt)
                by_cases hc7 : p1 = (7 : Int32)
                · obtain ⟨T16, X16, e16, st16⟩ := getS2 X0 hx hZ hown (host := "") (Or.inl (hw _ (List.mem_of_getElem? (i := 32) rfl))) Via.refl e0 hS7 (g := (mkF m 69 #[.val (.int p1)] [])) rfl (hb hby d1_69)
                  obtain ⟨fs, hr, hrun, hended, hW, hsame⟩ := X16.leave (v := some (.ref (ad 7))) (fun h => by rw [Bd.returns] at h; cases h)
                  refine ⟨_, _, pre15 _ ?_, hrun, hended, _, _, rfl, ?_, ⟨_, rfl⟩, hW, hsame.mono (by decide) (by decide)⟩
                  · show Steps p.tables e below (s₁.setTop (mkF m 66 #[.val (.int p1)] [(.int (7 : Int32)), (.int p1)])) _
                    refine XS.icmpNo X0.here hx rfl (hb hby d1_66) rfl (teq hc7).2 ?_
                    show Steps p.tables e below (s₁.setTop (mkF m 69 #[.val (.int p1)] [])) _
                    refine st16 _ ?_
                    show Steps p.tables e below (T16.setTop (mkF m 72 #[.val (.int p1)] [(.ref (ad 7))])) _
                    exact retOut X16 hx Bd.returns rfl (Or.inr (Or.inr (Or.inr (Or.inr ⟨rfl, rfl, rfl⟩)))) (hb hby d1_72) hr
                  · show Q1 Z p1 ad i h0 n0 _ T16.heap _
                    rw [e16]
                    have hj : i = 7 := (own_lit (by omega) (by decide)).1.mp (hk.symm.trans hc7)
                    subst hj
                    exact ⟨rfl, N0, rfl⟩
                · have pre17 : ∀ tgt, Steps p.tables e below (s₁.setTop (mkF m 76 #[.val (.int p1)] [(.int (8 : Int32)), (.int p1)])) tgt → Steps p.tables e below (s₁.setTop (entryFrame m #[(.int p1)] 1)) tgt := fun tgt kt => pre15 _ (by
                    show Steps p.tables e below (s₁.setTop (mkF m 66 #[.val (.int p1)] [(.int (7 : Int32)), (.int p1)])) _
                    refine XS.icmpYes X0.here hx rfl (pc0 := 66) (pc' := 73) rfl (hb hby d1_66) rfl (feq hc7).2 (by decide) (by decide) ?_
                    show Steps p.tables e below (s₁.setTop (mkF m 73 #[.val (.int p1)] [])) _
                    refine XS.iloadN X0.here hx rfl (hb hby d1_73) rfl ?_
                    show Steps p.tables e below (s₁.setTop (mkF m 74 #[.val (.int p1)] [(.int p1)])) _
                    refine XS.bipush X0.here hx rfl (hb hby d1_74) ?_
                    exact kt)
                  by_cases hc8 : p1 = (8 : Int32)
                  · obtain ⟨T18, X18, e18, st18⟩ := getS2 X0 hx hZ hown (host := "") (Or.inl (hw _ (List.mem_of_getElem? (i := 39) rfl))) Via.refl e0 hS8 (g := (mkF m 79 #[.val (.int p1)] [])) rfl (hb hby d1_79)
                    obtain ⟨fs, hr, hrun, hended, hW, hsame⟩ := X18.leave (v := some (.ref (ad 8))) (fun h => by rw [Bd.returns] at h; cases h)
                    refine ⟨_, _, pre17 _ ?_, hrun, hended, _, _, rfl, ?_, ⟨_, rfl⟩, hW, hsame.mono (by decide) (by decide)⟩
                    · show Steps p.tables e below (s₁.setTop (mkF m 76 #[.val (.int p1)] [(.int (8 : Int32)), (.int p1)])) _
                      refine XS.icmpNo X0.here hx rfl (hb hby d1_76) rfl (teq hc8).2 ?_
                      show Steps p.tables e below (s₁.setTop (mkF m 79 #[.val (.int p1)] [])) _
                      refine st18 _ ?_
                      show Steps p.tables e below (T18.setTop (mkF m 82 #[.val (.int p1)] [(.ref (ad 8))])) _
                      exact retOut X18 hx Bd.returns rfl (Or.inr (Or.inr (Or.inr (Or.inr ⟨rfl, rfl, rfl⟩)))) (hb hby d1_82) hr
                    · show Q1 Z p1 ad i h0 n0 _ T18.heap _
                      rw [e18]
                      have hj : i = 8 := (own_lit (by omega) (by decide)).1.mp (hk.symm.trans hc8)
                      subst hj
                      exact ⟨rfl, N0, rfl⟩
                  · have pre19 : ∀ tgt, Steps p.tables e below (s₁.setTop (mkF m 86 #[.val (.int p1)] [(.int (9 : Int32)), (.int p1)])) tgt → Steps p.tables e below (s₁.setTop (entryFrame m #[(.int p1)] 1)) tgt := fun tgt kt => pre17 _ (by
                      show Steps p.tables e below (s₁.setTop (mkF m 76 #[.val (.int p1)] [(.int (8 : Int32)), (.int p1)])) _
                      refine XS.icmpYes X0.here hx rfl (pc0 := 76) (pc' := 83) rfl (hb hby d1_76) rfl (feq hc8).2 (by decide) (by decide) ?_
                      show Steps p.tables e below (s₁.setTop (mkF m 83 #[.val (.int p1)] [])) _
                      refine XS.iloadN X0.here hx rfl (hb hby d1_83) rfl ?_
                      show Steps p.tables e below (s₁.setTop (mkF m 84 #[.val (.int p1)] [(.int p1)])) _
                      refine XS.bipush X0.here hx rfl (hb hby d1_84) ?_
                      exact kt)
                    by_cases hc9 : p1 = (9 : Int32)
                    · obtain ⟨T20, X20, e20, st20⟩ := getS2 X0 hx hZ hown (host := "") (Or.inl (hw _ (List.mem_of_getElem? (i := 57) rfl))) Via.refl e0 hS9 (g := (mkF m 89 #[.val (.int p1)] [])) rfl (hb hby d1_89)
                      obtain ⟨fs, hr, hrun, hended, hW, hsame⟩ := X20.leave (v := some (.ref (ad 9))) (fun h => by rw [Bd.returns] at h; cases h)
                      refine ⟨_, _, pre19 _ ?_, hrun, hended, _, _, rfl, ?_, ⟨_, rfl⟩, hW, hsame.mono (by decide) (by decide)⟩
                      · show Steps p.tables e below (s₁.setTop (mkF m 86 #[.val (.int p1)] [(.int (9 : Int32)), (.int p1)])) _
                        refine XS.icmpNo X0.here hx rfl (hb hby d1_86) rfl (teq hc9).2 ?_
                        show Steps p.tables e below (s₁.setTop (mkF m 89 #[.val (.int p1)] [])) _
                        refine st20 _ ?_
                        show Steps p.tables e below (T20.setTop (mkF m 92 #[.val (.int p1)] [(.ref (ad 9))])) _
                        exact retOut X20 hx Bd.returns rfl (Or.inr (Or.inr (Or.inr (Or.inr ⟨rfl, rfl, rfl⟩)))) (hb hby d1_92) hr
                      · show Q1 Z p1 ad i h0 n0 _ T20.heap _
                        rw [e20]
                        have hj : i = 9 := (own_lit (by omega) (by decide)).1.mp (hk.symm.trans hc9)
                        subst hj
                        exact ⟨rfl, N0, rfl⟩
                    · have pre21 : ∀ tgt, Steps p.tables e below (s₁.setTop (mkF m 96 #[.val (.int p1)] [(.int (10 : Int32)), (.int p1)])) tgt → Steps p.tables e below (s₁.setTop (entryFrame m #[(.int p1)] 1)) tgt := fun tgt kt => pre19 _ (by
                        show Steps p.tables e below (s₁.setTop (mkF m 86 #[.val (.int p1)] [(.int (9 : Int32)), (.int p1)])) _
                        refine XS.icmpYes X0.here hx rfl (pc0 := 86) (pc' := 93) rfl (hb hby d1_86) rfl (feq hc9).2 (by decide) (by decide) ?_
                        show Steps p.tables e below (s₁.setTop (mkF m 93 #[.val (.int p1)] [])) _
                        refine XS.iloadN X0.here hx rfl (hb hby d1_93) rfl ?_
                        show Steps p.tables e below (s₁.setTop (mkF m 94 #[.val (.int p1)] [(.int p1)])) _
                        refine XS.bipush X0.here hx rfl (hb hby d1_94) ?_
                        exact kt)
                      by_cases hc10 : p1 = (10 : Int32)
                      · obtain ⟨T22, X22, e22, st22⟩ := getS2 X0 hx hZ hown (host := "") (Or.inl (hw _ (List.mem_of_getElem? (i := 27) rfl))) Via.refl e0 hS10 (g := (mkF m 99 #[.val (.int p1)] [])) rfl (hb hby d1_99)
                        obtain ⟨fs, hr, hrun, hended, hW, hsame⟩ := X22.leave (v := some (.ref (ad 10))) (fun h => by rw [Bd.returns] at h; cases h)
                        refine ⟨_, _, pre21 _ ?_, hrun, hended, _, _, rfl, ?_, ⟨_, rfl⟩, hW, hsame.mono (by decide) (by decide)⟩
                        · show Steps p.tables e below (s₁.setTop (mkF m 96 #[.val (.int p1)] [(.int (10 : Int32)), (.int p1)])) _
                          refine XS.icmpNo X0.here hx rfl (hb hby d1_96) rfl (teq hc10).2 ?_
                          show Steps p.tables e below (s₁.setTop (mkF m 99 #[.val (.int p1)] [])) _
                          refine st22 _ ?_
                          show Steps p.tables e below (T22.setTop (mkF m 102 #[.val (.int p1)] [(.ref (ad 10))])) _
                          exact retOut X22 hx Bd.returns rfl (Or.inr (Or.inr (Or.inr (Or.inr ⟨rfl, rfl, rfl⟩)))) (hb hby d1_102) hr
                        · show Q1 Z p1 ad i h0 n0 _ T22.heap _
                          rw [e22]
                          have hj : i = 10 := (own_lit (by omega) (by decide)).1.mp (hk.symm.trans hc10)
                          subst hj
                          exact ⟨rfl, N0, rfl⟩
                      · have pre23 : ∀ tgt, Steps p.tables e below (s₁.setTop (mkF m 106 #[.val (.int p1)] [(.int (11 : Int32)), (.int p1)])) tgt → Steps p.tables e below (s₁.setTop (entryFrame m #[(.int p1)] 1)) tgt := fun tgt kt => pre21 _ (by
                          show Steps p.tables e below (s₁.setTop (mkF m 96 #[.val (.int p1)] [(.int (10 : Int32)), (.int p1)])) _
                          refine XS.icmpYes X0.here hx rfl (pc0 := 96) (pc' := 103) rfl (hb hby d1_96) rfl (feq hc10).2 (by decide) (by decide) ?_
                          show Steps p.tables e below (s₁.setTop (mkF m 103 #[.val (.int p1)] [])) _
                          refine XS.iloadN X0.here hx rfl (hb hby d1_103) rfl ?_
                          show Steps p.tables e below (s₁.setTop (mkF m 104 #[.val (.int p1)] [(.int p1)])) _
                          refine XS.bipush X0.here hx rfl (hb hby d1_104) ?_
                          exact kt)
                        by_cases hc11 : p1 = (11 : Int32)
                        · obtain ⟨T24, X24, e24, st24⟩ := getS2 X0 hx hZ hown (host := "") (Or.inl (hw _ (List.mem_of_getElem? (i := 35) rfl))) Via.refl e0 hS11 (g := (mkF m 109 #[.val (.int p1)] [])) rfl (hb hby d1_109)
                          obtain ⟨fs, hr, hrun, hended, hW, hsame⟩ := X24.leave (v := some (.ref (ad 11))) (fun h => by rw [Bd.returns] at h; cases h)
                          refine ⟨_, _, pre23 _ ?_, hrun, hended, _, _, rfl, ?_, ⟨_, rfl⟩, hW, hsame.mono (by decide) (by decide)⟩
                          · show Steps p.tables e below (s₁.setTop (mkF m 106 #[.val (.int p1)] [(.int (11 : Int32)), (.int p1)])) _
                            refine XS.icmpNo X0.here hx rfl (hb hby d1_106) rfl (teq hc11).2 ?_
                            show Steps p.tables e below (s₁.setTop (mkF m 109 #[.val (.int p1)] [])) _
                            refine st24 _ ?_
                            show Steps p.tables e below (T24.setTop (mkF m 112 #[.val (.int p1)] [(.ref (ad 11))])) _
                            exact retOut X24 hx Bd.returns rfl (Or.inr (Or.inr (Or.inr (Or.inr ⟨rfl, rfl, rfl⟩)))) (hb hby d1_112) hr
                          · show Q1 Z p1 ad i h0 n0 _ T24.heap _
                            rw [e24]
                            have hj : i = 11 := (own_lit (by omega) (by decide)).1.mp (hk.symm.trans hc11)
                            subst hj
                            exact ⟨rfl, N0, rfl⟩
                        · have pre25 : ∀ tgt, Steps p.tables e below (s₁.setTop (mkF m 116 #[.val (.int p1)] [(.int (12 : Int32)), (.int p1)])) tgt → Steps p.tables e below (s₁.setTop (entryFrame m #[(.int p1)] 1)) tgt := fun tgt kt => pre23 _ (by
                            show Steps p.tables e below (s₁.setTop (mkF m 106 #[.val (.int p1)] [(.int (11 : Int32)), (.int p1)])) _
                            refine XS.icmpYes X0.here hx rfl (pc0 := 106) (pc' := 113) rfl (hb hby d1_106) rfl (feq hc11).2 (by decide) (by decide) ?_
                            show Steps p.tables e below (s₁.setTop (mkF m 113 #[.val (.int p1)] [])) _
                            refine XS.iloadN X0.here hx rfl (hb hby d1_113) rfl ?_
                            show Steps p.tables e below (s₁.setTop (mkF m 114 #[.val (.int p1)] [(.int p1)])) _
                            refine XS.bipush X0.here hx rfl (hb hby d1_114) ?_
                            exact kt)
                          by_cases hc12 : p1 = (12 : Int32)
                          · obtain ⟨T26, X26, e26, st26⟩ := getS2 X0 hx hZ hown (host := "") (Or.inl (hw _ (List.mem_of_getElem? (i := 48) rfl))) Via.refl e0 hS12 (g := (mkF m 119 #[.val (.int p1)] [])) rfl (hb hby d1_119)
                            obtain ⟨fs, hr, hrun, hended, hW, hsame⟩ := X26.leave (v := some (.ref (ad 12))) (fun h => by rw [Bd.returns] at h; cases h)
                            refine ⟨_, _, pre25 _ ?_, hrun, hended, _, _, rfl, ?_, ⟨_, rfl⟩, hW, hsame.mono (by decide) (by decide)⟩
                            · show Steps p.tables e below (s₁.setTop (mkF m 116 #[.val (.int p1)] [(.int (12 : Int32)), (.int p1)])) _
                              refine XS.icmpNo X0.here hx rfl (hb hby d1_116) rfl (teq hc12).2 ?_
                              show Steps p.tables e below (s₁.setTop (mkF m 119 #[.val (.int p1)] [])) _
                              refine st26 _ ?_
                              show Steps p.tables e below (T26.setTop (mkF m 122 #[.val (.int p1)] [(.ref (ad 12))])) _
                              exact retOut X26 hx Bd.returns rfl (Or.inr (Or.inr (Or.inr (Or.inr ⟨rfl, rfl, rfl⟩)))) (hb hby d1_122) hr
                            · show Q1 Z p1 ad i h0 n0 _ T26.heap _
                              rw [e26]
                              have hj : i = 12 := (own_lit (by omega) (by decide)).1.mp (hk.symm.trans hc12)
                              subst hj
                              exact ⟨rfl, N0, rfl⟩
                          · have pre27 : ∀ tgt, Steps p.tables e below (s₁.setTop (mkF m 126 #[.val (.int p1)] [(.int (13 : Int32)), (.int p1)])) tgt → Steps p.tables e below (s₁.setTop (entryFrame m #[(.int p1)] 1)) tgt := fun tgt kt => pre25 _ (by
                              show Steps p.tables e below (s₁.setTop (mkF m 116 #[.val (.int p1)] [(.int (12 : Int32)), (.int p1)])) _
                              refine XS.icmpYes X0.here hx rfl (pc0 := 116) (pc' := 123) rfl (hb hby d1_116) rfl (feq hc12).2 (by decide) (by decide) ?_
                              show Steps p.tables e below (s₁.setTop (mkF m 123 #[.val (.int p1)] [])) _
                              refine XS.iloadN X0.here hx rfl (hb hby d1_123) rfl ?_
                              show Steps p.tables e below (s₁.setTop (mkF m 124 #[.val (.int p1)] [(.int p1)])) _
                              refine XS.bipush X0.here hx rfl (hb hby d1_124) ?_
                              exact kt)
                            by_cases hc13 : p1 = (13 : Int32)
                            · obtain ⟨T28, X28, e28, st28⟩ := getS2 X0 hx hZ hown (host := "") (Or.inl (hw _ (List.mem_of_getElem? (i := 61) rfl))) Via.refl e0 hS13 (g := (mkF m 129 #[.val (.int p1)] [])) rfl (hb hby d1_129)
                              obtain ⟨fs, hr, hrun, hended, hW, hsame⟩ := X28.leave (v := some (.ref (ad 13))) (fun h => by rw [Bd.returns] at h; cases h)
                              refine ⟨_, _, pre27 _ ?_, hrun, hended, _, _, rfl, ?_, ⟨_, rfl⟩, hW, hsame.mono (by decide) (by decide)⟩
                              · show Steps p.tables e below (s₁.setTop (mkF m 126 #[.val (.int p1)] [(.int (13 : Int32)), (.int p1)])) _
                                refine XS.icmpNo X0.here hx rfl (hb hby d1_126) rfl (teq hc13).2 ?_
                                show Steps p.tables e below (s₁.setTop (mkF m 129 #[.val (.int p1)] [])) _
                                refine st28 _ ?_
                                show Steps p.tables e below (T28.setTop (mkF m 132 #[.val (.int p1)] [(.ref (ad 13))])) _
                                exact retOut X28 hx Bd.returns rfl (Or.inr (Or.inr (Or.inr (Or.inr ⟨rfl, rfl, rfl⟩)))) (hb hby d1_132) hr
                              · show Q1 Z p1 ad i h0 n0 _ T28.heap _
                                rw [e28]
                                have hj : i = 13 := (own_lit (by omega) (by decide)).1.mp (hk.symm.trans hc13)
                                subst hj
                                exact ⟨rfl, N0, rfl⟩
                            · have pre29 : ∀ tgt, Steps p.tables e below (s₁.setTop (mkF m 136 #[.val (.int p1)] [(.int (14 : Int32)), (.int p1)])) tgt → Steps p.tables e below (s₁.setTop (entryFrame m #[(.int p1)] 1)) tgt := fun tgt kt => pre27 _ (by
                                show Steps p.tables e below (s₁.setTop (mkF m 126 #[.val (.int p1)] [(.int (13 : Int32)), (.int p1)])) _
                                refine XS.icmpYes X0.here hx rfl (pc0 := 126) (pc' := 133) rfl (hb hby d1_126) rfl (feq hc13).2 (by decide) (by decide) ?_
                                show Steps p.tables e below (s₁.setTop (mkF m 133 #[.val (.int p1)] [])) _
                                refine XS.iloadN X0.here hx rfl (hb hby d1_133) rfl ?_
                                show Steps p.tables e below (s₁.setTop (mkF m 134 #[.val (.int p1)] [(.int p1)])) _
                                refine XS.bipush X0.here hx rfl (hb hby d1_134) ?_
                                exact kt)
                              by_cases hc14 : p1 = (14 : Int32)
                              · obtain ⟨T30, X30, e30, st30⟩ := getS2 X0 hx hZ hown (host := "") (Or.inl (hw _ (List.mem_of_getElem? (i := 58) rfl))) Via.refl e0 hS14 (g := (mkF m 139 #[.val (.int p1)] [])) rfl (hb hby d1_139)
                                obtain ⟨fs, hr, hrun, hended, hW, hsame⟩ := X30.leave (v := some (.ref (ad 14))) (fun h => by rw [Bd.returns] at h; cases h)
                                refine ⟨_, _, pre29 _ ?_, hrun, hended, _, _, rfl, ?_, ⟨_, rfl⟩, hW, hsame.mono (by decide) (by decide)⟩
                                · show Steps p.tables e below (s₁.setTop (mkF m 136 #[.val (.int p1)] [(.int (14 : Int32)), (.int p1)])) _
                                  refine XS.icmpNo X0.here hx rfl (hb hby d1_136) rfl (teq hc14).2 ?_
                                  show Steps p.tables e below (s₁.setTop (mkF m 139 #[.val (.int p1)] [])) _
                                  refine st30 _ ?_
                                  show Steps p.tables e below (T30.setTop (mkF m 142 #[.val (.int p1)] [(.ref (ad 14))])) _
                                  exact retOut X30 hx Bd.returns rfl (Or.inr (Or.inr (Or.inr (Or.inr ⟨rfl, rfl, rfl⟩)))) (hb hby d1_142) hr
                                · show Q1 Z p1 ad i h0 n0 _ T30.heap _
                                  rw [e30]
                                  have hj : i = 14 := (own_lit (by omega) (by decide)).1.mp (hk.symm.trans hc14)
                                  subst hj
                                  exact ⟨rfl, N0, rfl⟩
                              · have pre31 : ∀ tgt, Steps p.tables e below (s₁.setTop (mkF m 146 #[.val (.int p1)] [(.int (15 : Int32)), (.int p1)])) tgt → Steps p.tables e below (s₁.setTop (entryFrame m #[(.int p1)] 1)) tgt := fun tgt kt => pre29 _ (by
                                  show Steps p.tables e below (s₁.setTop (mkF m 136 #[.val (.int p1)] [(.int (14 : Int32)), (.int p1)])) _
                                  refine XS.icmpYes X0.here hx rfl (pc0 := 136) (pc' := 143) rfl (hb hby d1_136) rfl (feq hc14).2 (by decide) (by decide) ?_
                                  show Steps p.tables e below (s₁.setTop (mkF m 143 #[.val (.int p1)] [])) _
                                  refine XS.iloadN X0.here hx rfl (hb hby d1_143) rfl ?_
                                  show Steps p.tables e below (s₁.setTop (mkF m 144 #[.val (.int p1)] [(.int p1)])) _
                                  refine XS.bipush X0.here hx rfl (hb hby d1_144) ?_
                                  exact kt)
                                by_cases hc15 : p1 = (15 : Int32)
                                · obtain ⟨T32, X32, e32, st32⟩ := getS2 X0 hx hZ hown (host := "") (Or.inl (hw _ (List.mem_of_getElem? (i := 44) rfl))) Via.refl e0 hS15 (g := (mkF m 149 #[.val (.int p1)] [])) rfl (hb hby d1_149)
                                  obtain ⟨fs, hr, hrun, hended, hW, hsame⟩ := X32.leave (v := some (.ref (ad 15))) (fun h => by rw [Bd.returns] at h; cases h)
                                  refine ⟨_, _, pre31 _ ?_, hrun, hended, _, _, rfl, ?_, ⟨_, rfl⟩, hW, hsame.mono (by decide) (by decide)⟩
                                  · show Steps p.tables e below (s₁.setTop (mkF m 146 #[.val (.int p1)] [(.int (15 : Int32)), (.int p1)])) _
                                    refine XS.icmpNo X0.here hx rfl (hb hby d1_146) rfl (teq hc15).2 ?_
                                    show Steps p.tables e below (s₁.setTop (mkF m 149 #[.val (.int p1)] [])) _
                                    refine st32 _ ?_
                                    show Steps p.tables e below (T32.setTop (mkF m 152 #[.val (.int p1)] [(.ref (ad 15))])) _
                                    exact retOut X32 hx Bd.returns rfl (Or.inr (Or.inr (Or.inr (Or.inr ⟨rfl, rfl, rfl⟩)))) (hb hby d1_152) hr
                                  · show Q1 Z p1 ad i h0 n0 _ T32.heap _
                                    rw [e32]
                                    have hj : i = 15 := (own_lit (by omega) (by decide)).1.mp (hk.symm.trans hc15)
                                    subst hj
                                    exact ⟨rfl, N0, rfl⟩
                                · have pre33 : ∀ tgt, Steps p.tables e below (s₁.setTop (mkF m 156 #[.val (.int p1)] [(.int (16 : Int32)), (.int p1)])) tgt → Steps p.tables e below (s₁.setTop (entryFrame m #[(.int p1)] 1)) tgt := fun tgt kt => pre31 _ (by
                                    show Steps p.tables e below (s₁.setTop (mkF m 146 #[.val (.int p1)] [(.int (15 : Int32)), (.int p1)])) _
                                    refine XS.icmpYes X0.here hx rfl (pc0 := 146) (pc' := 153) rfl (hb hby d1_146) rfl (feq hc15).2 (by decide) (by decide) ?_
                                    show Steps p.tables e below (s₁.setTop (mkF m 153 #[.val (.int p1)] [])) _
                                    refine XS.iloadN X0.here hx rfl (hb hby d1_153) rfl ?_
                                    show Steps p.tables e below (s₁.setTop (mkF m 154 #[.val (.int p1)] [(.int p1)])) _
                                    refine XS.bipush X0.here hx rfl (hb hby d1_154) ?_
                                    exact kt)
                                  by_cases hc16 : p1 = (16 : Int32)
                                  · obtain ⟨T34, X34, e34, st34⟩ := getS2 X0 hx hZ hown (host := "") (Or.inl (hw _ (List.mem_of_getElem? (i := 46) rfl))) Via.refl e0 hS16 (g := (mkF m 159 #[.val (.int p1)] [])) rfl (hb hby d1_159)
                                    obtain ⟨fs, hr, hrun, hended, hW, hsame⟩ := X34.leave (v := some (.ref (ad 16))) (fun h => by rw [Bd.returns] at h; cases h)
                                    refine ⟨_, _, pre33 _ ?_, hrun, hended, _, _, rfl, ?_, ⟨_, rfl⟩, hW, hsame.mono (by decide) (by decide)⟩
                                    · show Steps p.tables e below (s₁.setTop (mkF m 156 #[.val (.int p1)] [(.int (16 : Int32)), (.int p1)])) _
                                      refine XS.icmpNo X0.here hx rfl (hb hby d1_156) rfl (teq hc16).2 ?_
                                      show Steps p.tables e below (s₁.setTop (mkF m 159 #[.val (.int p1)] [])) _
                                      refine st34 _ ?_
                                      show Steps p.tables e below (T34.setTop (mkF m 162 #[.val (.int p1)] [(.ref (ad 16))])) _
                                      exact retOut X34 hx Bd.returns rfl (Or.inr (Or.inr (Or.inr (Or.inr ⟨rfl, rfl, rfl⟩)))) (hb hby d1_162) hr
                                    · show Q1 Z p1 ad i h0 n0 _ T34.heap _
                                      rw [e34]
                                      have hj : i = 16 := (own_lit (by omega) (by decide)).1.mp (hk.symm.trans hc16)
                                      subst hj
                                      exact ⟨rfl, N0, rfl⟩
                                  · have pre35 : ∀ tgt, Steps p.tables e below (s₁.setTop (mkF m 166 #[.val (.int p1)] [(.int (17 : Int32)), (.int p1)])) tgt → Steps p.tables e below (s₁.setTop (entryFrame m #[(.int p1)] 1)) tgt := fun tgt kt => pre33 _ (by
                                      show Steps p.tables e below (s₁.setTop (mkF m 156 #[.val (.int p1)] [(.int (16 : Int32)), (.int p1)])) _
                                      refine XS.icmpYes X0.here hx rfl (pc0 := 156) (pc' := 163) rfl (hb hby d1_156) rfl (feq hc16).2 (by decide) (by decide) ?_
                                      show Steps p.tables e below (s₁.setTop (mkF m 163 #[.val (.int p1)] [])) _
                                      refine XS.iloadN X0.here hx rfl (hb hby d1_163) rfl ?_
                                      show Steps p.tables e below (s₁.setTop (mkF m 164 #[.val (.int p1)] [(.int p1)])) _
                                      refine XS.bipush X0.here hx rfl (hb hby d1_164) ?_
                                      exact kt)
                                    by_cases hc17 : p1 = (17 : Int32)
                                    · obtain ⟨T36, X36, e36, st36⟩ := getS2 X0 hx hZ hown (host := "") (Or.inl (hw _ (List.mem_of_getElem? (i := 52) rfl))) Via.refl e0 hS17 (g := (mkF m 169 #[.val (.int p1)] [])) rfl (hb hby d1_169)
                                      obtain ⟨fs, hr, hrun, hended, hW, hsame⟩ := X36.leave (v := some (.ref (ad 17))) (fun h => by rw [Bd.returns] at h; cases h)
                                      refine ⟨_, _, pre35 _ ?_, hrun, hended, _, _, rfl, ?_, ⟨_, rfl⟩, hW, hsame.mono (by decide) (by decide)⟩
                                      · show Steps p.tables e below (s₁.setTop (mkF m 166 #[.val (.int p1)] [(.int (17 : Int32)), (.int p1)])) _
                                        refine XS.icmpNo X0.here hx rfl (hb hby d1_166) rfl (teq hc17).2 ?_
                                        show Steps p.tables e below (s₁.setTop (mkF m 169 #[.val (.int p1)] [])) _
                                        refine st36 _ ?_
                                        show Steps p.tables e below (T36.setTop (mkF m 172 #[.val (.int p1)] [(.ref (ad 17))])) _
                                        exact retOut X36 hx Bd.returns rfl (Or.inr (Or.inr (Or.inr (Or.inr ⟨rfl, rfl, rfl⟩)))) (hb hby d1_172) hr
                                      · show Q1 Z p1 ad i h0 n0 _ T36.heap _
                                        rw [e36]
                                        have hj : i = 17 := (own_lit (by omega) (by decide)).1.mp (hk.symm.trans hc17)
                                        subst hj
                                        exact ⟨rfl, N0, rfl⟩
                                    · have pre37 : ∀ tgt, Steps p.tables e below (s₁.setTop (mkF m 176 #[.val (.int p1)] [(.int (18 : Int32)), (.int p1)])) tgt → Steps p.tables e below (s₁.setTop (entryFrame m #[(.int p1)] 1)) tgt := fun tgt kt => pre35 _ (by
                                        show Steps p.tables e below (s₁.setTop (mkF m 166 #[.val (.int p1)] [(.int (17 : Int32)), (.int p1)])) _
                                        refine XS.icmpYes X0.here hx rfl (pc0 := 166) (pc' := 173) rfl (hb hby d1_166) rfl (feq hc17).2 (by decide) (by decide) ?_
                                        show Steps p.tables e below (s₁.setTop (mkF m 173 #[.val (.int p1)] [])) _
                                        refine XS.iloadN X0.here hx rfl (hb hby d1_173) rfl ?_
                                        show Steps p.tables e below (s₁.setTop (mkF m 174 #[.val (.int p1)] [(.int p1)])) _
                                        refine XS.bipush X0.here hx rfl (hb hby d1_174) ?_
                                        exact kt)
                                      by_cases hc18 : p1 = (18 : Int32)
                                      · obtain ⟨T38, X38, e38, st38⟩ := getS2 X0 hx hZ hown (host := "") (Or.inl (hw _ (List.mem_of_getElem? (i := 63) rfl))) Via.refl e0 hS18 (g := (mkF m 179 #[.val (.int p1)] [])) rfl (hb hby d1_179)
                                        obtain ⟨fs, hr, hrun, hended, hW, hsame⟩ := X38.leave (v := some (.ref (ad 18))) (fun h => by rw [Bd.returns] at h; cases h)
                                        refine ⟨_, _, pre37 _ ?_, hrun, hended, _, _, rfl, ?_, ⟨_, rfl⟩, hW, hsame.mono (by decide) (by decide)⟩
                                        · show Steps p.tables e below (s₁.setTop (mkF m 176 #[.val (.int p1)] [(.int (18 : Int32)), (.int p1)])) _
                                          refine XS.icmpNo X0.here hx rfl (hb hby d1_176) rfl (teq hc18).2 ?_
                                          show Steps p.tables e below (s₁.setTop (mkF m 179 #[.val (.int p1)] [])) _
                                          refine st38 _ ?_
                                          show Steps p.tables e below (T38.setTop (mkF m 182 #[.val (.int p1)] [(.ref (ad 18))])) _
                                          exact retOut X38 hx Bd.returns rfl (Or.inr (Or.inr (Or.inr (Or.inr ⟨rfl, rfl, rfl⟩)))) (hb hby d1_182) hr
                                        · show Q1 Z p1 ad i h0 n0 _ T38.heap _
                                          rw [e38]
                                          have hj : i = 18 := (own_lit (by omega) (by decide)).1.mp (hk.symm.trans hc18)
                                          subst hj
                                          exact ⟨rfl, N0, rfl⟩
                                      · have pre39 : ∀ tgt, Steps p.tables e below (s₁.setTop (mkF m 186 #[.val (.int p1)] [(.int (19 : Int32)), (.int p1)])) tgt → Steps p.tables e below (s₁.setTop (entryFrame m #[(.int p1)] 1)) tgt := fun tgt kt => pre37 _ (by
                                          show Steps p.tables e below (s₁.setTop (mkF m 176 #[.val (.int p1)] [(.int (18 : Int32)), (.int p1)])) _
                                          refine XS.icmpYes X0.here hx rfl (pc0 := 176) (pc' := 183) rfl (hb hby d1_176) rfl (feq hc18).2 (by decide) (by decide) ?_
                                          show Steps p.tables e below (s₁.setTop (mkF m 183 #[.val (.int p1)] [])) _
                                          refine XS.iloadN X0.here hx rfl (hb hby d1_183) rfl ?_
                                          show Steps p.tables e below (s₁.setTop (mkF m 184 #[.val (.int p1)] [(.int p1)])) _
                                          refine XS.bipush X0.here hx rfl (hb hby d1_184) ?_
                                          exact kt)
                                        by_cases hc19 : p1 = (19 : Int32)
                                        · obtain ⟨T40, X40, e40, st40⟩ := getS2 X0 hx hZ hown (host := "") (Or.inl (hw _ (List.mem_of_getElem? (i := 42) rfl))) Via.refl e0 hS19 (g := (mkF m 189 #[.val (.int p1)] [])) rfl (hb hby d1_189)
                                          obtain ⟨fs, hr, hrun, hended, hW, hsame⟩ := X40.leave (v := some (.ref (ad 19))) (fun h => by rw [Bd.returns] at h; cases h)
                                          refine ⟨_, _, pre39 _ ?_, hrun, hended, _, _, rfl, ?_, ⟨_, rfl⟩, hW, hsame.mono (by decide) (by decide)⟩
                                          · show Steps p.tables e below (s₁.setTop (mkF m 186 #[.val (.int p1)] [(.int (19 : Int32)), (.int p1)])) _
                                            refine XS.icmpNo X0.here hx rfl (hb hby d1_186) rfl (teq hc19).2 ?_
                                            show Steps p.tables e below (s₁.setTop (mkF m 189 #[.val (.int p1)] [])) _
                                            refine st40 _ ?_
                                            show Steps p.tables e below (T40.setTop (mkF m 192 #[.val (.int p1)] [(.ref (ad 19))])) _
                                            exact retOut X40 hx Bd.returns rfl (Or.inr (Or.inr (Or.inr (Or.inr ⟨rfl, rfl, rfl⟩)))) (hb hby d1_192) hr
                                          · show Q1 Z p1 ad i h0 n0 _ T40.heap _
                                            rw [e40]
                                            have hj : i = 19 := (own_lit (by omega) (by decide)).1.mp (hk.symm.trans hc19)
                                            subst hj
                                            exact ⟨rfl, N0, rfl⟩
                                        · have pre41 : ∀ tgt, Steps p.tables e below (s₁.setTop (mkF m 196 #[.val (.int p1)] [(.int (20 : Int32)), (.int p1)])) tgt → Steps p.tables e below (s₁.setTop (entryFrame m #[(.int p1)] 1)) tgt := fun tgt kt => pre39 _ (by
                                            show Steps p.tables e below (s₁.setTop (mkF m 186 #[.val (.int p1)] [(.int (19 : Int32)), (.int p1)])) _
                                            refine XS.icmpYes X0.here hx rfl (pc0 := 186) (pc' := 193) rfl (hb hby d1_186) rfl (feq hc19).2 (by decide) (by decide) ?_
                                            show Steps p.tables e below (s₁.setTop (mkF m 193 #[.val (.int p1)] [])) _
                                            refine XS.iloadN X0.here hx rfl (hb hby d1_193) rfl ?_
                                            show Steps p.tables e below (s₁.setTop (mkF m 194 #[.val (.int p1)] [(.int p1)])) _
                                            refine XS.bipush X0.here hx rfl (hb hby d1_194) ?_
                                            exact kt)
                                          by_cases hc20 : p1 = (20 : Int32)
                                          · obtain ⟨T42, X42, e42, st42⟩ := getS2 X0 hx hZ hown (host := "") (Or.inl (hw _ (List.mem_of_getElem? (i := 37) rfl))) Via.refl e0 hS20 (g := (mkF m 199 #[.val (.int p1)] [])) rfl (hb hby d1_199)
                                            obtain ⟨fs, hr, hrun, hended, hW, hsame⟩ := X42.leave (v := some (.ref (ad 20))) (fun h => by rw [Bd.returns] at h; cases h)
                                            refine ⟨_, _, pre41 _ ?_, hrun, hended, _, _, rfl, ?_, ⟨_, rfl⟩, hW, hsame.mono (by decide) (by decide)⟩
                                            · show Steps p.tables e below (s₁.setTop (mkF m 196 #[.val (.int p1)] [(.int (20 : Int32)), (.int p1)])) _
                                              refine XS.icmpNo X0.here hx rfl (hb hby d1_196) rfl (teq hc20).2 ?_
                                              show Steps p.tables e below (s₁.setTop (mkF m 199 #[.val (.int p1)] [])) _
                                              refine st42 _ ?_
                                              show Steps p.tables e below (T42.setTop (mkF m 202 #[.val (.int p1)] [(.ref (ad 20))])) _
                                              exact retOut X42 hx Bd.returns rfl (Or.inr (Or.inr (Or.inr (Or.inr ⟨rfl, rfl, rfl⟩)))) (hb hby d1_202) hr
                                            · show Q1 Z p1 ad i h0 n0 _ T42.heap _
                                              rw [e42]
                                              have hj : i = 20 := (own_lit (by omega) (by decide)).1.mp (hk.symm.trans hc20)
                                              subst hj
                                              exact ⟨rfl, N0, rfl⟩
                                          · have pre43 : ∀ tgt, Steps p.tables e below (s₁.setTop (mkF m 206 #[.val (.int p1)] [(.int (21 : Int32)), (.int p1)])) tgt → Steps p.tables e below (s₁.setTop (entryFrame m #[(.int p1)] 1)) tgt := fun tgt kt => pre41 _ (by
                                              show Steps p.tables e below (s₁.setTop (mkF m 196 #[.val (.int p1)] [(.int (20 : Int32)), (.int p1)])) _
                                              refine XS.icmpYes X0.here hx rfl (pc0 := 196) (pc' := 203) rfl (hb hby d1_196) rfl (feq hc20).2 (by decide) (by decide) ?_
                                              show Steps p.tables e below (s₁.setTop (mkF m 203 #[.val (.int p1)] [])) _
                                              refine XS.iloadN X0.here hx rfl (hb hby d1_203) rfl ?_
                                              show Steps p.tables e below (s₁.setTop (mkF m 204 #[.val (.int p1)] [(.int p1)])) _
                                              refine XS.bipush X0.here hx rfl (hb hby d1_204) ?_
                                              exact kt)
                                            by_cases hc21 : p1 = (21 : Int32)
                                            · obtain ⟨T44, X44, e44, st44⟩ := getS2 X0 hx hZ hown (host := "") (Or.inl (hw _ (List.mem_of_getElem? (i := 65) rfl))) Via.refl e0 hS21 (g := (mkF m 209 #[.val (.int p1)] [])) rfl (hb hby d1_209)
                                              obtain ⟨fs, hr, hrun, hended, hW, hsame⟩ := X44.leave (v := some (.ref (ad 21))) (fun h => by rw [Bd.returns] at h; cases h)
                                              refine ⟨_, _, pre43 _ ?_, hrun, hended, _, _, rfl, ?_, ⟨_, rfl⟩, hW, hsame.mono (by decide) (by decide)⟩
                                              · show Steps p.tables e below (s₁.setTop (mkF m 206 #[.val (.int p1)] [(.int (21 : Int32)), (.int p1)])) _
                                                refine XS.icmpNo X0.here hx rfl (hb hby d1_206) rfl (teq hc21).2 ?_
                                                show Steps p.tables e below (s₁.setTop (mkF m 209 #[.val (.int p1)] [])) _
                                                refine st44 _ ?_
                                                show Steps p.tables e below (T44.setTop (mkF m 212 #[.val (.int p1)] [(.ref (ad 21))])) _
                                                exact retOut X44 hx Bd.returns rfl (Or.inr (Or.inr (Or.inr (Or.inr ⟨rfl, rfl, rfl⟩)))) (hb hby d1_212) hr
                                              · show Q1 Z p1 ad i h0 n0 _ T44.heap _
                                                rw [e44]
                                                have hj : i = 21 := (own_lit (by omega) (by decide)).1.mp (hk.symm.trans hc21)
                                                subst hj
                                                exact ⟨rfl, N0, rfl⟩
                                            · have pre45 : ∀ tgt, Steps p.tables e below (s₁.setTop (mkF m 216 #[.val (.int p1)] [(.int (22 : Int32)), (.int p1)])) tgt → Steps p.tables e below (s₁.setTop (entryFrame m #[(.int p1)] 1)) tgt := fun tgt kt => pre43 _ (by
                                                show Steps p.tables e below (s₁.setTop (mkF m 206 #[.val (.int p1)] [(.int (21 : Int32)), (.int p1)])) _
                                                refine XS.icmpYes X0.here hx rfl (pc0 := 206) (pc' := 213) rfl (hb hby d1_206) rfl (feq hc21).2 (by decide) (by decide) ?_
                                                show Steps p.tables e below (s₁.setTop (mkF m 213 #[.val (.int p1)] [])) _
                                                refine XS.iloadN X0.here hx rfl (hb hby d1_213) rfl ?_
                                                show Steps p.tables e below (s₁.setTop (mkF m 214 #[.val (.int p1)] [(.int p1)])) _
                                                refine XS.bipush X0.here hx rfl (hb hby d1_214) ?_
                                                exact kt)
                                              by_cases hc22 : p1 = (22 : Int32)
                                              · obtain ⟨T46, X46, e46, st46⟩ := getS2 X0 hx hZ hown (host := "") (Or.inl (hw _ (List.mem_of_getElem? (i := 50) rfl))) Via.refl e0 hS22 (g := (mkF m 219 #[.val (.int p1)] [])) rfl (hb hby d1_219)
                                                obtain ⟨fs, hr, hrun, hended, hW, hsame⟩ := X46.leave (v := some (.ref (ad 22))) (fun h => by rw [Bd.returns] at h; cases h)
                                                refine ⟨_, _, pre45 _ ?_, hrun, hended, _, _, rfl, ?_, ⟨_, rfl⟩, hW, hsame.mono (by decide) (by decide)⟩
                                                · show Steps p.tables e below (s₁.setTop (mkF m 216 #[.val (.int p1)] [(.int (22 : Int32)), (.int p1)])) _
                                                  refine XS.icmpNo X0.here hx rfl (hb hby d1_216) rfl (teq hc22).2 ?_
                                                  show Steps p.tables e below (s₁.setTop (mkF m 219 #[.val (.int p1)] [])) _
                                                  refine st46 _ ?_
                                                  show Steps p.tables e below (T46.setTop (mkF m 222 #[.val (.int p1)] [(.ref (ad 22))])) _
                                                  exact retOut X46 hx Bd.returns rfl (Or.inr (Or.inr (Or.inr (Or.inr ⟨rfl, rfl, rfl⟩)))) (hb hby d1_222) hr
                                                · show Q1 Z p1 ad i h0 n0 _ T46.heap _
                                                  rw [e46]
                                                  have hj : i = 22 := (own_lit (by omega) (by decide)).1.mp (hk.symm.trans hc22)
                                                  subst hj
                                                  exact ⟨rfl, N0, rfl⟩
                                              · have pre47 : ∀ tgt, Steps p.tables e below (s₁.setTop (mkF m 226 #[.val (.int p1)] [(.int (23 : Int32)), (.int p1)])) tgt → Steps p.tables e below (s₁.setTop (entryFrame m #[(.int p1)] 1)) tgt := fun tgt kt => pre45 _ (by
                                                  show Steps p.tables e below (s₁.setTop (mkF m 216 #[.val (.int p1)] [(.int (22 : Int32)), (.int p1)])) _
                                                  refine XS.icmpYes X0.here hx rfl (pc0 := 216) (pc' := 223) rfl (hb hby d1_216) rfl (feq hc22).2 (by decide) (by decide) ?_
                                                  show Steps p.tables e below (s₁.setTop (mkF m 223 #[.val (.int p1)] [])) _
                                                  refine XS.iloadN X0.here hx rfl (hb hby d1_223) rfl ?_
                                                  show Steps p.tables e below (s₁.setTop (mkF m 224 #[.val (.int p1)] [(.int p1)])) _
                                                  refine XS.bipush X0.here hx rfl (hb hby d1_224) ?_
                                                  exact kt)
                                                by_cases hc23 : p1 = (23 : Int32)
                                                · obtain ⟨T48, X48, e48, st48⟩ := getS2 X0 hx hZ hown (host := "") (Or.inl (hw _ (List.mem_of_getElem? (i := 55) rfl))) Via.refl e0 hS23 (g := (mkF m 229 #[.val (.int p1)] [])) rfl (hb hby d1_229)
                                                  obtain ⟨fs, hr, hrun, hended, hW, hsame⟩ := X48.leave (v := some (.ref (ad 23))) (fun h => by rw [Bd.returns] at h; cases h)
                                                  refine ⟨_, _, pre47 _ ?_, hrun, hended, _, _, rfl, ?_, ⟨_, rfl⟩, hW, hsame.mono (by decide) (by decide)⟩
                                                  · show Steps p.tables e below (s₁.setTop (mkF m 226 #[.val (.int p1)] [(.int (23 : Int32)), (.int p1)])) _
                                                    refine XS.icmpNo X0.here hx rfl (hb hby d1_226) rfl (teq hc23).2 ?_
                                                    show Steps p.tables e below (s₁.setTop (mkF m 229 #[.val (.int p1)] [])) _
                                                    refine st48 _ ?_
                                                    show Steps p.tables e below (T48.setTop (mkF m 232 #[.val (.int p1)] [(.ref (ad 23))])) _
                                                    exact retOut X48 hx Bd.returns rfl (Or.inr (Or.inr (Or.inr (Or.inr ⟨rfl, rfl, rfl⟩)))) (hb hby d1_232) hr
                                                  · show Q1 Z p1 ad i h0 n0 _ T48.heap _
                                                    rw [e48]
                                                    have hj : i = 23 := (own_lit (by omega) (by decide)).1.mp (hk.symm.trans hc23)
                                                    subst hj
                                                    exact ⟨rfl, N0, rfl⟩
                                                · obtain ⟨T49, X49, e49, st49⟩ := getS2 X0 hx hZ hown (host := "") (Or.inl (hw _ (List.mem_of_getElem? (i := 30) rfl))) Via.refl e0 hS24 (g := (mkF m 233 #[.val (.int p1)] [])) rfl (hb hby d1_233)
                                                  obtain ⟨fs, hr, hrun, hended, hW, hsame⟩ := X49.leave (v := some (.ref (ad 24))) (fun h => by rw [Bd.returns] at h; cases h)
                                                  refine ⟨_, _, pre47 _ ?_, hrun, hended, _, _, rfl, ?_, ⟨_, rfl⟩, hW, hsame.mono (by decide) (by decide)⟩
                                                  · show Steps p.tables e below (s₁.setTop (mkF m 226 #[.val (.int p1)] [(.int (23 : Int32)), (.int p1)])) _
                                                    refine XS.icmpYes X0.here hx rfl (pc0 := 226) (pc' := 233) rfl (hb hby d1_226) rfl (feq hc23).2 (by decide) (by decide) ?_
                                                    show Steps p.tables e below (s₁.setTop (mkF m 233 #[.val (.int p1)] [])) _
                                                    refine st49 _ ?_
                                                    show Steps p.tables e below (T49.setTop (mkF m 236 #[.val (.int p1)] [(.ref (ad 24))])) _
                                                    exact retOut X49 hx Bd.returns rfl (Or.inr (Or.inr (Or.inr (Or.inr ⟨rfl, rfl, rfl⟩)))) (hb hby d1_236) hr
                                                  · show Q1 Z p1 ad i h0 n0 _ T49.heap _
                                                    rw [e49]
                                                    have q0 : i ≠ 0 := fun q => hc0 (by first | (rw [hk, q]; done) | (rw [hk, q]; rfl))
                                                    have q1 : i ≠ 1 := fun q => hc1 (by first | (rw [hk, q]; done) | (rw [hk, q]; rfl))
                                                    have q2 : i ≠ 2 := fun q => hc2 (by first | (rw [hk, q]; done) | (rw [hk, q]; rfl))
                                                    have q3 : i ≠ 3 := fun q => hc3 (by first | (rw [hk, q]; done) | (rw [hk, q]; rfl))
                                                    have q4 : i ≠ 4 := fun q => hc4 (by first | (rw [hk, q]; done) | (rw [hk, q]; rfl))
                                                    have q5 : i ≠ 5 := fun q => hc5 (by first | (rw [hk, q]; done) | (rw [hk, q]; rfl))
                                                    have q6 : i ≠ 6 := fun q => hc6 (by first | (rw [hk, q]; done) | (rw [hk, q]; rfl))
                                                    have q7 : i ≠ 7 := fun q => hc7 (by first | (rw [hk, q]; done) | (rw [hk, q]; rfl))
                                                    have q8 : i ≠ 8 := fun q => hc8 (by first | (rw [hk, q]; done) | (rw [hk, q]; rfl))
                                                    have q9 : i ≠ 9 := fun q => hc9 (by first | (rw [hk, q]; done) | (rw [hk, q]; rfl))
                                                    have q10 : i ≠ 10 := fun q => hc10 (by first | (rw [hk, q]; done) | (rw [hk, q]; rfl))
                                                    have q11 : i ≠ 11 := fun q => hc11 (by first | (rw [hk, q]; done) | (rw [hk, q]; rfl))
                                                    have q12 : i ≠ 12 := fun q => hc12 (by first | (rw [hk, q]; done) | (rw [hk, q]; rfl))
                                                    have q13 : i ≠ 13 := fun q => hc13 (by first | (rw [hk, q]; done) | (rw [hk, q]; rfl))
                                                    have q14 : i ≠ 14 := fun q => hc14 (by first | (rw [hk, q]; done) | (rw [hk, q]; rfl))
                                                    have q15 : i ≠ 15 := fun q => hc15 (by first | (rw [hk, q]; done) | (rw [hk, q]; rfl))
                                                    have q16 : i ≠ 16 := fun q => hc16 (by first | (rw [hk, q]; done) | (rw [hk, q]; rfl))
                                                    have q17 : i ≠ 17 := fun q => hc17 (by first | (rw [hk, q]; done) | (rw [hk, q]; rfl))
                                                    have q18 : i ≠ 18 := fun q => hc18 (by first | (rw [hk, q]; done) | (rw [hk, q]; rfl))
                                                    have q19 : i ≠ 19 := fun q => hc19 (by first | (rw [hk, q]; done) | (rw [hk, q]; rfl))
                                                    have q20 : i ≠ 20 := fun q => hc20 (by first | (rw [hk, q]; done) | (rw [hk, q]; rfl))
                                                    have q21 : i ≠ 21 := fun q => hc21 (by first | (rw [hk, q]; done) | (rw [hk, q]; rfl))
                                                    have q22 : i ≠ 22 := fun q => hc22 (by first | (rw [hk, q]; done) | (rw [hk, q]; rfl))
                                                    have q23 : i ≠ 23 := fun q => hc23 (by first | (rw [hk, q]; done) | (rw [hk, q]; rfl))
                                                    have hj : i = 24 := by omega
                                                    subst hj
                                                    exact ⟨rfl, N0, rfl⟩
theorem d2_0 : decode prog_39_method_13_code 0 = .ok (.aload_n 0, 1) := by decide +kernel
theorem d2_1 : decode prog_39_method_13_code 1 = .ok (.getstatic 16, 3) := by decide +kernel
theorem d2_4 : decode prog_39_method_13_code 4 = .ok (.if_acmp .eq 38, 3) := by decide +kernel
theorem d2_42 : decode prog_39_method_13_code 42 = .ok (.iconst 1, 1) := by decide +kernel
theorem d2_43 : decode prog_39_method_13_code 43 = .ok (.goto 4, 3) := by decide +kernel
theorem d2_47 : decode prog_39_method_13_code 47 = .ok (.ireturn, 1) := by decide +kernel
theorem d2_7 : decode prog_39_method_13_code 7 = .ok (.aload_n 0, 1) := by decide +kernel
theorem d2_8 : decode prog_39_method_13_code 8 = .ok (.getstatic 19, 3) := by decide +kernel
theorem d2_11 : decode prog_39_method_13_code 11 = .ok (.if_acmp .eq 31, 3) := by decide +kernel
theorem d2_14 : decode prog_39_method_13_code 14 = .ok (.aload_n 0, 1) := by decide +kernel
theorem d2_15 : decode prog_39_method_13_code 15 = .ok (.getstatic 22, 3) := by decide +kernel
theorem d2_18 : decode prog_39_method_13_code 18 = .ok (.if_acmp .eq 24, 3) := by decide +kernel
theorem d2_21 : decode prog_39_method_13_code 21 = .ok (.aload_n 0, 1) := by decide +kernel
theorem d2_22 : decode prog_39_method_13_code 22 = .ok (.getstatic 25, 3) := by decide +kernel
theorem d2_25 : decode prog_39_method_13_code 25 = .ok (.if_acmp .eq 17, 3) := by decide +kernel
theorem d2_28 : decode prog_39_method_13_code 28 = .ok (.aload_n 0, 1) := by decide +kernel
theorem d2_29 : decode prog_39_method_13_code 29 = .ok (.getstatic 28, 3) := by decide +kernel
theorem d2_32 : decode prog_39_method_13_code 32 = .ok (.if_acmp .eq 10, 3) := by decide +kernel
theorem d2_35 : decode prog_39_method_13_code 35 = .ok (.aload_n 0, 1) := by decide +kernel
theorem d2_36 : decode prog_39_method_13_code 36 = .ok (.getstatic 31, 3) := by decide +kernel
theorem d2_39 : decode prog_39_method_13_code 39 = .ok (.if_acmp .ne 7, 3) := by decide +kernel
theorem d2_46 : decode prog_39_method_13_code 46 = .ok (.iconst 0, 1) := by decide +kernel
theorem pn_1 : plainName "com/example/tracelint/tracelint/spec/Operator" = true := by first | (simp [plainName, overriddenIn]; done) | decide +kernel
theorem ef_rm2 (m : MethodId) (x0 : Addr) : entryFrame m #[(.ref x0)] 1 = mkF m 0 #[.val (.ref x0)] [] := by first | (simp [entryFrame, mkF, argsToLocals, Value.category]; done) | rfl
def Q2 (Z : State) (a1 : Addr) (ad : Nat → Addr) (i : Nat) (h0 : Heap) (n0 : Nat) (v : Option Value) (h : Heap) (L : List Loc) : Prop := v = some (.int (own_cp i)) ∧ Fr n0 L ∧ h = h0
set_option maxHeartbeats 40000000 in
theorem rm2 (l : Launch) (Z : State) (a0 : Array Value) (hw : ∀ d ∈ tables_1, d.before a0 Z = true) (ws : List Jvm.Cond) (a1 : Addr) (ad : Nat → Addr) (i : Nat) (h0 : Heap) (n0 : Nat) (Z0 : n0 ≤ h0.size) (hi : i < 25) (ha : a1 = ad i) (hD : ∀ i j, i < 25 → j < 25 → ad i = ad j → i = j) (hS : own_S Z h0 ad) :
    MetFree l (⟨"com/example/tracelint/tracelint/spec/Operator", "isComparison", "()Z"⟩ : MethodName) (head1 (Jvm.Cond.code (⟨"com/example/tracelint/tracelint/spec/Operator", "isComparison", "()Z"⟩ : MethodName) prog_39_method_13_code 1 (some .boolean) :: ws) ({ frames := 0, cells := 0, slots := 0, locals := 0 } : Room)) (fun a U => a = #[(.ref a1)] ∧ Z.Warmed39 U.vm ∧ U.heap = h0) (fun _ _ _ _ _ => True) (fun _ U o U' => ∃ v L, o = .returned v ∧ Q2 Z a1 ad i h0 n0 v U'.heap L ∧ FrameEnd U o U' L ({ frames := 0, cells := 0, slots := 0, locals := 0 } : Room).cells ({ frames := 0, cells := 0, slots := 0, locals := 0 } : Room).slots) := by
  refine MetFree.of_bodySF (plainFor_of_name pn_1) hisR ?_
  intro p e s m args below meth c s₁ Bd hml0 hP hK
  obtain ⟨rfl, hZ, hh⟩ := hP
  have hx := Bd.exec
  have hby := Bd.bytes
  have hml : c.maxLocals = 1 := hml0
  have hown : s.vm.findClass "com/example/tracelint/tracelint/spec/Operator" = some m.cls := findClass_of_methodNamed Bd.named
  have hnm := (name_of_methodNamed Bd.named Bd.method).1
  have X0 : Stand p l e ({ frames := 0, cells := 0, slots := 0, locals := 0 } : Room) s m #[(.ref a1)] below meth c s₁ [] 0 0 := Stand.of_body Bd
  have e0 : s₁.heap = h0 := by rw [← hh, Bd.state]; rfl
  have N0 := Fr.nil n0
  have pre0 : ∀ tgt, Steps p.tables e below (s₁.setTop (mkF m 0 #[.val (.ref a1)] [])) tgt → Steps p.tables e below (s₁.setTop (entryFrame m #[(.ref a1)] 1)) tgt := fun tgt k => castTop (ef_rm2 m a1) k
  obtain ⟨hS0, hS1, hS2, hS3, hS4, hS5, hS6, hS7, hS8, hS9, hS10, hS11, hS12, hS13, hS14, hS15, hS16, hS17, hS18, hS19, hS20, hS21, hS22, hS23, hS24⟩ := hS
  obtain ⟨T1, X1, e1, st1⟩ := getS2 X0 hx hZ hown (host := "") (Or.inl (hw _ (List.mem_of_getElem? (i := 13) rfl))) Via.refl e0 hS4 (g := (mkF m 1 #[.val (.ref a1)] [(.ref a1)])) rfl (hb hby d2_1)
  have pre2 : ∀ tgt, Steps p.tables e below (T1.setTop (mkF m 4 #[.val (.ref a1)] [(.ref (ad 4)), (.ref a1)])) tgt → Steps p.tables e below (s₁.setTop (entryFrame m #[(.ref a1)] 1)) tgt := fun tgt kt => pre0 _ (by
    show Steps p.tables e below (s₁.setTop (mkF m 0 #[.val (.ref a1)] [])) _
    refine XS.aloadN X0.here hx rfl (hb hby d2_0) rfl rfl ?_
    show Steps p.tables e below (s₁.setTop (mkF m 1 #[.val (.ref a1)] [(.ref a1)])) _
    refine st1 _ ?_
    exact kt)
  by_cases h4 : i = 4
  · obtain ⟨fs, hr, hrun, hended, hW, hsame⟩ := X1.leave (v := some (.int (1 : Int32))) (fun h => by rw [Bd.returns] at h; cases h)
    refine ⟨_, _, pre2 _ ?_, hrun, hended, _, _, rfl, ?_, ⟨_, rfl⟩, hW, hsame.mono (by decide) (by decide)⟩
    · show Steps p.tables e below (T1.setTop (mkF m 4 #[.val (.ref a1)] [(.ref (ad 4)), (.ref a1)])) _
      refine Jvm.RoadKit.acmp (g := (mkF m 4 #[.val (.ref a1)] [(.ref (ad 4)), (.ref a1)])) X1 hx rfl rfl rfl (pc0 := 4) (pc' := 42) (same := true) rfl (hb hby d2_4) rfl (decide_eq_true (congrArg Value.ref (ha.trans (congrArg ad h4)))) (by decide) (by decide) ?_
      show Steps p.tables e below (T1.setTop (mkF m 42 #[.val (.ref a1)] [])) _
      refine XS.iconst X1.here hx rfl (hb hby d2_42) ?_
      show Steps p.tables e below (T1.setTop (mkF m 43 #[.val (.ref a1)] [(.int (1 : Int32))])) _
      refine XS.goto X1.here hx rfl (pc0 := 43) (pc' := 47) rfl (hb hby d2_43) (by decide) (by decide) ?_
      show Steps p.tables e below (T1.setTop (mkF m 47 #[.val (.ref a1)] [(.int (1 : Int32))])) _
      exact retN X1 hx (t := .boolean) Bd.returns (by simp) (hb hby d2_47) hr
    · show Q2 Z a1 ad i h0 n0 _ T1.heap _
      rw [e1]
      exact ⟨by first | (rw [own_cp, if_pos (by omega)]; done) | (rw [own_cp, if_pos (by omega)]; rfl), N0, rfl⟩
  · obtain ⟨T3, X3, e3, st3⟩ := getS2 X1 hx hZ hown (host := "") (Or.inl (hw _ (List.mem_of_getElem? (i := 15) rfl))) Via.refl e1 hS5 (g := (mkF m 8 #[.val (.ref a1)] [(.ref a1)])) rfl (hb hby d2_8)
    have pre4 : ∀ tgt, Steps p.tables e below (T3.setTop (mkF m 11 #[.val (.ref a1)] [(.ref (ad 5)), (.ref a1)])) tgt → Steps p.tables e below (s₁.setTop (entryFrame m #[(.ref a1)] 1)) tgt := fun tgt kt => pre2 _ (by
      show Steps p.tables e below (T1.setTop (mkF m 4 #[.val (.ref a1)] [(.ref (ad 4)), (.ref a1)])) _
      refine Jvm.RoadKit.acmp (g := (mkF m 4 #[.val (.ref a1)] [(.ref (ad 4)), (.ref a1)])) X1 hx rfl rfl rfl (pc0 := 4) (pc' := 7) (same := false) rfl (hb hby d2_4) rfl (decide_eq_false fun q => (fun q => h4 (hD i 4 hi (by decide) (ha.symm.trans q))) (Value.ref.inj q)) (by decide) (by decide) ?_
      show Steps p.tables e below (T1.setTop (mkF m 7 #[.val (.ref a1)] [])) _
      refine XS.aloadN X1.here hx rfl (hb hby d2_7) rfl rfl ?_
      show Steps p.tables e below (T1.setTop (mkF m 8 #[.val (.ref a1)] [(.ref a1)])) _
      refine st3 _ ?_
      exact kt)
    by_cases h5 : i = 5
    · obtain ⟨fs, hr, hrun, hended, hW, hsame⟩ := X3.leave (v := some (.int (1 : Int32))) (fun h => by rw [Bd.returns] at h; cases h)
      refine ⟨_, _, pre4 _ ?_, hrun, hended, _, _, rfl, ?_, ⟨_, rfl⟩, hW, hsame.mono (by decide) (by decide)⟩
      · show Steps p.tables e below (T3.setTop (mkF m 11 #[.val (.ref a1)] [(.ref (ad 5)), (.ref a1)])) _
        refine Jvm.RoadKit.acmp (g := (mkF m 11 #[.val (.ref a1)] [(.ref (ad 5)), (.ref a1)])) X3 hx rfl rfl rfl (pc0 := 11) (pc' := 42) (same := true) rfl (hb hby d2_11) rfl (decide_eq_true (congrArg Value.ref (ha.trans (congrArg ad h5)))) (by decide) (by decide) ?_
        show Steps p.tables e below (T3.setTop (mkF m 42 #[.val (.ref a1)] [])) _
        refine XS.iconst X3.here hx rfl (hb hby d2_42) ?_
        show Steps p.tables e below (T3.setTop (mkF m 43 #[.val (.ref a1)] [(.int (1 : Int32))])) _
        refine XS.goto X3.here hx rfl (pc0 := 43) (pc' := 47) rfl (hb hby d2_43) (by decide) (by decide) ?_
        show Steps p.tables e below (T3.setTop (mkF m 47 #[.val (.ref a1)] [(.int (1 : Int32))])) _
        exact retN X3 hx (t := .boolean) Bd.returns (by simp) (hb hby d2_47) hr
      · show Q2 Z a1 ad i h0 n0 _ T3.heap _
        rw [e3]
        exact ⟨by first | (rw [own_cp, if_pos (by omega)]; done) | (rw [own_cp, if_pos (by omega)]; rfl), N0, rfl⟩
    · obtain ⟨T5, X5, e5, st5⟩ := getS2 X3 hx hZ hown (host := "") (Or.inl (hw _ (List.mem_of_getElem? (i := 17) rfl))) Via.refl e3 hS6 (g := (mkF m 15 #[.val (.ref a1)] [(.ref a1)])) rfl (hb hby d2_15)
      have pre6 : ∀ tgt, Steps p.tables e below (T5.setTop (mkF m 18 #[.val (.ref a1)] [(.ref (ad 6)), (.ref a1)])) tgt → Steps p.tables e below (s₁.setTop (entryFrame m #[(.ref a1)] 1)) tgt := fun tgt kt => pre4 _ (by
        show Steps p.tables e below (T3.setTop (mkF m 11 #[.val (.ref a1)] [(.ref (ad 5)), (.ref a1)])) _
        refine Jvm.RoadKit.acmp (g := (mkF m 11 #[.val (.ref a1)] [(.ref (ad 5)), (.ref a1)])) X3 hx rfl rfl rfl (pc0 := 11) (pc' := 14) (same := false) rfl (hb hby d2_11) rfl (decide_eq_false fun q => (fun q => h5 (hD i 5 hi (by decide) (ha.symm.trans q))) (Value.ref.inj q)) (by decide) (by decide) ?_
        show Steps p.tables e below (T3.setTop (mkF m 14 #[.val (.ref a1)] [])) _
        refine XS.aloadN X3.here hx rfl (hb hby d2_14) rfl rfl ?_
        show Steps p.tables e below (T3.setTop (mkF m 15 #[.val (.ref a1)] [(.ref a1)])) _
        refine st5 _ ?_
        exact kt)
      by_cases h6 : i = 6
      · obtain ⟨fs, hr, hrun, hended, hW, hsame⟩ := X5.leave (v := some (.int (1 : Int32))) (fun h => by rw [Bd.returns] at h; cases h)
        refine ⟨_, _, pre6 _ ?_, hrun, hended, _, _, rfl, ?_, ⟨_, rfl⟩, hW, hsame.mono (by decide) (by decide)⟩
        · show Steps p.tables e below (T5.setTop (mkF m 18 #[.val (.ref a1)] [(.ref (ad 6)), (.ref a1)])) _
          refine Jvm.RoadKit.acmp (g := (mkF m 18 #[.val (.ref a1)] [(.ref (ad 6)), (.ref a1)])) X5 hx rfl rfl rfl (pc0 := 18) (pc' := 42) (same := true) rfl (hb hby d2_18) rfl (decide_eq_true (congrArg Value.ref (ha.trans (congrArg ad h6)))) (by decide) (by decide) ?_
          show Steps p.tables e below (T5.setTop (mkF m 42 #[.val (.ref a1)] [])) _
          refine XS.iconst X5.here hx rfl (hb hby d2_42) ?_
          show Steps p.tables e below (T5.setTop (mkF m 43 #[.val (.ref a1)] [(.int (1 : Int32))])) _
          refine XS.goto X5.here hx rfl (pc0 := 43) (pc' := 47) rfl (hb hby d2_43) (by decide) (by decide) ?_
          show Steps p.tables e below (T5.setTop (mkF m 47 #[.val (.ref a1)] [(.int (1 : Int32))])) _
          exact retN X5 hx (t := .boolean) Bd.returns (by simp) (hb hby d2_47) hr
        · show Q2 Z a1 ad i h0 n0 _ T5.heap _
          rw [e5]
          exact ⟨by first | (rw [own_cp, if_pos (by omega)]; done) | (rw [own_cp, if_pos (by omega)]; rfl), N0, rfl⟩
      · obtain ⟨T7, X7, e7, st7⟩ := getS2 X5 hx hZ hown (host := "") (Or.inl (hw _ (List.mem_of_getElem? (i := 19) rfl))) Via.refl e5 hS7 (g := (mkF m 22 #[.val (.ref a1)] [(.ref a1)])) rfl (hb hby d2_22)
        have pre8 : ∀ tgt, Steps p.tables e below (T7.setTop (mkF m 25 #[.val (.ref a1)] [(.ref (ad 7)), (.ref a1)])) tgt → Steps p.tables e below (s₁.setTop (entryFrame m #[(.ref a1)] 1)) tgt := fun tgt kt => pre6 _ (by
          show Steps p.tables e below (T5.setTop (mkF m 18 #[.val (.ref a1)] [(.ref (ad 6)), (.ref a1)])) _
          refine Jvm.RoadKit.acmp (g := (mkF m 18 #[.val (.ref a1)] [(.ref (ad 6)), (.ref a1)])) X5 hx rfl rfl rfl (pc0 := 18) (pc' := 21) (same := false) rfl (hb hby d2_18) rfl (decide_eq_false fun q => (fun q => h6 (hD i 6 hi (by decide) (ha.symm.trans q))) (Value.ref.inj q)) (by decide) (by decide) ?_
          show Steps p.tables e below (T5.setTop (mkF m 21 #[.val (.ref a1)] [])) _
          refine XS.aloadN X5.here hx rfl (hb hby d2_21) rfl rfl ?_
          show Steps p.tables e below (T5.setTop (mkF m 22 #[.val (.ref a1)] [(.ref a1)])) _
          refine st7 _ ?_
          exact kt)
        by_cases h7 : i = 7
        · obtain ⟨fs, hr, hrun, hended, hW, hsame⟩ := X7.leave (v := some (.int (1 : Int32))) (fun h => by rw [Bd.returns] at h; cases h)
          refine ⟨_, _, pre8 _ ?_, hrun, hended, _, _, rfl, ?_, ⟨_, rfl⟩, hW, hsame.mono (by decide) (by decide)⟩
          · show Steps p.tables e below (T7.setTop (mkF m 25 #[.val (.ref a1)] [(.ref (ad 7)), (.ref a1)])) _
            refine Jvm.RoadKit.acmp (g := (mkF m 25 #[.val (.ref a1)] [(.ref (ad 7)), (.ref a1)])) X7 hx rfl rfl rfl (pc0 := 25) (pc' := 42) (same := true) rfl (hb hby d2_25) rfl (decide_eq_true (congrArg Value.ref (ha.trans (congrArg ad h7)))) (by decide) (by decide) ?_
            show Steps p.tables e below (T7.setTop (mkF m 42 #[.val (.ref a1)] [])) _
            refine XS.iconst X7.here hx rfl (hb hby d2_42) ?_
            show Steps p.tables e below (T7.setTop (mkF m 43 #[.val (.ref a1)] [(.int (1 : Int32))])) _
            refine XS.goto X7.here hx rfl (pc0 := 43) (pc' := 47) rfl (hb hby d2_43) (by decide) (by decide) ?_
            show Steps p.tables e below (T7.setTop (mkF m 47 #[.val (.ref a1)] [(.int (1 : Int32))])) _
            exact retN X7 hx (t := .boolean) Bd.returns (by simp) (hb hby d2_47) hr
          · show Q2 Z a1 ad i h0 n0 _ T7.heap _
            rw [e7]
            exact ⟨by first | (rw [own_cp, if_pos (by omega)]; done) | (rw [own_cp, if_pos (by omega)]; rfl), N0, rfl⟩
        · obtain ⟨T9, X9, e9, st9⟩ := getS2 X7 hx hZ hown (host := "") (Or.inl (hw _ (List.mem_of_getElem? (i := 21) rfl))) Via.refl e7 hS8 (g := (mkF m 29 #[.val (.ref a1)] [(.ref a1)])) rfl (hb hby d2_29)
          have pre10 : ∀ tgt, Steps p.tables e below (T9.setTop (mkF m 32 #[.val (.ref a1)] [(.ref (ad 8)), (.ref a1)])) tgt → Steps p.tables e below (s₁.setTop (entryFrame m #[(.ref a1)] 1)) tgt := fun tgt kt => pre8 _ (by
            show Steps p.tables e below (T7.setTop (mkF m 25 #[.val (.ref a1)] [(.ref (ad 7)), (.ref a1)])) _
            refine Jvm.RoadKit.acmp (g := (mkF m 25 #[.val (.ref a1)] [(.ref (ad 7)), (.ref a1)])) X7 hx rfl rfl rfl (pc0 := 25) (pc' := 28) (same := false) rfl (hb hby d2_25) rfl (decide_eq_false fun q => (fun q => h7 (hD i 7 hi (by decide) (ha.symm.trans q))) (Value.ref.inj q)) (by decide) (by decide) ?_
            show Steps p.tables e below (T7.setTop (mkF m 28 #[.val (.ref a1)] [])) _
            refine XS.aloadN X7.here hx rfl (hb hby d2_28) rfl rfl ?_
            show Steps p.tables e below (T7.setTop (mkF m 29 #[.val (.ref a1)] [(.ref a1)])) _
            refine st9 _ ?_
            exact kt)
          by_cases h8 : i = 8
          · obtain ⟨fs, hr, hrun, hended, hW, hsame⟩ := X9.leave (v := some (.int (1 : Int32))) (fun h => by rw [Bd.returns] at h; cases h)
            refine ⟨_, _, pre10 _ ?_, hrun, hended, _, _, rfl, ?_, ⟨_, rfl⟩, hW, hsame.mono (by decide) (by decide)⟩
            · show Steps p.tables e below (T9.setTop (mkF m 32 #[.val (.ref a1)] [(.ref (ad 8)), (.ref a1)])) _
              refine Jvm.RoadKit.acmp (g := (mkF m 32 #[.val (.ref a1)] [(.ref (ad 8)), (.ref a1)])) X9 hx rfl rfl rfl (pc0 := 32) (pc' := 42) (same := true) rfl (hb hby d2_32) rfl (decide_eq_true (congrArg Value.ref (ha.trans (congrArg ad h8)))) (by decide) (by decide) ?_
              show Steps p.tables e below (T9.setTop (mkF m 42 #[.val (.ref a1)] [])) _
              refine XS.iconst X9.here hx rfl (hb hby d2_42) ?_
              show Steps p.tables e below (T9.setTop (mkF m 43 #[.val (.ref a1)] [(.int (1 : Int32))])) _
              refine XS.goto X9.here hx rfl (pc0 := 43) (pc' := 47) rfl (hb hby d2_43) (by decide) (by decide) ?_
              show Steps p.tables e below (T9.setTop (mkF m 47 #[.val (.ref a1)] [(.int (1 : Int32))])) _
              exact retN X9 hx (t := .boolean) Bd.returns (by simp) (hb hby d2_47) hr
            · show Q2 Z a1 ad i h0 n0 _ T9.heap _
              rw [e9]
              exact ⟨by first | (rw [own_cp, if_pos (by omega)]; done) | (rw [own_cp, if_pos (by omega)]; rfl), N0, rfl⟩
          · obtain ⟨T11, X11, e11, st11⟩ := getS2 X9 hx hZ hown (host := "") (Or.inl (hw _ (List.mem_of_getElem? (i := 23) rfl))) Via.refl e9 hS9 (g := (mkF m 36 #[.val (.ref a1)] [(.ref a1)])) rfl (hb hby d2_36)
            have pre12 : ∀ tgt, Steps p.tables e below (T11.setTop (mkF m 39 #[.val (.ref a1)] [(.ref (ad 9)), (.ref a1)])) tgt → Steps p.tables e below (s₁.setTop (entryFrame m #[(.ref a1)] 1)) tgt := fun tgt kt => pre10 _ (by
              show Steps p.tables e below (T9.setTop (mkF m 32 #[.val (.ref a1)] [(.ref (ad 8)), (.ref a1)])) _
              refine Jvm.RoadKit.acmp (g := (mkF m 32 #[.val (.ref a1)] [(.ref (ad 8)), (.ref a1)])) X9 hx rfl rfl rfl (pc0 := 32) (pc' := 35) (same := false) rfl (hb hby d2_32) rfl (decide_eq_false fun q => (fun q => h8 (hD i 8 hi (by decide) (ha.symm.trans q))) (Value.ref.inj q)) (by decide) (by decide) ?_
              show Steps p.tables e below (T9.setTop (mkF m 35 #[.val (.ref a1)] [])) _
              refine XS.aloadN X9.here hx rfl (hb hby d2_35) rfl rfl ?_
              show Steps p.tables e below (T9.setTop (mkF m 36 #[.val (.ref a1)] [(.ref a1)])) _
              refine st11 _ ?_
              exact kt)
            by_cases h9 : i = 9
            · obtain ⟨fs, hr, hrun, hended, hW, hsame⟩ := X11.leave (v := some (.int (1 : Int32))) (fun h => by rw [Bd.returns] at h; cases h)
              refine ⟨_, _, pre12 _ ?_, hrun, hended, _, _, rfl, ?_, ⟨_, rfl⟩, hW, hsame.mono (by decide) (by decide)⟩
              · show Steps p.tables e below (T11.setTop (mkF m 39 #[.val (.ref a1)] [(.ref (ad 9)), (.ref a1)])) _
                refine Jvm.RoadKit.acmp (g := (mkF m 39 #[.val (.ref a1)] [(.ref (ad 9)), (.ref a1)])) X11 hx rfl rfl rfl (pc0 := 39) (pc' := 42) (same := true) rfl (hb hby d2_39) rfl (decide_eq_true (congrArg Value.ref (ha.trans (congrArg ad h9)))) (by decide) (by decide) ?_
                show Steps p.tables e below (T11.setTop (mkF m 42 #[.val (.ref a1)] [])) _
                refine XS.iconst X11.here hx rfl (hb hby d2_42) ?_
                show Steps p.tables e below (T11.setTop (mkF m 43 #[.val (.ref a1)] [(.int (1 : Int32))])) _
                refine XS.goto X11.here hx rfl (pc0 := 43) (pc' := 47) rfl (hb hby d2_43) (by decide) (by decide) ?_
                show Steps p.tables e below (T11.setTop (mkF m 47 #[.val (.ref a1)] [(.int (1 : Int32))])) _
                exact retN X11 hx (t := .boolean) Bd.returns (by simp) (hb hby d2_47) hr
              · show Q2 Z a1 ad i h0 n0 _ T11.heap _
                rw [e11]
                exact ⟨by first | (rw [own_cp, if_pos (by omega)]; done) | (rw [own_cp, if_pos (by omega)]; rfl), N0, rfl⟩
            · obtain ⟨fs, hr, hrun, hended, hW, hsame⟩ := X11.leave (v := some (.int (0 : Int32))) (fun h => by rw [Bd.returns] at h; cases h)
              refine ⟨_, _, pre12 _ ?_, hrun, hended, _, _, rfl, ?_, ⟨_, rfl⟩, hW, hsame.mono (by decide) (by decide)⟩
              · show Steps p.tables e below (T11.setTop (mkF m 39 #[.val (.ref a1)] [(.ref (ad 9)), (.ref a1)])) _
                refine Jvm.RoadKit.acmp (g := (mkF m 39 #[.val (.ref a1)] [(.ref (ad 9)), (.ref a1)])) X11 hx rfl rfl rfl (pc0 := 39) (pc' := 46) (same := false) rfl (hb hby d2_39) rfl (decide_eq_false fun q => (fun q => h9 (hD i 9 hi (by decide) (ha.symm.trans q))) (Value.ref.inj q)) (by decide) (by decide) ?_
                show Steps p.tables e below (T11.setTop (mkF m 46 #[.val (.ref a1)] [])) _
                refine XS.iconst X11.here hx rfl (hb hby d2_46) ?_
                show Steps p.tables e below (T11.setTop (mkF m 47 #[.val (.ref a1)] [(.int (0 : Int32))])) _
                exact retN X11 hx (t := .boolean) Bd.returns (by simp) (hb hby d2_47) hr
              · show Q2 Z a1 ad i h0 n0 _ T11.heap _
                rw [e11]
                exact ⟨by first | (rw [own_cp, if_neg (by omega)]; done) | (rw [own_cp, if_neg (by omega)]; rfl), N0, rfl⟩
theorem pd_0 : parseMethodDescriptor "(I)Lcom/example/tracelint/tracelint/spec/Operator;" = some ⟨[.int], some (.object "com/example/tracelint/tracelint/spec/Operator")⟩ := by decide +kernel
theorem pd_1 : parseMethodDescriptor "()Z" = some ⟨[], some .boolean⟩ := by decide +kernel
theorem ef_rm0 (m : MethodId) (x0 : Int32) : entryFrame m #[(.int x0)] maxLocals = mkF m 0 #[.val (.int x0), .unset, .unset, .unset] [] := by first | (simp [entryFrame, mkF, argsToLocals, Value.category, maxLocals]; done) | rfl
def Q0 (Z : State) (p0 : Int32) (ad : Nat → Addr) (h0 : Heap) (n0 : Nat) (v : Option Value) (h : Heap) (L : List Loc) : Prop := v = some (.int (1 : Int32)) ∧ Fr n0 L
set_option maxHeartbeats 40000000 in
theorem rm0 (l : Launch) (Z : State) (a0 : Array Value) (hw : ∀ d ∈ tables_1, d.before a0 Z = true) (ws : List Jvm.Cond) (p0 : Int32) (ad : Nat → Addr) (h0 : Heap) (n0 : Nat) (Z0 : n0 ≤ h0.size) (hX : ∀ i, i < 25 → Exa Z h0 (ad i) "com/example/tracelint/tracelint/spec/Operator") (hD : ∀ i j, i < 25 → j < 25 → ad i = ad j → i = j) (hS : own_S Z h0 ad) :
    MetFree l x (head1 (Jvm.Cond.code x code maxLocals ret :: ws) room_1) (fun a U => a = #[(.int p0)] ∧ Z.Warmed39 U.vm ∧ U.heap = h0) (fun _ _ _ _ _ => True) (fun _ U o U' => ∃ v L, o = .returned v ∧ Q0 Z p0 ad h0 n0 v U'.heap L ∧ FrameEnd U o U' L room_1.cells room_1.slots) := by
  refine MetFree.of_bodySF (plainFor_of_name pn_0) hisR ?_
  intro p e s m args below meth c s₁ Bd hml0 hP hK
  obtain ⟨rfl, hZ, hh⟩ := hP
  have hx := Bd.exec
  have hby := Bd.bytes
  have hml : c.maxLocals = 4 := hml0
  have hown : s.vm.findClass "com/example/tracelint/tracelint/spec/OperatorIsComparisonPinLaw" = some m.cls := findClass_of_methodNamed Bd.named
  have hnm := (name_of_methodNamed Bd.named Bd.method).1
  have X0 : Stand p l e room_1 s m #[(.int p0)] below meth c s₁ [] 0 0 := Stand.of_body Bd
  have e0 : s₁.heap = h0 := by rw [← hh, Bd.state]; rfl
  have N0 := Fr.nil n0
  have pre0 : ∀ tgt, Steps p.tables e below (s₁.setTop (mkF m 0 #[.val (.int p0), .unset, .unset, .unset] [])) tgt → Steps p.tables e below (s₁.setTop (entryFrame m #[(.int p0)] maxLocals)) tgt := fun tgt k => castTop (ef_rm0 m p0) k
  obtain ⟨i, hi, hk⟩ := own_rem p0 25 25 rfl (by decide) (by decide)
  obtain ⟨_, _, ⟨T1, L1, k1, n1⟩, -, X1, ⟨Lc1, hQ1, l1, y1, z1⟩, st1⟩ := Jvm.LawKit.callS X0 hx (y := (⟨"com/example/tracelint/tracelint/spec/OperatorIsComparisonPinLaw", "pick", "(I)Lcom/example/tracelint/tracelint/spec/Operator;"⟩ : MethodName)) hown (mvT hZ (hw _ (List.mem_of_getElem? (i := 1) rfl))) (mvT hZ (hw _ (List.mem_of_getElem? (i := 2) rfl))) (mvT hZ (hw _ (List.mem_of_getElem? (i := 3) rfl))) (mvT hZ (hw _ (List.mem_of_getElem? (i := 4) rfl))) (by decide) (backOf (W := 0) (rm1 l Z a0 hw [] ((p0 &&& (2147483647 : Int32)) % (25 : Int32)) ad i h0 n0 Z0 hi hk hS) hZ (hw _ (List.mem_of_getElem? (i := 4) rfl)) (hw _ (List.mem_of_getElem? (i := 3) rfl)) (by decide) (by decide)) (g := (mkF m 9 #[.val (.int p0), .val (.int ((p0 &&& (2147483647 : Int32)) % (25 : Int32))), .unset, .unset] [(.int ((p0 &&& (2147483647 : Int32)) % (25 : Int32)))])) rfl (by rw [hml]; rfl) (argsL := [(.int ((p0 &&& (2147483647 : Int32)) % (25 : Int32)))]) (rest := []) (lenOf pd_0 rfl) rfl (by show 2 * 0 + _ ≤ _; exact Nat.le_of_eq rfl) (hb hby at_9) (fun _ _ => ⟨rfl, e0, (by decide : 0 + 0 ≤ _), (by decide : 0 + 0 ≤ _)⟩)
  dsimp only [Pt.U, Pt.locs, Pt.cells, Pt.slots] at X1 l1 y1 z1 st1 hQ1
  subst l1 y1 z1
  obtain ⟨rfl, Nq1, e1⟩ := hQ1
  have N2 := Fr.app N0 Nq1
  have pre3 : ∀ tgt, Steps p.tables e below (T1.setTop (mkF m 15 #[.val (.int p0), .val (.int ((p0 &&& (2147483647 : Int32)) % (25 : Int32))), .val (.ref (ad i)), .unset] [(.int (4 : Int32)), (.int ((p0 &&& (2147483647 : Int32)) % (25 : Int32)))])) tgt → Steps p.tables e below (s₁.setTop (entryFrame m #[(.int p0)] maxLocals)) tgt := fun tgt kt => pre0 _ (by
    show Steps p.tables e below (s₁.setTop (mkF m 0 #[.val (.int p0), .unset, .unset, .unset] [])) _
    refine XS.iloadN X0.here hx rfl (hb hby at_0) rfl ?_
    show Steps p.tables e below (s₁.setTop (mkF m 1 #[.val (.int p0), .unset, .unset, .unset] [(.int p0)])) _
    refine X0.ldcInt hx hown (mvT hZ (hw _ (List.mem_of_getElem? (i := 0) rfl))) (g := (mkF m 1 #[.val (.int p0), .unset, .unset, .unset] [(.int p0)])) rfl (hb hby at_1) _ ?_
    show Steps p.tables e below (s₁.setTop (mkF m 3 #[.val (.int p0), .unset, .unset, .unset] [(.int (2147483647 : Int32)), (.int p0)])) _
    refine XS.iand X0.here hx rfl (hb hby at_3) rfl ?_
    show Steps p.tables e below (s₁.setTop (mkF m 4 #[.val (.int p0), .unset, .unset, .unset] [(.int (p0 &&& (2147483647 : Int32)))])) _
    refine XS.bipush X0.here hx rfl (hb hby at_4) ?_
    show Steps p.tables e below (s₁.setTop (mkF m 6 #[.val (.int p0), .unset, .unset, .unset] [(.int (25 : Int32)), (.int (p0 &&& (2147483647 : Int32)))])) _
    refine iremM X0 hx rfl (hb hby at_6) rfl (by decide) ?_
    show Steps p.tables e below (s₁.setTop (mkF m 7 #[.val (.int p0), .unset, .unset, .unset] [(.int ((p0 &&& (2147483647 : Int32)) % (25 : Int32)))])) _
    refine XS.istoreN X0.here hx rfl (hb hby at_7) rfl (l' := #[.val (.int p0), .val (.int ((p0 &&& (2147483647 : Int32)) % (25 : Int32))), .unset, .unset]) rfl ?_
    show Steps p.tables e below (s₁.setTop (mkF m 8 #[.val (.int p0), .val (.int ((p0 &&& (2147483647 : Int32)) % (25 : Int32))), .unset, .unset] [])) _
    refine XS.iloadN X0.here hx rfl (hb hby at_8) rfl ?_
    show Steps p.tables e below (s₁.setTop (mkF m 9 #[.val (.int p0), .val (.int ((p0 &&& (2147483647 : Int32)) % (25 : Int32))), .unset, .unset] [(.int ((p0 &&& (2147483647 : Int32)) % (25 : Int32)))])) _
    refine st1 _ ?_
    show Steps p.tables e below (T1.setTop (mkF m 12 #[.val (.int p0), .val (.int ((p0 &&& (2147483647 : Int32)) % (25 : Int32))), .unset, .unset] [(.ref (ad i))])) _
    refine XS.astoreN X1.here hx rfl (hb hby at_12) rfl rfl (l' := #[.val (.int p0), .val (.int ((p0 &&& (2147483647 : Int32)) % (25 : Int32))), .val (.ref (ad i)), .unset]) rfl ?_
    show Steps p.tables e below (T1.setTop (mkF m 13 #[.val (.int p0), .val (.int ((p0 &&& (2147483647 : Int32)) % (25 : Int32))), .val (.ref (ad i)), .unset] [])) _
    refine XS.iloadN X1.here hx rfl (hb hby at_13) rfl ?_
    show Steps p.tables e below (T1.setTop (mkF m 14 #[.val (.int p0), .val (.int ((p0 &&& (2147483647 : Int32)) % (25 : Int32))), .val (.ref (ad i)), .unset] [(.int ((p0 &&& (2147483647 : Int32)) % (25 : Int32)))])) _
    refine XS.iconst X1.here hx rfl (hb hby at_14) ?_
    exact kt)
  by_cases hE : ((p0 &&& (2147483647 : Int32)) % (25 : Int32)) < (4 : Int32)
  · obtain ⟨cq5, kq5, q5a, q5b, q5c⟩ := isOf hZ e1 (hX i hi)
    obtain ⟨_, _, ⟨T5, L5, k5, n5⟩, -, X5, ⟨Lc5, hQ5, l5, y5, z5⟩, st5⟩ := X1.virtualBack hx (y := (⟨"com/example/tracelint/tracelint/spec/Operator", "isComparison", "()Z"⟩ : MethodName)) (z := (⟨"com/example/tracelint/tracelint/spec/Operator", "isComparison", "()Z"⟩ : MethodName)) hown (mvT hZ (hw _ (List.mem_of_getElem? (i := 8) rfl))) (mvT hZ (hw _ (List.mem_of_getElem? (i := 9) rfl))) (notFace_of_selects (args := #[]) (mvT hZ (hw _ (List.mem_of_getElem? (i := 11) rfl)))) (mvT hZ (hw _ (List.mem_of_getElem? (i := 11) rfl))) (mvT hZ (hw _ (List.mem_of_getElem? (i := 10) rfl))) (by decide) (backOf (W := 0) (rm2 l Z a0 hw [] (ad i) ad i h0 n0 Z0 hi rfl hD hS) hZ (hw _ (List.mem_of_getElem? (i := 12) rfl)) (hw _ (List.mem_of_getElem? (i := 6) rfl)) (by decide) (by decide)) q5a q5c (g := (mkF m 31 #[.val (.int p0), .val (.int ((p0 &&& (2147483647 : Int32)) % (25 : Int32))), .val (.ref (ad i)), .val (.int (0 : Int32))] [(.ref (ad i))])) rfl (by rw [hml]; rfl) (Steps.refl _) (argsL := []) (rest := []) (lenOf pd_1 rfl) rfl (by show 2 * 0 + _ ≤ _; exact Nat.le_of_eq rfl) (hb hby at_31) (fun _ _ => ⟨rfl, e1, (by decide : 0 + 0 ≤ _), (by decide : 0 + 0 ≤ _)⟩)
    dsimp only [Pt.U, Pt.locs, Pt.cells, Pt.slots] at X5 l5 y5 z5 st5 hQ5
    subst l5 y5 z5
    obtain ⟨rfl, Nq5, e5⟩ := hQ5
    have N6 := Fr.app N2 Nq5
    obtain ⟨fs, hr, hrun, hended, hW, hsame⟩ := X5.leave (v := some (.int (1 : Int32))) (fun h => by rw [Bd.returns] at h; cases h)
    refine ⟨_, _, pre3 _ ?_, hrun, hended, _, _, rfl, ?_, ⟨_, rfl⟩, hW, hsame.mono (by decide) (by decide)⟩
    · show Steps p.tables e below (T1.setTop (mkF m 15 #[.val (.int p0), .val (.int ((p0 &&& (2147483647 : Int32)) % (25 : Int32))), .val (.ref (ad i)), .unset] [(.int (4 : Int32)), (.int ((p0 &&& (2147483647 : Int32)) % (25 : Int32)))])) _
      refine XS.icmpYes X1.here hx rfl (pc0 := 15) (pc' := 28) rfl (hb hby at_15) rfl (tlt hE).1 (by decide) (by decide) ?_
      show Steps p.tables e below (T1.setTop (mkF m 28 #[.val (.int p0), .val (.int ((p0 &&& (2147483647 : Int32)) % (25 : Int32))), .val (.ref (ad i)), .unset] [])) _
      refine XS.iconst X1.here hx rfl (hb hby at_28) ?_
      show Steps p.tables e below (T1.setTop (mkF m 29 #[.val (.int p0), .val (.int ((p0 &&& (2147483647 : Int32)) % (25 : Int32))), .val (.ref (ad i)), .unset] [(.int (0 : Int32))])) _
      refine XS.istoreN X1.here hx rfl (hb hby at_29) rfl (l' := #[.val (.int p0), .val (.int ((p0 &&& (2147483647 : Int32)) % (25 : Int32))), .val (.ref (ad i)), .val (.int (0 : Int32))]) rfl ?_
      show Steps p.tables e below (T1.setTop (mkF m 30 #[.val (.int p0), .val (.int ((p0 &&& (2147483647 : Int32)) % (25 : Int32))), .val (.ref (ad i)), .val (.int (0 : Int32))] [])) _
      refine XS.aloadN X1.here hx rfl (hb hby at_30) rfl rfl ?_
      show Steps p.tables e below (T1.setTop (mkF m 31 #[.val (.int p0), .val (.int ((p0 &&& (2147483647 : Int32)) % (25 : Int32))), .val (.ref (ad i)), .val (.int (0 : Int32))] [(.ref (ad i))])) _
      refine st5.trans ?_
      show Steps p.tables e below (T5.setTop (mkF m 34 #[.val (.int p0), .val (.int ((p0 &&& (2147483647 : Int32)) % (25 : Int32))), .val (.ref (ad i)), .val (.int (0 : Int32))] [(.int (own_cp i))])) _
      refine XS.iloadN X5.here hx rfl (hb hby at_34) rfl ?_
      show Steps p.tables e below (T5.setTop (mkF m 35 #[.val (.int p0), .val (.int ((p0 &&& (2147483647 : Int32)) % (25 : Int32))), .val (.ref (ad i)), .val (.int (0 : Int32))] [(.int (0 : Int32)), (.int (own_cp i))])) _
      refine XS.icmpNo X5.here hx rfl (hb hby at_35) rfl (teq (own_cpa hi (hk ▸ hE))).2 ?_
      show Steps p.tables e below (T5.setTop (mkF m 38 #[.val (.int p0), .val (.int ((p0 &&& (2147483647 : Int32)) % (25 : Int32))), .val (.ref (ad i)), .val (.int (0 : Int32))] [])) _
      refine XS.iconst X5.here hx rfl (hb hby at_38) ?_
      show Steps p.tables e below (T5.setTop (mkF m 39 #[.val (.int p0), .val (.int ((p0 &&& (2147483647 : Int32)) % (25 : Int32))), .val (.ref (ad i)), .val (.int (0 : Int32))] [(.int (1 : Int32))])) _
      refine XS.goto X5.here hx rfl (pc0 := 39) (pc' := 43) rfl (hb hby at_39) (by decide) (by decide) ?_
      show Steps p.tables e below (T5.setTop (mkF m 43 #[.val (.int p0), .val (.int ((p0 &&& (2147483647 : Int32)) % (25 : Int32))), .val (.ref (ad i)), .val (.int (0 : Int32))] [(.int (1 : Int32))])) _
      exact retN X5 hx (t := .boolean) Bd.returns (by simp) (hb hby at_43) hr
    · show Q0 Z p0 ad h0 n0 _ T5.heap _
      rw [e5]
      exact ⟨rfl, N6⟩
  · have pre4 : ∀ tgt, Steps p.tables e below (T1.setTop (mkF m 21 #[.val (.int p0), .val (.int ((p0 &&& (2147483647 : Int32)) % (25 : Int32))), .val (.ref (ad i)), .unset] [(.int (9 : Int32)), (.int ((p0 &&& (2147483647 : Int32)) % (25 : Int32)))])) tgt → Steps p.tables e below (s₁.setTop (entryFrame m #[(.int p0)] maxLocals)) tgt := fun tgt kt => pre3 _ (by
      show Steps p.tables e below (T1.setTop (mkF m 15 #[.val (.int p0), .val (.int ((p0 &&& (2147483647 : Int32)) % (25 : Int32))), .val (.ref (ad i)), .unset] [(.int (4 : Int32)), (.int ((p0 &&& (2147483647 : Int32)) % (25 : Int32)))])) _
      refine XS.icmpNo X1.here hx rfl (hb hby at_15) rfl (flt hE).1 ?_
      show Steps p.tables e below (T1.setTop (mkF m 18 #[.val (.int p0), .val (.int ((p0 &&& (2147483647 : Int32)) % (25 : Int32))), .val (.ref (ad i)), .unset] [])) _
      refine XS.iloadN X1.here hx rfl (hb hby at_18) rfl ?_
      show Steps p.tables e below (T1.setTop (mkF m 19 #[.val (.int p0), .val (.int ((p0 &&& (2147483647 : Int32)) % (25 : Int32))), .val (.ref (ad i)), .unset] [(.int ((p0 &&& (2147483647 : Int32)) % (25 : Int32)))])) _
      refine XS.bipush X1.here hx rfl (hb hby at_19) ?_
      exact kt)
    by_cases hG : (9 : Int32) < ((p0 &&& (2147483647 : Int32)) % (25 : Int32))
    · obtain ⟨cq7, kq7, q7a, q7b, q7c⟩ := isOf hZ e1 (hX i hi)
      obtain ⟨_, _, ⟨T7, L7, k7, n7⟩, -, X7, ⟨Lc7, hQ7, l7, y7, z7⟩, st7⟩ := X1.virtualBack hx (y := (⟨"com/example/tracelint/tracelint/spec/Operator", "isComparison", "()Z"⟩ : MethodName)) (z := (⟨"com/example/tracelint/tracelint/spec/Operator", "isComparison", "()Z"⟩ : MethodName)) hown (mvT hZ (hw _ (List.mem_of_getElem? (i := 8) rfl))) (mvT hZ (hw _ (List.mem_of_getElem? (i := 9) rfl))) (notFace_of_selects (args := #[]) (mvT hZ (hw _ (List.mem_of_getElem? (i := 11) rfl)))) (mvT hZ (hw _ (List.mem_of_getElem? (i := 11) rfl))) (mvT hZ (hw _ (List.mem_of_getElem? (i := 10) rfl))) (by decide) (backOf (W := 0) (rm2 l Z a0 hw [] (ad i) ad i h0 n0 Z0 hi rfl hD hS) hZ (hw _ (List.mem_of_getElem? (i := 12) rfl)) (hw _ (List.mem_of_getElem? (i := 6) rfl)) (by decide) (by decide)) q7a q7c (g := (mkF m 31 #[.val (.int p0), .val (.int ((p0 &&& (2147483647 : Int32)) % (25 : Int32))), .val (.ref (ad i)), .val (.int (0 : Int32))] [(.ref (ad i))])) rfl (by rw [hml]; rfl) (Steps.refl _) (argsL := []) (rest := []) (lenOf pd_1 rfl) rfl (by show 2 * 0 + _ ≤ _; exact Nat.le_of_eq rfl) (hb hby at_31) (fun _ _ => ⟨rfl, e1, (by decide : 0 + 0 ≤ _), (by decide : 0 + 0 ≤ _)⟩)
      dsimp only [Pt.U, Pt.locs, Pt.cells, Pt.slots] at X7 l7 y7 z7 st7 hQ7
      subst l7 y7 z7
      obtain ⟨rfl, Nq7, e7⟩ := hQ7
      have N8 := Fr.app N2 Nq7
      obtain ⟨fs, hr, hrun, hended, hW, hsame⟩ := X7.leave (v := some (.int (1 : Int32))) (fun h => by rw [Bd.returns] at h; cases h)
      refine ⟨_, _, pre4 _ ?_, hrun, hended, _, _, rfl, ?_, ⟨_, rfl⟩, hW, hsame.mono (by decide) (by decide)⟩
      · show Steps p.tables e below (T1.setTop (mkF m 21 #[.val (.int p0), .val (.int ((p0 &&& (2147483647 : Int32)) % (25 : Int32))), .val (.ref (ad i)), .unset] [(.int (9 : Int32)), (.int ((p0 &&& (2147483647 : Int32)) % (25 : Int32)))])) _
        refine XS.icmpYes X1.here hx rfl (pc0 := 21) (pc' := 28) rfl (hb hby at_21) rfl (tlt hG).2.2.1 (by decide) (by decide) ?_
        show Steps p.tables e below (T1.setTop (mkF m 28 #[.val (.int p0), .val (.int ((p0 &&& (2147483647 : Int32)) % (25 : Int32))), .val (.ref (ad i)), .unset] [])) _
        refine XS.iconst X1.here hx rfl (hb hby at_28) ?_
        show Steps p.tables e below (T1.setTop (mkF m 29 #[.val (.int p0), .val (.int ((p0 &&& (2147483647 : Int32)) % (25 : Int32))), .val (.ref (ad i)), .unset] [(.int (0 : Int32))])) _
        refine XS.istoreN X1.here hx rfl (hb hby at_29) rfl (l' := #[.val (.int p0), .val (.int ((p0 &&& (2147483647 : Int32)) % (25 : Int32))), .val (.ref (ad i)), .val (.int (0 : Int32))]) rfl ?_
        show Steps p.tables e below (T1.setTop (mkF m 30 #[.val (.int p0), .val (.int ((p0 &&& (2147483647 : Int32)) % (25 : Int32))), .val (.ref (ad i)), .val (.int (0 : Int32))] [])) _
        refine XS.aloadN X1.here hx rfl (hb hby at_30) rfl rfl ?_
        show Steps p.tables e below (T1.setTop (mkF m 31 #[.val (.int p0), .val (.int ((p0 &&& (2147483647 : Int32)) % (25 : Int32))), .val (.ref (ad i)), .val (.int (0 : Int32))] [(.ref (ad i))])) _
        refine st7.trans ?_
        show Steps p.tables e below (T7.setTop (mkF m 34 #[.val (.int p0), .val (.int ((p0 &&& (2147483647 : Int32)) % (25 : Int32))), .val (.ref (ad i)), .val (.int (0 : Int32))] [(.int (own_cp i))])) _
        refine XS.iloadN X7.here hx rfl (hb hby at_34) rfl ?_
        show Steps p.tables e below (T7.setTop (mkF m 35 #[.val (.int p0), .val (.int ((p0 &&& (2147483647 : Int32)) % (25 : Int32))), .val (.ref (ad i)), .val (.int (0 : Int32))] [(.int (0 : Int32)), (.int (own_cp i))])) _
        refine XS.icmpNo X7.here hx rfl (hb hby at_35) rfl (teq (own_cpb hi (hk ▸ hG))).2 ?_
        show Steps p.tables e below (T7.setTop (mkF m 38 #[.val (.int p0), .val (.int ((p0 &&& (2147483647 : Int32)) % (25 : Int32))), .val (.ref (ad i)), .val (.int (0 : Int32))] [])) _
        refine XS.iconst X7.here hx rfl (hb hby at_38) ?_
        show Steps p.tables e below (T7.setTop (mkF m 39 #[.val (.int p0), .val (.int ((p0 &&& (2147483647 : Int32)) % (25 : Int32))), .val (.ref (ad i)), .val (.int (0 : Int32))] [(.int (1 : Int32))])) _
        refine XS.goto X7.here hx rfl (pc0 := 39) (pc' := 43) rfl (hb hby at_39) (by decide) (by decide) ?_
        show Steps p.tables e below (T7.setTop (mkF m 43 #[.val (.int p0), .val (.int ((p0 &&& (2147483647 : Int32)) % (25 : Int32))), .val (.ref (ad i)), .val (.int (0 : Int32))] [(.int (1 : Int32))])) _
        exact retN X7 hx (t := .boolean) Bd.returns (by simp) (hb hby at_43) hr
      · show Q0 Z p0 ad h0 n0 _ T7.heap _
        rw [e7]
        exact ⟨rfl, N8⟩
    · obtain ⟨cq9, kq9, q9a, q9b, q9c⟩ := isOf hZ e1 (hX i hi)
      obtain ⟨_, _, ⟨T9, L9, k9, n9⟩, -, X9, ⟨Lc9, hQ9, l9, y9, z9⟩, st9⟩ := X1.virtualBack hx (y := (⟨"com/example/tracelint/tracelint/spec/Operator", "isComparison", "()Z"⟩ : MethodName)) (z := (⟨"com/example/tracelint/tracelint/spec/Operator", "isComparison", "()Z"⟩ : MethodName)) hown (mvT hZ (hw _ (List.mem_of_getElem? (i := 8) rfl))) (mvT hZ (hw _ (List.mem_of_getElem? (i := 9) rfl))) (notFace_of_selects (args := #[]) (mvT hZ (hw _ (List.mem_of_getElem? (i := 11) rfl)))) (mvT hZ (hw _ (List.mem_of_getElem? (i := 11) rfl))) (mvT hZ (hw _ (List.mem_of_getElem? (i := 10) rfl))) (by decide) (backOf (W := 0) (rm2 l Z a0 hw [] (ad i) ad i h0 n0 Z0 hi rfl hD hS) hZ (hw _ (List.mem_of_getElem? (i := 12) rfl)) (hw _ (List.mem_of_getElem? (i := 6) rfl)) (by decide) (by decide)) q9a q9c (g := (mkF m 31 #[.val (.int p0), .val (.int ((p0 &&& (2147483647 : Int32)) % (25 : Int32))), .val (.ref (ad i)), .val (.int (1 : Int32))] [(.ref (ad i))])) rfl (by rw [hml]; rfl) (Steps.refl _) (argsL := []) (rest := []) (lenOf pd_1 rfl) rfl (by show 2 * 0 + _ ≤ _; exact Nat.le_of_eq rfl) (hb hby at_31) (fun _ _ => ⟨rfl, e1, (by decide : 0 + 0 ≤ _), (by decide : 0 + 0 ≤ _)⟩)
      dsimp only [Pt.U, Pt.locs, Pt.cells, Pt.slots] at X9 l9 y9 z9 st9 hQ9
      subst l9 y9 z9
      obtain ⟨rfl, Nq9, e9⟩ := hQ9
      have N10 := Fr.app N2 Nq9
      obtain ⟨fs, hr, hrun, hended, hW, hsame⟩ := X9.leave (v := some (.int (1 : Int32))) (fun h => by rw [Bd.returns] at h; cases h)
      refine ⟨_, _, pre4 _ ?_, hrun, hended, _, _, rfl, ?_, ⟨_, rfl⟩, hW, hsame.mono (by decide) (by decide)⟩
      · show Steps p.tables e below (T1.setTop (mkF m 21 #[.val (.int p0), .val (.int ((p0 &&& (2147483647 : Int32)) % (25 : Int32))), .val (.ref (ad i)), .unset] [(.int (9 : Int32)), (.int ((p0 &&& (2147483647 : Int32)) % (25 : Int32)))])) _
        refine XS.icmpNo X1.here hx rfl (hb hby at_21) rfl (flt hG).2.2.1 ?_
        show Steps p.tables e below (T1.setTop (mkF m 24 #[.val (.int p0), .val (.int ((p0 &&& (2147483647 : Int32)) % (25 : Int32))), .val (.ref (ad i)), .unset] [])) _
        refine XS.iconst X1.here hx rfl (hb hby at_24) ?_
        show Steps p.tables e below (T1.setTop (mkF m 25 #[.val (.int p0), .val (.int ((p0 &&& (2147483647 : Int32)) % (25 : Int32))), .val (.ref (ad i)), .unset] [(.int (1 : Int32))])) _
        refine XS.goto X1.here hx rfl (pc0 := 25) (pc' := 29) rfl (hb hby at_25) (by decide) (by decide) ?_
        show Steps p.tables e below (T1.setTop (mkF m 29 #[.val (.int p0), .val (.int ((p0 &&& (2147483647 : Int32)) % (25 : Int32))), .val (.ref (ad i)), .unset] [(.int (1 : Int32))])) _
        refine XS.istoreN X1.here hx rfl (hb hby at_29) rfl (l' := #[.val (.int p0), .val (.int ((p0 &&& (2147483647 : Int32)) % (25 : Int32))), .val (.ref (ad i)), .val (.int (1 : Int32))]) rfl ?_
        show Steps p.tables e below (T1.setTop (mkF m 30 #[.val (.int p0), .val (.int ((p0 &&& (2147483647 : Int32)) % (25 : Int32))), .val (.ref (ad i)), .val (.int (1 : Int32))] [])) _
        refine XS.aloadN X1.here hx rfl (hb hby at_30) rfl rfl ?_
        show Steps p.tables e below (T1.setTop (mkF m 31 #[.val (.int p0), .val (.int ((p0 &&& (2147483647 : Int32)) % (25 : Int32))), .val (.ref (ad i)), .val (.int (1 : Int32))] [(.ref (ad i))])) _
        refine st9.trans ?_
        show Steps p.tables e below (T9.setTop (mkF m 34 #[.val (.int p0), .val (.int ((p0 &&& (2147483647 : Int32)) % (25 : Int32))), .val (.ref (ad i)), .val (.int (1 : Int32))] [(.int (own_cp i))])) _
        refine XS.iloadN X9.here hx rfl (hb hby at_34) rfl ?_
        show Steps p.tables e below (T9.setTop (mkF m 35 #[.val (.int p0), .val (.int ((p0 &&& (2147483647 : Int32)) % (25 : Int32))), .val (.ref (ad i)), .val (.int (1 : Int32))] [(.int (1 : Int32)), (.int (own_cp i))])) _
        refine XS.icmpNo X9.here hx rfl (hb hby at_35) rfl (teq (own_cpc hi (hk ▸ hE) (hk ▸ hG))).2 ?_
        show Steps p.tables e below (T9.setTop (mkF m 38 #[.val (.int p0), .val (.int ((p0 &&& (2147483647 : Int32)) % (25 : Int32))), .val (.ref (ad i)), .val (.int (1 : Int32))] [])) _
        refine XS.iconst X9.here hx rfl (hb hby at_38) ?_
        show Steps p.tables e below (T9.setTop (mkF m 39 #[.val (.int p0), .val (.int ((p0 &&& (2147483647 : Int32)) % (25 : Int32))), .val (.ref (ad i)), .val (.int (1 : Int32))] [(.int (1 : Int32))])) _
        refine XS.goto X9.here hx rfl (pc0 := 39) (pc' := 43) rfl (hb hby at_39) (by decide) (by decide) ?_
        show Steps p.tables e below (T9.setTop (mkF m 43 #[.val (.int p0), .val (.int ((p0 &&& (2147483647 : Int32)) % (25 : Int32))), .val (.ref (ad i)), .val (.int (1 : Int32))] [(.int (1 : Int32))])) _
        exact retN X9 hx (t := .boolean) Bd.returns (by simp) (hb hby at_43) hr
      · show Q0 Z p0 ad h0 n0 _ T9.heap _
        rw [e9]
        exact ⟨rfl, N10⟩
set_option maxHeartbeats 40000000 in
theorem comes_1 {Post : Tables → Env → Array Value → State → Outcome → State → Prop} (hpost : ∀ tb e args s v u, (limb_1_1.after args s (.returned v) u = true ∧ limb_1_2.after args s (.returned v) u = true ∧ True) → FrameEnd s (.returned v) u (Jvm.fieldLocs frame_1_writes args s ++ Jvm.arrayLocs frame_1_arrays args s ++ Jvm.staticLocs frame_1_statics s) 0 0 → Post tb e args s (.returned v) u) :
    ArmFor flags0 classFile x code maxLocals ret World_1 tables_1 room_1 Calls_1 rest_1 Pre_1 Post := by
  intro l hfl _ _ p e ha hc hk s m args below hf hA hF happ hP
  obtain ⟨hcalls, hrest, hpre⟩ := hP
  obtain ⟨-, -, -, hnamed, -, -, -, hat⟩ := (Spec.applies_iff hf).mp happ
  obtain ⟨hg, hn⟩ := and_e (Cond.before_iff.mp (show (Jvm.Cond.and given_1 narrow_1).before args s = true from hpre))
  obtain ⟨g1, g2⟩ := and_e hg
  obtain ⟨w0, rfl⟩ : ∃ w0 : Value, args = #[w0] := by
    have hs : args.size = 1 := by simpa [Cond.value, given_1] using g1
    obtain ⟨L⟩ := args
    match L, hs with
    | [w0], _ => exact ⟨w0, rfl⟩
  have hw := fun d (hd : d ∈ tables_1) => atoms_spec (ws := Jvm.Cond.code x code maxLocals ret :: tables_1) hat d (List.mem_cons_of_mem _ hd)
  have hfit : Fit s := fun {y c} hc i hi => by
    obtain ⟨ha, rfl⟩ := Array.getElem?_eq_some_iff.mp hc
    have q := List.all_eq_true.mp ((Array.all_eq_true_iff_forall_mem.mp hF) _ (Array.getElem_mem ha)) i (List.mem_range.mpr hi)
    simpa [Array.getElem?_eq_getElem hi] using q
  obtain ⟨i0, ei0⟩ := is_v g2
  obtain rfl : w0 = (.int i0) := Option.some.inj ei0
  obtain ⟨k1a, k1b⟩ := and_e hn
  obtain ⟨k2a, k2b⟩ := and_e k1b
  obtain ⟨k3a, k3b⟩ := and_e k2b
  obtain ⟨k4a, k4b⟩ := and_e k3b
  obtain ⟨k5a, k5b⟩ := and_e k4b
  obtain ⟨k6a, k6b⟩ := and_e k5b
  obtain ⟨k7a, k7b⟩ := and_e k6b
  obtain ⟨k8a, k8b⟩ := and_e k7b
  obtain ⟨k9a, k9b⟩ := and_e k8b
  obtain ⟨k10a, k10b⟩ := and_e k9b
  obtain ⟨k11a, k11b⟩ := and_e k10b
  obtain ⟨k12a, k12b⟩ := and_e k11b
  obtain ⟨k13a, k13b⟩ := and_e k12b
  obtain ⟨k14a, k14b⟩ := and_e k13b
  obtain ⟨k15a, k15b⟩ := and_e k14b
  obtain ⟨k16a, k16b⟩ := and_e k15b
  obtain ⟨k17a, k17b⟩ := and_e k16b
  obtain ⟨k18a, k18b⟩ := and_e k17b
  obtain ⟨k19a, k19b⟩ := and_e k18b
  obtain ⟨k20a, k20b⟩ := and_e k19b
  obtain ⟨k21a, k21b⟩ := and_e k20b
  obtain ⟨k22a, k22b⟩ := and_e k21b
  obtain ⟨k23a, k23b⟩ := and_e k22b
  obtain ⟨k24a, k24b⟩ := and_e k23b
  obtain ⟨k25a, k25b⟩ := and_e k24b
  obtain ⟨k26a, k26b⟩ := and_e k25b
  obtain ⟨k27a, k27b⟩ := and_e k26b
  obtain ⟨k28a, k28b⟩ := and_e k27b
  obtain ⟨k29a, k29b⟩ := and_e k28b
  obtain ⟨k30a, k30b⟩ := and_e k29b
  obtain ⟨k31a, k31b⟩ := and_e k30b
  obtain ⟨k32a, k32b⟩ := and_e k31b
  obtain ⟨k33a, k33b⟩ := and_e k32b
  obtain ⟨k34a, k34b⟩ := and_e k33b
  obtain ⟨k35a, k35b⟩ := and_e k34b
  obtain ⟨k36a, k36b⟩ := and_e k35b
  obtain ⟨k37a, k37b⟩ := and_e k36b
  obtain ⟨k38a, k38b⟩ := and_e k37b
  obtain ⟨k39a, k39b⟩ := and_e k38b
  obtain ⟨k40a, k40b⟩ := and_e k39b
  obtain ⟨k41a, k41b⟩ := and_e k40b
  obtain ⟨k42a, k42b⟩ := and_e k41b
  obtain ⟨k43a, k43b⟩ := and_e k42b
  obtain ⟨k44a, k44b⟩ := and_e k43b
  obtain ⟨k45a, k45b⟩ := and_e k44b
  obtain ⟨k46a, k46b⟩ := and_e k45b
  obtain ⟨k47a, k47b⟩ := and_e k46b
  obtain ⟨k48a, k48b⟩ := and_e k47b
  obtain ⟨k49a, k49b⟩ := and_e k48b
  obtain ⟨a0, ev0⟩ := exa_v k1a
  have X0 := Exa.start ev0 k1a
  have S0 := Sta.start ev0 (Or.inr ⟨(hw _ (List.mem_of_getElem? (i := 6) rfl)), (hw _ (List.mem_of_getElem? (i := 7) rfl))⟩)
  have O0 : s.fieldOf? a0 "java/lang/Enum" "ordinal" "I" = some (.int (Int32.ofNat 0)) := (fld_at ev0).symm.trans (own_eqint k3a)
  obtain ⟨a1, ev1⟩ := exa_v k27a
  have X1 := Exa.start ev1 k27a
  have S1 := Sta.start ev1 (Or.inr ⟨(hw _ (List.mem_of_getElem? (i := 6) rfl)), (hw _ (List.mem_of_getElem? (i := 41) rfl))⟩)
  have O1 : s.fieldOf? a1 "java/lang/Enum" "ordinal" "I" = some (.int (Int32.ofNat 1)) := (fld_at ev1).symm.trans (own_eqint k28a)
  obtain ⟨a2, ev2⟩ := exa_v k21a
  have X2 := Exa.start ev2 k21a
  have S2 := Sta.start ev2 (Or.inr ⟨(hw _ (List.mem_of_getElem? (i := 6) rfl)), (hw _ (List.mem_of_getElem? (i := 34) rfl))⟩)
  have O2 : s.fieldOf? a2 "java/lang/Enum" "ordinal" "I" = some (.int (Int32.ofNat 2)) := (fld_at ev2).symm.trans (own_eqint k22a)
  obtain ⟨a3, ev3⟩ := exa_v k15a
  have X3 := Exa.start ev3 k15a
  have S3 := Sta.start ev3 (Or.inr ⟨(hw _ (List.mem_of_getElem? (i := 6) rfl)), (hw _ (List.mem_of_getElem? (i := 26) rfl))⟩)
  have O3 : s.fieldOf? a3 "java/lang/Enum" "ordinal" "I" = some (.int (Int32.ofNat 3)) := (fld_at ev3).symm.trans (own_eqint k16a)
  obtain ⟨a4, ev4⟩ := exa_v k2a
  have X4 := Exa.start ev4 k2a
  have S4 := Sta.start ev4 (Or.inr ⟨(hw _ (List.mem_of_getElem? (i := 6) rfl)), (hw _ (List.mem_of_getElem? (i := 14) rfl))⟩)
  have O4 : s.fieldOf? a4 "java/lang/Enum" "ordinal" "I" = some (.int (Int32.ofNat 4)) := (fld_at ev4).symm.trans (own_eqint k4a)
  obtain ⟨a5, ev5⟩ := exa_v k5a
  have X5 := Exa.start ev5 k5a
  have S5 := Sta.start ev5 (Or.inr ⟨(hw _ (List.mem_of_getElem? (i := 6) rfl)), (hw _ (List.mem_of_getElem? (i := 16) rfl))⟩)
  have O5 : s.fieldOf? a5 "java/lang/Enum" "ordinal" "I" = some (.int (Int32.ofNat 5)) := (fld_at ev5).symm.trans (own_eqint k6a)
  obtain ⟨a6, ev6⟩ := exa_v k7a
  have X6 := Exa.start ev6 k7a
  have S6 := Sta.start ev6 (Or.inr ⟨(hw _ (List.mem_of_getElem? (i := 6) rfl)), (hw _ (List.mem_of_getElem? (i := 18) rfl))⟩)
  have O6 : s.fieldOf? a6 "java/lang/Enum" "ordinal" "I" = some (.int (Int32.ofNat 6)) := (fld_at ev6).symm.trans (own_eqint k8a)
  obtain ⟨a7, ev7⟩ := exa_v k9a
  have X7 := Exa.start ev7 k9a
  have S7 := Sta.start ev7 (Or.inr ⟨(hw _ (List.mem_of_getElem? (i := 6) rfl)), (hw _ (List.mem_of_getElem? (i := 20) rfl))⟩)
  have O7 : s.fieldOf? a7 "java/lang/Enum" "ordinal" "I" = some (.int (Int32.ofNat 7)) := (fld_at ev7).symm.trans (own_eqint k10a)
  obtain ⟨a8, ev8⟩ := exa_v k11a
  have X8 := Exa.start ev8 k11a
  have S8 := Sta.start ev8 (Or.inr ⟨(hw _ (List.mem_of_getElem? (i := 6) rfl)), (hw _ (List.mem_of_getElem? (i := 22) rfl))⟩)
  have O8 : s.fieldOf? a8 "java/lang/Enum" "ordinal" "I" = some (.int (Int32.ofNat 8)) := (fld_at ev8).symm.trans (own_eqint k12a)
  obtain ⟨a9, ev9⟩ := exa_v k13a
  have X9 := Exa.start ev9 k13a
  have S9 := Sta.start ev9 (Or.inr ⟨(hw _ (List.mem_of_getElem? (i := 6) rfl)), (hw _ (List.mem_of_getElem? (i := 24) rfl))⟩)
  have O9 : s.fieldOf? a9 "java/lang/Enum" "ordinal" "I" = some (.int (Int32.ofNat 9)) := (fld_at ev9).symm.trans (own_eqint k14a)
  obtain ⟨a10, ev10⟩ := exa_v k17a
  have X10 := Exa.start ev10 k17a
  have S10 := Sta.start ev10 (Or.inr ⟨(hw _ (List.mem_of_getElem? (i := 6) rfl)), (hw _ (List.mem_of_getElem? (i := 28) rfl))⟩)
  have O10 : s.fieldOf? a10 "java/lang/Enum" "ordinal" "I" = some (.int (Int32.ofNat 10)) := (fld_at ev10).symm.trans (own_eqint k18a)
  obtain ⟨a11, ev11⟩ := exa_v k23a
  have X11 := Exa.start ev11 k23a
  have S11 := Sta.start ev11 (Or.inr ⟨(hw _ (List.mem_of_getElem? (i := 6) rfl)), (hw _ (List.mem_of_getElem? (i := 36) rfl))⟩)
  have O11 : s.fieldOf? a11 "java/lang/Enum" "ordinal" "I" = some (.int (Int32.ofNat 11)) := (fld_at ev11).symm.trans (own_eqint k24a)
  obtain ⟨a12, ev12⟩ := exa_v k35a
  have X12 := Exa.start ev12 k35a
  have S12 := Sta.start ev12 (Or.inr ⟨(hw _ (List.mem_of_getElem? (i := 6) rfl)), (hw _ (List.mem_of_getElem? (i := 49) rfl))⟩)
  have O12 : s.fieldOf? a12 "java/lang/Enum" "ordinal" "I" = some (.int (Int32.ofNat 12)) := (fld_at ev12).symm.trans (own_eqint k36a)
  obtain ⟨a13, ev13⟩ := exa_v k45a
  have X13 := Exa.start ev13 k45a
  have S13 := Sta.start ev13 (Or.inr ⟨(hw _ (List.mem_of_getElem? (i := 6) rfl)), (hw _ (List.mem_of_getElem? (i := 62) rfl))⟩)
  have O13 : s.fieldOf? a13 "java/lang/Enum" "ordinal" "I" = some (.int (Int32.ofNat 13)) := (fld_at ev13).symm.trans (own_eqint k46a)
  obtain ⟨a14, ev14⟩ := exa_v k43a
  have X14 := Exa.start ev14 k43a
  have S14 := Sta.start ev14 (Or.inr ⟨(hw _ (List.mem_of_getElem? (i := 6) rfl)), (hw _ (List.mem_of_getElem? (i := 59) rfl))⟩)
  have O14 : s.fieldOf? a14 "java/lang/Enum" "ordinal" "I" = some (.int (Int32.ofNat 14)) := (fld_at ev14).symm.trans (own_eqint k44a)
  obtain ⟨a15, ev15⟩ := exa_v k31a
  have X15 := Exa.start ev15 k31a
  have S15 := Sta.start ev15 (Or.inr ⟨(hw _ (List.mem_of_getElem? (i := 6) rfl)), (hw _ (List.mem_of_getElem? (i := 45) rfl))⟩)
  have O15 : s.fieldOf? a15 "java/lang/Enum" "ordinal" "I" = some (.int (Int32.ofNat 15)) := (fld_at ev15).symm.trans (own_eqint k32a)
  obtain ⟨a16, ev16⟩ := exa_v k33a
  have X16 := Exa.start ev16 k33a
  have S16 := Sta.start ev16 (Or.inr ⟨(hw _ (List.mem_of_getElem? (i := 6) rfl)), (hw _ (List.mem_of_getElem? (i := 47) rfl))⟩)
  have O16 : s.fieldOf? a16 "java/lang/Enum" "ordinal" "I" = some (.int (Int32.ofNat 16)) := (fld_at ev16).symm.trans (own_eqint k34a)
  obtain ⟨a17, ev17⟩ := exa_v k39a
  have X17 := Exa.start ev17 k39a
  have S17 := Sta.start ev17 (Or.inr ⟨(hw _ (List.mem_of_getElem? (i := 6) rfl)), (hw _ (List.mem_of_getElem? (i := 53) rfl))⟩)
  have O17 : s.fieldOf? a17 "java/lang/Enum" "ordinal" "I" = some (.int (Int32.ofNat 17)) := (fld_at ev17).symm.trans (own_eqint k40a)
  obtain ⟨a18, ev18⟩ := exa_v k47a
  have X18 := Exa.start ev18 k47a
  have S18 := Sta.start ev18 (Or.inr ⟨(hw _ (List.mem_of_getElem? (i := 6) rfl)), (hw _ (List.mem_of_getElem? (i := 64) rfl))⟩)
  have O18 : s.fieldOf? a18 "java/lang/Enum" "ordinal" "I" = some (.int (Int32.ofNat 18)) := (fld_at ev18).symm.trans (own_eqint k48a)
  obtain ⟨a19, ev19⟩ := exa_v k29a
  have X19 := Exa.start ev19 k29a
  have S19 := Sta.start ev19 (Or.inr ⟨(hw _ (List.mem_of_getElem? (i := 6) rfl)), (hw _ (List.mem_of_getElem? (i := 43) rfl))⟩)
  have O19 : s.fieldOf? a19 "java/lang/Enum" "ordinal" "I" = some (.int (Int32.ofNat 19)) := (fld_at ev19).symm.trans (own_eqint k30a)
  obtain ⟨a20, ev20⟩ := exa_v k25a
  have X20 := Exa.start ev20 k25a
  have S20 := Sta.start ev20 (Or.inr ⟨(hw _ (List.mem_of_getElem? (i := 6) rfl)), (hw _ (List.mem_of_getElem? (i := 38) rfl))⟩)
  have O20 : s.fieldOf? a20 "java/lang/Enum" "ordinal" "I" = some (.int (Int32.ofNat 20)) := (fld_at ev20).symm.trans (own_eqint k26a)
  obtain ⟨a21, ev21⟩ := exa_v k49a
  have X21 := Exa.start ev21 k49a
  have S21 := Sta.start ev21 (Or.inr ⟨(hw _ (List.mem_of_getElem? (i := 6) rfl)), (hw _ (List.mem_of_getElem? (i := 66) rfl))⟩)
  have O21 : s.fieldOf? a21 "java/lang/Enum" "ordinal" "I" = some (.int (Int32.ofNat 21)) := (fld_at ev21).symm.trans (own_eqint k49b)
  obtain ⟨a22, ev22⟩ := exa_v k37a
  have X22 := Exa.start ev22 k37a
  have S22 := Sta.start ev22 (Or.inr ⟨(hw _ (List.mem_of_getElem? (i := 6) rfl)), (hw _ (List.mem_of_getElem? (i := 51) rfl))⟩)
  have O22 : s.fieldOf? a22 "java/lang/Enum" "ordinal" "I" = some (.int (Int32.ofNat 22)) := (fld_at ev22).symm.trans (own_eqint k38a)
  obtain ⟨a23, ev23⟩ := exa_v k41a
  have X23 := Exa.start ev23 k41a
  have S23 := Sta.start ev23 (Or.inr ⟨(hw _ (List.mem_of_getElem? (i := 6) rfl)), (hw _ (List.mem_of_getElem? (i := 56) rfl))⟩)
  have O23 : s.fieldOf? a23 "java/lang/Enum" "ordinal" "I" = some (.int (Int32.ofNat 23)) := (fld_at ev23).symm.trans (own_eqint k42a)
  obtain ⟨a24, ev24⟩ := exa_v k19a
  have X24 := Exa.start ev24 k19a
  have S24 := Sta.start ev24 (Or.inr ⟨(hw _ (List.mem_of_getElem? (i := 6) rfl)), (hw _ (List.mem_of_getElem? (i := 31) rfl))⟩)
  have O24 : s.fieldOf? a24 "java/lang/Enum" "ordinal" "I" = some (.int (Int32.ofNat 24)) := (fld_at ev24).symm.trans (own_eqint k20a)
  obtain ⟨ad, had⟩ : ∃ ad : Nat → Addr, ad = fun i => ([a0, a1, a2, a3, a4, a5, a6, a7, a8, a9, a10, a11, a12, a13, a14, a15, a16, a17, a18, a19, a20, a21, a22, a23, a24] : List Addr).getD i 0 := ⟨_, rfl⟩
  have hS : own_S s s.heap ad := by subst had; exact ⟨S0, S1, S2, S3, S4, S5, S6, S7, S8, S9, S10, S11, S12, S13, S14, S15, S16, S17, S18, S19, S20, S21, S22, S23, S24⟩
  have hX : ∀ i, i < 25 → Exa s s.heap (ad i) "com/example/tracelint/tracelint/spec/Operator" := fun i hi => by
    subst had
    match i, hi with
    | 0, _ => exact X0
    | 1, _ => exact X1
    | 2, _ => exact X2
    | 3, _ => exact X3
    | 4, _ => exact X4
    | 5, _ => exact X5
    | 6, _ => exact X6
    | 7, _ => exact X7
    | 8, _ => exact X8
    | 9, _ => exact X9
    | 10, _ => exact X10
    | 11, _ => exact X11
    | 12, _ => exact X12
    | 13, _ => exact X13
    | 14, _ => exact X14
    | 15, _ => exact X15
    | 16, _ => exact X16
    | 17, _ => exact X17
    | 18, _ => exact X18
    | 19, _ => exact X19
    | 20, _ => exact X20
    | 21, _ => exact X21
    | 22, _ => exact X22
    | 23, _ => exact X23
    | 24, _ => exact X24
    | n + 25, h => exact absurd h (by omega)
  have hO : ∀ i, i < 25 → s.fieldOf? (ad i) "java/lang/Enum" "ordinal" "I" = some (.int (Int32.ofNat i)) := fun i hi => by
    subst had
    match i, hi with
    | 0, _ => exact O0
    | 1, _ => exact O1
    | 2, _ => exact O2
    | 3, _ => exact O3
    | 4, _ => exact O4
    | 5, _ => exact O5
    | 6, _ => exact O6
    | 7, _ => exact O7
    | 8, _ => exact O8
    | 9, _ => exact O9
    | 10, _ => exact O10
    | 11, _ => exact O11
    | 12, _ => exact O12
    | 13, _ => exact O13
    | 14, _ => exact O14
    | 15, _ => exact O15
    | 16, _ => exact O16
    | 17, _ => exact O17
    | 18, _ => exact O18
    | 19, _ => exact O19
    | 20, _ => exact O20
    | 21, _ => exact O21
    | 22, _ => exact O22
    | 23, _ => exact O23
    | 24, _ => exact O24
    | n + 25, h => exact absurd h (by omega)
  have hD : ∀ i j, i < 25 → j < 25 → ad i = ad j → i = j := fun i j h1 h2 q => by
    have e1 := hO i h1
    rw [q, hO j h2] at e1
    exact ((own_lit (by omega) (by omega)).1.mp (Value.int.inj (Option.some.inj e1))).symm
  obtain ⟨n, o, h1, h2, h3, _, L, rfl, ⟨rfl, N⟩, hq⟩ := rm0 l s _ hw tables_1 i0 ad s.heap s.heap.size (Nat.le_refl _) hX hD hS p e ha hc hk s m _ below hf ((Spec.applies_iff_loose hf).mp happ).1 ⟨rfl, State.Warmed39.refl s, rfl⟩ trivial
  refine ⟨n, _, h1, h2, h3, hpost _ _ _ _ _ _ ⟨Cond.after_iff.mpr rfl, Cond.after_iff.mpr (eq_i res_at (Term.int_eval (1)) rfl), trivial⟩ ⟨hq.1, hq.2.1, (hq.2.2.sift fun y hy => Or.inr (N y hy)).mono (by decide) (by decide)⟩⟩
theorem main_1_1 : Claimed_1_1 := comes_1 fun _ _ _ _ _ _ h hF => ⟨h.1, hF⟩
theorem main_1_2 : Claimed_1_2 := comes_1 fun _ _ _ _ _ _ h hF => ⟨h.2.1, hF⟩
end Jvm.Pilot.@@N@@
namespace Jvm.Pilot.@@N@@
open Jvm Jvm.ClassFile Sem Op Lib Jvm.Free Jvm.Stand Jvm.Pilot.@@N@@.Jvm.D
/-! MADE BY PROGRAM (witnessworld.py) out of the Statement's table words and the real class files: 12 classes; the members and pool entries that the words name. The judged class is class 1, her method 2. -/
namespace start1
open Jvm.ClassFile
def u (s : String) : CpInfo := .utf8 (stringToUtf16 s)
/-- a pool by its gaps: so many unusable entries, then the entry; so many at the end -/
def gap : Nat → List CpInfo → List CpInfo
  | 0, r => r
  | n + 1, r => .unusable :: gap n r
def poolList (es : List (Nat × CpInfo)) (last : Nat) : List CpInfo := es.foldr (fun e r => gap e.1 (e.2 :: r)) (gap last [])
def pool (es : List (Nat × CpInfo)) (last : Nat) : Array CpInfo := ⟨poolList es last⟩
def fileOf (pool : Array CpInfo) (this : Nat) (attrs : Array Attribute := #[]) (ms : Array MethodInfo := #[]) (fl : Nat := 33) (sup : Nat := 0) (ifs : Array Nat := #[]) (fds : Array FieldInfo := #[]) : ClassFile where
  minorVersion := 0
  majorVersion := 65
  constantPool := pool
  accessFlags := fl
  thisClass := this
  superClass := sup
  interfaces := ifs
  fields := fds
  methods := ms
  attributes := attrs
def plain (name : String) (sup : Option ClassId) : Class where
  name := name
  kind := .ordinary
  loader := none
  accessFlags := 33
  super := sup
  interfaces := #[]
  cf := none
  fields := #[]
  methods := #[]
  instanceTypes := #[]
  staticTypes := #[]
  resolved := #[]
  callSites := []
  init := .initialized
  statics := none
  mirror := none

def pool0 : Array CpInfo := pool [(5, u "<init>"), (0, u "()V"), (1, .class_ 10), (1, u "java/lang/Object")] 113

def k0m0 : Method := { name := "<init>", desc := "()V", sig := { parameters := [], returnType := none }, accessFlags := 1, code := none }
/-- java/lang/Object -/
def k0 : Class := { plain "java/lang/Object" none with
  accessFlags := 33
  interfaces := #[]
  cf := some (fileOf pool0 8 #[] #[{ accessFlags := 1, nameIndex := 5, descriptorIndex := 6, attributes := #[] }] 33 0 #[] #[])
  fields := #[]
  methods := #[k0m0]
  instanceTypes := #[]
  staticTypes := #[]
  resolved := Array.replicate 124 none
  statics := none }

def pool1 : Array CpInfo := pool [(2, .class_ 4), (1, u "java/lang/Object"), (0, u "<init>"), (0, u "()V"), (0, .fieldref 8 9), (0, .class_ 10), (0, .nameAndType 11 12), (0, u "com/example/tracelint/tracelint/spec/Operator"), (0, u "TRUE"), (0, u "Lcom/example/tracelint/tracelint/spec/Operator;"), (0, .fieldref 8 14), (0, .nameAndType 15 12), (0, u "FALSE"), (0, .fieldref 8 17), (0, .nameAndType 18 12), (0, u "ATOM"), (0, .fieldref 8 20), (0, .nameAndType 21 12), (0, u "RULE"), (0, .fieldref 8 23), (0, .nameAndType 24 12), (0, u "EQUAL"), (0, .fieldref 8 26), (0, .nameAndType 27 12), (0, u "NOT_EQUAL"), (0, .fieldref 8 29), (0, .nameAndType 30 12), (0, u "LESS"), (0, .fieldref 8 32), (0, .nameAndType 33 12), (0, u "LESS_OR_EQUAL"), (0, .fieldref 8 35), (0, .nameAndType 36 12), (0, u "GREATER"), (0, .fieldref 8 38), (0, .nameAndType 39 12), (0, u "GREATER_OR_EQUAL"), (0, .fieldref 8 41), (0, .nameAndType 42 12), (0, u "NOT"), (0, .fieldref 8 44), (0, .nameAndType 45 12), (0, u "PREV"), (0, .fieldref 8 47), (0, .nameAndType 48 12), (0, u "ONCE"), (0, .fieldref 8 50), (0, .nameAndType 51 12), (0, u "HISTORICALLY"), (0, .fieldref 8 53), (0, .nameAndType 54 12), (0, u "NEXT"), (0, .fieldref 8 56), (0, .nameAndType 57 12), (0, u "EVENTUALLY"), (0, .fieldref 8 59), (0, .nameAndType 60 12), (0, u "ALWAYS"), (0, .fieldref 8 62), (0, .nameAndType 63 12), (0, u "FORALL"), (0, .fieldref 8 65), (0, .nameAndType 66 12), (0, u "EXISTS"), (0, .fieldref 8 68), (0, .nameAndType 69 12), (0, u "IFF"), (0, .fieldref 8 71), (0, .nameAndType 72 12), (0, u "IMPLIES"), (0, .fieldref 8 74), (0, .nameAndType 75 12), (0, u "OR"), (0, .fieldref 8 77), (0, .nameAndType 78 12), (0, u "AND"), (0, .fieldref 8 80), (0, .nameAndType 81 12), (0, u "SINCE"), (0, .fieldref 8 83), (0, .nameAndType 84 12), (0, u "UNTIL"), (0, .integer 2147483647), (0, .methodref 87 88), (0, .class_ 89), (0, .nameAndType 90 91), (0, u "com/example/tracelint/tracelint/spec/OperatorIsComparisonPinLaw"), (0, u "pick"), (0, u "(I)Lcom/example/tracelint/tracelint/spec/Operator;"), (0, .methodref 8 93), (0, .nameAndType 94 95), (0, u "isComparison"), (0, u "()Z"), (3, u "law"), (0, u "(I)Z")] 2

def k1m0 : Method := { name := "<init>", desc := "()V", sig := { parameters := [], returnType := none }, accessFlags := 2, code := none }
def k1c1 : Code := { maxStack := 2, maxLocals := 1, code := method_2_code, exceptionTable := #[], attributes := #[] }
def k1m1 : Method := { name := "pick", desc := "(I)Lcom/example/tracelint/tracelint/spec/Operator;", sig := { parameters := [.int], returnType := some (.object "com/example/tracelint/tracelint/spec/Operator") }, accessFlags := 10, code := some k1c1 }
def k1c2 : Code := { maxStack := 2, maxLocals := 4, code := code, exceptionTable := #[], attributes := #[] }
def k1m2 : Method := { name := "law", desc := "(I)Z", sig := { parameters := [.int], returnType := some .boolean }, accessFlags := 9, code := some k1c2 }
/-- com/example/tracelint/tracelint/spec/OperatorIsComparisonPinLaw -/
def k1 : Class := { plain "com/example/tracelint/tracelint/spec/OperatorIsComparisonPinLaw" (some 0) with
  accessFlags := 49
  interfaces := #[]
  cf := some (fileOf pool1 87 #[] #[{ accessFlags := 2, nameIndex := 5, descriptorIndex := 6, attributes := #[] }, { accessFlags := 10, nameIndex := 90, descriptorIndex := 91, attributes := #[] }, { accessFlags := 9, nameIndex := 99, descriptorIndex := 100, attributes := #[] }] 49 2 #[] #[])
  fields := #[]
  methods := #[k1m0, k1m1, k1m2]
  instanceTypes := #[]
  staticTypes := #[]
  resolved := Array.replicate 103 none
  statics := none }

def pool2 : Array CpInfo := pool [(1, .class_ 2), (0, u "java/lang/constant/Constable"), (0, .class_ 4), (0, u "java/lang/Object")] 6

/-- java/lang/constant/Constable -/
def k2 : Class := { plain "java/lang/constant/Constable" (some 0) with
  accessFlags := 1537
  interfaces := #[]
  cf := some (fileOf pool2 1 #[] #[] 1537 3 #[] #[])
  fields := #[]
  methods := #[]
  instanceTypes := #[]
  staticTypes := #[]
  resolved := Array.replicate 11 none
  statics := none }

def pool3 : Array CpInfo := pool [(1, .class_ 2), (0, u "java/lang/Comparable"), (0, .class_ 4), (0, u "java/lang/Object")] 7

/-- java/lang/Comparable -/
def k3 : Class := { plain "java/lang/Comparable" (some 0) with
  accessFlags := 1537
  interfaces := #[]
  cf := some (fileOf pool3 1 #[] #[] 1537 3 #[] #[])
  fields := #[]
  methods := #[]
  instanceTypes := #[]
  staticTypes := #[]
  resolved := Array.replicate 12 none
  statics := none }

def pool4 : Array CpInfo := pool [(1, .class_ 2), (0, u "java/io/Serializable"), (0, .class_ 4), (0, u "java/lang/Object")] 2

/-- java/io/Serializable -/
def k4 : Class := { plain "java/io/Serializable" (some 0) with
  accessFlags := 1537
  interfaces := #[]
  cf := some (fileOf pool4 1 #[] #[] 1537 3 #[] #[])
  fields := #[]
  methods := #[]
  instanceTypes := #[]
  staticTypes := #[]
  resolved := Array.replicate 7 none
  statics := none }

def pool5 : Array CpInfo := pool [(2, .class_ 4), (1, u "java/lang/Enum"), (0, u "name"), (0, u "Ljava/lang/String;"), (2, u "ordinal"), (0, u "I"), (1, .class_ 14), (1, u "java/lang/Object"), (4, u "hash"), (86, .class_ 108), (1, u "java/lang/Enum$EnumDesc"), (2, .class_ 112), (0, u "java/lang/constant/Constable"), (0, .class_ 114), (0, u "java/lang/Comparable"), (0, .class_ 116), (0, u "java/io/Serializable")] 87

/-- java/lang/Enum -/
def k5 : Class := { plain "java/lang/Enum" (some 0) with
  accessFlags := 1057
  interfaces := #[2, 3, 4]
  cf := some (fileOf pool5 2 #[.nestMembers #[106]] #[] 1057 12 #[111, 113, 115] #[{ accessFlags := 18, nameIndex := 5, descriptorIndex := 6, attributes := #[] }, { accessFlags := 18, nameIndex := 9, descriptorIndex := 10, attributes := #[] }, { accessFlags := 2, nameIndex := 19, descriptorIndex := 10, attributes := #[] }])
  fields := #[{ name := "name", type := (.object "java/lang/String"), accessFlags := 18, slot := 0, constantValue := 0 }, { name := "ordinal", type := .int, accessFlags := 18, slot := 1, constantValue := 0 }, { name := "hash", type := .int, accessFlags := 2, slot := 2, constantValue := 0 }]
  methods := #[]
  instanceTypes := #[(.object "java/lang/String"), .int, .int]
  staticTypes := #[]
  resolved := Array.replicate 204 none
  statics := none }

def pool6 : Array CpInfo := pool [(1, .class_ 2), (0, u "com/example/tracelint/tracelint/spec/Operator"), (2, u "TRUE"), (0, u "Lcom/example/tracelint/tracelint/spec/Operator;"), (2, u "FALSE"), (2, u "ATOM"), (2, u "RULE"), (0, .fieldref 1 17), (0, .nameAndType 18 6), (0, u "EQUAL"), (0, .fieldref 1 20), (0, .nameAndType 21 6), (0, u "NOT_EQUAL"), (0, .fieldref 1 23), (0, .nameAndType 24 6), (0, u "LESS"), (0, .fieldref 1 26), (0, .nameAndType 27 6), (0, u "LESS_OR_EQUAL"), (0, .fieldref 1 29), (0, .nameAndType 30 6), (0, u "GREATER"), (0, .fieldref 1 32), (0, .nameAndType 33 6), (0, u "GREATER_OR_EQUAL"), (2, u "NOT"), (2, u "PREV"), (2, u "ONCE"), (2, u "HISTORICALLY"), (2, u "NEXT"), (2, u "EVENTUALLY"), (2, u "ALWAYS"), (2, u "FORALL"), (2, u "EXISTS"), (2, u "IFF"), (2, u "IMPLIES"), (2, u "OR"), (2, u "AND"), (2, u "SINCE"), (2, u "UNTIL"), (2, u "$VALUES"), (0, u "[Lcom/example/tracelint/tracelint/spec/Operator;"), (6, .class_ 91), (1, u "java/lang/Enum"), (11, u "symbol"), (0, u "Ljava/lang/String;"), (2, u "arity"), (0, u "I"), (2, u "precedence"), (2, u "rightAssociative"), (0, u "Z"), (2, u "quantifier"), (102, u "()Z"), (1, u "isComparison")] 8

def k6c0 : Code := { maxStack := 2, maxLocals := 1, code := prog_39_method_13_code, exceptionTable := #[], attributes := #[] }
def k6m0 : Method := { name := "isComparison", desc := "()Z", sig := { parameters := [], returnType := some .boolean }, accessFlags := 1, code := some k6c0 }
/-- com/example/tracelint/tracelint/spec/Operator -/
def k6 : Class := { plain "com/example/tracelint/tracelint/spec/Operator" (some 5) with
  accessFlags := 16433
  interfaces := #[]
  cf := some (fileOf pool6 1 #[] #[{ accessFlags := 1, nameIndex := 223, descriptorIndex := 221, attributes := #[] }] 16433 89 #[] #[{ accessFlags := 16409, nameIndex := 5, descriptorIndex := 6, attributes := #[] }, { accessFlags := 16409, nameIndex := 9, descriptorIndex := 6, attributes := #[] }, { accessFlags := 16409, nameIndex := 12, descriptorIndex := 6, attributes := #[] }, { accessFlags := 16409, nameIndex := 15, descriptorIndex := 6, attributes := #[] }, { accessFlags := 16409, nameIndex := 18, descriptorIndex := 6, attributes := #[] }, { accessFlags := 16409, nameIndex := 21, descriptorIndex := 6, attributes := #[] }, { accessFlags := 16409, nameIndex := 24, descriptorIndex := 6, attributes := #[] }, { accessFlags := 16409, nameIndex := 27, descriptorIndex := 6, attributes := #[] }, { accessFlags := 16409, nameIndex := 30, descriptorIndex := 6, attributes := #[] }, { accessFlags := 16409, nameIndex := 33, descriptorIndex := 6, attributes := #[] }, { accessFlags := 16409, nameIndex := 36, descriptorIndex := 6, attributes := #[] }, { accessFlags := 16409, nameIndex := 39, descriptorIndex := 6, attributes := #[] }, { accessFlags := 16409, nameIndex := 42, descriptorIndex := 6, attributes := #[] }, { accessFlags := 16409, nameIndex := 45, descriptorIndex := 6, attributes := #[] }, { accessFlags := 16409, nameIndex := 48, descriptorIndex := 6, attributes := #[] }, { accessFlags := 16409, nameIndex := 51, descriptorIndex := 6, attributes := #[] }, { accessFlags := 16409, nameIndex := 54, descriptorIndex := 6, attributes := #[] }, { accessFlags := 16409, nameIndex := 57, descriptorIndex := 6, attributes := #[] }, { accessFlags := 16409, nameIndex := 60, descriptorIndex := 6, attributes := #[] }, { accessFlags := 16409, nameIndex := 63, descriptorIndex := 6, attributes := #[] }, { accessFlags := 16409, nameIndex := 66, descriptorIndex := 6, attributes := #[] }, { accessFlags := 16409, nameIndex := 69, descriptorIndex := 6, attributes := #[] }, { accessFlags := 16409, nameIndex := 72, descriptorIndex := 6, attributes := #[] }, { accessFlags := 16409, nameIndex := 75, descriptorIndex := 6, attributes := #[] }, { accessFlags := 16409, nameIndex := 78, descriptorIndex := 6, attributes := #[] }, { accessFlags := 18, nameIndex := 103, descriptorIndex := 104, attributes := #[] }, { accessFlags := 18, nameIndex := 107, descriptorIndex := 108, attributes := #[] }, { accessFlags := 18, nameIndex := 111, descriptorIndex := 108, attributes := #[] }, { accessFlags := 18, nameIndex := 114, descriptorIndex := 115, attributes := #[] }, { accessFlags := 18, nameIndex := 118, descriptorIndex := 115, attributes := #[] }, { accessFlags := 4122, nameIndex := 81, descriptorIndex := 82, attributes := #[] }])
  fields := #[{ name := "TRUE", type := (.object "com/example/tracelint/tracelint/spec/Operator"), accessFlags := 16409, slot := 0, constantValue := 0 }, { name := "FALSE", type := (.object "com/example/tracelint/tracelint/spec/Operator"), accessFlags := 16409, slot := 1, constantValue := 0 }, { name := "ATOM", type := (.object "com/example/tracelint/tracelint/spec/Operator"), accessFlags := 16409, slot := 2, constantValue := 0 }, { name := "RULE", type := (.object "com/example/tracelint/tracelint/spec/Operator"), accessFlags := 16409, slot := 3, constantValue := 0 }, { name := "EQUAL", type := (.object "com/example/tracelint/tracelint/spec/Operator"), accessFlags := 16409, slot := 4, constantValue := 0 }, { name := "NOT_EQUAL", type := (.object "com/example/tracelint/tracelint/spec/Operator"), accessFlags := 16409, slot := 5, constantValue := 0 }, { name := "LESS", type := (.object "com/example/tracelint/tracelint/spec/Operator"), accessFlags := 16409, slot := 6, constantValue := 0 }, { name := "LESS_OR_EQUAL", type := (.object "com/example/tracelint/tracelint/spec/Operator"), accessFlags := 16409, slot := 7, constantValue := 0 }, { name := "GREATER", type := (.object "com/example/tracelint/tracelint/spec/Operator"), accessFlags := 16409, slot := 8, constantValue := 0 }, { name := "GREATER_OR_EQUAL", type := (.object "com/example/tracelint/tracelint/spec/Operator"), accessFlags := 16409, slot := 9, constantValue := 0 }, { name := "NOT", type := (.object "com/example/tracelint/tracelint/spec/Operator"), accessFlags := 16409, slot := 10, constantValue := 0 }, { name := "PREV", type := (.object "com/example/tracelint/tracelint/spec/Operator"), accessFlags := 16409, slot := 11, constantValue := 0 }, { name := "ONCE", type := (.object "com/example/tracelint/tracelint/spec/Operator"), accessFlags := 16409, slot := 12, constantValue := 0 }, { name := "HISTORICALLY", type := (.object "com/example/tracelint/tracelint/spec/Operator"), accessFlags := 16409, slot := 13, constantValue := 0 }, { name := "NEXT", type := (.object "com/example/tracelint/tracelint/spec/Operator"), accessFlags := 16409, slot := 14, constantValue := 0 }, { name := "EVENTUALLY", type := (.object "com/example/tracelint/tracelint/spec/Operator"), accessFlags := 16409, slot := 15, constantValue := 0 }, { name := "ALWAYS", type := (.object "com/example/tracelint/tracelint/spec/Operator"), accessFlags := 16409, slot := 16, constantValue := 0 }, { name := "FORALL", type := (.object "com/example/tracelint/tracelint/spec/Operator"), accessFlags := 16409, slot := 17, constantValue := 0 }, { name := "EXISTS", type := (.object "com/example/tracelint/tracelint/spec/Operator"), accessFlags := 16409, slot := 18, constantValue := 0 }, { name := "IFF", type := (.object "com/example/tracelint/tracelint/spec/Operator"), accessFlags := 16409, slot := 19, constantValue := 0 }, { name := "IMPLIES", type := (.object "com/example/tracelint/tracelint/spec/Operator"), accessFlags := 16409, slot := 20, constantValue := 0 }, { name := "OR", type := (.object "com/example/tracelint/tracelint/spec/Operator"), accessFlags := 16409, slot := 21, constantValue := 0 }, { name := "AND", type := (.object "com/example/tracelint/tracelint/spec/Operator"), accessFlags := 16409, slot := 22, constantValue := 0 }, { name := "SINCE", type := (.object "com/example/tracelint/tracelint/spec/Operator"), accessFlags := 16409, slot := 23, constantValue := 0 }, { name := "UNTIL", type := (.object "com/example/tracelint/tracelint/spec/Operator"), accessFlags := 16409, slot := 24, constantValue := 0 }, { name := "symbol", type := (.object "java/lang/String"), accessFlags := 18, slot := 3, constantValue := 0 }, { name := "arity", type := .int, accessFlags := 18, slot := 4, constantValue := 0 }, { name := "precedence", type := .int, accessFlags := 18, slot := 5, constantValue := 0 }, { name := "rightAssociative", type := .boolean, accessFlags := 18, slot := 6, constantValue := 0 }, { name := "quantifier", type := .boolean, accessFlags := 18, slot := 7, constantValue := 0 }, { name := "$VALUES", type := (.array (.object "com/example/tracelint/tracelint/spec/Operator")), accessFlags := 4122, slot := 25, constantValue := 0 }]
  methods := #[k6m0]
  instanceTypes := #[(.object "java/lang/String"), .int, .int, (.object "java/lang/String"), .int, .int, .boolean, .boolean]
  staticTypes := #[(.object "com/example/tracelint/tracelint/spec/Operator"), (.object "com/example/tracelint/tracelint/spec/Operator"), (.object "com/example/tracelint/tracelint/spec/Operator"), (.object "com/example/tracelint/tracelint/spec/Operator"), (.object "com/example/tracelint/tracelint/spec/Operator"), (.object "com/example/tracelint/tracelint/spec/Operator"), (.object "com/example/tracelint/tracelint/spec/Operator"), (.object "com/example/tracelint/tracelint/spec/Operator"), (.object "com/example/tracelint/tracelint/spec/Operator"), (.object "com/example/tracelint/tracelint/spec/Operator"), (.object "com/example/tracelint/tracelint/spec/Operator"), (.object "com/example/tracelint/tracelint/spec/Operator"), (.object "com/example/tracelint/tracelint/spec/Operator"), (.object "com/example/tracelint/tracelint/spec/Operator"), (.object "com/example/tracelint/tracelint/spec/Operator"), (.object "com/example/tracelint/tracelint/spec/Operator"), (.object "com/example/tracelint/tracelint/spec/Operator"), (.object "com/example/tracelint/tracelint/spec/Operator"), (.object "com/example/tracelint/tracelint/spec/Operator"), (.object "com/example/tracelint/tracelint/spec/Operator"), (.object "com/example/tracelint/tracelint/spec/Operator"), (.object "com/example/tracelint/tracelint/spec/Operator"), (.object "com/example/tracelint/tracelint/spec/Operator"), (.object "com/example/tracelint/tracelint/spec/Operator"), (.object "com/example/tracelint/tracelint/spec/Operator"), (.array (.object "com/example/tracelint/tracelint/spec/Operator"))]
  resolved := Array.replicate 232 none
  statics := some 0 }

def pool7 : Array CpInfo := pool [(1, u "java/lang/Cloneable"), (0, .class_ 1), (0, u "java/lang/Object"), (0, .class_ 3)] 3

/-- java/lang/Cloneable -/
def k7 : Class := { plain "java/lang/Cloneable" (some 0) with
  accessFlags := 1537
  interfaces := #[]
  cf := some (fileOf pool7 2 #[] #[] 1537 4 #[] #[])
  fields := #[]
  methods := #[]
  instanceTypes := #[]
  staticTypes := #[]
  resolved := Array.replicate 8 none
  statics := none }

/-- the primitive byte -/
def k8 : Class := { plain "byte" none with kind := .primitive 'B', accessFlags := 0x411 }
/-- [B -/
def k9 : Class := { plain "[B" (some 0) with kind := .array 8 .byte, interfaces := #[7, 4], accessFlags := 1041 }

/-- the primitive int -/
def k10 : Class := { plain "int" none with kind := .primitive 'I', accessFlags := 0x411 }
/-- [I -/
def k11 : Class := { plain "[I" (some 0) with kind := .array 10 .int, interfaces := #[7, 4], accessFlags := 1041 }

def heap : Heap := #[{ cls := 6, slots := #[.ref 1, .ref 2, .ref 3, .ref 4, .ref 5, .ref 6, .ref 7, .ref 8, .ref 9, .ref 10, .ref 11, .ref 12, .ref 13, .ref 14, .ref 15, .ref 16, .ref 17, .ref 18, .ref 19, .ref 20, .ref 21, .ref 22, .ref 23, .ref 24, .ref 25, .null], vm := .statics 6 },
  { cls := 6, slots := #[.null, .int 0, .int 0, .null, .int 0, .int 0, .int 0, .int 0], vm := .none },
  { cls := 6, slots := #[.null, .int 1, .int 0, .null, .int 0, .int 0, .int 0, .int 0], vm := .none },
  { cls := 6, slots := #[.null, .int 2, .int 0, .null, .int 0, .int 0, .int 0, .int 0], vm := .none },
  { cls := 6, slots := #[.null, .int 3, .int 0, .null, .int 0, .int 0, .int 0, .int 0], vm := .none },
  { cls := 6, slots := #[.null, .int 4, .int 0, .null, .int 0, .int 0, .int 0, .int 0], vm := .none },
  { cls := 6, slots := #[.null, .int 5, .int 0, .null, .int 0, .int 0, .int 0, .int 0], vm := .none },
  { cls := 6, slots := #[.null, .int 6, .int 0, .null, .int 0, .int 0, .int 0, .int 0], vm := .none },
  { cls := 6, slots := #[.null, .int 7, .int 0, .null, .int 0, .int 0, .int 0, .int 0], vm := .none },
  { cls := 6, slots := #[.null, .int 8, .int 0, .null, .int 0, .int 0, .int 0, .int 0], vm := .none },
  { cls := 6, slots := #[.null, .int 9, .int 0, .null, .int 0, .int 0, .int 0, .int 0], vm := .none },
  { cls := 6, slots := #[.null, .int 10, .int 0, .null, .int 0, .int 0, .int 0, .int 0], vm := .none },
  { cls := 6, slots := #[.null, .int 11, .int 0, .null, .int 0, .int 0, .int 0, .int 0], vm := .none },
  { cls := 6, slots := #[.null, .int 12, .int 0, .null, .int 0, .int 0, .int 0, .int 0], vm := .none },
  { cls := 6, slots := #[.null, .int 13, .int 0, .null, .int 0, .int 0, .int 0, .int 0], vm := .none },
  { cls := 6, slots := #[.null, .int 14, .int 0, .null, .int 0, .int 0, .int 0, .int 0], vm := .none },
  { cls := 6, slots := #[.null, .int 15, .int 0, .null, .int 0, .int 0, .int 0, .int 0], vm := .none },
  { cls := 6, slots := #[.null, .int 16, .int 0, .null, .int 0, .int 0, .int 0, .int 0], vm := .none },
  { cls := 6, slots := #[.null, .int 17, .int 0, .null, .int 0, .int 0, .int 0, .int 0], vm := .none },
  { cls := 6, slots := #[.null, .int 18, .int 0, .null, .int 0, .int 0, .int 0, .int 0], vm := .none },
  { cls := 6, slots := #[.null, .int 19, .int 0, .null, .int 0, .int 0, .int 0, .int 0], vm := .none },
  { cls := 6, slots := #[.null, .int 20, .int 0, .null, .int 0, .int 0, .int 0, .int 0], vm := .none },
  { cls := 6, slots := #[.null, .int 21, .int 0, .null, .int 0, .int 0, .int 0, .int 0], vm := .none },
  { cls := 6, slots := #[.null, .int 22, .int 0, .null, .int 0, .int 0, .int 0, .int 0], vm := .none },
  { cls := 6, slots := #[.null, .int 23, .int 0, .null, .int 0, .int 0, .int 0, .int 0], vm := .none },
  { cls := 6, slots := #[.null, .int 24, .int 0, .null, .int 0, .int 0, .int 0, .int 0], vm := .none }]
def classes : Array Class := #[k0, k1, k2, k3, k4, k5, k6, k7, k8, k9, k10, k11]
def interned : List (Array UInt16 × Addr) := []
def slotsUsed : Nat := 226
def theMethod : MethodId := ⟨1, 2⟩
def args0 : Array Value := #[.int 6]
def aboutOver (below : List Frame) : State where
  vm := { classes := classes, interned := interned.toArray }
  heap := heap
  slotsUsed := slotsUsed
  threads := #[{ frames := .invoking theMethod args0 :: below }]
def below0 : List Frame := [.native { method := ⟨0, 0⟩, args := #[] }]
def about1 : State := aboutOver below0
def p0 : Program := .bare "" "" ""
def e0 : Env := launch0.env 0 0 0
theorem w_frames : about1.frames = Frame.invoking theMethod args0 :: below0 := rfl
set_option maxRecDepth 65536 in
theorem w_args : argsFit about1.vm theMethod args0 = true := by decide +kernel
set_option maxRecDepth 65536 in
theorem w_heap : heapFits about1 = true := by decide +kernel
set_option maxRecDepth 65536 in
theorem w_runnable : about1.curStatus? = some .runnable := by decide +kernel
set_option maxRecDepth 65536 in
theorem w_alone : about1.alone = true := by decide +kernel
set_option maxRecDepth 65536 in
theorem w_named : about1.methodNamed? x = some theMethod := by decide +kernel
set_option maxRecDepth 65536 in
theorem w_hears : about1.hears theMethod below0 = true := by decide +kernel
set_option maxRecDepth 65536 in
theorem w_ripe : about1.ripe theMethod args0 below0 = true := by decide +kernel
theorem w_running : about1.status = .running := rfl
set_option maxRecDepth 65536 in
theorem w_room : about1.hasRoom e0.platform room_1 = true :=
  launch0.hasRoom_least _ room_1 (by decide +kernel) (by decide +kernel) (by decide +kernel) (by decide +kernel) (by decide +kernel) (by decide +kernel)
theorem allAtoms_all (ts : List Jvm.Cond) (a : Array Jvm.Value) (st : Jvm.State) : (allAtoms ts).before a st = ts.all (fun c => c.before a st) := by
  induction ts with
  | nil => rfl
  | cons c t ih =>
    show (Jvm.Cond.and c (allAtoms t)).before a st = _
    rw [Jvm.Cond.before_and, ih, List.all_cons]
def words1 : List Jvm.Cond := Jvm.Cond.code x code maxLocals ret :: tables_1
/-- a 'code' word, met by the world's own term for the bytes: nothing is compared byte by byte -/
theorem code_word {y : MethodName} {bytes : ByteArray} {mx : Nat} {rt : Option FieldType} {a : Array Value} {s : State} {m : MethodId} {meth : Method} {c : Code} (h1 : s.methodNamed? y = some m) (h2 : s.vm.method? m = some meth) (h3 : meth.code = some c) (h4 : c.code = bytes)
    (h5 : (c.maxLocals == mx && c.exceptionTable.isEmpty && decide (c.maxStack ≤ mostOperands) && decide (meth.sig.returnType = rt) && !meth.locks && decide (parseMethodDescriptor y.desc = some meth.sig)) = true) : (Jvm.Cond.code y bytes mx rt).before a s = true := by
  simp only [Bool.and_eq_true, beq_iff_eq, Bool.not_eq_true', decide_eq_true_eq] at h5
  obtain ⟨⟨⟨⟨⟨g1, g2⟩, g3⟩, g4⟩, g5⟩, g6⟩ := h5
  simp [Cond.before, Cond.holds, Cond.value, h1, h2, h3, h4, g1, g2, g3, g4, g5, g6]
def isCode : Jvm.Cond → Bool
  | .code _ _ _ _ => true
  | _ => false
theorem all_split {L : List Jvm.Cond} {P : Jvm.Cond → Bool} (h1 : L.all (fun c => isCode c || P c) = true) (h2 : ∀ c ∈ L.filter isCode, P c = true) : L.all P = true := by
  refine List.all_eq_true.mpr fun c hc => ?_
  have h := List.all_eq_true.mp h1 c hc
  rcases Bool.eq_false_or_eq_true (isCode c) with hi | hi
  · exact h2 c (List.mem_filter.mpr ⟨hc, hi⟩)
  · simpa [hi] using h
set_option maxRecDepth 65536 in
theorem w_c0 : (Jvm.Cond.code x code maxLocals ret).before args0 about1 = true := code_word (m := ⟨1, 2⟩) (meth := k1m2) (c := k1c2) (by decide +kernel) rfl rfl rfl (by decide +kernel)
set_option maxRecDepth 65536 in
theorem w_c1 : (Jvm.Cond.code ({ cls := "com/example/tracelint/tracelint/spec/OperatorIsComparisonPinLaw", name := "pick", desc := "(I)Lcom/example/tracelint/tracelint/spec/Operator;" } : Jvm.MethodName) method_2_code (1 : Nat) (Option.some (Jvm.ClassFile.FieldType.object "com/example/tracelint/tracelint/spec/Operator"))).before args0 about1 = true := code_word (m := ⟨1, 1⟩) (meth := k1m1) (c := k1c1) (by decide +kernel) rfl rfl rfl (by decide +kernel)
set_option maxRecDepth 65536 in
theorem w_c2 : (Jvm.Cond.code ({ cls := "com/example/tracelint/tracelint/spec/Operator", name := "isComparison", desc := "()Z" } : Jvm.MethodName) prog_39_method_13_code (1 : Nat) (Option.some Jvm.ClassFile.FieldType.boolean)).before args0 about1 = true := code_word (m := ⟨6, 0⟩) (meth := k6m0) (c := k6c0) (by decide +kernel) rfl rfl rfl (by decide +kernel)
def codes1 : List Jvm.Cond := [Jvm.Cond.code x code maxLocals ret, Jvm.Cond.code ({ cls := "com/example/tracelint/tracelint/spec/OperatorIsComparisonPinLaw", name := "pick", desc := "(I)Lcom/example/tracelint/tracelint/spec/Operator;" } : Jvm.MethodName) method_2_code (1 : Nat) (Option.some (Jvm.ClassFile.FieldType.object "com/example/tracelint/tracelint/spec/Operator")), Jvm.Cond.code ({ cls := "com/example/tracelint/tracelint/spec/Operator", name := "isComparison", desc := "()Z" } : Jvm.MethodName) prog_39_method_13_code (1 : Nat) (Option.some Jvm.ClassFile.FieldType.boolean)]
set_option maxRecDepth 65536 in
theorem codes_eq : words1.filter isCode = codes1 := rfl
theorem w_codes : ∀ c ∈ words1.filter isCode, c.before args0 about1 = true := by
  rw [codes_eq]
  intro c hc
  simp only [codes1, List.mem_cons, List.not_mem_nil, or_false] at hc
  rcases hc with rfl | rfl | rfl
  · exact w_c0
  · exact w_c1
  · exact w_c2
set_option maxRecDepth 65536 in
theorem w_t1 : (words1.take 24).all (fun c => isCode c || c.before args0 about1) = true := by decide +kernel
set_option maxRecDepth 65536 in
theorem w_t2 : ((words1.drop 24).take 24).all (fun c => isCode c || c.before args0 about1) = true := by decide +kernel
set_option maxRecDepth 65536 in
theorem w_t3 : ((words1.drop 24).drop 24).all (fun c => isCode c || c.before args0 about1) = true := by decide +kernel
theorem w_tables : (allAtoms (Jvm.Cond.code x code maxLocals ret :: tables_1)).before args0 about1 = true := by
  rw [allAtoms_all]
  show words1.all (fun c => c.before args0 about1) = true
  refine all_split ?_ w_codes
  rw [← List.take_append_drop 24 words1, List.all_append, w_t1, ← List.take_append_drop 24 (words1.drop 24), List.all_append, w_t2, w_t3]
  rfl
set_option maxRecDepth 65536 in
theorem w_case : (Jvm.Cond.and given_1 narrow_1).before args0 about1 = true := by decide +kernel
theorem w_applies : (headSpec (Jvm.Cond.code x code maxLocals ret :: tables_1) room_1).applies x e0.platform about1 = true :=
  (Spec.applies_iff w_frames).mpr ⟨w_running, w_runnable, w_alone, w_named, w_hears, w_ripe, w_room, w_tables⟩
theorem atStart : AtStart classFile x code maxLocals ret World_1 tables_1 room_1 Calls_1 rest_1 Pre_1 launch0 p0 e0 about1 theMethod args0 below0 :=
  ⟨lists_1, trivial, launch0.admits_env _ _ _, launch0.least_env, fairChoices_fair.cas, fairChoices_fair.clock, w_frames, w_args, w_heap, w_applies, trivial, trivial, w_case⟩
end start1
theorem witness_1 : WitnessClaimed_1 := ⟨start1.p0, start1.e0, start1.about1, start1.theMethod, start1.args0, start1.below0, start1.atStart⟩
end Jvm.Pilot.@@N@@
