import JvmDerived
import JvmDerived.Pilot.@@N@@Statement
import JvmDerived.Pilot.@@N@@Code
set_option linter.unusedVariables false
set_option linter.unusedSimpArgs false
set_option maxRecDepth 65536
namespace Jvm.RoadKit
open Sem ClassFile Op Lib Jvm.Stand Jvm.Free Jvm.LawKit
section New
variable {p : Program} {l : Launch} {e : Env} {R : Room} {s : State} {m : MethodId} {args : Array Value} {below : List Frame} {meth : Method} {c : Code} {T : State} {locs : List Loc} {cells slots : Nat}
theorem retI (X : Stand p l e R s m args below meth c T locs cells slots) (hx : p.tables.exec = Jvm.exec) {pc : Nat} {Ls : Array Slot} {z : Int32} {rest : List Value} (hret : meth.sig.returnType = some .int) (hd : decode c.code pc = .ok (.ireturn, 1)) {fs : List Frame}
    (hl : ∀ (f : JFrame) (acts : List Action), f.method = m → f.locked = none → f.entered = [] → (doReturn e (T.setTop f) acts (some (.int z))).1 = T.setFrames fs) : Steps p.tables e below (T.setTop (mkF m pc Ls (.int z :: rest))) (T.setFrames fs) := by
  have hm' : T.vm.method? m = some meth := X.method'
  have hn : narrow .int (.int z) = .int z := rfl
  show Steps p.tables e below (T.setTop { method := m, pc := pc, locals := Ls, stack := _ :: rest, locked := none }) _
  jvm_step X.here [X.here.top, hx, hd, hm', hret, hn]
  first | (intro acts; rw [hl _ acts rfl rfl rfl]) | rw [hl _ _ rfl rfl rfl]
  exact Steps.refl _
end New
end Jvm.RoadKit
namespace Jvm.Pilot.@@N@@
open Jvm Jvm.ClassFile Sem Op Lib Jvm.Free Jvm.Stand Jvm.LawKit Jvm.RoadKit Bundle Jvm.Pilot.@@N@@.Jvm.D
def own_S (Z : State) (h : Heap) (ad : Nat → Addr) : Prop := Sta Z h "com/example/keyfold/keyfold/spec/ColumnType" "STRING" "Lcom/example/keyfold/keyfold/spec/ColumnType;" (.ref (ad 0)) ∧ Sta Z h "com/example/keyfold/keyfold/spec/ColumnType" "INT16" "Lcom/example/keyfold/keyfold/spec/ColumnType;" (.ref (ad 1)) ∧ Sta Z h "com/example/keyfold/keyfold/spec/ColumnType" "INT32" "Lcom/example/keyfold/keyfold/spec/ColumnType;" (.ref (ad 2)) ∧ Sta Z h "com/example/keyfold/keyfold/spec/ColumnType" "INT64" "Lcom/example/keyfold/keyfold/spec/ColumnType;" (.ref (ad 3)) ∧ Sta Z h "com/example/keyfold/keyfold/spec/ColumnType" "UINT16" "Lcom/example/keyfold/keyfold/spec/ColumnType;" (.ref (ad 4)) ∧ Sta Z h "com/example/keyfold/keyfold/spec/ColumnType" "UINT32" "Lcom/example/keyfold/keyfold/spec/ColumnType;" (.ref (ad 5)) ∧ Sta Z h "com/example/keyfold/keyfold/spec/ColumnType" "UINT64" "Lcom/example/keyfold/keyfold/spec/ColumnType;" (.ref (ad 6)) ∧ Sta Z h "com/example/keyfold/keyfold/spec/ColumnType" "DOUBLE" "Lcom/example/keyfold/keyfold/spec/ColumnType;" (.ref (ad 7)) ∧ Sta Z h "com/example/keyfold/keyfold/spec/ColumnType" "DATE" "Lcom/example/keyfold/keyfold/spec/ColumnType;" (.ref (ad 8))
theorem own_and (x m : Int32) (hm : 0 ≤ m.toInt) : 0 ≤ (x &&& m).toInt ∧ (x &&& m).toInt ≤ m.toInt := by
  have e : (x &&& m).toBitVec.toNat = x.toBitVec.toNat &&& m.toBitVec.toNat := by simp
  have h1 : (x &&& m).toBitVec.toNat ≤ m.toBitVec.toNat := by rw [e]; exact Nat.and_le_right
  have h2 := m.toBitVec.isLt
  rw [← Int32.toInt_toBitVec, BitVec.toInt_eq_toNat_cond] at hm ⊢
  rw [← Int32.toInt_toBitVec m, BitVec.toInt_eq_toNat_cond]
  generalize (x &&& m).toBitVec.toNat = a at *
  generalize m.toBitVec.toNat = b at *
  split at hm
  · split <;> omega
  · omega
theorem own_of (t : Int32) (n : Nat) (h0 : 0 ≤ t.toInt) (h1 : t.toInt < n) (hn : n ≤ 2 ^ 31) : ∃ k, k < n ∧ t = Int32.ofNat k ∧ t.toNatClampNeg = k := by
  refine ⟨t.toInt.toNat, by omega, ?_, ?_⟩
  · apply Int32.toInt_inj.1
    rw [Int32.toInt_ofNat_of_lt (by omega)]
    omega
  · rfl
theorem own_lit {i j : Nat} (hi : i < 1000) (hj : j < 1000) : (Int32.ofNat i = Int32.ofNat j ↔ i = j) ∧ (Int32.ofNat i < Int32.ofNat j ↔ i < j) := by
  have h1 : (Int32.ofNat i).toInt = i := Int32.toInt_ofNat_of_lt (by omega)
  have h2 : (Int32.ofNat j).toInt = j := Int32.toInt_ofNat_of_lt (by omega)
  rw [← Int32.toInt_inj, Int32.lt_iff_toInt_lt, h1, h2]
  omega
theorem own_eqint {args : Array Value} {first s : State} {o : Option Outcome} {idx : List Nat} {t : Term} {j : Int32} (h : (Cond.eq t (.int j)).value args first o s idx = some true) : t.eval args first o idx s = some (.int j) := by
  obtain ⟨x, y, h1, h2, k1, k2⟩ := cmp_v (Or.inl h)
  have e2 : Value.int j = y := Option.some.inj h2
  subst e2
  obtain ⟨z, rfl⟩ := k2
  have h3 : (Term.int j).eval args first o idx s = some (.int j) := rfl
  have : z = j := by simpa [Cond.value, h1, h3] using h
  rw [h1, this]
theorem own_rem (x n : Int32) (k : Nat) (hk : n.toInt = k) (h0 : 0 < k) (h1 : k < 1000) : ∃ i, i < k ∧ (x &&& 2147483647) % n = Int32.ofNat i := by
  have h := (own_and x 2147483647 (by decide)).1
  have e : ((x &&& 2147483647) % n).toInt = (x &&& 2147483647).toInt % k := by rw [Int32.toInt_mod, hk, Int.tmod_eq_emod_of_nonneg h]
  have b1 := Int.emod_nonneg (x &&& 2147483647).toInt (b := k) (by omega)
  have b2 := Int.emod_lt_of_pos (x &&& 2147483647).toInt (b := k) (by omega)
  obtain ⟨i, hi, q, -⟩ := own_of ((x &&& 2147483647) % n) k (by omega) (by omega) (by omega)
  exact ⟨i, hi, q⟩
def own_cp (i : Nat) : Int32 := if i = 7 then 0 else 1
theorem own_cp1 {i : Nat} (hi : i < 9) (h : Int32.ofNat i = 7) : own_cp i = 0 := if_pos ((own_lit (j := 7) (by omega) (by decide)).1.mp h)
theorem own_cp0 {i : Nat} (hi : i < 9) (h : ¬ Int32.ofNat i = 7) : own_cp i = 1 := if_neg fun q => h (by first | (rw [q]; done) | (rw [q]; rfl))
theorem d1_0 : decode method_2_code 0 = .ok (.iload_n 0, 1) := by decide +kernel
theorem d1_1 : decode method_2_code 1 = .ok (.ifCond .ne 7, 3) := by decide +kernel
theorem d1_4 : decode method_2_code 4 = .ok (.getstatic 7, 3) := by decide +kernel
theorem d1_7 : decode method_2_code 7 = .ok (.areturn, 1) := by decide +kernel
theorem d1_8 : decode method_2_code 8 = .ok (.iload_n 0, 1) := by decide +kernel
theorem d1_9 : decode method_2_code 9 = .ok (.iconst 1, 1) := by decide +kernel
theorem d1_10 : decode method_2_code 10 = .ok (.if_icmp .ne 7, 3) := by decide +kernel
theorem d1_13 : decode method_2_code 13 = .ok (.getstatic 13, 3) := by decide +kernel
theorem d1_16 : decode method_2_code 16 = .ok (.areturn, 1) := by decide +kernel
theorem d1_17 : decode method_2_code 17 = .ok (.iload_n 0, 1) := by decide +kernel
theorem d1_18 : decode method_2_code 18 = .ok (.iconst 2, 1) := by decide +kernel
theorem d1_19 : decode method_2_code 19 = .ok (.if_icmp .ne 7, 3) := by decide +kernel
theorem d1_22 : decode method_2_code 22 = .ok (.getstatic 16, 3) := by decide +kernel
theorem d1_25 : decode method_2_code 25 = .ok (.areturn, 1) := by decide +kernel
theorem d1_26 : decode method_2_code 26 = .ok (.iload_n 0, 1) := by decide +kernel
theorem d1_27 : decode method_2_code 27 = .ok (.iconst 3, 1) := by decide +kernel
theorem d1_28 : decode method_2_code 28 = .ok (.if_icmp .ne 7, 3) := by decide +kernel
theorem d1_31 : decode method_2_code 31 = .ok (.getstatic 19, 3) := by decide +kernel
theorem d1_34 : decode method_2_code 34 = .ok (.areturn, 1) := by decide +kernel
theorem d1_35 : decode method_2_code 35 = .ok (.iload_n 0, 1) := by decide +kernel
theorem d1_36 : decode method_2_code 36 = .ok (.iconst 4, 1) := by decide +kernel
theorem d1_37 : decode method_2_code 37 = .ok (.if_icmp .ne 7, 3) := by decide +kernel
theorem d1_40 : decode method_2_code 40 = .ok (.getstatic 22, 3) := by decide +kernel
theorem d1_43 : decode method_2_code 43 = .ok (.areturn, 1) := by decide +kernel
theorem d1_44 : decode method_2_code 44 = .ok (.iload_n 0, 1) := by decide +kernel
theorem d1_45 : decode method_2_code 45 = .ok (.iconst 5, 1) := by decide +kernel
theorem d1_46 : decode method_2_code 46 = .ok (.if_icmp .ne 7, 3) := by decide +kernel
theorem d1_49 : decode method_2_code 49 = .ok (.getstatic 25, 3) := by decide +kernel
theorem d1_52 : decode method_2_code 52 = .ok (.areturn, 1) := by decide +kernel
theorem d1_53 : decode method_2_code 53 = .ok (.iload_n 0, 1) := by decide +kernel
theorem d1_54 : decode method_2_code 54 = .ok (.bipush 6, 2) := by decide +kernel
theorem d1_56 : decode method_2_code 56 = .ok (.if_icmp .ne 7, 3) := by decide +kernel
theorem d1_59 : decode method_2_code 59 = .ok (.getstatic 28, 3) := by decide +kernel
theorem d1_62 : decode method_2_code 62 = .ok (.areturn, 1) := by decide +kernel
theorem d1_63 : decode method_2_code 63 = .ok (.iload_n 0, 1) := by decide +kernel
theorem d1_64 : decode method_2_code 64 = .ok (.bipush 7, 2) := by decide +kernel
theorem d1_66 : decode method_2_code 66 = .ok (.if_icmp .ne 7, 3) := by decide +kernel
theorem d1_69 : decode method_2_code 69 = .ok (.getstatic 31, 3) := by decide +kernel
theorem d1_72 : decode method_2_code 72 = .ok (.areturn, 1) := by decide +kernel
theorem d1_73 : decode method_2_code 73 = .ok (.getstatic 34, 3) := by decide +kernel
theorem d1_76 : decode method_2_code 76 = .ok (.areturn, 1) := by decide +kernel
theorem pn_0 : plainName "com/example/keyfold/keyfold/spec/ColumnTypeCanPartitionPinLaw" = true := by first | (simp [plainName, overriddenIn]; done) | decide +kernel
theorem ef_rm1 (m : MethodId) (x0 : Int32) : entryFrame m #[(.int x0)] 1 = mkF m 0 #[.val (.int x0)] [] := by first | (simp [entryFrame, mkF, argsToLocals, Value.category]; done) | rfl
def Q1 (Z : State) (p1 : Int32) (ad : Nat → Addr) (i : Nat) (h0 : Heap) (n0 : Nat) (v : Option Value) (h : Heap) (L : List Loc) : Prop := v = some (.ref (ad i)) ∧ Fr n0 L ∧ h = h0
set_option maxHeartbeats 40000000 in
theorem rm1 (l : Launch) (Z : State) (a0 : Array Value) (hw : ∀ d ∈ tables_1, d.before a0 Z = true) (ws : List Jvm.Cond) (p1 : Int32) (ad : Nat → Addr) (i : Nat) (h0 : Heap) (n0 : Nat) (Z0 : n0 ≤ h0.size) (hi : i < 9) (hk : p1 = Int32.ofNat i) (hS : own_S Z h0 ad) :
    MetFree l (⟨"com/example/keyfold/keyfold/spec/ColumnTypeCanPartitionPinLaw", "pick", "(I)Lcom/example/keyfold/keyfold/spec/ColumnType;"⟩ : MethodName) (head1 (Jvm.Cond.code (⟨"com/example/keyfold/keyfold/spec/ColumnTypeCanPartitionPinLaw", "pick", "(I)Lcom/example/keyfold/keyfold/spec/ColumnType;"⟩ : MethodName) method_2_code 1 (some (.object "com/example/keyfold/keyfold/spec/ColumnType")) :: ws) ({ frames := 0, cells := 0, slots := 0, locals := 0 } : Room)) (fun a U => a = #[(.int p1)] ∧ Z.Warmed39 U.vm ∧ U.heap = h0) (fun _ _ _ _ _ => True) (fun _ U o U' => ∃ v L, o = .returned v ∧ Q1 Z p1 ad i h0 n0 v U'.heap L ∧ FrameEnd U o U' L ({ frames := 0, cells := 0, slots := 0, locals := 0 } : Room).cells ({ frames := 0, cells := 0, slots := 0, locals := 0 } : Room).slots) := by
  refine MetFree.of_bodySF (plainFor_of_name pn_0) hisR ?_
  intro p e s m args below meth c s₁ Bd hml0 hP hK
  obtain ⟨rfl, hZ, hh⟩ := hP
  have hx := Bd.exec
  have hby := Bd.bytes
  have hml : c.maxLocals = 1 := hml0
  have hown : s.vm.findClass "com/example/keyfold/keyfold/spec/ColumnTypeCanPartitionPinLaw" = some m.cls := findClass_of_methodNamed Bd.named
  have hnm := (name_of_methodNamed Bd.named Bd.method).1
  have X0 : Stand p l e ({ frames := 0, cells := 0, slots := 0, locals := 0 } : Room) s m #[(.int p1)] below meth c s₁ [] 0 0 := Stand.of_body Bd
  have e0 : s₁.heap = h0 := by rw [← hh, Bd.state]; rfl
  have N0 := Fr.nil n0
  have pre0 : ∀ tgt, Steps p.tables e below (s₁.setTop (mkF m 0 #[.val (.int p1)] [])) tgt → Steps p.tables e below (s₁.setTop (entryFrame m #[(.int p1)] 1)) tgt := fun tgt k => castTop (ef_rm1 m p1) k
  obtain ⟨hS0, hS1, hS2, hS3, hS4, hS5, hS6, hS7, hS8⟩ := hS
  have pre1 : ∀ tgt, Steps p.tables e below (s₁.setTop (mkF m 1 #[.val (.int p1)] [(.int p1)])) tgt → Steps p.tables e below (s₁.setTop (entryFrame m #[(.int p1)] 1)) tgt := fun tgt kt => pre0 _ (by
    show Steps p.tables e below (s₁.setTop (mkF m 0 #[.val (.int p1)] [])) _
    refine XS.iloadN X0.here hx rfl (hb hby d1_0) rfl ?_
    exact kt)
  by_cases hc0 : p1 = (0 : Int32)
  · obtain ⟨T2, X2, e2, st2⟩ := getS2 X0 hx hZ hown (host := "") (Or.inl (hw _ (List.mem_of_getElem? (i := 5) rfl))) Via.refl e0 hS0 (g := (mkF m 4 #[.val (.int p1)] [])) rfl (hb hby d1_4)
    obtain ⟨fs, hr, hrun, hended, hW, hsame⟩ := X2.leave (v := some (.ref (ad 0))) (fun h => by rw [Bd.returns] at h; cases h)
    refine ⟨_, _, pre1 _ ?_, hrun, hended, _, _, rfl, ?_, ⟨_, rfl⟩, hW, hsame.mono (by decide) (by decide)⟩
    · show Steps p.tables e below (s₁.setTop (mkF m 1 #[.val (.int p1)] [(.int p1)])) _
      refine XS.ifNo X0.here hx rfl (hb hby d1_1) rfl ((if0 _ _).trans (teq hc0).2) ?_
      show Steps p.tables e below (s₁.setTop (mkF m 4 #[.val (.int p1)] [])) _
      refine st2 _ ?_
      show Steps p.tables e below (T2.setTop (mkF m 7 #[.val (.int p1)] [(.ref (ad 0))])) _
      exact retOut X2 hx Bd.returns rfl (Or.inr (Or.inr (Or.inr (Or.inr ⟨rfl, rfl, rfl⟩)))) (hb hby d1_7) hr
    · show Q1 Z p1 ad i h0 n0 _ T2.heap _
      rw [e2]
      have hj : i = 0 := (own_lit (by omega) (by decide)).1.mp (hk.symm.trans hc0)
      subst hj
      exact ⟨rfl, N0, rfl⟩
  · have pre3 : ∀ tgt, Steps p.tables e below (s₁.setTop (mkF m 10 #[.val (.int p1)] [(.int (1 : Int32)), (.int p1)])) tgt → Steps p.tables e below (s₁.setTop (entryFrame m #[(.int p1)] 1)) tgt := fun tgt kt => pre1 _ (by
      show Steps p.tables e below (s₁.setTop (mkF m 1 #[.val (.int p1)] [(.int p1)])) _
      refine XS.ifYes X0.here hx rfl (pc0 := 1) (pc' := 8) rfl (hb hby d1_1) rfl ((if0 _ _).trans (feq hc0).2) (by decide) (by decide) ?_
      show Steps p.tables e below (s₁.setTop (mkF m 8 #[.val (.int p1)] [])) _
      refine XS.iloadN X0.here hx rfl (hb hby d1_8) rfl ?_
      show Steps p.tables e below (s₁.setTop (mkF m 9 #[.val (.int p1)] [(.int p1)])) _
      refine XS.iconst X0.here hx rfl (hb hby d1_9) ?_
      exact kt)
    by_cases hc1 : p1 = (1 : Int32)
    · obtain ⟨T4, X4, e4, st4⟩ := getS2 X0 hx hZ hown (host := "") (Or.inl (hw _ (List.mem_of_getElem? (i := 19) rfl))) Via.refl e0 hS1 (g := (mkF m 13 #[.val (.int p1)] [])) rfl (hb hby d1_13)
      obtain ⟨fs, hr, hrun, hended, hW, hsame⟩ := X4.leave (v := some (.ref (ad 1))) (fun h => by rw [Bd.returns] at h; cases h)
      refine ⟨_, _, pre3 _ ?_, hrun, hended, _, _, rfl, ?_, ⟨_, rfl⟩, hW, hsame.mono (by decide) (by decide)⟩
      · show Steps p.tables e below (s₁.setTop (mkF m 10 #[.val (.int p1)] [(.int (1 : Int32)), (.int p1)])) _
        refine XS.icmpNo X0.here hx rfl (hb hby d1_10) rfl (teq hc1).2 ?_
        show Steps p.tables e below (s₁.setTop (mkF m 13 #[.val (.int p1)] [])) _
        refine st4 _ ?_
        show Steps p.tables e below (T4.setTop (mkF m 16 #[.val (.int p1)] [(.ref (ad 1))])) _
        exact retOut X4 hx Bd.returns rfl (Or.inr (Or.inr (Or.inr (Or.inr ⟨rfl, rfl, rfl⟩)))) (hb hby d1_16) hr
      · show Q1 Z p1 ad i h0 n0 _ T4.heap _
        rw [e4]
        have hj : i = 1 := (own_lit (by omega) (by decide)).1.mp (hk.symm.trans hc1)
        subst hj
        exact ⟨rfl, N0, rfl⟩
    · have pre5 : ∀ tgt, Steps p.tables e below (s₁.setTop (mkF m 19 #[.val (.int p1)] [(.int (2 : Int32)), (.int p1)])) tgt → Steps p.tables e below (s₁.setTop (entryFrame m #[(.int p1)] 1)) tgt := fun tgt kt => pre3 _ (by
        show Steps p.tables e below (s₁.setTop (mkF m 10 #[.val (.int p1)] [(.int (1 : Int32)), (.int p1)])) _
        refine XS.icmpYes X0.here hx rfl (pc0 := 10) (pc' := 17) rfl (hb hby d1_10) rfl (feq hc1).2 (by decide) (by decide) ?_
        show Steps p.tables e below (s₁.setTop (mkF m 17 #[.val (.int p1)] [])) _
        refine XS.iloadN X0.here hx rfl (hb hby d1_17) rfl ?_
        show Steps p.tables e below (s₁.setTop (mkF m 18 #[.val (.int p1)] [(.int p1)])) _
        refine XS.iconst X0.here hx rfl (hb hby d1_18) ?_
        exact kt)
      by_cases hc2 : p1 = (2 : Int32)
      · obtain ⟨T6, X6, e6, st6⟩ := getS2 X0 hx hZ hown (host := "") (Or.inl (hw _ (List.mem_of_getElem? (i := 17) rfl))) Via.refl e0 hS2 (g := (mkF m 22 #[.val (.int p1)] [])) rfl (hb hby d1_22)
        obtain ⟨fs, hr, hrun, hended, hW, hsame⟩ := X6.leave (v := some (.ref (ad 2))) (fun h => by rw [Bd.returns] at h; cases h)
        refine ⟨_, _, pre5 _ ?_, hrun, hended, _, _, rfl, ?_, ⟨_, rfl⟩, hW, hsame.mono (by decide) (by decide)⟩
        · show Steps p.tables e below (s₁.setTop (mkF m 19 #[.val (.int p1)] [(.int (2 : Int32)), (.int p1)])) _
          refine XS.icmpNo X0.here hx rfl (hb hby d1_19) rfl (teq hc2).2 ?_
          show Steps p.tables e below (s₁.setTop (mkF m 22 #[.val (.int p1)] [])) _
          refine st6 _ ?_
          show Steps p.tables e below (T6.setTop (mkF m 25 #[.val (.int p1)] [(.ref (ad 2))])) _
          exact retOut X6 hx Bd.returns rfl (Or.inr (Or.inr (Or.inr (Or.inr ⟨rfl, rfl, rfl⟩)))) (hb hby d1_25) hr
        · show Q1 Z p1 ad i h0 n0 _ T6.heap _
          rw [e6]
          have hj : i = 2 := (own_lit (by omega) (by decide)).1.mp (hk.symm.trans hc2)
          subst hj
          exact ⟨rfl, N0, rfl⟩
      · have pre7 : ∀ tgt, Steps p.tables e below (s₁.setTop (mkF m 28 #[.val (.int p1)] [(.int (3 : Int32)), (.int p1)])) tgt → Steps p.tables e below (s₁.setTop (entryFrame m #[(.int p1)] 1)) tgt := fun tgt kt => pre5 _ (by
          show Steps p.tables e below (s₁.setTop (mkF m 19 #[.val (.int p1)] [(.int (2 : Int32)), (.int p1)])) _
          refine XS.icmpYes X0.here hx rfl (pc0 := 19) (pc' := 26) rfl (hb hby d1_19) rfl (feq hc2).2 (by decide) (by decide) ?_
          show Steps p.tables e below (s₁.setTop (mkF m 26 #[.val (.int p1)] [])) _
          refine XS.iloadN X0.here hx rfl (hb hby d1_26) rfl ?_
          show Steps p.tables e below (s₁.setTop (mkF m 27 #[.val (.int p1)] [(.int p1)])) _
          refine XS.iconst X0.here hx rfl (hb hby d1_27) ?_
          exact kt)
        by_cases hc3 : p1 = (3 : Int32)
        · obtain ⟨T8, X8, e8, st8⟩ := getS2 X0 hx hZ hown (host := "") (Or.inl (hw _ (List.mem_of_getElem? (i := 15) rfl))) Via.refl e0 hS3 (g := (mkF m 31 #[.val (.int p1)] [])) rfl (hb hby d1_31)
          obtain ⟨fs, hr, hrun, hended, hW, hsame⟩ := X8.leave (v := some (.ref (ad 3))) (fun h => by rw [Bd.returns] at h; cases h)
          refine ⟨_, _, pre7 _ ?_, hrun, hended, _, _, rfl, ?_, ⟨_, rfl⟩, hW, hsame.mono (by decide) (by decide)⟩
          · show Steps p.tables e below (s₁.setTop (mkF m 28 #[.val (.int p1)] [(.int (3 : Int32)), (.int p1)])) _
            refine XS.icmpNo X0.here hx rfl (hb hby d1_28) rfl (teq hc3).2 ?_
            show Steps p.tables e below (s₁.setTop (mkF m 31 #[.val (.int p1)] [])) _
            refine st8 _ ?_
            show Steps p.tables e below (T8.setTop (mkF m 34 #[.val (.int p1)] [(.ref (ad 3))])) _
            exact retOut X8 hx Bd.returns rfl (Or.inr (Or.inr (Or.inr (Or.inr ⟨rfl, rfl, rfl⟩)))) (hb hby d1_34) hr
          · show Q1 Z p1 ad i h0 n0 _ T8.heap _
            rw [e8]
            have hj : i = 3 := (own_lit (by omega) (by decide)).1.mp (hk.symm.trans hc3)
            subst hj
            exact ⟨rfl, N0, rfl⟩
        · have pre9 : ∀ tgt, Steps p.tables e below (s₁.setTop (mkF m 37 #[.val (.int p1)] [(.int (4 : Int32)), (.int p1)])) tgt → Steps p.tables e below (s₁.setTop (entryFrame m #[(.int p1)] 1)) tgt := fun tgt kt => pre7 _ (by
            show Steps p.tables e below (s₁.setTop (mkF m 28 #[.val (.int p1)] [(.int (3 : Int32)), (.int p1)])) _
            refine XS.icmpYes X0.here hx rfl (pc0 := 28) (pc' := 35) rfl (hb hby d1_28) rfl (feq hc3).2 (by decide) (by decide) ?_
            show Steps p.tables e below (s₁.setTop (mkF m 35 #[.val (.int p1)] [])) _
            refine XS.iloadN X0.here hx rfl (hb hby d1_35) rfl ?_
            show Steps p.tables e below (s₁.setTop (mkF m 36 #[.val (.int p1)] [(.int p1)])) _
            refine XS.iconst X0.here hx rfl (hb hby d1_36) ?_
            exact kt)
          by_cases hc4 : p1 = (4 : Int32)
          · obtain ⟨T10, X10, e10, st10⟩ := getS2 X0 hx hZ hown (host := "") (Or.inl (hw _ (List.mem_of_getElem? (i := 22) rfl))) Via.refl e0 hS4 (g := (mkF m 40 #[.val (.int p1)] [])) rfl (hb hby d1_40)
            obtain ⟨fs, hr, hrun, hended, hW, hsame⟩ := X10.leave (v := some (.ref (ad 4))) (fun h => by rw [Bd.returns] at h; cases h)
            refine ⟨_, _, pre9 _ ?_, hrun, hended, _, _, rfl, ?_, ⟨_, rfl⟩, hW, hsame.mono (by decide) (by decide)⟩
            · show Steps p.tables e below (s₁.setTop (mkF m 37 #[.val (.int p1)] [(.int (4 : Int32)), (.int p1)])) _
              refine XS.icmpNo X0.here hx rfl (hb hby d1_37) rfl (teq hc4).2 ?_
              show Steps p.tables e below (s₁.setTop (mkF m 40 #[.val (.int p1)] [])) _
              refine st10 _ ?_
              show Steps p.tables e below (T10.setTop (mkF m 43 #[.val (.int p1)] [(.ref (ad 4))])) _
              exact retOut X10 hx Bd.returns rfl (Or.inr (Or.inr (Or.inr (Or.inr ⟨rfl, rfl, rfl⟩)))) (hb hby d1_43) hr
            · show Q1 Z p1 ad i h0 n0 _ T10.heap _
              rw [e10]
              have hj : i = 4 := (own_lit (by omega) (by decide)).1.mp (hk.symm.trans hc4)
              subst hj
              exact ⟨rfl, N0, rfl⟩
          · have pre11 : ∀ tgt, Steps p.tables e below (s₁.setTop (mkF m 46 #[.val (.int p1)] [(.int (5 : Int32)), (.int p1)])) tgt → Steps p.tables e below (s₁.setTop (entryFrame m #[(.int p1)] 1)) tgt := fun tgt kt => pre9 _ (by
              show Steps p.tables e below (s₁.setTop (mkF m 37 #[.val (.int p1)] [(.int (4 : Int32)), (.int p1)])) _
              refine XS.icmpYes X0.here hx rfl (pc0 := 37) (pc' := 44) rfl (hb hby d1_37) rfl (feq hc4).2 (by decide) (by decide) ?_
              show Steps p.tables e below (s₁.setTop (mkF m 44 #[.val (.int p1)] [])) _
              refine XS.iloadN X0.here hx rfl (hb hby d1_44) rfl ?_
              show Steps p.tables e below (s₁.setTop (mkF m 45 #[.val (.int p1)] [(.int p1)])) _
              refine XS.iconst X0.here hx rfl (hb hby d1_45) ?_
              exact kt)
            by_cases hc5 : p1 = (5 : Int32)
            · obtain ⟨T12, X12, e12, st12⟩ := getS2 X0 hx hZ hown (host := "") (Or.inl (hw _ (List.mem_of_getElem? (i := 28) rfl))) Via.refl e0 hS5 (g := (mkF m 49 #[.val (.int p1)] [])) rfl (hb hby d1_49)
              obtain ⟨fs, hr, hrun, hended, hW, hsame⟩ := X12.leave (v := some (.ref (ad 5))) (fun h => by rw [Bd.returns] at h; cases h)
              refine ⟨_, _, pre11 _ ?_, hrun, hended, _, _, rfl, ?_, ⟨_, rfl⟩, hW, hsame.mono (by decide) (by decide)⟩
              · show Steps p.tables e below (s₁.setTop (mkF m 46 #[.val (.int p1)] [(.int (5 : Int32)), (.int p1)])) _
                refine XS.icmpNo X0.here hx rfl (hb hby d1_46) rfl (teq hc5).2 ?_
                show Steps p.tables e below (s₁.setTop (mkF m 49 #[.val (.int p1)] [])) _
                refine st12 _ ?_
                show Steps p.tables e below (T12.setTop (mkF m 52 #[.val (.int p1)] [(.ref (ad 5))])) _
                exact retOut X12 hx Bd.returns rfl (Or.inr (Or.inr (Or.inr (Or.inr ⟨rfl, rfl, rfl⟩)))) (hb hby d1_52) hr
              · show Q1 Z p1 ad i h0 n0 _ T12.heap _
                rw [e12]
                have hj : i = 5 := (own_lit (by omega) (by decide)).1.mp (hk.symm.trans hc5)
                subst hj
                exact ⟨rfl, N0, rfl⟩
            · have pre13 : ∀ tgt, Steps p.tables e below (s₁.setTop (mkF m 56 #[.val (.int p1)] [(.int (6 : Int32)), (.int p1)])) tgt → Steps p.tables e below (s₁.setTop (entryFrame m #[(.int p1)] 1)) tgt := fun tgt kt => pre11 _ (by
                show Steps p.tables e below (s₁.setTop (mkF m 46 #[.val (.int p1)] [(.int (5 : Int32)), (.int p1)])) _
                refine XS.icmpYes X0.here hx rfl (pc0 := 46) (pc' := 53) rfl (hb hby d1_46) rfl (feq hc5).2 (by decide) (by decide) ?_
                show Steps p.tables e below (s₁.setTop (mkF m 53 #[.val (.int p1)] [])) _
                refine XS.iloadN X0.here hx rfl (hb hby d1_53) rfl ?_
                show Steps p.tables e below (s₁.setTop (mkF m 54 #[.val (.int p1)] [(.int p1)])) _
                refine XS.bipush X0.here hx rfl (hb hby d1_54) ?_
                exact kt)
              by_cases hc6 : p1 = (6 : Int32)
              · obtain ⟨T14, X14, e14, st14⟩ := getS2 X0 hx hZ hown (host := "") (Or.inl (hw _ (List.mem_of_getElem? (i := 26) rfl))) Via.refl e0 hS6 (g := (mkF m 59 #[.val (.int p1)] [])) rfl (hb hby d1_59)
                obtain ⟨fs, hr, hrun, hended, hW, hsame⟩ := X14.leave (v := some (.ref (ad 6))) (fun h => by rw [Bd.returns] at h; cases h)
                refine ⟨_, _, pre13 _ ?_, hrun, hended, _, _, rfl, ?_, ⟨_, rfl⟩, hW, hsame.mono (by decide) (by decide)⟩
                · show Steps p.tables e below (s₁.setTop (mkF m 56 #[.val (.int p1)] [(.int (6 : Int32)), (.int p1)])) _
                  refine XS.icmpNo X0.here hx rfl (hb hby d1_56) rfl (teq hc6).2 ?_
                  show Steps p.tables e below (s₁.setTop (mkF m 59 #[.val (.int p1)] [])) _
                  refine st14 _ ?_
                  show Steps p.tables e below (T14.setTop (mkF m 62 #[.val (.int p1)] [(.ref (ad 6))])) _
                  exact retOut X14 hx Bd.returns rfl (Or.inr (Or.inr (Or.inr (Or.inr ⟨rfl, rfl, rfl⟩)))) (hb hby d1_62) hr
                · show Q1 Z p1 ad i h0 n0 _ T14.heap _
                  rw [e14]
                  have hj : i = 6 := (own_lit (by omega) (by decide)).1.mp (hk.symm.trans hc6)
                  subst hj
                  exact ⟨rfl, N0, rfl⟩
              · have pre15 : ∀ tgt, Steps p.tables e below (s₁.setTop (mkF m 66 #[.val (.int p1)] [(.int (7 : Int32)), (.int p1)])) tgt → Steps p.tables e below (s₁.setTop (entryFrame m #[(.int p1)] 1)) tgt := fun tgt kt => pre13 _ (by
                  show Steps p.tables e below (s₁.setTop (mkF m 56 #[.val (.int p1)] [(.int (6 : Int32)), (.int p1)])) _
                  refine XS.icmpYes X0.here hx rfl (pc0 := 56) (pc' := 63) rfl (hb hby d1_56) rfl (feq hc6).2 (by decide) (by decide) ?_
                  show Steps p.tables e below (s₁.setTop (mkF m 63 #[.val (.int p1)] [])) _
                  refine XS.iloadN X0.here hx rfl (hb hby d1_63) rfl ?_
                  show Steps p.tables e below (s₁.setTop (mkF m 64 #[.val (.int p1)] [(.int p1)])) _
                  refine XS.bipush X0.here hx rfl (hb hby d1_64) ?_
                  exact kt)
                by_cases hc7 : p1 = (7 : Int32)
                · obtain ⟨T16, X16, e16, st16⟩ := getS2 X0 hx hZ hown (host := "") (Or.inl (hw _ (List.mem_of_getElem? (i := 21) rfl))) Via.refl e0 hS7 (g := (mkF m 69 #[.val (.int p1)] [])) rfl (hb hby d1_69)
                  obtain ⟨fs, hr, hrun, hended, hW, hsame⟩ := X16.leave (v := some (.ref (ad 7))) (fun h => by rw [Bd.returns] at h; cases h)
                  refine ⟨_, _, pre15 _ ?_, hrun, hended, _, _, rfl, ?_, ⟨_, rfl⟩, hW, hsame.mono (by decide) (by decide)⟩
                  · show Steps p.tables e below (s₁.setTop (mkF m 66 #[.val (.int p1)] [(.int (7 : Int32)), (.int p1)])) _
                    refine XS.icmpNo X0.here hx rfl (hb hby d1_66) rfl (teq hc7).2 ?_
                    show Steps p.tables e below (s₁.setTop (mkF m 69 #[.val (.int p1)] [])) _
                    refine st16 _ ?_
                    show Steps p.tables e below (T16.setTop (mkF m 72 #[.val (.int p1)] [(.ref (ad 7))])) _
                    exact retOut X16 hx Bd.returns rfl (Or.inr (Or.inr (Or.inr (Or.inr ⟨rfl, rfl, rfl⟩)))) (hb hby d1_72) hr
                  · show Q1 Z p1 ad i h0 n0 _ T16.heap _
                    rw [e16]
                    have hj : i = 7 := (own_lit (by omega) (by decide)).1.mp (hk.symm.trans hc7)
                    subst hj
                    exact ⟨rfl, N0, rfl⟩
                · obtain ⟨T17, X17, e17, st17⟩ := getS2 X0 hx hZ hown (host := "") (Or.inl (hw _ (List.mem_of_getElem? (i := 24) rfl))) Via.refl e0 hS8 (g := (mkF m 73 #[.val (.int p1)] [])) rfl (hb hby d1_73)
                  obtain ⟨fs, hr, hrun, hended, hW, hsame⟩ := X17.leave (v := some (.ref (ad 8))) (fun h => by rw [Bd.returns] at h; cases h)
                  refine ⟨_, _, pre15 _ ?_, hrun, hended, _, _, rfl, ?_, ⟨_, rfl⟩, hW, hsame.mono (by decide) (by decide)⟩
                  · show Steps p.tables e below (s₁.setTop (mkF m 66 #[.val (.int p1)] [(.int (7 : Int32)), (.int p1)])) _
                    refine XS.icmpYes X0.here hx rfl (pc0 := 66) (pc' := 73) rfl (hb hby d1_66) rfl (feq hc7).2 (by decide) (by decide) ?_
                    show Steps p.tables e below (s₁.setTop (mkF m 73 #[.val (.int p1)] [])) _
                    refine st17 _ ?_
                    show Steps p.tables e below (T17.setTop (mkF m 76 #[.val (.int p1)] [(.ref (ad 8))])) _
                    exact retOut X17 hx Bd.returns rfl (Or.inr (Or.inr (Or.inr (Or.inr ⟨rfl, rfl, rfl⟩)))) (hb hby d1_76) hr
                  · show Q1 Z p1 ad i h0 n0 _ T17.heap _
                    rw [e17]
                    have q0 : i ≠ 0 := fun q => hc0 (by first | (rw [hk, q]; done) | (rw [hk, q]; rfl))
                    have q1 : i ≠ 1 := fun q => hc1 (by first | (rw [hk, q]; done) | (rw [hk, q]; rfl))
                    have q2 : i ≠ 2 := fun q => hc2 (by first | (rw [hk, q]; done) | (rw [hk, q]; rfl))
                    have q3 : i ≠ 3 := fun q => hc3 (by first | (rw [hk, q]; done) | (rw [hk, q]; rfl))
                    have q4 : i ≠ 4 := fun q => hc4 (by first | (rw [hk, q]; done) | (rw [hk, q]; rfl))
                    have q5 : i ≠ 5 := fun q => hc5 (by first | (rw [hk, q]; done) | (rw [hk, q]; rfl))
                    have q6 : i ≠ 6 := fun q => hc6 (by first | (rw [hk, q]; done) | (rw [hk, q]; rfl))
                    have q7 : i ≠ 7 := fun q => hc7 (by first | (rw [hk, q]; done) | (rw [hk, q]; rfl))
                    have hj : i = 8 := by omega
                    subst hj
                    exact ⟨rfl, N0, rfl⟩
theorem d2_0 : decode prog_63_method_6_code 0 = .ok (.aload_n 0, 1) := by decide +kernel
theorem d2_1 : decode prog_63_method_6_code 1 = .ok (.getstatic 25, 3) := by decide +kernel
theorem d2_4 : decode prog_63_method_6_code 4 = .ok (.if_acmp .eq 7, 3) := by decide +kernel
theorem d2_11 : decode prog_63_method_6_code 11 = .ok (.iconst 0, 1) := by decide +kernel
theorem d2_12 : decode prog_63_method_6_code 12 = .ok (.ireturn, 1) := by decide +kernel
theorem d2_7 : decode prog_63_method_6_code 7 = .ok (.iconst 1, 1) := by decide +kernel
theorem d2_8 : decode prog_63_method_6_code 8 = .ok (.goto 4, 3) := by decide +kernel
theorem pn_1 : plainName "com/example/keyfold/keyfold/spec/ColumnType" = true := by first | (simp [plainName, overriddenIn]; done) | decide +kernel
theorem ef_rm2 (m : MethodId) (x0 : Addr) : entryFrame m #[(.ref x0)] 1 = mkF m 0 #[.val (.ref x0)] [] := by first | (simp [entryFrame, mkF, argsToLocals, Value.category]; done) | rfl
def Q2 (Z : State) (a1 : Addr) (ad : Nat → Addr) (i : Nat) (h0 : Heap) (n0 : Nat) (v : Option Value) (h : Heap) (L : List Loc) : Prop := v = some (.int (own_cp i)) ∧ Fr n0 L ∧ h = h0
set_option maxHeartbeats 40000000 in
theorem rm2 (l : Launch) (Z : State) (a0 : Array Value) (hw : ∀ d ∈ tables_1, d.before a0 Z = true) (ws : List Jvm.Cond) (a1 : Addr) (ad : Nat → Addr) (i : Nat) (h0 : Heap) (n0 : Nat) (Z0 : n0 ≤ h0.size) (hi : i < 9) (ha : a1 = ad i) (hD : ∀ i j, i < 9 → j < 9 → ad i = ad j → i = j) (hS : own_S Z h0 ad) :
    MetFree l (⟨"com/example/keyfold/keyfold/spec/ColumnType", "canPartition", "()Z"⟩ : MethodName) (head1 (Jvm.Cond.code (⟨"com/example/keyfold/keyfold/spec/ColumnType", "canPartition", "()Z"⟩ : MethodName) prog_63_method_6_code 1 (some .boolean) :: ws) ({ frames := 0, cells := 0, slots := 0, locals := 0 } : Room)) (fun a U => a = #[(.ref a1)] ∧ Z.Warmed39 U.vm ∧ U.heap = h0) (fun _ _ _ _ _ => True) (fun _ U o U' => ∃ v L, o = .returned v ∧ Q2 Z a1 ad i h0 n0 v U'.heap L ∧ FrameEnd U o U' L ({ frames := 0, cells := 0, slots := 0, locals := 0 } : Room).cells ({ frames := 0, cells := 0, slots := 0, locals := 0 } : Room).slots) := by
  refine MetFree.of_bodySF (plainFor_of_name pn_1) hisR ?_
  intro p e s m args below meth c s₁ Bd hml0 hP hK
  obtain ⟨rfl, hZ, hh⟩ := hP
  have hx := Bd.exec
  have hby := Bd.bytes
  have hml : c.maxLocals = 1 := hml0
  have hown : s.vm.findClass "com/example/keyfold/keyfold/spec/ColumnType" = some m.cls := findClass_of_methodNamed Bd.named
  have hnm := (name_of_methodNamed Bd.named Bd.method).1
  have X0 : Stand p l e ({ frames := 0, cells := 0, slots := 0, locals := 0 } : Room) s m #[(.ref a1)] below meth c s₁ [] 0 0 := Stand.of_body Bd
  have e0 : s₁.heap = h0 := by rw [← hh, Bd.state]; rfl
  have N0 := Fr.nil n0
  have pre0 : ∀ tgt, Steps p.tables e below (s₁.setTop (mkF m 0 #[.val (.ref a1)] [])) tgt → Steps p.tables e below (s₁.setTop (entryFrame m #[(.ref a1)] 1)) tgt := fun tgt k => castTop (ef_rm2 m a1) k
  obtain ⟨hS0, hS1, hS2, hS3, hS4, hS5, hS6, hS7, hS8⟩ := hS
  by_cases h7 : i = 7
  · obtain ⟨T1, X1, e1, st1⟩ := getS2 X0 hx hZ hown (host := "") (Or.inl (hw _ (List.mem_of_getElem? (i := 13) rfl))) Via.refl e0 hS7 (g := (mkF m 1 #[.val (.ref a1)] [(.ref a1)])) rfl (hb hby d2_1)
    obtain ⟨fs, hr, hrun, hended, hW, hsame⟩ := X1.leave (v := some (.int (0 : Int32))) (fun h => by rw [Bd.returns] at h; cases h)
    refine ⟨_, _, pre0 _ ?_, hrun, hended, _, _, rfl, ?_, ⟨_, rfl⟩, hW, hsame.mono (by decide) (by decide)⟩
    · show Steps p.tables e below (s₁.setTop (mkF m 0 #[.val (.ref a1)] [])) _
      refine XS.aloadN X0.here hx rfl (hb hby d2_0) rfl rfl ?_
      show Steps p.tables e below (s₁.setTop (mkF m 1 #[.val (.ref a1)] [(.ref a1)])) _
      refine st1 _ ?_
      show Steps p.tables e below (T1.setTop (mkF m 4 #[.val (.ref a1)] [(.ref (ad 7)), (.ref a1)])) _
      refine Jvm.RoadKit.acmp (g := (mkF m 4 #[.val (.ref a1)] [(.ref (ad 7)), (.ref a1)])) X1 hx rfl rfl rfl (pc0 := 4) (pc' := 11) (same := true) rfl (hb hby d2_4) rfl (decide_eq_true (congrArg Value.ref (ha.trans (congrArg ad h7)))) (by decide) (by decide) ?_
      show Steps p.tables e below (T1.setTop (mkF m 11 #[.val (.ref a1)] [])) _
      refine XS.iconst X1.here hx rfl (hb hby d2_11) ?_
      show Steps p.tables e below (T1.setTop (mkF m 12 #[.val (.ref a1)] [(.int (0 : Int32))])) _
      exact retN X1 hx (t := .boolean) Bd.returns (by simp) (hb hby d2_12) hr
    · show Q2 Z a1 ad i h0 n0 _ T1.heap _
      rw [e1]
      exact ⟨by first | (rw [own_cp, if_pos h7]; done) | (rw [own_cp, if_pos h7]; rfl), N0, rfl⟩
  · obtain ⟨T2, X2, e2, st2⟩ := getS2 X0 hx hZ hown (host := "") (Or.inl (hw _ (List.mem_of_getElem? (i := 13) rfl))) Via.refl e0 hS7 (g := (mkF m 1 #[.val (.ref a1)] [(.ref a1)])) rfl (hb hby d2_1)
    obtain ⟨fs, hr, hrun, hended, hW, hsame⟩ := X2.leave (v := some (.int (1 : Int32))) (fun h => by rw [Bd.returns] at h; cases h)
    refine ⟨_, _, pre0 _ ?_, hrun, hended, _, _, rfl, ?_, ⟨_, rfl⟩, hW, hsame.mono (by decide) (by decide)⟩
    · show Steps p.tables e below (s₁.setTop (mkF m 0 #[.val (.ref a1)] [])) _
      refine XS.aloadN X0.here hx rfl (hb hby d2_0) rfl rfl ?_
      show Steps p.tables e below (s₁.setTop (mkF m 1 #[.val (.ref a1)] [(.ref a1)])) _
      refine st2 _ ?_
      show Steps p.tables e below (T2.setTop (mkF m 4 #[.val (.ref a1)] [(.ref (ad 7)), (.ref a1)])) _
      refine Jvm.RoadKit.acmp (g := (mkF m 4 #[.val (.ref a1)] [(.ref (ad 7)), (.ref a1)])) X2 hx rfl rfl rfl (pc0 := 4) (pc' := 7) (same := false) rfl (hb hby d2_4) rfl (decide_eq_false fun q => (fun q => h7 (hD i 7 hi (by decide) (ha.symm.trans q))) (Value.ref.inj q)) (by decide) (by decide) ?_
      show Steps p.tables e below (T2.setTop (mkF m 7 #[.val (.ref a1)] [])) _
      refine XS.iconst X2.here hx rfl (hb hby d2_7) ?_
      show Steps p.tables e below (T2.setTop (mkF m 8 #[.val (.ref a1)] [(.int (1 : Int32))])) _
      refine XS.goto X2.here hx rfl (pc0 := 8) (pc' := 12) rfl (hb hby d2_8) (by decide) (by decide) ?_
      show Steps p.tables e below (T2.setTop (mkF m 12 #[.val (.ref a1)] [(.int (1 : Int32))])) _
      exact retN X2 hx (t := .boolean) Bd.returns (by simp) (hb hby d2_12) hr
    · show Q2 Z a1 ad i h0 n0 _ T2.heap _
      rw [e2]
      exact ⟨by first | (rw [own_cp, if_neg h7]; done) | (rw [own_cp, if_neg h7]; rfl), N0, rfl⟩
theorem pd_0 : parseMethodDescriptor "(I)Lcom/example/keyfold/keyfold/spec/ColumnType;" = some ⟨[.int], some (.object "com/example/keyfold/keyfold/spec/ColumnType")⟩ := by decide +kernel
theorem pd_1 : parseMethodDescriptor "()Z" = some ⟨[], some .boolean⟩ := by decide +kernel
theorem ef_rm0 (m : MethodId) (x0 : Int32) : entryFrame m #[(.int x0)] maxLocals = mkF m 0 #[.val (.int x0), .unset, .unset, .unset] [] := by first | (simp [entryFrame, mkF, argsToLocals, Value.category, maxLocals]; done) | rfl
def Q0 (Z : State) (p0 : Int32) (ad : Nat → Addr) (h0 : Heap) (n0 : Nat) (v : Option Value) (h : Heap) (L : List Loc) : Prop := v = some (.int (1 : Int32)) ∧ Fr n0 L
set_option maxHeartbeats 40000000 in
theorem rm0 (l : Launch) (Z : State) (a0 : Array Value) (hw : ∀ d ∈ tables_1, d.before a0 Z = true) (ws : List Jvm.Cond) (p0 : Int32) (ad : Nat → Addr) (h0 : Heap) (n0 : Nat) (Z0 : n0 ≤ h0.size) (hX : ∀ i, i < 9 → Exa Z h0 (ad i) "com/example/keyfold/keyfold/spec/ColumnType") (hD : ∀ i j, i < 9 → j < 9 → ad i = ad j → i = j) (hS : own_S Z h0 ad) :
    MetFree l x (head1 (Jvm.Cond.code x code maxLocals ret :: ws) room_1) (fun a U => a = #[(.int p0)] ∧ Z.Warmed39 U.vm ∧ U.heap = h0) (fun _ _ _ _ _ => True) (fun _ U o U' => ∃ v L, o = .returned v ∧ Q0 Z p0 ad h0 n0 v U'.heap L ∧ FrameEnd U o U' L room_1.cells room_1.slots) := by
  refine MetFree.of_bodySF (plainFor_of_name pn_0) hisR ?_
  intro p e s m args below meth c s₁ Bd hml0 hP hK
  obtain ⟨rfl, hZ, hh⟩ := hP
  have hx := Bd.exec
  have hby := Bd.bytes
  have hml : c.maxLocals = 4 := hml0
  have hown : s.vm.findClass "com/example/keyfold/keyfold/spec/ColumnTypeCanPartitionPinLaw" = some m.cls := findClass_of_methodNamed Bd.named
  have hnm := (name_of_methodNamed Bd.named Bd.method).1
  have X0 : Stand p l e room_1 s m #[(.int p0)] below meth c s₁ [] 0 0 := Stand.of_body Bd
  have e0 : s₁.heap = h0 := by rw [← hh, Bd.state]; rfl
  have N0 := Fr.nil n0
  have pre0 : ∀ tgt, Steps p.tables e below (s₁.setTop (mkF m 0 #[.val (.int p0), .unset, .unset, .unset] [])) tgt → Steps p.tables e below (s₁.setTop (entryFrame m #[(.int p0)] maxLocals)) tgt := fun tgt k => castTop (ef_rm0 m p0) k
  obtain ⟨i, hi, hk⟩ := own_rem p0 9 9 rfl (by decide) (by decide)
  obtain ⟨_, _, ⟨T1, L1, k1, n1⟩, -, X1, ⟨Lc1, hQ1, l1, y1, z1⟩, st1⟩ := Jvm.LawKit.callS X0 hx (y := (⟨"com/example/keyfold/keyfold/spec/ColumnTypeCanPartitionPinLaw", "pick", "(I)Lcom/example/keyfold/keyfold/spec/ColumnType;"⟩ : MethodName)) hown (mvT hZ (hw _ (List.mem_of_getElem? (i := 1) rfl))) (mvT hZ (hw _ (List.mem_of_getElem? (i := 2) rfl))) (mvT hZ (hw _ (List.mem_of_getElem? (i := 3) rfl))) (mvT hZ (hw _ (List.mem_of_getElem? (i := 4) rfl))) (by decide) (backOf (W := 0) (rm1 l Z a0 hw [] ((p0 &&& (2147483647 : Int32)) % (9 : Int32)) ad i h0 n0 Z0 hi hk hS) hZ (hw _ (List.mem_of_getElem? (i := 4) rfl)) (hw _ (List.mem_of_getElem? (i := 3) rfl)) (by decide) (by decide)) (g := (mkF m 9 #[.val (.int p0), .val (.int ((p0 &&& (2147483647 : Int32)) % (9 : Int32))), .unset, .unset] [(.int ((p0 &&& (2147483647 : Int32)) % (9 : Int32)))])) rfl (by rw [hml]; rfl) (argsL := [(.int ((p0 &&& (2147483647 : Int32)) % (9 : Int32)))]) (rest := []) (lenOf pd_0 rfl) rfl (by show 2 * 0 + _ ≤ _; exact Nat.le_of_eq rfl) (hb hby at_9) (fun _ _ => ⟨rfl, e0, (by decide : 0 + 0 ≤ _), (by decide : 0 + 0 ≤ _)⟩)
  dsimp only [Pt.U, Pt.locs, Pt.cells, Pt.slots] at X1 l1 y1 z1 st1 hQ1
  subst l1 y1 z1
  obtain ⟨rfl, Nq1, e1⟩ := hQ1
  have N2 := Fr.app N0 Nq1
  have pre3 : ∀ tgt, Steps p.tables e below (T1.setTop (mkF m 16 #[.val (.int p0), .val (.int ((p0 &&& (2147483647 : Int32)) % (9 : Int32))), .val (.ref (ad i)), .unset] [(.int (7 : Int32)), (.int ((p0 &&& (2147483647 : Int32)) % (9 : Int32)))])) tgt → Steps p.tables e below (s₁.setTop (entryFrame m #[(.int p0)] maxLocals)) tgt := fun tgt kt => pre0 _ (by
    show Steps p.tables e below (s₁.setTop (mkF m 0 #[.val (.int p0), .unset, .unset, .unset] [])) _
    refine XS.iloadN X0.here hx rfl (hb hby at_0) rfl ?_
    show Steps p.tables e below (s₁.setTop (mkF m 1 #[.val (.int p0), .unset, .unset, .unset] [(.int p0)])) _
    refine X0.ldcInt hx hown (mvT hZ (hw _ (List.mem_of_getElem? (i := 0) rfl))) (g := (mkF m 1 #[.val (.int p0), .unset, .unset, .unset] [(.int p0)])) rfl (hb hby at_1) _ ?_
    show Steps p.tables e below (s₁.setTop (mkF m 3 #[.val (.int p0), .unset, .unset, .unset] [(.int (2147483647 : Int32)), (.int p0)])) _
    refine XS.iand X0.here hx rfl (hb hby at_3) rfl ?_
    show Steps p.tables e below (s₁.setTop (mkF m 4 #[.val (.int p0), .unset, .unset, .unset] [(.int (p0 &&& (2147483647 : Int32)))])) _
    refine XS.bipush X0.here hx rfl (hb hby at_4) ?_
    show Steps p.tables e below (s₁.setTop (mkF m 6 #[.val (.int p0), .unset, .unset, .unset] [(.int (9 : Int32)), (.int (p0 &&& (2147483647 : Int32)))])) _
    refine iremM X0 hx rfl (hb hby at_6) rfl (by decide) ?_
    show Steps p.tables e below (s₁.setTop (mkF m 7 #[.val (.int p0), .unset, .unset, .unset] [(.int ((p0 &&& (2147483647 : Int32)) % (9 : Int32)))])) _
    refine XS.istoreN X0.here hx rfl (hb hby at_7) rfl (l' := #[.val (.int p0), .val (.int ((p0 &&& (2147483647 : Int32)) % (9 : Int32))), .unset, .unset]) rfl ?_
    show Steps p.tables e below (s₁.setTop (mkF m 8 #[.val (.int p0), .val (.int ((p0 &&& (2147483647 : Int32)) % (9 : Int32))), .unset, .unset] [])) _
    refine XS.iloadN X0.here hx rfl (hb hby at_8) rfl ?_
    show Steps p.tables e below (s₁.setTop (mkF m 9 #[.val (.int p0), .val (.int ((p0 &&& (2147483647 : Int32)) % (9 : Int32))), .unset, .unset] [(.int ((p0 &&& (2147483647 : Int32)) % (9 : Int32)))])) _
    refine st1 _ ?_
    show Steps p.tables e below (T1.setTop (mkF m 12 #[.val (.int p0), .val (.int ((p0 &&& (2147483647 : Int32)) % (9 : Int32))), .unset, .unset] [(.ref (ad i))])) _
    refine XS.astoreN X1.here hx rfl (hb hby at_12) rfl rfl (l' := #[.val (.int p0), .val (.int ((p0 &&& (2147483647 : Int32)) % (9 : Int32))), .val (.ref (ad i)), .unset]) rfl ?_
    show Steps p.tables e below (T1.setTop (mkF m 13 #[.val (.int p0), .val (.int ((p0 &&& (2147483647 : Int32)) % (9 : Int32))), .val (.ref (ad i)), .unset] [])) _
    refine XS.iloadN X1.here hx rfl (hb hby at_13) rfl ?_
    show Steps p.tables e below (T1.setTop (mkF m 14 #[.val (.int p0), .val (.int ((p0 &&& (2147483647 : Int32)) % (9 : Int32))), .val (.ref (ad i)), .unset] [(.int ((p0 &&& (2147483647 : Int32)) % (9 : Int32)))])) _
    refine XS.bipush X1.here hx rfl (hb hby at_14) ?_
    exact kt)
  by_cases hE : ((p0 &&& (2147483647 : Int32)) % (9 : Int32)) = (7 : Int32)
  · obtain ⟨cq4, kq4, q4a, q4b, q4c⟩ := isOf hZ e1 (hX i hi)
    obtain ⟨_, _, ⟨T4, L4, k4, n4⟩, -, X4, ⟨Lc4, hQ4, l4, y4, z4⟩, st4⟩ := X1.virtualBack hx (y := (⟨"com/example/keyfold/keyfold/spec/ColumnType", "canPartition", "()Z"⟩ : MethodName)) (z := (⟨"com/example/keyfold/keyfold/spec/ColumnType", "canPartition", "()Z"⟩ : MethodName)) hown (mvT hZ (hw _ (List.mem_of_getElem? (i := 8) rfl))) (mvT hZ (hw _ (List.mem_of_getElem? (i := 9) rfl))) (notFace_of_selects (args := #[]) (mvT hZ (hw _ (List.mem_of_getElem? (i := 11) rfl)))) (mvT hZ (hw _ (List.mem_of_getElem? (i := 11) rfl))) (mvT hZ (hw _ (List.mem_of_getElem? (i := 10) rfl))) (by decide) (backOf (W := 0) (rm2 l Z a0 hw [] (ad i) ad i h0 n0 Z0 hi rfl hD hS) hZ (hw _ (List.mem_of_getElem? (i := 12) rfl)) (hw _ (List.mem_of_getElem? (i := 6) rfl)) (by decide) (by decide)) q4a q4c (g := (mkF m 26 #[.val (.int p0), .val (.int ((p0 &&& (2147483647 : Int32)) % (9 : Int32))), .val (.ref (ad i)), .val (.int (0 : Int32))] [(.ref (ad i))])) rfl (by rw [hml]; rfl) (Steps.refl _) (argsL := []) (rest := []) (lenOf pd_1 rfl) rfl (by show 2 * 0 + _ ≤ _; exact Nat.le_of_eq rfl) (hb hby at_26) (fun _ _ => ⟨rfl, e1, (by decide : 0 + 0 ≤ _), (by decide : 0 + 0 ≤ _)⟩)
    dsimp only [Pt.U, Pt.locs, Pt.cells, Pt.slots] at X4 l4 y4 z4 st4 hQ4
    subst l4 y4 z4
    obtain ⟨rfl, Nq4, e4⟩ := hQ4
    have N5 := Fr.app N2 Nq4
    obtain ⟨fs, hr, hrun, hended, hW, hsame⟩ := X4.leave (v := some (.int (1 : Int32))) (fun h => by rw [Bd.returns] at h; cases h)
    refine ⟨_, _, pre3 _ ?_, hrun, hended, _, _, rfl, ?_, ⟨_, rfl⟩, hW, hsame.mono (by decide) (by decide)⟩
    · show Steps p.tables e below (T1.setTop (mkF m 16 #[.val (.int p0), .val (.int ((p0 &&& (2147483647 : Int32)) % (9 : Int32))), .val (.ref (ad i)), .unset] [(.int (7 : Int32)), (.int ((p0 &&& (2147483647 : Int32)) % (9 : Int32)))])) _
      refine XS.icmpYes X1.here hx rfl (pc0 := 16) (pc' := 23) rfl (hb hby at_16) rfl (teq hE).1 (by decide) (by decide) ?_
      show Steps p.tables e below (T1.setTop (mkF m 23 #[.val (.int p0), .val (.int ((p0 &&& (2147483647 : Int32)) % (9 : Int32))), .val (.ref (ad i)), .unset] [])) _
      refine XS.iconst X1.here hx rfl (hb hby at_23) ?_
      show Steps p.tables e below (T1.setTop (mkF m 24 #[.val (.int p0), .val (.int ((p0 &&& (2147483647 : Int32)) % (9 : Int32))), .val (.ref (ad i)), .unset] [(.int (0 : Int32))])) _
      refine XS.istoreN X1.here hx rfl (hb hby at_24) rfl (l' := #[.val (.int p0), .val (.int ((p0 &&& (2147483647 : Int32)) % (9 : Int32))), .val (.ref (ad i)), .val (.int (0 : Int32))]) rfl ?_
      show Steps p.tables e below (T1.setTop (mkF m 25 #[.val (.int p0), .val (.int ((p0 &&& (2147483647 : Int32)) % (9 : Int32))), .val (.ref (ad i)), .val (.int (0 : Int32))] [])) _
      refine XS.aloadN X1.here hx rfl (hb hby at_25) rfl rfl ?_
      show Steps p.tables e below (T1.setTop (mkF m 26 #[.val (.int p0), .val (.int ((p0 &&& (2147483647 : Int32)) % (9 : Int32))), .val (.ref (ad i)), .val (.int (0 : Int32))] [(.ref (ad i))])) _
      refine st4.trans ?_
      show Steps p.tables e below (T4.setTop (mkF m 29 #[.val (.int p0), .val (.int ((p0 &&& (2147483647 : Int32)) % (9 : Int32))), .val (.ref (ad i)), .val (.int (0 : Int32))] [(.int (own_cp i))])) _
      refine XS.iloadN X4.here hx rfl (hb hby at_29) rfl ?_
      show Steps p.tables e below (T4.setTop (mkF m 30 #[.val (.int p0), .val (.int ((p0 &&& (2147483647 : Int32)) % (9 : Int32))), .val (.ref (ad i)), .val (.int (0 : Int32))] [(.int (0 : Int32)), (.int (own_cp i))])) _
      refine XS.icmpNo X4.here hx rfl (hb hby at_30) rfl (teq (own_cp1 hi (hk.symm.trans hE))).2 ?_
      show Steps p.tables e below (T4.setTop (mkF m 33 #[.val (.int p0), .val (.int ((p0 &&& (2147483647 : Int32)) % (9 : Int32))), .val (.ref (ad i)), .val (.int (0 : Int32))] [])) _
      refine XS.iconst X4.here hx rfl (hb hby at_33) ?_
      show Steps p.tables e below (T4.setTop (mkF m 34 #[.val (.int p0), .val (.int ((p0 &&& (2147483647 : Int32)) % (9 : Int32))), .val (.ref (ad i)), .val (.int (0 : Int32))] [(.int (1 : Int32))])) _
      refine XS.goto X4.here hx rfl (pc0 := 34) (pc' := 38) rfl (hb hby at_34) (by decide) (by decide) ?_
      show Steps p.tables e below (T4.setTop (mkF m 38 #[.val (.int p0), .val (.int ((p0 &&& (2147483647 : Int32)) % (9 : Int32))), .val (.ref (ad i)), .val (.int (0 : Int32))] [(.int (1 : Int32))])) _
      exact retN X4 hx (t := .boolean) Bd.returns (by simp) (hb hby at_38) hr
    · show Q0 Z p0 ad h0 n0 _ T4.heap _
      rw [e4]
      exact ⟨rfl, N5⟩
  · obtain ⟨cq6, kq6, q6a, q6b, q6c⟩ := isOf hZ e1 (hX i hi)
    obtain ⟨_, _, ⟨T6, L6, k6, n6⟩, -, X6, ⟨Lc6, hQ6, l6, y6, z6⟩, st6⟩ := X1.virtualBack hx (y := (⟨"com/example/keyfold/keyfold/spec/ColumnType", "canPartition", "()Z"⟩ : MethodName)) (z := (⟨"com/example/keyfold/keyfold/spec/ColumnType", "canPartition", "()Z"⟩ : MethodName)) hown (mvT hZ (hw _ (List.mem_of_getElem? (i := 8) rfl))) (mvT hZ (hw _ (List.mem_of_getElem? (i := 9) rfl))) (notFace_of_selects (args := #[]) (mvT hZ (hw _ (List.mem_of_getElem? (i := 11) rfl)))) (mvT hZ (hw _ (List.mem_of_getElem? (i := 11) rfl))) (mvT hZ (hw _ (List.mem_of_getElem? (i := 10) rfl))) (by decide) (backOf (W := 0) (rm2 l Z a0 hw [] (ad i) ad i h0 n0 Z0 hi rfl hD hS) hZ (hw _ (List.mem_of_getElem? (i := 12) rfl)) (hw _ (List.mem_of_getElem? (i := 6) rfl)) (by decide) (by decide)) q6a q6c (g := (mkF m 26 #[.val (.int p0), .val (.int ((p0 &&& (2147483647 : Int32)) % (9 : Int32))), .val (.ref (ad i)), .val (.int (1 : Int32))] [(.ref (ad i))])) rfl (by rw [hml]; rfl) (Steps.refl _) (argsL := []) (rest := []) (lenOf pd_1 rfl) rfl (by show 2 * 0 + _ ≤ _; exact Nat.le_of_eq rfl) (hb hby at_26) (fun _ _ => ⟨rfl, e1, (by decide : 0 + 0 ≤ _), (by decide : 0 + 0 ≤ _)⟩)
    dsimp only [Pt.U, Pt.locs, Pt.cells, Pt.slots] at X6 l6 y6 z6 st6 hQ6
    subst l6 y6 z6
    obtain ⟨rfl, Nq6, e6⟩ := hQ6
    have N7 := Fr.app N2 Nq6
    obtain ⟨fs, hr, hrun, hended, hW, hsame⟩ := X6.leave (v := some (.int (1 : Int32))) (fun h => by rw [Bd.returns] at h; cases h)
    refine ⟨_, _, pre3 _ ?_, hrun, hended, _, _, rfl, ?_, ⟨_, rfl⟩, hW, hsame.mono (by decide) (by decide)⟩
    · show Steps p.tables e below (T1.setTop (mkF m 16 #[.val (.int p0), .val (.int ((p0 &&& (2147483647 : Int32)) % (9 : Int32))), .val (.ref (ad i)), .unset] [(.int (7 : Int32)), (.int ((p0 &&& (2147483647 : Int32)) % (9 : Int32)))])) _
      refine XS.icmpNo X1.here hx rfl (hb hby at_16) rfl (feq hE).1 ?_
      show Steps p.tables e below (T1.setTop (mkF m 19 #[.val (.int p0), .val (.int ((p0 &&& (2147483647 : Int32)) % (9 : Int32))), .val (.ref (ad i)), .unset] [])) _
      refine XS.iconst X1.here hx rfl (hb hby at_19) ?_
      show Steps p.tables e below (T1.setTop (mkF m 20 #[.val (.int p0), .val (.int ((p0 &&& (2147483647 : Int32)) % (9 : Int32))), .val (.ref (ad i)), .unset] [(.int (1 : Int32))])) _
      refine XS.goto X1.here hx rfl (pc0 := 20) (pc' := 24) rfl (hb hby at_20) (by decide) (by decide) ?_
      show Steps p.tables e below (T1.setTop (mkF m 24 #[.val (.int p0), .val (.int ((p0 &&& (2147483647 : Int32)) % (9 : Int32))), .val (.ref (ad i)), .unset] [(.int (1 : Int32))])) _
      refine XS.istoreN X1.here hx rfl (hb hby at_24) rfl (l' := #[.val (.int p0), .val (.int ((p0 &&& (2147483647 : Int32)) % (9 : Int32))), .val (.ref (ad i)), .val (.int (1 : Int32))]) rfl ?_
      show Steps p.tables e below (T1.setTop (mkF m 25 #[.val (.int p0), .val (.int ((p0 &&& (2147483647 : Int32)) % (9 : Int32))), .val (.ref (ad i)), .val (.int (1 : Int32))] [])) _
      refine XS.aloadN X1.here hx rfl (hb hby at_25) rfl rfl ?_
      show Steps p.tables e below (T1.setTop (mkF m 26 #[.val (.int p0), .val (.int ((p0 &&& (2147483647 : Int32)) % (9 : Int32))), .val (.ref (ad i)), .val (.int (1 : Int32))] [(.ref (ad i))])) _
      refine st6.trans ?_
      show Steps p.tables e below (T6.setTop (mkF m 29 #[.val (.int p0), .val (.int ((p0 &&& (2147483647 : Int32)) % (9 : Int32))), .val (.ref (ad i)), .val (.int (1 : Int32))] [(.int (own_cp i))])) _
      refine XS.iloadN X6.here hx rfl (hb hby at_29) rfl ?_
      show Steps p.tables e below (T6.setTop (mkF m 30 #[.val (.int p0), .val (.int ((p0 &&& (2147483647 : Int32)) % (9 : Int32))), .val (.ref (ad i)), .val (.int (1 : Int32))] [(.int (1 : Int32)), (.int (own_cp i))])) _
      refine XS.icmpNo X6.here hx rfl (hb hby at_30) rfl (teq (own_cp0 hi fun q => hE (hk.trans q))).2 ?_
      show Steps p.tables e below (T6.setTop (mkF m 33 #[.val (.int p0), .val (.int ((p0 &&& (2147483647 : Int32)) % (9 : Int32))), .val (.ref (ad i)), .val (.int (1 : Int32))] [])) _
      refine XS.iconst X6.here hx rfl (hb hby at_33) ?_
      show Steps p.tables e below (T6.setTop (mkF m 34 #[.val (.int p0), .val (.int ((p0 &&& (2147483647 : Int32)) % (9 : Int32))), .val (.ref (ad i)), .val (.int (1 : Int32))] [(.int (1 : Int32))])) _
      refine XS.goto X6.here hx rfl (pc0 := 34) (pc' := 38) rfl (hb hby at_34) (by decide) (by decide) ?_
      show Steps p.tables e below (T6.setTop (mkF m 38 #[.val (.int p0), .val (.int ((p0 &&& (2147483647 : Int32)) % (9 : Int32))), .val (.ref (ad i)), .val (.int (1 : Int32))] [(.int (1 : Int32))])) _
      exact retN X6 hx (t := .boolean) Bd.returns (by simp) (hb hby at_38) hr
    · show Q0 Z p0 ad h0 n0 _ T6.heap _
      rw [e6]
      exact ⟨rfl, N7⟩
set_option maxHeartbeats 40000000 in
theorem comes_1 {Post : Tables → Env → Array Value → State → Outcome → State → Prop} (hpost : ∀ tb e args s v u, (limb_1_1.after args s (.returned v) u = true ∧ limb_1_2.after args s (.returned v) u = true ∧ True) → FrameEnd s (.returned v) u (Jvm.fieldLocs frame_1_writes args s ++ Jvm.arrayLocs frame_1_arrays args s ++ Jvm.staticLocs frame_1_statics s) 0 0 → Post tb e args s (.returned v) u) :
    ArmFor flags0 classFile x code maxLocals ret World_1 tables_1 room_1 Calls_1 rest_1 Pre_1 Post := by
  intro l hfl _ _ p e ha hc hk s m args below hf hA hF happ hP
  obtain ⟨hcalls, hrest, hpre⟩ := hP
  obtain ⟨-, -, -, hnamed, -, -, -, hat⟩ := (Spec.applies_iff hf).mp happ
  obtain ⟨hg, hn⟩ := and_e (Cond.before_iff.mp (show (Jvm.Cond.and given_1 narrow_1).before args s = true from hpre))
  obtain ⟨g1, g2⟩ := and_e hg
  obtain ⟨w0, rfl⟩ : ∃ w0 : Value, args = #[w0] := by
    have hs : args.size = 1 := by simpa [Cond.value, given_1] using g1
    obtain ⟨L⟩ := args
    match L, hs with
    | [w0], _ => exact ⟨w0, rfl⟩
  have hw := fun d (hd : d ∈ tables_1) => atoms_spec (ws := Jvm.Cond.code x code maxLocals ret :: tables_1) hat d (List.mem_cons_of_mem _ hd)
  have hfit : Fit s := fun {y c} hc i hi => by
    obtain ⟨ha, rfl⟩ := Array.getElem?_eq_some_iff.mp hc
    have q := List.all_eq_true.mp ((Array.all_eq_true_iff_forall_mem.mp hF) _ (Array.getElem_mem ha)) i (List.mem_range.mpr hi)
    simpa [Array.getElem?_eq_getElem hi] using q
  obtain ⟨i0, ei0⟩ := is_v g2
  obtain rfl : w0 = (.int i0) := Option.some.inj ei0
  obtain ⟨k1a, k1b⟩ := and_e hn
  obtain ⟨k2a, k2b⟩ := and_e k1b
  obtain ⟨k3a, k3b⟩ := and_e k2b
  obtain ⟨k4a, k4b⟩ := and_e k3b
  obtain ⟨k5a, k5b⟩ := and_e k4b
  obtain ⟨k6a, k6b⟩ := and_e k5b
  obtain ⟨k7a, k7b⟩ := and_e k6b
  obtain ⟨k8a, k8b⟩ := and_e k7b
  obtain ⟨k9a, k9b⟩ := and_e k8b
  obtain ⟨k10a, k10b⟩ := and_e k9b
  obtain ⟨k11a, k11b⟩ := and_e k10b
  obtain ⟨k12a, k12b⟩ := and_e k11b
  obtain ⟨k13a, k13b⟩ := and_e k12b
  obtain ⟨k14a, k14b⟩ := and_e k13b
  obtain ⟨k15a, k15b⟩ := and_e k14b
  obtain ⟨k16a, k16b⟩ := and_e k15b
  obtain ⟨k17a, k17b⟩ := and_e k16b
  obtain ⟨a0, ev0⟩ := exa_v k1a
  have X0 := Exa.start ev0 k1a
  have S0 := Sta.start ev0 (Or.inr ⟨(hw _ (List.mem_of_getElem? (i := 6) rfl)), (hw _ (List.mem_of_getElem? (i := 7) rfl))⟩)
  have O0 : s.fieldOf? a0 "java/lang/Enum" "ordinal" "I" = some (.int (Int32.ofNat 0)) := (fld_at ev0).symm.trans (own_eqint k3a)
  obtain ⟨a1, ev1⟩ := exa_v k9a
  have X1 := Exa.start ev1 k9a
  have S1 := Sta.start ev1 (Or.inr ⟨(hw _ (List.mem_of_getElem? (i := 6) rfl)), (hw _ (List.mem_of_getElem? (i := 20) rfl))⟩)
  have O1 : s.fieldOf? a1 "java/lang/Enum" "ordinal" "I" = some (.int (Int32.ofNat 1)) := (fld_at ev1).symm.trans (own_eqint k10a)
  obtain ⟨a2, ev2⟩ := exa_v k7a
  have X2 := Exa.start ev2 k7a
  have S2 := Sta.start ev2 (Or.inr ⟨(hw _ (List.mem_of_getElem? (i := 6) rfl)), (hw _ (List.mem_of_getElem? (i := 18) rfl))⟩)
  have O2 : s.fieldOf? a2 "java/lang/Enum" "ordinal" "I" = some (.int (Int32.ofNat 2)) := (fld_at ev2).symm.trans (own_eqint k8a)
  obtain ⟨a3, ev3⟩ := exa_v k5a
  have X3 := Exa.start ev3 k5a
  have S3 := Sta.start ev3 (Or.inr ⟨(hw _ (List.mem_of_getElem? (i := 6) rfl)), (hw _ (List.mem_of_getElem? (i := 16) rfl))⟩)
  have O3 : s.fieldOf? a3 "java/lang/Enum" "ordinal" "I" = some (.int (Int32.ofNat 3)) := (fld_at ev3).symm.trans (own_eqint k6a)
  obtain ⟨a4, ev4⟩ := exa_v k11a
  have X4 := Exa.start ev4 k11a
  have S4 := Sta.start ev4 (Or.inr ⟨(hw _ (List.mem_of_getElem? (i := 6) rfl)), (hw _ (List.mem_of_getElem? (i := 23) rfl))⟩)
  have O4 : s.fieldOf? a4 "java/lang/Enum" "ordinal" "I" = some (.int (Int32.ofNat 4)) := (fld_at ev4).symm.trans (own_eqint k12a)
  obtain ⟨a5, ev5⟩ := exa_v k17a
  have X5 := Exa.start ev5 k17a
  have S5 := Sta.start ev5 (Or.inr ⟨(hw _ (List.mem_of_getElem? (i := 6) rfl)), (hw _ (List.mem_of_getElem? (i := 29) rfl))⟩)
  have O5 : s.fieldOf? a5 "java/lang/Enum" "ordinal" "I" = some (.int (Int32.ofNat 5)) := (fld_at ev5).symm.trans (own_eqint k17b)
  obtain ⟨a6, ev6⟩ := exa_v k15a
  have X6 := Exa.start ev6 k15a
  have S6 := Sta.start ev6 (Or.inr ⟨(hw _ (List.mem_of_getElem? (i := 6) rfl)), (hw _ (List.mem_of_getElem? (i := 27) rfl))⟩)
  have O6 : s.fieldOf? a6 "java/lang/Enum" "ordinal" "I" = some (.int (Int32.ofNat 6)) := (fld_at ev6).symm.trans (own_eqint k16a)
  obtain ⟨a7, ev7⟩ := exa_v k2a
  have X7 := Exa.start ev7 k2a
  have S7 := Sta.start ev7 (Or.inr ⟨(hw _ (List.mem_of_getElem? (i := 6) rfl)), (hw _ (List.mem_of_getElem? (i := 14) rfl))⟩)
  have O7 : s.fieldOf? a7 "java/lang/Enum" "ordinal" "I" = some (.int (Int32.ofNat 7)) := (fld_at ev7).symm.trans (own_eqint k4a)
  obtain ⟨a8, ev8⟩ := exa_v k13a
  have X8 := Exa.start ev8 k13a
  have S8 := Sta.start ev8 (Or.inr ⟨(hw _ (List.mem_of_getElem? (i := 6) rfl)), (hw _ (List.mem_of_getElem? (i := 25) rfl))⟩)
  have O8 : s.fieldOf? a8 "java/lang/Enum" "ordinal" "I" = some (.int (Int32.ofNat 8)) := (fld_at ev8).symm.trans (own_eqint k14a)
  obtain ⟨ad, had⟩ : ∃ ad : Nat → Addr, ad = fun i => ([a0, a1, a2, a3, a4, a5, a6, a7, a8] : List Addr).getD i 0 := ⟨_, rfl⟩
  have hS : own_S s s.heap ad := by subst had; exact ⟨S0, S1, S2, S3, S4, S5, S6, S7, S8⟩
  have hX : ∀ i, i < 9 → Exa s s.heap (ad i) "com/example/keyfold/keyfold/spec/ColumnType" := fun i hi => by
    subst had
    match i, hi with
    | 0, _ => exact X0
    | 1, _ => exact X1
    | 2, _ => exact X2
    | 3, _ => exact X3
    | 4, _ => exact X4
    | 5, _ => exact X5
    | 6, _ => exact X6
    | 7, _ => exact X7
    | 8, _ => exact X8
    | n + 9, h => exact absurd h (by omega)
  have hO : ∀ i, i < 9 → s.fieldOf? (ad i) "java/lang/Enum" "ordinal" "I" = some (.int (Int32.ofNat i)) := fun i hi => by
    subst had
    match i, hi with
    | 0, _ => exact O0
    | 1, _ => exact O1
    | 2, _ => exact O2
    | 3, _ => exact O3
    | 4, _ => exact O4
    | 5, _ => exact O5
    | 6, _ => exact O6
    | 7, _ => exact O7
    | 8, _ => exact O8
    | n + 9, h => exact absurd h (by omega)
  have hD : ∀ i j, i < 9 → j < 9 → ad i = ad j → i = j := fun i j h1 h2 q => by
    have e1 := hO i h1
    rw [q, hO j h2] at e1
    exact ((own_lit (by omega) (by omega)).1.mp (Value.int.inj (Option.some.inj e1))).symm
  obtain ⟨n, o, h1, h2, h3, _, L, rfl, ⟨rfl, N⟩, hq⟩ := rm0 l s _ hw tables_1 i0 ad s.heap s.heap.size (Nat.le_refl _) hX hD hS p e ha hc hk s m _ below hf ((Spec.applies_iff_loose hf).mp happ).1 ⟨rfl, State.Warmed39.refl s, rfl⟩ trivial
  refine ⟨n, _, h1, h2, h3, hpost _ _ _ _ _ _ ⟨Cond.after_iff.mpr rfl, Cond.after_iff.mpr (eq_i res_at (Term.int_eval (1)) rfl), trivial⟩ ⟨hq.1, hq.2.1, (hq.2.2.sift fun y hy => Or.inr (N y hy)).mono (by decide) (by decide)⟩⟩
theorem main_1_1 : Claimed_1_1 := comes_1 fun _ _ _ _ _ _ h hF => ⟨h.1, hF⟩
theorem main_1_2 : Claimed_1_2 := comes_1 fun _ _ _ _ _ _ h hF => ⟨h.2.1, hF⟩
end Jvm.Pilot.@@N@@
namespace Jvm.Pilot.@@N@@
open Jvm Jvm.ClassFile Sem Op Lib Jvm.Free Jvm.Stand Jvm.Pilot.@@N@@.Jvm.D
/-! MADE BY PROGRAM (witnessworld.py) out of the Statement's table words and the real class files: 12 classes; the members and pool entries that the words name. The judged class is class 1, her method 2. -/
namespace start1
open Jvm.ClassFile
def u (s : String) : CpInfo := .utf8 (stringToUtf16 s)
/-- a pool by its gaps: so many unusable entries, then the entry; so many at the end -/
def gap : Nat → List CpInfo → List CpInfo
  | 0, r => r
  | n + 1, r => .unusable :: gap n r
def poolList (es : List (Nat × CpInfo)) (last : Nat) : List CpInfo := es.foldr (fun e r => gap e.1 (e.2 :: r)) (gap last [])
def pool (es : List (Nat × CpInfo)) (last : Nat) : Array CpInfo := ⟨poolList es last⟩
def fileOf (pool : Array CpInfo) (this : Nat) (attrs : Array Attribute := #[]) (ms : Array MethodInfo := #[]) (fl : Nat := 33) (sup : Nat := 0) (ifs : Array Nat := #[]) (fds : Array FieldInfo := #[]) : ClassFile where
  minorVersion := 0
  majorVersion := 65
  constantPool := pool
  accessFlags := fl
  thisClass := this
  superClass := sup
  interfaces := ifs
  fields := fds
  methods := ms
  attributes := attrs
def plain (name : String) (sup : Option ClassId) : Class where
  name := name
  kind := .ordinary
  loader := none
  accessFlags := 33
  super := sup
  interfaces := #[]
  cf := none
  fields := #[]
  methods := #[]
  instanceTypes := #[]
  staticTypes := #[]
  resolved := #[]
  callSites := []
  init := .initialized
  statics := none
  mirror := none

def pool0 : Array CpInfo := pool [(5, u "<init>"), (0, u "()V"), (1, .class_ 10), (1, u "java/lang/Object")] 113

def k0m0 : Method := { name := "<init>", desc := "()V", sig := { parameters := [], returnType := none }, accessFlags := 1, code := none }
/-- java/lang/Object -/
def k0 : Class := { plain "java/lang/Object" none with
  accessFlags := 33
  interfaces := #[]
  cf := some (fileOf pool0 8 #[] #[{ accessFlags := 1, nameIndex := 5, descriptorIndex := 6, attributes := #[] }] 33 0 #[] #[])
  fields := #[]
  methods := #[k0m0]
  instanceTypes := #[]
  staticTypes := #[]
  resolved := Array.replicate 124 none
  statics := none }

def pool1 : Array CpInfo := pool [(2, .class_ 4), (1, u "java/lang/Object"), (0, u "<init>"), (0, u "()V"), (0, .fieldref 8 9), (0, .class_ 10), (0, .nameAndType 11 12), (0, u "com/example/keyfold/keyfold/spec/ColumnType"), (0, u "STRING"), (0, u "Lcom/example/keyfold/keyfold/spec/ColumnType;"), (0, .fieldref 8 14), (0, .nameAndType 15 12), (0, u "INT16"), (0, .fieldref 8 17), (0, .nameAndType 18 12), (0, u "INT32"), (0, .fieldref 8 20), (0, .nameAndType 21 12), (0, u "INT64"), (0, .fieldref 8 23), (0, .nameAndType 24 12), (0, u "UINT16"), (0, .fieldref 8 26), (0, .nameAndType 27 12), (0, u "UINT32"), (0, .fieldref 8 29), (0, .nameAndType 30 12), (0, u "UINT64"), (0, .fieldref 8 32), (0, .nameAndType 33 12), (0, u "DOUBLE"), (0, .fieldref 8 35), (0, .nameAndType 36 12), (0, u "DATE"), (0, .integer 2147483647), (0, .methodref 39 40), (0, .class_ 41), (0, .nameAndType 42 43), (0, u "com/example/keyfold/keyfold/spec/ColumnTypeCanPartitionPinLaw"), (0, u "pick"), (0, u "(I)Lcom/example/keyfold/keyfold/spec/ColumnType;"), (0, .methodref 8 45), (0, .nameAndType 46 47), (0, u "canPartition"), (0, u "()Z"), (3, u "law"), (0, u "(I)Z")] 2

def k1m0 : Method := { name := "<init>", desc := "()V", sig := { parameters := [], returnType := none }, accessFlags := 1, code := none }
def k1c1 : Code := { maxStack := 2, maxLocals := 1, code := method_2_code, exceptionTable := #[], attributes := #[] }
def k1m1 : Method := { name := "pick", desc := "(I)Lcom/example/keyfold/keyfold/spec/ColumnType;", sig := { parameters := [.int], returnType := some (.object "com/example/keyfold/keyfold/spec/ColumnType") }, accessFlags := 10, code := some k1c1 }
def k1c2 : Code := { maxStack := 2, maxLocals := 4, code := code, exceptionTable := #[], attributes := #[] }
def k1m2 : Method := { name := "law", desc := "(I)Z", sig := { parameters := [.int], returnType := some .boolean }, accessFlags := 9, code := some k1c2 }
/-- com/example/keyfold/keyfold/spec/ColumnTypeCanPartitionPinLaw -/
def k1 : Class := { plain "com/example/keyfold/keyfold/spec/ColumnTypeCanPartitionPinLaw" (some 0) with
  accessFlags := 49
  interfaces := #[]
  cf := some (fileOf pool1 39 #[] #[{ accessFlags := 1, nameIndex := 5, descriptorIndex := 6, attributes := #[] }, { accessFlags := 10, nameIndex := 42, descriptorIndex := 43, attributes := #[] }, { accessFlags := 9, nameIndex := 51, descriptorIndex := 52, attributes := #[] }] 49 2 #[] #[])
  fields := #[]
  methods := #[k1m0, k1m1, k1m2]
  instanceTypes := #[]
  staticTypes := #[]
  resolved := Array.replicate 55 none
  statics := none }

def pool2 : Array CpInfo := pool [(1, .class_ 2), (0, u "java/lang/constant/Constable"), (0, .class_ 4), (0, u "java/lang/Object")] 6

/-- java/lang/constant/Constable -/
def k2 : Class := { plain "java/lang/constant/Constable" (some 0) with
  accessFlags := 1537
  interfaces := #[]
  cf := some (fileOf pool2 1 #[] #[] 1537 3 #[] #[])
  fields := #[]
  methods := #[]
  instanceTypes := #[]
  staticTypes := #[]
  resolved := Array.replicate 11 none
  statics := none }

def pool3 : Array CpInfo := pool [(1, .class_ 2), (0, u "java/lang/Comparable"), (0, .class_ 4), (0, u "java/lang/Object")] 7

/-- java/lang/Comparable -/
def k3 : Class := { plain "java/lang/Comparable" (some 0) with
  accessFlags := 1537
  interfaces := #[]
  cf := some (fileOf pool3 1 #[] #[] 1537 3 #[] #[])
  fields := #[]
  methods := #[]
  instanceTypes := #[]
  staticTypes := #[]
  resolved := Array.replicate 12 none
  statics := none }

def pool4 : Array CpInfo := pool [(1, .class_ 2), (0, u "java/io/Serializable"), (0, .class_ 4), (0, u "java/lang/Object")] 2

/-- java/io/Serializable -/
def k4 : Class := { plain "java/io/Serializable" (some 0) with
  accessFlags := 1537
  interfaces := #[]
  cf := some (fileOf pool4 1 #[] #[] 1537 3 #[] #[])
  fields := #[]
  methods := #[]
  instanceTypes := #[]
  staticTypes := #[]
  resolved := Array.replicate 7 none
  statics := none }

def pool5 : Array CpInfo := pool [(2, .class_ 4), (1, u "java/lang/Enum"), (0, u "name"), (0, u "Ljava/lang/String;"), (2, u "ordinal"), (0, u "I"), (1, .class_ 14), (1, u "java/lang/Object"), (4, u "hash"), (86, .class_ 108), (1, u "java/lang/Enum$EnumDesc"), (2, .class_ 112), (0, u "java/lang/constant/Constable"), (0, .class_ 114), (0, u "java/lang/Comparable"), (0, .class_ 116), (0, u "java/io/Serializable")] 87

/-- java/lang/Enum -/
def k5 : Class := { plain "java/lang/Enum" (some 0) with
  accessFlags := 1057
  interfaces := #[2, 3, 4]
  cf := some (fileOf pool5 2 #[.nestMembers #[106]] #[] 1057 12 #[111, 113, 115] #[{ accessFlags := 18, nameIndex := 5, descriptorIndex := 6, attributes := #[] }, { accessFlags := 18, nameIndex := 9, descriptorIndex := 10, attributes := #[] }, { accessFlags := 2, nameIndex := 19, descriptorIndex := 10, attributes := #[] }])
  fields := #[{ name := "name", type := (.object "java/lang/String"), accessFlags := 18, slot := 0, constantValue := 0 }, { name := "ordinal", type := .int, accessFlags := 18, slot := 1, constantValue := 0 }, { name := "hash", type := .int, accessFlags := 2, slot := 2, constantValue := 0 }]
  methods := #[]
  instanceTypes := #[(.object "java/lang/String"), .int, .int]
  staticTypes := #[]
  resolved := Array.replicate 204 none
  statics := none }

def pool6 : Array CpInfo := pool [(1, .class_ 2), (0, u "com/example/keyfold/keyfold/spec/ColumnType"), (2, u "STRING"), (0, u "Lcom/example/keyfold/keyfold/spec/ColumnType;"), (2, u "INT16"), (2, u "INT32"), (2, u "INT64"), (2, u "UINT16"), (2, u "UINT32"), (2, u "UINT64"), (0, .fieldref 1 26), (0, .nameAndType 27 6), (0, u "DOUBLE"), (2, u "DATE"), (2, u "$VALUES"), (0, u "[Lcom/example/keyfold/keyfold/spec/ColumnType;"), (6, .class_ 43), (1, u "java/lang/Enum"), (8, u "specName"), (0, u "Ljava/lang/String;"), (7, u "min"), (0, u "Ljava/math/BigInteger;"), (2, u "max"), (23, u "()Z"), (45, u "INTEGER"), (0, u "Ljava/util/regex/Pattern;"), (30, u "DECIMAL"), (93, u "FIRST_DATE"), (0, u "Ljava/time/LocalDate;"), (2, u "LAST_DATE"), (18, u "canPartition")] 31

def k6c0 : Code := { maxStack := 2, maxLocals := 1, code := prog_63_method_6_code, exceptionTable := #[], attributes := #[] }
def k6m0 : Method := { name := "canPartition", desc := "()Z", sig := { parameters := [], returnType := some .boolean }, accessFlags := 1, code := some k6c0 }
/-- com/example/keyfold/keyfold/spec/ColumnType -/
def k6 : Class := { plain "com/example/keyfold/keyfold/spec/ColumnType" (some 5) with
  accessFlags := 16433
  interfaces := #[]
  cf := some (fileOf pool6 1 #[] #[{ accessFlags := 1, nameIndex := 284, descriptorIndex := 89, attributes := #[] }] 16433 41 #[] #[{ accessFlags := 16409, nameIndex := 5, descriptorIndex := 6, attributes := #[] }, { accessFlags := 16409, nameIndex := 9, descriptorIndex := 6, attributes := #[] }, { accessFlags := 16409, nameIndex := 12, descriptorIndex := 6, attributes := #[] }, { accessFlags := 16409, nameIndex := 15, descriptorIndex := 6, attributes := #[] }, { accessFlags := 16409, nameIndex := 18, descriptorIndex := 6, attributes := #[] }, { accessFlags := 16409, nameIndex := 21, descriptorIndex := 6, attributes := #[] }, { accessFlags := 16409, nameIndex := 24, descriptorIndex := 6, attributes := #[] }, { accessFlags := 16409, nameIndex := 27, descriptorIndex := 6, attributes := #[] }, { accessFlags := 16409, nameIndex := 30, descriptorIndex := 6, attributes := #[] }, { accessFlags := 25, nameIndex := 261, descriptorIndex := 262, attributes := #[] }, { accessFlags := 25, nameIndex := 265, descriptorIndex := 262, attributes := #[] }, { accessFlags := 26, nameIndex := 135, descriptorIndex := 136, attributes := #[] }, { accessFlags := 26, nameIndex := 167, descriptorIndex := 136, attributes := #[] }, { accessFlags := 18, nameIndex := 52, descriptorIndex := 53, attributes := #[] }, { accessFlags := 18, nameIndex := 61, descriptorIndex := 62, attributes := #[] }, { accessFlags := 18, nameIndex := 65, descriptorIndex := 62, attributes := #[] }, { accessFlags := 4122, nameIndex := 33, descriptorIndex := 34, attributes := #[] }])
  fields := #[{ name := "STRING", type := (.object "com/example/keyfold/keyfold/spec/ColumnType"), accessFlags := 16409, slot := 0, constantValue := 0 }, { name := "INT16", type := (.object "com/example/keyfold/keyfold/spec/ColumnType"), accessFlags := 16409, slot := 1, constantValue := 0 }, { name := "INT32", type := (.object "com/example/keyfold/keyfold/spec/ColumnType"), accessFlags := 16409, slot := 2, constantValue := 0 }, { name := "INT64", type := (.object "com/example/keyfold/keyfold/spec/ColumnType"), accessFlags := 16409, slot := 3, constantValue := 0 }, { name := "UINT16", type := (.object "com/example/keyfold/keyfold/spec/ColumnType"), accessFlags := 16409, slot := 4, constantValue := 0 }, { name := "UINT32", type := (.object "com/example/keyfold/keyfold/spec/ColumnType"), accessFlags := 16409, slot := 5, constantValue := 0 }, { name := "UINT64", type := (.object "com/example/keyfold/keyfold/spec/ColumnType"), accessFlags := 16409, slot := 6, constantValue := 0 }, { name := "DOUBLE", type := (.object "com/example/keyfold/keyfold/spec/ColumnType"), accessFlags := 16409, slot := 7, constantValue := 0 }, { name := "DATE", type := (.object "com/example/keyfold/keyfold/spec/ColumnType"), accessFlags := 16409, slot := 8, constantValue := 0 }, { name := "FIRST_DATE", type := (.object "java/time/LocalDate"), accessFlags := 25, slot := 9, constantValue := 0 }, { name := "LAST_DATE", type := (.object "java/time/LocalDate"), accessFlags := 25, slot := 10, constantValue := 0 }, { name := "INTEGER", type := (.object "java/util/regex/Pattern"), accessFlags := 26, slot := 11, constantValue := 0 }, { name := "DECIMAL", type := (.object "java/util/regex/Pattern"), accessFlags := 26, slot := 12, constantValue := 0 }, { name := "specName", type := (.object "java/lang/String"), accessFlags := 18, slot := 3, constantValue := 0 }, { name := "min", type := (.object "java/math/BigInteger"), accessFlags := 18, slot := 4, constantValue := 0 }, { name := "max", type := (.object "java/math/BigInteger"), accessFlags := 18, slot := 5, constantValue := 0 }, { name := "$VALUES", type := (.array (.object "com/example/keyfold/keyfold/spec/ColumnType")), accessFlags := 4122, slot := 13, constantValue := 0 }]
  methods := #[k6m0]
  instanceTypes := #[(.object "java/lang/String"), .int, .int, (.object "java/lang/String"), (.object "java/math/BigInteger"), (.object "java/math/BigInteger")]
  staticTypes := #[(.object "com/example/keyfold/keyfold/spec/ColumnType"), (.object "com/example/keyfold/keyfold/spec/ColumnType"), (.object "com/example/keyfold/keyfold/spec/ColumnType"), (.object "com/example/keyfold/keyfold/spec/ColumnType"), (.object "com/example/keyfold/keyfold/spec/ColumnType"), (.object "com/example/keyfold/keyfold/spec/ColumnType"), (.object "com/example/keyfold/keyfold/spec/ColumnType"), (.object "com/example/keyfold/keyfold/spec/ColumnType"), (.object "com/example/keyfold/keyfold/spec/ColumnType"), (.object "java/time/LocalDate"), (.object "java/time/LocalDate"), (.object "java/util/regex/Pattern"), (.object "java/util/regex/Pattern"), (.array (.object "com/example/keyfold/keyfold/spec/ColumnType"))]
  resolved := Array.replicate 316 none
  statics := some 0 }

def pool7 : Array CpInfo := pool [(1, u "java/lang/Cloneable"), (0, .class_ 1), (0, u "java/lang/Object"), (0, .class_ 3)] 3

/-- java/lang/Cloneable -/
def k7 : Class := { plain "java/lang/Cloneable" (some 0) with
  accessFlags := 1537
  interfaces := #[]
  cf := some (fileOf pool7 2 #[] #[] 1537 4 #[] #[])
  fields := #[]
  methods := #[]
  instanceTypes := #[]
  staticTypes := #[]
  resolved := Array.replicate 8 none
  statics := none }

/-- the primitive byte -/
def k8 : Class := { plain "byte" none with kind := .primitive 'B', accessFlags := 0x411 }
/-- [B -/
def k9 : Class := { plain "[B" (some 0) with kind := .array 8 .byte, interfaces := #[7, 4], accessFlags := 1041 }

/-- the primitive int -/
def k10 : Class := { plain "int" none with kind := .primitive 'I', accessFlags := 0x411 }
/-- [I -/
def k11 : Class := { plain "[I" (some 0) with kind := .array 10 .int, interfaces := #[7, 4], accessFlags := 1041 }

def heap : Heap := #[{ cls := 6, slots := #[.ref 1, .ref 2, .ref 3, .ref 4, .ref 5, .ref 6, .ref 7, .ref 8, .ref 9, .null, .null, .null, .null, .null], vm := .statics 6 },
  { cls := 6, slots := #[.null, .int 0, .int 0, .null, .null, .null], vm := .none },
  { cls := 6, slots := #[.null, .int 1, .int 0, .null, .null, .null], vm := .none },
  { cls := 6, slots := #[.null, .int 2, .int 0, .null, .null, .null], vm := .none },
  { cls := 6, slots := #[.null, .int 3, .int 0, .null, .null, .null], vm := .none },
  { cls := 6, slots := #[.null, .int 4, .int 0, .null, .null, .null], vm := .none },
  { cls := 6, slots := #[.null, .int 5, .int 0, .null, .null, .null], vm := .none },
  { cls := 6, slots := #[.null, .int 6, .int 0, .null, .null, .null], vm := .none },
  { cls := 6, slots := #[.null, .int 7, .int 0, .null, .null, .null], vm := .none },
  { cls := 6, slots := #[.null, .int 8, .int 0, .null, .null, .null], vm := .none }]
def classes : Array Class := #[k0, k1, k2, k3, k4, k5, k6, k7, k8, k9, k10, k11]
def interned : List (Array UInt16 × Addr) := []
def slotsUsed : Nat := 68
def theMethod : MethodId := ⟨1, 2⟩
def args0 : Array Value := #[.int 6]
def aboutOver (below : List Frame) : State where
  vm := { classes := classes, interned := interned.toArray }
  heap := heap
  slotsUsed := slotsUsed
  threads := #[{ frames := .invoking theMethod args0 :: below }]
def below0 : List Frame := [.native { method := ⟨0, 0⟩, args := #[] }]
def about1 : State := aboutOver below0
def p0 : Program := .bare "" "" ""
def e0 : Env := launch0.env 0 0 0
theorem w_frames : about1.frames = Frame.invoking theMethod args0 :: below0 := rfl
set_option maxRecDepth 65536 in
theorem w_args : argsFit about1.vm theMethod args0 = true := by decide +kernel
set_option maxRecDepth 65536 in
theorem w_heap : heapFits about1 = true := by decide +kernel
set_option maxRecDepth 65536 in
theorem w_runnable : about1.curStatus? = some .runnable := by decide +kernel
set_option maxRecDepth 65536 in
theorem w_alone : about1.alone = true := by decide +kernel
set_option maxRecDepth 65536 in
theorem w_named : about1.methodNamed? x = some theMethod := by decide +kernel
set_option maxRecDepth 65536 in
theorem w_hears : about1.hears theMethod below0 = true := by decide +kernel
set_option maxRecDepth 65536 in
theorem w_ripe : about1.ripe theMethod args0 below0 = true := by decide +kernel
theorem w_running : about1.status = .running := rfl
set_option maxRecDepth 65536 in
theorem w_room : about1.hasRoom e0.platform room_1 = true :=
  launch0.hasRoom_least _ room_1 (by decide +kernel) (by decide +kernel) (by decide +kernel) (by decide +kernel) (by decide +kernel) (by decide +kernel)
theorem allAtoms_all (ts : List Jvm.Cond) (a : Array Jvm.Value) (st : Jvm.State) : (allAtoms ts).before a st = ts.all (fun c => c.before a st) := by
  induction ts with
  | nil => rfl
  | cons c t ih =>
    show (Jvm.Cond.and c (allAtoms t)).before a st = _
    rw [Jvm.Cond.before_and, ih, List.all_cons]
def words1 : List Jvm.Cond := Jvm.Cond.code x code maxLocals ret :: tables_1
/-- a 'code' word, met by the world's own term for the bytes: nothing is compared byte by byte -/
theorem code_word {y : MethodName} {bytes : ByteArray} {mx : Nat} {rt : Option FieldType} {a : Array Value} {s : State} {m : MethodId} {meth : Method} {c : Code} (h1 : s.methodNamed? y = some m) (h2 : s.vm.method? m = some meth) (h3 : meth.code = some c) (h4 : c.code = bytes)
    (h5 : (c.maxLocals == mx && c.exceptionTable.isEmpty && decide (c.maxStack ≤ mostOperands) && decide (meth.sig.returnType = rt) && !meth.locks && decide (parseMethodDescriptor y.desc = some meth.sig)) = true) : (Jvm.Cond.code y bytes mx rt).before a s = true := by
  simp only [Bool.and_eq_true, beq_iff_eq, Bool.not_eq_true', decide_eq_true_eq] at h5
  obtain ⟨⟨⟨⟨⟨g1, g2⟩, g3⟩, g4⟩, g5⟩, g6⟩ := h5
  simp [Cond.before, Cond.holds, Cond.value, h1, h2, h3, h4, g1, g2, g3, g4, g5, g6]
def isCode : Jvm.Cond → Bool
  | .code _ _ _ _ => true
  | _ => false
theorem all_split {L : List Jvm.Cond} {P : Jvm.Cond → Bool} (h1 : L.all (fun c => isCode c || P c) = true) (h2 : ∀ c ∈ L.filter isCode, P c = true) : L.all P = true := by
  refine List.all_eq_true.mpr fun c hc => ?_
  have h := List.all_eq_true.mp h1 c hc
  rcases Bool.eq_false_or_eq_true (isCode c) with hi | hi
  · exact h2 c (List.mem_filter.mpr ⟨hc, hi⟩)
  · simpa [hi] using h
set_option maxRecDepth 65536 in
theorem w_c0 : (Jvm.Cond.code x code maxLocals ret).before args0 about1 = true := code_word (m := ⟨1, 2⟩) (meth := k1m2) (c := k1c2) (by decide +kernel) rfl rfl rfl (by decide +kernel)
set_option maxRecDepth 65536 in
theorem w_c1 : (Jvm.Cond.code ({ cls := "com/example/keyfold/keyfold/spec/ColumnTypeCanPartitionPinLaw", name := "pick", desc := "(I)Lcom/example/keyfold/keyfold/spec/ColumnType;" } : Jvm.MethodName) method_2_code (1 : Nat) (Option.some (Jvm.ClassFile.FieldType.object "com/example/keyfold/keyfold/spec/ColumnType"))).before args0 about1 = true := code_word (m := ⟨1, 1⟩) (meth := k1m1) (c := k1c1) (by decide +kernel) rfl rfl rfl (by decide +kernel)
set_option maxRecDepth 65536 in
theorem w_c2 : (Jvm.Cond.code ({ cls := "com/example/keyfold/keyfold/spec/ColumnType", name := "canPartition", desc := "()Z" } : Jvm.MethodName) prog_63_method_6_code (1 : Nat) (Option.some Jvm.ClassFile.FieldType.boolean)).before args0 about1 = true := code_word (m := ⟨6, 0⟩) (meth := k6m0) (c := k6c0) (by decide +kernel) rfl rfl rfl (by decide +kernel)
def codes1 : List Jvm.Cond := [Jvm.Cond.code x code maxLocals ret, Jvm.Cond.code ({ cls := "com/example/keyfold/keyfold/spec/ColumnTypeCanPartitionPinLaw", name := "pick", desc := "(I)Lcom/example/keyfold/keyfold/spec/ColumnType;" } : Jvm.MethodName) method_2_code (1 : Nat) (Option.some (Jvm.ClassFile.FieldType.object "com/example/keyfold/keyfold/spec/ColumnType")), Jvm.Cond.code ({ cls := "com/example/keyfold/keyfold/spec/ColumnType", name := "canPartition", desc := "()Z" } : Jvm.MethodName) prog_63_method_6_code (1 : Nat) (Option.some Jvm.ClassFile.FieldType.boolean)]
set_option maxRecDepth 65536 in
theorem codes_eq : words1.filter isCode = codes1 := rfl
theorem w_codes : ∀ c ∈ words1.filter isCode, c.before args0 about1 = true := by
  rw [codes_eq]
  intro c hc
  simp only [codes1, List.mem_cons, List.not_mem_nil, or_false] at hc
  rcases hc with rfl | rfl | rfl
  · exact w_c0
  · exact w_c1
  · exact w_c2
set_option maxRecDepth 65536 in
theorem w_t1 : (words1.take 24).all (fun c => isCode c || c.before args0 about1) = true := by decide +kernel
set_option maxRecDepth 65536 in
theorem w_t2 : (words1.drop 24).all (fun c => isCode c || c.before args0 about1) = true := by decide +kernel
theorem w_tables : (allAtoms (Jvm.Cond.code x code maxLocals ret :: tables_1)).before args0 about1 = true := by
  rw [allAtoms_all]
  show words1.all (fun c => c.before args0 about1) = true
  refine all_split ?_ w_codes
  rw [← List.take_append_drop 24 words1, List.all_append, w_t1, w_t2]
  rfl
set_option maxRecDepth 65536 in
theorem w_case : (Jvm.Cond.and given_1 narrow_1).before args0 about1 = true := by decide +kernel
theorem w_applies : (headSpec (Jvm.Cond.code x code maxLocals ret :: tables_1) room_1).applies x e0.platform about1 = true :=
  (Spec.applies_iff w_frames).mpr ⟨w_running, w_runnable, w_alone, w_named, w_hears, w_ripe, w_room, w_tables⟩
theorem atStart : AtStart classFile x code maxLocals ret World_1 tables_1 room_1 Calls_1 rest_1 Pre_1 launch0 p0 e0 about1 theMethod args0 below0 :=
  ⟨lists_1, trivial, launch0.admits_env _ _ _, launch0.least_env, fairChoices_fair.cas, fairChoices_fair.clock, w_frames, w_args, w_heap, w_applies, trivial, trivial, w_case⟩
end start1
theorem witness_1 : WitnessClaimed_1 := ⟨start1.p0, start1.e0, start1.about1, start1.theMethod, start1.args0, start1.below0, start1.atStart⟩
end Jvm.Pilot.@@N@@
