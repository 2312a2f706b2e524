import JvmDerived
import JvmDerived.Pilot.@@N@@Statement
import JvmDerived.Pilot.@@N@@Code
set_option linter.unusedVariables false
set_option linter.unusedSimpArgs false
set_option maxRecDepth 65536
namespace Jvm.RoadKit
open Sem ClassFile Op Lib Jvm.Stand Jvm.Free Jvm.LawKit
section New
variable {p : Program} {l : Launch} {e : Env} {R : Room} {s : State} {m : MethodId} {args : Array Value} {below : List Frame} {meth : Method} {c : Code} {T : State} {locs : List Loc} {cells slots : Nat}
theorem retI (X : Stand p l e R s m args below meth c T locs cells slots) (hx : p.tables.exec = Jvm.exec) {pc : Nat} {Ls : Array Slot} {z : Int32} {rest : List Value} (hret : meth.sig.returnType = some .int) (hd : decode c.code pc = .ok (.ireturn, 1)) {fs : List Frame}
    (hl : ∀ (f : JFrame) (acts : List Action), f.method = m → f.locked = none → f.entered = [] → (doReturn e (T.setTop f) acts (some (.int z))).1 = T.setFrames fs) : Steps p.tables e below (T.setTop (mkF m pc Ls (.int z :: rest))) (T.setFrames fs) := by
  have hm' : T.vm.method? m = some meth := X.method'
  have hn : narrow .int (.int z) = .int z := rfl
  show Steps p.tables e below (T.setTop { method := m, pc := pc, locals := Ls, stack := _ :: rest, locked := none }) _
  jvm_step X.here [X.here.top, hx, hd, hm', hret, hn]
  first | (intro acts; rw [hl _ acts rfl rfl rfl]) | rw [hl _ _ rfl rfl rfl]
  exact Steps.refl _
end New
end Jvm.RoadKit
namespace Jvm.Pilot.@@N@@
open Jvm Jvm.ClassFile Sem Op Lib Jvm.Free Jvm.Stand Jvm.LawKit Jvm.RoadKit Bundle Jvm.Pilot.@@N@@.Jvm.D
theorem d1_0 : decode jdk_29_method_69_code 0 = .ok (.iload_n 0, 1) := by decide +kernel
theorem d1_1 : decode jdk_29_method_69_code 1 = .ok (.iload_n 1, 1) := by decide +kernel
theorem d1_2 : decode jdk_29_method_69_code 2 = .ok (.if_icmp .gt 7, 3) := by decide +kernel
theorem d1_9 : decode jdk_29_method_69_code 9 = .ok (.iload_n 1, 1) := by decide +kernel
theorem d1_5 : decode jdk_29_method_69_code 5 = .ok (.iload_n 0, 1) := by decide +kernel
theorem d1_6 : decode jdk_29_method_69_code 6 = .ok (.goto 4, 3) := by decide +kernel
theorem d1_10 : decode jdk_29_method_69_code 10 = .ok (.ireturn, 1) := by decide +kernel
def own_f1_10 (p1 : Int32) (p2 : Int32) (u0 : Int32) : Int32 := u0
def own_f1 (p1 : Int32) (p2 : Int32) : Int32 := (if p2 < p1 then (own_f1_10 p1 p2 p2) else (own_f1_10 p1 p2 p1))
theorem ef_rm1 (m : MethodId) (x0 : Int32) (x1 : Int32) : entryFrame m #[(.int x0), (.int x1)] 2 = mkF m 0 #[.val (.int x0), .val (.int x1)] [] := by first | (simp [entryFrame, mkF, argsToLocals, Value.category]; done) | rfl
def Q1 (Z : State) (p1 : Int32) (p2 : Int32) (h0 : Heap) (n0 : Nat) (v : Option Value) (h : Heap) (L : List Loc) : Prop := v = some (.int (own_f1 p1 p2)) ∧ Fr n0 L ∧ h = h0
set_option maxHeartbeats 40000000 in
theorem rm1 (l : Launch) (Z : State) (a0 : Array Value) (hw : ∀ d ∈ tables_1, d.before a0 Z = true) (ws : List Jvm.Cond) (p1 : Int32) (p2 : Int32) (h0 : Heap) (n0 : Nat) (Z0 : n0 ≤ h0.size) :
    MetFree l (⟨"java/lang/Math", "min", "(II)I"⟩ : MethodName) (head1 (Jvm.Cond.code (⟨"java/lang/Math", "min", "(II)I"⟩ : MethodName) jdk_29_method_69_code 2 (some .int) :: ws) ({ frames := 0, cells := 0, slots := 0, locals := 0 } : Room)) (fun a U => a = #[(.int p1), (.int p2)] ∧ Z.Warmed39 U.vm ∧ U.heap = h0) (fun _ _ _ _ _ => True) (fun _ U o U' => ∃ v L, o = .returned v ∧ Q1 Z p1 p2 h0 n0 v U'.heap L ∧ FrameEnd U o U' L ({ frames := 0, cells := 0, slots := 0, locals := 0 } : Room).cells ({ frames := 0, cells := 0, slots := 0, locals := 0 } : Room).slots) := by
  refine MetFree.of_bodySF (Jvm.Free.JP.mathPlain rfl (by decide +kernel)) hisR ?_
  intro p e s m args below meth c s₁ Bd hml0 hP hK
  obtain ⟨rfl, hZ, hh⟩ := hP
  have hx := Bd.exec
  have hby := Bd.bytes
  have hml : c.maxLocals = 2 := hml0
  have hown : s.vm.findClass "java/lang/Math" = some m.cls := findClass_of_methodNamed Bd.named
  have hnm := (name_of_methodNamed Bd.named Bd.method).1
  have X0 : Stand p l e ({ frames := 0, cells := 0, slots := 0, locals := 0 } : Room) s m #[(.int p1), (.int p2)] below meth c s₁ [] 0 0 := Stand.of_body Bd
  have e0 : s₁.heap = h0 := by rw [← hh, Bd.state]; rfl
  have N0 := Fr.nil n0
  have pre0 : ∀ tgt, Steps p.tables e below (s₁.setTop (mkF m 0 #[.val (.int p1), .val (.int p2)] [])) tgt → Steps p.tables e below (s₁.setTop (entryFrame m #[(.int p1), (.int p2)] 2)) tgt := fun tgt k => castTop (ef_rm1 m p1 p2) k
  obtain ⟨fs, hr, hrun, hended, hW, hsame⟩ := X0.leave (v := some (.int (own_f1 p1 p2))) (fun h => by rw [Bd.returns] at h; cases h)
  refine ⟨_, _, pre0 _ ?_, hrun, hended, _, _, rfl, ?_, ⟨_, rfl⟩, hW, hsame.mono (by decide) (by decide)⟩
  · have s_10 : ∀ (u0 : Int32), own_f1_10 p1 p2 u0 = own_f1 p1 p2 → Steps p.tables e below (s₁.setTop (mkF m 10 #[.val (.int p1), .val (.int p2)] [(.int u0)])) (s₁.setFrames fs) := by
      intro u0 hV
      show Steps p.tables e below (s₁.setTop (mkF m 10 #[.val (.int p1), .val (.int p2)] [(.int u0)])) _
      have he : u0 = own_f1 p1 p2 := Eq.trans (by rw [own_f1_10]) hV
      rw [← he] at hr
      exact retI X0 hx Bd.returns (hb hby d1_10) hr
    have s_0 : own_f1 p1 p2  = own_f1 p1 p2 → Steps p.tables e below (s₁.setTop (mkF m 0 #[.val (.int p1), .val (.int p2)] [])) (s₁.setFrames fs) := by
      intro  hV
      show Steps p.tables e below (s₁.setTop (mkF m 0 #[.val (.int p1), .val (.int p2)] [])) _
      refine XS.iloadN X0.here hx rfl (hb hby d1_0) rfl ?_
      show Steps p.tables e below (s₁.setTop (mkF m 1 #[.val (.int p1), .val (.int p2)] [(.int p1)])) _
      refine XS.iloadN X0.here hx rfl (hb hby d1_1) rfl ?_
      by_cases h2 : p2 < p1
      · show Steps p.tables e below (s₁.setTop (mkF m 2 #[.val (.int p1), .val (.int p2)] [(.int p2), (.int p1)])) _
        refine XS.icmpYes X0.here hx rfl (pc0 := 2) (pc' := 9) rfl (hb hby d1_2) rfl (tlt h2).2.2.1 (by decide) (by decide) ?_
        show Steps p.tables e below (s₁.setTop (mkF m 9 #[.val (.int p1), .val (.int p2)] [])) _
        refine XS.iloadN X0.here hx rfl (hb hby d1_9) rfl ?_
        exact s_10 p2 (Eq.trans (by rw [own_f1, if_pos h2]) hV)
      · show Steps p.tables e below (s₁.setTop (mkF m 2 #[.val (.int p1), .val (.int p2)] [(.int p2), (.int p1)])) _
        refine XS.icmpNo X0.here hx rfl (hb hby d1_2) rfl (flt h2).2.2.1 ?_
        show Steps p.tables e below (s₁.setTop (mkF m 5 #[.val (.int p1), .val (.int p2)] [])) _
        refine XS.iloadN X0.here hx rfl (hb hby d1_5) rfl ?_
        show Steps p.tables e below (s₁.setTop (mkF m 6 #[.val (.int p1), .val (.int p2)] [(.int p1)])) _
        refine XS.goto X0.here hx rfl (pc0 := 6) (pc' := 10) rfl (hb hby d1_6) (by decide) (by decide) ?_
        exact s_10 p1 (Eq.trans (by rw [own_f1, if_neg h2]) hV)
    exact s_0 rfl
  · show Q1 Z p1 p2 h0 n0 _ s₁.heap _
    rw [e0]
    exact ⟨rfl, N0, rfl⟩
theorem d2_0 : decode jdk_29_method_65_code 0 = .ok (.iload_n 0, 1) := by decide +kernel
theorem d2_1 : decode jdk_29_method_65_code 1 = .ok (.iload_n 1, 1) := by decide +kernel
theorem d2_2 : decode jdk_29_method_65_code 2 = .ok (.if_icmp .lt 7, 3) := by decide +kernel
theorem d2_9 : decode jdk_29_method_65_code 9 = .ok (.iload_n 1, 1) := by decide +kernel
theorem d2_5 : decode jdk_29_method_65_code 5 = .ok (.iload_n 0, 1) := by decide +kernel
theorem d2_6 : decode jdk_29_method_65_code 6 = .ok (.goto 4, 3) := by decide +kernel
theorem d2_10 : decode jdk_29_method_65_code 10 = .ok (.ireturn, 1) := by decide +kernel
def own_f2_10 (p1 : Int32) (p2 : Int32) (u0 : Int32) : Int32 := u0
def own_f2 (p1 : Int32) (p2 : Int32) : Int32 := (if p1 < p2 then (own_f2_10 p1 p2 p2) else (own_f2_10 p1 p2 p1))
theorem ef_rm2 (m : MethodId) (x0 : Int32) (x1 : Int32) : entryFrame m #[(.int x0), (.int x1)] 2 = mkF m 0 #[.val (.int x0), .val (.int x1)] [] := by first | (simp [entryFrame, mkF, argsToLocals, Value.category]; done) | rfl
def Q2 (Z : State) (p1 : Int32) (p2 : Int32) (h0 : Heap) (n0 : Nat) (v : Option Value) (h : Heap) (L : List Loc) : Prop := v = some (.int (own_f2 p1 p2)) ∧ Fr n0 L ∧ h = h0
set_option maxHeartbeats 40000000 in
theorem rm2 (l : Launch) (Z : State) (a0 : Array Value) (hw : ∀ d ∈ tables_1, d.before a0 Z = true) (ws : List Jvm.Cond) (p1 : Int32) (p2 : Int32) (h0 : Heap) (n0 : Nat) (Z0 : n0 ≤ h0.size) :
    MetFree l (⟨"java/lang/Math", "max", "(II)I"⟩ : MethodName) (head1 (Jvm.Cond.code (⟨"java/lang/Math", "max", "(II)I"⟩ : MethodName) jdk_29_method_65_code 2 (some .int) :: ws) ({ frames := 0, cells := 0, slots := 0, locals := 0 } : Room)) (fun a U => a = #[(.int p1), (.int p2)] ∧ Z.Warmed39 U.vm ∧ U.heap = h0) (fun _ _ _ _ _ => True) (fun _ U o U' => ∃ v L, o = .returned v ∧ Q2 Z p1 p2 h0 n0 v U'.heap L ∧ FrameEnd U o U' L ({ frames := 0, cells := 0, slots := 0, locals := 0 } : Room).cells ({ frames := 0, cells := 0, slots := 0, locals := 0 } : Room).slots) := by
  refine MetFree.of_bodySF (Jvm.Free.JP.mathPlain rfl (by decide +kernel)) hisR ?_
  intro p e s m args below meth c s₁ Bd hml0 hP hK
  obtain ⟨rfl, hZ, hh⟩ := hP
  have hx := Bd.exec
  have hby := Bd.bytes
  have hml : c.maxLocals = 2 := hml0
  have hown : s.vm.findClass "java/lang/Math" = some m.cls := findClass_of_methodNamed Bd.named
  have hnm := (name_of_methodNamed Bd.named Bd.method).1
  have X0 : Stand p l e ({ frames := 0, cells := 0, slots := 0, locals := 0 } : Room) s m #[(.int p1), (.int p2)] below meth c s₁ [] 0 0 := Stand.of_body Bd
  have e0 : s₁.heap = h0 := by rw [← hh, Bd.state]; rfl
  have N0 := Fr.nil n0
  have pre0 : ∀ tgt, Steps p.tables e below (s₁.setTop (mkF m 0 #[.val (.int p1), .val (.int p2)] [])) tgt → Steps p.tables e below (s₁.setTop (entryFrame m #[(.int p1), (.int p2)] 2)) tgt := fun tgt k => castTop (ef_rm2 m p1 p2) k
  obtain ⟨fs, hr, hrun, hended, hW, hsame⟩ := X0.leave (v := some (.int (own_f2 p1 p2))) (fun h => by rw [Bd.returns] at h; cases h)
  refine ⟨_, _, pre0 _ ?_, hrun, hended, _, _, rfl, ?_, ⟨_, rfl⟩, hW, hsame.mono (by decide) (by decide)⟩
  · have s_10 : ∀ (u0 : Int32), own_f2_10 p1 p2 u0 = own_f2 p1 p2 → Steps p.tables e below (s₁.setTop (mkF m 10 #[.val (.int p1), .val (.int p2)] [(.int u0)])) (s₁.setFrames fs) := by
      intro u0 hV
      show Steps p.tables e below (s₁.setTop (mkF m 10 #[.val (.int p1), .val (.int p2)] [(.int u0)])) _
      have he : u0 = own_f2 p1 p2 := Eq.trans (by rw [own_f2_10]) hV
      rw [← he] at hr
      exact retI X0 hx Bd.returns (hb hby d2_10) hr
    have s_0 : own_f2 p1 p2  = own_f2 p1 p2 → Steps p.tables e below (s₁.setTop (mkF m 0 #[.val (.int p1), .val (.int p2)] [])) (s₁.setFrames fs) := by
      intro  hV
      show Steps p.tables e below (s₁.setTop (mkF m 0 #[.val (.int p1), .val (.int p2)] [])) _
      refine XS.iloadN X0.here hx rfl (hb hby d2_0) rfl ?_
      show Steps p.tables e below (s₁.setTop (mkF m 1 #[.val (.int p1), .val (.int p2)] [(.int p1)])) _
      refine XS.iloadN X0.here hx rfl (hb hby d2_1) rfl ?_
      by_cases h2 : p1 < p2
      · show Steps p.tables e below (s₁.setTop (mkF m 2 #[.val (.int p1), .val (.int p2)] [(.int p2), (.int p1)])) _
        refine XS.icmpYes X0.here hx rfl (pc0 := 2) (pc' := 9) rfl (hb hby d2_2) rfl (tlt h2).1 (by decide) (by decide) ?_
        show Steps p.tables e below (s₁.setTop (mkF m 9 #[.val (.int p1), .val (.int p2)] [])) _
        refine XS.iloadN X0.here hx rfl (hb hby d2_9) rfl ?_
        exact s_10 p2 (Eq.trans (by rw [own_f2, if_pos h2]) hV)
      · show Steps p.tables e below (s₁.setTop (mkF m 2 #[.val (.int p1), .val (.int p2)] [(.int p2), (.int p1)])) _
        refine XS.icmpNo X0.here hx rfl (hb hby d2_2) rfl (flt h2).1 ?_
        show Steps p.tables e below (s₁.setTop (mkF m 5 #[.val (.int p1), .val (.int p2)] [])) _
        refine XS.iloadN X0.here hx rfl (hb hby d2_5) rfl ?_
        show Steps p.tables e below (s₁.setTop (mkF m 6 #[.val (.int p1), .val (.int p2)] [(.int p1)])) _
        refine XS.goto X0.here hx rfl (pc0 := 6) (pc' := 10) rfl (hb hby d2_6) (by decide) (by decide) ?_
        exact s_10 p1 (Eq.trans (by rw [own_f2, if_neg h2]) hV)
    exact s_0 rfl
  · show Q2 Z p1 p2 h0 n0 _ s₁.heap _
    rw [e0]
    exact ⟨rfl, N0, rfl⟩
theorem own_and (x m : Int32) (hm : 0 ≤ m.toInt) : 0 ≤ (x &&& m).toInt ∧ (x &&& m).toInt ≤ m.toInt := by
  have e : (x &&& m).toBitVec.toNat = x.toBitVec.toNat &&& m.toBitVec.toNat := by simp
  have h1 : (x &&& m).toBitVec.toNat ≤ m.toBitVec.toNat := by rw [e]; exact Nat.and_le_right
  have h2 := m.toBitVec.isLt
  rw [← Int32.toInt_toBitVec, BitVec.toInt_eq_toNat_cond] at hm ⊢
  rw [← Int32.toInt_toBitVec m, BitVec.toInt_eq_toNat_cond]
  generalize (x &&& m).toBitVec.toNat = a at *
  generalize m.toBitVec.toNat = b at *
  split at hm
  · split <;> omega
  · omega
theorem own_of (t : Int32) (n : Nat) (h0 : 0 ≤ t.toInt) (h1 : t.toInt < n) (hn : n ≤ 2 ^ 31) : ∃ k, k < n ∧ t = Int32.ofNat k ∧ t.toNatClampNeg = k := by
  refine ⟨t.toInt.toNat, by omega, ?_, ?_⟩
  · apply Int32.toInt_inj.1
    rw [Int32.toInt_ofNat_of_lt (by omega)]
    omega
  · rfl
theorem own_lc (x y : Int64) : (lcmpW x y < 0 ↔ x.toInt < y.toInt) ∧ (0 < lcmpW x y ↔ y.toInt < x.toInt) := by
  unfold lcmpW
  constructor <;> (repeat' split) <;> simp_all [Int64.lt_iff_toInt_lt, ← Int64.toInt_inj] <;> omega
theorem own_sub (v h : Int32) : (h.toInt64 - v.toInt64).toInt = h.toInt - v.toInt := by
  have h1 := Int32.le_toInt h
  have h2 := Int32.toInt_lt h
  have h3 := Int32.le_toInt v
  have h4 := Int32.toInt_lt v
  rw [Int64.toInt_sub, Int.bmod_def]
  simp only [Int32.toInt_toInt64]
  split <;> omega
theorem own_min (a b : Int32) : (own_f1 a b).toInt = if b.toInt < a.toInt then b.toInt else a.toInt := by
  simp only [own_f1_10, own_f1, Int32.lt_iff_toInt_lt]
  split <;> rfl
theorem own_max (a b : Int32) : (own_f2 a b).toInt = if a.toInt < b.toInt then b.toInt else a.toInt := by
  simp only [own_f2_10, own_f2, Int32.lt_iff_toInt_lt]
  split <;> rfl
theorem own_s16 {z : Int32} (h0 : 0 ≤ z.toInt) (h1 : z.toInt ≤ 32767) : z.toInt16.toInt32 = z := by
  apply Int32.toInt_inj.1
  rw [Int16.toInt_toInt32, Int32.toInt_toInt16, Int.bmod_def]
  split <;> omega
theorem own_bnd (x y : Int32) : 0 ≤ (own_f1 (x &&& 32767) (y &&& 32767)).toInt ∧ (own_f1 (x &&& 32767) (y &&& 32767)).toInt ≤ (own_f2 (x &&& 32767) (y &&& 32767)).toInt ∧ (own_f2 (x &&& 32767) (y &&& 32767)).toInt ≤ 32767 := by
  have h1 := own_and x 32767 (by decide)
  have h2 := own_and y 32767 (by decide)
  have e : (32767 : Int32).toInt = 32767 := by decide
  rw [own_min, own_max]
  split <;> split <;> omega
def own_ct (mn mx v : Int32) : Int32 := if v < mn then 0 else if mx < v then 0 else 1
section
variable {lo hi : Int32}
theorem own_n0 (h0 : 0 ≤ lo.toInt) (h1 : lo.toInt ≤ hi.toInt) (h2 : hi.toInt ≤ 32767) : ¬ lo.toInt16.toInt32 < 0 := by
  rw [own_s16 h0 (by omega), Int32.lt_iff_toInt_lt]
  have e : (0 : Int32).toInt = 0 := by decide
  omega
theorem own_n1 (h0 : 0 ≤ lo.toInt) (h1 : lo.toInt ≤ hi.toInt) (h2 : hi.toInt ≤ 32767) : ¬ hi.toInt16.toInt32 < lo.toInt16.toInt32 := by
  rw [own_s16 h0 (by omega), own_s16 (by omega) h2, Int32.lt_iff_toInt_lt]
  omega
theorem own_fld (h0 : 0 ≤ lo.toInt) (h1 : lo.toInt ≤ hi.toInt) (h2 : hi.toInt ≤ 32767) (v : Int32) : own_ct (nar .short lo.toInt16.toInt32) (nar .short hi.toInt16.toInt32) v = if v.toInt < lo.toInt then 0 else if hi.toInt < v.toInt then 0 else 1 := by
  have e1 : nar .short lo.toInt16.toInt32 = lo := by
    show lo.toInt16.toInt32.toInt16.toInt32 = lo
    rw [own_s16 h0 (by omega), own_s16 h0 (by omega)]
  have e2 : nar .short hi.toInt16.toInt32 = hi := by
    show hi.toInt16.toInt32.toInt16.toInt32 = hi
    rw [own_s16 (by omega) h2, own_s16 (by omega) h2]
  rw [e1, e2]
  simp only [own_ct, Int32.lt_iff_toInt_lt]
theorem own_a {v : Int32} (h0 : 0 ≤ lo.toInt) (h1 : lo.toInt ≤ hi.toInt) (h2 : hi.toInt ≤ 32767) (q : lcmpW (v.toInt64 - lo.toInt64) 0 < 0) : own_ct (nar .short lo.toInt16.toInt32) (nar .short hi.toInt16.toInt32) v = 0 := by
  rw [(own_lc _ _).1, own_sub] at q
  have e : (0 : Int64).toInt = 0 := by decide
  rw [own_fld h0 h1 h2, if_pos (by omega)]
theorem own_b {v : Int32} (h0 : 0 ≤ lo.toInt) (h1 : lo.toInt ≤ hi.toInt) (h2 : hi.toInt ≤ 32767) (q : 0 < lcmpW (v.toInt64 - lo.toInt64) (hi.toInt64 - lo.toInt64)) : own_ct (nar .short lo.toInt16.toInt32) (nar .short hi.toInt16.toInt32) v = 0 := by
  rw [(own_lc _ _).2, own_sub, own_sub] at q
  rw [own_fld h0 h1 h2]
  split
  · rfl
  · rw [if_pos (by omega)]
theorem own_c {v : Int32} (h0 : 0 ≤ lo.toInt) (h1 : lo.toInt ≤ hi.toInt) (h2 : hi.toInt ≤ 32767) (q : ¬ lcmpW (v.toInt64 - lo.toInt64) 0 < 0) (q' : ¬ 0 < lcmpW (v.toInt64 - lo.toInt64) (hi.toInt64 - lo.toInt64)) : own_ct (nar .short lo.toInt16.toInt32) (nar .short hi.toInt16.toInt32) v = 1 := by
  rw [(own_lc _ _).1, own_sub] at q
  rw [(own_lc _ _).2, own_sub, own_sub] at q'
  have e : (0 : Int64).toInt = 0 := by decide
  rw [own_fld h0 h1 h2, if_neg (by omega), if_neg (by omega)]
end
theorem own_sta_keep {Z : State} {h h' : Heap} {a : Addr} {C n d K : String} {v : Value} (F : Sta Z h C n d v) (E : Exa Z h a K) (Kp : Keep h h' [a]) : Sta Z h' C n d v := by
  obtain ⟨cf, i, k, f, st, cell, h1, h2, h3, h4, h5, h6, h7⟩ := F
  obtain ⟨cell', k', e1, -, -, e4, -⟩ := E
  have ne : st ≠ a := fun q => by
    subst q
    cases h5.symm.trans e1
    rw [h6] at e4
    cases e4
  exact ⟨cf, i, k, f, st, cell, h1, h2, h3, h4, Kp.2.1 _ _ h5 (by simpa using ne), h6, h7⟩
theorem d4_0 : decode jdk_30_method_1_code 0 = .ok (.aload_n 0, 1) := by decide +kernel
theorem d4_1 : decode jdk_30_method_1_code 1 = .ok (.invokespecial 1, 3) := by decide +kernel
theorem d4_4 : decode jdk_30_method_1_code 4 = .ok (.return_, 1) := by decide +kernel
theorem pn_0 : plainName "java/lang/Record" = true := by first | (simp [plainName, overriddenIn]; done) | decide +kernel
theorem ef_rm4 (m : MethodId) (x0 : Addr) : entryFrame m #[(.ref x0)] 1 = mkF m 0 #[.val (.ref x0)] [] := by first | (simp [entryFrame, mkF, argsToLocals, Value.category]; done) | rfl
def Q4 (Z : State) (a1 : Addr) (h0 : Heap) (n0 : Nat) (v : Option Value) (h : Heap) (L : List Loc) : Prop := v = none ∧ Fr n0 L ∧ h = h0
set_option maxHeartbeats 40000000 in
theorem rm4 (l : Launch) (Z : State) (a0 : Array Value) (hw : ∀ d ∈ tables_1, d.before a0 Z = true) (ws : List Jvm.Cond) (a1 : Addr) (h0 : Heap) (n0 : Nat) (Z0 : n0 ≤ h0.size) :
    MetFree l (⟨"java/lang/Record", "<init>", "()V"⟩ : MethodName) (head1 (Jvm.Cond.code (⟨"java/lang/Record", "<init>", "()V"⟩ : MethodName) jdk_30_method_1_code 1 none :: ws) ({ frames := 1, cells := 0, slots := 0, locals := 12 } : Room)) (fun a U => a = #[(.ref a1)] ∧ Z.Warmed39 U.vm ∧ U.heap = h0) (fun _ _ _ _ _ => True) (fun _ U o U' => ∃ v L, o = .returned v ∧ Q4 Z a1 h0 n0 v U'.heap L ∧ FrameEnd U o U' L ({ frames := 1, cells := 0, slots := 0, locals := 12 } : Room).cells ({ frames := 1, cells := 0, slots := 0, locals := 12 } : Room).slots) := by
  refine MetFree.of_bodySF (plainFor_of_name pn_0) hisR ?_
  intro p e s m args below meth c s₁ Bd hml0 hP hK
  obtain ⟨rfl, hZ, hh⟩ := hP
  have hx := Bd.exec
  have hby := Bd.bytes
  have hml : c.maxLocals = 1 := hml0
  have hown : s.vm.findClass "java/lang/Record" = some m.cls := findClass_of_methodNamed Bd.named
  have hnm := (name_of_methodNamed Bd.named Bd.method).1
  have X0 : Stand p l e ({ frames := 1, cells := 0, slots := 0, locals := 12 } : Room) s m #[(.ref a1)] below meth c s₁ [] 0 0 := Stand.of_body Bd
  have e0 : s₁.heap = h0 := by rw [← hh, Bd.state]; rfl
  have N0 := Fr.nil n0
  have pre0 : ∀ tgt, Steps p.tables e below (s₁.setTop (mkF m 0 #[.val (.ref a1)] [])) tgt → Steps p.tables e below (s₁.setTop (entryFrame m #[(.ref a1)] 1)) tgt := fun tgt k => castTop (ef_rm4 m a1) k
  obtain ⟨T1, X1, e1, st1⟩ := initO X0 hx hZ hown (hw _ (List.mem_of_getElem? (i := 18) rfl)) (hw _ (List.mem_of_getElem? (i := 19) rfl)) (hw _ (List.mem_of_getElem? (i := 20) rfl)) e0 (g := (mkF m 1 #[.val (.ref a1)] [(.ref a1)])) rfl (by rw [hml]; rfl) rfl (hb hby d4_1) (by decide) (W := 0) (by show 2 * 0 + _ ≤ _; exact Nat.le_of_eq rfl) (by decide)
  obtain ⟨fs, hr, hrun, hended, hW, hsame⟩ := X1.leave (v := none) (fun _ => rfl)
  refine ⟨_, _, pre0 _ ?_, hrun, hended, _, _, rfl, ?_, ⟨_, rfl⟩, hW, hsame.mono (by decide) (by decide)⟩
  · show Steps p.tables e below (s₁.setTop (mkF m 0 #[.val (.ref a1)] [])) _
    refine XS.aloadN X0.here hx rfl (hb hby d4_0) rfl rfl ?_
    show Steps p.tables e below (s₁.setTop (mkF m 1 #[.val (.ref a1)] [(.ref a1)])) _
    refine st1 _ ?_
    show Steps p.tables e below (T1.setTop (mkF m 4 #[.val (.ref a1)] [])) _
    exact X1.returnOut hx Bd.returns (hb hby d4_4) hr
  · show Q4 Z a1 h0 n0 _ T1.heap _
    rw [e1]
    exact ⟨rfl, N0, rfl⟩
theorem d3_0 : decode prog_169_method_1_code 0 = .ok (.aload_n 0, 1) := by decide +kernel
theorem d3_1 : decode prog_169_method_1_code 1 = .ok (.invokespecial 1, 3) := by decide +kernel
theorem pd_0 : parseMethodDescriptor "()V" = some ⟨[], none⟩ := by decide +kernel
theorem d3_4 : decode prog_169_method_1_code 4 = .ok (.iload_n 1, 1) := by decide +kernel
theorem d3_5 : decode prog_169_method_1_code 5 = .ok (.ifCond .lt 8, 3) := by decide +kernel
theorem d3_8 : decode prog_169_method_1_code 8 = .ok (.iload_n 2, 1) := by decide +kernel
theorem d3_9 : decode prog_169_method_1_code 9 = .ok (.iload_n 1, 1) := by decide +kernel
theorem d3_10 : decode prog_169_method_1_code 10 = .ok (.if_icmp .ge 18, 3) := by decide +kernel
theorem d3_28 : decode prog_169_method_1_code 28 = .ok (.aload_n 0, 1) := by decide +kernel
theorem d3_29 : decode prog_169_method_1_code 29 = .ok (.iload_n 1, 1) := by decide +kernel
theorem d3_30 : decode prog_169_method_1_code 30 = .ok (.putfield 16, 3) := by decide +kernel
theorem d3_33 : decode prog_169_method_1_code 33 = .ok (.aload_n 0, 1) := by decide +kernel
theorem d3_34 : decode prog_169_method_1_code 34 = .ok (.iload_n 2, 1) := by decide +kernel
theorem d3_35 : decode prog_169_method_1_code 35 = .ok (.putfield 22, 3) := by decide +kernel
theorem d3_38 : decode prog_169_method_1_code 38 = .ok (.return_, 1) := by decide +kernel
theorem pn_1 : plainName "com/example/tidy_commit/tidycommit/wire/VersionRange" = true := by first | (simp [plainName, overriddenIn]; done) | decide +kernel
theorem ef_rm3 (m : MethodId) (x0 : Addr) (x1 : Int32) (x2 : Int32) : entryFrame m #[(.ref x0), (.int x1), (.int x2)] 3 = mkF m 0 #[.val (.ref x0), .val (.int x1), .val (.int x2)] [] := by first | (simp [entryFrame, mkF, argsToLocals, Value.category]; done) | rfl
def Q3 (Z : State) (a1 : Addr) (p1 : Int32) (p2 : Int32) (h0 : Heap) (n0 : Nat) (v : Option Value) (h : Heap) (L : List Loc) : Prop := v = none ∧ Fr n0 L ∧ Keep h0 h [a1] ∧ Exa Z h a1 "com/example/tidy_commit/tidycommit/wire/VersionRange" ∧ Fld Z h a1 "com/example/tidy_commit/tidycommit/wire/VersionRange" "min" "S" (.int (nar .short p1)) ∧ Fld Z h a1 "com/example/tidy_commit/tidycommit/wire/VersionRange" "max" "S" (.int (nar .short p2))
set_option maxHeartbeats 40000000 in
theorem rm3 (l : Launch) (Z : State) (a0 : Array Value) (hw : ∀ d ∈ tables_1, d.before a0 Z = true) (ws : List Jvm.Cond) (a1 : Addr) (p1 : Int32) (p2 : Int32) (h0 : Heap) (n0 : Nat) (Z0 : n0 ≤ h0.size) (E1 : Exa Z h0 a1 "com/example/tidy_commit/tidycommit/wire/VersionRange") (gn_a1 : n0 ≤ a1) (F_min : Fld Z h0 a1 "com/example/tidy_commit/tidycommit/wire/VersionRange" "min" "S" (.int (0 : Int32))) (F_max : Fld Z h0 a1 "com/example/tidy_commit/tidycommit/wire/VersionRange" "max" "S" (.int (0 : Int32))) (hp1 : ¬ p1 < 0) (hp2 : ¬ p2 < p1) :
    MetFree l (⟨"com/example/tidy_commit/tidycommit/wire/VersionRange", "<init>", "(SS)V"⟩ : MethodName) (head1 (Jvm.Cond.code (⟨"com/example/tidy_commit/tidycommit/wire/VersionRange", "<init>", "(SS)V"⟩ : MethodName) prog_169_method_1_code 3 none :: ws) ({ frames := 2, cells := 0, slots := 0, locals := 24 } : Room)) (fun a U => a = #[(.ref a1), (.int p1), (.int p2)] ∧ Z.Warmed39 U.vm ∧ U.heap = h0) (fun _ _ _ _ _ => True) (fun _ U o U' => ∃ v L, o = .returned v ∧ Q3 Z a1 p1 p2 h0 n0 v U'.heap L ∧ FrameEnd U o U' L ({ frames := 2, cells := 0, slots := 0, locals := 24 } : Room).cells ({ frames := 2, cells := 0, slots := 0, locals := 24 } : Room).slots) := by
  refine MetFree.of_bodySF (plainFor_of_name pn_1) hisR ?_
  intro p e s m args below meth c s₁ Bd hml0 hP hK
  obtain ⟨rfl, hZ, hh⟩ := hP
  have hx := Bd.exec
  have hby := Bd.bytes
  have hml : c.maxLocals = 3 := hml0
  have hown : s.vm.findClass "com/example/tidy_commit/tidycommit/wire/VersionRange" = some m.cls := findClass_of_methodNamed Bd.named
  have hnm := (name_of_methodNamed Bd.named Bd.method).1
  have X0 : Stand p l e ({ frames := 2, cells := 0, slots := 0, locals := 24 } : Room) s m #[(.ref a1), (.int p1), (.int p2)] below meth c s₁ [] 0 0 := Stand.of_body Bd
  have e0 : s₁.heap = h0 := by rw [← hh, Bd.state]; rfl
  have N0 := Fr.nil n0
  have pre0 : ∀ tgt, Steps p.tables e below (s₁.setTop (mkF m 0 #[.val (.ref a1), .val (.int p1), .val (.int p2)] [])) tgt → Steps p.tables e below (s₁.setTop (entryFrame m #[(.ref a1), (.int p1), (.int p2)] 3)) tgt := fun tgt k => castTop (ef_rm3 m a1 p1 p2) k
  obtain ⟨_, _, ⟨T1, L1, k1, n1⟩, -, X1, ⟨Lc1, hQ1, l1, y1, z1⟩, st1⟩ := X0.specialBack hx (y := (⟨"java/lang/Record", "<init>", "()V"⟩ : MethodName)) rfl hown (mvT hZ (hw _ (List.mem_of_getElem? (i := 13) rfl))) (mvT hZ (hw _ (List.mem_of_getElem? (i := 14) rfl))) (mvT hZ (hw _ (List.mem_of_getElem? (i := 17) rfl))) (by decide) (backOf (W := 0) (rm4 l Z a0 hw [] a1  h0 n0 Z0 ) hZ (hw _ (List.mem_of_getElem? (i := 17) rfl)) (hw _ (List.mem_of_getElem? (i := 16) rfl)) (by decide) (by decide)) (g := (mkF m 1 #[.val (.ref a1), .val (.int p1), .val (.int p2)] [(.ref a1)])) rfl (by rw [hml]; rfl) (Steps.refl _) (a := a1) (argsL := []) (rest := []) (lenOf pd_0 rfl) rfl (by show 2 * 0 + _ ≤ _; exact Nat.le_of_eq rfl) (hb hby d3_1) (fun _ _ => ⟨rfl, e0, (by decide : 0 + 0 ≤ _), (by decide : 0 + 0 ≤ _)⟩)
  dsimp only [Pt.U, Pt.locs, Pt.cells, Pt.slots] at X1 l1 y1 z1 st1 hQ1
  subst l1 y1 z1
  obtain ⟨rfl, Nq1, e1⟩ := hQ1
  have N2 := Fr.app N0 Nq1
  obtain ⟨T3, h3, X3, e3, W3, st3⟩ := putFN X1 hx hZ hown (hw _ (List.mem_of_getElem? (i := 21) rfl)) Via.refl e1 F_min E1 (Or.inr ⟨(hw _ (List.mem_of_getElem? (i := 22) rfl)), rfl, hnm⟩) (hw _ (List.mem_of_getElem? (i := 8) rfl)) (ty := .short) (v' := (.int (nar .short p1))) (by decide) rfl (fits_nar_short _) (g := (mkF m 30 #[.val (.ref a1), .val (.int p1), .val (.int p2)] [(.int p1), (.ref a1)])) rfl rfl (hb hby d3_30)
  have f4 := F_min.same W3
  have f5 := E1.wr W3
  have f6 := F_max.other W3 (Or.inr (slot_ne (Or.inr (hw _ (List.mem_of_getElem? (i := 24) rfl))) (Or.inr (hw _ (List.mem_of_getElem? (i := 22) rfl))) (by decide) (t := .short) (t' := .short) (by decide) (by decide)))
  have zz7 : n0 ≤ h3.size := Nat.le_trans Z0 (Keep.of_wr W3).1
  have N8 := Fr.snoc X3 N2 gn_a1
  have K9 : Keep h0 h3 [a1] := (Keep.refl h0 [a1]).wr W3 (Or.inl (List.mem_of_getElem? (i := 0) rfl))
  obtain ⟨T10, h10, X10, e10, W10, st10⟩ := putFN X3 hx hZ hown (hw _ (List.mem_of_getElem? (i := 23) rfl)) Via.refl e3 f6 f5 (Or.inr ⟨(hw _ (List.mem_of_getElem? (i := 24) rfl)), rfl, hnm⟩) (hw _ (List.mem_of_getElem? (i := 8) rfl)) (ty := .short) (v' := (.int (nar .short p2))) (by decide) rfl (fits_nar_short _) (g := (mkF m 35 #[.val (.ref a1), .val (.int p1), .val (.int p2)] [(.int p2), (.ref a1)])) rfl rfl (hb hby d3_35)
  have f11 := f6.same W10
  have f12 := f5.wr W10
  have f13 := f4.other W10 (Or.inr (slot_ne (Or.inr (hw _ (List.mem_of_getElem? (i := 22) rfl))) (Or.inr (hw _ (List.mem_of_getElem? (i := 24) rfl))) (by decide) (t := .short) (t' := .short) (by decide) (by decide)))
  have zz14 : n0 ≤ h10.size := Nat.le_trans zz7 (Keep.of_wr W10).1
  have N15 := Fr.snoc X10 N8 gn_a1
  have K16 : Keep h0 h10 [a1] := K9.wr W10 (Or.inl (List.mem_of_getElem? (i := 0) rfl))
  obtain ⟨fs, hr, hrun, hended, hW, hsame⟩ := X10.leave (v := none) (fun _ => rfl)
  refine ⟨_, _, pre0 _ ?_, hrun, hended, _, _, rfl, ?_, ⟨_, rfl⟩, hW, hsame.mono (by decide) (by decide)⟩
  · show Steps p.tables e below (s₁.setTop (mkF m 0 #[.val (.ref a1), .val (.int p1), .val (.int p2)] [])) _
    refine XS.aloadN X0.here hx rfl (hb hby d3_0) rfl rfl ?_
    show Steps p.tables e below (s₁.setTop (mkF m 1 #[.val (.ref a1), .val (.int p1), .val (.int p2)] [(.ref a1)])) _
    refine st1.trans ?_
    show Steps p.tables e below (T1.setTop (mkF m 4 #[.val (.ref a1), .val (.int p1), .val (.int p2)] [])) _
    refine XS.iloadN X1.here hx rfl (hb hby d3_4) rfl ?_
    show Steps p.tables e below (T1.setTop (mkF m 5 #[.val (.ref a1), .val (.int p1), .val (.int p2)] [(.int p1)])) _
    refine XS.ifNo X1.here hx rfl (hb hby d3_5) rfl ((if0 _ _).trans (flt hp1).1) ?_
    show Steps p.tables e below (T1.setTop (mkF m 8 #[.val (.ref a1), .val (.int p1), .val (.int p2)] [])) _
    refine XS.iloadN X1.here hx rfl (hb hby d3_8) rfl ?_
    show Steps p.tables e below (T1.setTop (mkF m 9 #[.val (.ref a1), .val (.int p1), .val (.int p2)] [(.int p2)])) _
    refine XS.iloadN X1.here hx rfl (hb hby d3_9) rfl ?_
    show Steps p.tables e below (T1.setTop (mkF m 10 #[.val (.ref a1), .val (.int p1), .val (.int p2)] [(.int p1), (.int p2)])) _
    refine XS.icmpYes X1.here hx rfl (pc0 := 10) (pc' := 28) rfl (hb hby d3_10) rfl (flt hp2).2.1 (by decide) (by decide) ?_
    show Steps p.tables e below (T1.setTop (mkF m 28 #[.val (.ref a1), .val (.int p1), .val (.int p2)] [])) _
    refine XS.aloadN X1.here hx rfl (hb hby d3_28) rfl rfl ?_
    show Steps p.tables e below (T1.setTop (mkF m 29 #[.val (.ref a1), .val (.int p1), .val (.int p2)] [(.ref a1)])) _
    refine XS.iloadN X1.here hx rfl (hb hby d3_29) rfl ?_
    show Steps p.tables e below (T1.setTop (mkF m 30 #[.val (.ref a1), .val (.int p1), .val (.int p2)] [(.int p1), (.ref a1)])) _
    refine st3 _ ?_
    show Steps p.tables e below (T3.setTop (mkF m 33 #[.val (.ref a1), .val (.int p1), .val (.int p2)] [])) _
    refine XS.aloadN X3.here hx rfl (hb hby d3_33) rfl rfl ?_
    show Steps p.tables e below (T3.setTop (mkF m 34 #[.val (.ref a1), .val (.int p1), .val (.int p2)] [(.ref a1)])) _
    refine XS.iloadN X3.here hx rfl (hb hby d3_34) rfl ?_
    show Steps p.tables e below (T3.setTop (mkF m 35 #[.val (.ref a1), .val (.int p1), .val (.int p2)] [(.int p2), (.ref a1)])) _
    refine st10 _ ?_
    show Steps p.tables e below (T10.setTop (mkF m 38 #[.val (.ref a1), .val (.int p1), .val (.int p2)] [])) _
    exact X10.returnOut hx Bd.returns (hb hby d3_38) hr
  · show Q3 Z a1 p1 p2 h0 n0 _ T10.heap _
    rw [e10]
    exact ⟨rfl, N15, K16, f12, f13, f11⟩
theorem d6_0 : decode prog_169_method_3_code 0 = .ok (.aload_n 0, 1) := by decide +kernel
theorem d6_1 : decode prog_169_method_3_code 1 = .ok (.getfield 16, 3) := by decide +kernel
theorem d6_4 : decode prog_169_method_3_code 4 = .ok (.iload_n 1, 1) := by decide +kernel
theorem d6_5 : decode prog_169_method_3_code 5 = .ok (.if_icmp .gt 15, 3) := by decide +kernel
theorem d6_8 : decode prog_169_method_3_code 8 = .ok (.iload_n 1, 1) := by decide +kernel
theorem d6_9 : decode prog_169_method_3_code 9 = .ok (.aload_n 0, 1) := by decide +kernel
theorem d6_10 : decode prog_169_method_3_code 10 = .ok (.getfield 22, 3) := by decide +kernel
theorem d6_13 : decode prog_169_method_3_code 13 = .ok (.if_icmp .gt 7, 3) := by decide +kernel
theorem d6_20 : decode prog_169_method_3_code 20 = .ok (.iconst 0, 1) := by decide +kernel
theorem d6_21 : decode prog_169_method_3_code 21 = .ok (.ireturn, 1) := by decide +kernel
theorem d6_16 : decode prog_169_method_3_code 16 = .ok (.iconst 1, 1) := by decide +kernel
theorem d6_17 : decode prog_169_method_3_code 17 = .ok (.goto 4, 3) := by decide +kernel
theorem ef_rm6 (m : MethodId) (x0 : Addr) (x1 : Int32) : entryFrame m #[(.ref x0), (.int x1)] 2 = mkF m 0 #[.val (.ref x0), .val (.int x1)] [] := by first | (simp [entryFrame, mkF, argsToLocals, Value.category]; done) | rfl
def Q6 (Z : State) (a1 : Addr) (p1 : Int32) (mn mx : Int32) (h0 : Heap) (n0 : Nat) (v : Option Value) (h : Heap) (L : List Loc) : Prop := v = some (.int (own_ct mn mx p1)) ∧ Fr n0 L ∧ h = h0
set_option maxHeartbeats 40000000 in
theorem rm6 (l : Launch) (Z : State) (a0 : Array Value) (hw : ∀ d ∈ tables_1, d.before a0 Z = true) (ws : List Jvm.Cond) (a1 : Addr) (p1 : Int32) (mn mx : Int32) (h0 : Heap) (n0 : Nat) (Z0 : n0 ≤ h0.size) (F1 : Fld Z h0 a1 "com/example/tidy_commit/tidycommit/wire/VersionRange" "min" "S" (.int mn)) (F2 : Fld Z h0 a1 "com/example/tidy_commit/tidycommit/wire/VersionRange" "max" "S" (.int mx)) :
    MetFree l (⟨"com/example/tidy_commit/tidycommit/wire/VersionRange", "contains", "(S)Z"⟩ : MethodName) (head1 (Jvm.Cond.code (⟨"com/example/tidy_commit/tidycommit/wire/VersionRange", "contains", "(S)Z"⟩ : MethodName) prog_169_method_3_code 2 (some .boolean) :: ws) ({ frames := 0, cells := 0, slots := 0, locals := 0 } : Room)) (fun a U => a = #[(.ref a1), (.int p1)] ∧ Z.Warmed39 U.vm ∧ U.heap = h0) (fun _ _ _ _ _ => True) (fun _ U o U' => ∃ v L, o = .returned v ∧ Q6 Z a1 p1 mn mx h0 n0 v U'.heap L ∧ FrameEnd U o U' L ({ frames := 0, cells := 0, slots := 0, locals := 0 } : Room).cells ({ frames := 0, cells := 0, slots := 0, locals := 0 } : Room).slots) := by
  refine MetFree.of_bodySF (plainFor_of_name pn_1) hisR ?_
  intro p e s m args below meth c s₁ Bd hml0 hP hK
  obtain ⟨rfl, hZ, hh⟩ := hP
  have hx := Bd.exec
  have hby := Bd.bytes
  have hml : c.maxLocals = 2 := hml0
  have hown : s.vm.findClass "com/example/tidy_commit/tidycommit/wire/VersionRange" = some m.cls := findClass_of_methodNamed Bd.named
  have hnm := (name_of_methodNamed Bd.named Bd.method).1
  have X0 : Stand p l e ({ frames := 0, cells := 0, slots := 0, locals := 0 } : Room) s m #[(.ref a1), (.int p1)] below meth c s₁ [] 0 0 := Stand.of_body Bd
  have e0 : s₁.heap = h0 := by rw [← hh, Bd.state]; rfl
  have N0 := Fr.nil n0
  have pre0 : ∀ tgt, Steps p.tables e below (s₁.setTop (mkF m 0 #[.val (.ref a1), .val (.int p1)] [])) tgt → Steps p.tables e below (s₁.setTop (entryFrame m #[(.ref a1), (.int p1)] 2)) tgt := fun tgt k => castTop (ef_rm6 m a1 p1) k
  obtain ⟨T1, X1, e1, st1⟩ := getF X0 hx hZ hown (host := "") (Or.inl (hw _ (List.mem_of_getElem? (i := 21) rfl))) Via.refl e0 F1 (g := (mkF m 1 #[.val (.ref a1), .val (.int p1)] [(.ref a1)])) rfl rfl (hb hby d6_1)
  have pre2 : ∀ tgt, Steps p.tables e below (T1.setTop (mkF m 5 #[.val (.ref a1), .val (.int p1)] [(.int p1), (.int mn)])) tgt → Steps p.tables e below (s₁.setTop (entryFrame m #[(.ref a1), (.int p1)] 2)) tgt := fun tgt kt => pre0 _ (by
    show Steps p.tables e below (s₁.setTop (mkF m 0 #[.val (.ref a1), .val (.int p1)] [])) _
    refine XS.aloadN X0.here hx rfl (hb hby d6_0) rfl rfl ?_
    show Steps p.tables e below (s₁.setTop (mkF m 1 #[.val (.ref a1), .val (.int p1)] [(.ref a1)])) _
    refine st1 _ ?_
    show Steps p.tables e below (T1.setTop (mkF m 4 #[.val (.ref a1), .val (.int p1)] [(.int mn)])) _
    refine XS.iloadN X1.here hx rfl (hb hby d6_4) rfl ?_
    exact kt)
  by_cases hA : p1 < mn
  · obtain ⟨fs, hr, hrun, hended, hW, hsame⟩ := X1.leave (v := some (.int (0 : Int32))) (fun h => by rw [Bd.returns] at h; cases h)
    refine ⟨_, _, pre2 _ ?_, hrun, hended, _, _, rfl, ?_, ⟨_, rfl⟩, hW, hsame.mono (by decide) (by decide)⟩
    · show Steps p.tables e below (T1.setTop (mkF m 5 #[.val (.ref a1), .val (.int p1)] [(.int p1), (.int mn)])) _
      refine XS.icmpYes X1.here hx rfl (pc0 := 5) (pc' := 20) rfl (hb hby d6_5) rfl (tlt hA).2.2.1 (by decide) (by decide) ?_
      show Steps p.tables e below (T1.setTop (mkF m 20 #[.val (.ref a1), .val (.int p1)] [])) _
      refine XS.iconst X1.here hx rfl (hb hby d6_20) ?_
      show Steps p.tables e below (T1.setTop (mkF m 21 #[.val (.ref a1), .val (.int p1)] [(.int (0 : Int32))])) _
      exact retN X1 hx (t := .boolean) Bd.returns (by simp) (hb hby d6_21) hr
    · show Q6 Z a1 p1 mn mx h0 n0 _ T1.heap _
      rw [e1]
      exact ⟨by first | (rw [own_ct, if_pos hA]; done) | (rw [own_ct, if_pos hA]; rfl), N0, rfl⟩
  · obtain ⟨T3, X3, e3, st3⟩ := getF X1 hx hZ hown (host := "") (Or.inl (hw _ (List.mem_of_getElem? (i := 23) rfl))) Via.refl e1 F2 (g := (mkF m 10 #[.val (.ref a1), .val (.int p1)] [(.ref a1), (.int p1)])) rfl rfl (hb hby d6_10)
    have pre4 : ∀ tgt, Steps p.tables e below (T3.setTop (mkF m 13 #[.val (.ref a1), .val (.int p1)] [(.int mx), (.int p1)])) tgt → Steps p.tables e below (s₁.setTop (entryFrame m #[(.ref a1), (.int p1)] 2)) tgt := fun tgt kt => pre2 _ (by
      show Steps p.tables e below (T1.setTop (mkF m 5 #[.val (.ref a1), .val (.int p1)] [(.int p1), (.int mn)])) _
      refine XS.icmpNo X1.here hx rfl (hb hby d6_5) rfl (flt hA).2.2.1 ?_
      show Steps p.tables e below (T1.setTop (mkF m 8 #[.val (.ref a1), .val (.int p1)] [])) _
      refine XS.iloadN X1.here hx rfl (hb hby d6_8) rfl ?_
      show Steps p.tables e below (T1.setTop (mkF m 9 #[.val (.ref a1), .val (.int p1)] [(.int p1)])) _
      refine XS.aloadN X1.here hx rfl (hb hby d6_9) rfl rfl ?_
      show Steps p.tables e below (T1.setTop (mkF m 10 #[.val (.ref a1), .val (.int p1)] [(.ref a1), (.int p1)])) _
      refine st3 _ ?_
      exact kt)
    by_cases hB : mx < p1
    · obtain ⟨fs, hr, hrun, hended, hW, hsame⟩ := X3.leave (v := some (.int (0 : Int32))) (fun h => by rw [Bd.returns] at h; cases h)
      refine ⟨_, _, pre4 _ ?_, hrun, hended, _, _, rfl, ?_, ⟨_, rfl⟩, hW, hsame.mono (by decide) (by decide)⟩
      · show Steps p.tables e below (T3.setTop (mkF m 13 #[.val (.ref a1), .val (.int p1)] [(.int mx), (.int p1)])) _
        refine XS.icmpYes X3.here hx rfl (pc0 := 13) (pc' := 20) rfl (hb hby d6_13) rfl (tlt hB).2.2.1 (by decide) (by decide) ?_
        show Steps p.tables e below (T3.setTop (mkF m 20 #[.val (.ref a1), .val (.int p1)] [])) _
        refine XS.iconst X3.here hx rfl (hb hby d6_20) ?_
        show Steps p.tables e below (T3.setTop (mkF m 21 #[.val (.ref a1), .val (.int p1)] [(.int (0 : Int32))])) _
        exact retN X3 hx (t := .boolean) Bd.returns (by simp) (hb hby d6_21) hr
      · show Q6 Z a1 p1 mn mx h0 n0 _ T3.heap _
        rw [e3]
        exact ⟨by first | (rw [own_ct, if_neg hA, if_pos hB]; done) | (rw [own_ct, if_neg hA, if_pos hB]; rfl), N0, rfl⟩
    · obtain ⟨fs, hr, hrun, hended, hW, hsame⟩ := X3.leave (v := some (.int (1 : Int32))) (fun h => by rw [Bd.returns] at h; cases h)
      refine ⟨_, _, pre4 _ ?_, hrun, hended, _, _, rfl, ?_, ⟨_, rfl⟩, hW, hsame.mono (by decide) (by decide)⟩
      · show Steps p.tables e below (T3.setTop (mkF m 13 #[.val (.ref a1), .val (.int p1)] [(.int mx), (.int p1)])) _
        refine XS.icmpNo X3.here hx rfl (hb hby d6_13) rfl (flt hB).2.2.1 ?_
        show Steps p.tables e below (T3.setTop (mkF m 16 #[.val (.ref a1), .val (.int p1)] [])) _
        refine XS.iconst X3.here hx rfl (hb hby d6_16) ?_
        show Steps p.tables e below (T3.setTop (mkF m 17 #[.val (.ref a1), .val (.int p1)] [(.int (1 : Int32))])) _
        refine XS.goto X3.here hx rfl (pc0 := 17) (pc' := 21) rfl (hb hby d6_17) (by decide) (by decide) ?_
        show Steps p.tables e below (T3.setTop (mkF m 21 #[.val (.ref a1), .val (.int p1)] [(.int (1 : Int32))])) _
        exact retN X3 hx (t := .boolean) Bd.returns (by simp) (hb hby d6_21) hr
      · show Q6 Z a1 p1 mn mx h0 n0 _ T3.heap _
        rw [e3]
        exact ⟨by first | (rw [own_ct, if_neg hA, if_neg hB]; done) | (rw [own_ct, if_neg hA, if_neg hB]; rfl), N0, rfl⟩
theorem pd_1 : parseMethodDescriptor "(II)I" = some ⟨[.int, .int], some .int⟩ := by decide +kernel
theorem pd_2 : parseMethodDescriptor "(SS)V" = some ⟨[.short, .short], none⟩ := by decide +kernel
theorem pd_3 : parseMethodDescriptor "(S)Z" = some ⟨[.short], some .boolean⟩ := by decide +kernel
theorem pn_2 : plainName "com/example/tidy_commit/tidycommit/wire/VersionRangeContainsPinLaw" = true := by first | (simp [plainName, overriddenIn]; done) | decide +kernel
theorem ef_rm0 (m : MethodId) (x0 : Int32) (x1 : Int32) (x2 : Int32) (x3 : Int32) : entryFrame m #[(.int x0), (.int x1), (.int x2), (.int x3)] maxLocals = mkF m 0 #[.val (.int x0), .val (.int x1), .val (.int x2), .val (.int x3), .unset, .unset, .unset, .unset, .unset, .unset, .unset, .unset, .unset, .unset, .unset] [] := by first | (simp [entryFrame, mkF, argsToLocals, Value.category, maxLocals]; done) | rfl
def Q0 (Z : State) (p0 : Int32) (p1 : Int32) (p2 : Int32) (p3 : Int32) (h0 : Heap) (n0 : Nat) (v : Option Value) (h : Heap) (L : List Loc) : Prop := v = some (.int (1 : Int32)) ∧ Fr n0 L
set_option maxHeartbeats 40000000 in
theorem rm0 (l : Launch) (Z : State) (a0 : Array Value) (hw : ∀ d ∈ tables_1, d.before a0 Z = true) (ws : List Jvm.Cond) (p0 : Int32) (p1 : Int32) (p2 : Int32) (p3 : Int32) (h0 : Heap) (n0 : Nat) (Z0 : n0 ≤ h0.size) :
    MetFree l x (head1 (Jvm.Cond.code x code maxLocals ret :: ws) room_1) (fun a U => a = #[(.int p0), (.int p1), (.int p2), (.int p3)] ∧ Z.Warmed39 U.vm ∧ U.heap = h0) (fun _ _ _ _ _ => True) (fun _ U o U' => ∃ v L, o = .returned v ∧ Q0 Z p0 p1 p2 p3 h0 n0 v U'.heap L ∧ FrameEnd U o U' L room_1.cells room_1.slots) := by
  refine MetFree.of_bodySF (plainFor_of_name pn_2) hisR ?_
  intro p e s m args below meth c s₁ Bd hml0 hP hK
  obtain ⟨rfl, hZ, hh⟩ := hP
  have hx := Bd.exec
  have hby := Bd.bytes
  have hml : c.maxLocals = 15 := hml0
  have hown : s.vm.findClass "com/example/tidy_commit/tidycommit/wire/VersionRangeContainsPinLaw" = some m.cls := findClass_of_methodNamed Bd.named
  have hnm := (name_of_methodNamed Bd.named Bd.method).1
  have X0 : Stand p l e room_1 s m #[(.int p0), (.int p1), (.int p2), (.int p3)] below meth c s₁ [] 0 0 := Stand.of_body Bd
  have e0 : s₁.heap = h0 := by rw [← hh, Bd.state]; rfl
  have N0 := Fr.nil n0
  have pre0 : ∀ tgt, Steps p.tables e below (s₁.setTop (mkF m 0 #[.val (.int p0), .val (.int p1), .val (.int p2), .val (.int p3), .unset, .unset, .unset, .unset, .unset, .unset, .unset, .unset, .unset, .unset, .unset] [])) tgt → Steps p.tables e below (s₁.setTop (entryFrame m #[(.int p0), (.int p1), (.int p2), (.int p3)] maxLocals)) tgt := fun tgt k => castTop (ef_rm0 m p0 p1 p2 p3) k
  obtain ⟨_, _, ⟨T1, L1, k1, n1⟩, -, X1, ⟨Lc1, hQ1, l1, y1, z1⟩, st1⟩ := Jvm.LawKit.callS X0 hx (y := (⟨"java/lang/Math", "min", "(II)I"⟩ : MethodName)) hown (mvT hZ (hw _ (List.mem_of_getElem? (i := 0) rfl))) (mvT hZ (hw _ (List.mem_of_getElem? (i := 1) rfl))) (mvT hZ (hw _ (List.mem_of_getElem? (i := 2) rfl))) (mvT hZ (hw _ (List.mem_of_getElem? (i := 3) rfl))) (by decide) (backOf (W := 0) (rm1 l Z a0 hw [] (p0 &&& (32767 : Int32)) (p1 &&& (32767 : Int32))  h0 n0 Z0 ) hZ (hw _ (List.mem_of_getElem? (i := 3) rfl)) (hw _ (List.mem_of_getElem? (i := 2) rfl)) (by decide) (by decide)) (g := (mkF m 18 #[.val (.int p0), .val (.int p1), .val (.int p2), .val (.int p3), .val (.int (p0 &&& (32767 : Int32))), .val (.int (p1 &&& (32767 : Int32))), .unset, .unset, .unset, .unset, .unset, .unset, .unset, .unset, .unset] [(.int (p1 &&& (32767 : Int32))), (.int (p0 &&& (32767 : Int32)))])) rfl (by rw [hml]; rfl) (argsL := [(.int (p0 &&& (32767 : Int32))), (.int (p1 &&& (32767 : Int32)))]) (rest := []) (lenOf pd_1 rfl) rfl (by show 2 * 0 + _ ≤ _; exact Nat.le_of_eq rfl) (hb hby at_18) (fun _ _ => ⟨rfl, e0, (by decide : 0 + 0 ≤ _), (by decide : 0 + 0 ≤ _)⟩)
  dsimp only [Pt.U, Pt.locs, Pt.cells, Pt.slots] at X1 l1 y1 z1 st1 hQ1
  subst l1 y1 z1
  obtain ⟨rfl, Nq1, e1⟩ := hQ1
  have N2 := Fr.app N0 Nq1
  obtain ⟨_, _, ⟨T3, L3, k3, n3⟩, -, X3, ⟨Lc3, hQ3, l3, y3, z3⟩, st3⟩ := Jvm.LawKit.callS X1 hx (y := (⟨"java/lang/Math", "max", "(II)I"⟩ : MethodName)) hown (mvT hZ (hw _ (List.mem_of_getElem? (i := 4) rfl))) (mvT hZ (hw _ (List.mem_of_getElem? (i := 5) rfl))) (mvT hZ (hw _ (List.mem_of_getElem? (i := 2) rfl))) (mvT hZ (hw _ (List.mem_of_getElem? (i := 6) rfl))) (by decide) (backOf (W := 0) (rm2 l Z a0 hw [] (p0 &&& (32767 : Int32)) (p1 &&& (32767 : Int32))  h0 n0 Z0 ) hZ (hw _ (List.mem_of_getElem? (i := 6) rfl)) (hw _ (List.mem_of_getElem? (i := 2) rfl)) (by decide) (by decide)) (g := (mkF m 27 #[.val (.int p0), .val (.int p1), .val (.int p2), .val (.int p3), .val (.int (p0 &&& (32767 : Int32))), .val (.int (p1 &&& (32767 : Int32))), .val (.int (own_f1 (p0 &&& (32767 : Int32)) (p1 &&& (32767 : Int32)))), .unset, .unset, .unset, .unset, .unset, .unset, .unset, .unset] [(.int (p1 &&& (32767 : Int32))), (.int (p0 &&& (32767 : Int32)))])) rfl (by rw [hml]; rfl) (argsL := [(.int (p0 &&& (32767 : Int32))), (.int (p1 &&& (32767 : Int32)))]) (rest := []) (lenOf pd_1 rfl) rfl (by show 2 * 0 + _ ≤ _; exact Nat.le_of_eq rfl) (hb hby at_27) (fun _ _ => ⟨rfl, e1, (by decide : 0 + 0 ≤ _), (by decide : 0 + 0 ≤ _)⟩)
  dsimp only [Pt.U, Pt.locs, Pt.cells, Pt.slots] at X3 l3 y3 z3 st3 hQ3
  subst l3 y3 z3
  obtain ⟨rfl, Nq3, e3⟩ := hQ3
  have N4 := Fr.app N2 Nq3
  obtain ⟨hb0, hb1, hb2⟩ := own_bnd p0 p1
  have pre5 : ∀ tgt, Steps p.tables e below (T3.setTop (mkF m 32 #[.val (.int p0), .val (.int p1), .val (.int p2), .val (.int p3), .val (.int (p0 &&& (32767 : Int32))), .val (.int (p1 &&& (32767 : Int32))), .val (.int (own_f1 (p0 &&& (32767 : Int32)) (p1 &&& (32767 : Int32)))), .val (.int (own_f2 (p0 &&& (32767 : Int32)) (p1 &&& (32767 : Int32)))), .unset, .unset, .unset, .unset, .unset, .unset, .unset] [])) tgt → Steps p.tables e below (s₁.setTop (entryFrame m #[(.int p0), (.int p1), (.int p2), (.int p3)] maxLocals)) tgt := fun tgt kt => pre0 _ (by
    show Steps p.tables e below (s₁.setTop (mkF m 0 #[.val (.int p0), .val (.int p1), .val (.int p2), .val (.int p3), .unset, .unset, .unset, .unset, .unset, .unset, .unset, .unset, .unset, .unset, .unset] [])) _
    refine XS.iloadN X0.here hx rfl (hb hby at_0) rfl ?_
    show Steps p.tables e below (s₁.setTop (mkF m 1 #[.val (.int p0), .val (.int p1), .val (.int p2), .val (.int p3), .unset, .unset, .unset, .unset, .unset, .unset, .unset, .unset, .unset, .unset, .unset] [(.int p0)])) _
    refine XS.sipush X0.here hx rfl (hb hby at_1) ?_
    show Steps p.tables e below (s₁.setTop (mkF m 4 #[.val (.int p0), .val (.int p1), .val (.int p2), .val (.int p3), .unset, .unset, .unset, .unset, .unset, .unset, .unset, .unset, .unset, .unset, .unset] [(.int (32767 : Int32)), (.int p0)])) _
    refine XS.iand X0.here hx rfl (hb hby at_4) rfl ?_
    show Steps p.tables e below (s₁.setTop (mkF m 5 #[.val (.int p0), .val (.int p1), .val (.int p2), .val (.int p3), .unset, .unset, .unset, .unset, .unset, .unset, .unset, .unset, .unset, .unset, .unset] [(.int (p0 &&& (32767 : Int32)))])) _
    refine XS.istore X0.here hx rfl (hb hby at_5) rfl (l' := #[.val (.int p0), .val (.int p1), .val (.int p2), .val (.int p3), .val (.int (p0 &&& (32767 : Int32))), .unset, .unset, .unset, .unset, .unset, .unset, .unset, .unset, .unset, .unset]) rfl ?_
    show Steps p.tables e below (s₁.setTop (mkF m 7 #[.val (.int p0), .val (.int p1), .val (.int p2), .val (.int p3), .val (.int (p0 &&& (32767 : Int32))), .unset, .unset, .unset, .unset, .unset, .unset, .unset, .unset, .unset, .unset] [])) _
    refine XS.iloadN X0.here hx rfl (hb hby at_7) rfl ?_
    show Steps p.tables e below (s₁.setTop (mkF m 8 #[.val (.int p0), .val (.int p1), .val (.int p2), .val (.int p3), .val (.int (p0 &&& (32767 : Int32))), .unset, .unset, .unset, .unset, .unset, .unset, .unset, .unset, .unset, .unset] [(.int p1)])) _
    refine XS.sipush X0.here hx rfl (hb hby at_8) ?_
    show Steps p.tables e below (s₁.setTop (mkF m 11 #[.val (.int p0), .val (.int p1), .val (.int p2), .val (.int p3), .val (.int (p0 &&& (32767 : Int32))), .unset, .unset, .unset, .unset, .unset, .unset, .unset, .unset, .unset, .unset] [(.int (32767 : Int32)), (.int p1)])) _
    refine XS.iand X0.here hx rfl (hb hby at_11) rfl ?_
    show Steps p.tables e below (s₁.setTop (mkF m 12 #[.val (.int p0), .val (.int p1), .val (.int p2), .val (.int p3), .val (.int (p0 &&& (32767 : Int32))), .unset, .unset, .unset, .unset, .unset, .unset, .unset, .unset, .unset, .unset] [(.int (p1 &&& (32767 : Int32)))])) _
    refine XS.istore X0.here hx rfl (hb hby at_12) rfl (l' := #[.val (.int p0), .val (.int p1), .val (.int p2), .val (.int p3), .val (.int (p0 &&& (32767 : Int32))), .val (.int (p1 &&& (32767 : Int32))), .unset, .unset, .unset, .unset, .unset, .unset, .unset, .unset, .unset]) rfl ?_
    show Steps p.tables e below (s₁.setTop (mkF m 14 #[.val (.int p0), .val (.int p1), .val (.int p2), .val (.int p3), .val (.int (p0 &&& (32767 : Int32))), .val (.int (p1 &&& (32767 : Int32))), .unset, .unset, .unset, .unset, .unset, .unset, .unset, .unset, .unset] [])) _
    refine XS.iload X0.here hx rfl (hb hby at_14) rfl ?_
    show Steps p.tables e below (s₁.setTop (mkF m 16 #[.val (.int p0), .val (.int p1), .val (.int p2), .val (.int p3), .val (.int (p0 &&& (32767 : Int32))), .val (.int (p1 &&& (32767 : Int32))), .unset, .unset, .unset, .unset, .unset, .unset, .unset, .unset, .unset] [(.int (p0 &&& (32767 : Int32)))])) _
    refine XS.iload X0.here hx rfl (hb hby at_16) rfl ?_
    show Steps p.tables e below (s₁.setTop (mkF m 18 #[.val (.int p0), .val (.int p1), .val (.int p2), .val (.int p3), .val (.int (p0 &&& (32767 : Int32))), .val (.int (p1 &&& (32767 : Int32))), .unset, .unset, .unset, .unset, .unset, .unset, .unset, .unset, .unset] [(.int (p1 &&& (32767 : Int32))), (.int (p0 &&& (32767 : Int32)))])) _
    refine st1 _ ?_
    show Steps p.tables e below (T1.setTop (mkF m 21 #[.val (.int p0), .val (.int p1), .val (.int p2), .val (.int p3), .val (.int (p0 &&& (32767 : Int32))), .val (.int (p1 &&& (32767 : Int32))), .unset, .unset, .unset, .unset, .unset, .unset, .unset, .unset, .unset] [(.int (own_f1 (p0 &&& (32767 : Int32)) (p1 &&& (32767 : Int32))))])) _
    refine XS.istore X1.here hx rfl (hb hby at_21) rfl (l' := #[.val (.int p0), .val (.int p1), .val (.int p2), .val (.int p3), .val (.int (p0 &&& (32767 : Int32))), .val (.int (p1 &&& (32767 : Int32))), .val (.int (own_f1 (p0 &&& (32767 : Int32)) (p1 &&& (32767 : Int32)))), .unset, .unset, .unset, .unset, .unset, .unset, .unset, .unset]) rfl ?_
    show Steps p.tables e below (T1.setTop (mkF m 23 #[.val (.int p0), .val (.int p1), .val (.int p2), .val (.int p3), .val (.int (p0 &&& (32767 : Int32))), .val (.int (p1 &&& (32767 : Int32))), .val (.int (own_f1 (p0 &&& (32767 : Int32)) (p1 &&& (32767 : Int32)))), .unset, .unset, .unset, .unset, .unset, .unset, .unset, .unset] [])) _
    refine XS.iload X1.here hx rfl (hb hby at_23) rfl ?_
    show Steps p.tables e below (T1.setTop (mkF m 25 #[.val (.int p0), .val (.int p1), .val (.int p2), .val (.int p3), .val (.int (p0 &&& (32767 : Int32))), .val (.int (p1 &&& (32767 : Int32))), .val (.int (own_f1 (p0 &&& (32767 : Int32)) (p1 &&& (32767 : Int32)))), .unset, .unset, .unset, .unset, .unset, .unset, .unset, .unset] [(.int (p0 &&& (32767 : Int32)))])) _
    refine XS.iload X1.here hx rfl (hb hby at_25) rfl ?_
    show Steps p.tables e below (T1.setTop (mkF m 27 #[.val (.int p0), .val (.int p1), .val (.int p2), .val (.int p3), .val (.int (p0 &&& (32767 : Int32))), .val (.int (p1 &&& (32767 : Int32))), .val (.int (own_f1 (p0 &&& (32767 : Int32)) (p1 &&& (32767 : Int32)))), .unset, .unset, .unset, .unset, .unset, .unset, .unset, .unset] [(.int (p1 &&& (32767 : Int32))), (.int (p0 &&& (32767 : Int32)))])) _
    refine st3 _ ?_
    show Steps p.tables e below (T3.setTop (mkF m 30 #[.val (.int p0), .val (.int p1), .val (.int p2), .val (.int p3), .val (.int (p0 &&& (32767 : Int32))), .val (.int (p1 &&& (32767 : Int32))), .val (.int (own_f1 (p0 &&& (32767 : Int32)) (p1 &&& (32767 : Int32)))), .unset, .unset, .unset, .unset, .unset, .unset, .unset, .unset] [(.int (own_f2 (p0 &&& (32767 : Int32)) (p1 &&& (32767 : Int32))))])) _
    refine XS.istore X3.here hx rfl (hb hby at_30) rfl (l' := #[.val (.int p0), .val (.int p1), .val (.int p2), .val (.int p3), .val (.int (p0 &&& (32767 : Int32))), .val (.int (p1 &&& (32767 : Int32))), .val (.int (own_f1 (p0 &&& (32767 : Int32)) (p1 &&& (32767 : Int32)))), .val (.int (own_f2 (p0 &&& (32767 : Int32)) (p1 &&& (32767 : Int32)))), .unset, .unset, .unset, .unset, .unset, .unset, .unset]) rfl ?_
    exact kt)
  obtain ⟨lo, hlo⟩ : ∃ z, z = (own_f1 (p0 &&& (32767 : Int32)) (p1 &&& (32767 : Int32))) := ⟨_, rfl⟩
  rw [← hlo] at pre5
  have pre6 : ∀ tgt, Steps p.tables e below (T3.setTop (mkF m 32 #[.val (.int p0), .val (.int p1), .val (.int p2), .val (.int p3), .val (.int (p0 &&& (32767 : Int32))), .val (.int (p1 &&& (32767 : Int32))), .val (.int lo), .val (.int (own_f2 (p0 &&& (32767 : Int32)) (p1 &&& (32767 : Int32)))), .unset, .unset, .unset, .unset, .unset, .unset, .unset] [])) tgt → Steps p.tables e below (s₁.setTop (entryFrame m #[(.int p0), (.int p1), (.int p2), (.int p3)] maxLocals)) tgt := fun tgt kt => pre5 _ (by
    exact kt)
  obtain ⟨hi, hhi⟩ : ∃ z, z = (own_f2 (p0 &&& (32767 : Int32)) (p1 &&& (32767 : Int32))) := ⟨_, rfl⟩
  rw [← hhi] at pre6
  rw [← hlo] at hb0 hb1
  rw [← hhi] at hb1 hb2
  obtain ⟨T7, h7, X7, e7, E7, A7, D7, -, st7⟩ := newO X3 hx hZ hown (hw _ (List.mem_of_getElem? (i := 7) rfl)) (hw _ (List.mem_of_getElem? (i := 8) rfl)) (hw _ (List.mem_of_getElem? (i := 9) rfl)) e3 (g := (mkF m 32 #[.val (.int p0), .val (.int p1), .val (.int p2), .val (.int p3), .val (.int (p0 &&& (32767 : Int32))), .val (.int (p1 &&& (32767 : Int32))), .val (.int lo), .val (.int hi), .unset, .unset, .unset, .unset, .unset, .unset, .unset] [])) rfl (hb hby at_32) (by decide) (by decide)
  obtain ⟨b7, g7⟩ : ∃ z, z = h0.size := ⟨_, rfl⟩
  rw [← g7] at A7 D7 st7
  have gn_b7 : n0 ≤ b7 := Nat.le_trans Z0 (Nat.le_of_eq g7.symm)
  have zz8 : n0 ≤ h7.size := Nat.le_trans Z0 E7.1
  have f9 : Fld Z h7 b7 "com/example/tidy_commit/tidycommit/wire/VersionRange" "min" "S" (.int (0 : Int32)) := D7 (Or.inr (hw _ (List.mem_of_getElem? (i := 22) rfl))) (ty := .short) (by decide)
  have f10 : Fld Z h7 b7 "com/example/tidy_commit/tidycommit/wire/VersionRange" "max" "S" (.int (0 : Int32)) := D7 (Or.inr (hw _ (List.mem_of_getElem? (i := 24) rfl))) (ty := .short) (by decide)
  obtain ⟨_, _, ⟨T11, L11, k11, n11⟩, -, X11, ⟨Lc11, hQ11, l11, y11, z11⟩, st11⟩ := X7.specialBack hx (y := (⟨"com/example/tidy_commit/tidycommit/wire/VersionRange", "<init>", "(SS)V"⟩ : MethodName)) rfl hown (mvT hZ (hw _ (List.mem_of_getElem? (i := 10) rfl))) (mvT hZ (hw _ (List.mem_of_getElem? (i := 11) rfl))) (mvT hZ (hw _ (List.mem_of_getElem? (i := 12) rfl))) (by decide) (backOf (W := 1) (rm3 l Z a0 hw [] b7 (lo.toInt16.toInt32) (hi.toInt16.toInt32) h7 n0 zz8 A7 gn_b7 f9 f10 (own_n0 hb0 hb1 hb2) (own_n1 hb0 hb1 hb2)) hZ (hw _ (List.mem_of_getElem? (i := 12) rfl)) (hw _ (List.mem_of_getElem? (i := 9) rfl)) (by decide) (by decide)) (g := (mkF m 42 #[.val (.int p0), .val (.int p1), .val (.int p2), .val (.int p3), .val (.int (p0 &&& (32767 : Int32))), .val (.int (p1 &&& (32767 : Int32))), .val (.int lo), .val (.int hi), .unset, .unset, .unset, .unset, .unset, .unset, .unset] [(.int (hi.toInt16.toInt32)), (.int (lo.toInt16.toInt32)), (.ref b7), (.ref b7)])) rfl (by rw [hml]; rfl) (Steps.refl _) (a := b7) (argsL := [(.int (lo.toInt16.toInt32)), (.int (hi.toInt16.toInt32))]) (rest := [(.ref b7)]) (lenOf pd_2 rfl) rfl (by show 2 * 0 + _ ≤ _; exact Nat.le_of_eq rfl) (hb hby at_42) (fun _ _ => ⟨rfl, e7, (by decide : 1 + 0 ≤ _), (by decide : 2 + 0 ≤ _)⟩)
  dsimp only [Pt.U, Pt.locs, Pt.cells, Pt.slots] at X11 l11 y11 z11 st11 hQ11
  subst l11 y11 z11
  obtain ⟨rfl, Nq11, K11, f14, f12, f13⟩ := hQ11
  have zz15 : n0 ≤ T11.heap.size := Nat.le_trans zz8 K11.1
  have N16 := Fr.app N4 Nq11
  have pre17 : ∀ tgt, Steps p.tables e below (T11.setTop (mkF m 55 #[.val (.int p0), .val (.int p1), .val (.int p2), .val (.int p3), .val (.int (p0 &&& (32767 : Int32))), .val (.int (p1 &&& (32767 : Int32))), .val (.int lo), .val (.int hi), .val (.ref b7), .val (.int (p2 &&& (7 : Int32))), .unset, .unset, .unset, .unset, .unset] [(.int (p2 &&& (7 : Int32)))])) tgt → Steps p.tables e below (s₁.setTop (entryFrame m #[(.int p0), (.int p1), (.int p2), (.int p3)] maxLocals)) tgt := fun tgt kt => pre6 _ (by
    show Steps p.tables e below (T3.setTop (mkF m 32 #[.val (.int p0), .val (.int p1), .val (.int p2), .val (.int p3), .val (.int (p0 &&& (32767 : Int32))), .val (.int (p1 &&& (32767 : Int32))), .val (.int lo), .val (.int hi), .unset, .unset, .unset, .unset, .unset, .unset, .unset] [])) _
    refine st7 _ ?_
    show Steps p.tables e below (T7.setTop (mkF m 35 #[.val (.int p0), .val (.int p1), .val (.int p2), .val (.int p3), .val (.int (p0 &&& (32767 : Int32))), .val (.int (p1 &&& (32767 : Int32))), .val (.int lo), .val (.int hi), .unset, .unset, .unset, .unset, .unset, .unset, .unset] [(.ref b7)])) _
    refine XS.dup X7.here hx rfl (hb hby at_35) rfl rfl ?_
    show Steps p.tables e below (T7.setTop (mkF m 36 #[.val (.int p0), .val (.int p1), .val (.int p2), .val (.int p3), .val (.int (p0 &&& (32767 : Int32))), .val (.int (p1 &&& (32767 : Int32))), .val (.int lo), .val (.int hi), .unset, .unset, .unset, .unset, .unset, .unset, .unset] [(.ref b7), (.ref b7)])) _
    refine XS.iload X7.here hx rfl (hb hby at_36) rfl ?_
    show Steps p.tables e below (T7.setTop (mkF m 38 #[.val (.int p0), .val (.int p1), .val (.int p2), .val (.int p3), .val (.int (p0 &&& (32767 : Int32))), .val (.int (p1 &&& (32767 : Int32))), .val (.int lo), .val (.int hi), .unset, .unset, .unset, .unset, .unset, .unset, .unset] [(.int lo), (.ref b7), (.ref b7)])) _
    refine XS.i2s X7.here hx rfl (hb hby at_38) rfl ?_
    show Steps p.tables e below (T7.setTop (mkF m 39 #[.val (.int p0), .val (.int p1), .val (.int p2), .val (.int p3), .val (.int (p0 &&& (32767 : Int32))), .val (.int (p1 &&& (32767 : Int32))), .val (.int lo), .val (.int hi), .unset, .unset, .unset, .unset, .unset, .unset, .unset] [(.int (lo.toInt16.toInt32)), (.ref b7), (.ref b7)])) _
    refine XS.iload X7.here hx rfl (hb hby at_39) rfl ?_
    show Steps p.tables e below (T7.setTop (mkF m 41 #[.val (.int p0), .val (.int p1), .val (.int p2), .val (.int p3), .val (.int (p0 &&& (32767 : Int32))), .val (.int (p1 &&& (32767 : Int32))), .val (.int lo), .val (.int hi), .unset, .unset, .unset, .unset, .unset, .unset, .unset] [(.int hi), (.int (lo.toInt16.toInt32)), (.ref b7), (.ref b7)])) _
    refine XS.i2s X7.here hx rfl (hb hby at_41) rfl ?_
    show Steps p.tables e below (T7.setTop (mkF m 42 #[.val (.int p0), .val (.int p1), .val (.int p2), .val (.int p3), .val (.int (p0 &&& (32767 : Int32))), .val (.int (p1 &&& (32767 : Int32))), .val (.int lo), .val (.int hi), .unset, .unset, .unset, .unset, .unset, .unset, .unset] [(.int (hi.toInt16.toInt32)), (.int (lo.toInt16.toInt32)), (.ref b7), (.ref b7)])) _
    refine st11.trans ?_
    show Steps p.tables e below (T11.setTop (mkF m 45 #[.val (.int p0), .val (.int p1), .val (.int p2), .val (.int p3), .val (.int (p0 &&& (32767 : Int32))), .val (.int (p1 &&& (32767 : Int32))), .val (.int lo), .val (.int hi), .unset, .unset, .unset, .unset, .unset, .unset, .unset] [(.ref b7)])) _
    refine XS.astore X11.here hx rfl (hb hby at_45) rfl rfl (l' := #[.val (.int p0), .val (.int p1), .val (.int p2), .val (.int p3), .val (.int (p0 &&& (32767 : Int32))), .val (.int (p1 &&& (32767 : Int32))), .val (.int lo), .val (.int hi), .val (.ref b7), .unset, .unset, .unset, .unset, .unset, .unset]) rfl ?_
    show Steps p.tables e below (T11.setTop (mkF m 47 #[.val (.int p0), .val (.int p1), .val (.int p2), .val (.int p3), .val (.int (p0 &&& (32767 : Int32))), .val (.int (p1 &&& (32767 : Int32))), .val (.int lo), .val (.int hi), .val (.ref b7), .unset, .unset, .unset, .unset, .unset, .unset] [])) _
    refine XS.iloadN X11.here hx rfl (hb hby at_47) rfl ?_
    show Steps p.tables e below (T11.setTop (mkF m 48 #[.val (.int p0), .val (.int p1), .val (.int p2), .val (.int p3), .val (.int (p0 &&& (32767 : Int32))), .val (.int (p1 &&& (32767 : Int32))), .val (.int lo), .val (.int hi), .val (.ref b7), .unset, .unset, .unset, .unset, .unset, .unset] [(.int p2)])) _
    refine XS.bipush X11.here hx rfl (hb hby at_48) ?_
    show Steps p.tables e below (T11.setTop (mkF m 50 #[.val (.int p0), .val (.int p1), .val (.int p2), .val (.int p3), .val (.int (p0 &&& (32767 : Int32))), .val (.int (p1 &&& (32767 : Int32))), .val (.int lo), .val (.int hi), .val (.ref b7), .unset, .unset, .unset, .unset, .unset, .unset] [(.int (7 : Int32)), (.int p2)])) _
    refine XS.iand X11.here hx rfl (hb hby at_50) rfl ?_
    show Steps p.tables e below (T11.setTop (mkF m 51 #[.val (.int p0), .val (.int p1), .val (.int p2), .val (.int p3), .val (.int (p0 &&& (32767 : Int32))), .val (.int (p1 &&& (32767 : Int32))), .val (.int lo), .val (.int hi), .val (.ref b7), .unset, .unset, .unset, .unset, .unset, .unset] [(.int (p2 &&& (7 : Int32)))])) _
    refine XS.istore X11.here hx rfl (hb hby at_51) rfl (l' := #[.val (.int p0), .val (.int p1), .val (.int p2), .val (.int p3), .val (.int (p0 &&& (32767 : Int32))), .val (.int (p1 &&& (32767 : Int32))), .val (.int lo), .val (.int hi), .val (.ref b7), .val (.int (p2 &&& (7 : Int32))), .unset, .unset, .unset, .unset, .unset]) rfl ?_
    show Steps p.tables e below (T11.setTop (mkF m 53 #[.val (.int p0), .val (.int p1), .val (.int p2), .val (.int p3), .val (.int (p0 &&& (32767 : Int32))), .val (.int (p1 &&& (32767 : Int32))), .val (.int lo), .val (.int hi), .val (.ref b7), .val (.int (p2 &&& (7 : Int32))), .unset, .unset, .unset, .unset, .unset] [])) _
    refine XS.iload X11.here hx rfl (hb hby at_53) rfl ?_
    exact kt)
  obtain ⟨cz, pre24⟩ : ∃ (cz : Int32), ∀ tgt, Steps p.tables e below (T11.setTop (mkF m 141 #[.val (.int p0), .val (.int p1), .val (.int p2), .val (.int p3), .val (.int (p0 &&& (32767 : Int32))), .val (.int (p1 &&& (32767 : Int32))), .val (.int lo), .val (.int hi), .val (.ref b7), .val (.int (p2 &&& (7 : Int32))), .val (.int cz), .unset, .unset, .unset, .unset] [])) tgt → Steps p.tables e below (s₁.setTop (entryFrame m #[(.int p0), (.int p1), (.int p2), (.int p3)] maxLocals)) tgt := by
    by_cases hc18 : (p2 &&& (7 : Int32)) = (0 : Int32)
    · exact ⟨(lo - (1 : Int32)), fun tgt kt => pre17 _ (by
        show Steps p.tables e below (T11.setTop (mkF m 55 #[.val (.int p0), .val (.int p1), .val (.int p2), .val (.int p3), .val (.int (p0 &&& (32767 : Int32))), .val (.int (p1 &&& (32767 : Int32))), .val (.int lo), .val (.int hi), .val (.ref b7), .val (.int (p2 &&& (7 : Int32))), .unset, .unset, .unset, .unset, .unset] [(.int (p2 &&& (7 : Int32)))])) _
        refine XS.ifNo X11.here hx rfl (hb hby at_55) rfl ((if0 _ _).trans (teq hc18).2) ?_
        show Steps p.tables e below (T11.setTop (mkF m 58 #[.val (.int p0), .val (.int p1), .val (.int p2), .val (.int p3), .val (.int (p0 &&& (32767 : Int32))), .val (.int (p1 &&& (32767 : Int32))), .val (.int lo), .val (.int hi), .val (.ref b7), .val (.int (p2 &&& (7 : Int32))), .unset, .unset, .unset, .unset, .unset] [])) _
        refine XS.iload X11.here hx rfl (hb hby at_58) rfl ?_
        show Steps p.tables e below (T11.setTop (mkF m 60 #[.val (.int p0), .val (.int p1), .val (.int p2), .val (.int p3), .val (.int (p0 &&& (32767 : Int32))), .val (.int (p1 &&& (32767 : Int32))), .val (.int lo), .val (.int hi), .val (.ref b7), .val (.int (p2 &&& (7 : Int32))), .unset, .unset, .unset, .unset, .unset] [(.int lo)])) _
        refine XS.iconst X11.here hx rfl (hb hby at_60) ?_
        show Steps p.tables e below (T11.setTop (mkF m 61 #[.val (.int p0), .val (.int p1), .val (.int p2), .val (.int p3), .val (.int (p0 &&& (32767 : Int32))), .val (.int (p1 &&& (32767 : Int32))), .val (.int lo), .val (.int hi), .val (.ref b7), .val (.int (p2 &&& (7 : Int32))), .unset, .unset, .unset, .unset, .unset] [(.int (1 : Int32)), (.int lo)])) _
        refine XS.isub X11.here hx rfl (hb hby at_61) rfl ?_
        show Steps p.tables e below (T11.setTop (mkF m 62 #[.val (.int p0), .val (.int p1), .val (.int p2), .val (.int p3), .val (.int (p0 &&& (32767 : Int32))), .val (.int (p1 &&& (32767 : Int32))), .val (.int lo), .val (.int hi), .val (.ref b7), .val (.int (p2 &&& (7 : Int32))), .unset, .unset, .unset, .unset, .unset] [(.int (lo - (1 : Int32)))])) _
        refine XS.istore X11.here hx rfl (hb hby at_62) rfl (l' := #[.val (.int p0), .val (.int p1), .val (.int p2), .val (.int p3), .val (.int (p0 &&& (32767 : Int32))), .val (.int (p1 &&& (32767 : Int32))), .val (.int lo), .val (.int hi), .val (.ref b7), .val (.int (p2 &&& (7 : Int32))), .val (.int (lo - (1 : Int32))), .unset, .unset, .unset, .unset]) rfl ?_
        show Steps p.tables e below (T11.setTop (mkF m 64 #[.val (.int p0), .val (.int p1), .val (.int p2), .val (.int p3), .val (.int (p0 &&& (32767 : Int32))), .val (.int (p1 &&& (32767 : Int32))), .val (.int lo), .val (.int hi), .val (.ref b7), .val (.int (p2 &&& (7 : Int32))), .val (.int (lo - (1 : Int32))), .unset, .unset, .unset, .unset] [])) _
        refine XS.goto X11.here hx rfl (pc0 := 64) (pc' := 141) rfl (hb hby at_64) (by decide) (by decide) ?_
        exact kt)⟩
    · by_cases hc19 : (p2 &&& (7 : Int32)) = (1 : Int32)
      · exact ⟨lo, fun tgt kt => pre17 _ (by
          show Steps p.tables e below (T11.setTop (mkF m 55 #[.val (.int p0), .val (.int p1), .val (.int p2), .val (.int p3), .val (.int (p0 &&& (32767 : Int32))), .val (.int (p1 &&& (32767 : Int32))), .val (.int lo), .val (.int hi), .val (.ref b7), .val (.int (p2 &&& (7 : Int32))), .unset, .unset, .unset, .unset, .unset] [(.int (p2 &&& (7 : Int32)))])) _
          refine XS.ifYes X11.here hx rfl (pc0 := 55) (pc' := 67) rfl (hb hby at_55) rfl ((if0 _ _).trans (feq hc18).2) (by decide) (by decide) ?_
          show Steps p.tables e below (T11.setTop (mkF m 67 #[.val (.int p0), .val (.int p1), .val (.int p2), .val (.int p3), .val (.int (p0 &&& (32767 : Int32))), .val (.int (p1 &&& (32767 : Int32))), .val (.int lo), .val (.int hi), .val (.ref b7), .val (.int (p2 &&& (7 : Int32))), .unset, .unset, .unset, .unset, .unset] [])) _
          refine XS.iload X11.here hx rfl (hb hby at_67) rfl ?_
          show Steps p.tables e below (T11.setTop (mkF m 69 #[.val (.int p0), .val (.int p1), .val (.int p2), .val (.int p3), .val (.int (p0 &&& (32767 : Int32))), .val (.int (p1 &&& (32767 : Int32))), .val (.int lo), .val (.int hi), .val (.ref b7), .val (.int (p2 &&& (7 : Int32))), .unset, .unset, .unset, .unset, .unset] [(.int (p2 &&& (7 : Int32)))])) _
          refine XS.iconst X11.here hx rfl (hb hby at_69) ?_
          show Steps p.tables e below (T11.setTop (mkF m 70 #[.val (.int p0), .val (.int p1), .val (.int p2), .val (.int p3), .val (.int (p0 &&& (32767 : Int32))), .val (.int (p1 &&& (32767 : Int32))), .val (.int lo), .val (.int hi), .val (.ref b7), .val (.int (p2 &&& (7 : Int32))), .unset, .unset, .unset, .unset, .unset] [(.int (1 : Int32)), (.int (p2 &&& (7 : Int32)))])) _
          refine XS.icmpNo X11.here hx rfl (hb hby at_70) rfl (teq hc19).2 ?_
          show Steps p.tables e below (T11.setTop (mkF m 73 #[.val (.int p0), .val (.int p1), .val (.int p2), .val (.int p3), .val (.int (p0 &&& (32767 : Int32))), .val (.int (p1 &&& (32767 : Int32))), .val (.int lo), .val (.int hi), .val (.ref b7), .val (.int (p2 &&& (7 : Int32))), .unset, .unset, .unset, .unset, .unset] [])) _
          refine XS.iload X11.here hx rfl (hb hby at_73) rfl ?_
          show Steps p.tables e below (T11.setTop (mkF m 75 #[.val (.int p0), .val (.int p1), .val (.int p2), .val (.int p3), .val (.int (p0 &&& (32767 : Int32))), .val (.int (p1 &&& (32767 : Int32))), .val (.int lo), .val (.int hi), .val (.ref b7), .val (.int (p2 &&& (7 : Int32))), .unset, .unset, .unset, .unset, .unset] [(.int lo)])) _
          refine XS.istore X11.here hx rfl (hb hby at_75) rfl (l' := #[.val (.int p0), .val (.int p1), .val (.int p2), .val (.int p3), .val (.int (p0 &&& (32767 : Int32))), .val (.int (p1 &&& (32767 : Int32))), .val (.int lo), .val (.int hi), .val (.ref b7), .val (.int (p2 &&& (7 : Int32))), .val (.int lo), .unset, .unset, .unset, .unset]) rfl ?_
          show Steps p.tables e below (T11.setTop (mkF m 77 #[.val (.int p0), .val (.int p1), .val (.int p2), .val (.int p3), .val (.int (p0 &&& (32767 : Int32))), .val (.int (p1 &&& (32767 : Int32))), .val (.int lo), .val (.int hi), .val (.ref b7), .val (.int (p2 &&& (7 : Int32))), .val (.int lo), .unset, .unset, .unset, .unset] [])) _
          refine XS.goto X11.here hx rfl (pc0 := 77) (pc' := 141) rfl (hb hby at_77) (by decide) (by decide) ?_
          exact kt)⟩
      · by_cases hc20 : (p2 &&& (7 : Int32)) = (2 : Int32)
        · exact ⟨(lo + (1 : Int32)), fun tgt kt => pre17 _ (by
            show Steps p.tables e below (T11.setTop (mkF m 55 #[.val (.int p0), .val (.int p1), .val (.int p2), .val (.int p3), .val (.int (p0 &&& (32767 : Int32))), .val (.int (p1 &&& (32767 : Int32))), .val (.int lo), .val (.int hi), .val (.ref b7), .val (.int (p2 &&& (7 : Int32))), .unset, .unset, .unset, .unset, .unset] [(.int (p2 &&& (7 : Int32)))])) _
            refine XS.ifYes X11.here hx rfl (pc0 := 55) (pc' := 67) rfl (hb hby at_55) rfl ((if0 _ _).trans (feq hc18).2) (by decide) (by decide) ?_
            show Steps p.tables e below (T11.setTop (mkF m 67 #[.val (.int p0), .val (.int p1), .val (.int p2), .val (.int p3), .val (.int (p0 &&& (32767 : Int32))), .val (.int (p1 &&& (32767 : Int32))), .val (.int lo), .val (.int hi), .val (.ref b7), .val (.int (p2 &&& (7 : Int32))), .unset, .unset, .unset, .unset, .unset] [])) _
            refine XS.iload X11.here hx rfl (hb hby at_67) rfl ?_
            show Steps p.tables e below (T11.setTop (mkF m 69 #[.val (.int p0), .val (.int p1), .val (.int p2), .val (.int p3), .val (.int (p0 &&& (32767 : Int32))), .val (.int (p1 &&& (32767 : Int32))), .val (.int lo), .val (.int hi), .val (.ref b7), .val (.int (p2 &&& (7 : Int32))), .unset, .unset, .unset, .unset, .unset] [(.int (p2 &&& (7 : Int32)))])) _
            refine XS.iconst X11.here hx rfl (hb hby at_69) ?_
            show Steps p.tables e below (T11.setTop (mkF m 70 #[.val (.int p0), .val (.int p1), .val (.int p2), .val (.int p3), .val (.int (p0 &&& (32767 : Int32))), .val (.int (p1 &&& (32767 : Int32))), .val (.int lo), .val (.int hi), .val (.ref b7), .val (.int (p2 &&& (7 : Int32))), .unset, .unset, .unset, .unset, .unset] [(.int (1 : Int32)), (.int (p2 &&& (7 : Int32)))])) _
            refine XS.icmpYes X11.here hx rfl (pc0 := 70) (pc' := 80) rfl (hb hby at_70) rfl (feq hc19).2 (by decide) (by decide) ?_
            show Steps p.tables e below (T11.setTop (mkF m 80 #[.val (.int p0), .val (.int p1), .val (.int p2), .val (.int p3), .val (.int (p0 &&& (32767 : Int32))), .val (.int (p1 &&& (32767 : Int32))), .val (.int lo), .val (.int hi), .val (.ref b7), .val (.int (p2 &&& (7 : Int32))), .unset, .unset, .unset, .unset, .unset] [])) _
            refine XS.iload X11.here hx rfl (hb hby at_80) rfl ?_
            show Steps p.tables e below (T11.setTop (mkF m 82 #[.val (.int p0), .val (.int p1), .val (.int p2), .val (.int p3), .val (.int (p0 &&& (32767 : Int32))), .val (.int (p1 &&& (32767 : Int32))), .val (.int lo), .val (.int hi), .val (.ref b7), .val (.int (p2 &&& (7 : Int32))), .unset, .unset, .unset, .unset, .unset] [(.int (p2 &&& (7 : Int32)))])) _
            refine XS.iconst X11.here hx rfl (hb hby at_82) ?_
            show Steps p.tables e below (T11.setTop (mkF m 83 #[.val (.int p0), .val (.int p1), .val (.int p2), .val (.int p3), .val (.int (p0 &&& (32767 : Int32))), .val (.int (p1 &&& (32767 : Int32))), .val (.int lo), .val (.int hi), .val (.ref b7), .val (.int (p2 &&& (7 : Int32))), .unset, .unset, .unset, .unset, .unset] [(.int (2 : Int32)), (.int (p2 &&& (7 : Int32)))])) _
            refine XS.icmpNo X11.here hx rfl (hb hby at_83) rfl (teq hc20).2 ?_
            show Steps p.tables e below (T11.setTop (mkF m 86 #[.val (.int p0), .val (.int p1), .val (.int p2), .val (.int p3), .val (.int (p0 &&& (32767 : Int32))), .val (.int (p1 &&& (32767 : Int32))), .val (.int lo), .val (.int hi), .val (.ref b7), .val (.int (p2 &&& (7 : Int32))), .unset, .unset, .unset, .unset, .unset] [])) _
            refine XS.iload X11.here hx rfl (hb hby at_86) rfl ?_
            show Steps p.tables e below (T11.setTop (mkF m 88 #[.val (.int p0), .val (.int p1), .val (.int p2), .val (.int p3), .val (.int (p0 &&& (32767 : Int32))), .val (.int (p1 &&& (32767 : Int32))), .val (.int lo), .val (.int hi), .val (.ref b7), .val (.int (p2 &&& (7 : Int32))), .unset, .unset, .unset, .unset, .unset] [(.int lo)])) _
            refine XS.iconst X11.here hx rfl (hb hby at_88) ?_
            show Steps p.tables e below (T11.setTop (mkF m 89 #[.val (.int p0), .val (.int p1), .val (.int p2), .val (.int p3), .val (.int (p0 &&& (32767 : Int32))), .val (.int (p1 &&& (32767 : Int32))), .val (.int lo), .val (.int hi), .val (.ref b7), .val (.int (p2 &&& (7 : Int32))), .unset, .unset, .unset, .unset, .unset] [(.int (1 : Int32)), (.int lo)])) _
            refine XS.iadd X11.here hx rfl (hb hby at_89) rfl ?_
            show Steps p.tables e below (T11.setTop (mkF m 90 #[.val (.int p0), .val (.int p1), .val (.int p2), .val (.int p3), .val (.int (p0 &&& (32767 : Int32))), .val (.int (p1 &&& (32767 : Int32))), .val (.int lo), .val (.int hi), .val (.ref b7), .val (.int (p2 &&& (7 : Int32))), .unset, .unset, .unset, .unset, .unset] [(.int (lo + (1 : Int32)))])) _
            refine XS.istore X11.here hx rfl (hb hby at_90) rfl (l' := #[.val (.int p0), .val (.int p1), .val (.int p2), .val (.int p3), .val (.int (p0 &&& (32767 : Int32))), .val (.int (p1 &&& (32767 : Int32))), .val (.int lo), .val (.int hi), .val (.ref b7), .val (.int (p2 &&& (7 : Int32))), .val (.int (lo + (1 : Int32))), .unset, .unset, .unset, .unset]) rfl ?_
            show Steps p.tables e below (T11.setTop (mkF m 92 #[.val (.int p0), .val (.int p1), .val (.int p2), .val (.int p3), .val (.int (p0 &&& (32767 : Int32))), .val (.int (p1 &&& (32767 : Int32))), .val (.int lo), .val (.int hi), .val (.ref b7), .val (.int (p2 &&& (7 : Int32))), .val (.int (lo + (1 : Int32))), .unset, .unset, .unset, .unset] [])) _
            refine XS.goto X11.here hx rfl (pc0 := 92) (pc' := 141) rfl (hb hby at_92) (by decide) (by decide) ?_
            exact kt)⟩
        · by_cases hc21 : (p2 &&& (7 : Int32)) = (3 : Int32)
          · exact ⟨(hi - (1 : Int32)), fun tgt kt => pre17 _ (by
              show Steps p.tables e below (T11.setTop (mkF m 55 #[.val (.int p0), .val (.int p1), .val (.int p2), .val (.int p3), .val (.int (p0 &&& (32767 : Int32))), .val (.int (p1 &&& (32767 : Int32))), .val (.int lo), .val (.int hi), .val (.ref b7), .val (.int (p2 &&& (7 : Int32))), .unset, .unset, .unset, .unset, .unset] [(.int (p2 &&& (7 : Int32)))])) _
              refine XS.ifYes X11.here hx rfl (pc0 := 55) (pc' := 67) rfl (hb hby at_55) rfl ((if0 _ _).trans (feq hc18).2) (by decide) (by decide) ?_
              show Steps p.tables e below (T11.setTop (mkF m 67 #[.val (.int p0), .val (.int p1), .val (.int p2), .val (.int p3), .val (.int (p0 &&& (32767 : Int32))), .val (.int (p1 &&& (32767 : Int32))), .val (.int lo), .val (.int hi), .val (.ref b7), .val (.int (p2 &&& (7 : Int32))), .unset, .unset, .unset, .unset, .unset] [])) _
              refine XS.iload X11.here hx rfl (hb hby at_67) rfl ?_
              show Steps p.tables e below (T11.setTop (mkF m 69 #[.val (.int p0), .val (.int p1), .val (.int p2), .val (.int p3), .val (.int (p0 &&& (32767 : Int32))), .val (.int (p1 &&& (32767 : Int32))), .val (.int lo), .val (.int hi), .val (.ref b7), .val (.int (p2 &&& (7 : Int32))), .unset, .unset, .unset, .unset, .unset] [(.int (p2 &&& (7 : Int32)))])) _
              refine XS.iconst X11.here hx rfl (hb hby at_69) ?_
              show Steps p.tables e below (T11.setTop (mkF m 70 #[.val (.int p0), .val (.int p1), .val (.int p2), .val (.int p3), .val (.int (p0 &&& (32767 : Int32))), .val (.int (p1 &&& (32767 : Int32))), .val (.int lo), .val (.int hi), .val (.ref b7), .val (.int (p2 &&& (7 : Int32))), .unset, .unset, .unset, .unset, .unset] [(.int (1 : Int32)), (.int (p2 &&& (7 : Int32)))])) _
              refine XS.icmpYes X11.here hx rfl (pc0 := 70) (pc' := 80) rfl (hb hby at_70) rfl (feq hc19).2 (by decide) (by decide) ?_
              show Steps p.tables e below (T11.setTop (mkF m 80 #[.val (.int p0), .val (.int p1), .val (.int p2), .val (.int p3), .val (.int (p0 &&& (32767 : Int32))), .val (.int (p1 &&& (32767 : Int32))), .val (.int lo), .val (.int hi), .val (.ref b7), .val (.int (p2 &&& (7 : Int32))), .unset, .unset, .unset, .unset, .unset] [])) _
              refine XS.iload X11.here hx rfl (hb hby at_80) rfl ?_
              show Steps p.tables e below (T11.setTop (mkF m 82 #[.val (.int p0), .val (.int p1), .val (.int p2), .val (.int p3), .val (.int (p0 &&& (32767 : Int32))), .val (.int (p1 &&& (32767 : Int32))), .val (.int lo), .val (.int hi), .val (.ref b7), .val (.int (p2 &&& (7 : Int32))), .unset, .unset, .unset, .unset, .unset] [(.int (p2 &&& (7 : Int32)))])) _
              refine XS.iconst X11.here hx rfl (hb hby at_82) ?_
              show Steps p.tables e below (T11.setTop (mkF m 83 #[.val (.int p0), .val (.int p1), .val (.int p2), .val (.int p3), .val (.int (p0 &&& (32767 : Int32))), .val (.int (p1 &&& (32767 : Int32))), .val (.int lo), .val (.int hi), .val (.ref b7), .val (.int (p2 &&& (7 : Int32))), .unset, .unset, .unset, .unset, .unset] [(.int (2 : Int32)), (.int (p2 &&& (7 : Int32)))])) _
              refine XS.icmpYes X11.here hx rfl (pc0 := 83) (pc' := 95) rfl (hb hby at_83) rfl (feq hc20).2 (by decide) (by decide) ?_
              show Steps p.tables e below (T11.setTop (mkF m 95 #[.val (.int p0), .val (.int p1), .val (.int p2), .val (.int p3), .val (.int (p0 &&& (32767 : Int32))), .val (.int (p1 &&& (32767 : Int32))), .val (.int lo), .val (.int hi), .val (.ref b7), .val (.int (p2 &&& (7 : Int32))), .unset, .unset, .unset, .unset, .unset] [])) _
              refine XS.iload X11.here hx rfl (hb hby at_95) rfl ?_
              show Steps p.tables e below (T11.setTop (mkF m 97 #[.val (.int p0), .val (.int p1), .val (.int p2), .val (.int p3), .val (.int (p0 &&& (32767 : Int32))), .val (.int (p1 &&& (32767 : Int32))), .val (.int lo), .val (.int hi), .val (.ref b7), .val (.int (p2 &&& (7 : Int32))), .unset, .unset, .unset, .unset, .unset] [(.int (p2 &&& (7 : Int32)))])) _
              refine XS.iconst X11.here hx rfl (hb hby at_97) ?_
              show Steps p.tables e below (T11.setTop (mkF m 98 #[.val (.int p0), .val (.int p1), .val (.int p2), .val (.int p3), .val (.int (p0 &&& (32767 : Int32))), .val (.int (p1 &&& (32767 : Int32))), .val (.int lo), .val (.int hi), .val (.ref b7), .val (.int (p2 &&& (7 : Int32))), .unset, .unset, .unset, .unset, .unset] [(.int (3 : Int32)), (.int (p2 &&& (7 : Int32)))])) _
              refine XS.icmpNo X11.here hx rfl (hb hby at_98) rfl (teq hc21).2 ?_
              show Steps p.tables e below (T11.setTop (mkF m 101 #[.val (.int p0), .val (.int p1), .val (.int p2), .val (.int p3), .val (.int (p0 &&& (32767 : Int32))), .val (.int (p1 &&& (32767 : Int32))), .val (.int lo), .val (.int hi), .val (.ref b7), .val (.int (p2 &&& (7 : Int32))), .unset, .unset, .unset, .unset, .unset] [])) _
              refine XS.iload X11.here hx rfl (hb hby at_101) rfl ?_
              show Steps p.tables e below (T11.setTop (mkF m 103 #[.val (.int p0), .val (.int p1), .val (.int p2), .val (.int p3), .val (.int (p0 &&& (32767 : Int32))), .val (.int (p1 &&& (32767 : Int32))), .val (.int lo), .val (.int hi), .val (.ref b7), .val (.int (p2 &&& (7 : Int32))), .unset, .unset, .unset, .unset, .unset] [(.int hi)])) _
              refine XS.iconst X11.here hx rfl (hb hby at_103) ?_
              show Steps p.tables e below (T11.setTop (mkF m 104 #[.val (.int p0), .val (.int p1), .val (.int p2), .val (.int p3), .val (.int (p0 &&& (32767 : Int32))), .val (.int (p1 &&& (32767 : Int32))), .val (.int lo), .val (.int hi), .val (.ref b7), .val (.int (p2 &&& (7 : Int32))), .unset, .unset, .unset, .unset, .unset] [(.int (1 : Int32)), (.int hi)])) _
              refine XS.isub X11.here hx rfl (hb hby at_104) rfl ?_
              show Steps p.tables e below (T11.setTop (mkF m 105 #[.val (.int p0), .val (.int p1), .val (.int p2), .val (.int p3), .val (.int (p0 &&& (32767 : Int32))), .val (.int (p1 &&& (32767 : Int32))), .val (.int lo), .val (.int hi), .val (.ref b7), .val (.int (p2 &&& (7 : Int32))), .unset, .unset, .unset, .unset, .unset] [(.int (hi - (1 : Int32)))])) _
              refine XS.istore X11.here hx rfl (hb hby at_105) rfl (l' := #[.val (.int p0), .val (.int p1), .val (.int p2), .val (.int p3), .val (.int (p0 &&& (32767 : Int32))), .val (.int (p1 &&& (32767 : Int32))), .val (.int lo), .val (.int hi), .val (.ref b7), .val (.int (p2 &&& (7 : Int32))), .val (.int (hi - (1 : Int32))), .unset, .unset, .unset, .unset]) rfl ?_
              show Steps p.tables e below (T11.setTop (mkF m 107 #[.val (.int p0), .val (.int p1), .val (.int p2), .val (.int p3), .val (.int (p0 &&& (32767 : Int32))), .val (.int (p1 &&& (32767 : Int32))), .val (.int lo), .val (.int hi), .val (.ref b7), .val (.int (p2 &&& (7 : Int32))), .val (.int (hi - (1 : Int32))), .unset, .unset, .unset, .unset] [])) _
              refine XS.goto X11.here hx rfl (pc0 := 107) (pc' := 141) rfl (hb hby at_107) (by decide) (by decide) ?_
              exact kt)⟩
          · by_cases hc22 : (p2 &&& (7 : Int32)) = (4 : Int32)
            · exact ⟨hi, fun tgt kt => pre17 _ (by
                show Steps p.tables e below (T11.setTop (mkF m 55 #[.val (.int p0), .val (.int p1), .val (.int p2), .val (.int p3), .val (.int (p0 &&& (32767 : Int32))), .val (.int (p1 &&& (32767 : Int32))), .val (.int lo), .val (.int hi), .val (.ref b7), .val (.int (p2 &&& (7 : Int32))), .unset, .unset, .unset, .unset, .unset] [(.int (p2 &&& (7 : Int32)))])) _
                refine XS.ifYes X11.here hx rfl (pc0 := 55) (pc' := 67) rfl (hb hby at_55) rfl ((if0 _ _).trans (feq hc18).2) (by decide) (by decide) ?_
                show Steps p.tables e below (T11.setTop (mkF m 67 #[.val (.int p0), .val (.int p1), .val (.int p2), .val (.int p3), .val (.int (p0 &&& (32767 : Int32))), .val (.int (p1 &&& (32767 : Int32))), .val (.int lo), .val (.int hi), .val (.ref b7), .val (.int (p2 &&& (7 : Int32))), .unset, .unset, .unset, .unset, .unset] [])) _
                refine XS.iload X11.here hx rfl (hb hby at_67) rfl ?_
                show Steps p.tables e below (T11.setTop (mkF m 69 #[.val (.int p0), .val (.int p1), .val (.int p2), .val (.int p3), .val (.int (p0 &&& (32767 : Int32))), .val (.int (p1 &&& (32767 : Int32))), .val (.int lo), .val (.int hi), .val (.ref b7), .val (.int (p2 &&& (7 : Int32))), .unset, .unset, .unset, .unset, .unset] [(.int (p2 &&& (7 : Int32)))])) _
                refine XS.iconst X11.here hx rfl (hb hby at_69) ?_
                show Steps p.tables e below (T11.setTop (mkF m 70 #[.val (.int p0), .val (.int p1), .val (.int p2), .val (.int p3), .val (.int (p0 &&& (32767 : Int32))), .val (.int (p1 &&& (32767 : Int32))), .val (.int lo), .val (.int hi), .val (.ref b7), .val (.int (p2 &&& (7 : Int32))), .unset, .unset, .unset, .unset, .unset] [(.int (1 : Int32)), (.int (p2 &&& (7 : Int32)))])) _
                refine XS.icmpYes X11.here hx rfl (pc0 := 70) (pc' := 80) rfl (hb hby at_70) rfl (feq hc19).2 (by decide) (by decide) ?_
                show Steps p.tables e below (T11.setTop (mkF m 80 #[.val (.int p0), .val (.int p1), .val (.int p2), .val (.int p3), .val (.int (p0 &&& (32767 : Int32))), .val (.int (p1 &&& (32767 : Int32))), .val (.int lo), .val (.int hi), .val (.ref b7), .val (.int (p2 &&& (7 : Int32))), .unset, .unset, .unset, .unset, .unset] [])) _
                refine XS.iload X11.here hx rfl (hb hby at_80) rfl ?_
                show Steps p.tables e below (T11.setTop (mkF m 82 #[.val (.int p0), .val (.int p1), .val (.int p2), .val (.int p3), .val (.int (p0 &&& (32767 : Int32))), .val (.int (p1 &&& (32767 : Int32))), .val (.int lo), .val (.int hi), .val (.ref b7), .val (.int (p2 &&& (7 : Int32))), .unset, .unset, .unset, .unset, .unset] [(.int (p2 &&& (7 : Int32)))])) _
                refine XS.iconst X11.here hx rfl (hb hby at_82) ?_
                show Steps p.tables e below (T11.setTop (mkF m 83 #[.val (.int p0), .val (.int p1), .val (.int p2), .val (.int p3), .val (.int (p0 &&& (32767 : Int32))), .val (.int (p1 &&& (32767 : Int32))), .val (.int lo), .val (.int hi), .val (.ref b7), .val (.int (p2 &&& (7 : Int32))), .unset, .unset, .unset, .unset, .unset] [(.int (2 : Int32)), (.int (p2 &&& (7 : Int32)))])) _
                refine XS.icmpYes X11.here hx rfl (pc0 := 83) (pc' := 95) rfl (hb hby at_83) rfl (feq hc20).2 (by decide) (by decide) ?_
                show Steps p.tables e below (T11.setTop (mkF m 95 #[.val (.int p0), .val (.int p1), .val (.int p2), .val (.int p3), .val (.int (p0 &&& (32767 : Int32))), .val (.int (p1 &&& (32767 : Int32))), .val (.int lo), .val (.int hi), .val (.ref b7), .val (.int (p2 &&& (7 : Int32))), .unset, .unset, .unset, .unset, .unset] [])) _
                refine XS.iload X11.here hx rfl (hb hby at_95) rfl ?_
                show Steps p.tables e below (T11.setTop (mkF m 97 #[.val (.int p0), .val (.int p1), .val (.int p2), .val (.int p3), .val (.int (p0 &&& (32767 : Int32))), .val (.int (p1 &&& (32767 : Int32))), .val (.int lo), .val (.int hi), .val (.ref b7), .val (.int (p2 &&& (7 : Int32))), .unset, .unset, .unset, .unset, .unset] [(.int (p2 &&& (7 : Int32)))])) _
                refine XS.iconst X11.here hx rfl (hb hby at_97) ?_
                show Steps p.tables e below (T11.setTop (mkF m 98 #[.val (.int p0), .val (.int p1), .val (.int p2), .val (.int p3), .val (.int (p0 &&& (32767 : Int32))), .val (.int (p1 &&& (32767 : Int32))), .val (.int lo), .val (.int hi), .val (.ref b7), .val (.int (p2 &&& (7 : Int32))), .unset, .unset, .unset, .unset, .unset] [(.int (3 : Int32)), (.int (p2 &&& (7 : Int32)))])) _
                refine XS.icmpYes X11.here hx rfl (pc0 := 98) (pc' := 110) rfl (hb hby at_98) rfl (feq hc21).2 (by decide) (by decide) ?_
                show Steps p.tables e below (T11.setTop (mkF m 110 #[.val (.int p0), .val (.int p1), .val (.int p2), .val (.int p3), .val (.int (p0 &&& (32767 : Int32))), .val (.int (p1 &&& (32767 : Int32))), .val (.int lo), .val (.int hi), .val (.ref b7), .val (.int (p2 &&& (7 : Int32))), .unset, .unset, .unset, .unset, .unset] [])) _
                refine XS.iload X11.here hx rfl (hb hby at_110) rfl ?_
                show Steps p.tables e below (T11.setTop (mkF m 112 #[.val (.int p0), .val (.int p1), .val (.int p2), .val (.int p3), .val (.int (p0 &&& (32767 : Int32))), .val (.int (p1 &&& (32767 : Int32))), .val (.int lo), .val (.int hi), .val (.ref b7), .val (.int (p2 &&& (7 : Int32))), .unset, .unset, .unset, .unset, .unset] [(.int (p2 &&& (7 : Int32)))])) _
                refine XS.iconst X11.here hx rfl (hb hby at_112) ?_
                show Steps p.tables e below (T11.setTop (mkF m 113 #[.val (.int p0), .val (.int p1), .val (.int p2), .val (.int p3), .val (.int (p0 &&& (32767 : Int32))), .val (.int (p1 &&& (32767 : Int32))), .val (.int lo), .val (.int hi), .val (.ref b7), .val (.int (p2 &&& (7 : Int32))), .unset, .unset, .unset, .unset, .unset] [(.int (4 : Int32)), (.int (p2 &&& (7 : Int32)))])) _
                refine XS.icmpNo X11.here hx rfl (hb hby at_113) rfl (teq hc22).2 ?_
                show Steps p.tables e below (T11.setTop (mkF m 116 #[.val (.int p0), .val (.int p1), .val (.int p2), .val (.int p3), .val (.int (p0 &&& (32767 : Int32))), .val (.int (p1 &&& (32767 : Int32))), .val (.int lo), .val (.int hi), .val (.ref b7), .val (.int (p2 &&& (7 : Int32))), .unset, .unset, .unset, .unset, .unset] [])) _
                refine XS.iload X11.here hx rfl (hb hby at_116) rfl ?_
                show Steps p.tables e below (T11.setTop (mkF m 118 #[.val (.int p0), .val (.int p1), .val (.int p2), .val (.int p3), .val (.int (p0 &&& (32767 : Int32))), .val (.int (p1 &&& (32767 : Int32))), .val (.int lo), .val (.int hi), .val (.ref b7), .val (.int (p2 &&& (7 : Int32))), .unset, .unset, .unset, .unset, .unset] [(.int hi)])) _
                refine XS.istore X11.here hx rfl (hb hby at_118) rfl (l' := #[.val (.int p0), .val (.int p1), .val (.int p2), .val (.int p3), .val (.int (p0 &&& (32767 : Int32))), .val (.int (p1 &&& (32767 : Int32))), .val (.int lo), .val (.int hi), .val (.ref b7), .val (.int (p2 &&& (7 : Int32))), .val (.int hi), .unset, .unset, .unset, .unset]) rfl ?_
                show Steps p.tables e below (T11.setTop (mkF m 120 #[.val (.int p0), .val (.int p1), .val (.int p2), .val (.int p3), .val (.int (p0 &&& (32767 : Int32))), .val (.int (p1 &&& (32767 : Int32))), .val (.int lo), .val (.int hi), .val (.ref b7), .val (.int (p2 &&& (7 : Int32))), .val (.int hi), .unset, .unset, .unset, .unset] [])) _
                refine XS.goto X11.here hx rfl (pc0 := 120) (pc' := 141) rfl (hb hby at_120) (by decide) (by decide) ?_
                exact kt)⟩
            · by_cases hc23 : (p2 &&& (7 : Int32)) = (5 : Int32)
              · exact ⟨(hi + (1 : Int32)), fun tgt kt => pre17 _ (by
                  show Steps p.tables e below (T11.setTop (mkF m 55 #[.val (.int p0), .val (.int p1), .val (.int p2), .val (.int p3), .val (.int (p0 &&& (32767 : Int32))), .val (.int (p1 &&& (32767 : Int32))), .val (.int lo), .val (.int hi), .val (.ref b7), .val (.int (p2 &&& (7 : Int32))), .unset, .unset, .unset, .unset, .unset] [(.int (p2 &&& (7 : Int32)))])) _
                  refine XS.ifYes X11.here hx rfl (pc0 := 55) (pc' := 67) rfl (hb hby at_55) rfl ((if0 _ _).trans (feq hc18).2) (by decide) (by decide) ?_
                  show Steps p.tables e below (T11.setTop (mkF m 67 #[.val (.int p0), .val (.int p1), .val (.int p2), .val (.int p3), .val (.int (p0 &&& (32767 : Int32))), .val (.int (p1 &&& (32767 : Int32))), .val (.int lo), .val (.int hi), .val (.ref b7), .val (.int (p2 &&& (7 : Int32))), .unset, .unset, .unset, .unset, .unset] [])) _
                  refine XS.iload X11.here hx rfl (hb hby at_67) rfl ?_
                  show Steps p.tables e below (T11.setTop (mkF m 69 #[.val (.int p0), .val (.int p1), .val (.int p2), .val (.int p3), .val (.int (p0 &&& (32767 : Int32))), .val (.int (p1 &&& (32767 : Int32))), .val (.int lo), .val (.int hi), .val (.ref b7), .val (.int (p2 &&& (7 : Int32))), .unset, .unset, .unset, .unset, .unset] [(.int (p2 &&& (7 : Int32)))])) _
                  refine XS.iconst X11.here hx rfl (hb hby at_69) ?_
                  show Steps p.tables e below (T11.setTop (mkF m 70 #[.val (.int p0), .val (.int p1), .val (.int p2), .val (.int p3), .val (.int (p0 &&& (32767 : Int32))), .val (.int (p1 &&& (32767 : Int32))), .val (.int lo), .val (.int hi), .val (.ref b7), .val (.int (p2 &&& (7 : Int32))), .unset, .unset, .unset, .unset, .unset] [(.int (1 : Int32)), (.int (p2 &&& (7 : Int32)))])) _
                  refine XS.icmpYes X11.here hx rfl (pc0 := 70) (pc' := 80) rfl (hb hby at_70) rfl (feq hc19).2 (by decide) (by decide) ?_
                  show Steps p.tables e below (T11.setTop (mkF m 80 #[.val (.int p0), .val (.int p1), .val (.int p2), .val (.int p3), .val (.int (p0 &&& (32767 : Int32))), .val (.int (p1 &&& (32767 : Int32))), .val (.int lo), .val (.int hi), .val (.ref b7), .val (.int (p2 &&& (7 : Int32))), .unset, .unset, .unset, .unset, .unset] [])) _
                  refine XS.iload X11.here hx rfl (hb hby at_80) rfl ?_
                  show Steps p.tables e below (T11.setTop (mkF m 82 #[.val (.int p0), .val (.int p1), .val (.int p2), .val (.int p3), .val (.int (p0 &&& (32767 : Int32))), .val (.int (p1 &&& (32767 : Int32))), .val (.int lo), .val (.int hi), .val (.ref b7), .val (.int (p2 &&& (7 : Int32))), .unset, .unset, .unset, .unset, .unset] [(.int (p2 &&& (7 : Int32)))])) _
                  refine XS.iconst X11.here hx rfl (hb hby at_82) ?_
                  show Steps p.tables e below (T11.setTop (mkF m 83 #[.val (.int p0), .val (.int p1), .val (.int p2), .val (.int p3), .val (.int (p0 &&& (32767 : Int32))), .val (.int (p1 &&& (32767 : Int32))), .val (.int lo), .val (.int hi), .val (.ref b7), .val (.int (p2 &&& (7 : Int32))), .unset, .unset, .unset, .unset, .unset] [(.int (2 : Int32)), (.int (p2 &&& (7 : Int32)))])) _
                  refine XS.icmpYes X11.here hx rfl (pc0 := 83) (pc' := 95) rfl (hb hby at_83) rfl (feq hc20).2 (by decide) (by decide) ?_
                  show Steps p.tables e below (T11.setTop (mkF m 95 #[.val (.int p0), .val (.int p1), .val (.int p2), .val (.int p3), .val (.int (p0 &&& (32767 : Int32))), .val (.int (p1 &&& (32767 : Int32))), .val (.int lo), .val (.int hi), .val (.ref b7), .val (.int (p2 &&& (7 : Int32))), .unset, .unset, .unset, .unset, .unset] [])) _
                  refine XS.iload X11.here hx rfl (hb hby at_95) rfl ?_
                  show Steps p.tables e below (T11.setTop (mkF m 97 #[.val (.int p0), .val (.int p1), .val (.int p2), .val (.int p3), .val (.int (p0 &&& (32767 : Int32))), .val (.int (p1 &&& (32767 : Int32))), .val (.int lo), .val (.int hi), .val (.ref b7), .val (.int (p2 &&& (7 : Int32))), .unset, .unset, .unset, .unset, .unset] [(.int (p2 &&& (7 : Int32)))])) _
                  refine XS.iconst X11.here hx rfl (hb hby at_97) ?_
                  show Steps p.tables e below (T11.setTop (mkF m 98 #[.val (.int p0), .val (.int p1), .val (.int p2), .val (.int p3), .val (.int (p0 &&& (32767 : Int32))), .val (.int (p1 &&& (32767 : Int32))), .val (.int lo), .val (.int hi), .val (.ref b7), .val (.int (p2 &&& (7 : Int32))), .unset, .unset, .unset, .unset, .unset] [(.int (3 : Int32)), (.int (p2 &&& (7 : Int32)))])) _
                  refine XS.icmpYes X11.here hx rfl (pc0 := 98) (pc' := 110) rfl (hb hby at_98) rfl (feq hc21).2 (by decide) (by decide) ?_
                  show Steps p.tables e below (T11.setTop (mkF m 110 #[.val (.int p0), .val (.int p1), .val (.int p2), .val (.int p3), .val (.int (p0 &&& (32767 : Int32))), .val (.int (p1 &&& (32767 : Int32))), .val (.int lo), .val (.int hi), .val (.ref b7), .val (.int (p2 &&& (7 : Int32))), .unset, .unset, .unset, .unset, .unset] [])) _
                  refine XS.iload X11.here hx rfl (hb hby at_110) rfl ?_
                  show Steps p.tables e below (T11.setTop (mkF m 112 #[.val (.int p0), .val (.int p1), .val (.int p2), .val (.int p3), .val (.int (p0 &&& (32767 : Int32))), .val (.int (p1 &&& (32767 : Int32))), .val (.int lo), .val (.int hi), .val (.ref b7), .val (.int (p2 &&& (7 : Int32))), .unset, .unset, .unset, .unset, .unset] [(.int (p2 &&& (7 : Int32)))])) _
                  refine XS.iconst X11.here hx rfl (hb hby at_112) ?_
                  show Steps p.tables e below (T11.setTop (mkF m 113 #[.val (.int p0), .val (.int p1), .val (.int p2), .val (.int p3), .val (.int (p0 &&& (32767 : Int32))), .val (.int (p1 &&& (32767 : Int32))), .val (.int lo), .val (.int hi), .val (.ref b7), .val (.int (p2 &&& (7 : Int32))), .unset, .unset, .unset, .unset, .unset] [(.int (4 : Int32)), (.int (p2 &&& (7 : Int32)))])) _
                  refine XS.icmpYes X11.here hx rfl (pc0 := 113) (pc' := 123) rfl (hb hby at_113) rfl (feq hc22).2 (by decide) (by decide) ?_
                  show Steps p.tables e below (T11.setTop (mkF m 123 #[.val (.int p0), .val (.int p1), .val (.int p2), .val (.int p3), .val (.int (p0 &&& (32767 : Int32))), .val (.int (p1 &&& (32767 : Int32))), .val (.int lo), .val (.int hi), .val (.ref b7), .val (.int (p2 &&& (7 : Int32))), .unset, .unset, .unset, .unset, .unset] [])) _
                  refine XS.iload X11.here hx rfl (hb hby at_123) rfl ?_
                  show Steps p.tables e below (T11.setTop (mkF m 125 #[.val (.int p0), .val (.int p1), .val (.int p2), .val (.int p3), .val (.int (p0 &&& (32767 : Int32))), .val (.int (p1 &&& (32767 : Int32))), .val (.int lo), .val (.int hi), .val (.ref b7), .val (.int (p2 &&& (7 : Int32))), .unset, .unset, .unset, .unset, .unset] [(.int (p2 &&& (7 : Int32)))])) _
                  refine XS.iconst X11.here hx rfl (hb hby at_125) ?_
                  show Steps p.tables e below (T11.setTop (mkF m 126 #[.val (.int p0), .val (.int p1), .val (.int p2), .val (.int p3), .val (.int (p0 &&& (32767 : Int32))), .val (.int (p1 &&& (32767 : Int32))), .val (.int lo), .val (.int hi), .val (.ref b7), .val (.int (p2 &&& (7 : Int32))), .unset, .unset, .unset, .unset, .unset] [(.int (5 : Int32)), (.int (p2 &&& (7 : Int32)))])) _
                  refine XS.icmpNo X11.here hx rfl (hb hby at_126) rfl (teq hc23).2 ?_
                  show Steps p.tables e below (T11.setTop (mkF m 129 #[.val (.int p0), .val (.int p1), .val (.int p2), .val (.int p3), .val (.int (p0 &&& (32767 : Int32))), .val (.int (p1 &&& (32767 : Int32))), .val (.int lo), .val (.int hi), .val (.ref b7), .val (.int (p2 &&& (7 : Int32))), .unset, .unset, .unset, .unset, .unset] [])) _
                  refine XS.iload X11.here hx rfl (hb hby at_129) rfl ?_
                  show Steps p.tables e below (T11.setTop (mkF m 131 #[.val (.int p0), .val (.int p1), .val (.int p2), .val (.int p3), .val (.int (p0 &&& (32767 : Int32))), .val (.int (p1 &&& (32767 : Int32))), .val (.int lo), .val (.int hi), .val (.ref b7), .val (.int (p2 &&& (7 : Int32))), .unset, .unset, .unset, .unset, .unset] [(.int hi)])) _
                  refine XS.iconst X11.here hx rfl (hb hby at_131) ?_
                  show Steps p.tables e below (T11.setTop (mkF m 132 #[.val (.int p0), .val (.int p1), .val (.int p2), .val (.int p3), .val (.int (p0 &&& (32767 : Int32))), .val (.int (p1 &&& (32767 : Int32))), .val (.int lo), .val (.int hi), .val (.ref b7), .val (.int (p2 &&& (7 : Int32))), .unset, .unset, .unset, .unset, .unset] [(.int (1 : Int32)), (.int hi)])) _
                  refine XS.iadd X11.here hx rfl (hb hby at_132) rfl ?_
                  show Steps p.tables e below (T11.setTop (mkF m 133 #[.val (.int p0), .val (.int p1), .val (.int p2), .val (.int p3), .val (.int (p0 &&& (32767 : Int32))), .val (.int (p1 &&& (32767 : Int32))), .val (.int lo), .val (.int hi), .val (.ref b7), .val (.int (p2 &&& (7 : Int32))), .unset, .unset, .unset, .unset, .unset] [(.int (hi + (1 : Int32)))])) _
                  refine XS.istore X11.here hx rfl (hb hby at_133) rfl (l' := #[.val (.int p0), .val (.int p1), .val (.int p2), .val (.int p3), .val (.int (p0 &&& (32767 : Int32))), .val (.int (p1 &&& (32767 : Int32))), .val (.int lo), .val (.int hi), .val (.ref b7), .val (.int (p2 &&& (7 : Int32))), .val (.int (hi + (1 : Int32))), .unset, .unset, .unset, .unset]) rfl ?_
                  show Steps p.tables e below (T11.setTop (mkF m 135 #[.val (.int p0), .val (.int p1), .val (.int p2), .val (.int p3), .val (.int (p0 &&& (32767 : Int32))), .val (.int (p1 &&& (32767 : Int32))), .val (.int lo), .val (.int hi), .val (.ref b7), .val (.int (p2 &&& (7 : Int32))), .val (.int (hi + (1 : Int32))), .unset, .unset, .unset, .unset] [])) _
                  refine XS.goto X11.here hx rfl (pc0 := 135) (pc' := 141) rfl (hb hby at_135) (by decide) (by decide) ?_
                  exact kt)⟩
              · exact ⟨p3, fun tgt kt => pre17 _ (by
                  show Steps p.tables e below (T11.setTop (mkF m 55 #[.val (.int p0), .val (.int p1), .val (.int p2), .val (.int p3), .val (.int (p0 &&& (32767 : Int32))), .val (.int (p1 &&& (32767 : Int32))), .val (.int lo), .val (.int hi), .val (.ref b7), .val (.int (p2 &&& (7 : Int32))), .unset, .unset, .unset, .unset, .unset] [(.int (p2 &&& (7 : Int32)))])) _
                  refine XS.ifYes X11.here hx rfl (pc0 := 55) (pc' := 67) rfl (hb hby at_55) rfl ((if0 _ _).trans (feq hc18).2) (by decide) (by decide) ?_
                  show Steps p.tables e below (T11.setTop (mkF m 67 #[.val (.int p0), .val (.int p1), .val (.int p2), .val (.int p3), .val (.int (p0 &&& (32767 : Int32))), .val (.int (p1 &&& (32767 : Int32))), .val (.int lo), .val (.int hi), .val (.ref b7), .val (.int (p2 &&& (7 : Int32))), .unset, .unset, .unset, .unset, .unset] [])) _
                  refine XS.iload X11.here hx rfl (hb hby at_67) rfl ?_
                  show Steps p.tables e below (T11.setTop (mkF m 69 #[.val (.int p0), .val (.int p1), .val (.int p2), .val (.int p3), .val (.int (p0 &&& (32767 : Int32))), .val (.int (p1 &&& (32767 : Int32))), .val (.int lo), .val (.int hi), .val (.ref b7), .val (.int (p2 &&& (7 : Int32))), .unset, .unset, .unset, .unset, .unset] [(.int (p2 &&& (7 : Int32)))])) _
                  refine XS.iconst X11.here hx rfl (hb hby at_69) ?_
                  show Steps p.tables e below (T11.setTop (mkF m 70 #[.val (.int p0), .val (.int p1), .val (.int p2), .val (.int p3), .val (.int (p0 &&& (32767 : Int32))), .val (.int (p1 &&& (32767 : Int32))), .val (.int lo), .val (.int hi), .val (.ref b7), .val (.int (p2 &&& (7 : Int32))), .unset, .unset, .unset, .unset, .unset] [(.int (1 : Int32)), (.int (p2 &&& (7 : Int32)))])) _
                  refine XS.icmpYes X11.here hx rfl (pc0 := 70) (pc' := 80) rfl (hb hby at_70) rfl (feq hc19).2 (by decide) (by decide) ?_
                  show Steps p.tables e below (T11.setTop (mkF m 80 #[.val (.int p0), .val (.int p1), .val (.int p2), .val (.int p3), .val (.int (p0 &&& (32767 : Int32))), .val (.int (p1 &&& (32767 : Int32))), .val (.int lo), .val (.int hi), .val (.ref b7), .val (.int (p2 &&& (7 : Int32))), .unset, .unset, .unset, .unset, .unset] [])) _
                  refine XS.iload X11.here hx rfl (hb hby at_80) rfl ?_
                  show Steps p.tables e below (T11.setTop (mkF m 82 #[.val (.int p0), .val (.int p1), .val (.int p2), .val (.int p3), .val (.int (p0 &&& (32767 : Int32))), .val (.int (p1 &&& (32767 : Int32))), .val (.int lo), .val (.int hi), .val (.ref b7), .val (.int (p2 &&& (7 : Int32))), .unset, .unset, .unset, .unset, .unset] [(.int (p2 &&& (7 : Int32)))])) _
                  refine XS.iconst X11.here hx rfl (hb hby at_82) ?_
                  show Steps p.tables e below (T11.setTop (mkF m 83 #[.val (.int p0), .val (.int p1), .val (.int p2), .val (.int p3), .val (.int (p0 &&& (32767 : Int32))), .val (.int (p1 &&& (32767 : Int32))), .val (.int lo), .val (.int hi), .val (.ref b7), .val (.int (p2 &&& (7 : Int32))), .unset, .unset, .unset, .unset, .unset] [(.int (2 : Int32)), (.int (p2 &&& (7 : Int32)))])) _
                  refine XS.icmpYes X11.here hx rfl (pc0 := 83) (pc' := 95) rfl (hb hby at_83) rfl (feq hc20).2 (by decide) (by decide) ?_
                  show Steps p.tables e below (T11.setTop (mkF m 95 #[.val (.int p0), .val (.int p1), .val (.int p2), .val (.int p3), .val (.int (p0 &&& (32767 : Int32))), .val (.int (p1 &&& (32767 : Int32))), .val (.int lo), .val (.int hi), .val (.ref b7), .val (.int (p2 &&& (7 : Int32))), .unset, .unset, .unset, .unset, .unset] [])) _
                  refine XS.iload X11.here hx rfl (hb hby at_95) rfl ?_
                  show Steps p.tables e below (T11.setTop (mkF m 97 #[.val (.int p0), .val (.int p1), .val (.int p2), .val (.int p3), .val (.int (p0 &&& (32767 : Int32))), .val (.int (p1 &&& (32767 : Int32))), .val (.int lo), .val (.int hi), .val (.ref b7), .val (.int (p2 &&& (7 : Int32))), .unset, .unset, .unset, .unset, .unset] [(.int (p2 &&& (7 : Int32)))])) _
                  refine XS.iconst X11.here hx rfl (hb hby at_97) ?_
                  show Steps p.tables e below (T11.setTop (mkF m 98 #[.val (.int p0), .val (.int p1), .val (.int p2), .val (.int p3), .val (.int (p0 &&& (32767 : Int32))), .val (.int (p1 &&& (32767 : Int32))), .val (.int lo), .val (.int hi), .val (.ref b7), .val (.int (p2 &&& (7 : Int32))), .unset, .unset, .unset, .unset, .unset] [(.int (3 : Int32)), (.int (p2 &&& (7 : Int32)))])) _
                  refine XS.icmpYes X11.here hx rfl (pc0 := 98) (pc' := 110) rfl (hb hby at_98) rfl (feq hc21).2 (by decide) (by decide) ?_
                  show Steps p.tables e below (T11.setTop (mkF m 110 #[.val (.int p0), .val (.int p1), .val (.int p2), .val (.int p3), .val (.int (p0 &&& (32767 : Int32))), .val (.int (p1 &&& (32767 : Int32))), .val (.int lo), .val (.int hi), .val (.ref b7), .val (.int (p2 &&& (7 : Int32))), .unset, .unset, .unset, .unset, .unset] [])) _
                  refine XS.iload X11.here hx rfl (hb hby at_110) rfl ?_
                  show Steps p.tables e below (T11.setTop (mkF m 112 #[.val (.int p0), .val (.int p1), .val (.int p2), .val (.int p3), .val (.int (p0 &&& (32767 : Int32))), .val (.int (p1 &&& (32767 : Int32))), .val (.int lo), .val (.int hi), .val (.ref b7), .val (.int (p2 &&& (7 : Int32))), .unset, .unset, .unset, .unset, .unset] [(.int (p2 &&& (7 : Int32)))])) _
                  refine XS.iconst X11.here hx rfl (hb hby at_112) ?_
                  show Steps p.tables e below (T11.setTop (mkF m 113 #[.val (.int p0), .val (.int p1), .val (.int p2), .val (.int p3), .val (.int (p0 &&& (32767 : Int32))), .val (.int (p1 &&& (32767 : Int32))), .val (.int lo), .val (.int hi), .val (.ref b7), .val (.int (p2 &&& (7 : Int32))), .unset, .unset, .unset, .unset, .unset] [(.int (4 : Int32)), (.int (p2 &&& (7 : Int32)))])) _
                  refine XS.icmpYes X11.here hx rfl (pc0 := 113) (pc' := 123) rfl (hb hby at_113) rfl (feq hc22).2 (by decide) (by decide) ?_
                  show Steps p.tables e below (T11.setTop (mkF m 123 #[.val (.int p0), .val (.int p1), .val (.int p2), .val (.int p3), .val (.int (p0 &&& (32767 : Int32))), .val (.int (p1 &&& (32767 : Int32))), .val (.int lo), .val (.int hi), .val (.ref b7), .val (.int (p2 &&& (7 : Int32))), .unset, .unset, .unset, .unset, .unset] [])) _
                  refine XS.iload X11.here hx rfl (hb hby at_123) rfl ?_
                  show Steps p.tables e below (T11.setTop (mkF m 125 #[.val (.int p0), .val (.int p1), .val (.int p2), .val (.int p3), .val (.int (p0 &&& (32767 : Int32))), .val (.int (p1 &&& (32767 : Int32))), .val (.int lo), .val (.int hi), .val (.ref b7), .val (.int (p2 &&& (7 : Int32))), .unset, .unset, .unset, .unset, .unset] [(.int (p2 &&& (7 : Int32)))])) _
                  refine XS.iconst X11.here hx rfl (hb hby at_125) ?_
                  show Steps p.tables e below (T11.setTop (mkF m 126 #[.val (.int p0), .val (.int p1), .val (.int p2), .val (.int p3), .val (.int (p0 &&& (32767 : Int32))), .val (.int (p1 &&& (32767 : Int32))), .val (.int lo), .val (.int hi), .val (.ref b7), .val (.int (p2 &&& (7 : Int32))), .unset, .unset, .unset, .unset, .unset] [(.int (5 : Int32)), (.int (p2 &&& (7 : Int32)))])) _
                  refine XS.icmpYes X11.here hx rfl (pc0 := 126) (pc' := 138) rfl (hb hby at_126) rfl (feq hc23).2 (by decide) (by decide) ?_
                  show Steps p.tables e below (T11.setTop (mkF m 138 #[.val (.int p0), .val (.int p1), .val (.int p2), .val (.int p3), .val (.int (p0 &&& (32767 : Int32))), .val (.int (p1 &&& (32767 : Int32))), .val (.int lo), .val (.int hi), .val (.ref b7), .val (.int (p2 &&& (7 : Int32))), .unset, .unset, .unset, .unset, .unset] [])) _
                  refine XS.iloadN X11.here hx rfl (hb hby at_138) rfl ?_
                  show Steps p.tables e below (T11.setTop (mkF m 139 #[.val (.int p0), .val (.int p1), .val (.int p2), .val (.int p3), .val (.int (p0 &&& (32767 : Int32))), .val (.int (p1 &&& (32767 : Int32))), .val (.int lo), .val (.int hi), .val (.ref b7), .val (.int (p2 &&& (7 : Int32))), .unset, .unset, .unset, .unset, .unset] [(.int p3)])) _
                  refine XS.istore X11.here hx rfl (hb hby at_139) rfl (l' := #[.val (.int p0), .val (.int p1), .val (.int p2), .val (.int p3), .val (.int (p0 &&& (32767 : Int32))), .val (.int (p1 &&& (32767 : Int32))), .val (.int lo), .val (.int hi), .val (.ref b7), .val (.int (p2 &&& (7 : Int32))), .val (.int p3), .unset, .unset, .unset, .unset]) rfl ?_
                  exact kt)⟩
  have pre26 : ∀ tgt, Steps p.tables e below (T11.setTop (mkF m 159 #[.val (.int p0), .val (.int p1), .val (.int p2), .val (.int p3), .val (.int (p0 &&& (32767 : Int32))), .val (.int (p1 &&& (32767 : Int32))), .val (.int lo), .val (.int hi), .val (.ref b7), .val (.int (p2 &&& (7 : Int32))), .val (.int cz), .val (.int (cz.toInt16.toInt32)), .val (.long (((cz.toInt16.toInt32).toInt64) - (lo.toInt64))), .second, .unset] [(.int (lcmpW (((cz.toInt16.toInt32).toInt64) - (lo.toInt64)) (0 : Int64)))])) tgt → Steps p.tables e below (s₁.setTop (entryFrame m #[(.int p0), (.int p1), (.int p2), (.int p3)] maxLocals)) tgt := fun tgt kt => pre24 _ (by
    show Steps p.tables e below (T11.setTop (mkF m 141 #[.val (.int p0), .val (.int p1), .val (.int p2), .val (.int p3), .val (.int (p0 &&& (32767 : Int32))), .val (.int (p1 &&& (32767 : Int32))), .val (.int lo), .val (.int hi), .val (.ref b7), .val (.int (p2 &&& (7 : Int32))), .val (.int cz), .unset, .unset, .unset, .unset] [])) _
    refine XS.iload X11.here hx rfl (hb hby at_141) rfl ?_
    show Steps p.tables e below (T11.setTop (mkF m 143 #[.val (.int p0), .val (.int p1), .val (.int p2), .val (.int p3), .val (.int (p0 &&& (32767 : Int32))), .val (.int (p1 &&& (32767 : Int32))), .val (.int lo), .val (.int hi), .val (.ref b7), .val (.int (p2 &&& (7 : Int32))), .val (.int cz), .unset, .unset, .unset, .unset] [(.int cz)])) _
    refine XS.i2s X11.here hx rfl (hb hby at_143) rfl ?_
    show Steps p.tables e below (T11.setTop (mkF m 144 #[.val (.int p0), .val (.int p1), .val (.int p2), .val (.int p3), .val (.int (p0 &&& (32767 : Int32))), .val (.int (p1 &&& (32767 : Int32))), .val (.int lo), .val (.int hi), .val (.ref b7), .val (.int (p2 &&& (7 : Int32))), .val (.int cz), .unset, .unset, .unset, .unset] [(.int (cz.toInt16.toInt32))])) _
    refine XS.istore X11.here hx rfl (hb hby at_144) rfl (l' := #[.val (.int p0), .val (.int p1), .val (.int p2), .val (.int p3), .val (.int (p0 &&& (32767 : Int32))), .val (.int (p1 &&& (32767 : Int32))), .val (.int lo), .val (.int hi), .val (.ref b7), .val (.int (p2 &&& (7 : Int32))), .val (.int cz), .val (.int (cz.toInt16.toInt32)), .unset, .unset, .unset]) rfl ?_
    show Steps p.tables e below (T11.setTop (mkF m 146 #[.val (.int p0), .val (.int p1), .val (.int p2), .val (.int p3), .val (.int (p0 &&& (32767 : Int32))), .val (.int (p1 &&& (32767 : Int32))), .val (.int lo), .val (.int hi), .val (.ref b7), .val (.int (p2 &&& (7 : Int32))), .val (.int cz), .val (.int (cz.toInt16.toInt32)), .unset, .unset, .unset] [])) _
    refine XS.iload X11.here hx rfl (hb hby at_146) rfl ?_
    show Steps p.tables e below (T11.setTop (mkF m 148 #[.val (.int p0), .val (.int p1), .val (.int p2), .val (.int p3), .val (.int (p0 &&& (32767 : Int32))), .val (.int (p1 &&& (32767 : Int32))), .val (.int lo), .val (.int hi), .val (.ref b7), .val (.int (p2 &&& (7 : Int32))), .val (.int cz), .val (.int (cz.toInt16.toInt32)), .unset, .unset, .unset] [(.int (cz.toInt16.toInt32))])) _
    refine XS.i2l X11.here hx rfl (hb hby at_148) rfl ?_
    show Steps p.tables e below (T11.setTop (mkF m 149 #[.val (.int p0), .val (.int p1), .val (.int p2), .val (.int p3), .val (.int (p0 &&& (32767 : Int32))), .val (.int (p1 &&& (32767 : Int32))), .val (.int lo), .val (.int hi), .val (.ref b7), .val (.int (p2 &&& (7 : Int32))), .val (.int cz), .val (.int (cz.toInt16.toInt32)), .unset, .unset, .unset] [(.long ((cz.toInt16.toInt32).toInt64))])) _
    refine XS.iload X11.here hx rfl (hb hby at_149) rfl ?_
    show Steps p.tables e below (T11.setTop (mkF m 151 #[.val (.int p0), .val (.int p1), .val (.int p2), .val (.int p3), .val (.int (p0 &&& (32767 : Int32))), .val (.int (p1 &&& (32767 : Int32))), .val (.int lo), .val (.int hi), .val (.ref b7), .val (.int (p2 &&& (7 : Int32))), .val (.int cz), .val (.int (cz.toInt16.toInt32)), .unset, .unset, .unset] [(.int lo), (.long ((cz.toInt16.toInt32).toInt64))])) _
    refine XS.i2l X11.here hx rfl (hb hby at_151) rfl ?_
    show Steps p.tables e below (T11.setTop (mkF m 152 #[.val (.int p0), .val (.int p1), .val (.int p2), .val (.int p3), .val (.int (p0 &&& (32767 : Int32))), .val (.int (p1 &&& (32767 : Int32))), .val (.int lo), .val (.int hi), .val (.ref b7), .val (.int (p2 &&& (7 : Int32))), .val (.int cz), .val (.int (cz.toInt16.toInt32)), .unset, .unset, .unset] [(.long (lo.toInt64)), (.long ((cz.toInt16.toInt32).toInt64))])) _
    refine XS.lsub X11.here hx rfl (hb hby at_152) rfl ?_
    show Steps p.tables e below (T11.setTop (mkF m 153 #[.val (.int p0), .val (.int p1), .val (.int p2), .val (.int p3), .val (.int (p0 &&& (32767 : Int32))), .val (.int (p1 &&& (32767 : Int32))), .val (.int lo), .val (.int hi), .val (.ref b7), .val (.int (p2 &&& (7 : Int32))), .val (.int cz), .val (.int (cz.toInt16.toInt32)), .unset, .unset, .unset] [(.long (((cz.toInt16.toInt32).toInt64) - (lo.toInt64)))])) _
    refine XS.lstore X11.here hx rfl (hb hby at_153) rfl (l' := #[.val (.int p0), .val (.int p1), .val (.int p2), .val (.int p3), .val (.int (p0 &&& (32767 : Int32))), .val (.int (p1 &&& (32767 : Int32))), .val (.int lo), .val (.int hi), .val (.ref b7), .val (.int (p2 &&& (7 : Int32))), .val (.int cz), .val (.int (cz.toInt16.toInt32)), .val (.long (((cz.toInt16.toInt32).toInt64) - (lo.toInt64))), .second, .unset]) rfl ?_
    show Steps p.tables e below (T11.setTop (mkF m 155 #[.val (.int p0), .val (.int p1), .val (.int p2), .val (.int p3), .val (.int (p0 &&& (32767 : Int32))), .val (.int (p1 &&& (32767 : Int32))), .val (.int lo), .val (.int hi), .val (.ref b7), .val (.int (p2 &&& (7 : Int32))), .val (.int cz), .val (.int (cz.toInt16.toInt32)), .val (.long (((cz.toInt16.toInt32).toInt64) - (lo.toInt64))), .second, .unset] [])) _
    refine XS.lload X11.here hx rfl (hb hby at_155) rfl ?_
    show Steps p.tables e below (T11.setTop (mkF m 157 #[.val (.int p0), .val (.int p1), .val (.int p2), .val (.int p3), .val (.int (p0 &&& (32767 : Int32))), .val (.int (p1 &&& (32767 : Int32))), .val (.int lo), .val (.int hi), .val (.ref b7), .val (.int (p2 &&& (7 : Int32))), .val (.int cz), .val (.int (cz.toInt16.toInt32)), .val (.long (((cz.toInt16.toInt32).toInt64) - (lo.toInt64))), .second, .unset] [(.long (((cz.toInt16.toInt32).toInt64) - (lo.toInt64)))])) _
    refine XS.lconst X11.here hx rfl (hb hby at_157) ?_
    show Steps p.tables e below (T11.setTop (mkF m 158 #[.val (.int p0), .val (.int p1), .val (.int p2), .val (.int p3), .val (.int (p0 &&& (32767 : Int32))), .val (.int (p1 &&& (32767 : Int32))), .val (.int lo), .val (.int hi), .val (.ref b7), .val (.int (p2 &&& (7 : Int32))), .val (.int cz), .val (.int (cz.toInt16.toInt32)), .val (.long (((cz.toInt16.toInt32).toInt64) - (lo.toInt64))), .second, .unset] [(.long (0 : Int64)), (.long (((cz.toInt16.toInt32).toInt64) - (lo.toInt64)))])) _
    refine XS.lcmp X11.here hx rfl (hb hby at_158) rfl ?_
    exact kt)
  by_cases hA : (lcmpW (((cz.toInt16.toInt32).toInt64) - (lo.toInt64)) (0 : Int64)) < (0 : Int32)
  · obtain ⟨cq28, kq28, q28a, q28b, q28c⟩ := isOf hZ rfl f14
    obtain ⟨_, _, ⟨T28, L28, k28, n28⟩, -, X28, ⟨Lc28, hQ28, l28, y28, z28⟩, st28⟩ := X11.virtualBack hx (y := (⟨"com/example/tidy_commit/tidycommit/wire/VersionRange", "contains", "(S)Z"⟩ : MethodName)) (z := (⟨"com/example/tidy_commit/tidycommit/wire/VersionRange", "contains", "(S)Z"⟩ : MethodName)) hown (mvT hZ (hw _ (List.mem_of_getElem? (i := 25) rfl))) (mvT hZ (hw _ (List.mem_of_getElem? (i := 26) rfl))) (notFace_of_selects (args := #[]) (mvT hZ (hw _ (List.mem_of_getElem? (i := 28) rfl)))) (mvT hZ (hw _ (List.mem_of_getElem? (i := 28) rfl))) (mvT hZ (hw _ (List.mem_of_getElem? (i := 27) rfl))) (by decide) (backOf (W := 0) (rm6 l Z a0 hw [] b7 (cz.toInt16.toInt32) (nar .short (lo.toInt16.toInt32)) (nar .short (hi.toInt16.toInt32)) T11.heap n0 zz15 f12 f13) hZ (hw _ (List.mem_of_getElem? (i := 29) rfl)) (hw _ (List.mem_of_getElem? (i := 9) rfl)) (by decide) (by decide)) q28a q28c (g := (mkF m 186 #[.val (.int p0), .val (.int p1), .val (.int p2), .val (.int p3), .val (.int (p0 &&& (32767 : Int32))), .val (.int (p1 &&& (32767 : Int32))), .val (.int lo), .val (.int hi), .val (.ref b7), .val (.int (p2 &&& (7 : Int32))), .val (.int cz), .val (.int (cz.toInt16.toInt32)), .val (.long (((cz.toInt16.toInt32).toInt64) - (lo.toInt64))), .second, .val (.int (0 : Int32))] [(.int (cz.toInt16.toInt32)), (.ref b7)])) rfl (by rw [hml]; rfl) (Steps.refl _) (argsL := [(.int (cz.toInt16.toInt32))]) (rest := []) (lenOf pd_3 rfl) rfl (by show 2 * 0 + _ ≤ _; exact Nat.le_of_eq rfl) (hb hby at_186) (fun _ _ => ⟨rfl, rfl, (by decide : 1 + 0 ≤ _), (by decide : 2 + 0 ≤ _)⟩)
    dsimp only [Pt.U, Pt.locs, Pt.cells, Pt.slots] at X28 l28 y28 z28 st28 hQ28
    subst l28 y28 z28
    obtain ⟨rfl, Nq28, e28⟩ := hQ28
    have N29 := Fr.app N16 Nq28
    obtain ⟨fs, hr, hrun, hended, hW, hsame⟩ := X28.leave (v := some (.int (1 : Int32))) (fun h => by rw [Bd.returns] at h; cases h)
    refine ⟨_, _, pre26 _ ?_, hrun, hended, _, _, rfl, ?_, ⟨_, rfl⟩, hW, hsame.mono (by decide) (by decide)⟩
    · show Steps p.tables e below (T11.setTop (mkF m 159 #[.val (.int p0), .val (.int p1), .val (.int p2), .val (.int p3), .val (.int (p0 &&& (32767 : Int32))), .val (.int (p1 &&& (32767 : Int32))), .val (.int lo), .val (.int hi), .val (.ref b7), .val (.int (p2 &&& (7 : Int32))), .val (.int cz), .val (.int (cz.toInt16.toInt32)), .val (.long (((cz.toInt16.toInt32).toInt64) - (lo.toInt64))), .second, .unset] [(.int (lcmpW (((cz.toInt16.toInt32).toInt64) - (lo.toInt64)) (0 : Int64)))])) _
      refine XS.ifYes X11.here hx rfl (pc0 := 159) (pc' := 179) rfl (hb hby at_159) rfl ((if0 _ _).trans (tlt hA).1) (by decide) (by decide) ?_
      show Steps p.tables e below (T11.setTop (mkF m 179 #[.val (.int p0), .val (.int p1), .val (.int p2), .val (.int p3), .val (.int (p0 &&& (32767 : Int32))), .val (.int (p1 &&& (32767 : Int32))), .val (.int lo), .val (.int hi), .val (.ref b7), .val (.int (p2 &&& (7 : Int32))), .val (.int cz), .val (.int (cz.toInt16.toInt32)), .val (.long (((cz.toInt16.toInt32).toInt64) - (lo.toInt64))), .second, .unset] [])) _
      refine XS.iconst X11.here hx rfl (hb hby at_179) ?_
      show Steps p.tables e below (T11.setTop (mkF m 180 #[.val (.int p0), .val (.int p1), .val (.int p2), .val (.int p3), .val (.int (p0 &&& (32767 : Int32))), .val (.int (p1 &&& (32767 : Int32))), .val (.int lo), .val (.int hi), .val (.ref b7), .val (.int (p2 &&& (7 : Int32))), .val (.int cz), .val (.int (cz.toInt16.toInt32)), .val (.long (((cz.toInt16.toInt32).toInt64) - (lo.toInt64))), .second, .unset] [(.int (0 : Int32))])) _
      refine XS.istore X11.here hx rfl (hb hby at_180) rfl (l' := #[.val (.int p0), .val (.int p1), .val (.int p2), .val (.int p3), .val (.int (p0 &&& (32767 : Int32))), .val (.int (p1 &&& (32767 : Int32))), .val (.int lo), .val (.int hi), .val (.ref b7), .val (.int (p2 &&& (7 : Int32))), .val (.int cz), .val (.int (cz.toInt16.toInt32)), .val (.long (((cz.toInt16.toInt32).toInt64) - (lo.toInt64))), .second, .val (.int (0 : Int32))]) rfl ?_
      show Steps p.tables e below (T11.setTop (mkF m 182 #[.val (.int p0), .val (.int p1), .val (.int p2), .val (.int p3), .val (.int (p0 &&& (32767 : Int32))), .val (.int (p1 &&& (32767 : Int32))), .val (.int lo), .val (.int hi), .val (.ref b7), .val (.int (p2 &&& (7 : Int32))), .val (.int cz), .val (.int (cz.toInt16.toInt32)), .val (.long (((cz.toInt16.toInt32).toInt64) - (lo.toInt64))), .second, .val (.int (0 : Int32))] [])) _
      refine XS.aload X11.here hx rfl (hb hby at_182) rfl rfl ?_
      show Steps p.tables e below (T11.setTop (mkF m 184 #[.val (.int p0), .val (.int p1), .val (.int p2), .val (.int p3), .val (.int (p0 &&& (32767 : Int32))), .val (.int (p1 &&& (32767 : Int32))), .val (.int lo), .val (.int hi), .val (.ref b7), .val (.int (p2 &&& (7 : Int32))), .val (.int cz), .val (.int (cz.toInt16.toInt32)), .val (.long (((cz.toInt16.toInt32).toInt64) - (lo.toInt64))), .second, .val (.int (0 : Int32))] [(.ref b7)])) _
      refine XS.iload X11.here hx rfl (hb hby at_184) rfl ?_
      show Steps p.tables e below (T11.setTop (mkF m 186 #[.val (.int p0), .val (.int p1), .val (.int p2), .val (.int p3), .val (.int (p0 &&& (32767 : Int32))), .val (.int (p1 &&& (32767 : Int32))), .val (.int lo), .val (.int hi), .val (.ref b7), .val (.int (p2 &&& (7 : Int32))), .val (.int cz), .val (.int (cz.toInt16.toInt32)), .val (.long (((cz.toInt16.toInt32).toInt64) - (lo.toInt64))), .second, .val (.int (0 : Int32))] [(.int (cz.toInt16.toInt32)), (.ref b7)])) _
      refine st28.trans ?_
      show Steps p.tables e below (T28.setTop (mkF m 189 #[.val (.int p0), .val (.int p1), .val (.int p2), .val (.int p3), .val (.int (p0 &&& (32767 : Int32))), .val (.int (p1 &&& (32767 : Int32))), .val (.int lo), .val (.int hi), .val (.ref b7), .val (.int (p2 &&& (7 : Int32))), .val (.int cz), .val (.int (cz.toInt16.toInt32)), .val (.long (((cz.toInt16.toInt32).toInt64) - (lo.toInt64))), .second, .val (.int (0 : Int32))] [(.int (own_ct (nar .short (lo.toInt16.toInt32)) (nar .short (hi.toInt16.toInt32)) (cz.toInt16.toInt32)))])) _
      refine XS.iload X28.here hx rfl (hb hby at_189) rfl ?_
      show Steps p.tables e below (T28.setTop (mkF m 191 #[.val (.int p0), .val (.int p1), .val (.int p2), .val (.int p3), .val (.int (p0 &&& (32767 : Int32))), .val (.int (p1 &&& (32767 : Int32))), .val (.int lo), .val (.int hi), .val (.ref b7), .val (.int (p2 &&& (7 : Int32))), .val (.int cz), .val (.int (cz.toInt16.toInt32)), .val (.long (((cz.toInt16.toInt32).toInt64) - (lo.toInt64))), .second, .val (.int (0 : Int32))] [(.int (0 : Int32)), (.int (own_ct (nar .short (lo.toInt16.toInt32)) (nar .short (hi.toInt16.toInt32)) (cz.toInt16.toInt32)))])) _
      refine XS.icmpNo X28.here hx rfl (hb hby at_191) rfl (teq (own_a hb0 hb1 hb2 hA)).2 ?_
      show Steps p.tables e below (T28.setTop (mkF m 194 #[.val (.int p0), .val (.int p1), .val (.int p2), .val (.int p3), .val (.int (p0 &&& (32767 : Int32))), .val (.int (p1 &&& (32767 : Int32))), .val (.int lo), .val (.int hi), .val (.ref b7), .val (.int (p2 &&& (7 : Int32))), .val (.int cz), .val (.int (cz.toInt16.toInt32)), .val (.long (((cz.toInt16.toInt32).toInt64) - (lo.toInt64))), .second, .val (.int (0 : Int32))] [])) _
      refine XS.iconst X28.here hx rfl (hb hby at_194) ?_
      show Steps p.tables e below (T28.setTop (mkF m 195 #[.val (.int p0), .val (.int p1), .val (.int p2), .val (.int p3), .val (.int (p0 &&& (32767 : Int32))), .val (.int (p1 &&& (32767 : Int32))), .val (.int lo), .val (.int hi), .val (.ref b7), .val (.int (p2 &&& (7 : Int32))), .val (.int cz), .val (.int (cz.toInt16.toInt32)), .val (.long (((cz.toInt16.toInt32).toInt64) - (lo.toInt64))), .second, .val (.int (0 : Int32))] [(.int (1 : Int32))])) _
      refine XS.goto X28.here hx rfl (pc0 := 195) (pc' := 199) rfl (hb hby at_195) (by decide) (by decide) ?_
      show Steps p.tables e below (T28.setTop (mkF m 199 #[.val (.int p0), .val (.int p1), .val (.int p2), .val (.int p3), .val (.int (p0 &&& (32767 : Int32))), .val (.int (p1 &&& (32767 : Int32))), .val (.int lo), .val (.int hi), .val (.ref b7), .val (.int (p2 &&& (7 : Int32))), .val (.int cz), .val (.int (cz.toInt16.toInt32)), .val (.long (((cz.toInt16.toInt32).toInt64) - (lo.toInt64))), .second, .val (.int (0 : Int32))] [(.int (1 : Int32))])) _
      exact retN X28 hx (t := .boolean) Bd.returns (by simp) (hb hby at_199) hr
    · show Q0 Z p0 p1 p2 p3 h0 n0 _ T28.heap _
      rw [e28]
      exact ⟨rfl, N29⟩
  · have pre27 : ∀ tgt, Steps p.tables e below (T11.setTop (mkF m 172 #[.val (.int p0), .val (.int p1), .val (.int p2), .val (.int p3), .val (.int (p0 &&& (32767 : Int32))), .val (.int (p1 &&& (32767 : Int32))), .val (.int lo), .val (.int hi), .val (.ref b7), .val (.int (p2 &&& (7 : Int32))), .val (.int cz), .val (.int (cz.toInt16.toInt32)), .val (.long (((cz.toInt16.toInt32).toInt64) - (lo.toInt64))), .second, .unset] [(.int (lcmpW (((cz.toInt16.toInt32).toInt64) - (lo.toInt64)) ((hi.toInt64) - (lo.toInt64))))])) tgt → Steps p.tables e below (s₁.setTop (entryFrame m #[(.int p0), (.int p1), (.int p2), (.int p3)] maxLocals)) tgt := fun tgt kt => pre26 _ (by
      show Steps p.tables e below (T11.setTop (mkF m 159 #[.val (.int p0), .val (.int p1), .val (.int p2), .val (.int p3), .val (.int (p0 &&& (32767 : Int32))), .val (.int (p1 &&& (32767 : Int32))), .val (.int lo), .val (.int hi), .val (.ref b7), .val (.int (p2 &&& (7 : Int32))), .val (.int cz), .val (.int (cz.toInt16.toInt32)), .val (.long (((cz.toInt16.toInt32).toInt64) - (lo.toInt64))), .second, .unset] [(.int (lcmpW (((cz.toInt16.toInt32).toInt64) - (lo.toInt64)) (0 : Int64)))])) _
      refine XS.ifNo X11.here hx rfl (hb hby at_159) rfl ((if0 _ _).trans (flt hA).1) ?_
      show Steps p.tables e below (T11.setTop (mkF m 162 #[.val (.int p0), .val (.int p1), .val (.int p2), .val (.int p3), .val (.int (p0 &&& (32767 : Int32))), .val (.int (p1 &&& (32767 : Int32))), .val (.int lo), .val (.int hi), .val (.ref b7), .val (.int (p2 &&& (7 : Int32))), .val (.int cz), .val (.int (cz.toInt16.toInt32)), .val (.long (((cz.toInt16.toInt32).toInt64) - (lo.toInt64))), .second, .unset] [])) _
      refine XS.lload X11.here hx rfl (hb hby at_162) rfl ?_
      show Steps p.tables e below (T11.setTop (mkF m 164 #[.val (.int p0), .val (.int p1), .val (.int p2), .val (.int p3), .val (.int (p0 &&& (32767 : Int32))), .val (.int (p1 &&& (32767 : Int32))), .val (.int lo), .val (.int hi), .val (.ref b7), .val (.int (p2 &&& (7 : Int32))), .val (.int cz), .val (.int (cz.toInt16.toInt32)), .val (.long (((cz.toInt16.toInt32).toInt64) - (lo.toInt64))), .second, .unset] [(.long (((cz.toInt16.toInt32).toInt64) - (lo.toInt64)))])) _
      refine XS.iload X11.here hx rfl (hb hby at_164) rfl ?_
      show Steps p.tables e below (T11.setTop (mkF m 166 #[.val (.int p0), .val (.int p1), .val (.int p2), .val (.int p3), .val (.int (p0 &&& (32767 : Int32))), .val (.int (p1 &&& (32767 : Int32))), .val (.int lo), .val (.int hi), .val (.ref b7), .val (.int (p2 &&& (7 : Int32))), .val (.int cz), .val (.int (cz.toInt16.toInt32)), .val (.long (((cz.toInt16.toInt32).toInt64) - (lo.toInt64))), .second, .unset] [(.int hi), (.long (((cz.toInt16.toInt32).toInt64) - (lo.toInt64)))])) _
      refine XS.i2l X11.here hx rfl (hb hby at_166) rfl ?_
      show Steps p.tables e below (T11.setTop (mkF m 167 #[.val (.int p0), .val (.int p1), .val (.int p2), .val (.int p3), .val (.int (p0 &&& (32767 : Int32))), .val (.int (p1 &&& (32767 : Int32))), .val (.int lo), .val (.int hi), .val (.ref b7), .val (.int (p2 &&& (7 : Int32))), .val (.int cz), .val (.int (cz.toInt16.toInt32)), .val (.long (((cz.toInt16.toInt32).toInt64) - (lo.toInt64))), .second, .unset] [(.long (hi.toInt64)), (.long (((cz.toInt16.toInt32).toInt64) - (lo.toInt64)))])) _
      refine XS.iload X11.here hx rfl (hb hby at_167) rfl ?_
      show Steps p.tables e below (T11.setTop (mkF m 169 #[.val (.int p0), .val (.int p1), .val (.int p2), .val (.int p3), .val (.int (p0 &&& (32767 : Int32))), .val (.int (p1 &&& (32767 : Int32))), .val (.int lo), .val (.int hi), .val (.ref b7), .val (.int (p2 &&& (7 : Int32))), .val (.int cz), .val (.int (cz.toInt16.toInt32)), .val (.long (((cz.toInt16.toInt32).toInt64) - (lo.toInt64))), .second, .unset] [(.int lo), (.long (hi.toInt64)), (.long (((cz.toInt16.toInt32).toInt64) - (lo.toInt64)))])) _
      refine XS.i2l X11.here hx rfl (hb hby at_169) rfl ?_
      show Steps p.tables e below (T11.setTop (mkF m 170 #[.val (.int p0), .val (.int p1), .val (.int p2), .val (.int p3), .val (.int (p0 &&& (32767 : Int32))), .val (.int (p1 &&& (32767 : Int32))), .val (.int lo), .val (.int hi), .val (.ref b7), .val (.int (p2 &&& (7 : Int32))), .val (.int cz), .val (.int (cz.toInt16.toInt32)), .val (.long (((cz.toInt16.toInt32).toInt64) - (lo.toInt64))), .second, .unset] [(.long (lo.toInt64)), (.long (hi.toInt64)), (.long (((cz.toInt16.toInt32).toInt64) - (lo.toInt64)))])) _
      refine XS.lsub X11.here hx rfl (hb hby at_170) rfl ?_
      show Steps p.tables e below (T11.setTop (mkF m 171 #[.val (.int p0), .val (.int p1), .val (.int p2), .val (.int p3), .val (.int (p0 &&& (32767 : Int32))), .val (.int (p1 &&& (32767 : Int32))), .val (.int lo), .val (.int hi), .val (.ref b7), .val (.int (p2 &&& (7 : Int32))), .val (.int cz), .val (.int (cz.toInt16.toInt32)), .val (.long (((cz.toInt16.toInt32).toInt64) - (lo.toInt64))), .second, .unset] [(.long ((hi.toInt64) - (lo.toInt64))), (.long (((cz.toInt16.toInt32).toInt64) - (lo.toInt64)))])) _
      refine XS.lcmp X11.here hx rfl (hb hby at_171) rfl ?_
      exact kt)
    by_cases hB : (0 : Int32) < (lcmpW (((cz.toInt16.toInt32).toInt64) - (lo.toInt64)) ((hi.toInt64) - (lo.toInt64)))
    · obtain ⟨cq30, kq30, q30a, q30b, q30c⟩ := isOf hZ rfl f14
      obtain ⟨_, _, ⟨T30, L30, k30, n30⟩, -, X30, ⟨Lc30, hQ30, l30, y30, z30⟩, st30⟩ := X11.virtualBack hx (y := (⟨"com/example/tidy_commit/tidycommit/wire/VersionRange", "contains", "(S)Z"⟩ : MethodName)) (z := (⟨"com/example/tidy_commit/tidycommit/wire/VersionRange", "contains", "(S)Z"⟩ : MethodName)) hown (mvT hZ (hw _ (List.mem_of_getElem? (i := 25) rfl))) (mvT hZ (hw _ (List.mem_of_getElem? (i := 26) rfl))) (notFace_of_selects (args := #[]) (mvT hZ (hw _ (List.mem_of_getElem? (i := 28) rfl)))) (mvT hZ (hw _ (List.mem_of_getElem? (i := 28) rfl))) (mvT hZ (hw _ (List.mem_of_getElem? (i := 27) rfl))) (by decide) (backOf (W := 0) (rm6 l Z a0 hw [] b7 (cz.toInt16.toInt32) (nar .short (lo.toInt16.toInt32)) (nar .short (hi.toInt16.toInt32)) T11.heap n0 zz15 f12 f13) hZ (hw _ (List.mem_of_getElem? (i := 29) rfl)) (hw _ (List.mem_of_getElem? (i := 9) rfl)) (by decide) (by decide)) q30a q30c (g := (mkF m 186 #[.val (.int p0), .val (.int p1), .val (.int p2), .val (.int p3), .val (.int (p0 &&& (32767 : Int32))), .val (.int (p1 &&& (32767 : Int32))), .val (.int lo), .val (.int hi), .val (.ref b7), .val (.int (p2 &&& (7 : Int32))), .val (.int cz), .val (.int (cz.toInt16.toInt32)), .val (.long (((cz.toInt16.toInt32).toInt64) - (lo.toInt64))), .second, .val (.int (0 : Int32))] [(.int (cz.toInt16.toInt32)), (.ref b7)])) rfl (by rw [hml]; rfl) (Steps.refl _) (argsL := [(.int (cz.toInt16.toInt32))]) (rest := []) (lenOf pd_3 rfl) rfl (by show 2 * 0 + _ ≤ _; exact Nat.le_of_eq rfl) (hb hby at_186) (fun _ _ => ⟨rfl, rfl, (by decide : 1 + 0 ≤ _), (by decide : 2 + 0 ≤ _)⟩)
      dsimp only [Pt.U, Pt.locs, Pt.cells, Pt.slots] at X30 l30 y30 z30 st30 hQ30
      subst l30 y30 z30
      obtain ⟨rfl, Nq30, e30⟩ := hQ30
      have N31 := Fr.app N16 Nq30
      obtain ⟨fs, hr, hrun, hended, hW, hsame⟩ := X30.leave (v := some (.int (1 : Int32))) (fun h => by rw [Bd.returns] at h; cases h)
      refine ⟨_, _, pre27 _ ?_, hrun, hended, _, _, rfl, ?_, ⟨_, rfl⟩, hW, hsame.mono (by decide) (by decide)⟩
      · show Steps p.tables e below (T11.setTop (mkF m 172 #[.val (.int p0), .val (.int p1), .val (.int p2), .val (.int p3), .val (.int (p0 &&& (32767 : Int32))), .val (.int (p1 &&& (32767 : Int32))), .val (.int lo), .val (.int hi), .val (.ref b7), .val (.int (p2 &&& (7 : Int32))), .val (.int cz), .val (.int (cz.toInt16.toInt32)), .val (.long (((cz.toInt16.toInt32).toInt64) - (lo.toInt64))), .second, .unset] [(.int (lcmpW (((cz.toInt16.toInt32).toInt64) - (lo.toInt64)) ((hi.toInt64) - (lo.toInt64))))])) _
        refine XS.ifYes X11.here hx rfl (pc0 := 172) (pc' := 179) rfl (hb hby at_172) rfl ((if0 _ _).trans (tlt hB).2.2.1) (by decide) (by decide) ?_
        show Steps p.tables e below (T11.setTop (mkF m 179 #[.val (.int p0), .val (.int p1), .val (.int p2), .val (.int p3), .val (.int (p0 &&& (32767 : Int32))), .val (.int (p1 &&& (32767 : Int32))), .val (.int lo), .val (.int hi), .val (.ref b7), .val (.int (p2 &&& (7 : Int32))), .val (.int cz), .val (.int (cz.toInt16.toInt32)), .val (.long (((cz.toInt16.toInt32).toInt64) - (lo.toInt64))), .second, .unset] [])) _
        refine XS.iconst X11.here hx rfl (hb hby at_179) ?_
        show Steps p.tables e below (T11.setTop (mkF m 180 #[.val (.int p0), .val (.int p1), .val (.int p2), .val (.int p3), .val (.int (p0 &&& (32767 : Int32))), .val (.int (p1 &&& (32767 : Int32))), .val (.int lo), .val (.int hi), .val (.ref b7), .val (.int (p2 &&& (7 : Int32))), .val (.int cz), .val (.int (cz.toInt16.toInt32)), .val (.long (((cz.toInt16.toInt32).toInt64) - (lo.toInt64))), .second, .unset] [(.int (0 : Int32))])) _
        refine XS.istore X11.here hx rfl (hb hby at_180) rfl (l' := #[.val (.int p0), .val (.int p1), .val (.int p2), .val (.int p3), .val (.int (p0 &&& (32767 : Int32))), .val (.int (p1 &&& (32767 : Int32))), .val (.int lo), .val (.int hi), .val (.ref b7), .val (.int (p2 &&& (7 : Int32))), .val (.int cz), .val (.int (cz.toInt16.toInt32)), .val (.long (((cz.toInt16.toInt32).toInt64) - (lo.toInt64))), .second, .val (.int (0 : Int32))]) rfl ?_
        show Steps p.tables e below (T11.setTop (mkF m 182 #[.val (.int p0), .val (.int p1), .val (.int p2), .val (.int p3), .val (.int (p0 &&& (32767 : Int32))), .val (.int (p1 &&& (32767 : Int32))), .val (.int lo), .val (.int hi), .val (.ref b7), .val (.int (p2 &&& (7 : Int32))), .val (.int cz), .val (.int (cz.toInt16.toInt32)), .val (.long (((cz.toInt16.toInt32).toInt64) - (lo.toInt64))), .second, .val (.int (0 : Int32))] [])) _
        refine XS.aload X11.here hx rfl (hb hby at_182) rfl rfl ?_
        show Steps p.tables e below (T11.setTop (mkF m 184 #[.val (.int p0), .val (.int p1), .val (.int p2), .val (.int p3), .val (.int (p0 &&& (32767 : Int32))), .val (.int (p1 &&& (32767 : Int32))), .val (.int lo), .val (.int hi), .val (.ref b7), .val (.int (p2 &&& (7 : Int32))), .val (.int cz), .val (.int (cz.toInt16.toInt32)), .val (.long (((cz.toInt16.toInt32).toInt64) - (lo.toInt64))), .second, .val (.int (0 : Int32))] [(.ref b7)])) _
        refine XS.iload X11.here hx rfl (hb hby at_184) rfl ?_
        show Steps p.tables e below (T11.setTop (mkF m 186 #[.val (.int p0), .val (.int p1), .val (.int p2), .val (.int p3), .val (.int (p0 &&& (32767 : Int32))), .val (.int (p1 &&& (32767 : Int32))), .val (.int lo), .val (.int hi), .val (.ref b7), .val (.int (p2 &&& (7 : Int32))), .val (.int cz), .val (.int (cz.toInt16.toInt32)), .val (.long (((cz.toInt16.toInt32).toInt64) - (lo.toInt64))), .second, .val (.int (0 : Int32))] [(.int (cz.toInt16.toInt32)), (.ref b7)])) _
        refine st30.trans ?_
        show Steps p.tables e below (T30.setTop (mkF m 189 #[.val (.int p0), .val (.int p1), .val (.int p2), .val (.int p3), .val (.int (p0 &&& (32767 : Int32))), .val (.int (p1 &&& (32767 : Int32))), .val (.int lo), .val (.int hi), .val (.ref b7), .val (.int (p2 &&& (7 : Int32))), .val (.int cz), .val (.int (cz.toInt16.toInt32)), .val (.long (((cz.toInt16.toInt32).toInt64) - (lo.toInt64))), .second, .val (.int (0 : Int32))] [(.int (own_ct (nar .short (lo.toInt16.toInt32)) (nar .short (hi.toInt16.toInt32)) (cz.toInt16.toInt32)))])) _
        refine XS.iload X30.here hx rfl (hb hby at_189) rfl ?_
        show Steps p.tables e below (T30.setTop (mkF m 191 #[.val (.int p0), .val (.int p1), .val (.int p2), .val (.int p3), .val (.int (p0 &&& (32767 : Int32))), .val (.int (p1 &&& (32767 : Int32))), .val (.int lo), .val (.int hi), .val (.ref b7), .val (.int (p2 &&& (7 : Int32))), .val (.int cz), .val (.int (cz.toInt16.toInt32)), .val (.long (((cz.toInt16.toInt32).toInt64) - (lo.toInt64))), .second, .val (.int (0 : Int32))] [(.int (0 : Int32)), (.int (own_ct (nar .short (lo.toInt16.toInt32)) (nar .short (hi.toInt16.toInt32)) (cz.toInt16.toInt32)))])) _
        refine XS.icmpNo X30.here hx rfl (hb hby at_191) rfl (teq (own_b hb0 hb1 hb2 hB)).2 ?_
        show Steps p.tables e below (T30.setTop (mkF m 194 #[.val (.int p0), .val (.int p1), .val (.int p2), .val (.int p3), .val (.int (p0 &&& (32767 : Int32))), .val (.int (p1 &&& (32767 : Int32))), .val (.int lo), .val (.int hi), .val (.ref b7), .val (.int (p2 &&& (7 : Int32))), .val (.int cz), .val (.int (cz.toInt16.toInt32)), .val (.long (((cz.toInt16.toInt32).toInt64) - (lo.toInt64))), .second, .val (.int (0 : Int32))] [])) _
        refine XS.iconst X30.here hx rfl (hb hby at_194) ?_
        show Steps p.tables e below (T30.setTop (mkF m 195 #[.val (.int p0), .val (.int p1), .val (.int p2), .val (.int p3), .val (.int (p0 &&& (32767 : Int32))), .val (.int (p1 &&& (32767 : Int32))), .val (.int lo), .val (.int hi), .val (.ref b7), .val (.int (p2 &&& (7 : Int32))), .val (.int cz), .val (.int (cz.toInt16.toInt32)), .val (.long (((cz.toInt16.toInt32).toInt64) - (lo.toInt64))), .second, .val (.int (0 : Int32))] [(.int (1 : Int32))])) _
        refine XS.goto X30.here hx rfl (pc0 := 195) (pc' := 199) rfl (hb hby at_195) (by decide) (by decide) ?_
        show Steps p.tables e below (T30.setTop (mkF m 199 #[.val (.int p0), .val (.int p1), .val (.int p2), .val (.int p3), .val (.int (p0 &&& (32767 : Int32))), .val (.int (p1 &&& (32767 : Int32))), .val (.int lo), .val (.int hi), .val (.ref b7), .val (.int (p2 &&& (7 : Int32))), .val (.int cz), .val (.int (cz.toInt16.toInt32)), .val (.long (((cz.toInt16.toInt32).toInt64) - (lo.toInt64))), .second, .val (.int (0 : Int32))] [(.int (1 : Int32))])) _
        exact retN X30 hx (t := .boolean) Bd.returns (by simp) (hb hby at_199) hr
      · show Q0 Z p0 p1 p2 p3 h0 n0 _ T30.heap _
        rw [e30]
        exact ⟨rfl, N31⟩
    · obtain ⟨cq32, kq32, q32a, q32b, q32c⟩ := isOf hZ rfl f14
      obtain ⟨_, _, ⟨T32, L32, k32, n32⟩, -, X32, ⟨Lc32, hQ32, l32, y32, z32⟩, st32⟩ := X11.virtualBack hx (y := (⟨"com/example/tidy_commit/tidycommit/wire/VersionRange", "contains", "(S)Z"⟩ : MethodName)) (z := (⟨"com/example/tidy_commit/tidycommit/wire/VersionRange", "contains", "(S)Z"⟩ : MethodName)) hown (mvT hZ (hw _ (List.mem_of_getElem? (i := 25) rfl))) (mvT hZ (hw _ (List.mem_of_getElem? (i := 26) rfl))) (notFace_of_selects (args := #[]) (mvT hZ (hw _ (List.mem_of_getElem? (i := 28) rfl)))) (mvT hZ (hw _ (List.mem_of_getElem? (i := 28) rfl))) (mvT hZ (hw _ (List.mem_of_getElem? (i := 27) rfl))) (by decide) (backOf (W := 0) (rm6 l Z a0 hw [] b7 (cz.toInt16.toInt32) (nar .short (lo.toInt16.toInt32)) (nar .short (hi.toInt16.toInt32)) T11.heap n0 zz15 f12 f13) hZ (hw _ (List.mem_of_getElem? (i := 29) rfl)) (hw _ (List.mem_of_getElem? (i := 9) rfl)) (by decide) (by decide)) q32a q32c (g := (mkF m 186 #[.val (.int p0), .val (.int p1), .val (.int p2), .val (.int p3), .val (.int (p0 &&& (32767 : Int32))), .val (.int (p1 &&& (32767 : Int32))), .val (.int lo), .val (.int hi), .val (.ref b7), .val (.int (p2 &&& (7 : Int32))), .val (.int cz), .val (.int (cz.toInt16.toInt32)), .val (.long (((cz.toInt16.toInt32).toInt64) - (lo.toInt64))), .second, .val (.int (1 : Int32))] [(.int (cz.toInt16.toInt32)), (.ref b7)])) rfl (by rw [hml]; rfl) (Steps.refl _) (argsL := [(.int (cz.toInt16.toInt32))]) (rest := []) (lenOf pd_3 rfl) rfl (by show 2 * 0 + _ ≤ _; exact Nat.le_of_eq rfl) (hb hby at_186) (fun _ _ => ⟨rfl, rfl, (by decide : 1 + 0 ≤ _), (by decide : 2 + 0 ≤ _)⟩)
      dsimp only [Pt.U, Pt.locs, Pt.cells, Pt.slots] at X32 l32 y32 z32 st32 hQ32
      subst l32 y32 z32
      obtain ⟨rfl, Nq32, e32⟩ := hQ32
      have N33 := Fr.app N16 Nq32
      obtain ⟨fs, hr, hrun, hended, hW, hsame⟩ := X32.leave (v := some (.int (1 : Int32))) (fun h => by rw [Bd.returns] at h; cases h)
      refine ⟨_, _, pre27 _ ?_, hrun, hended, _, _, rfl, ?_, ⟨_, rfl⟩, hW, hsame.mono (by decide) (by decide)⟩
      · show Steps p.tables e below (T11.setTop (mkF m 172 #[.val (.int p0), .val (.int p1), .val (.int p2), .val (.int p3), .val (.int (p0 &&& (32767 : Int32))), .val (.int (p1 &&& (32767 : Int32))), .val (.int lo), .val (.int hi), .val (.ref b7), .val (.int (p2 &&& (7 : Int32))), .val (.int cz), .val (.int (cz.toInt16.toInt32)), .val (.long (((cz.toInt16.toInt32).toInt64) - (lo.toInt64))), .second, .unset] [(.int (lcmpW (((cz.toInt16.toInt32).toInt64) - (lo.toInt64)) ((hi.toInt64) - (lo.toInt64))))])) _
        refine XS.ifNo X11.here hx rfl (hb hby at_172) rfl ((if0 _ _).trans (flt hB).2.2.1) ?_
        show Steps p.tables e below (T11.setTop (mkF m 175 #[.val (.int p0), .val (.int p1), .val (.int p2), .val (.int p3), .val (.int (p0 &&& (32767 : Int32))), .val (.int (p1 &&& (32767 : Int32))), .val (.int lo), .val (.int hi), .val (.ref b7), .val (.int (p2 &&& (7 : Int32))), .val (.int cz), .val (.int (cz.toInt16.toInt32)), .val (.long (((cz.toInt16.toInt32).toInt64) - (lo.toInt64))), .second, .unset] [])) _
        refine XS.iconst X11.here hx rfl (hb hby at_175) ?_
        show Steps p.tables e below (T11.setTop (mkF m 176 #[.val (.int p0), .val (.int p1), .val (.int p2), .val (.int p3), .val (.int (p0 &&& (32767 : Int32))), .val (.int (p1 &&& (32767 : Int32))), .val (.int lo), .val (.int hi), .val (.ref b7), .val (.int (p2 &&& (7 : Int32))), .val (.int cz), .val (.int (cz.toInt16.toInt32)), .val (.long (((cz.toInt16.toInt32).toInt64) - (lo.toInt64))), .second, .unset] [(.int (1 : Int32))])) _
        refine XS.goto X11.here hx rfl (pc0 := 176) (pc' := 180) rfl (hb hby at_176) (by decide) (by decide) ?_
        show Steps p.tables e below (T11.setTop (mkF m 180 #[.val (.int p0), .val (.int p1), .val (.int p2), .val (.int p3), .val (.int (p0 &&& (32767 : Int32))), .val (.int (p1 &&& (32767 : Int32))), .val (.int lo), .val (.int hi), .val (.ref b7), .val (.int (p2 &&& (7 : Int32))), .val (.int cz), .val (.int (cz.toInt16.toInt32)), .val (.long (((cz.toInt16.toInt32).toInt64) - (lo.toInt64))), .second, .unset] [(.int (1 : Int32))])) _
        refine XS.istore X11.here hx rfl (hb hby at_180) rfl (l' := #[.val (.int p0), .val (.int p1), .val (.int p2), .val (.int p3), .val (.int (p0 &&& (32767 : Int32))), .val (.int (p1 &&& (32767 : Int32))), .val (.int lo), .val (.int hi), .val (.ref b7), .val (.int (p2 &&& (7 : Int32))), .val (.int cz), .val (.int (cz.toInt16.toInt32)), .val (.long (((cz.toInt16.toInt32).toInt64) - (lo.toInt64))), .second, .val (.int (1 : Int32))]) rfl ?_
        show Steps p.tables e below (T11.setTop (mkF m 182 #[.val (.int p0), .val (.int p1), .val (.int p2), .val (.int p3), .val (.int (p0 &&& (32767 : Int32))), .val (.int (p1 &&& (32767 : Int32))), .val (.int lo), .val (.int hi), .val (.ref b7), .val (.int (p2 &&& (7 : Int32))), .val (.int cz), .val (.int (cz.toInt16.toInt32)), .val (.long (((cz.toInt16.toInt32).toInt64) - (lo.toInt64))), .second, .val (.int (1 : Int32))] [])) _
        refine XS.aload X11.here hx rfl (hb hby at_182) rfl rfl ?_
        show Steps p.tables e below (T11.setTop (mkF m 184 #[.val (.int p0), .val (.int p1), .val (.int p2), .val (.int p3), .val (.int (p0 &&& (32767 : Int32))), .val (.int (p1 &&& (32767 : Int32))), .val (.int lo), .val (.int hi), .val (.ref b7), .val (.int (p2 &&& (7 : Int32))), .val (.int cz), .val (.int (cz.toInt16.toInt32)), .val (.long (((cz.toInt16.toInt32).toInt64) - (lo.toInt64))), .second, .val (.int (1 : Int32))] [(.ref b7)])) _
        refine XS.iload X11.here hx rfl (hb hby at_184) rfl ?_
        show Steps p.tables e below (T11.setTop (mkF m 186 #[.val (.int p0), .val (.int p1), .val (.int p2), .val (.int p3), .val (.int (p0 &&& (32767 : Int32))), .val (.int (p1 &&& (32767 : Int32))), .val (.int lo), .val (.int hi), .val (.ref b7), .val (.int (p2 &&& (7 : Int32))), .val (.int cz), .val (.int (cz.toInt16.toInt32)), .val (.long (((cz.toInt16.toInt32).toInt64) - (lo.toInt64))), .second, .val (.int (1 : Int32))] [(.int (cz.toInt16.toInt32)), (.ref b7)])) _
        refine st32.trans ?_
        show Steps p.tables e below (T32.setTop (mkF m 189 #[.val (.int p0), .val (.int p1), .val (.int p2), .val (.int p3), .val (.int (p0 &&& (32767 : Int32))), .val (.int (p1 &&& (32767 : Int32))), .val (.int lo), .val (.int hi), .val (.ref b7), .val (.int (p2 &&& (7 : Int32))), .val (.int cz), .val (.int (cz.toInt16.toInt32)), .val (.long (((cz.toInt16.toInt32).toInt64) - (lo.toInt64))), .second, .val (.int (1 : Int32))] [(.int (own_ct (nar .short (lo.toInt16.toInt32)) (nar .short (hi.toInt16.toInt32)) (cz.toInt16.toInt32)))])) _
        refine XS.iload X32.here hx rfl (hb hby at_189) rfl ?_
        show Steps p.tables e below (T32.setTop (mkF m 191 #[.val (.int p0), .val (.int p1), .val (.int p2), .val (.int p3), .val (.int (p0 &&& (32767 : Int32))), .val (.int (p1 &&& (32767 : Int32))), .val (.int lo), .val (.int hi), .val (.ref b7), .val (.int (p2 &&& (7 : Int32))), .val (.int cz), .val (.int (cz.toInt16.toInt32)), .val (.long (((cz.toInt16.toInt32).toInt64) - (lo.toInt64))), .second, .val (.int (1 : Int32))] [(.int (1 : Int32)), (.int (own_ct (nar .short (lo.toInt16.toInt32)) (nar .short (hi.toInt16.toInt32)) (cz.toInt16.toInt32)))])) _
        refine XS.icmpNo X32.here hx rfl (hb hby at_191) rfl (teq (own_c hb0 hb1 hb2 hA hB)).2 ?_
        show Steps p.tables e below (T32.setTop (mkF m 194 #[.val (.int p0), .val (.int p1), .val (.int p2), .val (.int p3), .val (.int (p0 &&& (32767 : Int32))), .val (.int (p1 &&& (32767 : Int32))), .val (.int lo), .val (.int hi), .val (.ref b7), .val (.int (p2 &&& (7 : Int32))), .val (.int cz), .val (.int (cz.toInt16.toInt32)), .val (.long (((cz.toInt16.toInt32).toInt64) - (lo.toInt64))), .second, .val (.int (1 : Int32))] [])) _
        refine XS.iconst X32.here hx rfl (hb hby at_194) ?_
        show Steps p.tables e below (T32.setTop (mkF m 195 #[.val (.int p0), .val (.int p1), .val (.int p2), .val (.int p3), .val (.int (p0 &&& (32767 : Int32))), .val (.int (p1 &&& (32767 : Int32))), .val (.int lo), .val (.int hi), .val (.ref b7), .val (.int (p2 &&& (7 : Int32))), .val (.int cz), .val (.int (cz.toInt16.toInt32)), .val (.long (((cz.toInt16.toInt32).toInt64) - (lo.toInt64))), .second, .val (.int (1 : Int32))] [(.int (1 : Int32))])) _
        refine XS.goto X32.here hx rfl (pc0 := 195) (pc' := 199) rfl (hb hby at_195) (by decide) (by decide) ?_
        show Steps p.tables e below (T32.setTop (mkF m 199 #[.val (.int p0), .val (.int p1), .val (.int p2), .val (.int p3), .val (.int (p0 &&& (32767 : Int32))), .val (.int (p1 &&& (32767 : Int32))), .val (.int lo), .val (.int hi), .val (.ref b7), .val (.int (p2 &&& (7 : Int32))), .val (.int cz), .val (.int (cz.toInt16.toInt32)), .val (.long (((cz.toInt16.toInt32).toInt64) - (lo.toInt64))), .second, .val (.int (1 : Int32))] [(.int (1 : Int32))])) _
        exact retN X32 hx (t := .boolean) Bd.returns (by simp) (hb hby at_199) hr
      · show Q0 Z p0 p1 p2 p3 h0 n0 _ T32.heap _
        rw [e32]
        exact ⟨rfl, N33⟩
set_option maxHeartbeats 40000000 in
theorem comes_1 {Post : Tables → Env → Array Value → State → Outcome → State → Prop} (hpost : ∀ tb e args s v u, (limb_1_1.after args s (.returned v) u = true ∧ limb_1_2.after args s (.returned v) u = true ∧ True) → FrameEnd s (.returned v) u (Jvm.fieldLocs frame_1_writes args s ++ Jvm.arrayLocs frame_1_arrays args s ++ Jvm.staticLocs frame_1_statics s) 16 128 → Post tb e args s (.returned v) u) :
    ArmFor flags0 classFile x code maxLocals ret World_1 tables_1 room_1 Calls_1 rest_1 Pre_1 Post := by
  intro l hfl _ _ p e ha hc hk s m args below hf hA hF happ hP
  obtain ⟨hcalls, hrest, hpre⟩ := hP
  obtain ⟨-, -, -, hnamed, -, -, -, hat⟩ := (Spec.applies_iff hf).mp happ
  obtain ⟨hg, hn⟩ := and_e (Cond.before_iff.mp (show (Jvm.Cond.and given_1 narrow_1).before args s = true from hpre))
  obtain ⟨g1, g2⟩ := and_e hg
  obtain ⟨g3, g4⟩ := and_e g2
  obtain ⟨g5, g6⟩ := and_e g4
  obtain ⟨g7, g8⟩ := and_e g6
  obtain ⟨w0, w1, w2, w3, rfl⟩ : ∃ w0 w1 w2 w3 : Value, args = #[w0, w1, w2, w3] := by
    have hs : args.size = 4 := by simpa [Cond.value, given_1] using g1
    obtain ⟨L⟩ := args
    match L, hs with
    | [w0, w1, w2, w3], _ => exact ⟨w0, w1, w2, w3, rfl⟩
  have hw := fun d (hd : d ∈ tables_1) => atoms_spec (ws := Jvm.Cond.code x code maxLocals ret :: tables_1) hat d (List.mem_cons_of_mem _ hd)
  have hfit : Fit s := fun {y c} hc i hi => by
    obtain ⟨ha, rfl⟩ := Array.getElem?_eq_some_iff.mp hc
    have q := List.all_eq_true.mp ((Array.all_eq_true_iff_forall_mem.mp hF) _ (Array.getElem_mem ha)) i (List.mem_range.mpr hi)
    simpa [Array.getElem?_eq_getElem hi] using q
  obtain ⟨i0, ei0⟩ := is_v g3
  obtain rfl : w0 = (.int i0) := Option.some.inj ei0
  obtain ⟨i1, ei1⟩ := is_v g5
  obtain rfl : w1 = (.int i1) := Option.some.inj ei1
  obtain ⟨i2, ei2⟩ := is_v g7
  obtain rfl : w2 = (.int i2) := Option.some.inj ei2
  obtain ⟨i3, ei3⟩ := is_v g8
  obtain rfl : w3 = (.int i3) := Option.some.inj ei3
  obtain ⟨n, o, h1, h2, h3, _, L, rfl, ⟨rfl, N⟩, hq⟩ := rm0 l s _ hw tables_1 i0 i1 i2 i3  s.heap s.heap.size (Nat.le_refl _)  p e ha hc hk s m _ below hf ((Spec.applies_iff_loose hf).mp happ).1 ⟨rfl, State.Warmed39.refl s, rfl⟩ trivial
  refine ⟨n, _, h1, h2, h3, hpost _ _ _ _ _ _ ⟨Cond.after_iff.mpr rfl, Cond.after_iff.mpr (eq_i res_at (Term.int_eval (1)) rfl), trivial⟩ ⟨hq.1, hq.2.1, (hq.2.2.sift fun y hy => Or.inr (N y hy)).mono (by decide) (by decide)⟩⟩
theorem main_1_1 : Claimed_1_1 := comes_1 fun _ _ _ _ _ _ h hF => ⟨h.1, hF⟩
theorem main_1_2 : Claimed_1_2 := comes_1 fun _ _ _ _ _ _ h hF => ⟨h.2.1, hF⟩
end Jvm.Pilot.@@N@@
namespace Jvm.Pilot.@@N@@
open Jvm Jvm.ClassFile Sem Op Lib Jvm.Free Jvm.Stand Jvm.Pilot.@@N@@.Jvm.D
/-! MADE BY PROGRAM (witnessworld.py) out of the Statement's table words and the real class files: 9 classes; the members and pool entries that the words name. The judged class is class 1, her method 1. -/
namespace start1
open Jvm.ClassFile
def u (s : String) : CpInfo := .utf8 (stringToUtf16 s)
/-- a pool by its gaps: so many unusable entries, then the entry; so many at the end -/
def gap : Nat → List CpInfo → List CpInfo
  | 0, r => r
  | n + 1, r => .unusable :: gap n r
def poolList (es : List (Nat × CpInfo)) (last : Nat) : List CpInfo := es.foldr (fun e r => gap e.1 (e.2 :: r)) (gap last [])
def pool (es : List (Nat × CpInfo)) (last : Nat) : Array CpInfo := ⟨poolList es last⟩
def fileOf (pool : Array CpInfo) (this : Nat) (attrs : Array Attribute := #[]) (ms : Array MethodInfo := #[]) (fl : Nat := 33) (sup : Nat := 0) (ifs : Array Nat := #[]) (fds : Array FieldInfo := #[]) : ClassFile where
  minorVersion := 0
  majorVersion := 65
  constantPool := pool
  accessFlags := fl
  thisClass := this
  superClass := sup
  interfaces := ifs
  fields := fds
  methods := ms
  attributes := attrs
def plain (name : String) (sup : Option ClassId) : Class where
  name := name
  kind := .ordinary
  loader := none
  accessFlags := 33
  super := sup
  interfaces := #[]
  cf := none
  fields := #[]
  methods := #[]
  instanceTypes := #[]
  staticTypes := #[]
  resolved := #[]
  callSites := []
  init := .initialized
  statics := none
  mirror := none

def pool0 : Array CpInfo := pool [(5, u "<init>"), (0, u "()V"), (1, .class_ 10), (1, u "java/lang/Object")] 113

def k0c0 : Code := { maxStack := 0, maxLocals := 1, code := object_method_1_code, exceptionTable := #[], attributes := #[] }
def k0m0 : Method := { name := "<init>", desc := "()V", sig := { parameters := [], returnType := none }, accessFlags := 1, code := some k0c0 }
/-- java/lang/Object -/
def k0 : Class := { plain "java/lang/Object" none with
  accessFlags := 33
  interfaces := #[]
  cf := some (fileOf pool0 8 #[] #[{ accessFlags := 1, nameIndex := 5, descriptorIndex := 6, attributes := #[] }] 33 0 #[] #[])
  fields := #[]
  methods := #[k0m0]
  instanceTypes := #[]
  staticTypes := #[]
  resolved := Array.replicate 124 none
  statics := none }

def pool1 : Array CpInfo := pool [(2, .class_ 4), (1, u "java/lang/Object"), (0, u "<init>"), (0, u "()V"), (0, .methodref 8 9), (0, .class_ 10), (0, .nameAndType 11 12), (0, u "java/lang/Math"), (0, u "min"), (0, u "(II)I"), (0, .methodref 8 14), (0, .nameAndType 15 12), (0, u "max"), (0, .class_ 17), (0, u "com/example/tidy_commit/tidycommit/wire/VersionRange"), (0, .methodref 16 19), (0, .nameAndType 5 20), (0, u "(SS)V"), (0, .methodref 16 22), (0, .nameAndType 23 24), (0, u "contains"), (0, u "(S)Z"), (0, .class_ 26), (0, u "com/example/tidy_commit/tidycommit/wire/VersionRangeContainsPinLaw"), (2, u "law"), (0, u "(IIII)Z")] 3

def k1m0 : Method := { name := "<init>", desc := "()V", sig := { parameters := [], returnType := none }, accessFlags := 1, code := none }
def k1c1 : Code := { maxStack := 6, maxLocals := 15, code := code, exceptionTable := #[], attributes := #[] }
def k1m1 : Method := { name := "law", desc := "(IIII)Z", sig := { parameters := [.int, .int, .int, .int], returnType := some .boolean }, accessFlags := 9, code := some k1c1 }
/-- com/example/tidy_commit/tidycommit/wire/VersionRangeContainsPinLaw -/
def k1 : Class := { plain "com/example/tidy_commit/tidycommit/wire/VersionRangeContainsPinLaw" (some 0) with
  accessFlags := 49
  interfaces := #[]
  cf := some (fileOf pool1 25 #[] #[{ accessFlags := 1, nameIndex := 5, descriptorIndex := 6, attributes := #[] }, { accessFlags := 9, nameIndex := 29, descriptorIndex := 30, attributes := #[] }] 49 2 #[] #[])
  fields := #[]
  methods := #[k1m0, k1m1]
  instanceTypes := #[]
  staticTypes := #[]
  resolved := Array.replicate 34 none
  statics := none }

def pool2 : Array CpInfo := pool [(1, .class_ 2), (0, u "java/lang/Math"), (1, .class_ 6), (1, u "java/lang/Object"), (0, u "<init>"), (0, u "()V"), (89, .class_ 100), (1, u "java/lang/Math$RandomNumberGeneratorHolder"), (71, u "negativeZeroFloatBits"), (0, u "J"), (2, u "negativeZeroDoubleBits"), (21, u "max"), (2, u "min"), (43, u "$assertionsDisabled"), (0, u "Z"), (88, u "(II)I"), (2, u "twoToTheDoubleScaleDown"), (0, u "D"), (4, u "twoToTheDoubleScaleUp"), (9, u "E"), (3, u "PI"), (2, u "TAU"), (2, u "DEGREES_TO_RADIANS"), (0, u "RADIANS_TO_DEGREES")] 94

def k2m0 : Method := { name := "<init>", desc := "()V", sig := { parameters := [], returnType := none }, accessFlags := 2, code := none }
def k2c1 : Code := { maxStack := 2, maxLocals := 2, code := jdk_29_method_65_code, exceptionTable := #[], attributes := #[] }
def k2m1 : Method := { name := "max", desc := "(II)I", sig := { parameters := [.int, .int], returnType := some .int }, accessFlags := 9, code := some k2c1 }
def k2c2 : Code := { maxStack := 2, maxLocals := 2, code := jdk_29_method_69_code, exceptionTable := #[], attributes := #[] }
def k2m2 : Method := { name := "min", desc := "(II)I", sig := { parameters := [.int, .int], returnType := some .int }, accessFlags := 9, code := some k2c2 }
/-- java/lang/Math -/
def k2 : Class := { plain "java/lang/Math" (some 0) with
  accessFlags := 49
  interfaces := #[]
  cf := some (fileOf pool2 1 #[.nestMembers #[98]] #[{ accessFlags := 2, nameIndex := 7, descriptorIndex := 8, attributes := #[] }, { accessFlags := 9, nameIndex := 198, descriptorIndex := 335, attributes := #[] }, { accessFlags := 9, nameIndex := 201, descriptorIndex := 335, attributes := #[] }] 49 4 #[] #[{ accessFlags := 25, nameIndex := 354, descriptorIndex := 339, attributes := #[] }, { accessFlags := 25, nameIndex := 358, descriptorIndex := 339, attributes := #[] }, { accessFlags := 25, nameIndex := 361, descriptorIndex := 339, attributes := #[] }, { accessFlags := 26, nameIndex := 364, descriptorIndex := 339, attributes := #[] }, { accessFlags := 26, nameIndex := 365, descriptorIndex := 339, attributes := #[] }, { accessFlags := 26, nameIndex := 172, descriptorIndex := 173, attributes := #[] }, { accessFlags := 26, nameIndex := 176, descriptorIndex := 173, attributes := #[] }, { accessFlags := 8, nameIndex := 344, descriptorIndex := 339, attributes := #[] }, { accessFlags := 8, nameIndex := 338, descriptorIndex := 339, attributes := #[] }, { accessFlags := 4120, nameIndex := 245, descriptorIndex := 246, attributes := #[] }])
  fields := #[{ name := "E", type := .double, accessFlags := 25, slot := 0, constantValue := 0 }, { name := "PI", type := .double, accessFlags := 25, slot := 1, constantValue := 0 }, { name := "TAU", type := .double, accessFlags := 25, slot := 2, constantValue := 0 }, { name := "DEGREES_TO_RADIANS", type := .double, accessFlags := 26, slot := 3, constantValue := 0 }, { name := "RADIANS_TO_DEGREES", type := .double, accessFlags := 26, slot := 4, constantValue := 0 }, { name := "negativeZeroFloatBits", type := .long, accessFlags := 26, slot := 5, constantValue := 0 }, { name := "negativeZeroDoubleBits", type := .long, accessFlags := 26, slot := 6, constantValue := 0 }, { name := "twoToTheDoubleScaleUp", type := .double, accessFlags := 8, slot := 7, constantValue := 0 }, { name := "twoToTheDoubleScaleDown", type := .double, accessFlags := 8, slot := 8, constantValue := 0 }, { name := "$assertionsDisabled", type := .boolean, accessFlags := 4120, slot := 9, constantValue := 0 }]
  methods := #[k2m0, k2m1, k2m2]
  instanceTypes := #[]
  staticTypes := #[.double, .double, .double, .double, .double, .long, .long, .double, .double, .boolean]
  resolved := Array.replicate 460 none
  statics := none }

def pool3 : Array CpInfo := pool [(1, .methodref 2 3), (0, .class_ 4), (0, .nameAndType 5 6), (0, u "java/lang/Object"), (0, u "<init>"), (0, u "()V"), (0, .class_ 8), (0, u "java/lang/Record")] 13

def k3c0 : Code := { maxStack := 1, maxLocals := 1, code := jdk_30_method_1_code, exceptionTable := #[], attributes := #[] }
def k3m0 : Method := { name := "<init>", desc := "()V", sig := { parameters := [], returnType := none }, accessFlags := 4, code := some k3c0 }
/-- java/lang/Record -/
def k3 : Class := { plain "java/lang/Record" (some 0) with
  accessFlags := 1057
  interfaces := #[]
  cf := some (fileOf pool3 7 #[] #[{ accessFlags := 4, nameIndex := 5, descriptorIndex := 6, attributes := #[] }] 1057 2 #[] #[])
  fields := #[]
  methods := #[k3m0]
  instanceTypes := #[]
  staticTypes := #[]
  resolved := Array.replicate 22 none
  statics := none }

def pool4 : Array CpInfo := pool [(1, .methodref 2 3), (0, .class_ 4), (0, .nameAndType 5 6), (0, u "java/lang/Record"), (0, u "<init>"), (0, u "()V"), (9, .fieldref 17 18), (0, .class_ 19), (0, .nameAndType 20 21), (0, u "com/example/tidy_commit/tidycommit/wire/VersionRange"), (0, u "min"), (0, u "S"), (0, .fieldref 17 23), (0, .nameAndType 24 21), (0, u "max"), (2, u "(SS)V"), (2, u "contains"), (0, u "(S)Z")] 58

def k4c0 : Code := { maxStack := 4, maxLocals := 3, code := prog_169_method_1_code, exceptionTable := #[], attributes := #[] }
def k4m0 : Method := { name := "<init>", desc := "(SS)V", sig := { parameters := [.short, .short], returnType := none }, accessFlags := 1, code := some k4c0 }
def k4c1 : Code := { maxStack := 2, maxLocals := 2, code := prog_169_method_3_code, exceptionTable := #[], attributes := #[] }
def k4m1 : Method := { name := "contains", desc := "(S)Z", sig := { parameters := [.short], returnType := some .boolean }, accessFlags := 1, code := some k4c1 }
/-- com/example/tidy_commit/tidycommit/wire/VersionRange -/
def k4 : Class := { plain "com/example/tidy_commit/tidycommit/wire/VersionRange" (some 3) with
  accessFlags := 49
  interfaces := #[]
  cf := some (fileOf pool4 17 #[] #[{ accessFlags := 1, nameIndex := 5, descriptorIndex := 27, attributes := #[] }, { accessFlags := 1, nameIndex := 30, descriptorIndex := 31, attributes := #[] }] 49 2 #[] #[{ accessFlags := 18, nameIndex := 20, descriptorIndex := 21, attributes := #[] }, { accessFlags := 18, nameIndex := 24, descriptorIndex := 21, attributes := #[] }])
  fields := #[{ name := "min", type := .short, accessFlags := 18, slot := 0, constantValue := 0 }, { name := "max", type := .short, accessFlags := 18, slot := 1, constantValue := 0 }]
  methods := #[k4m0, k4m1]
  instanceTypes := #[.short, .short]
  staticTypes := #[]
  resolved := Array.replicate 90 none
  statics := none }

def pool5 : Array CpInfo := pool [(1, u "java/lang/Cloneable"), (0, .class_ 1), (0, u "java/lang/Object"), (0, .class_ 3)] 3

/-- java/lang/Cloneable -/
def k5 : Class := { plain "java/lang/Cloneable" (some 0) with
  accessFlags := 1537
  interfaces := #[]
  cf := some (fileOf pool5 2 #[] #[] 1537 4 #[] #[])
  fields := #[]
  methods := #[]
  instanceTypes := #[]
  staticTypes := #[]
  resolved := Array.replicate 8 none
  statics := none }

def pool6 : Array CpInfo := pool [(1, u "java/io/Serializable"), (0, .class_ 1), (0, u "java/lang/Object"), (0, .class_ 3)] 3

/-- java/io/Serializable -/
def k6 : Class := { plain "java/io/Serializable" (some 0) with
  accessFlags := 1537
  interfaces := #[]
  cf := some (fileOf pool6 2 #[] #[] 1537 4 #[] #[])
  fields := #[]
  methods := #[]
  instanceTypes := #[]
  staticTypes := #[]
  resolved := Array.replicate 8 none
  statics := none }

/-- the primitive byte -/
def k7 : Class := { plain "byte" none with kind := .primitive 'B', accessFlags := 0x411 }
/-- [B -/
def k8 : Class := { plain "[B" (some 0) with kind := .array 7 .byte, interfaces := #[5, 6], accessFlags := 1041 }

def heap : Heap := #[]
def classes : Array Class := #[k0, k1, k2, k3, k4, k5, k6, k7, k8]
def interned : List (Array UInt16 × Addr) := []
def slotsUsed : Nat := 0
def theMethod : MethodId := ⟨1, 1⟩
def args0 : Array Value := #[.int 6, .int 7, .int 8, .int 2]
def aboutOver (below : List Frame) : State where
  vm := { classes := classes, interned := interned.toArray }
  heap := heap
  slotsUsed := slotsUsed
  threads := #[{ frames := .invoking theMethod args0 :: below }]
def below0 : List Frame := [.native { method := ⟨0, 0⟩, args := #[] }]
def about1 : State := aboutOver below0
def p0 : Program := .bare "" "" ""
def e0 : Env := launch0.env 0 0 0
theorem w_frames : about1.frames = Frame.invoking theMethod args0 :: below0 := rfl
set_option maxRecDepth 65536 in
theorem w_args : argsFit about1.vm theMethod args0 = true := by decide +kernel
set_option maxRecDepth 65536 in
theorem w_heap : heapFits about1 = true := by decide +kernel
set_option maxRecDepth 65536 in
theorem w_runnable : about1.curStatus? = some .runnable := by decide +kernel
set_option maxRecDepth 65536 in
theorem w_alone : about1.alone = true := by decide +kernel
set_option maxRecDepth 65536 in
theorem w_named : about1.methodNamed? x = some theMethod := by decide +kernel
set_option maxRecDepth 65536 in
theorem w_hears : about1.hears theMethod below0 = true := by decide +kernel
set_option maxRecDepth 65536 in
theorem w_ripe : about1.ripe theMethod args0 below0 = true := by decide +kernel
theorem w_running : about1.status = .running := rfl
set_option maxRecDepth 65536 in
theorem w_room : about1.hasRoom e0.platform room_1 = true :=
  launch0.hasRoom_least _ room_1 (by decide +kernel) (by decide +kernel) (by decide +kernel) (by decide +kernel) (by decide +kernel) (by decide +kernel)
theorem allAtoms_all (ts : List Jvm.Cond) (a : Array Jvm.Value) (st : Jvm.State) : (allAtoms ts).before a st = ts.all (fun c => c.before a st) := by
  induction ts with
  | nil => rfl
  | cons c t ih =>
    show (Jvm.Cond.and c (allAtoms t)).before a st = _
    rw [Jvm.Cond.before_and, ih, List.all_cons]
def words1 : List Jvm.Cond := Jvm.Cond.code x code maxLocals ret :: tables_1
/-- a 'code' word, met by the world's own term for the bytes: nothing is compared byte by byte -/
theorem code_word {y : MethodName} {bytes : ByteArray} {mx : Nat} {rt : Option FieldType} {a : Array Value} {s : State} {m : MethodId} {meth : Method} {c : Code} (h1 : s.methodNamed? y = some m) (h2 : s.vm.method? m = some meth) (h3 : meth.code = some c) (h4 : c.code = bytes)
    (h5 : (c.maxLocals == mx && c.exceptionTable.isEmpty && decide (c.maxStack ≤ mostOperands) && decide (meth.sig.returnType = rt) && !meth.locks && decide (parseMethodDescriptor y.desc = some meth.sig)) = true) : (Jvm.Cond.code y bytes mx rt).before a s = true := by
  simp only [Bool.and_eq_true, beq_iff_eq, Bool.not_eq_true', decide_eq_true_eq] at h5
  obtain ⟨⟨⟨⟨⟨g1, g2⟩, g3⟩, g4⟩, g5⟩, g6⟩ := h5
  simp [Cond.before, Cond.holds, Cond.value, h1, h2, h3, h4, g1, g2, g3, g4, g5, g6]
def isCode : Jvm.Cond → Bool
  | .code _ _ _ _ => true
  | _ => false
theorem all_split {L : List Jvm.Cond} {P : Jvm.Cond → Bool} (h1 : L.all (fun c => isCode c || P c) = true) (h2 : ∀ c ∈ L.filter isCode, P c = true) : L.all P = true := by
  refine List.all_eq_true.mpr fun c hc => ?_
  have h := List.all_eq_true.mp h1 c hc
  rcases Bool.eq_false_or_eq_true (isCode c) with hi | hi
  · exact h2 c (List.mem_filter.mpr ⟨hc, hi⟩)
  · simpa [hi] using h
set_option maxRecDepth 65536 in
theorem w_c0 : (Jvm.Cond.code x code maxLocals ret).before args0 about1 = true := code_word (m := ⟨1, 1⟩) (meth := k1m1) (c := k1c1) (by decide +kernel) rfl rfl rfl (by decide +kernel)
set_option maxRecDepth 65536 in
theorem w_c1 : (Jvm.Cond.code ({ cls := "java/lang/Math", name := "min", desc := "(II)I" } : Jvm.MethodName) jdk_29_method_69_code (2 : Nat) (Option.some Jvm.ClassFile.FieldType.int)).before args0 about1 = true := code_word (m := ⟨2, 2⟩) (meth := k2m2) (c := k2c2) (by decide +kernel) rfl rfl rfl (by decide +kernel)
set_option maxRecDepth 65536 in
theorem w_c2 : (Jvm.Cond.code ({ cls := "java/lang/Math", name := "max", desc := "(II)I" } : Jvm.MethodName) jdk_29_method_65_code (2 : Nat) (Option.some Jvm.ClassFile.FieldType.int)).before args0 about1 = true := code_word (m := ⟨2, 1⟩) (meth := k2m1) (c := k2c1) (by decide +kernel) rfl rfl rfl (by decide +kernel)
set_option maxRecDepth 65536 in
theorem w_c3 : (Jvm.Cond.code ({ cls := "com/example/tidy_commit/tidycommit/wire/VersionRange", name := "<init>", desc := "(SS)V" } : Jvm.MethodName) prog_169_method_1_code (3 : Nat) (Option.none : Option Jvm.ClassFile.FieldType)).before args0 about1 = true := code_word (m := ⟨4, 0⟩) (meth := k4m0) (c := k4c0) (by decide +kernel) rfl rfl rfl (by decide +kernel)
set_option maxRecDepth 65536 in
theorem w_c4 : (Jvm.Cond.code ({ cls := "java/lang/Record", name := "<init>", desc := "()V" } : Jvm.MethodName) jdk_30_method_1_code (1 : Nat) (Option.none : Option Jvm.ClassFile.FieldType)).before args0 about1 = true := code_word (m := ⟨3, 0⟩) (meth := k3m0) (c := k3c0) (by decide +kernel) rfl rfl rfl (by decide +kernel)
set_option maxRecDepth 65536 in
theorem w_c5 : (Jvm.Cond.code ({ cls := "java/lang/Object", name := "<init>", desc := "()V" } : Jvm.MethodName) object_method_1_code (1 : Nat) (Option.none : Option Jvm.ClassFile.FieldType)).before args0 about1 = true := code_word (m := ⟨0, 0⟩) (meth := k0m0) (c := k0c0) (by decide +kernel) rfl rfl rfl (by decide +kernel)
set_option maxRecDepth 65536 in
theorem w_c6 : (Jvm.Cond.code ({ cls := "com/example/tidy_commit/tidycommit/wire/VersionRange", name := "contains", desc := "(S)Z" } : Jvm.MethodName) prog_169_method_3_code (2 : Nat) (Option.some Jvm.ClassFile.FieldType.boolean)).before args0 about1 = true := code_word (m := ⟨4, 1⟩) (meth := k4m1) (c := k4c1) (by decide +kernel) rfl rfl rfl (by decide +kernel)
def codes1 : List Jvm.Cond := [Jvm.Cond.code x code maxLocals ret, Jvm.Cond.code ({ cls := "java/lang/Math", name := "min", desc := "(II)I" } : Jvm.MethodName) jdk_29_method_69_code (2 : Nat) (Option.some Jvm.ClassFile.FieldType.int), Jvm.Cond.code ({ cls := "java/lang/Math", name := "max", desc := "(II)I" } : Jvm.MethodName) jdk_29_method_65_code (2 : Nat) (Option.some Jvm.ClassFile.FieldType.int), Jvm.Cond.code ({ cls := "com/example/tidy_commit/tidycommit/wire/VersionRange", name := "<init>", desc := "(SS)V" } : Jvm.MethodName) prog_169_method_1_code (3 : Nat) (Option.none : Option Jvm.ClassFile.FieldType), Jvm.Cond.code ({ cls := "java/lang/Record", name := "<init>", desc := "()V" } : Jvm.MethodName) jdk_30_method_1_code (1 : Nat) (Option.none : Option Jvm.ClassFile.FieldType), Jvm.Cond.code ({ cls := "java/lang/Object", name := "<init>", desc := "()V" } : Jvm.MethodName) object_method_1_code (1 : Nat) (Option.none : Option Jvm.ClassFile.FieldType), Jvm.Cond.code ({ cls := "com/example/tidy_commit/tidycommit/wire/VersionRange", name := "contains", desc := "(S)Z" } : Jvm.MethodName) prog_169_method_3_code (2 : Nat) (Option.some Jvm.ClassFile.FieldType.boolean)]
set_option maxRecDepth 65536 in
theorem codes_eq : words1.filter isCode = codes1 := rfl
theorem w_codes : ∀ c ∈ words1.filter isCode, c.before args0 about1 = true := by
  rw [codes_eq]
  intro c hc
  simp only [codes1, List.mem_cons, List.not_mem_nil, or_false] at hc
  rcases hc with rfl | rfl | rfl | rfl | rfl | rfl | rfl
  · exact w_c0
  · exact w_c1
  · exact w_c2
  · exact w_c3
  · exact w_c4
  · exact w_c5
  · exact w_c6
set_option maxRecDepth 65536 in
theorem w_t1 : (words1.take 24).all (fun c => isCode c || c.before args0 about1) = true := by decide +kernel
set_option maxRecDepth 65536 in
theorem w_t2 : (words1.drop 24).all (fun c => isCode c || c.before args0 about1) = true := by decide +kernel
theorem w_tables : (allAtoms (Jvm.Cond.code x code maxLocals ret :: tables_1)).before args0 about1 = true := by
  rw [allAtoms_all]
  show words1.all (fun c => c.before args0 about1) = true
  refine all_split ?_ w_codes
  rw [← List.take_append_drop 24 words1, List.all_append, w_t1, w_t2]
  rfl
set_option maxRecDepth 65536 in
theorem w_case : (Jvm.Cond.and given_1 narrow_1).before args0 about1 = true := by decide +kernel
theorem w_applies : (headSpec (Jvm.Cond.code x code maxLocals ret :: tables_1) room_1).applies x e0.platform about1 = true :=
  (Spec.applies_iff w_frames).mpr ⟨w_running, w_runnable, w_alone, w_named, w_hears, w_ripe, w_room, w_tables⟩
theorem atStart : AtStart classFile x code maxLocals ret World_1 tables_1 room_1 Calls_1 rest_1 Pre_1 launch0 p0 e0 about1 theMethod args0 below0 :=
  ⟨lists_1, trivial, launch0.admits_env _ _ _, launch0.least_env, fairChoices_fair.cas, fairChoices_fair.clock, w_frames, w_args, w_heap, w_applies, trivial, trivial, w_case⟩
end start1
theorem witness_1 : WitnessClaimed_1 := ⟨start1.p0, start1.e0, start1.about1, start1.theMethod, start1.args0, start1.below0, start1.atStart⟩
end Jvm.Pilot.@@N@@
