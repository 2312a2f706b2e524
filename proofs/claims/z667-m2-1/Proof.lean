import JvmDerived
import JvmDerived.Pilot.@@N@@Statement
import JvmDerived.Pilot.@@N@@Code
set_option linter.unusedVariables false
set_option linter.unusedSimpArgs false
set_option maxRecDepth 65536
namespace Jvm.RoadKit
open Sem ClassFile Op Lib Jvm.Stand Jvm.Free Jvm.LawKit
section New
variable {p : Program} {l : Launch} {e : Env} {R : Room} {s : State} {m : MethodId} {args : Array Value} {below : List Frame} {meth : Method} {c : Code} {T : State} {locs : List Loc} {cells slots : Nat}
theorem retI (X : Stand p l e R s m args below meth c T locs cells slots) (hx : p.tables.exec = Jvm.exec) {pc : Nat} {Ls : Array Slot} {z : Int32} {rest : List Value} (hret : meth.sig.returnType = some .int) (hd : decode c.code pc = .ok (.ireturn, 1)) {fs : List Frame}
    (hl : ∀ (f : JFrame) (acts : List Action), f.method = m → f.locked = none → f.entered = [] → (doReturn e (T.setTop f) acts (some (.int z))).1 = T.setFrames fs) : Steps p.tables e below (T.setTop (mkF m pc Ls (.int z :: rest))) (T.setFrames fs) := by
  have hm' : T.vm.method? m = some meth := X.method'
  have hn : narrow .int (.int z) = .int z := rfl
  show Steps p.tables e below (T.setTop { method := m, pc := pc, locals := Ls, stack := _ :: rest, locked := none }) _
  jvm_step X.here [X.here.top, hx, hd, hm', hret, hn]
  first | (intro acts; rw [hl _ acts rfl rfl rfl]) | rw [hl _ _ rfl rfl rfl]
  exact Steps.refl _
end New
end Jvm.RoadKit
namespace Jvm.Pilot.@@N@@
open Jvm Jvm.ClassFile Sem Op Lib Jvm.Free Jvm.Stand Jvm.LawKit Jvm.RoadKit Bundle Jvm.Pilot.@@N@@.Jvm.D
theorem d1_0 : decode prog_9_method_3_code 0 = .ok (.iload_n 0, 1) := by decide +kernel
theorem d1_1 : decode prog_9_method_3_code 1 = .ok (.ifCond .lt 12, 3) := by decide +kernel
theorem d1_4 : decode prog_9_method_3_code 4 = .ok (.iload_n 0, 1) := by decide +kernel
theorem d1_5 : decode prog_9_method_3_code 5 = .ok (.iload_n 1, 1) := by decide +kernel
theorem d1_6 : decode prog_9_method_3_code 6 = .ok (.if_icmp .gt 7, 3) := by decide +kernel
theorem d1_9 : decode prog_9_method_3_code 9 = .ok (.iconst 1, 1) := by decide +kernel
theorem d1_10 : decode prog_9_method_3_code 10 = .ok (.goto 4, 3) := by decide +kernel
theorem d1_13 : decode prog_9_method_3_code 13 = .ok (.iconst 0, 1) := by decide +kernel
theorem d1_14 : decode prog_9_method_3_code 14 = .ok (.ireturn, 1) := by decide +kernel
def own_f1_14 (p1 : Int32) (p2 : Int32) (u0 : Int32) : Int32 := (nar .boolean u0)
def own_f1_13 (p1 : Int32) (p2 : Int32) : Int32 := (own_f1_14 p1 p2 (0 : Int32))
def own_f1 (p1 : Int32) (p2 : Int32) : Int32 := (if p1 < (0 : Int32) then (own_f1_13 p1 p2) else (if p2 < p1 then (own_f1_13 p1 p2) else (own_f1_14 p1 p2 (1 : Int32))))
theorem pn_0 : plainName "com/example/link7/link7/rule/RuleBatch" = true := by first | (simp [plainName, overriddenIn]; done) | decide +kernel
theorem ef_rm1 (m : MethodId) (x0 : Int32) (x1 : Int32) : entryFrame m #[(.int x0), (.int x1)] 2 = mkF m 0 #[.val (.int x0), .val (.int x1)] [] := by first | (simp [entryFrame, mkF, argsToLocals, Value.category]; done) | rfl
def Q1 (Z : State) (p1 : Int32) (p2 : Int32) (h0 : Heap) (n0 : Nat) (v : Option Value) (h : Heap) (L : List Loc) : Prop := v = some (.int (own_f1 p1 p2)) ∧ Fr n0 L ∧ h = h0
set_option maxHeartbeats 40000000 in
theorem rm1 (l : Launch) (Z : State) (a0 : Array Value) (hw : ∀ d ∈ tables_1, d.before a0 Z = true) (ws : List Jvm.Cond) (p1 : Int32) (p2 : Int32) (h0 : Heap) (n0 : Nat) (Z0 : n0 ≤ h0.size) :
    MetFree l (⟨"com/example/link7/link7/rule/RuleBatch", "isCode", "(II)Z"⟩ : MethodName) (head1 (Jvm.Cond.code (⟨"com/example/link7/link7/rule/RuleBatch", "isCode", "(II)Z"⟩ : MethodName) prog_9_method_3_code 2 (some .boolean) :: ws) ({ frames := 0, cells := 0, slots := 0, locals := 0 } : Room)) (fun a U => a = #[(.int p1), (.int p2)] ∧ Z.Warmed39 U.vm ∧ U.heap = h0) (fun _ _ _ _ _ => True) (fun _ U o U' => ∃ v L, o = .returned v ∧ Q1 Z p1 p2 h0 n0 v U'.heap L ∧ FrameEnd U o U' L ({ frames := 0, cells := 0, slots := 0, locals := 0 } : Room).cells ({ frames := 0, cells := 0, slots := 0, locals := 0 } : Room).slots) := by
  refine MetFree.of_bodySF (plainFor_of_name pn_0) hisR ?_
  intro p e s m args below meth c s₁ Bd hml0 hP hK
  obtain ⟨rfl, hZ, hh⟩ := hP
  have hx := Bd.exec
  have hby := Bd.bytes
  have hml : c.maxLocals = 2 := hml0
  have hown : s.vm.findClass "com/example/link7/link7/rule/RuleBatch" = some m.cls := findClass_of_methodNamed Bd.named
  have hnm := (name_of_methodNamed Bd.named Bd.method).1
  have X0 : Stand p l e ({ frames := 0, cells := 0, slots := 0, locals := 0 } : Room) s m #[(.int p1), (.int p2)] below meth c s₁ [] 0 0 := Stand.of_body Bd
  have e0 : s₁.heap = h0 := by rw [← hh, Bd.state]; rfl
  have N0 := Fr.nil n0
  have pre0 : ∀ tgt, Steps p.tables e below (s₁.setTop (mkF m 0 #[.val (.int p1), .val (.int p2)] [])) tgt → Steps p.tables e below (s₁.setTop (entryFrame m #[(.int p1), (.int p2)] 2)) tgt := fun tgt k => castTop (ef_rm1 m p1 p2) k
  obtain ⟨fs, hr, hrun, hended, hW, hsame⟩ := X0.leave (v := some (.int (own_f1 p1 p2))) (fun h => by rw [Bd.returns] at h; cases h)
  refine ⟨_, _, pre0 _ ?_, hrun, hended, _, _, rfl, ?_, ⟨_, rfl⟩, hW, hsame.mono (by decide) (by decide)⟩
  · have s_14 : ∀ (u0 : Int32), own_f1_14 p1 p2 u0 = own_f1 p1 p2 → Steps p.tables e below (s₁.setTop (mkF m 14 #[.val (.int p1), .val (.int p2)] [(.int u0)])) (s₁.setFrames fs) := by
      intro u0 hV
      show Steps p.tables e below (s₁.setTop (mkF m 14 #[.val (.int p1), .val (.int p2)] [(.int u0)])) _
      have he : (nar .boolean u0) = own_f1 p1 p2 := Eq.trans (by rw [own_f1_14]) hV
      rw [← he] at hr
      exact retN X0 hx (t := .boolean) Bd.returns (by simp) (hb hby d1_14) hr
    have s_13 : own_f1_13 p1 p2  = own_f1 p1 p2 → Steps p.tables e below (s₁.setTop (mkF m 13 #[.val (.int p1), .val (.int p2)] [])) (s₁.setFrames fs) := by
      intro  hV
      show Steps p.tables e below (s₁.setTop (mkF m 13 #[.val (.int p1), .val (.int p2)] [])) _
      refine XS.iconst X0.here hx rfl (hb hby d1_13) ?_
      exact s_14 (0 : Int32) (Eq.trans (by rw [own_f1_13]) hV)
    have s_0 : own_f1 p1 p2  = own_f1 p1 p2 → Steps p.tables e below (s₁.setTop (mkF m 0 #[.val (.int p1), .val (.int p2)] [])) (s₁.setFrames fs) := by
      intro  hV
      show Steps p.tables e below (s₁.setTop (mkF m 0 #[.val (.int p1), .val (.int p2)] [])) _
      refine XS.iloadN X0.here hx rfl (hb hby d1_0) rfl ?_
      by_cases h1 : p1 < (0 : Int32)
      · show Steps p.tables e below (s₁.setTop (mkF m 1 #[.val (.int p1), .val (.int p2)] [(.int p1)])) _
        refine XS.ifYes X0.here hx rfl (pc0 := 1) (pc' := 13) rfl (hb hby d1_1) rfl ((if0 _ _).trans (tlt h1).1) (by decide) (by decide) ?_
        exact s_13  (Eq.trans (by rw [own_f1, if_pos h1]) hV)
      · show Steps p.tables e below (s₁.setTop (mkF m 1 #[.val (.int p1), .val (.int p2)] [(.int p1)])) _
        refine XS.ifNo X0.here hx rfl (hb hby d1_1) rfl ((if0 _ _).trans (flt h1).1) ?_
        show Steps p.tables e below (s₁.setTop (mkF m 4 #[.val (.int p1), .val (.int p2)] [])) _
        refine XS.iloadN X0.here hx rfl (hb hby d1_4) rfl ?_
        show Steps p.tables e below (s₁.setTop (mkF m 5 #[.val (.int p1), .val (.int p2)] [(.int p1)])) _
        refine XS.iloadN X0.here hx rfl (hb hby d1_5) rfl ?_
        by_cases h6 : p2 < p1
        · show Steps p.tables e below (s₁.setTop (mkF m 6 #[.val (.int p1), .val (.int p2)] [(.int p2), (.int p1)])) _
          refine XS.icmpYes X0.here hx rfl (pc0 := 6) (pc' := 13) rfl (hb hby d1_6) rfl (tlt h6).2.2.1 (by decide) (by decide) ?_
          exact s_13  (Eq.trans (by rw [own_f1, if_neg h1, if_pos h6]) hV)
        · show Steps p.tables e below (s₁.setTop (mkF m 6 #[.val (.int p1), .val (.int p2)] [(.int p2), (.int p1)])) _
          refine XS.icmpNo X0.here hx rfl (hb hby d1_6) rfl (flt h6).2.2.1 ?_
          show Steps p.tables e below (s₁.setTop (mkF m 9 #[.val (.int p1), .val (.int p2)] [])) _
          refine XS.iconst X0.here hx rfl (hb hby d1_9) ?_
          show Steps p.tables e below (s₁.setTop (mkF m 10 #[.val (.int p1), .val (.int p2)] [(.int (1 : Int32))])) _
          refine XS.goto X0.here hx rfl (pc0 := 10) (pc' := 14) rfl (hb hby d1_10) (by decide) (by decide) ?_
          exact s_14 (1 : Int32) (Eq.trans (by rw [own_f1, if_neg h1, if_neg h6]) hV)
    exact s_0 rfl
  · show Q1 Z p1 p2 h0 n0 _ s₁.heap _
    rw [e0]
    exact ⟨rfl, N0, rfl⟩
theorem d2_0 : decode jdk_29_method_70_code 0 = .ok (.lload_n 0, 1) := by decide +kernel
theorem d2_1 : decode jdk_29_method_70_code 1 = .ok (.lload_n 2, 1) := by decide +kernel
theorem d2_2 : decode jdk_29_method_70_code 2 = .ok (.lcmp, 1) := by decide +kernel
theorem d2_3 : decode jdk_29_method_70_code 3 = .ok (.ifCond .gt 7, 3) := by decide +kernel
theorem d2_10 : decode jdk_29_method_70_code 10 = .ok (.lload_n 2, 1) := by decide +kernel
theorem d2_6 : decode jdk_29_method_70_code 6 = .ok (.lload_n 0, 1) := by decide +kernel
theorem d2_7 : decode jdk_29_method_70_code 7 = .ok (.goto 4, 3) := by decide +kernel
theorem d2_11 : decode jdk_29_method_70_code 11 = .ok (.lreturn, 1) := by decide +kernel
def own_f2_11 (q1 : Int64) (q2 : Int64) (u0 : Int64) : Int64 := u0
def own_f2 (q1 : Int64) (q2 : Int64) : Int64 := (if (0 : Int32) < (lcmpW q1 q2) then (own_f2_11 q1 q2 q2) else (own_f2_11 q1 q2 q1))
theorem ef_rm2 (m : MethodId) (x0 : Int64) (x1 : Int64) : entryFrame m #[(.long x0), (.long x1)] 4 = mkF m 0 #[.val (.long x0), .second, .val (.long x1), .second] [] := by first | (simp [entryFrame, mkF, argsToLocals, Value.category]; done) | rfl
def Q2 (Z : State) (q1 : Int64) (q2 : Int64) (h0 : Heap) (n0 : Nat) (v : Option Value) (h : Heap) (L : List Loc) : Prop := v = some (.long (own_f2 q1 q2)) ∧ Fr n0 L ∧ h = h0
set_option maxHeartbeats 40000000 in
theorem rm2 (l : Launch) (Z : State) (a0 : Array Value) (hw : ∀ d ∈ tables_1, d.before a0 Z = true) (ws : List Jvm.Cond) (q1 : Int64) (q2 : Int64) (h0 : Heap) (n0 : Nat) (Z0 : n0 ≤ h0.size) :
    MetFree l (⟨"java/lang/Math", "min", "(JJ)J"⟩ : MethodName) (head1 (Jvm.Cond.code (⟨"java/lang/Math", "min", "(JJ)J"⟩ : MethodName) jdk_29_method_70_code 4 (some .long) :: ws) ({ frames := 0, cells := 0, slots := 0, locals := 0 } : Room)) (fun a U => a = #[(.long q1), (.long q2)] ∧ Z.Warmed39 U.vm ∧ U.heap = h0) (fun _ _ _ _ _ => True) (fun _ U o U' => ∃ v L, o = .returned v ∧ Q2 Z q1 q2 h0 n0 v U'.heap L ∧ FrameEnd U o U' L ({ frames := 0, cells := 0, slots := 0, locals := 0 } : Room).cells ({ frames := 0, cells := 0, slots := 0, locals := 0 } : Room).slots) := by
  refine MetFree.of_bodySF (Jvm.Free.JP.mathPlain rfl (by decide +kernel)) hisR ?_
  intro p e s m args below meth c s₁ Bd hml0 hP hK
  obtain ⟨rfl, hZ, hh⟩ := hP
  have hx := Bd.exec
  have hby := Bd.bytes
  have hml : c.maxLocals = 4 := hml0
  have hown : s.vm.findClass "java/lang/Math" = some m.cls := findClass_of_methodNamed Bd.named
  have hnm := (name_of_methodNamed Bd.named Bd.method).1
  have X0 : Stand p l e ({ frames := 0, cells := 0, slots := 0, locals := 0 } : Room) s m #[(.long q1), (.long q2)] below meth c s₁ [] 0 0 := Stand.of_body Bd
  have e0 : s₁.heap = h0 := by rw [← hh, Bd.state]; rfl
  have N0 := Fr.nil n0
  have pre0 : ∀ tgt, Steps p.tables e below (s₁.setTop (mkF m 0 #[.val (.long q1), .second, .val (.long q2), .second] [])) tgt → Steps p.tables e below (s₁.setTop (entryFrame m #[(.long q1), (.long q2)] 4)) tgt := fun tgt k => castTop (ef_rm2 m q1 q2) k
  obtain ⟨fs, hr, hrun, hended, hW, hsame⟩ := X0.leave (v := some (.long (own_f2 q1 q2))) (fun h => by rw [Bd.returns] at h; cases h)
  refine ⟨_, _, pre0 _ ?_, hrun, hended, _, _, rfl, ?_, ⟨_, rfl⟩, hW, hsame.mono (by decide) (by decide)⟩
  · have s_11 : ∀ (u0 : Int64), own_f2_11 q1 q2 u0 = own_f2 q1 q2 → Steps p.tables e below (s₁.setTop (mkF m 11 #[.val (.long q1), .second, .val (.long q2), .second] [(.long u0)])) (s₁.setFrames fs) := by
      intro u0 hV
      show Steps p.tables e below (s₁.setTop (mkF m 11 #[.val (.long q1), .second, .val (.long q2), .second] [(.long u0)])) _
      have he : u0 = own_f2 q1 q2 := Eq.trans (by rw [own_f2_11]) hV
      rw [← he] at hr
      exact retOut X0 hx Bd.returns rfl (Or.inr (Or.inl ⟨rfl, rfl, _, rfl⟩)) (hb hby d2_11) hr
    have s_0 : own_f2 q1 q2  = own_f2 q1 q2 → Steps p.tables e below (s₁.setTop (mkF m 0 #[.val (.long q1), .second, .val (.long q2), .second] [])) (s₁.setFrames fs) := by
      intro  hV
      show Steps p.tables e below (s₁.setTop (mkF m 0 #[.val (.long q1), .second, .val (.long q2), .second] [])) _
      refine XS.lloadN X0.here hx rfl (hb hby d2_0) rfl ?_
      show Steps p.tables e below (s₁.setTop (mkF m 1 #[.val (.long q1), .second, .val (.long q2), .second] [(.long q1)])) _
      refine XS.lloadN X0.here hx rfl (hb hby d2_1) rfl ?_
      show Steps p.tables e below (s₁.setTop (mkF m 2 #[.val (.long q1), .second, .val (.long q2), .second] [(.long q2), (.long q1)])) _
      refine XS.lcmp X0.here hx rfl (hb hby d2_2) rfl ?_
      by_cases h3 : (0 : Int32) < (lcmpW q1 q2)
      · show Steps p.tables e below (s₁.setTop (mkF m 3 #[.val (.long q1), .second, .val (.long q2), .second] [(.int (lcmpW q1 q2))])) _
        refine XS.ifYes X0.here hx rfl (pc0 := 3) (pc' := 10) rfl (hb hby d2_3) rfl ((if0 _ _).trans (tlt h3).2.2.1) (by decide) (by decide) ?_
        show Steps p.tables e below (s₁.setTop (mkF m 10 #[.val (.long q1), .second, .val (.long q2), .second] [])) _
        refine XS.lloadN X0.here hx rfl (hb hby d2_10) rfl ?_
        exact s_11 q2 (Eq.trans (by rw [own_f2, if_pos h3]) hV)
      · show Steps p.tables e below (s₁.setTop (mkF m 3 #[.val (.long q1), .second, .val (.long q2), .second] [(.int (lcmpW q1 q2))])) _
        refine XS.ifNo X0.here hx rfl (hb hby d2_3) rfl ((if0 _ _).trans (flt h3).2.2.1) ?_
        show Steps p.tables e below (s₁.setTop (mkF m 6 #[.val (.long q1), .second, .val (.long q2), .second] [])) _
        refine XS.lloadN X0.here hx rfl (hb hby d2_6) rfl ?_
        show Steps p.tables e below (s₁.setTop (mkF m 7 #[.val (.long q1), .second, .val (.long q2), .second] [(.long q1)])) _
        refine XS.goto X0.here hx rfl (pc0 := 7) (pc' := 11) rfl (hb hby d2_7) (by decide) (by decide) ?_
        exact s_11 q1 (Eq.trans (by rw [own_f2, if_neg h3]) hV)
    exact s_0 rfl
  · show Q2 Z q1 q2 h0 n0 _ s₁.heap _
    rw [e0]
    exact ⟨rfl, N0, rfl⟩
theorem own_lc (x y : Int64) : (lcmpW x y < 0 ↔ x.toInt < y.toInt) ∧ (0 < lcmpW x y ↔ y.toInt < x.toInt) := by
  unfold lcmpW
  constructor <;> (repeat' split) <;> simp_all [Int64.lt_iff_toInt_lt, ← Int64.toInt_inj] <;> omega
theorem own_code (v h : Int32) : own_f1 v h = if 0 ≤ v.toInt ∧ v.toInt ≤ h.toInt then 1 else 0 := by
  simp only [own_f1_14, own_f1_13, own_f1, Int32.lt_iff_toInt_lt, Int32.reduceToInt]
  generalize h.toInt = a
  generalize v.toInt = b
  (repeat' split) <;> first | rfl | omega
theorem own_min (a b : Int64) : (own_f2 a b).toInt = if b.toInt < a.toInt then b.toInt else a.toInt := by
  simp only [own_f2_11, own_f2, (own_lc a b).2]
  split <;> rfl
theorem own_sub (v h : Int32) : (h.toInt64 - v.toInt64).toInt = h.toInt - v.toInt := by
  have h1 := Int32.le_toInt h
  have h2 := Int32.toInt_lt h
  have h3 := Int32.le_toInt v
  have h4 := Int32.toInt_lt v
  rw [Int64.toInt_sub, Int.bmod_def]
  simp only [Int32.toInt_toInt64]
  split <;> omega
theorem own_ref (v h : Int32) : lcmpW (own_f2 v.toInt64 (h.toInt64 - v.toInt64)) 0 < 0 ↔ ¬ (0 ≤ v.toInt ∧ v.toInt ≤ h.toInt) := by
  rw [(own_lc _ _).1, own_min, own_sub]
  simp only [Int32.toInt_toInt64, Int64.reduceToInt]
  split <;> omega
theorem own_a1 {v h : Int32} (q : lcmpW (own_f2 v.toInt64 (h.toInt64 - v.toInt64)) 0 < 0) : own_f1 v h = 0 := by
  rw [own_code, if_neg ((own_ref v h).mp q)]
theorem own_a0 {v h : Int32} (q : ¬ lcmpW (own_f2 v.toInt64 (h.toInt64 - v.toInt64)) 0 < 0) : own_f1 v h = 1 := by
  rw [own_code, if_pos (Decidable.of_not_not fun k => q ((own_ref v h).mpr k))]
theorem own_neg {h : Int32} (q : h < 0) : h.toInt < 0 := by simpa [Int32.lt_iff_toInt_lt] using q
theorem own_pos {h : Int32} (q : ¬ h < 0) : 0 ≤ h.toInt := by simpa [Int32.lt_iff_toInt_lt] using q
theorem own_b1 {h : Int32} (q : h < 0) : own_f1 h h = 0 := by
  have := own_neg q
  rw [own_code, if_neg (by omega)]
theorem own_b0 {h : Int32} (q : ¬ h < 0) : own_f1 h h = 1 := by
  have := own_pos q
  rw [own_code, if_pos (by omega)]
theorem own_c1 {h : Int32} (q : h < 0) : own_f1 0 h = 0 := by
  have := own_neg q
  rw [own_code, if_neg (by simp only [Int32.reduceToInt]; omega)]
theorem own_c0 {h : Int32} (q : ¬ h < 0) : own_f1 0 h = 1 := by
  have := own_pos q
  rw [own_code, if_pos (by simp only [Int32.reduceToInt]; omega)]
theorem own_d {h : Int32} : own_f1 (-1) h = 0 := by
  rw [own_code, if_neg (fun q => absurd q.1 (by decide))]
theorem own_e {h : Int32} : own_f1 (h + 1) h = 0 := by
  have h1 := Int32.le_toInt h
  have h2 := Int32.toInt_lt h
  have hs : (h + 1).toInt = if h.toInt = 2147483647 then -2147483648 else h.toInt + 1 := by
    rw [Int32.toInt_add, Int.bmod_def]
    simp only [Int32.reduceToInt]
    split <;> split <;> omega
  rw [own_code, if_neg (by rw [hs]; split <;> omega)]
theorem pd_0 : parseMethodDescriptor "(II)Z" = some ⟨[.int, .int], some .boolean⟩ := by decide +kernel
theorem pd_1 : parseMethodDescriptor "(JJ)J" = some ⟨[.long, .long], some .long⟩ := by decide +kernel
theorem pn_1 : plainName "com/example/link7/link7/rule/RuleBatchIsCodePinLaw" = true := by first | (simp [plainName, overriddenIn]; done) | decide +kernel
theorem ef_rm0 (m : MethodId) (x0 : Int32) (x1 : Int32) : entryFrame m #[(.int x0), (.int x1)] maxLocals = mkF m 0 #[.val (.int x0), .val (.int x1), .unset, .unset, .unset, .unset, .unset, .unset, .unset, .unset, .unset, .unset] [] := by first | (simp [entryFrame, mkF, argsToLocals, Value.category, maxLocals]; done) | rfl
def Q0 (Z : State) (p0 : Int32) (p1 : Int32) (h0 : Heap) (n0 : Nat) (v : Option Value) (h : Heap) (L : List Loc) : Prop := v = some (.int (1 : Int32)) ∧ Fr n0 L
set_option maxHeartbeats 40000000 in
theorem rm0 (l : Launch) (Z : State) (a0 : Array Value) (hw : ∀ d ∈ tables_1, d.before a0 Z = true) (ws : List Jvm.Cond) (p0 : Int32) (p1 : Int32) (h0 : Heap) (n0 : Nat) (Z0 : n0 ≤ h0.size) :
    MetFree l x (head1 (Jvm.Cond.code x code maxLocals ret :: ws) room_1) (fun a U => a = #[(.int p0), (.int p1)] ∧ Z.Warmed39 U.vm ∧ U.heap = h0) (fun _ _ _ _ _ => True) (fun _ U o U' => ∃ v L, o = .returned v ∧ Q0 Z p0 p1 h0 n0 v U'.heap L ∧ FrameEnd U o U' L room_1.cells room_1.slots) := by
  refine MetFree.of_bodySF (plainFor_of_name pn_1) hisR ?_
  intro p e s m args below meth c s₁ Bd hml0 hP hK
  obtain ⟨rfl, hZ, hh⟩ := hP
  have hx := Bd.exec
  have hby := Bd.bytes
  have hml : c.maxLocals = 12 := hml0
  have hown : s.vm.findClass "com/example/link7/link7/rule/RuleBatchIsCodePinLaw" = some m.cls := findClass_of_methodNamed Bd.named
  have hnm := (name_of_methodNamed Bd.named Bd.method).1
  have X0 : Stand p l e room_1 s m #[(.int p0), (.int p1)] below meth c s₁ [] 0 0 := Stand.of_body Bd
  have e0 : s₁.heap = h0 := by rw [← hh, Bd.state]; rfl
  have N0 := Fr.nil n0
  have pre0 : ∀ tgt, Steps p.tables e below (s₁.setTop (mkF m 0 #[.val (.int p0), .val (.int p1), .unset, .unset, .unset, .unset, .unset, .unset, .unset, .unset, .unset, .unset] [])) tgt → Steps p.tables e below (s₁.setTop (entryFrame m #[(.int p0), (.int p1)] maxLocals)) tgt := fun tgt k => castTop (ef_rm0 m p0 p1) k
  obtain ⟨_, _, ⟨T1, L1, k1, n1⟩, -, X1, ⟨Lc1, hQ1, l1, y1, z1⟩, st1⟩ := Jvm.LawKit.callS X0 hx (y := (⟨"com/example/link7/link7/rule/RuleBatch", "isCode", "(II)Z"⟩ : MethodName)) hown (mvT hZ (hw _ (List.mem_of_getElem? (i := 0) rfl))) (mvT hZ (hw _ (List.mem_of_getElem? (i := 1) rfl))) (mvT hZ (hw _ (List.mem_of_getElem? (i := 2) rfl))) (mvT hZ (hw _ (List.mem_of_getElem? (i := 3) rfl))) (by decide) (backOf (W := 0) (rm1 l Z a0 hw [] p0 p1  h0 n0 Z0 ) hZ (hw _ (List.mem_of_getElem? (i := 3) rfl)) (hw _ (List.mem_of_getElem? (i := 2) rfl)) (by decide) (by decide)) (g := (mkF m 2 #[.val (.int p0), .val (.int p1), .unset, .unset, .unset, .unset, .unset, .unset, .unset, .unset, .unset, .unset] [(.int p1), (.int p0)])) rfl (by rw [hml]; rfl) (argsL := [(.int p0), (.int p1)]) (rest := []) (lenOf pd_0 rfl) rfl (by show 2 * 0 + _ ≤ _; exact Nat.le_of_eq rfl) (hb hby at_2) (fun _ _ => ⟨rfl, e0, (by decide : 0 + 0 ≤ _), (by decide : 0 + 0 ≤ _)⟩)
  dsimp only [Pt.U, Pt.locs, Pt.cells, Pt.slots] at X1 l1 y1 z1 st1 hQ1
  subst l1 y1 z1
  obtain ⟨rfl, Nq1, e1⟩ := hQ1
  have N2 := Fr.app N0 Nq1
  obtain ⟨_, _, ⟨T3, L3, k3, n3⟩, -, X3, ⟨Lc3, hQ3, l3, y3, z3⟩, st3⟩ := Jvm.LawKit.callS X1 hx (y := (⟨"java/lang/Math", "min", "(JJ)J"⟩ : MethodName)) hown (mvT hZ (hw _ (List.mem_of_getElem? (i := 4) rfl))) (mvT hZ (hw _ (List.mem_of_getElem? (i := 5) rfl))) (mvT hZ (hw _ (List.mem_of_getElem? (i := 6) rfl))) (mvT hZ (hw _ (List.mem_of_getElem? (i := 7) rfl))) (by decide) (backOf (W := 0) (rm2 l Z a0 hw [] (p0.toInt64) ((p1.toInt64) - (p0.toInt64))  h0 n0 Z0 ) hZ (hw _ (List.mem_of_getElem? (i := 7) rfl)) (hw _ (List.mem_of_getElem? (i := 6) rfl)) (by decide) (by decide)) (g := (mkF m 19 #[.val (.int p0), .val (.int p1), .val (.int (own_f1 p0 p1)), .val (.long (p0.toInt64)), .second, .val (.long ((p1.toInt64) - (p0.toInt64))), .second, .unset, .unset, .unset, .unset, .unset] [(.long ((p1.toInt64) - (p0.toInt64))), (.long (p0.toInt64))])) rfl (by rw [hml]; rfl) (argsL := [(.long (p0.toInt64)), (.long ((p1.toInt64) - (p0.toInt64)))]) (rest := []) (lenOf pd_1 rfl) rfl (by show 2 * 0 + _ ≤ _; exact Nat.le_of_eq rfl) (hb hby at_19) (fun _ _ => ⟨rfl, e1, (by decide : 0 + 0 ≤ _), (by decide : 0 + 0 ≤ _)⟩)
  dsimp only [Pt.U, Pt.locs, Pt.cells, Pt.slots] at X3 l3 y3 z3 st3 hQ3
  subst l3 y3 z3
  obtain ⟨rfl, Nq3, e3⟩ := hQ3
  have N4 := Fr.app N2 Nq3
  have pre5 : ∀ tgt, Steps p.tables e below (T3.setTop (mkF m 24 #[.val (.int p0), .val (.int p1), .val (.int (own_f1 p0 p1)), .val (.long (p0.toInt64)), .second, .val (.long ((p1.toInt64) - (p0.toInt64))), .second, .unset, .unset, .unset, .unset, .unset] [(.int (lcmpW (own_f2 (p0.toInt64) ((p1.toInt64) - (p0.toInt64))) (0 : Int64)))])) tgt → Steps p.tables e below (s₁.setTop (entryFrame m #[(.int p0), (.int p1)] maxLocals)) tgt := fun tgt kt => pre0 _ (by
    show Steps p.tables e below (s₁.setTop (mkF m 0 #[.val (.int p0), .val (.int p1), .unset, .unset, .unset, .unset, .unset, .unset, .unset, .unset, .unset, .unset] [])) _
    refine XS.iloadN X0.here hx rfl (hb hby at_0) rfl ?_
    show Steps p.tables e below (s₁.setTop (mkF m 1 #[.val (.int p0), .val (.int p1), .unset, .unset, .unset, .unset, .unset, .unset, .unset, .unset, .unset, .unset] [(.int p0)])) _
    refine XS.iloadN X0.here hx rfl (hb hby at_1) rfl ?_
    show Steps p.tables e below (s₁.setTop (mkF m 2 #[.val (.int p0), .val (.int p1), .unset, .unset, .unset, .unset, .unset, .unset, .unset, .unset, .unset, .unset] [(.int p1), (.int p0)])) _
    refine st1 _ ?_
    show Steps p.tables e below (T1.setTop (mkF m 5 #[.val (.int p0), .val (.int p1), .unset, .unset, .unset, .unset, .unset, .unset, .unset, .unset, .unset, .unset] [(.int (own_f1 p0 p1))])) _
    refine XS.istoreN X1.here hx rfl (hb hby at_5) rfl (l' := #[.val (.int p0), .val (.int p1), .val (.int (own_f1 p0 p1)), .unset, .unset, .unset, .unset, .unset, .unset, .unset, .unset, .unset]) rfl ?_
    show Steps p.tables e below (T1.setTop (mkF m 6 #[.val (.int p0), .val (.int p1), .val (.int (own_f1 p0 p1)), .unset, .unset, .unset, .unset, .unset, .unset, .unset, .unset, .unset] [])) _
    refine XS.iloadN X1.here hx rfl (hb hby at_6) rfl ?_
    show Steps p.tables e below (T1.setTop (mkF m 7 #[.val (.int p0), .val (.int p1), .val (.int (own_f1 p0 p1)), .unset, .unset, .unset, .unset, .unset, .unset, .unset, .unset, .unset] [(.int p0)])) _
    refine XS.i2l X1.here hx rfl (hb hby at_7) rfl ?_
    show Steps p.tables e below (T1.setTop (mkF m 8 #[.val (.int p0), .val (.int p1), .val (.int (own_f1 p0 p1)), .unset, .unset, .unset, .unset, .unset, .unset, .unset, .unset, .unset] [(.long (p0.toInt64))])) _
    refine XS.lstoreN X1.here hx rfl (hb hby at_8) rfl (l' := #[.val (.int p0), .val (.int p1), .val (.int (own_f1 p0 p1)), .val (.long (p0.toInt64)), .second, .unset, .unset, .unset, .unset, .unset, .unset, .unset]) rfl ?_
    show Steps p.tables e below (T1.setTop (mkF m 9 #[.val (.int p0), .val (.int p1), .val (.int (own_f1 p0 p1)), .val (.long (p0.toInt64)), .second, .unset, .unset, .unset, .unset, .unset, .unset, .unset] [])) _
    refine XS.iloadN X1.here hx rfl (hb hby at_9) rfl ?_
    show Steps p.tables e below (T1.setTop (mkF m 10 #[.val (.int p0), .val (.int p1), .val (.int (own_f1 p0 p1)), .val (.long (p0.toInt64)), .second, .unset, .unset, .unset, .unset, .unset, .unset, .unset] [(.int p1)])) _
    refine XS.i2l X1.here hx rfl (hb hby at_10) rfl ?_
    show Steps p.tables e below (T1.setTop (mkF m 11 #[.val (.int p0), .val (.int p1), .val (.int (own_f1 p0 p1)), .val (.long (p0.toInt64)), .second, .unset, .unset, .unset, .unset, .unset, .unset, .unset] [(.long (p1.toInt64))])) _
    refine XS.iloadN X1.here hx rfl (hb hby at_11) rfl ?_
    show Steps p.tables e below (T1.setTop (mkF m 12 #[.val (.int p0), .val (.int p1), .val (.int (own_f1 p0 p1)), .val (.long (p0.toInt64)), .second, .unset, .unset, .unset, .unset, .unset, .unset, .unset] [(.int p0), (.long (p1.toInt64))])) _
    refine XS.i2l X1.here hx rfl (hb hby at_12) rfl ?_
    show Steps p.tables e below (T1.setTop (mkF m 13 #[.val (.int p0), .val (.int p1), .val (.int (own_f1 p0 p1)), .val (.long (p0.toInt64)), .second, .unset, .unset, .unset, .unset, .unset, .unset, .unset] [(.long (p0.toInt64)), (.long (p1.toInt64))])) _
    refine XS.lsub X1.here hx rfl (hb hby at_13) rfl ?_
    show Steps p.tables e below (T1.setTop (mkF m 14 #[.val (.int p0), .val (.int p1), .val (.int (own_f1 p0 p1)), .val (.long (p0.toInt64)), .second, .unset, .unset, .unset, .unset, .unset, .unset, .unset] [(.long ((p1.toInt64) - (p0.toInt64)))])) _
    refine XS.lstore X1.here hx rfl (hb hby at_14) rfl (l' := #[.val (.int p0), .val (.int p1), .val (.int (own_f1 p0 p1)), .val (.long (p0.toInt64)), .second, .val (.long ((p1.toInt64) - (p0.toInt64))), .second, .unset, .unset, .unset, .unset, .unset]) rfl ?_
    show Steps p.tables e below (T1.setTop (mkF m 16 #[.val (.int p0), .val (.int p1), .val (.int (own_f1 p0 p1)), .val (.long (p0.toInt64)), .second, .val (.long ((p1.toInt64) - (p0.toInt64))), .second, .unset, .unset, .unset, .unset, .unset] [])) _
    refine XS.lloadN X1.here hx rfl (hb hby at_16) rfl ?_
    show Steps p.tables e below (T1.setTop (mkF m 17 #[.val (.int p0), .val (.int p1), .val (.int (own_f1 p0 p1)), .val (.long (p0.toInt64)), .second, .val (.long ((p1.toInt64) - (p0.toInt64))), .second, .unset, .unset, .unset, .unset, .unset] [(.long (p0.toInt64))])) _
    refine XS.lload X1.here hx rfl (hb hby at_17) rfl ?_
    show Steps p.tables e below (T1.setTop (mkF m 19 #[.val (.int p0), .val (.int p1), .val (.int (own_f1 p0 p1)), .val (.long (p0.toInt64)), .second, .val (.long ((p1.toInt64) - (p0.toInt64))), .second, .unset, .unset, .unset, .unset, .unset] [(.long ((p1.toInt64) - (p0.toInt64))), (.long (p0.toInt64))])) _
    refine st3 _ ?_
    show Steps p.tables e below (T3.setTop (mkF m 22 #[.val (.int p0), .val (.int p1), .val (.int (own_f1 p0 p1)), .val (.long (p0.toInt64)), .second, .val (.long ((p1.toInt64) - (p0.toInt64))), .second, .unset, .unset, .unset, .unset, .unset] [(.long (own_f2 (p0.toInt64) ((p1.toInt64) - (p0.toInt64))))])) _
    refine XS.lconst X3.here hx rfl (hb hby at_22) ?_
    show Steps p.tables e below (T3.setTop (mkF m 23 #[.val (.int p0), .val (.int p1), .val (.int (own_f1 p0 p1)), .val (.long (p0.toInt64)), .second, .val (.long ((p1.toInt64) - (p0.toInt64))), .second, .unset, .unset, .unset, .unset, .unset] [(.long (0 : Int64)), (.long (own_f2 (p0.toInt64) ((p1.toInt64) - (p0.toInt64))))])) _
    refine XS.lcmp X3.here hx rfl (hb hby at_23) rfl ?_
    exact kt)
  by_cases hA : (lcmpW (own_f2 (p0.toInt64) ((p1.toInt64) - (p0.toInt64))) (0 : Int64)) < (0 : Int32)
  · obtain ⟨_, _, ⟨T6, L6, k6, n6⟩, -, X6, ⟨Lc6, hQ6, l6, y6, z6⟩, st6⟩ := Jvm.LawKit.callS X3 hx (y := (⟨"com/example/link7/link7/rule/RuleBatch", "isCode", "(II)Z"⟩ : MethodName)) hown (mvT hZ (hw _ (List.mem_of_getElem? (i := 0) rfl))) (mvT hZ (hw _ (List.mem_of_getElem? (i := 1) rfl))) (mvT hZ (hw _ (List.mem_of_getElem? (i := 2) rfl))) (mvT hZ (hw _ (List.mem_of_getElem? (i := 3) rfl))) (by decide) (backOf (W := 0) (rm1 l Z a0 hw [] p1 p1  h0 n0 Z0 ) hZ (hw _ (List.mem_of_getElem? (i := 3) rfl)) (hw _ (List.mem_of_getElem? (i := 2) rfl)) (by decide) (by decide)) (g := (mkF m 36 #[.val (.int p0), .val (.int p1), .val (.int (own_f1 p0 p1)), .val (.long (p0.toInt64)), .second, .val (.long ((p1.toInt64) - (p0.toInt64))), .second, .val (.int (0 : Int32)), .unset, .unset, .unset, .unset] [(.int p1), (.int p1)])) rfl (by rw [hml]; rfl) (argsL := [(.int p1), (.int p1)]) (rest := []) (lenOf pd_0 rfl) rfl (by show 2 * 0 + _ ≤ _; exact Nat.le_of_eq rfl) (hb hby at_36) (fun _ _ => ⟨rfl, e3, (by decide : 0 + 0 ≤ _), (by decide : 0 + 0 ≤ _)⟩)
    dsimp only [Pt.U, Pt.locs, Pt.cells, Pt.slots] at X6 l6 y6 z6 st6 hQ6
    subst l6 y6 z6
    obtain ⟨rfl, Nq6, e6⟩ := hQ6
    have N7 := Fr.app N4 Nq6
    have pre8 : ∀ tgt, Steps p.tables e below (T6.setTop (mkF m 40 #[.val (.int p0), .val (.int p1), .val (.int (own_f1 p0 p1)), .val (.long (p0.toInt64)), .second, .val (.long ((p1.toInt64) - (p0.toInt64))), .second, .val (.int (0 : Int32)), .unset, .unset, .unset, .unset] [(.int p1), (.int (own_f1 p1 p1))])) tgt → Steps p.tables e below (s₁.setTop (entryFrame m #[(.int p0), (.int p1)] maxLocals)) tgt := fun tgt kt => pre5 _ (by
      show Steps p.tables e below (T3.setTop (mkF m 24 #[.val (.int p0), .val (.int p1), .val (.int (own_f1 p0 p1)), .val (.long (p0.toInt64)), .second, .val (.long ((p1.toInt64) - (p0.toInt64))), .second, .unset, .unset, .unset, .unset, .unset] [(.int (lcmpW (own_f2 (p0.toInt64) ((p1.toInt64) - (p0.toInt64))) (0 : Int64)))])) _
      refine XS.ifYes X3.here hx rfl (pc0 := 24) (pc' := 31) rfl (hb hby at_24) rfl ((if0 _ _).trans (tlt hA).1) (by decide) (by decide) ?_
      show Steps p.tables e below (T3.setTop (mkF m 31 #[.val (.int p0), .val (.int p1), .val (.int (own_f1 p0 p1)), .val (.long (p0.toInt64)), .second, .val (.long ((p1.toInt64) - (p0.toInt64))), .second, .unset, .unset, .unset, .unset, .unset] [])) _
      refine XS.iconst X3.here hx rfl (hb hby at_31) ?_
      show Steps p.tables e below (T3.setTop (mkF m 32 #[.val (.int p0), .val (.int p1), .val (.int (own_f1 p0 p1)), .val (.long (p0.toInt64)), .second, .val (.long ((p1.toInt64) - (p0.toInt64))), .second, .unset, .unset, .unset, .unset, .unset] [(.int (0 : Int32))])) _
      refine XS.istore X3.here hx rfl (hb hby at_32) rfl (l' := #[.val (.int p0), .val (.int p1), .val (.int (own_f1 p0 p1)), .val (.long (p0.toInt64)), .second, .val (.long ((p1.toInt64) - (p0.toInt64))), .second, .val (.int (0 : Int32)), .unset, .unset, .unset, .unset]) rfl ?_
      show Steps p.tables e below (T3.setTop (mkF m 34 #[.val (.int p0), .val (.int p1), .val (.int (own_f1 p0 p1)), .val (.long (p0.toInt64)), .second, .val (.long ((p1.toInt64) - (p0.toInt64))), .second, .val (.int (0 : Int32)), .unset, .unset, .unset, .unset] [])) _
      refine XS.iloadN X3.here hx rfl (hb hby at_34) rfl ?_
      show Steps p.tables e below (T3.setTop (mkF m 35 #[.val (.int p0), .val (.int p1), .val (.int (own_f1 p0 p1)), .val (.long (p0.toInt64)), .second, .val (.long ((p1.toInt64) - (p0.toInt64))), .second, .val (.int (0 : Int32)), .unset, .unset, .unset, .unset] [(.int p1)])) _
      refine XS.iloadN X3.here hx rfl (hb hby at_35) rfl ?_
      show Steps p.tables e below (T3.setTop (mkF m 36 #[.val (.int p0), .val (.int p1), .val (.int (own_f1 p0 p1)), .val (.long (p0.toInt64)), .second, .val (.long ((p1.toInt64) - (p0.toInt64))), .second, .val (.int (0 : Int32)), .unset, .unset, .unset, .unset] [(.int p1), (.int p1)])) _
      refine st6 _ ?_
      show Steps p.tables e below (T6.setTop (mkF m 39 #[.val (.int p0), .val (.int p1), .val (.int (own_f1 p0 p1)), .val (.long (p0.toInt64)), .second, .val (.long ((p1.toInt64) - (p0.toInt64))), .second, .val (.int (0 : Int32)), .unset, .unset, .unset, .unset] [(.int (own_f1 p1 p1))])) _
      refine XS.iloadN X6.here hx rfl (hb hby at_39) rfl ?_
      exact kt)
    by_cases hB : p1 < (0 : Int32)
    · obtain ⟨_, _, ⟨T9, L9, k9, n9⟩, -, X9, ⟨Lc9, hQ9, l9, y9, z9⟩, st9⟩ := Jvm.LawKit.callS X6 hx (y := (⟨"com/example/link7/link7/rule/RuleBatch", "isCode", "(II)Z"⟩ : MethodName)) hown (mvT hZ (hw _ (List.mem_of_getElem? (i := 0) rfl))) (mvT hZ (hw _ (List.mem_of_getElem? (i := 1) rfl))) (mvT hZ (hw _ (List.mem_of_getElem? (i := 2) rfl))) (mvT hZ (hw _ (List.mem_of_getElem? (i := 3) rfl))) (by decide) (backOf (W := 0) (rm1 l Z a0 hw [] (0 : Int32) p1  h0 n0 Z0 ) hZ (hw _ (List.mem_of_getElem? (i := 3) rfl)) (hw _ (List.mem_of_getElem? (i := 2) rfl)) (by decide) (by decide)) (g := (mkF m 60 #[.val (.int p0), .val (.int p1), .val (.int (own_f1 p0 p1)), .val (.long (p0.toInt64)), .second, .val (.long ((p1.toInt64) - (p0.toInt64))), .second, .val (.int (0 : Int32)), .val (.int (1 : Int32)), .unset, .unset, .unset] [(.int p1), (.int (0 : Int32))])) rfl (by rw [hml]; rfl) (argsL := [(.int (0 : Int32)), (.int p1)]) (rest := []) (lenOf pd_0 rfl) rfl (by show 2 * 0 + _ ≤ _; exact Nat.le_of_eq rfl) (hb hby at_60) (fun _ _ => ⟨rfl, e6, (by decide : 0 + 0 ≤ _), (by decide : 0 + 0 ≤ _)⟩)
      dsimp only [Pt.U, Pt.locs, Pt.cells, Pt.slots] at X9 l9 y9 z9 st9 hQ9
      subst l9 y9 z9
      obtain ⟨rfl, Nq9, e9⟩ := hQ9
      have N10 := Fr.app N7 Nq9
      obtain ⟨_, _, ⟨T11, L11, k11, n11⟩, -, X11, ⟨Lc11, hQ11, l11, y11, z11⟩, st11⟩ := Jvm.LawKit.callS X9 hx (y := (⟨"com/example/link7/link7/rule/RuleBatch", "isCode", "(II)Z"⟩ : MethodName)) hown (mvT hZ (hw _ (List.mem_of_getElem? (i := 0) rfl))) (mvT hZ (hw _ (List.mem_of_getElem? (i := 1) rfl))) (mvT hZ (hw _ (List.mem_of_getElem? (i := 2) rfl))) (mvT hZ (hw _ (List.mem_of_getElem? (i := 3) rfl))) (by decide) (backOf (W := 0) (rm1 l Z a0 hw [] (-1 : Int32) p1  h0 n0 Z0 ) hZ (hw _ (List.mem_of_getElem? (i := 3) rfl)) (hw _ (List.mem_of_getElem? (i := 2) rfl)) (by decide) (by decide)) (g := (mkF m 84 #[.val (.int p0), .val (.int p1), .val (.int (own_f1 p0 p1)), .val (.long (p0.toInt64)), .second, .val (.long ((p1.toInt64) - (p0.toInt64))), .second, .val (.int (0 : Int32)), .val (.int (1 : Int32)), .val (.int (1 : Int32)), .unset, .unset] [(.int p1), (.int (-1 : Int32))])) rfl (by rw [hml]; rfl) (argsL := [(.int (-1 : Int32)), (.int p1)]) (rest := []) (lenOf pd_0 rfl) rfl (by show 2 * 0 + _ ≤ _; exact Nat.le_of_eq rfl) (hb hby at_84) (fun _ _ => ⟨rfl, e9, (by decide : 0 + 0 ≤ _), (by decide : 0 + 0 ≤ _)⟩)
      dsimp only [Pt.U, Pt.locs, Pt.cells, Pt.slots] at X11 l11 y11 z11 st11 hQ11
      subst l11 y11 z11
      obtain ⟨rfl, Nq11, e11⟩ := hQ11
      have N12 := Fr.app N10 Nq11
      obtain ⟨_, _, ⟨T13, L13, k13, n13⟩, -, X13, ⟨Lc13, hQ13, l13, y13, z13⟩, st13⟩ := Jvm.LawKit.callS X11 hx (y := (⟨"com/example/link7/link7/rule/RuleBatch", "isCode", "(II)Z"⟩ : MethodName)) hown (mvT hZ (hw _ (List.mem_of_getElem? (i := 0) rfl))) (mvT hZ (hw _ (List.mem_of_getElem? (i := 1) rfl))) (mvT hZ (hw _ (List.mem_of_getElem? (i := 2) rfl))) (mvT hZ (hw _ (List.mem_of_getElem? (i := 3) rfl))) (by decide) (backOf (W := 0) (rm1 l Z a0 hw [] (p1 + (1 : Int32)) p1  h0 n0 Z0 ) hZ (hw _ (List.mem_of_getElem? (i := 3) rfl)) (hw _ (List.mem_of_getElem? (i := 2) rfl)) (by decide) (by decide)) (g := (mkF m 101 #[.val (.int p0), .val (.int p1), .val (.int (own_f1 p0 p1)), .val (.long (p0.toInt64)), .second, .val (.long ((p1.toInt64) - (p0.toInt64))), .second, .val (.int (0 : Int32)), .val (.int (1 : Int32)), .val (.int (1 : Int32)), .val (.int (1 : Int32)), .unset] [(.int p1), (.int (p1 + (1 : Int32)))])) rfl (by rw [hml]; rfl) (argsL := [(.int (p1 + (1 : Int32))), (.int p1)]) (rest := []) (lenOf pd_0 rfl) rfl (by show 2 * 0 + _ ≤ _; exact Nat.le_of_eq rfl) (hb hby at_101) (fun _ _ => ⟨rfl, e11, (by decide : 0 + 0 ≤ _), (by decide : 0 + 0 ≤ _)⟩)
      dsimp only [Pt.U, Pt.locs, Pt.cells, Pt.slots] at X13 l13 y13 z13 st13 hQ13
      subst l13 y13 z13
      obtain ⟨rfl, Nq13, e13⟩ := hQ13
      have N14 := Fr.app N12 Nq13
      obtain ⟨fs, hr, hrun, hended, hW, hsame⟩ := X13.leave (v := some (.int (1 : Int32))) (fun h => by rw [Bd.returns] at h; cases h)
      refine ⟨_, _, pre8 _ ?_, hrun, hended, _, _, rfl, ?_, ⟨_, rfl⟩, hW, hsame.mono (by decide) (by decide)⟩
      · show Steps p.tables e below (T6.setTop (mkF m 40 #[.val (.int p0), .val (.int p1), .val (.int (own_f1 p0 p1)), .val (.long (p0.toInt64)), .second, .val (.long ((p1.toInt64) - (p0.toInt64))), .second, .val (.int (0 : Int32)), .unset, .unset, .unset, .unset] [(.int p1), (.int (own_f1 p1 p1))])) _
        refine XS.ifYes X6.here hx rfl (pc0 := 40) (pc' := 47) rfl (hb hby at_40) rfl ((if0 _ _).trans (tlt hB).1) (by decide) (by decide) ?_
        show Steps p.tables e below (T6.setTop (mkF m 47 #[.val (.int p0), .val (.int p1), .val (.int (own_f1 p0 p1)), .val (.long (p0.toInt64)), .second, .val (.long ((p1.toInt64) - (p0.toInt64))), .second, .val (.int (0 : Int32)), .unset, .unset, .unset, .unset] [(.int (own_f1 p1 p1))])) _
        refine XS.iconst X6.here hx rfl (hb hby at_47) ?_
        show Steps p.tables e below (T6.setTop (mkF m 48 #[.val (.int p0), .val (.int p1), .val (.int (own_f1 p0 p1)), .val (.long (p0.toInt64)), .second, .val (.long ((p1.toInt64) - (p0.toInt64))), .second, .val (.int (0 : Int32)), .unset, .unset, .unset, .unset] [(.int (0 : Int32)), (.int (own_f1 p1 p1))])) _
        refine XS.icmpNo X6.here hx rfl (hb hby at_48) rfl (teq (own_b1 hB)).2 ?_
        show Steps p.tables e below (T6.setTop (mkF m 51 #[.val (.int p0), .val (.int p1), .val (.int (own_f1 p0 p1)), .val (.long (p0.toInt64)), .second, .val (.long ((p1.toInt64) - (p0.toInt64))), .second, .val (.int (0 : Int32)), .unset, .unset, .unset, .unset] [])) _
        refine XS.iconst X6.here hx rfl (hb hby at_51) ?_
        show Steps p.tables e below (T6.setTop (mkF m 52 #[.val (.int p0), .val (.int p1), .val (.int (own_f1 p0 p1)), .val (.long (p0.toInt64)), .second, .val (.long ((p1.toInt64) - (p0.toInt64))), .second, .val (.int (0 : Int32)), .unset, .unset, .unset, .unset] [(.int (1 : Int32))])) _
        refine XS.goto X6.here hx rfl (pc0 := 52) (pc' := 56) rfl (hb hby at_52) (by decide) (by decide) ?_
        show Steps p.tables e below (T6.setTop (mkF m 56 #[.val (.int p0), .val (.int p1), .val (.int (own_f1 p0 p1)), .val (.long (p0.toInt64)), .second, .val (.long ((p1.toInt64) - (p0.toInt64))), .second, .val (.int (0 : Int32)), .unset, .unset, .unset, .unset] [(.int (1 : Int32))])) _
        refine XS.istore X6.here hx rfl (hb hby at_56) rfl (l' := #[.val (.int p0), .val (.int p1), .val (.int (own_f1 p0 p1)), .val (.long (p0.toInt64)), .second, .val (.long ((p1.toInt64) - (p0.toInt64))), .second, .val (.int (0 : Int32)), .val (.int (1 : Int32)), .unset, .unset, .unset]) rfl ?_
        show Steps p.tables e below (T6.setTop (mkF m 58 #[.val (.int p0), .val (.int p1), .val (.int (own_f1 p0 p1)), .val (.long (p0.toInt64)), .second, .val (.long ((p1.toInt64) - (p0.toInt64))), .second, .val (.int (0 : Int32)), .val (.int (1 : Int32)), .unset, .unset, .unset] [])) _
        refine XS.iconst X6.here hx rfl (hb hby at_58) ?_
        show Steps p.tables e below (T6.setTop (mkF m 59 #[.val (.int p0), .val (.int p1), .val (.int (own_f1 p0 p1)), .val (.long (p0.toInt64)), .second, .val (.long ((p1.toInt64) - (p0.toInt64))), .second, .val (.int (0 : Int32)), .val (.int (1 : Int32)), .unset, .unset, .unset] [(.int (0 : Int32))])) _
        refine XS.iloadN X6.here hx rfl (hb hby at_59) rfl ?_
        show Steps p.tables e below (T6.setTop (mkF m 60 #[.val (.int p0), .val (.int p1), .val (.int (own_f1 p0 p1)), .val (.long (p0.toInt64)), .second, .val (.long ((p1.toInt64) - (p0.toInt64))), .second, .val (.int (0 : Int32)), .val (.int (1 : Int32)), .unset, .unset, .unset] [(.int p1), (.int (0 : Int32))])) _
        refine st9 _ ?_
        show Steps p.tables e below (T9.setTop (mkF m 63 #[.val (.int p0), .val (.int p1), .val (.int (own_f1 p0 p1)), .val (.long (p0.toInt64)), .second, .val (.long ((p1.toInt64) - (p0.toInt64))), .second, .val (.int (0 : Int32)), .val (.int (1 : Int32)), .unset, .unset, .unset] [(.int (own_f1 (0 : Int32) p1))])) _
        refine XS.iloadN X9.here hx rfl (hb hby at_63) rfl ?_
        show Steps p.tables e below (T9.setTop (mkF m 64 #[.val (.int p0), .val (.int p1), .val (.int (own_f1 p0 p1)), .val (.long (p0.toInt64)), .second, .val (.long ((p1.toInt64) - (p0.toInt64))), .second, .val (.int (0 : Int32)), .val (.int (1 : Int32)), .unset, .unset, .unset] [(.int p1), (.int (own_f1 (0 : Int32) p1))])) _
        refine XS.ifYes X9.here hx rfl (pc0 := 64) (pc' := 71) rfl (hb hby at_64) rfl ((if0 _ _).trans (tlt hB).1) (by decide) (by decide) ?_
        show Steps p.tables e below (T9.setTop (mkF m 71 #[.val (.int p0), .val (.int p1), .val (.int (own_f1 p0 p1)), .val (.long (p0.toInt64)), .second, .val (.long ((p1.toInt64) - (p0.toInt64))), .second, .val (.int (0 : Int32)), .val (.int (1 : Int32)), .unset, .unset, .unset] [(.int (own_f1 (0 : Int32) p1))])) _
        refine XS.iconst X9.here hx rfl (hb hby at_71) ?_
        show Steps p.tables e below (T9.setTop (mkF m 72 #[.val (.int p0), .val (.int p1), .val (.int (own_f1 p0 p1)), .val (.long (p0.toInt64)), .second, .val (.long ((p1.toInt64) - (p0.toInt64))), .second, .val (.int (0 : Int32)), .val (.int (1 : Int32)), .unset, .unset, .unset] [(.int (0 : Int32)), (.int (own_f1 (0 : Int32) p1))])) _
        refine XS.icmpNo X9.here hx rfl (hb hby at_72) rfl (teq (own_c1 hB)).2 ?_
        show Steps p.tables e below (T9.setTop (mkF m 75 #[.val (.int p0), .val (.int p1), .val (.int (own_f1 p0 p1)), .val (.long (p0.toInt64)), .second, .val (.long ((p1.toInt64) - (p0.toInt64))), .second, .val (.int (0 : Int32)), .val (.int (1 : Int32)), .unset, .unset, .unset] [])) _
        refine XS.iconst X9.here hx rfl (hb hby at_75) ?_
        show Steps p.tables e below (T9.setTop (mkF m 76 #[.val (.int p0), .val (.int p1), .val (.int (own_f1 p0 p1)), .val (.long (p0.toInt64)), .second, .val (.long ((p1.toInt64) - (p0.toInt64))), .second, .val (.int (0 : Int32)), .val (.int (1 : Int32)), .unset, .unset, .unset] [(.int (1 : Int32))])) _
        refine XS.goto X9.here hx rfl (pc0 := 76) (pc' := 80) rfl (hb hby at_76) (by decide) (by decide) ?_
        show Steps p.tables e below (T9.setTop (mkF m 80 #[.val (.int p0), .val (.int p1), .val (.int (own_f1 p0 p1)), .val (.long (p0.toInt64)), .second, .val (.long ((p1.toInt64) - (p0.toInt64))), .second, .val (.int (0 : Int32)), .val (.int (1 : Int32)), .unset, .unset, .unset] [(.int (1 : Int32))])) _
        refine XS.istore X9.here hx rfl (hb hby at_80) rfl (l' := #[.val (.int p0), .val (.int p1), .val (.int (own_f1 p0 p1)), .val (.long (p0.toInt64)), .second, .val (.long ((p1.toInt64) - (p0.toInt64))), .second, .val (.int (0 : Int32)), .val (.int (1 : Int32)), .val (.int (1 : Int32)), .unset, .unset]) rfl ?_
        show Steps p.tables e below (T9.setTop (mkF m 82 #[.val (.int p0), .val (.int p1), .val (.int (own_f1 p0 p1)), .val (.long (p0.toInt64)), .second, .val (.long ((p1.toInt64) - (p0.toInt64))), .second, .val (.int (0 : Int32)), .val (.int (1 : Int32)), .val (.int (1 : Int32)), .unset, .unset] [])) _
        refine XS.iconst X9.here hx rfl (hb hby at_82) ?_
        show Steps p.tables e below (T9.setTop (mkF m 83 #[.val (.int p0), .val (.int p1), .val (.int (own_f1 p0 p1)), .val (.long (p0.toInt64)), .second, .val (.long ((p1.toInt64) - (p0.toInt64))), .second, .val (.int (0 : Int32)), .val (.int (1 : Int32)), .val (.int (1 : Int32)), .unset, .unset] [(.int (-1 : Int32))])) _
        refine XS.iloadN X9.here hx rfl (hb hby at_83) rfl ?_
        show Steps p.tables e below (T9.setTop (mkF m 84 #[.val (.int p0), .val (.int p1), .val (.int (own_f1 p0 p1)), .val (.long (p0.toInt64)), .second, .val (.long ((p1.toInt64) - (p0.toInt64))), .second, .val (.int (0 : Int32)), .val (.int (1 : Int32)), .val (.int (1 : Int32)), .unset, .unset] [(.int p1), (.int (-1 : Int32))])) _
        refine st11 _ ?_
        show Steps p.tables e below (T11.setTop (mkF m 87 #[.val (.int p0), .val (.int p1), .val (.int (own_f1 p0 p1)), .val (.long (p0.toInt64)), .second, .val (.long ((p1.toInt64) - (p0.toInt64))), .second, .val (.int (0 : Int32)), .val (.int (1 : Int32)), .val (.int (1 : Int32)), .unset, .unset] [(.int (own_f1 (-1 : Int32) p1))])) _
        refine XS.ifNo X11.here hx rfl (hb hby at_87) rfl ((if0 _ _).trans (teq own_d).2) ?_
        show Steps p.tables e below (T11.setTop (mkF m 90 #[.val (.int p0), .val (.int p1), .val (.int (own_f1 p0 p1)), .val (.long (p0.toInt64)), .second, .val (.long ((p1.toInt64) - (p0.toInt64))), .second, .val (.int (0 : Int32)), .val (.int (1 : Int32)), .val (.int (1 : Int32)), .unset, .unset] [])) _
        refine XS.iconst X11.here hx rfl (hb hby at_90) ?_
        show Steps p.tables e below (T11.setTop (mkF m 91 #[.val (.int p0), .val (.int p1), .val (.int (own_f1 p0 p1)), .val (.long (p0.toInt64)), .second, .val (.long ((p1.toInt64) - (p0.toInt64))), .second, .val (.int (0 : Int32)), .val (.int (1 : Int32)), .val (.int (1 : Int32)), .unset, .unset] [(.int (1 : Int32))])) _
        refine XS.goto X11.here hx rfl (pc0 := 91) (pc' := 95) rfl (hb hby at_91) (by decide) (by decide) ?_
        show Steps p.tables e below (T11.setTop (mkF m 95 #[.val (.int p0), .val (.int p1), .val (.int (own_f1 p0 p1)), .val (.long (p0.toInt64)), .second, .val (.long ((p1.toInt64) - (p0.toInt64))), .second, .val (.int (0 : Int32)), .val (.int (1 : Int32)), .val (.int (1 : Int32)), .unset, .unset] [(.int (1 : Int32))])) _
        refine XS.istore X11.here hx rfl (hb hby at_95) rfl (l' := #[.val (.int p0), .val (.int p1), .val (.int (own_f1 p0 p1)), .val (.long (p0.toInt64)), .second, .val (.long ((p1.toInt64) - (p0.toInt64))), .second, .val (.int (0 : Int32)), .val (.int (1 : Int32)), .val (.int (1 : Int32)), .val (.int (1 : Int32)), .unset]) rfl ?_
        show Steps p.tables e below (T11.setTop (mkF m 97 #[.val (.int p0), .val (.int p1), .val (.int (own_f1 p0 p1)), .val (.long (p0.toInt64)), .second, .val (.long ((p1.toInt64) - (p0.toInt64))), .second, .val (.int (0 : Int32)), .val (.int (1 : Int32)), .val (.int (1 : Int32)), .val (.int (1 : Int32)), .unset] [])) _
        refine XS.iloadN X11.here hx rfl (hb hby at_97) rfl ?_
        show Steps p.tables e below (T11.setTop (mkF m 98 #[.val (.int p0), .val (.int p1), .val (.int (own_f1 p0 p1)), .val (.long (p0.toInt64)), .second, .val (.long ((p1.toInt64) - (p0.toInt64))), .second, .val (.int (0 : Int32)), .val (.int (1 : Int32)), .val (.int (1 : Int32)), .val (.int (1 : Int32)), .unset] [(.int p1)])) _
        refine XS.iconst X11.here hx rfl (hb hby at_98) ?_
        show Steps p.tables e below (T11.setTop (mkF m 99 #[.val (.int p0), .val (.int p1), .val (.int (own_f1 p0 p1)), .val (.long (p0.toInt64)), .second, .val (.long ((p1.toInt64) - (p0.toInt64))), .second, .val (.int (0 : Int32)), .val (.int (1 : Int32)), .val (.int (1 : Int32)), .val (.int (1 : Int32)), .unset] [(.int (1 : Int32)), (.int p1)])) _
        refine XS.iadd X11.here hx rfl (hb hby at_99) rfl ?_
        show Steps p.tables e below (T11.setTop (mkF m 100 #[.val (.int p0), .val (.int p1), .val (.int (own_f1 p0 p1)), .val (.long (p0.toInt64)), .second, .val (.long ((p1.toInt64) - (p0.toInt64))), .second, .val (.int (0 : Int32)), .val (.int (1 : Int32)), .val (.int (1 : Int32)), .val (.int (1 : Int32)), .unset] [(.int (p1 + (1 : Int32)))])) _
        refine XS.iloadN X11.here hx rfl (hb hby at_100) rfl ?_
        show Steps p.tables e below (T11.setTop (mkF m 101 #[.val (.int p0), .val (.int p1), .val (.int (own_f1 p0 p1)), .val (.long (p0.toInt64)), .second, .val (.long ((p1.toInt64) - (p0.toInt64))), .second, .val (.int (0 : Int32)), .val (.int (1 : Int32)), .val (.int (1 : Int32)), .val (.int (1 : Int32)), .unset] [(.int p1), (.int (p1 + (1 : Int32)))])) _
        refine st13 _ ?_
        show Steps p.tables e below (T13.setTop (mkF m 104 #[.val (.int p0), .val (.int p1), .val (.int (own_f1 p0 p1)), .val (.long (p0.toInt64)), .second, .val (.long ((p1.toInt64) - (p0.toInt64))), .second, .val (.int (0 : Int32)), .val (.int (1 : Int32)), .val (.int (1 : Int32)), .val (.int (1 : Int32)), .unset] [(.int (own_f1 (p1 + (1 : Int32)) p1))])) _
        refine XS.ifNo X13.here hx rfl (hb hby at_104) rfl ((if0 _ _).trans (teq own_e).2) ?_
        show Steps p.tables e below (T13.setTop (mkF m 107 #[.val (.int p0), .val (.int p1), .val (.int (own_f1 p0 p1)), .val (.long (p0.toInt64)), .second, .val (.long ((p1.toInt64) - (p0.toInt64))), .second, .val (.int (0 : Int32)), .val (.int (1 : Int32)), .val (.int (1 : Int32)), .val (.int (1 : Int32)), .unset] [])) _
        refine XS.iconst X13.here hx rfl (hb hby at_107) ?_
        show Steps p.tables e below (T13.setTop (mkF m 108 #[.val (.int p0), .val (.int p1), .val (.int (own_f1 p0 p1)), .val (.long (p0.toInt64)), .second, .val (.long ((p1.toInt64) - (p0.toInt64))), .second, .val (.int (0 : Int32)), .val (.int (1 : Int32)), .val (.int (1 : Int32)), .val (.int (1 : Int32)), .unset] [(.int (1 : Int32))])) _
        refine XS.goto X13.here hx rfl (pc0 := 108) (pc' := 112) rfl (hb hby at_108) (by decide) (by decide) ?_
        show Steps p.tables e below (T13.setTop (mkF m 112 #[.val (.int p0), .val (.int p1), .val (.int (own_f1 p0 p1)), .val (.long (p0.toInt64)), .second, .val (.long ((p1.toInt64) - (p0.toInt64))), .second, .val (.int (0 : Int32)), .val (.int (1 : Int32)), .val (.int (1 : Int32)), .val (.int (1 : Int32)), .unset] [(.int (1 : Int32))])) _
        refine XS.istore X13.here hx rfl (hb hby at_112) rfl (l' := #[.val (.int p0), .val (.int p1), .val (.int (own_f1 p0 p1)), .val (.long (p0.toInt64)), .second, .val (.long ((p1.toInt64) - (p0.toInt64))), .second, .val (.int (0 : Int32)), .val (.int (1 : Int32)), .val (.int (1 : Int32)), .val (.int (1 : Int32)), .val (.int (1 : Int32))]) rfl ?_
        show Steps p.tables e below (T13.setTop (mkF m 114 #[.val (.int p0), .val (.int p1), .val (.int (own_f1 p0 p1)), .val (.long (p0.toInt64)), .second, .val (.long ((p1.toInt64) - (p0.toInt64))), .second, .val (.int (0 : Int32)), .val (.int (1 : Int32)), .val (.int (1 : Int32)), .val (.int (1 : Int32)), .val (.int (1 : Int32))] [])) _
        refine XS.iloadN X13.here hx rfl (hb hby at_114) rfl ?_
        show Steps p.tables e below (T13.setTop (mkF m 115 #[.val (.int p0), .val (.int p1), .val (.int (own_f1 p0 p1)), .val (.long (p0.toInt64)), .second, .val (.long ((p1.toInt64) - (p0.toInt64))), .second, .val (.int (0 : Int32)), .val (.int (1 : Int32)), .val (.int (1 : Int32)), .val (.int (1 : Int32)), .val (.int (1 : Int32))] [(.int (own_f1 p0 p1))])) _
        refine XS.iload X13.here hx rfl (hb hby at_115) rfl ?_
        show Steps p.tables e below (T13.setTop (mkF m 117 #[.val (.int p0), .val (.int p1), .val (.int (own_f1 p0 p1)), .val (.long (p0.toInt64)), .second, .val (.long ((p1.toInt64) - (p0.toInt64))), .second, .val (.int (0 : Int32)), .val (.int (1 : Int32)), .val (.int (1 : Int32)), .val (.int (1 : Int32)), .val (.int (1 : Int32))] [(.int (0 : Int32)), (.int (own_f1 p0 p1))])) _
        refine XS.icmpNo X13.here hx rfl (hb hby at_117) rfl (teq (own_a1 hA)).2 ?_
        show Steps p.tables e below (T13.setTop (mkF m 120 #[.val (.int p0), .val (.int p1), .val (.int (own_f1 p0 p1)), .val (.long (p0.toInt64)), .second, .val (.long ((p1.toInt64) - (p0.toInt64))), .second, .val (.int (0 : Int32)), .val (.int (1 : Int32)), .val (.int (1 : Int32)), .val (.int (1 : Int32)), .val (.int (1 : Int32))] [])) _
        refine XS.iload X13.here hx rfl (hb hby at_120) rfl ?_
        show Steps p.tables e below (T13.setTop (mkF m 122 #[.val (.int p0), .val (.int p1), .val (.int (own_f1 p0 p1)), .val (.long (p0.toInt64)), .second, .val (.long ((p1.toInt64) - (p0.toInt64))), .second, .val (.int (0 : Int32)), .val (.int (1 : Int32)), .val (.int (1 : Int32)), .val (.int (1 : Int32)), .val (.int (1 : Int32))] [(.int (1 : Int32))])) _
        refine XS.ifNo X13.here hx rfl (hb hby at_122) rfl ((if0 _ _).trans (feq (by decide : ¬ ((1 : Int32) = (0 : Int32)))).1) ?_
        show Steps p.tables e below (T13.setTop (mkF m 125 #[.val (.int p0), .val (.int p1), .val (.int (own_f1 p0 p1)), .val (.long (p0.toInt64)), .second, .val (.long ((p1.toInt64) - (p0.toInt64))), .second, .val (.int (0 : Int32)), .val (.int (1 : Int32)), .val (.int (1 : Int32)), .val (.int (1 : Int32)), .val (.int (1 : Int32))] [])) _
        refine XS.iload X13.here hx rfl (hb hby at_125) rfl ?_
        show Steps p.tables e below (T13.setTop (mkF m 127 #[.val (.int p0), .val (.int p1), .val (.int (own_f1 p0 p1)), .val (.long (p0.toInt64)), .second, .val (.long ((p1.toInt64) - (p0.toInt64))), .second, .val (.int (0 : Int32)), .val (.int (1 : Int32)), .val (.int (1 : Int32)), .val (.int (1 : Int32)), .val (.int (1 : Int32))] [(.int (1 : Int32))])) _
        refine XS.ifNo X13.here hx rfl (hb hby at_127) rfl ((if0 _ _).trans (feq (by decide : ¬ ((1 : Int32) = (0 : Int32)))).1) ?_
        show Steps p.tables e below (T13.setTop (mkF m 130 #[.val (.int p0), .val (.int p1), .val (.int (own_f1 p0 p1)), .val (.long (p0.toInt64)), .second, .val (.long ((p1.toInt64) - (p0.toInt64))), .second, .val (.int (0 : Int32)), .val (.int (1 : Int32)), .val (.int (1 : Int32)), .val (.int (1 : Int32)), .val (.int (1 : Int32))] [])) _
        refine XS.iload X13.here hx rfl (hb hby at_130) rfl ?_
        show Steps p.tables e below (T13.setTop (mkF m 132 #[.val (.int p0), .val (.int p1), .val (.int (own_f1 p0 p1)), .val (.long (p0.toInt64)), .second, .val (.long ((p1.toInt64) - (p0.toInt64))), .second, .val (.int (0 : Int32)), .val (.int (1 : Int32)), .val (.int (1 : Int32)), .val (.int (1 : Int32)), .val (.int (1 : Int32))] [(.int (1 : Int32))])) _
        refine XS.ifNo X13.here hx rfl (hb hby at_132) rfl ((if0 _ _).trans (feq (by decide : ¬ ((1 : Int32) = (0 : Int32)))).1) ?_
        show Steps p.tables e below (T13.setTop (mkF m 135 #[.val (.int p0), .val (.int p1), .val (.int (own_f1 p0 p1)), .val (.long (p0.toInt64)), .second, .val (.long ((p1.toInt64) - (p0.toInt64))), .second, .val (.int (0 : Int32)), .val (.int (1 : Int32)), .val (.int (1 : Int32)), .val (.int (1 : Int32)), .val (.int (1 : Int32))] [])) _
        refine XS.iload X13.here hx rfl (hb hby at_135) rfl ?_
        show Steps p.tables e below (T13.setTop (mkF m 137 #[.val (.int p0), .val (.int p1), .val (.int (own_f1 p0 p1)), .val (.long (p0.toInt64)), .second, .val (.long ((p1.toInt64) - (p0.toInt64))), .second, .val (.int (0 : Int32)), .val (.int (1 : Int32)), .val (.int (1 : Int32)), .val (.int (1 : Int32)), .val (.int (1 : Int32))] [(.int (1 : Int32))])) _
        refine XS.ifNo X13.here hx rfl (hb hby at_137) rfl ((if0 _ _).trans (feq (by decide : ¬ ((1 : Int32) = (0 : Int32)))).1) ?_
        show Steps p.tables e below (T13.setTop (mkF m 140 #[.val (.int p0), .val (.int p1), .val (.int (own_f1 p0 p1)), .val (.long (p0.toInt64)), .second, .val (.long ((p1.toInt64) - (p0.toInt64))), .second, .val (.int (0 : Int32)), .val (.int (1 : Int32)), .val (.int (1 : Int32)), .val (.int (1 : Int32)), .val (.int (1 : Int32))] [])) _
        refine XS.iconst X13.here hx rfl (hb hby at_140) ?_
        show Steps p.tables e below (T13.setTop (mkF m 141 #[.val (.int p0), .val (.int p1), .val (.int (own_f1 p0 p1)), .val (.long (p0.toInt64)), .second, .val (.long ((p1.toInt64) - (p0.toInt64))), .second, .val (.int (0 : Int32)), .val (.int (1 : Int32)), .val (.int (1 : Int32)), .val (.int (1 : Int32)), .val (.int (1 : Int32))] [(.int (1 : Int32))])) _
        refine XS.goto X13.here hx rfl (pc0 := 141) (pc' := 145) rfl (hb hby at_141) (by decide) (by decide) ?_
        show Steps p.tables e below (T13.setTop (mkF m 145 #[.val (.int p0), .val (.int p1), .val (.int (own_f1 p0 p1)), .val (.long (p0.toInt64)), .second, .val (.long ((p1.toInt64) - (p0.toInt64))), .second, .val (.int (0 : Int32)), .val (.int (1 : Int32)), .val (.int (1 : Int32)), .val (.int (1 : Int32)), .val (.int (1 : Int32))] [(.int (1 : Int32))])) _
        exact retN X13 hx (t := .boolean) Bd.returns (by simp) (hb hby at_145) hr
      · show Q0 Z p0 p1 h0 n0 _ T13.heap _
        rw [e13]
        exact ⟨rfl, N14⟩
    · obtain ⟨_, _, ⟨T15, L15, k15, n15⟩, -, X15, ⟨Lc15, hQ15, l15, y15, z15⟩, st15⟩ := Jvm.LawKit.callS X6 hx (y := (⟨"com/example/link7/link7/rule/RuleBatch", "isCode", "(II)Z"⟩ : MethodName)) hown (mvT hZ (hw _ (List.mem_of_getElem? (i := 0) rfl))) (mvT hZ (hw _ (List.mem_of_getElem? (i := 1) rfl))) (mvT hZ (hw _ (List.mem_of_getElem? (i := 2) rfl))) (mvT hZ (hw _ (List.mem_of_getElem? (i := 3) rfl))) (by decide) (backOf (W := 0) (rm1 l Z a0 hw [] (0 : Int32) p1  h0 n0 Z0 ) hZ (hw _ (List.mem_of_getElem? (i := 3) rfl)) (hw _ (List.mem_of_getElem? (i := 2) rfl)) (by decide) (by decide)) (g := (mkF m 60 #[.val (.int p0), .val (.int p1), .val (.int (own_f1 p0 p1)), .val (.long (p0.toInt64)), .second, .val (.long ((p1.toInt64) - (p0.toInt64))), .second, .val (.int (0 : Int32)), .val (.int (1 : Int32)), .unset, .unset, .unset] [(.int p1), (.int (0 : Int32))])) rfl (by rw [hml]; rfl) (argsL := [(.int (0 : Int32)), (.int p1)]) (rest := []) (lenOf pd_0 rfl) rfl (by show 2 * 0 + _ ≤ _; exact Nat.le_of_eq rfl) (hb hby at_60) (fun _ _ => ⟨rfl, e6, (by decide : 0 + 0 ≤ _), (by decide : 0 + 0 ≤ _)⟩)
      dsimp only [Pt.U, Pt.locs, Pt.cells, Pt.slots] at X15 l15 y15 z15 st15 hQ15
      subst l15 y15 z15
      obtain ⟨rfl, Nq15, e15⟩ := hQ15
      have N16 := Fr.app N7 Nq15
      obtain ⟨_, _, ⟨T17, L17, k17, n17⟩, -, X17, ⟨Lc17, hQ17, l17, y17, z17⟩, st17⟩ := Jvm.LawKit.callS X15 hx (y := (⟨"com/example/link7/link7/rule/RuleBatch", "isCode", "(II)Z"⟩ : MethodName)) hown (mvT hZ (hw _ (List.mem_of_getElem? (i := 0) rfl))) (mvT hZ (hw _ (List.mem_of_getElem? (i := 1) rfl))) (mvT hZ (hw _ (List.mem_of_getElem? (i := 2) rfl))) (mvT hZ (hw _ (List.mem_of_getElem? (i := 3) rfl))) (by decide) (backOf (W := 0) (rm1 l Z a0 hw [] (-1 : Int32) p1  h0 n0 Z0 ) hZ (hw _ (List.mem_of_getElem? (i := 3) rfl)) (hw _ (List.mem_of_getElem? (i := 2) rfl)) (by decide) (by decide)) (g := (mkF m 84 #[.val (.int p0), .val (.int p1), .val (.int (own_f1 p0 p1)), .val (.long (p0.toInt64)), .second, .val (.long ((p1.toInt64) - (p0.toInt64))), .second, .val (.int (0 : Int32)), .val (.int (1 : Int32)), .val (.int (1 : Int32)), .unset, .unset] [(.int p1), (.int (-1 : Int32))])) rfl (by rw [hml]; rfl) (argsL := [(.int (-1 : Int32)), (.int p1)]) (rest := []) (lenOf pd_0 rfl) rfl (by show 2 * 0 + _ ≤ _; exact Nat.le_of_eq rfl) (hb hby at_84) (fun _ _ => ⟨rfl, e15, (by decide : 0 + 0 ≤ _), (by decide : 0 + 0 ≤ _)⟩)
      dsimp only [Pt.U, Pt.locs, Pt.cells, Pt.slots] at X17 l17 y17 z17 st17 hQ17
      subst l17 y17 z17
      obtain ⟨rfl, Nq17, e17⟩ := hQ17
      have N18 := Fr.app N16 Nq17
      obtain ⟨_, _, ⟨T19, L19, k19, n19⟩, -, X19, ⟨Lc19, hQ19, l19, y19, z19⟩, st19⟩ := Jvm.LawKit.callS X17 hx (y := (⟨"com/example/link7/link7/rule/RuleBatch", "isCode", "(II)Z"⟩ : MethodName)) hown (mvT hZ (hw _ (List.mem_of_getElem? (i := 0) rfl))) (mvT hZ (hw _ (List.mem_of_getElem? (i := 1) rfl))) (mvT hZ (hw _ (List.mem_of_getElem? (i := 2) rfl))) (mvT hZ (hw _ (List.mem_of_getElem? (i := 3) rfl))) (by decide) (backOf (W := 0) (rm1 l Z a0 hw [] (p1 + (1 : Int32)) p1  h0 n0 Z0 ) hZ (hw _ (List.mem_of_getElem? (i := 3) rfl)) (hw _ (List.mem_of_getElem? (i := 2) rfl)) (by decide) (by decide)) (g := (mkF m 101 #[.val (.int p0), .val (.int p1), .val (.int (own_f1 p0 p1)), .val (.long (p0.toInt64)), .second, .val (.long ((p1.toInt64) - (p0.toInt64))), .second, .val (.int (0 : Int32)), .val (.int (1 : Int32)), .val (.int (1 : Int32)), .val (.int (1 : Int32)), .unset] [(.int p1), (.int (p1 + (1 : Int32)))])) rfl (by rw [hml]; rfl) (argsL := [(.int (p1 + (1 : Int32))), (.int p1)]) (rest := []) (lenOf pd_0 rfl) rfl (by show 2 * 0 + _ ≤ _; exact Nat.le_of_eq rfl) (hb hby at_101) (fun _ _ => ⟨rfl, e17, (by decide : 0 + 0 ≤ _), (by decide : 0 + 0 ≤ _)⟩)
      dsimp only [Pt.U, Pt.locs, Pt.cells, Pt.slots] at X19 l19 y19 z19 st19 hQ19
      subst l19 y19 z19
      obtain ⟨rfl, Nq19, e19⟩ := hQ19
      have N20 := Fr.app N18 Nq19
      obtain ⟨fs, hr, hrun, hended, hW, hsame⟩ := X19.leave (v := some (.int (1 : Int32))) (fun h => by rw [Bd.returns] at h; cases h)
      refine ⟨_, _, pre8 _ ?_, hrun, hended, _, _, rfl, ?_, ⟨_, rfl⟩, hW, hsame.mono (by decide) (by decide)⟩
      · show Steps p.tables e below (T6.setTop (mkF m 40 #[.val (.int p0), .val (.int p1), .val (.int (own_f1 p0 p1)), .val (.long (p0.toInt64)), .second, .val (.long ((p1.toInt64) - (p0.toInt64))), .second, .val (.int (0 : Int32)), .unset, .unset, .unset, .unset] [(.int p1), (.int (own_f1 p1 p1))])) _
        refine XS.ifNo X6.here hx rfl (hb hby at_40) rfl ((if0 _ _).trans (flt hB).1) ?_
        show Steps p.tables e below (T6.setTop (mkF m 43 #[.val (.int p0), .val (.int p1), .val (.int (own_f1 p0 p1)), .val (.long (p0.toInt64)), .second, .val (.long ((p1.toInt64) - (p0.toInt64))), .second, .val (.int (0 : Int32)), .unset, .unset, .unset, .unset] [(.int (own_f1 p1 p1))])) _
        refine XS.iconst X6.here hx rfl (hb hby at_43) ?_
        show Steps p.tables e below (T6.setTop (mkF m 44 #[.val (.int p0), .val (.int p1), .val (.int (own_f1 p0 p1)), .val (.long (p0.toInt64)), .second, .val (.long ((p1.toInt64) - (p0.toInt64))), .second, .val (.int (0 : Int32)), .unset, .unset, .unset, .unset] [(.int (1 : Int32)), (.int (own_f1 p1 p1))])) _
        refine XS.goto X6.here hx rfl (pc0 := 44) (pc' := 48) rfl (hb hby at_44) (by decide) (by decide) ?_
        show Steps p.tables e below (T6.setTop (mkF m 48 #[.val (.int p0), .val (.int p1), .val (.int (own_f1 p0 p1)), .val (.long (p0.toInt64)), .second, .val (.long ((p1.toInt64) - (p0.toInt64))), .second, .val (.int (0 : Int32)), .unset, .unset, .unset, .unset] [(.int (1 : Int32)), (.int (own_f1 p1 p1))])) _
        refine XS.icmpNo X6.here hx rfl (hb hby at_48) rfl (teq (own_b0 hB)).2 ?_
        show Steps p.tables e below (T6.setTop (mkF m 51 #[.val (.int p0), .val (.int p1), .val (.int (own_f1 p0 p1)), .val (.long (p0.toInt64)), .second, .val (.long ((p1.toInt64) - (p0.toInt64))), .second, .val (.int (0 : Int32)), .unset, .unset, .unset, .unset] [])) _
        refine XS.iconst X6.here hx rfl (hb hby at_51) ?_
        show Steps p.tables e below (T6.setTop (mkF m 52 #[.val (.int p0), .val (.int p1), .val (.int (own_f1 p0 p1)), .val (.long (p0.toInt64)), .second, .val (.long ((p1.toInt64) - (p0.toInt64))), .second, .val (.int (0 : Int32)), .unset, .unset, .unset, .unset] [(.int (1 : Int32))])) _
        refine XS.goto X6.here hx rfl (pc0 := 52) (pc' := 56) rfl (hb hby at_52) (by decide) (by decide) ?_
        show Steps p.tables e below (T6.setTop (mkF m 56 #[.val (.int p0), .val (.int p1), .val (.int (own_f1 p0 p1)), .val (.long (p0.toInt64)), .second, .val (.long ((p1.toInt64) - (p0.toInt64))), .second, .val (.int (0 : Int32)), .unset, .unset, .unset, .unset] [(.int (1 : Int32))])) _
        refine XS.istore X6.here hx rfl (hb hby at_56) rfl (l' := #[.val (.int p0), .val (.int p1), .val (.int (own_f1 p0 p1)), .val (.long (p0.toInt64)), .second, .val (.long ((p1.toInt64) - (p0.toInt64))), .second, .val (.int (0 : Int32)), .val (.int (1 : Int32)), .unset, .unset, .unset]) rfl ?_
        show Steps p.tables e below (T6.setTop (mkF m 58 #[.val (.int p0), .val (.int p1), .val (.int (own_f1 p0 p1)), .val (.long (p0.toInt64)), .second, .val (.long ((p1.toInt64) - (p0.toInt64))), .second, .val (.int (0 : Int32)), .val (.int (1 : Int32)), .unset, .unset, .unset] [])) _
        refine XS.iconst X6.here hx rfl (hb hby at_58) ?_
        show Steps p.tables e below (T6.setTop (mkF m 59 #[.val (.int p0), .val (.int p1), .val (.int (own_f1 p0 p1)), .val (.long (p0.toInt64)), .second, .val (.long ((p1.toInt64) - (p0.toInt64))), .second, .val (.int (0 : Int32)), .val (.int (1 : Int32)), .unset, .unset, .unset] [(.int (0 : Int32))])) _
        refine XS.iloadN X6.here hx rfl (hb hby at_59) rfl ?_
        show Steps p.tables e below (T6.setTop (mkF m 60 #[.val (.int p0), .val (.int p1), .val (.int (own_f1 p0 p1)), .val (.long (p0.toInt64)), .second, .val (.long ((p1.toInt64) - (p0.toInt64))), .second, .val (.int (0 : Int32)), .val (.int (1 : Int32)), .unset, .unset, .unset] [(.int p1), (.int (0 : Int32))])) _
        refine st15 _ ?_
        show Steps p.tables e below (T15.setTop (mkF m 63 #[.val (.int p0), .val (.int p1), .val (.int (own_f1 p0 p1)), .val (.long (p0.toInt64)), .second, .val (.long ((p1.toInt64) - (p0.toInt64))), .second, .val (.int (0 : Int32)), .val (.int (1 : Int32)), .unset, .unset, .unset] [(.int (own_f1 (0 : Int32) p1))])) _
        refine XS.iloadN X15.here hx rfl (hb hby at_63) rfl ?_
        show Steps p.tables e below (T15.setTop (mkF m 64 #[.val (.int p0), .val (.int p1), .val (.int (own_f1 p0 p1)), .val (.long (p0.toInt64)), .second, .val (.long ((p1.toInt64) - (p0.toInt64))), .second, .val (.int (0 : Int32)), .val (.int (1 : Int32)), .unset, .unset, .unset] [(.int p1), (.int (own_f1 (0 : Int32) p1))])) _
        refine XS.ifNo X15.here hx rfl (hb hby at_64) rfl ((if0 _ _).trans (flt hB).1) ?_
        show Steps p.tables e below (T15.setTop (mkF m 67 #[.val (.int p0), .val (.int p1), .val (.int (own_f1 p0 p1)), .val (.long (p0.toInt64)), .second, .val (.long ((p1.toInt64) - (p0.toInt64))), .second, .val (.int (0 : Int32)), .val (.int (1 : Int32)), .unset, .unset, .unset] [(.int (own_f1 (0 : Int32) p1))])) _
        refine XS.iconst X15.here hx rfl (hb hby at_67) ?_
        show Steps p.tables e below (T15.setTop (mkF m 68 #[.val (.int p0), .val (.int p1), .val (.int (own_f1 p0 p1)), .val (.long (p0.toInt64)), .second, .val (.long ((p1.toInt64) - (p0.toInt64))), .second, .val (.int (0 : Int32)), .val (.int (1 : Int32)), .unset, .unset, .unset] [(.int (1 : Int32)), (.int (own_f1 (0 : Int32) p1))])) _
        refine XS.goto X15.here hx rfl (pc0 := 68) (pc' := 72) rfl (hb hby at_68) (by decide) (by decide) ?_
        show Steps p.tables e below (T15.setTop (mkF m 72 #[.val (.int p0), .val (.int p1), .val (.int (own_f1 p0 p1)), .val (.long (p0.toInt64)), .second, .val (.long ((p1.toInt64) - (p0.toInt64))), .second, .val (.int (0 : Int32)), .val (.int (1 : Int32)), .unset, .unset, .unset] [(.int (1 : Int32)), (.int (own_f1 (0 : Int32) p1))])) _
        refine XS.icmpNo X15.here hx rfl (hb hby at_72) rfl (teq (own_c0 hB)).2 ?_
        show Steps p.tables e below (T15.setTop (mkF m 75 #[.val (.int p0), .val (.int p1), .val (.int (own_f1 p0 p1)), .val (.long (p0.toInt64)), .second, .val (.long ((p1.toInt64) - (p0.toInt64))), .second, .val (.int (0 : Int32)), .val (.int (1 : Int32)), .unset, .unset, .unset] [])) _
        refine XS.iconst X15.here hx rfl (hb hby at_75) ?_
        show Steps p.tables e below (T15.setTop (mkF m 76 #[.val (.int p0), .val (.int p1), .val (.int (own_f1 p0 p1)), .val (.long (p0.toInt64)), .second, .val (.long ((p1.toInt64) - (p0.toInt64))), .second, .val (.int (0 : Int32)), .val (.int (1 : Int32)), .unset, .unset, .unset] [(.int (1 : Int32))])) _
        refine XS.goto X15.here hx rfl (pc0 := 76) (pc' := 80) rfl (hb hby at_76) (by decide) (by decide) ?_
        show Steps p.tables e below (T15.setTop (mkF m 80 #[.val (.int p0), .val (.int p1), .val (.int (own_f1 p0 p1)), .val (.long (p0.toInt64)), .second, .val (.long ((p1.toInt64) - (p0.toInt64))), .second, .val (.int (0 : Int32)), .val (.int (1 : Int32)), .unset, .unset, .unset] [(.int (1 : Int32))])) _
        refine XS.istore X15.here hx rfl (hb hby at_80) rfl (l' := #[.val (.int p0), .val (.int p1), .val (.int (own_f1 p0 p1)), .val (.long (p0.toInt64)), .second, .val (.long ((p1.toInt64) - (p0.toInt64))), .second, .val (.int (0 : Int32)), .val (.int (1 : Int32)), .val (.int (1 : Int32)), .unset, .unset]) rfl ?_
        show Steps p.tables e below (T15.setTop (mkF m 82 #[.val (.int p0), .val (.int p1), .val (.int (own_f1 p0 p1)), .val (.long (p0.toInt64)), .second, .val (.long ((p1.toInt64) - (p0.toInt64))), .second, .val (.int (0 : Int32)), .val (.int (1 : Int32)), .val (.int (1 : Int32)), .unset, .unset] [])) _
        refine XS.iconst X15.here hx rfl (hb hby at_82) ?_
        show Steps p.tables e below (T15.setTop (mkF m 83 #[.val (.int p0), .val (.int p1), .val (.int (own_f1 p0 p1)), .val (.long (p0.toInt64)), .second, .val (.long ((p1.toInt64) - (p0.toInt64))), .second, .val (.int (0 : Int32)), .val (.int (1 : Int32)), .val (.int (1 : Int32)), .unset, .unset] [(.int (-1 : Int32))])) _
        refine XS.iloadN X15.here hx rfl (hb hby at_83) rfl ?_
        show Steps p.tables e below (T15.setTop (mkF m 84 #[.val (.int p0), .val (.int p1), .val (.int (own_f1 p0 p1)), .val (.long (p0.toInt64)), .second, .val (.long ((p1.toInt64) - (p0.toInt64))), .second, .val (.int (0 : Int32)), .val (.int (1 : Int32)), .val (.int (1 : Int32)), .unset, .unset] [(.int p1), (.int (-1 : Int32))])) _
        refine st17 _ ?_
        show Steps p.tables e below (T17.setTop (mkF m 87 #[.val (.int p0), .val (.int p1), .val (.int (own_f1 p0 p1)), .val (.long (p0.toInt64)), .second, .val (.long ((p1.toInt64) - (p0.toInt64))), .second, .val (.int (0 : Int32)), .val (.int (1 : Int32)), .val (.int (1 : Int32)), .unset, .unset] [(.int (own_f1 (-1 : Int32) p1))])) _
        refine XS.ifNo X17.here hx rfl (hb hby at_87) rfl ((if0 _ _).trans (teq own_d).2) ?_
        show Steps p.tables e below (T17.setTop (mkF m 90 #[.val (.int p0), .val (.int p1), .val (.int (own_f1 p0 p1)), .val (.long (p0.toInt64)), .second, .val (.long ((p1.toInt64) - (p0.toInt64))), .second, .val (.int (0 : Int32)), .val (.int (1 : Int32)), .val (.int (1 : Int32)), .unset, .unset] [])) _
        refine XS.iconst X17.here hx rfl (hb hby at_90) ?_
        show Steps p.tables e below (T17.setTop (mkF m 91 #[.val (.int p0), .val (.int p1), .val (.int (own_f1 p0 p1)), .val (.long (p0.toInt64)), .second, .val (.long ((p1.toInt64) - (p0.toInt64))), .second, .val (.int (0 : Int32)), .val (.int (1 : Int32)), .val (.int (1 : Int32)), .unset, .unset] [(.int (1 : Int32))])) _
        refine XS.goto X17.here hx rfl (pc0 := 91) (pc' := 95) rfl (hb hby at_91) (by decide) (by decide) ?_
        show Steps p.tables e below (T17.setTop (mkF m 95 #[.val (.int p0), .val (.int p1), .val (.int (own_f1 p0 p1)), .val (.long (p0.toInt64)), .second, .val (.long ((p1.toInt64) - (p0.toInt64))), .second, .val (.int (0 : Int32)), .val (.int (1 : Int32)), .val (.int (1 : Int32)), .unset, .unset] [(.int (1 : Int32))])) _
        refine XS.istore X17.here hx rfl (hb hby at_95) rfl (l' := #[.val (.int p0), .val (.int p1), .val (.int (own_f1 p0 p1)), .val (.long (p0.toInt64)), .second, .val (.long ((p1.toInt64) - (p0.toInt64))), .second, .val (.int (0 : Int32)), .val (.int (1 : Int32)), .val (.int (1 : Int32)), .val (.int (1 : Int32)), .unset]) rfl ?_
        show Steps p.tables e below (T17.setTop (mkF m 97 #[.val (.int p0), .val (.int p1), .val (.int (own_f1 p0 p1)), .val (.long (p0.toInt64)), .second, .val (.long ((p1.toInt64) - (p0.toInt64))), .second, .val (.int (0 : Int32)), .val (.int (1 : Int32)), .val (.int (1 : Int32)), .val (.int (1 : Int32)), .unset] [])) _
        refine XS.iloadN X17.here hx rfl (hb hby at_97) rfl ?_
        show Steps p.tables e below (T17.setTop (mkF m 98 #[.val (.int p0), .val (.int p1), .val (.int (own_f1 p0 p1)), .val (.long (p0.toInt64)), .second, .val (.long ((p1.toInt64) - (p0.toInt64))), .second, .val (.int (0 : Int32)), .val (.int (1 : Int32)), .val (.int (1 : Int32)), .val (.int (1 : Int32)), .unset] [(.int p1)])) _
        refine XS.iconst X17.here hx rfl (hb hby at_98) ?_
        show Steps p.tables e below (T17.setTop (mkF m 99 #[.val (.int p0), .val (.int p1), .val (.int (own_f1 p0 p1)), .val (.long (p0.toInt64)), .second, .val (.long ((p1.toInt64) - (p0.toInt64))), .second, .val (.int (0 : Int32)), .val (.int (1 : Int32)), .val (.int (1 : Int32)), .val (.int (1 : Int32)), .unset] [(.int (1 : Int32)), (.int p1)])) _
        refine XS.iadd X17.here hx rfl (hb hby at_99) rfl ?_
        show Steps p.tables e below (T17.setTop (mkF m 100 #[.val (.int p0), .val (.int p1), .val (.int (own_f1 p0 p1)), .val (.long (p0.toInt64)), .second, .val (.long ((p1.toInt64) - (p0.toInt64))), .second, .val (.int (0 : Int32)), .val (.int (1 : Int32)), .val (.int (1 : Int32)), .val (.int (1 : Int32)), .unset] [(.int (p1 + (1 : Int32)))])) _
        refine XS.iloadN X17.here hx rfl (hb hby at_100) rfl ?_
        show Steps p.tables e below (T17.setTop (mkF m 101 #[.val (.int p0), .val (.int p1), .val (.int (own_f1 p0 p1)), .val (.long (p0.toInt64)), .second, .val (.long ((p1.toInt64) - (p0.toInt64))), .second, .val (.int (0 : Int32)), .val (.int (1 : Int32)), .val (.int (1 : Int32)), .val (.int (1 : Int32)), .unset] [(.int p1), (.int (p1 + (1 : Int32)))])) _
        refine st19 _ ?_
        show Steps p.tables e below (T19.setTop (mkF m 104 #[.val (.int p0), .val (.int p1), .val (.int (own_f1 p0 p1)), .val (.long (p0.toInt64)), .second, .val (.long ((p1.toInt64) - (p0.toInt64))), .second, .val (.int (0 : Int32)), .val (.int (1 : Int32)), .val (.int (1 : Int32)), .val (.int (1 : Int32)), .unset] [(.int (own_f1 (p1 + (1 : Int32)) p1))])) _
        refine XS.ifNo X19.here hx rfl (hb hby at_104) rfl ((if0 _ _).trans (teq own_e).2) ?_
        show Steps p.tables e below (T19.setTop (mkF m 107 #[.val (.int p0), .val (.int p1), .val (.int (own_f1 p0 p1)), .val (.long (p0.toInt64)), .second, .val (.long ((p1.toInt64) - (p0.toInt64))), .second, .val (.int (0 : Int32)), .val (.int (1 : Int32)), .val (.int (1 : Int32)), .val (.int (1 : Int32)), .unset] [])) _
        refine XS.iconst X19.here hx rfl (hb hby at_107) ?_
        show Steps p.tables e below (T19.setTop (mkF m 108 #[.val (.int p0), .val (.int p1), .val (.int (own_f1 p0 p1)), .val (.long (p0.toInt64)), .second, .val (.long ((p1.toInt64) - (p0.toInt64))), .second, .val (.int (0 : Int32)), .val (.int (1 : Int32)), .val (.int (1 : Int32)), .val (.int (1 : Int32)), .unset] [(.int (1 : Int32))])) _
        refine XS.goto X19.here hx rfl (pc0 := 108) (pc' := 112) rfl (hb hby at_108) (by decide) (by decide) ?_
        show Steps p.tables e below (T19.setTop (mkF m 112 #[.val (.int p0), .val (.int p1), .val (.int (own_f1 p0 p1)), .val (.long (p0.toInt64)), .second, .val (.long ((p1.toInt64) - (p0.toInt64))), .second, .val (.int (0 : Int32)), .val (.int (1 : Int32)), .val (.int (1 : Int32)), .val (.int (1 : Int32)), .unset] [(.int (1 : Int32))])) _
        refine XS.istore X19.here hx rfl (hb hby at_112) rfl (l' := #[.val (.int p0), .val (.int p1), .val (.int (own_f1 p0 p1)), .val (.long (p0.toInt64)), .second, .val (.long ((p1.toInt64) - (p0.toInt64))), .second, .val (.int (0 : Int32)), .val (.int (1 : Int32)), .val (.int (1 : Int32)), .val (.int (1 : Int32)), .val (.int (1 : Int32))]) rfl ?_
        show Steps p.tables e below (T19.setTop (mkF m 114 #[.val (.int p0), .val (.int p1), .val (.int (own_f1 p0 p1)), .val (.long (p0.toInt64)), .second, .val (.long ((p1.toInt64) - (p0.toInt64))), .second, .val (.int (0 : Int32)), .val (.int (1 : Int32)), .val (.int (1 : Int32)), .val (.int (1 : Int32)), .val (.int (1 : Int32))] [])) _
        refine XS.iloadN X19.here hx rfl (hb hby at_114) rfl ?_
        show Steps p.tables e below (T19.setTop (mkF m 115 #[.val (.int p0), .val (.int p1), .val (.int (own_f1 p0 p1)), .val (.long (p0.toInt64)), .second, .val (.long ((p1.toInt64) - (p0.toInt64))), .second, .val (.int (0 : Int32)), .val (.int (1 : Int32)), .val (.int (1 : Int32)), .val (.int (1 : Int32)), .val (.int (1 : Int32))] [(.int (own_f1 p0 p1))])) _
        refine XS.iload X19.here hx rfl (hb hby at_115) rfl ?_
        show Steps p.tables e below (T19.setTop (mkF m 117 #[.val (.int p0), .val (.int p1), .val (.int (own_f1 p0 p1)), .val (.long (p0.toInt64)), .second, .val (.long ((p1.toInt64) - (p0.toInt64))), .second, .val (.int (0 : Int32)), .val (.int (1 : Int32)), .val (.int (1 : Int32)), .val (.int (1 : Int32)), .val (.int (1 : Int32))] [(.int (0 : Int32)), (.int (own_f1 p0 p1))])) _
        refine XS.icmpNo X19.here hx rfl (hb hby at_117) rfl (teq (own_a1 hA)).2 ?_
        show Steps p.tables e below (T19.setTop (mkF m 120 #[.val (.int p0), .val (.int p1), .val (.int (own_f1 p0 p1)), .val (.long (p0.toInt64)), .second, .val (.long ((p1.toInt64) - (p0.toInt64))), .second, .val (.int (0 : Int32)), .val (.int (1 : Int32)), .val (.int (1 : Int32)), .val (.int (1 : Int32)), .val (.int (1 : Int32))] [])) _
        refine XS.iload X19.here hx rfl (hb hby at_120) rfl ?_
        show Steps p.tables e below (T19.setTop (mkF m 122 #[.val (.int p0), .val (.int p1), .val (.int (own_f1 p0 p1)), .val (.long (p0.toInt64)), .second, .val (.long ((p1.toInt64) - (p0.toInt64))), .second, .val (.int (0 : Int32)), .val (.int (1 : Int32)), .val (.int (1 : Int32)), .val (.int (1 : Int32)), .val (.int (1 : Int32))] [(.int (1 : Int32))])) _
        refine XS.ifNo X19.here hx rfl (hb hby at_122) rfl ((if0 _ _).trans (feq (by decide : ¬ ((1 : Int32) = (0 : Int32)))).1) ?_
        show Steps p.tables e below (T19.setTop (mkF m 125 #[.val (.int p0), .val (.int p1), .val (.int (own_f1 p0 p1)), .val (.long (p0.toInt64)), .second, .val (.long ((p1.toInt64) - (p0.toInt64))), .second, .val (.int (0 : Int32)), .val (.int (1 : Int32)), .val (.int (1 : Int32)), .val (.int (1 : Int32)), .val (.int (1 : Int32))] [])) _
        refine XS.iload X19.here hx rfl (hb hby at_125) rfl ?_
        show Steps p.tables e below (T19.setTop (mkF m 127 #[.val (.int p0), .val (.int p1), .val (.int (own_f1 p0 p1)), .val (.long (p0.toInt64)), .second, .val (.long ((p1.toInt64) - (p0.toInt64))), .second, .val (.int (0 : Int32)), .val (.int (1 : Int32)), .val (.int (1 : Int32)), .val (.int (1 : Int32)), .val (.int (1 : Int32))] [(.int (1 : Int32))])) _
        refine XS.ifNo X19.here hx rfl (hb hby at_127) rfl ((if0 _ _).trans (feq (by decide : ¬ ((1 : Int32) = (0 : Int32)))).1) ?_
        show Steps p.tables e below (T19.setTop (mkF m 130 #[.val (.int p0), .val (.int p1), .val (.int (own_f1 p0 p1)), .val (.long (p0.toInt64)), .second, .val (.long ((p1.toInt64) - (p0.toInt64))), .second, .val (.int (0 : Int32)), .val (.int (1 : Int32)), .val (.int (1 : Int32)), .val (.int (1 : Int32)), .val (.int (1 : Int32))] [])) _
        refine XS.iload X19.here hx rfl (hb hby at_130) rfl ?_
        show Steps p.tables e below (T19.setTop (mkF m 132 #[.val (.int p0), .val (.int p1), .val (.int (own_f1 p0 p1)), .val (.long (p0.toInt64)), .second, .val (.long ((p1.toInt64) - (p0.toInt64))), .second, .val (.int (0 : Int32)), .val (.int (1 : Int32)), .val (.int (1 : Int32)), .val (.int (1 : Int32)), .val (.int (1 : Int32))] [(.int (1 : Int32))])) _
        refine XS.ifNo X19.here hx rfl (hb hby at_132) rfl ((if0 _ _).trans (feq (by decide : ¬ ((1 : Int32) = (0 : Int32)))).1) ?_
        show Steps p.tables e below (T19.setTop (mkF m 135 #[.val (.int p0), .val (.int p1), .val (.int (own_f1 p0 p1)), .val (.long (p0.toInt64)), .second, .val (.long ((p1.toInt64) - (p0.toInt64))), .second, .val (.int (0 : Int32)), .val (.int (1 : Int32)), .val (.int (1 : Int32)), .val (.int (1 : Int32)), .val (.int (1 : Int32))] [])) _
        refine XS.iload X19.here hx rfl (hb hby at_135) rfl ?_
        show Steps p.tables e below (T19.setTop (mkF m 137 #[.val (.int p0), .val (.int p1), .val (.int (own_f1 p0 p1)), .val (.long (p0.toInt64)), .second, .val (.long ((p1.toInt64) - (p0.toInt64))), .second, .val (.int (0 : Int32)), .val (.int (1 : Int32)), .val (.int (1 : Int32)), .val (.int (1 : Int32)), .val (.int (1 : Int32))] [(.int (1 : Int32))])) _
        refine XS.ifNo X19.here hx rfl (hb hby at_137) rfl ((if0 _ _).trans (feq (by decide : ¬ ((1 : Int32) = (0 : Int32)))).1) ?_
        show Steps p.tables e below (T19.setTop (mkF m 140 #[.val (.int p0), .val (.int p1), .val (.int (own_f1 p0 p1)), .val (.long (p0.toInt64)), .second, .val (.long ((p1.toInt64) - (p0.toInt64))), .second, .val (.int (0 : Int32)), .val (.int (1 : Int32)), .val (.int (1 : Int32)), .val (.int (1 : Int32)), .val (.int (1 : Int32))] [])) _
        refine XS.iconst X19.here hx rfl (hb hby at_140) ?_
        show Steps p.tables e below (T19.setTop (mkF m 141 #[.val (.int p0), .val (.int p1), .val (.int (own_f1 p0 p1)), .val (.long (p0.toInt64)), .second, .val (.long ((p1.toInt64) - (p0.toInt64))), .second, .val (.int (0 : Int32)), .val (.int (1 : Int32)), .val (.int (1 : Int32)), .val (.int (1 : Int32)), .val (.int (1 : Int32))] [(.int (1 : Int32))])) _
        refine XS.goto X19.here hx rfl (pc0 := 141) (pc' := 145) rfl (hb hby at_141) (by decide) (by decide) ?_
        show Steps p.tables e below (T19.setTop (mkF m 145 #[.val (.int p0), .val (.int p1), .val (.int (own_f1 p0 p1)), .val (.long (p0.toInt64)), .second, .val (.long ((p1.toInt64) - (p0.toInt64))), .second, .val (.int (0 : Int32)), .val (.int (1 : Int32)), .val (.int (1 : Int32)), .val (.int (1 : Int32)), .val (.int (1 : Int32))] [(.int (1 : Int32))])) _
        exact retN X19 hx (t := .boolean) Bd.returns (by simp) (hb hby at_145) hr
      · show Q0 Z p0 p1 h0 n0 _ T19.heap _
        rw [e19]
        exact ⟨rfl, N20⟩
  · obtain ⟨_, _, ⟨T21, L21, k21, n21⟩, -, X21, ⟨Lc21, hQ21, l21, y21, z21⟩, st21⟩ := Jvm.LawKit.callS X3 hx (y := (⟨"com/example/link7/link7/rule/RuleBatch", "isCode", "(II)Z"⟩ : MethodName)) hown (mvT hZ (hw _ (List.mem_of_getElem? (i := 0) rfl))) (mvT hZ (hw _ (List.mem_of_getElem? (i := 1) rfl))) (mvT hZ (hw _ (List.mem_of_getElem? (i := 2) rfl))) (mvT hZ (hw _ (List.mem_of_getElem? (i := 3) rfl))) (by decide) (backOf (W := 0) (rm1 l Z a0 hw [] p1 p1  h0 n0 Z0 ) hZ (hw _ (List.mem_of_getElem? (i := 3) rfl)) (hw _ (List.mem_of_getElem? (i := 2) rfl)) (by decide) (by decide)) (g := (mkF m 36 #[.val (.int p0), .val (.int p1), .val (.int (own_f1 p0 p1)), .val (.long (p0.toInt64)), .second, .val (.long ((p1.toInt64) - (p0.toInt64))), .second, .val (.int (1 : Int32)), .unset, .unset, .unset, .unset] [(.int p1), (.int p1)])) rfl (by rw [hml]; rfl) (argsL := [(.int p1), (.int p1)]) (rest := []) (lenOf pd_0 rfl) rfl (by show 2 * 0 + _ ≤ _; exact Nat.le_of_eq rfl) (hb hby at_36) (fun _ _ => ⟨rfl, e3, (by decide : 0 + 0 ≤ _), (by decide : 0 + 0 ≤ _)⟩)
    dsimp only [Pt.U, Pt.locs, Pt.cells, Pt.slots] at X21 l21 y21 z21 st21 hQ21
    subst l21 y21 z21
    obtain ⟨rfl, Nq21, e21⟩ := hQ21
    have N22 := Fr.app N4 Nq21
    have pre23 : ∀ tgt, Steps p.tables e below (T21.setTop (mkF m 40 #[.val (.int p0), .val (.int p1), .val (.int (own_f1 p0 p1)), .val (.long (p0.toInt64)), .second, .val (.long ((p1.toInt64) - (p0.toInt64))), .second, .val (.int (1 : Int32)), .unset, .unset, .unset, .unset] [(.int p1), (.int (own_f1 p1 p1))])) tgt → Steps p.tables e below (s₁.setTop (entryFrame m #[(.int p0), (.int p1)] maxLocals)) tgt := fun tgt kt => pre5 _ (by
      show Steps p.tables e below (T3.setTop (mkF m 24 #[.val (.int p0), .val (.int p1), .val (.int (own_f1 p0 p1)), .val (.long (p0.toInt64)), .second, .val (.long ((p1.toInt64) - (p0.toInt64))), .second, .unset, .unset, .unset, .unset, .unset] [(.int (lcmpW (own_f2 (p0.toInt64) ((p1.toInt64) - (p0.toInt64))) (0 : Int64)))])) _
      refine XS.ifNo X3.here hx rfl (hb hby at_24) rfl ((if0 _ _).trans (flt hA).1) ?_
      show Steps p.tables e below (T3.setTop (mkF m 27 #[.val (.int p0), .val (.int p1), .val (.int (own_f1 p0 p1)), .val (.long (p0.toInt64)), .second, .val (.long ((p1.toInt64) - (p0.toInt64))), .second, .unset, .unset, .unset, .unset, .unset] [])) _
      refine XS.iconst X3.here hx rfl (hb hby at_27) ?_
      show Steps p.tables e below (T3.setTop (mkF m 28 #[.val (.int p0), .val (.int p1), .val (.int (own_f1 p0 p1)), .val (.long (p0.toInt64)), .second, .val (.long ((p1.toInt64) - (p0.toInt64))), .second, .unset, .unset, .unset, .unset, .unset] [(.int (1 : Int32))])) _
      refine XS.goto X3.here hx rfl (pc0 := 28) (pc' := 32) rfl (hb hby at_28) (by decide) (by decide) ?_
      show Steps p.tables e below (T3.setTop (mkF m 32 #[.val (.int p0), .val (.int p1), .val (.int (own_f1 p0 p1)), .val (.long (p0.toInt64)), .second, .val (.long ((p1.toInt64) - (p0.toInt64))), .second, .unset, .unset, .unset, .unset, .unset] [(.int (1 : Int32))])) _
      refine XS.istore X3.here hx rfl (hb hby at_32) rfl (l' := #[.val (.int p0), .val (.int p1), .val (.int (own_f1 p0 p1)), .val (.long (p0.toInt64)), .second, .val (.long ((p1.toInt64) - (p0.toInt64))), .second, .val (.int (1 : Int32)), .unset, .unset, .unset, .unset]) rfl ?_
      show Steps p.tables e below (T3.setTop (mkF m 34 #[.val (.int p0), .val (.int p1), .val (.int (own_f1 p0 p1)), .val (.long (p0.toInt64)), .second, .val (.long ((p1.toInt64) - (p0.toInt64))), .second, .val (.int (1 : Int32)), .unset, .unset, .unset, .unset] [])) _
      refine XS.iloadN X3.here hx rfl (hb hby at_34) rfl ?_
      show Steps p.tables e below (T3.setTop (mkF m 35 #[.val (.int p0), .val (.int p1), .val (.int (own_f1 p0 p1)), .val (.long (p0.toInt64)), .second, .val (.long ((p1.toInt64) - (p0.toInt64))), .second, .val (.int (1 : Int32)), .unset, .unset, .unset, .unset] [(.int p1)])) _
      refine XS.iloadN X3.here hx rfl (hb hby at_35) rfl ?_
      show Steps p.tables e below (T3.setTop (mkF m 36 #[.val (.int p0), .val (.int p1), .val (.int (own_f1 p0 p1)), .val (.long (p0.toInt64)), .second, .val (.long ((p1.toInt64) - (p0.toInt64))), .second, .val (.int (1 : Int32)), .unset, .unset, .unset, .unset] [(.int p1), (.int p1)])) _
      refine st21 _ ?_
      show Steps p.tables e below (T21.setTop (mkF m 39 #[.val (.int p0), .val (.int p1), .val (.int (own_f1 p0 p1)), .val (.long (p0.toInt64)), .second, .val (.long ((p1.toInt64) - (p0.toInt64))), .second, .val (.int (1 : Int32)), .unset, .unset, .unset, .unset] [(.int (own_f1 p1 p1))])) _
      refine XS.iloadN X21.here hx rfl (hb hby at_39) rfl ?_
      exact kt)
    by_cases hB : p1 < (0 : Int32)
    · obtain ⟨_, _, ⟨T24, L24, k24, n24⟩, -, X24, ⟨Lc24, hQ24, l24, y24, z24⟩, st24⟩ := Jvm.LawKit.callS X21 hx (y := (⟨"com/example/link7/link7/rule/RuleBatch", "isCode", "(II)Z"⟩ : MethodName)) hown (mvT hZ (hw _ (List.mem_of_getElem? (i := 0) rfl))) (mvT hZ (hw _ (List.mem_of_getElem? (i := 1) rfl))) (mvT hZ (hw _ (List.mem_of_getElem? (i := 2) rfl))) (mvT hZ (hw _ (List.mem_of_getElem? (i := 3) rfl))) (by decide) (backOf (W := 0) (rm1 l Z a0 hw [] (0 : Int32) p1  h0 n0 Z0 ) hZ (hw _ (List.mem_of_getElem? (i := 3) rfl)) (hw _ (List.mem_of_getElem? (i := 2) rfl)) (by decide) (by decide)) (g := (mkF m 60 #[.val (.int p0), .val (.int p1), .val (.int (own_f1 p0 p1)), .val (.long (p0.toInt64)), .second, .val (.long ((p1.toInt64) - (p0.toInt64))), .second, .val (.int (1 : Int32)), .val (.int (1 : Int32)), .unset, .unset, .unset] [(.int p1), (.int (0 : Int32))])) rfl (by rw [hml]; rfl) (argsL := [(.int (0 : Int32)), (.int p1)]) (rest := []) (lenOf pd_0 rfl) rfl (by show 2 * 0 + _ ≤ _; exact Nat.le_of_eq rfl) (hb hby at_60) (fun _ _ => ⟨rfl, e21, (by decide : 0 + 0 ≤ _), (by decide : 0 + 0 ≤ _)⟩)
      dsimp only [Pt.U, Pt.locs, Pt.cells, Pt.slots] at X24 l24 y24 z24 st24 hQ24
      subst l24 y24 z24
      obtain ⟨rfl, Nq24, e24⟩ := hQ24
      have N25 := Fr.app N22 Nq24
      obtain ⟨_, _, ⟨T26, L26, k26, n26⟩, -, X26, ⟨Lc26, hQ26, l26, y26, z26⟩, st26⟩ := Jvm.LawKit.callS X24 hx (y := (⟨"com/example/link7/link7/rule/RuleBatch", "isCode", "(II)Z"⟩ : MethodName)) hown (mvT hZ (hw _ (List.mem_of_getElem? (i := 0) rfl))) (mvT hZ (hw _ (List.mem_of_getElem? (i := 1) rfl))) (mvT hZ (hw _ (List.mem_of_getElem? (i := 2) rfl))) (mvT hZ (hw _ (List.mem_of_getElem? (i := 3) rfl))) (by decide) (backOf (W := 0) (rm1 l Z a0 hw [] (-1 : Int32) p1  h0 n0 Z0 ) hZ (hw _ (List.mem_of_getElem? (i := 3) rfl)) (hw _ (List.mem_of_getElem? (i := 2) rfl)) (by decide) (by decide)) (g := (mkF m 84 #[.val (.int p0), .val (.int p1), .val (.int (own_f1 p0 p1)), .val (.long (p0.toInt64)), .second, .val (.long ((p1.toInt64) - (p0.toInt64))), .second, .val (.int (1 : Int32)), .val (.int (1 : Int32)), .val (.int (1 : Int32)), .unset, .unset] [(.int p1), (.int (-1 : Int32))])) rfl (by rw [hml]; rfl) (argsL := [(.int (-1 : Int32)), (.int p1)]) (rest := []) (lenOf pd_0 rfl) rfl (by show 2 * 0 + _ ≤ _; exact Nat.le_of_eq rfl) (hb hby at_84) (fun _ _ => ⟨rfl, e24, (by decide : 0 + 0 ≤ _), (by decide : 0 + 0 ≤ _)⟩)
      dsimp only [Pt.U, Pt.locs, Pt.cells, Pt.slots] at X26 l26 y26 z26 st26 hQ26
      subst l26 y26 z26
      obtain ⟨rfl, Nq26, e26⟩ := hQ26
      have N27 := Fr.app N25 Nq26
      obtain ⟨_, _, ⟨T28, L28, k28, n28⟩, -, X28, ⟨Lc28, hQ28, l28, y28, z28⟩, st28⟩ := Jvm.LawKit.callS X26 hx (y := (⟨"com/example/link7/link7/rule/RuleBatch", "isCode", "(II)Z"⟩ : MethodName)) hown (mvT hZ (hw _ (List.mem_of_getElem? (i := 0) rfl))) (mvT hZ (hw _ (List.mem_of_getElem? (i := 1) rfl))) (mvT hZ (hw _ (List.mem_of_getElem? (i := 2) rfl))) (mvT hZ (hw _ (List.mem_of_getElem? (i := 3) rfl))) (by decide) (backOf (W := 0) (rm1 l Z a0 hw [] (p1 + (1 : Int32)) p1  h0 n0 Z0 ) hZ (hw _ (List.mem_of_getElem? (i := 3) rfl)) (hw _ (List.mem_of_getElem? (i := 2) rfl)) (by decide) (by decide)) (g := (mkF m 101 #[.val (.int p0), .val (.int p1), .val (.int (own_f1 p0 p1)), .val (.long (p0.toInt64)), .second, .val (.long ((p1.toInt64) - (p0.toInt64))), .second, .val (.int (1 : Int32)), .val (.int (1 : Int32)), .val (.int (1 : Int32)), .val (.int (1 : Int32)), .unset] [(.int p1), (.int (p1 + (1 : Int32)))])) rfl (by rw [hml]; rfl) (argsL := [(.int (p1 + (1 : Int32))), (.int p1)]) (rest := []) (lenOf pd_0 rfl) rfl (by show 2 * 0 + _ ≤ _; exact Nat.le_of_eq rfl) (hb hby at_101) (fun _ _ => ⟨rfl, e26, (by decide : 0 + 0 ≤ _), (by decide : 0 + 0 ≤ _)⟩)
      dsimp only [Pt.U, Pt.locs, Pt.cells, Pt.slots] at X28 l28 y28 z28 st28 hQ28
      subst l28 y28 z28
      obtain ⟨rfl, Nq28, e28⟩ := hQ28
      have N29 := Fr.app N27 Nq28
      obtain ⟨fs, hr, hrun, hended, hW, hsame⟩ := X28.leave (v := some (.int (1 : Int32))) (fun h => by rw [Bd.returns] at h; cases h)
      refine ⟨_, _, pre23 _ ?_, hrun, hended, _, _, rfl, ?_, ⟨_, rfl⟩, hW, hsame.mono (by decide) (by decide)⟩
      · show Steps p.tables e below (T21.setTop (mkF m 40 #[.val (.int p0), .val (.int p1), .val (.int (own_f1 p0 p1)), .val (.long (p0.toInt64)), .second, .val (.long ((p1.toInt64) - (p0.toInt64))), .second, .val (.int (1 : Int32)), .unset, .unset, .unset, .unset] [(.int p1), (.int (own_f1 p1 p1))])) _
        refine XS.ifYes X21.here hx rfl (pc0 := 40) (pc' := 47) rfl (hb hby at_40) rfl ((if0 _ _).trans (tlt hB).1) (by decide) (by decide) ?_
        show Steps p.tables e below (T21.setTop (mkF m 47 #[.val (.int p0), .val (.int p1), .val (.int (own_f1 p0 p1)), .val (.long (p0.toInt64)), .second, .val (.long ((p1.toInt64) - (p0.toInt64))), .second, .val (.int (1 : Int32)), .unset, .unset, .unset, .unset] [(.int (own_f1 p1 p1))])) _
        refine XS.iconst X21.here hx rfl (hb hby at_47) ?_
        show Steps p.tables e below (T21.setTop (mkF m 48 #[.val (.int p0), .val (.int p1), .val (.int (own_f1 p0 p1)), .val (.long (p0.toInt64)), .second, .val (.long ((p1.toInt64) - (p0.toInt64))), .second, .val (.int (1 : Int32)), .unset, .unset, .unset, .unset] [(.int (0 : Int32)), (.int (own_f1 p1 p1))])) _
        refine XS.icmpNo X21.here hx rfl (hb hby at_48) rfl (teq (own_b1 hB)).2 ?_
        show Steps p.tables e below (T21.setTop (mkF m 51 #[.val (.int p0), .val (.int p1), .val (.int (own_f1 p0 p1)), .val (.long (p0.toInt64)), .second, .val (.long ((p1.toInt64) - (p0.toInt64))), .second, .val (.int (1 : Int32)), .unset, .unset, .unset, .unset] [])) _
        refine XS.iconst X21.here hx rfl (hb hby at_51) ?_
        show Steps p.tables e below (T21.setTop (mkF m 52 #[.val (.int p0), .val (.int p1), .val (.int (own_f1 p0 p1)), .val (.long (p0.toInt64)), .second, .val (.long ((p1.toInt64) - (p0.toInt64))), .second, .val (.int (1 : Int32)), .unset, .unset, .unset, .unset] [(.int (1 : Int32))])) _
        refine XS.goto X21.here hx rfl (pc0 := 52) (pc' := 56) rfl (hb hby at_52) (by decide) (by decide) ?_
        show Steps p.tables e below (T21.setTop (mkF m 56 #[.val (.int p0), .val (.int p1), .val (.int (own_f1 p0 p1)), .val (.long (p0.toInt64)), .second, .val (.long ((p1.toInt64) - (p0.toInt64))), .second, .val (.int (1 : Int32)), .unset, .unset, .unset, .unset] [(.int (1 : Int32))])) _
        refine XS.istore X21.here hx rfl (hb hby at_56) rfl (l' := #[.val (.int p0), .val (.int p1), .val (.int (own_f1 p0 p1)), .val (.long (p0.toInt64)), .second, .val (.long ((p1.toInt64) - (p0.toInt64))), .second, .val (.int (1 : Int32)), .val (.int (1 : Int32)), .unset, .unset, .unset]) rfl ?_
        show Steps p.tables e below (T21.setTop (mkF m 58 #[.val (.int p0), .val (.int p1), .val (.int (own_f1 p0 p1)), .val (.long (p0.toInt64)), .second, .val (.long ((p1.toInt64) - (p0.toInt64))), .second, .val (.int (1 : Int32)), .val (.int (1 : Int32)), .unset, .unset, .unset] [])) _
        refine XS.iconst X21.here hx rfl (hb hby at_58) ?_
        show Steps p.tables e below (T21.setTop (mkF m 59 #[.val (.int p0), .val (.int p1), .val (.int (own_f1 p0 p1)), .val (.long (p0.toInt64)), .second, .val (.long ((p1.toInt64) - (p0.toInt64))), .second, .val (.int (1 : Int32)), .val (.int (1 : Int32)), .unset, .unset, .unset] [(.int (0 : Int32))])) _
        refine XS.iloadN X21.here hx rfl (hb hby at_59) rfl ?_
        show Steps p.tables e below (T21.setTop (mkF m 60 #[.val (.int p0), .val (.int p1), .val (.int (own_f1 p0 p1)), .val (.long (p0.toInt64)), .second, .val (.long ((p1.toInt64) - (p0.toInt64))), .second, .val (.int (1 : Int32)), .val (.int (1 : Int32)), .unset, .unset, .unset] [(.int p1), (.int (0 : Int32))])) _
        refine st24 _ ?_
        show Steps p.tables e below (T24.setTop (mkF m 63 #[.val (.int p0), .val (.int p1), .val (.int (own_f1 p0 p1)), .val (.long (p0.toInt64)), .second, .val (.long ((p1.toInt64) - (p0.toInt64))), .second, .val (.int (1 : Int32)), .val (.int (1 : Int32)), .unset, .unset, .unset] [(.int (own_f1 (0 : Int32) p1))])) _
        refine XS.iloadN X24.here hx rfl (hb hby at_63) rfl ?_
        show Steps p.tables e below (T24.setTop (mkF m 64 #[.val (.int p0), .val (.int p1), .val (.int (own_f1 p0 p1)), .val (.long (p0.toInt64)), .second, .val (.long ((p1.toInt64) - (p0.toInt64))), .second, .val (.int (1 : Int32)), .val (.int (1 : Int32)), .unset, .unset, .unset] [(.int p1), (.int (own_f1 (0 : Int32) p1))])) _
        refine XS.ifYes X24.here hx rfl (pc0 := 64) (pc' := 71) rfl (hb hby at_64) rfl ((if0 _ _).trans (tlt hB).1) (by decide) (by decide) ?_
        show Steps p.tables e below (T24.setTop (mkF m 71 #[.val (.int p0), .val (.int p1), .val (.int (own_f1 p0 p1)), .val (.long (p0.toInt64)), .second, .val (.long ((p1.toInt64) - (p0.toInt64))), .second, .val (.int (1 : Int32)), .val (.int (1 : Int32)), .unset, .unset, .unset] [(.int (own_f1 (0 : Int32) p1))])) _
        refine XS.iconst X24.here hx rfl (hb hby at_71) ?_
        show Steps p.tables e below (T24.setTop (mkF m 72 #[.val (.int p0), .val (.int p1), .val (.int (own_f1 p0 p1)), .val (.long (p0.toInt64)), .second, .val (.long ((p1.toInt64) - (p0.toInt64))), .second, .val (.int (1 : Int32)), .val (.int (1 : Int32)), .unset, .unset, .unset] [(.int (0 : Int32)), (.int (own_f1 (0 : Int32) p1))])) _
        refine XS.icmpNo X24.here hx rfl (hb hby at_72) rfl (teq (own_c1 hB)).2 ?_
        show Steps p.tables e below (T24.setTop (mkF m 75 #[.val (.int p0), .val (.int p1), .val (.int (own_f1 p0 p1)), .val (.long (p0.toInt64)), .second, .val (.long ((p1.toInt64) - (p0.toInt64))), .second, .val (.int (1 : Int32)), .val (.int (1 : Int32)), .unset, .unset, .unset] [])) _
        refine XS.iconst X24.here hx rfl (hb hby at_75) ?_
        show Steps p.tables e below (T24.setTop (mkF m 76 #[.val (.int p0), .val (.int p1), .val (.int (own_f1 p0 p1)), .val (.long (p0.toInt64)), .second, .val (.long ((p1.toInt64) - (p0.toInt64))), .second, .val (.int (1 : Int32)), .val (.int (1 : Int32)), .unset, .unset, .unset] [(.int (1 : Int32))])) _
        refine XS.goto X24.here hx rfl (pc0 := 76) (pc' := 80) rfl (hb hby at_76) (by decide) (by decide) ?_
        show Steps p.tables e below (T24.setTop (mkF m 80 #[.val (.int p0), .val (.int p1), .val (.int (own_f1 p0 p1)), .val (.long (p0.toInt64)), .second, .val (.long ((p1.toInt64) - (p0.toInt64))), .second, .val (.int (1 : Int32)), .val (.int (1 : Int32)), .unset, .unset, .unset] [(.int (1 : Int32))])) _
        refine XS.istore X24.here hx rfl (hb hby at_80) rfl (l' := #[.val (.int p0), .val (.int p1), .val (.int (own_f1 p0 p1)), .val (.long (p0.toInt64)), .second, .val (.long ((p1.toInt64) - (p0.toInt64))), .second, .val (.int (1 : Int32)), .val (.int (1 : Int32)), .val (.int (1 : Int32)), .unset, .unset]) rfl ?_
        show Steps p.tables e below (T24.setTop (mkF m 82 #[.val (.int p0), .val (.int p1), .val (.int (own_f1 p0 p1)), .val (.long (p0.toInt64)), .second, .val (.long ((p1.toInt64) - (p0.toInt64))), .second, .val (.int (1 : Int32)), .val (.int (1 : Int32)), .val (.int (1 : Int32)), .unset, .unset] [])) _
        refine XS.iconst X24.here hx rfl (hb hby at_82) ?_
        show Steps p.tables e below (T24.setTop (mkF m 83 #[.val (.int p0), .val (.int p1), .val (.int (own_f1 p0 p1)), .val (.long (p0.toInt64)), .second, .val (.long ((p1.toInt64) - (p0.toInt64))), .second, .val (.int (1 : Int32)), .val (.int (1 : Int32)), .val (.int (1 : Int32)), .unset, .unset] [(.int (-1 : Int32))])) _
        refine XS.iloadN X24.here hx rfl (hb hby at_83) rfl ?_
        show Steps p.tables e below (T24.setTop (mkF m 84 #[.val (.int p0), .val (.int p1), .val (.int (own_f1 p0 p1)), .val (.long (p0.toInt64)), .second, .val (.long ((p1.toInt64) - (p0.toInt64))), .second, .val (.int (1 : Int32)), .val (.int (1 : Int32)), .val (.int (1 : Int32)), .unset, .unset] [(.int p1), (.int (-1 : Int32))])) _
        refine st26 _ ?_
        show Steps p.tables e below (T26.setTop (mkF m 87 #[.val (.int p0), .val (.int p1), .val (.int (own_f1 p0 p1)), .val (.long (p0.toInt64)), .second, .val (.long ((p1.toInt64) - (p0.toInt64))), .second, .val (.int (1 : Int32)), .val (.int (1 : Int32)), .val (.int (1 : Int32)), .unset, .unset] [(.int (own_f1 (-1 : Int32) p1))])) _
        refine XS.ifNo X26.here hx rfl (hb hby at_87) rfl ((if0 _ _).trans (teq own_d).2) ?_
        show Steps p.tables e below (T26.setTop (mkF m 90 #[.val (.int p0), .val (.int p1), .val (.int (own_f1 p0 p1)), .val (.long (p0.toInt64)), .second, .val (.long ((p1.toInt64) - (p0.toInt64))), .second, .val (.int (1 : Int32)), .val (.int (1 : Int32)), .val (.int (1 : Int32)), .unset, .unset] [])) _
        refine XS.iconst X26.here hx rfl (hb hby at_90) ?_
        show Steps p.tables e below (T26.setTop (mkF m 91 #[.val (.int p0), .val (.int p1), .val (.int (own_f1 p0 p1)), .val (.long (p0.toInt64)), .second, .val (.long ((p1.toInt64) - (p0.toInt64))), .second, .val (.int (1 : Int32)), .val (.int (1 : Int32)), .val (.int (1 : Int32)), .unset, .unset] [(.int (1 : Int32))])) _
        refine XS.goto X26.here hx rfl (pc0 := 91) (pc' := 95) rfl (hb hby at_91) (by decide) (by decide) ?_
        show Steps p.tables e below (T26.setTop (mkF m 95 #[.val (.int p0), .val (.int p1), .val (.int (own_f1 p0 p1)), .val (.long (p0.toInt64)), .second, .val (.long ((p1.toInt64) - (p0.toInt64))), .second, .val (.int (1 : Int32)), .val (.int (1 : Int32)), .val (.int (1 : Int32)), .unset, .unset] [(.int (1 : Int32))])) _
        refine XS.istore X26.here hx rfl (hb hby at_95) rfl (l' := #[.val (.int p0), .val (.int p1), .val (.int (own_f1 p0 p1)), .val (.long (p0.toInt64)), .second, .val (.long ((p1.toInt64) - (p0.toInt64))), .second, .val (.int (1 : Int32)), .val (.int (1 : Int32)), .val (.int (1 : Int32)), .val (.int (1 : Int32)), .unset]) rfl ?_
        show Steps p.tables e below (T26.setTop (mkF m 97 #[.val (.int p0), .val (.int p1), .val (.int (own_f1 p0 p1)), .val (.long (p0.toInt64)), .second, .val (.long ((p1.toInt64) - (p0.toInt64))), .second, .val (.int (1 : Int32)), .val (.int (1 : Int32)), .val (.int (1 : Int32)), .val (.int (1 : Int32)), .unset] [])) _
        refine XS.iloadN X26.here hx rfl (hb hby at_97) rfl ?_
        show Steps p.tables e below (T26.setTop (mkF m 98 #[.val (.int p0), .val (.int p1), .val (.int (own_f1 p0 p1)), .val (.long (p0.toInt64)), .second, .val (.long ((p1.toInt64) - (p0.toInt64))), .second, .val (.int (1 : Int32)), .val (.int (1 : Int32)), .val (.int (1 : Int32)), .val (.int (1 : Int32)), .unset] [(.int p1)])) _
        refine XS.iconst X26.here hx rfl (hb hby at_98) ?_
        show Steps p.tables e below (T26.setTop (mkF m 99 #[.val (.int p0), .val (.int p1), .val (.int (own_f1 p0 p1)), .val (.long (p0.toInt64)), .second, .val (.long ((p1.toInt64) - (p0.toInt64))), .second, .val (.int (1 : Int32)), .val (.int (1 : Int32)), .val (.int (1 : Int32)), .val (.int (1 : Int32)), .unset] [(.int (1 : Int32)), (.int p1)])) _
        refine XS.iadd X26.here hx rfl (hb hby at_99) rfl ?_
        show Steps p.tables e below (T26.setTop (mkF m 100 #[.val (.int p0), .val (.int p1), .val (.int (own_f1 p0 p1)), .val (.long (p0.toInt64)), .second, .val (.long ((p1.toInt64) - (p0.toInt64))), .second, .val (.int (1 : Int32)), .val (.int (1 : Int32)), .val (.int (1 : Int32)), .val (.int (1 : Int32)), .unset] [(.int (p1 + (1 : Int32)))])) _
        refine XS.iloadN X26.here hx rfl (hb hby at_100) rfl ?_
        show Steps p.tables e below (T26.setTop (mkF m 101 #[.val (.int p0), .val (.int p1), .val (.int (own_f1 p0 p1)), .val (.long (p0.toInt64)), .second, .val (.long ((p1.toInt64) - (p0.toInt64))), .second, .val (.int (1 : Int32)), .val (.int (1 : Int32)), .val (.int (1 : Int32)), .val (.int (1 : Int32)), .unset] [(.int p1), (.int (p1 + (1 : Int32)))])) _
        refine st28 _ ?_
        show Steps p.tables e below (T28.setTop (mkF m 104 #[.val (.int p0), .val (.int p1), .val (.int (own_f1 p0 p1)), .val (.long (p0.toInt64)), .second, .val (.long ((p1.toInt64) - (p0.toInt64))), .second, .val (.int (1 : Int32)), .val (.int (1 : Int32)), .val (.int (1 : Int32)), .val (.int (1 : Int32)), .unset] [(.int (own_f1 (p1 + (1 : Int32)) p1))])) _
        refine XS.ifNo X28.here hx rfl (hb hby at_104) rfl ((if0 _ _).trans (teq own_e).2) ?_
        show Steps p.tables e below (T28.setTop (mkF m 107 #[.val (.int p0), .val (.int p1), .val (.int (own_f1 p0 p1)), .val (.long (p0.toInt64)), .second, .val (.long ((p1.toInt64) - (p0.toInt64))), .second, .val (.int (1 : Int32)), .val (.int (1 : Int32)), .val (.int (1 : Int32)), .val (.int (1 : Int32)), .unset] [])) _
        refine XS.iconst X28.here hx rfl (hb hby at_107) ?_
        show Steps p.tables e below (T28.setTop (mkF m 108 #[.val (.int p0), .val (.int p1), .val (.int (own_f1 p0 p1)), .val (.long (p0.toInt64)), .second, .val (.long ((p1.toInt64) - (p0.toInt64))), .second, .val (.int (1 : Int32)), .val (.int (1 : Int32)), .val (.int (1 : Int32)), .val (.int (1 : Int32)), .unset] [(.int (1 : Int32))])) _
        refine XS.goto X28.here hx rfl (pc0 := 108) (pc' := 112) rfl (hb hby at_108) (by decide) (by decide) ?_
        show Steps p.tables e below (T28.setTop (mkF m 112 #[.val (.int p0), .val (.int p1), .val (.int (own_f1 p0 p1)), .val (.long (p0.toInt64)), .second, .val (.long ((p1.toInt64) - (p0.toInt64))), .second, .val (.int (1 : Int32)), .val (.int (1 : Int32)), .val (.int (1 : Int32)), .val (.int (1 : Int32)), .unset] [(.int (1 : Int32))])) _
        refine XS.istore X28.here hx rfl (hb hby at_112) rfl (l' := #[.val (.int p0), .val (.int p1), .val (.int (own_f1 p0 p1)), .val (.long (p0.toInt64)), .second, .val (.long ((p1.toInt64) - (p0.toInt64))), .second, .val (.int (1 : Int32)), .val (.int (1 : Int32)), .val (.int (1 : Int32)), .val (.int (1 : Int32)), .val (.int (1 : Int32))]) rfl ?_
        show Steps p.tables e below (T28.setTop (mkF m 114 #[.val (.int p0), .val (.int p1), .val (.int (own_f1 p0 p1)), .val (.long (p0.toInt64)), .second, .val (.long ((p1.toInt64) - (p0.toInt64))), .second, .val (.int (1 : Int32)), .val (.int (1 : Int32)), .val (.int (1 : Int32)), .val (.int (1 : Int32)), .val (.int (1 : Int32))] [])) _
        refine XS.iloadN X28.here hx rfl (hb hby at_114) rfl ?_
        show Steps p.tables e below (T28.setTop (mkF m 115 #[.val (.int p0), .val (.int p1), .val (.int (own_f1 p0 p1)), .val (.long (p0.toInt64)), .second, .val (.long ((p1.toInt64) - (p0.toInt64))), .second, .val (.int (1 : Int32)), .val (.int (1 : Int32)), .val (.int (1 : Int32)), .val (.int (1 : Int32)), .val (.int (1 : Int32))] [(.int (own_f1 p0 p1))])) _
        refine XS.iload X28.here hx rfl (hb hby at_115) rfl ?_
        show Steps p.tables e below (T28.setTop (mkF m 117 #[.val (.int p0), .val (.int p1), .val (.int (own_f1 p0 p1)), .val (.long (p0.toInt64)), .second, .val (.long ((p1.toInt64) - (p0.toInt64))), .second, .val (.int (1 : Int32)), .val (.int (1 : Int32)), .val (.int (1 : Int32)), .val (.int (1 : Int32)), .val (.int (1 : Int32))] [(.int (1 : Int32)), (.int (own_f1 p0 p1))])) _
        refine XS.icmpNo X28.here hx rfl (hb hby at_117) rfl (teq (own_a0 hA)).2 ?_
        show Steps p.tables e below (T28.setTop (mkF m 120 #[.val (.int p0), .val (.int p1), .val (.int (own_f1 p0 p1)), .val (.long (p0.toInt64)), .second, .val (.long ((p1.toInt64) - (p0.toInt64))), .second, .val (.int (1 : Int32)), .val (.int (1 : Int32)), .val (.int (1 : Int32)), .val (.int (1 : Int32)), .val (.int (1 : Int32))] [])) _
        refine XS.iload X28.here hx rfl (hb hby at_120) rfl ?_
        show Steps p.tables e below (T28.setTop (mkF m 122 #[.val (.int p0), .val (.int p1), .val (.int (own_f1 p0 p1)), .val (.long (p0.toInt64)), .second, .val (.long ((p1.toInt64) - (p0.toInt64))), .second, .val (.int (1 : Int32)), .val (.int (1 : Int32)), .val (.int (1 : Int32)), .val (.int (1 : Int32)), .val (.int (1 : Int32))] [(.int (1 : Int32))])) _
        refine XS.ifNo X28.here hx rfl (hb hby at_122) rfl ((if0 _ _).trans (feq (by decide : ¬ ((1 : Int32) = (0 : Int32)))).1) ?_
        show Steps p.tables e below (T28.setTop (mkF m 125 #[.val (.int p0), .val (.int p1), .val (.int (own_f1 p0 p1)), .val (.long (p0.toInt64)), .second, .val (.long ((p1.toInt64) - (p0.toInt64))), .second, .val (.int (1 : Int32)), .val (.int (1 : Int32)), .val (.int (1 : Int32)), .val (.int (1 : Int32)), .val (.int (1 : Int32))] [])) _
        refine XS.iload X28.here hx rfl (hb hby at_125) rfl ?_
        show Steps p.tables e below (T28.setTop (mkF m 127 #[.val (.int p0), .val (.int p1), .val (.int (own_f1 p0 p1)), .val (.long (p0.toInt64)), .second, .val (.long ((p1.toInt64) - (p0.toInt64))), .second, .val (.int (1 : Int32)), .val (.int (1 : Int32)), .val (.int (1 : Int32)), .val (.int (1 : Int32)), .val (.int (1 : Int32))] [(.int (1 : Int32))])) _
        refine XS.ifNo X28.here hx rfl (hb hby at_127) rfl ((if0 _ _).trans (feq (by decide : ¬ ((1 : Int32) = (0 : Int32)))).1) ?_
        show Steps p.tables e below (T28.setTop (mkF m 130 #[.val (.int p0), .val (.int p1), .val (.int (own_f1 p0 p1)), .val (.long (p0.toInt64)), .second, .val (.long ((p1.toInt64) - (p0.toInt64))), .second, .val (.int (1 : Int32)), .val (.int (1 : Int32)), .val (.int (1 : Int32)), .val (.int (1 : Int32)), .val (.int (1 : Int32))] [])) _
        refine XS.iload X28.here hx rfl (hb hby at_130) rfl ?_
        show Steps p.tables e below (T28.setTop (mkF m 132 #[.val (.int p0), .val (.int p1), .val (.int (own_f1 p0 p1)), .val (.long (p0.toInt64)), .second, .val (.long ((p1.toInt64) - (p0.toInt64))), .second, .val (.int (1 : Int32)), .val (.int (1 : Int32)), .val (.int (1 : Int32)), .val (.int (1 : Int32)), .val (.int (1 : Int32))] [(.int (1 : Int32))])) _
        refine XS.ifNo X28.here hx rfl (hb hby at_132) rfl ((if0 _ _).trans (feq (by decide : ¬ ((1 : Int32) = (0 : Int32)))).1) ?_
        show Steps p.tables e below (T28.setTop (mkF m 135 #[.val (.int p0), .val (.int p1), .val (.int (own_f1 p0 p1)), .val (.long (p0.toInt64)), .second, .val (.long ((p1.toInt64) - (p0.toInt64))), .second, .val (.int (1 : Int32)), .val (.int (1 : Int32)), .val (.int (1 : Int32)), .val (.int (1 : Int32)), .val (.int (1 : Int32))] [])) _
        refine XS.iload X28.here hx rfl (hb hby at_135) rfl ?_
        show Steps p.tables e below (T28.setTop (mkF m 137 #[.val (.int p0), .val (.int p1), .val (.int (own_f1 p0 p1)), .val (.long (p0.toInt64)), .second, .val (.long ((p1.toInt64) - (p0.toInt64))), .second, .val (.int (1 : Int32)), .val (.int (1 : Int32)), .val (.int (1 : Int32)), .val (.int (1 : Int32)), .val (.int (1 : Int32))] [(.int (1 : Int32))])) _
        refine XS.ifNo X28.here hx rfl (hb hby at_137) rfl ((if0 _ _).trans (feq (by decide : ¬ ((1 : Int32) = (0 : Int32)))).1) ?_
        show Steps p.tables e below (T28.setTop (mkF m 140 #[.val (.int p0), .val (.int p1), .val (.int (own_f1 p0 p1)), .val (.long (p0.toInt64)), .second, .val (.long ((p1.toInt64) - (p0.toInt64))), .second, .val (.int (1 : Int32)), .val (.int (1 : Int32)), .val (.int (1 : Int32)), .val (.int (1 : Int32)), .val (.int (1 : Int32))] [])) _
        refine XS.iconst X28.here hx rfl (hb hby at_140) ?_
        show Steps p.tables e below (T28.setTop (mkF m 141 #[.val (.int p0), .val (.int p1), .val (.int (own_f1 p0 p1)), .val (.long (p0.toInt64)), .second, .val (.long ((p1.toInt64) - (p0.toInt64))), .second, .val (.int (1 : Int32)), .val (.int (1 : Int32)), .val (.int (1 : Int32)), .val (.int (1 : Int32)), .val (.int (1 : Int32))] [(.int (1 : Int32))])) _
        refine XS.goto X28.here hx rfl (pc0 := 141) (pc' := 145) rfl (hb hby at_141) (by decide) (by decide) ?_
        show Steps p.tables e below (T28.setTop (mkF m 145 #[.val (.int p0), .val (.int p1), .val (.int (own_f1 p0 p1)), .val (.long (p0.toInt64)), .second, .val (.long ((p1.toInt64) - (p0.toInt64))), .second, .val (.int (1 : Int32)), .val (.int (1 : Int32)), .val (.int (1 : Int32)), .val (.int (1 : Int32)), .val (.int (1 : Int32))] [(.int (1 : Int32))])) _
        exact retN X28 hx (t := .boolean) Bd.returns (by simp) (hb hby at_145) hr
      · show Q0 Z p0 p1 h0 n0 _ T28.heap _
        rw [e28]
        exact ⟨rfl, N29⟩
    · obtain ⟨_, _, ⟨T30, L30, k30, n30⟩, -, X30, ⟨Lc30, hQ30, l30, y30, z30⟩, st30⟩ := Jvm.LawKit.callS X21 hx (y := (⟨"com/example/link7/link7/rule/RuleBatch", "isCode", "(II)Z"⟩ : MethodName)) hown (mvT hZ (hw _ (List.mem_of_getElem? (i := 0) rfl))) (mvT hZ (hw _ (List.mem_of_getElem? (i := 1) rfl))) (mvT hZ (hw _ (List.mem_of_getElem? (i := 2) rfl))) (mvT hZ (hw _ (List.mem_of_getElem? (i := 3) rfl))) (by decide) (backOf (W := 0) (rm1 l Z a0 hw [] (0 : Int32) p1  h0 n0 Z0 ) hZ (hw _ (List.mem_of_getElem? (i := 3) rfl)) (hw _ (List.mem_of_getElem? (i := 2) rfl)) (by decide) (by decide)) (g := (mkF m 60 #[.val (.int p0), .val (.int p1), .val (.int (own_f1 p0 p1)), .val (.long (p0.toInt64)), .second, .val (.long ((p1.toInt64) - (p0.toInt64))), .second, .val (.int (1 : Int32)), .val (.int (1 : Int32)), .unset, .unset, .unset] [(.int p1), (.int (0 : Int32))])) rfl (by rw [hml]; rfl) (argsL := [(.int (0 : Int32)), (.int p1)]) (rest := []) (lenOf pd_0 rfl) rfl (by show 2 * 0 + _ ≤ _; exact Nat.le_of_eq rfl) (hb hby at_60) (fun _ _ => ⟨rfl, e21, (by decide : 0 + 0 ≤ _), (by decide : 0 + 0 ≤ _)⟩)
      dsimp only [Pt.U, Pt.locs, Pt.cells, Pt.slots] at X30 l30 y30 z30 st30 hQ30
      subst l30 y30 z30
      obtain ⟨rfl, Nq30, e30⟩ := hQ30
      have N31 := Fr.app N22 Nq30
      obtain ⟨_, _, ⟨T32, L32, k32, n32⟩, -, X32, ⟨Lc32, hQ32, l32, y32, z32⟩, st32⟩ := Jvm.LawKit.callS X30 hx (y := (⟨"com/example/link7/link7/rule/RuleBatch", "isCode", "(II)Z"⟩ : MethodName)) hown (mvT hZ (hw _ (List.mem_of_getElem? (i := 0) rfl))) (mvT hZ (hw _ (List.mem_of_getElem? (i := 1) rfl))) (mvT hZ (hw _ (List.mem_of_getElem? (i := 2) rfl))) (mvT hZ (hw _ (List.mem_of_getElem? (i := 3) rfl))) (by decide) (backOf (W := 0) (rm1 l Z a0 hw [] (-1 : Int32) p1  h0 n0 Z0 ) hZ (hw _ (List.mem_of_getElem? (i := 3) rfl)) (hw _ (List.mem_of_getElem? (i := 2) rfl)) (by decide) (by decide)) (g := (mkF m 84 #[.val (.int p0), .val (.int p1), .val (.int (own_f1 p0 p1)), .val (.long (p0.toInt64)), .second, .val (.long ((p1.toInt64) - (p0.toInt64))), .second, .val (.int (1 : Int32)), .val (.int (1 : Int32)), .val (.int (1 : Int32)), .unset, .unset] [(.int p1), (.int (-1 : Int32))])) rfl (by rw [hml]; rfl) (argsL := [(.int (-1 : Int32)), (.int p1)]) (rest := []) (lenOf pd_0 rfl) rfl (by show 2 * 0 + _ ≤ _; exact Nat.le_of_eq rfl) (hb hby at_84) (fun _ _ => ⟨rfl, e30, (by decide : 0 + 0 ≤ _), (by decide : 0 + 0 ≤ _)⟩)
      dsimp only [Pt.U, Pt.locs, Pt.cells, Pt.slots] at X32 l32 y32 z32 st32 hQ32
      subst l32 y32 z32
      obtain ⟨rfl, Nq32, e32⟩ := hQ32
      have N33 := Fr.app N31 Nq32
      obtain ⟨_, _, ⟨T34, L34, k34, n34⟩, -, X34, ⟨Lc34, hQ34, l34, y34, z34⟩, st34⟩ := Jvm.LawKit.callS X32 hx (y := (⟨"com/example/link7/link7/rule/RuleBatch", "isCode", "(II)Z"⟩ : MethodName)) hown (mvT hZ (hw _ (List.mem_of_getElem? (i := 0) rfl))) (mvT hZ (hw _ (List.mem_of_getElem? (i := 1) rfl))) (mvT hZ (hw _ (List.mem_of_getElem? (i := 2) rfl))) (mvT hZ (hw _ (List.mem_of_getElem? (i := 3) rfl))) (by decide) (backOf (W := 0) (rm1 l Z a0 hw [] (p1 + (1 : Int32)) p1  h0 n0 Z0 ) hZ (hw _ (List.mem_of_getElem? (i := 3) rfl)) (hw _ (List.mem_of_getElem? (i := 2) rfl)) (by decide) (by decide)) (g := (mkF m 101 #[.val (.int p0), .val (.int p1), .val (.int (own_f1 p0 p1)), .val (.long (p0.toInt64)), .second, .val (.long ((p1.toInt64) - (p0.toInt64))), .second, .val (.int (1 : Int32)), .val (.int (1 : Int32)), .val (.int (1 : Int32)), .val (.int (1 : Int32)), .unset] [(.int p1), (.int (p1 + (1 : Int32)))])) rfl (by rw [hml]; rfl) (argsL := [(.int (p1 + (1 : Int32))), (.int p1)]) (rest := []) (lenOf pd_0 rfl) rfl (by show 2 * 0 + _ ≤ _; exact Nat.le_of_eq rfl) (hb hby at_101) (fun _ _ => ⟨rfl, e32, (by decide : 0 + 0 ≤ _), (by decide : 0 + 0 ≤ _)⟩)
      dsimp only [Pt.U, Pt.locs, Pt.cells, Pt.slots] at X34 l34 y34 z34 st34 hQ34
      subst l34 y34 z34
      obtain ⟨rfl, Nq34, e34⟩ := hQ34
      have N35 := Fr.app N33 Nq34
      obtain ⟨fs, hr, hrun, hended, hW, hsame⟩ := X34.leave (v := some (.int (1 : Int32))) (fun h => by rw [Bd.returns] at h; cases h)
      refine ⟨_, _, pre23 _ ?_, hrun, hended, _, _, rfl, ?_, ⟨_, rfl⟩, hW, hsame.mono (by decide) (by decide)⟩
      · show Steps p.tables e below (T21.setTop (mkF m 40 #[.val (.int p0), .val (.int p1), .val (.int (own_f1 p0 p1)), .val (.long (p0.toInt64)), .second, .val (.long ((p1.toInt64) - (p0.toInt64))), .second, .val (.int (1 : Int32)), .unset, .unset, .unset, .unset] [(.int p1), (.int (own_f1 p1 p1))])) _
        refine XS.ifNo X21.here hx rfl (hb hby at_40) rfl ((if0 _ _).trans (flt hB).1) ?_
        show Steps p.tables e below (T21.setTop (mkF m 43 #[.val (.int p0), .val (.int p1), .val (.int (own_f1 p0 p1)), .val (.long (p0.toInt64)), .second, .val (.long ((p1.toInt64) - (p0.toInt64))), .second, .val (.int (1 : Int32)), .unset, .unset, .unset, .unset] [(.int (own_f1 p1 p1))])) _
        refine XS.iconst X21.here hx rfl (hb hby at_43) ?_
        show Steps p.tables e below (T21.setTop (mkF m 44 #[.val (.int p0), .val (.int p1), .val (.int (own_f1 p0 p1)), .val (.long (p0.toInt64)), .second, .val (.long ((p1.toInt64) - (p0.toInt64))), .second, .val (.int (1 : Int32)), .unset, .unset, .unset, .unset] [(.int (1 : Int32)), (.int (own_f1 p1 p1))])) _
        refine XS.goto X21.here hx rfl (pc0 := 44) (pc' := 48) rfl (hb hby at_44) (by decide) (by decide) ?_
        show Steps p.tables e below (T21.setTop (mkF m 48 #[.val (.int p0), .val (.int p1), .val (.int (own_f1 p0 p1)), .val (.long (p0.toInt64)), .second, .val (.long ((p1.toInt64) - (p0.toInt64))), .second, .val (.int (1 : Int32)), .unset, .unset, .unset, .unset] [(.int (1 : Int32)), (.int (own_f1 p1 p1))])) _
        refine XS.icmpNo X21.here hx rfl (hb hby at_48) rfl (teq (own_b0 hB)).2 ?_
        show Steps p.tables e below (T21.setTop (mkF m 51 #[.val (.int p0), .val (.int p1), .val (.int (own_f1 p0 p1)), .val (.long (p0.toInt64)), .second, .val (.long ((p1.toInt64) - (p0.toInt64))), .second, .val (.int (1 : Int32)), .unset, .unset, .unset, .unset] [])) _
        refine XS.iconst X21.here hx rfl (hb hby at_51) ?_
        show Steps p.tables e below (T21.setTop (mkF m 52 #[.val (.int p0), .val (.int p1), .val (.int (own_f1 p0 p1)), .val (.long (p0.toInt64)), .second, .val (.long ((p1.toInt64) - (p0.toInt64))), .second, .val (.int (1 : Int32)), .unset, .unset, .unset, .unset] [(.int (1 : Int32))])) _
        refine XS.goto X21.here hx rfl (pc0 := 52) (pc' := 56) rfl (hb hby at_52) (by decide) (by decide) ?_
        show Steps p.tables e below (T21.setTop (mkF m 56 #[.val (.int p0), .val (.int p1), .val (.int (own_f1 p0 p1)), .val (.long (p0.toInt64)), .second, .val (.long ((p1.toInt64) - (p0.toInt64))), .second, .val (.int (1 : Int32)), .unset, .unset, .unset, .unset] [(.int (1 : Int32))])) _
        refine XS.istore X21.here hx rfl (hb hby at_56) rfl (l' := #[.val (.int p0), .val (.int p1), .val (.int (own_f1 p0 p1)), .val (.long (p0.toInt64)), .second, .val (.long ((p1.toInt64) - (p0.toInt64))), .second, .val (.int (1 : Int32)), .val (.int (1 : Int32)), .unset, .unset, .unset]) rfl ?_
        show Steps p.tables e below (T21.setTop (mkF m 58 #[.val (.int p0), .val (.int p1), .val (.int (own_f1 p0 p1)), .val (.long (p0.toInt64)), .second, .val (.long ((p1.toInt64) - (p0.toInt64))), .second, .val (.int (1 : Int32)), .val (.int (1 : Int32)), .unset, .unset, .unset] [])) _
        refine XS.iconst X21.here hx rfl (hb hby at_58) ?_
        show Steps p.tables e below (T21.setTop (mkF m 59 #[.val (.int p0), .val (.int p1), .val (.int (own_f1 p0 p1)), .val (.long (p0.toInt64)), .second, .val (.long ((p1.toInt64) - (p0.toInt64))), .second, .val (.int (1 : Int32)), .val (.int (1 : Int32)), .unset, .unset, .unset] [(.int (0 : Int32))])) _
        refine XS.iloadN X21.here hx rfl (hb hby at_59) rfl ?_
        show Steps p.tables e below (T21.setTop (mkF m 60 #[.val (.int p0), .val (.int p1), .val (.int (own_f1 p0 p1)), .val (.long (p0.toInt64)), .second, .val (.long ((p1.toInt64) - (p0.toInt64))), .second, .val (.int (1 : Int32)), .val (.int (1 : Int32)), .unset, .unset, .unset] [(.int p1), (.int (0 : Int32))])) _
        refine st30 _ ?_
        show Steps p.tables e below (T30.setTop (mkF m 63 #[.val (.int p0), .val (.int p1), .val (.int (own_f1 p0 p1)), .val (.long (p0.toInt64)), .second, .val (.long ((p1.toInt64) - (p0.toInt64))), .second, .val (.int (1 : Int32)), .val (.int (1 : Int32)), .unset, .unset, .unset] [(.int (own_f1 (0 : Int32) p1))])) _
        refine XS.iloadN X30.here hx rfl (hb hby at_63) rfl ?_
        show Steps p.tables e below (T30.setTop (mkF m 64 #[.val (.int p0), .val (.int p1), .val (.int (own_f1 p0 p1)), .val (.long (p0.toInt64)), .second, .val (.long ((p1.toInt64) - (p0.toInt64))), .second, .val (.int (1 : Int32)), .val (.int (1 : Int32)), .unset, .unset, .unset] [(.int p1), (.int (own_f1 (0 : Int32) p1))])) _
        refine XS.ifNo X30.here hx rfl (hb hby at_64) rfl ((if0 _ _).trans (flt hB).1) ?_
        show Steps p.tables e below (T30.setTop (mkF m 67 #[.val (.int p0), .val (.int p1), .val (.int (own_f1 p0 p1)), .val (.long (p0.toInt64)), .second, .val (.long ((p1.toInt64) - (p0.toInt64))), .second, .val (.int (1 : Int32)), .val (.int (1 : Int32)), .unset, .unset, .unset] [(.int (own_f1 (0 : Int32) p1))])) _
        refine XS.iconst X30.here hx rfl (hb hby at_67) ?_
        show Steps p.tables e below (T30.setTop (mkF m 68 #[.val (.int p0), .val (.int p1), .val (.int (own_f1 p0 p1)), .val (.long (p0.toInt64)), .second, .val (.long ((p1.toInt64) - (p0.toInt64))), .second, .val (.int (1 : Int32)), .val (.int (1 : Int32)), .unset, .unset, .unset] [(.int (1 : Int32)), (.int (own_f1 (0 : Int32) p1))])) _
        refine XS.goto X30.here hx rfl (pc0 := 68) (pc' := 72) rfl (hb hby at_68) (by decide) (by decide) ?_
        show Steps p.tables e below (T30.setTop (mkF m 72 #[.val (.int p0), .val (.int p1), .val (.int (own_f1 p0 p1)), .val (.long (p0.toInt64)), .second, .val (.long ((p1.toInt64) - (p0.toInt64))), .second, .val (.int (1 : Int32)), .val (.int (1 : Int32)), .unset, .unset, .unset] [(.int (1 : Int32)), (.int (own_f1 (0 : Int32) p1))])) _
        refine XS.icmpNo X30.here hx rfl (hb hby at_72) rfl (teq (own_c0 hB)).2 ?_
        show Steps p.tables e below (T30.setTop (mkF m 75 #[.val (.int p0), .val (.int p1), .val (.int (own_f1 p0 p1)), .val (.long (p0.toInt64)), .second, .val (.long ((p1.toInt64) - (p0.toInt64))), .second, .val (.int (1 : Int32)), .val (.int (1 : Int32)), .unset, .unset, .unset] [])) _
        refine XS.iconst X30.here hx rfl (hb hby at_75) ?_
        show Steps p.tables e below (T30.setTop (mkF m 76 #[.val (.int p0), .val (.int p1), .val (.int (own_f1 p0 p1)), .val (.long (p0.toInt64)), .second, .val (.long ((p1.toInt64) - (p0.toInt64))), .second, .val (.int (1 : Int32)), .val (.int (1 : Int32)), .unset, .unset, .unset] [(.int (1 : Int32))])) _
        refine XS.goto X30.here hx rfl (pc0 := 76) (pc' := 80) rfl (hb hby at_76) (by decide) (by decide) ?_
        show Steps p.tables e below (T30.setTop (mkF m 80 #[.val (.int p0), .val (.int p1), .val (.int (own_f1 p0 p1)), .val (.long (p0.toInt64)), .second, .val (.long ((p1.toInt64) - (p0.toInt64))), .second, .val (.int (1 : Int32)), .val (.int (1 : Int32)), .unset, .unset, .unset] [(.int (1 : Int32))])) _
        refine XS.istore X30.here hx rfl (hb hby at_80) rfl (l' := #[.val (.int p0), .val (.int p1), .val (.int (own_f1 p0 p1)), .val (.long (p0.toInt64)), .second, .val (.long ((p1.toInt64) - (p0.toInt64))), .second, .val (.int (1 : Int32)), .val (.int (1 : Int32)), .val (.int (1 : Int32)), .unset, .unset]) rfl ?_
        show Steps p.tables e below (T30.setTop (mkF m 82 #[.val (.int p0), .val (.int p1), .val (.int (own_f1 p0 p1)), .val (.long (p0.toInt64)), .second, .val (.long ((p1.toInt64) - (p0.toInt64))), .second, .val (.int (1 : Int32)), .val (.int (1 : Int32)), .val (.int (1 : Int32)), .unset, .unset] [])) _
        refine XS.iconst X30.here hx rfl (hb hby at_82) ?_
        show Steps p.tables e below (T30.setTop (mkF m 83 #[.val (.int p0), .val (.int p1), .val (.int (own_f1 p0 p1)), .val (.long (p0.toInt64)), .second, .val (.long ((p1.toInt64) - (p0.toInt64))), .second, .val (.int (1 : Int32)), .val (.int (1 : Int32)), .val (.int (1 : Int32)), .unset, .unset] [(.int (-1 : Int32))])) _
        refine XS.iloadN X30.here hx rfl (hb hby at_83) rfl ?_
        show Steps p.tables e below (T30.setTop (mkF m 84 #[.val (.int p0), .val (.int p1), .val (.int (own_f1 p0 p1)), .val (.long (p0.toInt64)), .second, .val (.long ((p1.toInt64) - (p0.toInt64))), .second, .val (.int (1 : Int32)), .val (.int (1 : Int32)), .val (.int (1 : Int32)), .unset, .unset] [(.int p1), (.int (-1 : Int32))])) _
        refine st32 _ ?_
        show Steps p.tables e below (T32.setTop (mkF m 87 #[.val (.int p0), .val (.int p1), .val (.int (own_f1 p0 p1)), .val (.long (p0.toInt64)), .second, .val (.long ((p1.toInt64) - (p0.toInt64))), .second, .val (.int (1 : Int32)), .val (.int (1 : Int32)), .val (.int (1 : Int32)), .unset, .unset] [(.int (own_f1 (-1 : Int32) p1))])) _
        refine XS.ifNo X32.here hx rfl (hb hby at_87) rfl ((if0 _ _).trans (teq own_d).2) ?_
        show Steps p.tables e below (T32.setTop (mkF m 90 #[.val (.int p0), .val (.int p1), .val (.int (own_f1 p0 p1)), .val (.long (p0.toInt64)), .second, .val (.long ((p1.toInt64) - (p0.toInt64))), .second, .val (.int (1 : Int32)), .val (.int (1 : Int32)), .val (.int (1 : Int32)), .unset, .unset] [])) _
        refine XS.iconst X32.here hx rfl (hb hby at_90) ?_
        show Steps p.tables e below (T32.setTop (mkF m 91 #[.val (.int p0), .val (.int p1), .val (.int (own_f1 p0 p1)), .val (.long (p0.toInt64)), .second, .val (.long ((p1.toInt64) - (p0.toInt64))), .second, .val (.int (1 : Int32)), .val (.int (1 : Int32)), .val (.int (1 : Int32)), .unset, .unset] [(.int (1 : Int32))])) _
        refine XS.goto X32.here hx rfl (pc0 := 91) (pc' := 95) rfl (hb hby at_91) (by decide) (by decide) ?_
        show Steps p.tables e below (T32.setTop (mkF m 95 #[.val (.int p0), .val (.int p1), .val (.int (own_f1 p0 p1)), .val (.long (p0.toInt64)), .second, .val (.long ((p1.toInt64) - (p0.toInt64))), .second, .val (.int (1 : Int32)), .val (.int (1 : Int32)), .val (.int (1 : Int32)), .unset, .unset] [(.int (1 : Int32))])) _
        refine XS.istore X32.here hx rfl (hb hby at_95) rfl (l' := #[.val (.int p0), .val (.int p1), .val (.int (own_f1 p0 p1)), .val (.long (p0.toInt64)), .second, .val (.long ((p1.toInt64) - (p0.toInt64))), .second, .val (.int (1 : Int32)), .val (.int (1 : Int32)), .val (.int (1 : Int32)), .val (.int (1 : Int32)), .unset]) rfl ?_
        show Steps p.tables e below (T32.setTop (mkF m 97 #[.val (.int p0), .val (.int p1), .val (.int (own_f1 p0 p1)), .val (.long (p0.toInt64)), .second, .val (.long ((p1.toInt64) - (p0.toInt64))), .second, .val (.int (1 : Int32)), .val (.int (1 : Int32)), .val (.int (1 : Int32)), .val (.int (1 : Int32)), .unset] [])) _
        refine XS.iloadN X32.here hx rfl (hb hby at_97) rfl ?_
        show Steps p.tables e below (T32.setTop (mkF m 98 #[.val (.int p0), .val (.int p1), .val (.int (own_f1 p0 p1)), .val (.long (p0.toInt64)), .second, .val (.long ((p1.toInt64) - (p0.toInt64))), .second, .val (.int (1 : Int32)), .val (.int (1 : Int32)), .val (.int (1 : Int32)), .val (.int (1 : Int32)), .unset] [(.int p1)])) _
        refine XS.iconst X32.here hx rfl (hb hby at_98) ?_
        show Steps p.tables e below (T32.setTop (mkF m 99 #[.val (.int p0), .val (.int p1), .val (.int (own_f1 p0 p1)), .val (.long (p0.toInt64)), .second, .val (.long ((p1.toInt64) - (p0.toInt64))), .second, .val (.int (1 : Int32)), .val (.int (1 : Int32)), .val (.int (1 : Int32)), .val (.int (1 : Int32)), .unset] [(.int (1 : Int32)), (.int p1)])) _
        refine XS.iadd X32.here hx rfl (hb hby at_99) rfl ?_
        show Steps p.tables e below (T32.setTop (mkF m 100 #[.val (.int p0), .val (.int p1), .val (.int (own_f1 p0 p1)), .val (.long (p0.toInt64)), .second, .val (.long ((p1.toInt64) - (p0.toInt64))), .second, .val (.int (1 : Int32)), .val (.int (1 : Int32)), .val (.int (1 : Int32)), .val (.int (1 : Int32)), .unset] [(.int (p1 + (1 : Int32)))])) _
        refine XS.iloadN X32.here hx rfl (hb hby at_100) rfl ?_
        show Steps p.tables e below (T32.setTop (mkF m 101 #[.val (.int p0), .val (.int p1), .val (.int (own_f1 p0 p1)), .val (.long (p0.toInt64)), .second, .val (.long ((p1.toInt64) - (p0.toInt64))), .second, .val (.int (1 : Int32)), .val (.int (1 : Int32)), .val (.int (1 : Int32)), .val (.int (1 : Int32)), .unset] [(.int p1), (.int (p1 + (1 : Int32)))])) _
        refine st34 _ ?_
        show Steps p.tables e below (T34.setTop (mkF m 104 #[.val (.int p0), .val (.int p1), .val (.int (own_f1 p0 p1)), .val (.long (p0.toInt64)), .second, .val (.long ((p1.toInt64) - (p0.toInt64))), .second, .val (.int (1 : Int32)), .val (.int (1 : Int32)), .val (.int (1 : Int32)), .val (.int (1 : Int32)), .unset] [(.int (own_f1 (p1 + (1 : Int32)) p1))])) _
        refine XS.ifNo X34.here hx rfl (hb hby at_104) rfl ((if0 _ _).trans (teq own_e).2) ?_
        show Steps p.tables e below (T34.setTop (mkF m 107 #[.val (.int p0), .val (.int p1), .val (.int (own_f1 p0 p1)), .val (.long (p0.toInt64)), .second, .val (.long ((p1.toInt64) - (p0.toInt64))), .second, .val (.int (1 : Int32)), .val (.int (1 : Int32)), .val (.int (1 : Int32)), .val (.int (1 : Int32)), .unset] [])) _
        refine XS.iconst X34.here hx rfl (hb hby at_107) ?_
        show Steps p.tables e below (T34.setTop (mkF m 108 #[.val (.int p0), .val (.int p1), .val (.int (own_f1 p0 p1)), .val (.long (p0.toInt64)), .second, .val (.long ((p1.toInt64) - (p0.toInt64))), .second, .val (.int (1 : Int32)), .val (.int (1 : Int32)), .val (.int (1 : Int32)), .val (.int (1 : Int32)), .unset] [(.int (1 : Int32))])) _
        refine XS.goto X34.here hx rfl (pc0 := 108) (pc' := 112) rfl (hb hby at_108) (by decide) (by decide) ?_
        show Steps p.tables e below (T34.setTop (mkF m 112 #[.val (.int p0), .val (.int p1), .val (.int (own_f1 p0 p1)), .val (.long (p0.toInt64)), .second, .val (.long ((p1.toInt64) - (p0.toInt64))), .second, .val (.int (1 : Int32)), .val (.int (1 : Int32)), .val (.int (1 : Int32)), .val (.int (1 : Int32)), .unset] [(.int (1 : Int32))])) _
        refine XS.istore X34.here hx rfl (hb hby at_112) rfl (l' := #[.val (.int p0), .val (.int p1), .val (.int (own_f1 p0 p1)), .val (.long (p0.toInt64)), .second, .val (.long ((p1.toInt64) - (p0.toInt64))), .second, .val (.int (1 : Int32)), .val (.int (1 : Int32)), .val (.int (1 : Int32)), .val (.int (1 : Int32)), .val (.int (1 : Int32))]) rfl ?_
        show Steps p.tables e below (T34.setTop (mkF m 114 #[.val (.int p0), .val (.int p1), .val (.int (own_f1 p0 p1)), .val (.long (p0.toInt64)), .second, .val (.long ((p1.toInt64) - (p0.toInt64))), .second, .val (.int (1 : Int32)), .val (.int (1 : Int32)), .val (.int (1 : Int32)), .val (.int (1 : Int32)), .val (.int (1 : Int32))] [])) _
        refine XS.iloadN X34.here hx rfl (hb hby at_114) rfl ?_
        show Steps p.tables e below (T34.setTop (mkF m 115 #[.val (.int p0), .val (.int p1), .val (.int (own_f1 p0 p1)), .val (.long (p0.toInt64)), .second, .val (.long ((p1.toInt64) - (p0.toInt64))), .second, .val (.int (1 : Int32)), .val (.int (1 : Int32)), .val (.int (1 : Int32)), .val (.int (1 : Int32)), .val (.int (1 : Int32))] [(.int (own_f1 p0 p1))])) _
        refine XS.iload X34.here hx rfl (hb hby at_115) rfl ?_
        show Steps p.tables e below (T34.setTop (mkF m 117 #[.val (.int p0), .val (.int p1), .val (.int (own_f1 p0 p1)), .val (.long (p0.toInt64)), .second, .val (.long ((p1.toInt64) - (p0.toInt64))), .second, .val (.int (1 : Int32)), .val (.int (1 : Int32)), .val (.int (1 : Int32)), .val (.int (1 : Int32)), .val (.int (1 : Int32))] [(.int (1 : Int32)), (.int (own_f1 p0 p1))])) _
        refine XS.icmpNo X34.here hx rfl (hb hby at_117) rfl (teq (own_a0 hA)).2 ?_
        show Steps p.tables e below (T34.setTop (mkF m 120 #[.val (.int p0), .val (.int p1), .val (.int (own_f1 p0 p1)), .val (.long (p0.toInt64)), .second, .val (.long ((p1.toInt64) - (p0.toInt64))), .second, .val (.int (1 : Int32)), .val (.int (1 : Int32)), .val (.int (1 : Int32)), .val (.int (1 : Int32)), .val (.int (1 : Int32))] [])) _
        refine XS.iload X34.here hx rfl (hb hby at_120) rfl ?_
        show Steps p.tables e below (T34.setTop (mkF m 122 #[.val (.int p0), .val (.int p1), .val (.int (own_f1 p0 p1)), .val (.long (p0.toInt64)), .second, .val (.long ((p1.toInt64) - (p0.toInt64))), .second, .val (.int (1 : Int32)), .val (.int (1 : Int32)), .val (.int (1 : Int32)), .val (.int (1 : Int32)), .val (.int (1 : Int32))] [(.int (1 : Int32))])) _
        refine XS.ifNo X34.here hx rfl (hb hby at_122) rfl ((if0 _ _).trans (feq (by decide : ¬ ((1 : Int32) = (0 : Int32)))).1) ?_
        show Steps p.tables e below (T34.setTop (mkF m 125 #[.val (.int p0), .val (.int p1), .val (.int (own_f1 p0 p1)), .val (.long (p0.toInt64)), .second, .val (.long ((p1.toInt64) - (p0.toInt64))), .second, .val (.int (1 : Int32)), .val (.int (1 : Int32)), .val (.int (1 : Int32)), .val (.int (1 : Int32)), .val (.int (1 : Int32))] [])) _
        refine XS.iload X34.here hx rfl (hb hby at_125) rfl ?_
        show Steps p.tables e below (T34.setTop (mkF m 127 #[.val (.int p0), .val (.int p1), .val (.int (own_f1 p0 p1)), .val (.long (p0.toInt64)), .second, .val (.long ((p1.toInt64) - (p0.toInt64))), .second, .val (.int (1 : Int32)), .val (.int (1 : Int32)), .val (.int (1 : Int32)), .val (.int (1 : Int32)), .val (.int (1 : Int32))] [(.int (1 : Int32))])) _
        refine XS.ifNo X34.here hx rfl (hb hby at_127) rfl ((if0 _ _).trans (feq (by decide : ¬ ((1 : Int32) = (0 : Int32)))).1) ?_
        show Steps p.tables e below (T34.setTop (mkF m 130 #[.val (.int p0), .val (.int p1), .val (.int (own_f1 p0 p1)), .val (.long (p0.toInt64)), .second, .val (.long ((p1.toInt64) - (p0.toInt64))), .second, .val (.int (1 : Int32)), .val (.int (1 : Int32)), .val (.int (1 : Int32)), .val (.int (1 : Int32)), .val (.int (1 : Int32))] [])) _
        refine XS.iload X34.here hx rfl (hb hby at_130) rfl ?_
        show Steps p.tables e below (T34.setTop (mkF m 132 #[.val (.int p0), .val (.int p1), .val (.int (own_f1 p0 p1)), .val (.long (p0.toInt64)), .second, .val (.long ((p1.toInt64) - (p0.toInt64))), .second, .val (.int (1 : Int32)), .val (.int (1 : Int32)), .val (.int (1 : Int32)), .val (.int (1 : Int32)), .val (.int (1 : Int32))] [(.int (1 : Int32))])) _
        refine XS.ifNo X34.here hx rfl (hb hby at_132) rfl ((if0 _ _).trans (feq (by decide : ¬ ((1 : Int32) = (0 : Int32)))).1) ?_
        show Steps p.tables e below (T34.setTop (mkF m 135 #[.val (.int p0), .val (.int p1), .val (.int (own_f1 p0 p1)), .val (.long (p0.toInt64)), .second, .val (.long ((p1.toInt64) - (p0.toInt64))), .second, .val (.int (1 : Int32)), .val (.int (1 : Int32)), .val (.int (1 : Int32)), .val (.int (1 : Int32)), .val (.int (1 : Int32))] [])) _
        refine XS.iload X34.here hx rfl (hb hby at_135) rfl ?_
        show Steps p.tables e below (T34.setTop (mkF m 137 #[.val (.int p0), .val (.int p1), .val (.int (own_f1 p0 p1)), .val (.long (p0.toInt64)), .second, .val (.long ((p1.toInt64) - (p0.toInt64))), .second, .val (.int (1 : Int32)), .val (.int (1 : Int32)), .val (.int (1 : Int32)), .val (.int (1 : Int32)), .val (.int (1 : Int32))] [(.int (1 : Int32))])) _
        refine XS.ifNo X34.here hx rfl (hb hby at_137) rfl ((if0 _ _).trans (feq (by decide : ¬ ((1 : Int32) = (0 : Int32)))).1) ?_
        show Steps p.tables e below (T34.setTop (mkF m 140 #[.val (.int p0), .val (.int p1), .val (.int (own_f1 p0 p1)), .val (.long (p0.toInt64)), .second, .val (.long ((p1.toInt64) - (p0.toInt64))), .second, .val (.int (1 : Int32)), .val (.int (1 : Int32)), .val (.int (1 : Int32)), .val (.int (1 : Int32)), .val (.int (1 : Int32))] [])) _
        refine XS.iconst X34.here hx rfl (hb hby at_140) ?_
        show Steps p.tables e below (T34.setTop (mkF m 141 #[.val (.int p0), .val (.int p1), .val (.int (own_f1 p0 p1)), .val (.long (p0.toInt64)), .second, .val (.long ((p1.toInt64) - (p0.toInt64))), .second, .val (.int (1 : Int32)), .val (.int (1 : Int32)), .val (.int (1 : Int32)), .val (.int (1 : Int32)), .val (.int (1 : Int32))] [(.int (1 : Int32))])) _
        refine XS.goto X34.here hx rfl (pc0 := 141) (pc' := 145) rfl (hb hby at_141) (by decide) (by decide) ?_
        show Steps p.tables e below (T34.setTop (mkF m 145 #[.val (.int p0), .val (.int p1), .val (.int (own_f1 p0 p1)), .val (.long (p0.toInt64)), .second, .val (.long ((p1.toInt64) - (p0.toInt64))), .second, .val (.int (1 : Int32)), .val (.int (1 : Int32)), .val (.int (1 : Int32)), .val (.int (1 : Int32)), .val (.int (1 : Int32))] [(.int (1 : Int32))])) _
        exact retN X34 hx (t := .boolean) Bd.returns (by simp) (hb hby at_145) hr
      · show Q0 Z p0 p1 h0 n0 _ T34.heap _
        rw [e34]
        exact ⟨rfl, N35⟩
set_option maxHeartbeats 40000000 in
theorem comes_1 {Post : Tables → Env → Array Value → State → Outcome → State → Prop} (hpost : ∀ tb e args s v u, (limb_1_1.after args s (.returned v) u = true ∧ limb_1_2.after args s (.returned v) u = true ∧ True) → FrameEnd s (.returned v) u (Jvm.fieldLocs frame_1_writes args s ++ Jvm.arrayLocs frame_1_arrays args s ++ Jvm.staticLocs frame_1_statics s) 0 0 → Post tb e args s (.returned v) u) :
    ArmFor flags0 classFile x code maxLocals ret World_1 tables_1 room_1 Calls_1 rest_1 Pre_1 Post := by
  intro l hfl _ _ p e ha hc hk s m args below hf hA hF happ hP
  obtain ⟨hcalls, hrest, hpre⟩ := hP
  obtain ⟨-, -, -, hnamed, -, -, -, hat⟩ := (Spec.applies_iff hf).mp happ
  obtain ⟨hg, hn⟩ := and_e (Cond.before_iff.mp (show (Jvm.Cond.and given_1 narrow_1).before args s = true from hpre))
  obtain ⟨g1, g2⟩ := and_e hg
  obtain ⟨g3, g4⟩ := and_e g2
  obtain ⟨w0, w1, rfl⟩ : ∃ w0 w1 : Value, args = #[w0, w1] := by
    have hs : args.size = 2 := by simpa [Cond.value, given_1] using g1
    obtain ⟨L⟩ := args
    match L, hs with
    | [w0, w1], _ => exact ⟨w0, w1, rfl⟩
  have hw := fun d (hd : d ∈ tables_1) => atoms_spec (ws := Jvm.Cond.code x code maxLocals ret :: tables_1) hat d (List.mem_cons_of_mem _ hd)
  have hfit : Fit s := fun {y c} hc i hi => by
    obtain ⟨ha, rfl⟩ := Array.getElem?_eq_some_iff.mp hc
    have q := List.all_eq_true.mp ((Array.all_eq_true_iff_forall_mem.mp hF) _ (Array.getElem_mem ha)) i (List.mem_range.mpr hi)
    simpa [Array.getElem?_eq_getElem hi] using q
  obtain ⟨i0, ei0⟩ := is_v g3
  obtain rfl : w0 = (.int i0) := Option.some.inj ei0
  obtain ⟨i1, ei1⟩ := is_v g4
  obtain rfl : w1 = (.int i1) := Option.some.inj ei1
  obtain ⟨n, o, h1, h2, h3, _, L, rfl, ⟨rfl, N⟩, hq⟩ := rm0 l s _ hw tables_1 i0 i1  s.heap s.heap.size (Nat.le_refl _)  p e ha hc hk s m _ below hf ((Spec.applies_iff_loose hf).mp happ).1 ⟨rfl, State.Warmed39.refl s, rfl⟩ trivial
  refine ⟨n, _, h1, h2, h3, hpost _ _ _ _ _ _ ⟨Cond.after_iff.mpr rfl, Cond.after_iff.mpr (eq_i res_at (Term.int_eval (1)) rfl), trivial⟩ ⟨hq.1, hq.2.1, (hq.2.2.sift fun y hy => Or.inr (N y hy)).mono (by decide) (by decide)⟩⟩
theorem main_1_1 : Claimed_1_1 := comes_1 fun _ _ _ _ _ _ h hF => ⟨h.1, hF⟩
theorem main_1_2 : Claimed_1_2 := comes_1 fun _ _ _ _ _ _ h hF => ⟨h.2.1, hF⟩
end Jvm.Pilot.@@N@@
namespace Jvm.Pilot.@@N@@
open Jvm Jvm.ClassFile Sem Op Lib Jvm.Free Jvm.Stand Jvm.Pilot.@@N@@.Jvm.D
/-! MADE BY PROGRAM (witnessworld.py) out of the Statement's table words and the real class files: 8 classes; the members and pool entries that the words name. The judged class is class 1, her method 1. -/
namespace start1
open Jvm.ClassFile
def u (s : String) : CpInfo := .utf8 (stringToUtf16 s)
/-- a pool by its gaps: so many unusable entries, then the entry; so many at the end -/
def gap : Nat → List CpInfo → List CpInfo
  | 0, r => r
  | n + 1, r => .unusable :: gap n r
def poolList (es : List (Nat × CpInfo)) (last : Nat) : List CpInfo := es.foldr (fun e r => gap e.1 (e.2 :: r)) (gap last [])
def pool (es : List (Nat × CpInfo)) (last : Nat) : Array CpInfo := ⟨poolList es last⟩
def fileOf (pool : Array CpInfo) (this : Nat) (attrs : Array Attribute := #[]) (ms : Array MethodInfo := #[]) (fl : Nat := 33) (sup : Nat := 0) (ifs : Array Nat := #[]) (fds : Array FieldInfo := #[]) : ClassFile where
  minorVersion := 0
  majorVersion := 65
  constantPool := pool
  accessFlags := fl
  thisClass := this
  superClass := sup
  interfaces := ifs
  fields := fds
  methods := ms
  attributes := attrs
def plain (name : String) (sup : Option ClassId) : Class where
  name := name
  kind := .ordinary
  loader := none
  accessFlags := 33
  super := sup
  interfaces := #[]
  cf := none
  fields := #[]
  methods := #[]
  instanceTypes := #[]
  staticTypes := #[]
  resolved := #[]
  callSites := []
  init := .initialized
  statics := none
  mirror := none

def pool0 : Array CpInfo := pool [(5, u "<init>"), (0, u "()V"), (1, .class_ 10), (1, u "java/lang/Object")] 113

def k0m0 : Method := { name := "<init>", desc := "()V", sig := { parameters := [], returnType := none }, accessFlags := 1, code := none }
/-- java/lang/Object -/
def k0 : Class := { plain "java/lang/Object" none with
  accessFlags := 33
  interfaces := #[]
  cf := some (fileOf pool0 8 #[] #[{ accessFlags := 1, nameIndex := 5, descriptorIndex := 6, attributes := #[] }] 33 0 #[] #[])
  fields := #[]
  methods := #[k0m0]
  instanceTypes := #[]
  staticTypes := #[]
  resolved := Array.replicate 124 none
  statics := none }

def pool1 : Array CpInfo := pool [(2, .class_ 4), (1, u "java/lang/Object"), (0, u "<init>"), (0, u "()V"), (0, .methodref 8 9), (0, .class_ 10), (0, .nameAndType 11 12), (0, u "com/example/link7/link7/rule/RuleBatch"), (0, u "isCode"), (0, u "(II)Z"), (0, .methodref 14 15), (0, .class_ 16), (0, .nameAndType 17 18), (0, u "java/lang/Math"), (0, u "min"), (0, u "(JJ)J"), (0, .class_ 20), (0, u "com/example/link7/link7/rule/RuleBatchIsCodePinLaw"), (2, u "law")] 3

def k1m0 : Method := { name := "<init>", desc := "()V", sig := { parameters := [], returnType := none }, accessFlags := 2, code := none }
def k1c1 : Code := { maxStack := 4, maxLocals := 12, code := code, exceptionTable := #[], attributes := #[] }
def k1m1 : Method := { name := "law", desc := "(II)Z", sig := { parameters := [.int, .int], returnType := some .boolean }, accessFlags := 9, code := some k1c1 }
/-- com/example/link7/link7/rule/RuleBatchIsCodePinLaw -/
def k1 : Class := { plain "com/example/link7/link7/rule/RuleBatchIsCodePinLaw" (some 0) with
  accessFlags := 49
  interfaces := #[]
  cf := some (fileOf pool1 19 #[] #[{ accessFlags := 2, nameIndex := 5, descriptorIndex := 6, attributes := #[] }, { accessFlags := 9, nameIndex := 23, descriptorIndex := 12, attributes := #[] }] 49 2 #[] #[])
  fields := #[]
  methods := #[k1m0, k1m1]
  instanceTypes := #[]
  staticTypes := #[]
  resolved := Array.replicate 27 none
  statics := none }

def pool2 : Array CpInfo := pool [(2, .class_ 4), (1, u "java/lang/Object"), (0, u "<init>"), (0, u "()V"), (68, .class_ 76), (0, u "com/example/link7/link7/rule/RuleBatch"), (0, u "REFUSED"), (0, u "Ljava/lang/String;"), (10, u "isCode"), (0, u "(II)Z")] 26

def k2m0 : Method := { name := "<init>", desc := "()V", sig := { parameters := [], returnType := none }, accessFlags := 2, code := none }
def k2c1 : Code := { maxStack := 2, maxLocals := 2, code := prog_9_method_3_code, exceptionTable := #[], attributes := #[] }
def k2m1 : Method := { name := "isCode", desc := "(II)Z", sig := { parameters := [.int, .int], returnType := some .boolean }, accessFlags := 9, code := some k2c1 }
/-- com/example/link7/link7/rule/RuleBatch -/
def k2 : Class := { plain "com/example/link7/link7/rule/RuleBatch" (some 0) with
  accessFlags := 33
  interfaces := #[]
  cf := some (fileOf pool2 75 #[] #[{ accessFlags := 2, nameIndex := 5, descriptorIndex := 6, attributes := #[] }, { accessFlags := 9, nameIndex := 89, descriptorIndex := 90, attributes := #[] }] 33 2 #[] #[{ accessFlags := 25, nameIndex := 77, descriptorIndex := 78, attributes := #[] }])
  fields := #[{ name := "REFUSED", type := (.object "java/lang/String"), accessFlags := 25, slot := 0, constantValue := 0 }]
  methods := #[k2m0, k2m1]
  instanceTypes := #[]
  staticTypes := #[(.object "java/lang/String")]
  resolved := Array.replicate 117 none
  statics := none }

def pool3 : Array CpInfo := pool [(1, .class_ 2), (0, u "java/lang/Math"), (1, .class_ 6), (1, u "java/lang/Object"), (0, u "<init>"), (0, u "()V"), (89, .class_ 100), (1, u "java/lang/Math$RandomNumberGeneratorHolder"), (20, u "(JJ)J"), (50, u "negativeZeroFloatBits"), (0, u "J"), (2, u "negativeZeroDoubleBits"), (24, u "min"), (43, u "$assertionsDisabled"), (0, u "Z"), (91, u "twoToTheDoubleScaleDown"), (0, u "D"), (4, u "twoToTheDoubleScaleUp"), (9, u "E"), (3, u "PI"), (2, u "TAU"), (2, u "DEGREES_TO_RADIANS"), (0, u "RADIANS_TO_DEGREES")] 94

def k3m0 : Method := { name := "<init>", desc := "()V", sig := { parameters := [], returnType := none }, accessFlags := 2, code := none }
def k3c1 : Code := { maxStack := 4, maxLocals := 4, code := jdk_29_method_70_code, exceptionTable := #[], attributes := #[] }
def k3m1 : Method := { name := "min", desc := "(JJ)J", sig := { parameters := [.long, .long], returnType := some .long }, accessFlags := 9, code := some k3c1 }
/-- java/lang/Math -/
def k3 : Class := { plain "java/lang/Math" (some 0) with
  accessFlags := 49
  interfaces := #[]
  cf := some (fileOf pool3 1 #[.nestMembers #[98]] #[{ accessFlags := 2, nameIndex := 7, descriptorIndex := 8, attributes := #[] }, { accessFlags := 9, nameIndex := 201, descriptorIndex := 121, attributes := #[] }] 49 4 #[] #[{ accessFlags := 25, nameIndex := 354, descriptorIndex := 339, attributes := #[] }, { accessFlags := 25, nameIndex := 358, descriptorIndex := 339, attributes := #[] }, { accessFlags := 25, nameIndex := 361, descriptorIndex := 339, attributes := #[] }, { accessFlags := 26, nameIndex := 364, descriptorIndex := 339, attributes := #[] }, { accessFlags := 26, nameIndex := 365, descriptorIndex := 339, attributes := #[] }, { accessFlags := 26, nameIndex := 172, descriptorIndex := 173, attributes := #[] }, { accessFlags := 26, nameIndex := 176, descriptorIndex := 173, attributes := #[] }, { accessFlags := 8, nameIndex := 344, descriptorIndex := 339, attributes := #[] }, { accessFlags := 8, nameIndex := 338, descriptorIndex := 339, attributes := #[] }, { accessFlags := 4120, nameIndex := 245, descriptorIndex := 246, attributes := #[] }])
  fields := #[{ name := "E", type := .double, accessFlags := 25, slot := 0, constantValue := 0 }, { name := "PI", type := .double, accessFlags := 25, slot := 1, constantValue := 0 }, { name := "TAU", type := .double, accessFlags := 25, slot := 2, constantValue := 0 }, { name := "DEGREES_TO_RADIANS", type := .double, accessFlags := 26, slot := 3, constantValue := 0 }, { name := "RADIANS_TO_DEGREES", type := .double, accessFlags := 26, slot := 4, constantValue := 0 }, { name := "negativeZeroFloatBits", type := .long, accessFlags := 26, slot := 5, constantValue := 0 }, { name := "negativeZeroDoubleBits", type := .long, accessFlags := 26, slot := 6, constantValue := 0 }, { name := "twoToTheDoubleScaleUp", type := .double, accessFlags := 8, slot := 7, constantValue := 0 }, { name := "twoToTheDoubleScaleDown", type := .double, accessFlags := 8, slot := 8, constantValue := 0 }, { name := "$assertionsDisabled", type := .boolean, accessFlags := 4120, slot := 9, constantValue := 0 }]
  methods := #[k3m0, k3m1]
  instanceTypes := #[]
  staticTypes := #[.double, .double, .double, .double, .double, .long, .long, .double, .double, .boolean]
  resolved := Array.replicate 460 none
  statics := none }

def pool4 : Array CpInfo := pool [(1, u "java/lang/Cloneable"), (0, .class_ 1), (0, u "java/lang/Object"), (0, .class_ 3)] 3

/-- java/lang/Cloneable -/
def k4 : Class := { plain "java/lang/Cloneable" (some 0) with
  accessFlags := 1537
  interfaces := #[]
  cf := some (fileOf pool4 2 #[] #[] 1537 4 #[] #[])
  fields := #[]
  methods := #[]
  instanceTypes := #[]
  staticTypes := #[]
  resolved := Array.replicate 8 none
  statics := none }

def pool5 : Array CpInfo := pool [(1, u "java/io/Serializable"), (0, .class_ 1), (0, u "java/lang/Object"), (0, .class_ 3)] 3

/-- java/io/Serializable -/
def k5 : Class := { plain "java/io/Serializable" (some 0) with
  accessFlags := 1537
  interfaces := #[]
  cf := some (fileOf pool5 2 #[] #[] 1537 4 #[] #[])
  fields := #[]
  methods := #[]
  instanceTypes := #[]
  staticTypes := #[]
  resolved := Array.replicate 8 none
  statics := none }

/-- the primitive byte -/
def k6 : Class := { plain "byte" none with kind := .primitive 'B', accessFlags := 0x411 }
/-- [B -/
def k7 : Class := { plain "[B" (some 0) with kind := .array 6 .byte, interfaces := #[4, 5], accessFlags := 1041 }

def heap : Heap := #[]
def classes : Array Class := #[k0, k1, k2, k3, k4, k5, k6, k7]
def interned : List (Array UInt16 × Addr) := []
def slotsUsed : Nat := 0
def theMethod : MethodId := ⟨1, 1⟩
def args0 : Array Value := #[.int 5, .int 7]
def aboutOver (below : List Frame) : State where
  vm := { classes := classes, interned := interned.toArray }
  heap := heap
  slotsUsed := slotsUsed
  threads := #[{ frames := .invoking theMethod args0 :: below }]
def below0 : List Frame := [.native { method := ⟨0, 0⟩, args := #[] }]
def about1 : State := aboutOver below0
def p0 : Program := .bare "" "" ""
def e0 : Env := launch0.env 0 0 0
theorem w_frames : about1.frames = Frame.invoking theMethod args0 :: below0 := rfl
set_option maxRecDepth 65536 in
theorem w_args : argsFit about1.vm theMethod args0 = true := by decide +kernel
set_option maxRecDepth 65536 in
theorem w_heap : heapFits about1 = true := by decide +kernel
set_option maxRecDepth 65536 in
theorem w_runnable : about1.curStatus? = some .runnable := by decide +kernel
set_option maxRecDepth 65536 in
theorem w_alone : about1.alone = true := by decide +kernel
set_option maxRecDepth 65536 in
theorem w_named : about1.methodNamed? x = some theMethod := by decide +kernel
set_option maxRecDepth 65536 in
theorem w_hears : about1.hears theMethod below0 = true := by decide +kernel
set_option maxRecDepth 65536 in
theorem w_ripe : about1.ripe theMethod args0 below0 = true := by decide +kernel
theorem w_running : about1.status = .running := rfl
set_option maxRecDepth 65536 in
theorem w_room : about1.hasRoom e0.platform room_1 = true :=
  launch0.hasRoom_least _ room_1 (by decide +kernel) (by decide +kernel) (by decide +kernel) (by decide +kernel) (by decide +kernel) (by decide +kernel)
theorem allAtoms_all (ts : List Jvm.Cond) (a : Array Jvm.Value) (st : Jvm.State) : (allAtoms ts).before a st = ts.all (fun c => c.before a st) := by
  induction ts with
  | nil => rfl
  | cons c t ih =>
    show (Jvm.Cond.and c (allAtoms t)).before a st = _
    rw [Jvm.Cond.before_and, ih, List.all_cons]
def words1 : List Jvm.Cond := Jvm.Cond.code x code maxLocals ret :: tables_1
/-- a 'code' word, met by the world's own term for the bytes: nothing is compared byte by byte -/
theorem code_word {y : MethodName} {bytes : ByteArray} {mx : Nat} {rt : Option FieldType} {a : Array Value} {s : State} {m : MethodId} {meth : Method} {c : Code} (h1 : s.methodNamed? y = some m) (h2 : s.vm.method? m = some meth) (h3 : meth.code = some c) (h4 : c.code = bytes)
    (h5 : (c.maxLocals == mx && c.exceptionTable.isEmpty && decide (c.maxStack ≤ mostOperands) && decide (meth.sig.returnType = rt) && !meth.locks && decide (parseMethodDescriptor y.desc = some meth.sig)) = true) : (Jvm.Cond.code y bytes mx rt).before a s = true := by
  simp only [Bool.and_eq_true, beq_iff_eq, Bool.not_eq_true', decide_eq_true_eq] at h5
  obtain ⟨⟨⟨⟨⟨g1, g2⟩, g3⟩, g4⟩, g5⟩, g6⟩ := h5
  simp [Cond.before, Cond.holds, Cond.value, h1, h2, h3, h4, g1, g2, g3, g4, g5, g6]
def isCode : Jvm.Cond → Bool
  | .code _ _ _ _ => true
  | _ => false
theorem all_split {L : List Jvm.Cond} {P : Jvm.Cond → Bool} (h1 : L.all (fun c => isCode c || P c) = true) (h2 : ∀ c ∈ L.filter isCode, P c = true) : L.all P = true := by
  refine List.all_eq_true.mpr fun c hc => ?_
  have h := List.all_eq_true.mp h1 c hc
  rcases Bool.eq_false_or_eq_true (isCode c) with hi | hi
  · exact h2 c (List.mem_filter.mpr ⟨hc, hi⟩)
  · simpa [hi] using h
set_option maxRecDepth 65536 in
theorem w_c0 : (Jvm.Cond.code x code maxLocals ret).before args0 about1 = true := code_word (m := ⟨1, 1⟩) (meth := k1m1) (c := k1c1) (by decide +kernel) rfl rfl rfl (by decide +kernel)
set_option maxRecDepth 65536 in
theorem w_c1 : (Jvm.Cond.code ({ cls := "com/example/link7/link7/rule/RuleBatch", name := "isCode", desc := "(II)Z" } : Jvm.MethodName) prog_9_method_3_code (2 : Nat) (Option.some Jvm.ClassFile.FieldType.boolean)).before args0 about1 = true := code_word (m := ⟨2, 1⟩) (meth := k2m1) (c := k2c1) (by decide +kernel) rfl rfl rfl (by decide +kernel)
set_option maxRecDepth 65536 in
theorem w_c2 : (Jvm.Cond.code ({ cls := "java/lang/Math", name := "min", desc := "(JJ)J" } : Jvm.MethodName) jdk_29_method_70_code (4 : Nat) (Option.some Jvm.ClassFile.FieldType.long)).before args0 about1 = true := code_word (m := ⟨3, 1⟩) (meth := k3m1) (c := k3c1) (by decide +kernel) rfl rfl rfl (by decide +kernel)
def codes1 : List Jvm.Cond := [Jvm.Cond.code x code maxLocals ret, Jvm.Cond.code ({ cls := "com/example/link7/link7/rule/RuleBatch", name := "isCode", desc := "(II)Z" } : Jvm.MethodName) prog_9_method_3_code (2 : Nat) (Option.some Jvm.ClassFile.FieldType.boolean), Jvm.Cond.code ({ cls := "java/lang/Math", name := "min", desc := "(JJ)J" } : Jvm.MethodName) jdk_29_method_70_code (4 : Nat) (Option.some Jvm.ClassFile.FieldType.long)]
set_option maxRecDepth 65536 in
theorem codes_eq : words1.filter isCode = codes1 := rfl
theorem w_codes : ∀ c ∈ words1.filter isCode, c.before args0 about1 = true := by
  rw [codes_eq]
  intro c hc
  simp only [codes1, List.mem_cons, List.not_mem_nil, or_false] at hc
  rcases hc with rfl | rfl | rfl
  · exact w_c0
  · exact w_c1
  · exact w_c2
set_option maxRecDepth 65536 in
theorem w_t1 : words1.all (fun c => isCode c || c.before args0 about1) = true := by decide +kernel
theorem w_tables : (allAtoms (Jvm.Cond.code x code maxLocals ret :: tables_1)).before args0 about1 = true := by
  rw [allAtoms_all]
  show words1.all (fun c => c.before args0 about1) = true
  refine all_split ?_ w_codes
  rw [w_t1]
set_option maxRecDepth 65536 in
theorem w_case : (Jvm.Cond.and given_1 narrow_1).before args0 about1 = true := by decide +kernel
theorem w_applies : (headSpec (Jvm.Cond.code x code maxLocals ret :: tables_1) room_1).applies x e0.platform about1 = true :=
  (Spec.applies_iff w_frames).mpr ⟨w_running, w_runnable, w_alone, w_named, w_hears, w_ripe, w_room, w_tables⟩
theorem atStart : AtStart classFile x code maxLocals ret World_1 tables_1 room_1 Calls_1 rest_1 Pre_1 launch0 p0 e0 about1 theMethod args0 below0 :=
  ⟨lists_1, trivial, launch0.admits_env _ _ _, launch0.least_env, fairChoices_fair.cas, fairChoices_fair.clock, w_frames, w_args, w_heap, w_applies, trivial, trivial, w_case⟩
end start1
theorem witness_1 : WitnessClaimed_1 := ⟨start1.p0, start1.e0, start1.about1, start1.theMethod, start1.args0, start1.below0, start1.atStart⟩
end Jvm.Pilot.@@N@@
