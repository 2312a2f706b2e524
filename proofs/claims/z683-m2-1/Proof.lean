import JvmDerived
import JvmDerived.Pilot.@@N@@Statement
import JvmDerived.Pilot.@@N@@Code
set_option linter.unusedVariables false
set_option linter.unusedSimpArgs false
set_option maxRecDepth 65536
namespace Jvm.RoadKit
open Sem ClassFile Op Lib Jvm.Stand Jvm.Free Jvm.LawKit
section New
variable {p : Program} {l : Launch} {e : Env} {R : Room} {s : State} {m : MethodId} {args : Array Value} {below : List Frame} {meth : Method} {c : Code} {T : State} {locs : List Loc} {cells slots : Nat}
theorem retI (X : Stand p l e R s m args below meth c T locs cells slots) (hx : p.tables.exec = Jvm.exec) {pc : Nat} {Ls : Array Slot} {z : Int32} {rest : List Value} (hret : meth.sig.returnType = some .int) (hd : decode c.code pc = .ok (.ireturn, 1)) {fs : List Frame}
    (hl : ∀ (f : JFrame) (acts : List Action), f.method = m → f.locked = none → f.entered = [] → (doReturn e (T.setTop f) acts (some (.int z))).1 = T.setFrames fs) : Steps p.tables e below (T.setTop (mkF m pc Ls (.int z :: rest))) (T.setFrames fs) := by
  have hm' : T.vm.method? m = some meth := X.method'
  have hn : narrow .int (.int z) = .int z := rfl
  show Steps p.tables e below (T.setTop { method := m, pc := pc, locals := Ls, stack := _ :: rest, locked := none }) _
  jvm_step X.here [X.here.top, hx, hd, hm', hret, hn]
  first | (intro acts; rw [hl _ acts rfl rfl rfl]) | rw [hl _ _ rfl rfl rfl]
  exact Steps.refl _
end New
end Jvm.RoadKit
namespace Jvm.Pilot.@@N@@
open Jvm Jvm.ClassFile Sem Op Lib Jvm.Free Jvm.Stand Jvm.LawKit Jvm.RoadKit Bundle Jvm.Pilot.@@N@@.Jvm.D
theorem d5_0 : decode jdk_92_method_1_code 0 = .ok (.iload_n 0, 1) := by decide +kernel
theorem d5_1 : decode jdk_92_method_1_code 1 = .ok (.bipush 6, 2) := by decide +kernel
theorem d5_3 : decode jdk_92_method_1_code 3 = .ok (.ishr, 1) := by decide +kernel
theorem d5_4 : decode jdk_92_method_1_code 4 = .ok (.ireturn, 1) := by decide +kernel
def own_f5 (p1 : Int32) : Int32 := (p1 >>> ((6 : Int32) &&& 31))
theorem pn_0 : plainName "java/util/BitSet" = true := by first | (simp [plainName, overriddenIn]; done) | decide +kernel
theorem ef_rm5 (m : MethodId) (x0 : Int32) : entryFrame m #[(.int x0)] 1 = mkF m 0 #[.val (.int x0)] [] := by first | (simp [entryFrame, mkF, argsToLocals, Value.category]; done) | rfl
def Q5 (Z : State) (p1 : Int32) (h0 : Heap) (n0 : Nat) (v : Option Value) (h : Heap) (L : List Loc) : Prop := v = some (.int (own_f5 p1)) ∧ Fr n0 L ∧ h = h0
set_option maxHeartbeats 40000000 in
theorem rm5 (l : Launch) (Z : State) (a0 : Array Value) (hw : ∀ d ∈ tables_1, d.before a0 Z = true) (ws : List Jvm.Cond) (p1 : Int32) (h0 : Heap) (n0 : Nat) (Z0 : n0 ≤ h0.size) :
    MetFree l (⟨"java/util/BitSet", "wordIndex", "(I)I"⟩ : MethodName) (head1 (Jvm.Cond.code (⟨"java/util/BitSet", "wordIndex", "(I)I"⟩ : MethodName) jdk_92_method_1_code 1 (some .int) :: ws) ({ frames := 0, cells := 0, slots := 0, locals := 0 } : Room)) (fun a U => a = #[(.int p1)] ∧ Z.Warmed39 U.vm ∧ U.heap = h0) (fun _ _ _ _ _ => True) (fun _ U o U' => ∃ v L, o = .returned v ∧ Q5 Z p1 h0 n0 v U'.heap L ∧ FrameEnd U o U' L ({ frames := 0, cells := 0, slots := 0, locals := 0 } : Room).cells ({ frames := 0, cells := 0, slots := 0, locals := 0 } : Room).slots) := by
  refine MetFree.of_bodySF (plainFor_of_name pn_0) hisR ?_
  intro p e s m args below meth c s₁ Bd hml0 hP hK
  obtain ⟨rfl, hZ, hh⟩ := hP
  have hx := Bd.exec
  have hby := Bd.bytes
  have hml : c.maxLocals = 1 := hml0
  have hown : s.vm.findClass "java/util/BitSet" = some m.cls := findClass_of_methodNamed Bd.named
  have hnm := (name_of_methodNamed Bd.named Bd.method).1
  have X0 : Stand p l e ({ frames := 0, cells := 0, slots := 0, locals := 0 } : Room) s m #[(.int p1)] below meth c s₁ [] 0 0 := Stand.of_body Bd
  have e0 : s₁.heap = h0 := by rw [← hh, Bd.state]; rfl
  have N0 := Fr.nil n0
  have pre0 : ∀ tgt, Steps p.tables e below (s₁.setTop (mkF m 0 #[.val (.int p1)] [])) tgt → Steps p.tables e below (s₁.setTop (entryFrame m #[(.int p1)] 1)) tgt := fun tgt k => castTop (ef_rm5 m p1) k
  obtain ⟨fs, hr, hrun, hended, hW, hsame⟩ := X0.leave (v := some (.int (own_f5 p1))) (fun h => by rw [Bd.returns] at h; cases h)
  refine ⟨_, _, pre0 _ ?_, hrun, hended, _, _, rfl, ?_, ⟨_, rfl⟩, hW, hsame.mono (by decide) (by decide)⟩
  · have s_0 : own_f5 p1  = own_f5 p1 → Steps p.tables e below (s₁.setTop (mkF m 0 #[.val (.int p1)] [])) (s₁.setFrames fs) := by
      intro  hV
      show Steps p.tables e below (s₁.setTop (mkF m 0 #[.val (.int p1)] [])) _
      refine XS.iloadN X0.here hx rfl (hb hby d5_0) rfl ?_
      show Steps p.tables e below (s₁.setTop (mkF m 1 #[.val (.int p1)] [(.int p1)])) _
      refine XS.bipush X0.here hx rfl (hb hby d5_1) ?_
      show Steps p.tables e below (s₁.setTop (mkF m 3 #[.val (.int p1)] [(.int (6 : Int32)), (.int p1)])) _
      refine XS.ishr X0.here hx rfl (hb hby d5_3) rfl ?_
      show Steps p.tables e below (s₁.setTop (mkF m 4 #[.val (.int p1)] [(.int (p1 >>> ((6 : Int32) &&& 31)))])) _
      have he : (p1 >>> ((6 : Int32) &&& 31)) = own_f5 p1 := Eq.trans (by rw [own_f5]) hV
      rw [← he] at hr
      exact retI X0 hx Bd.returns (hb hby d5_4) hr
    exact s_0 rfl
  · show Q5 Z p1 h0 n0 _ s₁.heap _
    rw [e0]
    exact ⟨rfl, N0, rfl⟩
theorem d16_0 : decode jdk_33_method_48_code 0 = .ok (.iload_n 0, 1) := by decide +kernel
theorem d16_1 : decode jdk_33_method_48_code 1 = .ok (.iconst (-1), 1) := by decide +kernel
theorem d16_2 : decode jdk_33_method_48_code 2 = .ok (.ixor, 1) := by decide +kernel
theorem d16_3 : decode jdk_33_method_48_code 3 = .ok (.iload_n 0, 1) := by decide +kernel
theorem d16_4 : decode jdk_33_method_48_code 4 = .ok (.iconst 1, 1) := by decide +kernel
theorem d16_5 : decode jdk_33_method_48_code 5 = .ok (.isub, 1) := by decide +kernel
theorem d16_6 : decode jdk_33_method_48_code 6 = .ok (.iand, 1) := by decide +kernel
theorem d16_7 : decode jdk_33_method_48_code 7 = .ok (.istore_n 0, 1) := by decide +kernel
theorem d16_8 : decode jdk_33_method_48_code 8 = .ok (.iload_n 0, 1) := by decide +kernel
theorem d16_9 : decode jdk_33_method_48_code 9 = .ok (.ifCond .gt 8, 3) := by decide +kernel
theorem d16_17 : decode jdk_33_method_48_code 17 = .ok (.iconst 1, 1) := by decide +kernel
theorem d16_18 : decode jdk_33_method_48_code 18 = .ok (.istore_n 1, 1) := by decide +kernel
theorem d16_19 : decode jdk_33_method_48_code 19 = .ok (.iload_n 0, 1) := by decide +kernel
theorem d16_20 : decode jdk_33_method_48_code 20 = .ok (.ldc_w 264, 3) := by decide +kernel
theorem d16_23 : decode jdk_33_method_48_code 23 = .ok (.if_icmp .le 11, 3) := by decide +kernel
theorem d16_26 : decode jdk_33_method_48_code 26 = .ok (.iinc 1 16, 3) := by decide +kernel
theorem d16_29 : decode jdk_33_method_48_code 29 = .ok (.iload_n 0, 1) := by decide +kernel
theorem d16_30 : decode jdk_33_method_48_code 30 = .ok (.bipush 16, 2) := by decide +kernel
theorem d16_32 : decode jdk_33_method_48_code 32 = .ok (.iushr, 1) := by decide +kernel
theorem d16_33 : decode jdk_33_method_48_code 33 = .ok (.istore_n 0, 1) := by decide +kernel
theorem d16_12 : decode jdk_33_method_48_code 12 = .ok (.iload_n 0, 1) := by decide +kernel
theorem d16_13 : decode jdk_33_method_48_code 13 = .ok (.bipush 32, 2) := by decide +kernel
theorem d16_15 : decode jdk_33_method_48_code 15 = .ok (.iand, 1) := by decide +kernel
theorem d16_34 : decode jdk_33_method_48_code 34 = .ok (.iload_n 0, 1) := by decide +kernel
theorem d16_35 : decode jdk_33_method_48_code 35 = .ok (.sipush 256, 3) := by decide +kernel
theorem d16_38 : decode jdk_33_method_48_code 38 = .ok (.if_icmp .le 11, 3) := by decide +kernel
theorem d16_41 : decode jdk_33_method_48_code 41 = .ok (.iinc 1 8, 3) := by decide +kernel
theorem d16_44 : decode jdk_33_method_48_code 44 = .ok (.iload_n 0, 1) := by decide +kernel
theorem d16_45 : decode jdk_33_method_48_code 45 = .ok (.bipush 8, 2) := by decide +kernel
theorem d16_47 : decode jdk_33_method_48_code 47 = .ok (.iushr, 1) := by decide +kernel
theorem d16_48 : decode jdk_33_method_48_code 48 = .ok (.istore_n 0, 1) := by decide +kernel
theorem d16_49 : decode jdk_33_method_48_code 49 = .ok (.iload_n 0, 1) := by decide +kernel
theorem d16_50 : decode jdk_33_method_48_code 50 = .ok (.bipush 16, 2) := by decide +kernel
theorem d16_52 : decode jdk_33_method_48_code 52 = .ok (.if_icmp .le 10, 3) := by decide +kernel
theorem d16_55 : decode jdk_33_method_48_code 55 = .ok (.iinc 1 4, 3) := by decide +kernel
theorem d16_58 : decode jdk_33_method_48_code 58 = .ok (.iload_n 0, 1) := by decide +kernel
theorem d16_59 : decode jdk_33_method_48_code 59 = .ok (.iconst 4, 1) := by decide +kernel
theorem d16_60 : decode jdk_33_method_48_code 60 = .ok (.iushr, 1) := by decide +kernel
theorem d16_61 : decode jdk_33_method_48_code 61 = .ok (.istore_n 0, 1) := by decide +kernel
theorem d16_62 : decode jdk_33_method_48_code 62 = .ok (.iload_n 0, 1) := by decide +kernel
theorem d16_63 : decode jdk_33_method_48_code 63 = .ok (.iconst 4, 1) := by decide +kernel
theorem d16_64 : decode jdk_33_method_48_code 64 = .ok (.if_icmp .le 10, 3) := by decide +kernel
theorem d16_67 : decode jdk_33_method_48_code 67 = .ok (.iinc 1 2, 3) := by decide +kernel
theorem d16_70 : decode jdk_33_method_48_code 70 = .ok (.iload_n 0, 1) := by decide +kernel
theorem d16_71 : decode jdk_33_method_48_code 71 = .ok (.iconst 2, 1) := by decide +kernel
theorem d16_72 : decode jdk_33_method_48_code 72 = .ok (.iushr, 1) := by decide +kernel
theorem d16_73 : decode jdk_33_method_48_code 73 = .ok (.istore_n 0, 1) := by decide +kernel
theorem d16_74 : decode jdk_33_method_48_code 74 = .ok (.iload_n 1, 1) := by decide +kernel
theorem d16_75 : decode jdk_33_method_48_code 75 = .ok (.iload_n 0, 1) := by decide +kernel
theorem d16_76 : decode jdk_33_method_48_code 76 = .ok (.iconst 1, 1) := by decide +kernel
theorem d16_77 : decode jdk_33_method_48_code 77 = .ok (.iushr, 1) := by decide +kernel
theorem d16_78 : decode jdk_33_method_48_code 78 = .ok (.iadd, 1) := by decide +kernel
theorem d16_16 : decode jdk_33_method_48_code 16 = .ok (.ireturn, 1) := by decide +kernel
theorem d16_79 : decode jdk_33_method_48_code 79 = .ok (.ireturn, 1) := by decide +kernel
def own_f16_74 (p1 : Int32) (u0 : Int32) (u1 : Int32) : Int32 := (u1 + ((u0.toUInt32 >>> ((1 : Int32) &&& 31).toUInt32).toInt32))
def own_f16_62 (p1 : Int32) (u0 : Int32) (u1 : Int32) : Int32 := (if (4 : Int32) < u0 then (own_f16_74 p1 ((u0.toUInt32 >>> ((2 : Int32) &&& 31).toUInt32).toInt32) (u1 + (2 : Int32))) else (own_f16_74 p1 u0 u1))
def own_f16_49 (p1 : Int32) (u0 : Int32) (u1 : Int32) : Int32 := (if (16 : Int32) < u0 then (own_f16_62 p1 ((u0.toUInt32 >>> ((4 : Int32) &&& 31).toUInt32).toInt32) (u1 + (4 : Int32))) else (own_f16_62 p1 u0 u1))
def own_f16_34 (p1 : Int32) (u0 : Int32) (u1 : Int32) : Int32 := (if (256 : Int32) < u0 then (own_f16_49 p1 ((u0.toUInt32 >>> ((8 : Int32) &&& 31).toUInt32).toInt32) (u1 + (8 : Int32))) else (own_f16_49 p1 u0 u1))
def own_f16 (p1 : Int32) : Int32 := (if (0 : Int32) < ((p1 ^^^ (-1 : Int32)) &&& (p1 - (1 : Int32))) then (if (65536 : Int32) < ((p1 ^^^ (-1 : Int32)) &&& (p1 - (1 : Int32))) then (own_f16_34 p1 ((((p1 ^^^ (-1 : Int32)) &&& (p1 - (1 : Int32))).toUInt32 >>> ((16 : Int32) &&& 31).toUInt32).toInt32) ((1 : Int32) + (16 : Int32))) else (own_f16_34 p1 ((p1 ^^^ (-1 : Int32)) &&& (p1 - (1 : Int32))) (1 : Int32))) else (((p1 ^^^ (-1 : Int32)) &&& (p1 - (1 : Int32))) &&& (32 : Int32)))
theorem pn_1 : plainName "java/lang/Integer" = true := by first | (simp [plainName, overriddenIn]; done) | decide +kernel
theorem ef_rm16 (m : MethodId) (x0 : Int32) : entryFrame m #[(.int x0)] 2 = mkF m 0 #[.val (.int x0), .unset] [] := by first | (simp [entryFrame, mkF, argsToLocals, Value.category]; done) | rfl
def Q16 (Z : State) (p1 : Int32) (h0 : Heap) (n0 : Nat) (v : Option Value) (h : Heap) (L : List Loc) : Prop := v = some (.int (own_f16 p1)) ∧ Fr n0 L ∧ h = h0
set_option maxHeartbeats 40000000 in
theorem rm16 (l : Launch) (Z : State) (a0 : Array Value) (hw : ∀ d ∈ tables_1, d.before a0 Z = true) (ws : List Jvm.Cond) (p1 : Int32) (h0 : Heap) (n0 : Nat) (Z0 : n0 ≤ h0.size) :
    MetFree l (⟨"java/lang/Integer", "numberOfTrailingZeros", "(I)I"⟩ : MethodName) (head1 (Jvm.Cond.code (⟨"java/lang/Integer", "numberOfTrailingZeros", "(I)I"⟩ : MethodName) jdk_33_method_48_code 2 (some .int) :: ws) ({ frames := 0, cells := 0, slots := 0, locals := 0 } : Room)) (fun a U => a = #[(.int p1)] ∧ Z.Warmed39 U.vm ∧ U.heap = h0) (fun _ _ _ _ _ => True) (fun _ U o U' => ∃ v L, o = .returned v ∧ Q16 Z p1 h0 n0 v U'.heap L ∧ FrameEnd U o U' L ({ frames := 0, cells := 0, slots := 0, locals := 0 } : Room).cells ({ frames := 0, cells := 0, slots := 0, locals := 0 } : Room).slots) := by
  refine MetFree.of_bodySF (plainFor_of_name pn_1) hisR ?_
  intro p e s m args below meth c s₁ Bd hml0 hP hK
  obtain ⟨rfl, hZ, hh⟩ := hP
  have hx := Bd.exec
  have hby := Bd.bytes
  have hml : c.maxLocals = 2 := hml0
  have hown : s.vm.findClass "java/lang/Integer" = some m.cls := findClass_of_methodNamed Bd.named
  have hnm := (name_of_methodNamed Bd.named Bd.method).1
  have X0 : Stand p l e ({ frames := 0, cells := 0, slots := 0, locals := 0 } : Room) s m #[(.int p1)] below meth c s₁ [] 0 0 := Stand.of_body Bd
  have e0 : s₁.heap = h0 := by rw [← hh, Bd.state]; rfl
  have N0 := Fr.nil n0
  have pre0 : ∀ tgt, Steps p.tables e below (s₁.setTop (mkF m 0 #[.val (.int p1), .unset] [])) tgt → Steps p.tables e below (s₁.setTop (entryFrame m #[(.int p1)] 2)) tgt := fun tgt k => castTop (ef_rm16 m p1) k
  obtain ⟨fs, hr, hrun, hended, hW, hsame⟩ := X0.leave (v := some (.int (own_f16 p1))) (fun h => by rw [Bd.returns] at h; cases h)
  refine ⟨_, _, pre0 _ ?_, hrun, hended, _, _, rfl, ?_, ⟨_, rfl⟩, hW, hsame.mono (by decide) (by decide)⟩
  · have s_74 : ∀ (u0 : Int32) (u1 : Int32), own_f16_74 p1 u0 u1 = own_f16 p1 → Steps p.tables e below (s₁.setTop (mkF m 74 #[.val (.int u0), .val (.int u1)] [])) (s₁.setFrames fs) := by
      intro u0 u1 hV
      show Steps p.tables e below (s₁.setTop (mkF m 74 #[.val (.int u0), .val (.int u1)] [])) _
      refine XS.iloadN X0.here hx rfl (hb hby d16_74) rfl ?_
      show Steps p.tables e below (s₁.setTop (mkF m 75 #[.val (.int u0), .val (.int u1)] [(.int u1)])) _
      refine XS.iloadN X0.here hx rfl (hb hby d16_75) rfl ?_
      show Steps p.tables e below (s₁.setTop (mkF m 76 #[.val (.int u0), .val (.int u1)] [(.int u0), (.int u1)])) _
      refine XS.iconst X0.here hx rfl (hb hby d16_76) ?_
      show Steps p.tables e below (s₁.setTop (mkF m 77 #[.val (.int u0), .val (.int u1)] [(.int (1 : Int32)), (.int u0), (.int u1)])) _
      refine XS.iushr X0.here hx rfl (hb hby d16_77) rfl ?_
      show Steps p.tables e below (s₁.setTop (mkF m 78 #[.val (.int u0), .val (.int u1)] [(.int ((u0.toUInt32 >>> ((1 : Int32) &&& 31).toUInt32).toInt32)), (.int u1)])) _
      refine XS.iadd X0.here hx rfl (hb hby d16_78) rfl ?_
      show Steps p.tables e below (s₁.setTop (mkF m 79 #[.val (.int u0), .val (.int u1)] [(.int (u1 + ((u0.toUInt32 >>> ((1 : Int32) &&& 31).toUInt32).toInt32)))])) _
      have he : (u1 + ((u0.toUInt32 >>> ((1 : Int32) &&& 31).toUInt32).toInt32)) = own_f16 p1 := Eq.trans (by rw [own_f16_74]) hV
      rw [← he] at hr
      exact retI X0 hx Bd.returns (hb hby d16_79) hr
    have s_62 : ∀ (u0 : Int32) (u1 : Int32), own_f16_62 p1 u0 u1 = own_f16 p1 → Steps p.tables e below (s₁.setTop (mkF m 62 #[.val (.int u0), .val (.int u1)] [])) (s₁.setFrames fs) := by
      intro u0 u1 hV
      show Steps p.tables e below (s₁.setTop (mkF m 62 #[.val (.int u0), .val (.int u1)] [])) _
      refine XS.iloadN X0.here hx rfl (hb hby d16_62) rfl ?_
      show Steps p.tables e below (s₁.setTop (mkF m 63 #[.val (.int u0), .val (.int u1)] [(.int u0)])) _
      refine XS.iconst X0.here hx rfl (hb hby d16_63) ?_
      by_cases h64 : (4 : Int32) < u0
      · show Steps p.tables e below (s₁.setTop (mkF m 64 #[.val (.int u0), .val (.int u1)] [(.int (4 : Int32)), (.int u0)])) _
        refine XS.icmpNo X0.here hx rfl (hb hby d16_64) rfl (tlt h64).2.2.2 ?_
        show Steps p.tables e below (s₁.setTop (mkF m 67 #[.val (.int u0), .val (.int u1)] [])) _
        refine XS.iinc X0.here hx rfl (hb hby d16_67) rfl (l' := #[.val (.int u0), .val (.int (u1 + (2 : Int32)))]) rfl ?_
        show Steps p.tables e below (s₁.setTop (mkF m 70 #[.val (.int u0), .val (.int (u1 + (2 : Int32)))] [])) _
        refine XS.iloadN X0.here hx rfl (hb hby d16_70) rfl ?_
        show Steps p.tables e below (s₁.setTop (mkF m 71 #[.val (.int u0), .val (.int (u1 + (2 : Int32)))] [(.int u0)])) _
        refine XS.iconst X0.here hx rfl (hb hby d16_71) ?_
        show Steps p.tables e below (s₁.setTop (mkF m 72 #[.val (.int u0), .val (.int (u1 + (2 : Int32)))] [(.int (2 : Int32)), (.int u0)])) _
        refine XS.iushr X0.here hx rfl (hb hby d16_72) rfl ?_
        show Steps p.tables e below (s₁.setTop (mkF m 73 #[.val (.int u0), .val (.int (u1 + (2 : Int32)))] [(.int ((u0.toUInt32 >>> ((2 : Int32) &&& 31).toUInt32).toInt32))])) _
        refine XS.istoreN X0.here hx rfl (hb hby d16_73) rfl (l' := #[.val (.int ((u0.toUInt32 >>> ((2 : Int32) &&& 31).toUInt32).toInt32)), .val (.int (u1 + (2 : Int32)))]) rfl ?_
        exact s_74 ((u0.toUInt32 >>> ((2 : Int32) &&& 31).toUInt32).toInt32) (u1 + (2 : Int32)) (Eq.trans (by rw [own_f16_62, if_pos h64]) hV)
      · show Steps p.tables e below (s₁.setTop (mkF m 64 #[.val (.int u0), .val (.int u1)] [(.int (4 : Int32)), (.int u0)])) _
        refine XS.icmpYes X0.here hx rfl (pc0 := 64) (pc' := 74) rfl (hb hby d16_64) rfl (flt h64).2.2.2 (by decide) (by decide) ?_
        exact s_74 u0 u1 (Eq.trans (by rw [own_f16_62, if_neg h64]) hV)
    have s_49 : ∀ (u0 : Int32) (u1 : Int32), own_f16_49 p1 u0 u1 = own_f16 p1 → Steps p.tables e below (s₁.setTop (mkF m 49 #[.val (.int u0), .val (.int u1)] [])) (s₁.setFrames fs) := by
      intro u0 u1 hV
      show Steps p.tables e below (s₁.setTop (mkF m 49 #[.val (.int u0), .val (.int u1)] [])) _
      refine XS.iloadN X0.here hx rfl (hb hby d16_49) rfl ?_
      show Steps p.tables e below (s₁.setTop (mkF m 50 #[.val (.int u0), .val (.int u1)] [(.int u0)])) _
      refine XS.bipush X0.here hx rfl (hb hby d16_50) ?_
      by_cases h52 : (16 : Int32) < u0
      · show Steps p.tables e below (s₁.setTop (mkF m 52 #[.val (.int u0), .val (.int u1)] [(.int (16 : Int32)), (.int u0)])) _
        refine XS.icmpNo X0.here hx rfl (hb hby d16_52) rfl (tlt h52).2.2.2 ?_
        show Steps p.tables e below (s₁.setTop (mkF m 55 #[.val (.int u0), .val (.int u1)] [])) _
        refine XS.iinc X0.here hx rfl (hb hby d16_55) rfl (l' := #[.val (.int u0), .val (.int (u1 + (4 : Int32)))]) rfl ?_
        show Steps p.tables e below (s₁.setTop (mkF m 58 #[.val (.int u0), .val (.int (u1 + (4 : Int32)))] [])) _
        refine XS.iloadN X0.here hx rfl (hb hby d16_58) rfl ?_
        show Steps p.tables e below (s₁.setTop (mkF m 59 #[.val (.int u0), .val (.int (u1 + (4 : Int32)))] [(.int u0)])) _
        refine XS.iconst X0.here hx rfl (hb hby d16_59) ?_
        show Steps p.tables e below (s₁.setTop (mkF m 60 #[.val (.int u0), .val (.int (u1 + (4 : Int32)))] [(.int (4 : Int32)), (.int u0)])) _
        refine XS.iushr X0.here hx rfl (hb hby d16_60) rfl ?_
        show Steps p.tables e below (s₁.setTop (mkF m 61 #[.val (.int u0), .val (.int (u1 + (4 : Int32)))] [(.int ((u0.toUInt32 >>> ((4 : Int32) &&& 31).toUInt32).toInt32))])) _
        refine XS.istoreN X0.here hx rfl (hb hby d16_61) rfl (l' := #[.val (.int ((u0.toUInt32 >>> ((4 : Int32) &&& 31).toUInt32).toInt32)), .val (.int (u1 + (4 : Int32)))]) rfl ?_
        exact s_62 ((u0.toUInt32 >>> ((4 : Int32) &&& 31).toUInt32).toInt32) (u1 + (4 : Int32)) (Eq.trans (by rw [own_f16_49, if_pos h52]) hV)
      · show Steps p.tables e below (s₁.setTop (mkF m 52 #[.val (.int u0), .val (.int u1)] [(.int (16 : Int32)), (.int u0)])) _
        refine XS.icmpYes X0.here hx rfl (pc0 := 52) (pc' := 62) rfl (hb hby d16_52) rfl (flt h52).2.2.2 (by decide) (by decide) ?_
        exact s_62 u0 u1 (Eq.trans (by rw [own_f16_49, if_neg h52]) hV)
    have s_34 : ∀ (u0 : Int32) (u1 : Int32), own_f16_34 p1 u0 u1 = own_f16 p1 → Steps p.tables e below (s₁.setTop (mkF m 34 #[.val (.int u0), .val (.int u1)] [])) (s₁.setFrames fs) := by
      intro u0 u1 hV
      show Steps p.tables e below (s₁.setTop (mkF m 34 #[.val (.int u0), .val (.int u1)] [])) _
      refine XS.iloadN X0.here hx rfl (hb hby d16_34) rfl ?_
      show Steps p.tables e below (s₁.setTop (mkF m 35 #[.val (.int u0), .val (.int u1)] [(.int u0)])) _
      refine XS.sipush X0.here hx rfl (hb hby d16_35) ?_
      by_cases h38 : (256 : Int32) < u0
      · show Steps p.tables e below (s₁.setTop (mkF m 38 #[.val (.int u0), .val (.int u1)] [(.int (256 : Int32)), (.int u0)])) _
        refine XS.icmpNo X0.here hx rfl (hb hby d16_38) rfl (tlt h38).2.2.2 ?_
        show Steps p.tables e below (s₁.setTop (mkF m 41 #[.val (.int u0), .val (.int u1)] [])) _
        refine XS.iinc X0.here hx rfl (hb hby d16_41) rfl (l' := #[.val (.int u0), .val (.int (u1 + (8 : Int32)))]) rfl ?_
        show Steps p.tables e below (s₁.setTop (mkF m 44 #[.val (.int u0), .val (.int (u1 + (8 : Int32)))] [])) _
        refine XS.iloadN X0.here hx rfl (hb hby d16_44) rfl ?_
        show Steps p.tables e below (s₁.setTop (mkF m 45 #[.val (.int u0), .val (.int (u1 + (8 : Int32)))] [(.int u0)])) _
        refine XS.bipush X0.here hx rfl (hb hby d16_45) ?_
        show Steps p.tables e below (s₁.setTop (mkF m 47 #[.val (.int u0), .val (.int (u1 + (8 : Int32)))] [(.int (8 : Int32)), (.int u0)])) _
        refine XS.iushr X0.here hx rfl (hb hby d16_47) rfl ?_
        show Steps p.tables e below (s₁.setTop (mkF m 48 #[.val (.int u0), .val (.int (u1 + (8 : Int32)))] [(.int ((u0.toUInt32 >>> ((8 : Int32) &&& 31).toUInt32).toInt32))])) _
        refine XS.istoreN X0.here hx rfl (hb hby d16_48) rfl (l' := #[.val (.int ((u0.toUInt32 >>> ((8 : Int32) &&& 31).toUInt32).toInt32)), .val (.int (u1 + (8 : Int32)))]) rfl ?_
        exact s_49 ((u0.toUInt32 >>> ((8 : Int32) &&& 31).toUInt32).toInt32) (u1 + (8 : Int32)) (Eq.trans (by rw [own_f16_34, if_pos h38]) hV)
      · show Steps p.tables e below (s₁.setTop (mkF m 38 #[.val (.int u0), .val (.int u1)] [(.int (256 : Int32)), (.int u0)])) _
        refine XS.icmpYes X0.here hx rfl (pc0 := 38) (pc' := 49) rfl (hb hby d16_38) rfl (flt h38).2.2.2 (by decide) (by decide) ?_
        exact s_49 u0 u1 (Eq.trans (by rw [own_f16_34, if_neg h38]) hV)
    have s_0 : own_f16 p1  = own_f16 p1 → Steps p.tables e below (s₁.setTop (mkF m 0 #[.val (.int p1), .unset] [])) (s₁.setFrames fs) := by
      intro  hV
      show Steps p.tables e below (s₁.setTop (mkF m 0 #[.val (.int p1), .unset] [])) _
      refine XS.iloadN X0.here hx rfl (hb hby d16_0) rfl ?_
      show Steps p.tables e below (s₁.setTop (mkF m 1 #[.val (.int p1), .unset] [(.int p1)])) _
      refine XS.iconst X0.here hx rfl (hb hby d16_1) ?_
      show Steps p.tables e below (s₁.setTop (mkF m 2 #[.val (.int p1), .unset] [(.int (-1 : Int32)), (.int p1)])) _
      refine XS.ixor X0.here hx rfl (hb hby d16_2) rfl ?_
      show Steps p.tables e below (s₁.setTop (mkF m 3 #[.val (.int p1), .unset] [(.int (p1 ^^^ (-1 : Int32)))])) _
      refine XS.iloadN X0.here hx rfl (hb hby d16_3) rfl ?_
      show Steps p.tables e below (s₁.setTop (mkF m 4 #[.val (.int p1), .unset] [(.int p1), (.int (p1 ^^^ (-1 : Int32)))])) _
      refine XS.iconst X0.here hx rfl (hb hby d16_4) ?_
      show Steps p.tables e below (s₁.setTop (mkF m 5 #[.val (.int p1), .unset] [(.int (1 : Int32)), (.int p1), (.int (p1 ^^^ (-1 : Int32)))])) _
      refine XS.isub X0.here hx rfl (hb hby d16_5) rfl ?_
      show Steps p.tables e below (s₁.setTop (mkF m 6 #[.val (.int p1), .unset] [(.int (p1 - (1 : Int32))), (.int (p1 ^^^ (-1 : Int32)))])) _
      refine XS.iand X0.here hx rfl (hb hby d16_6) rfl ?_
      show Steps p.tables e below (s₁.setTop (mkF m 7 #[.val (.int p1), .unset] [(.int ((p1 ^^^ (-1 : Int32)) &&& (p1 - (1 : Int32))))])) _
      refine XS.istoreN X0.here hx rfl (hb hby d16_7) rfl (l' := #[.val (.int ((p1 ^^^ (-1 : Int32)) &&& (p1 - (1 : Int32)))), .unset]) rfl ?_
      show Steps p.tables e below (s₁.setTop (mkF m 8 #[.val (.int ((p1 ^^^ (-1 : Int32)) &&& (p1 - (1 : Int32)))), .unset] [])) _
      refine XS.iloadN X0.here hx rfl (hb hby d16_8) rfl ?_
      by_cases h9 : (0 : Int32) < ((p1 ^^^ (-1 : Int32)) &&& (p1 - (1 : Int32)))
      · show Steps p.tables e below (s₁.setTop (mkF m 9 #[.val (.int ((p1 ^^^ (-1 : Int32)) &&& (p1 - (1 : Int32)))), .unset] [(.int ((p1 ^^^ (-1 : Int32)) &&& (p1 - (1 : Int32))))])) _
        refine XS.ifYes X0.here hx rfl (pc0 := 9) (pc' := 17) rfl (hb hby d16_9) rfl ((if0 _ _).trans (tlt h9).2.2.1) (by decide) (by decide) ?_
        show Steps p.tables e below (s₁.setTop (mkF m 17 #[.val (.int ((p1 ^^^ (-1 : Int32)) &&& (p1 - (1 : Int32)))), .unset] [])) _
        refine XS.iconst X0.here hx rfl (hb hby d16_17) ?_
        show Steps p.tables e below (s₁.setTop (mkF m 18 #[.val (.int ((p1 ^^^ (-1 : Int32)) &&& (p1 - (1 : Int32)))), .unset] [(.int (1 : Int32))])) _
        refine XS.istoreN X0.here hx rfl (hb hby d16_18) rfl (l' := #[.val (.int ((p1 ^^^ (-1 : Int32)) &&& (p1 - (1 : Int32)))), .val (.int (1 : Int32))]) rfl ?_
        show Steps p.tables e below (s₁.setTop (mkF m 19 #[.val (.int ((p1 ^^^ (-1 : Int32)) &&& (p1 - (1 : Int32)))), .val (.int (1 : Int32))] [])) _
        refine XS.iloadN X0.here hx rfl (hb hby d16_19) rfl ?_
        show Steps p.tables e below (s₁.setTop (mkF m 20 #[.val (.int ((p1 ^^^ (-1 : Int32)) &&& (p1 - (1 : Int32)))), .val (.int (1 : Int32))] [(.int ((p1 ^^^ (-1 : Int32)) &&& (p1 - (1 : Int32))))])) _
        refine X0.ldcwInt hx hown (mvT hZ (hw _ (List.mem_of_getElem? (i := 94) rfl))) (g := (mkF m 20 #[.val (.int ((p1 ^^^ (-1 : Int32)) &&& (p1 - (1 : Int32)))), .val (.int (1 : Int32))] [(.int ((p1 ^^^ (-1 : Int32)) &&& (p1 - (1 : Int32))))])) rfl (hb hby d16_20) _ ?_
        by_cases h23 : (65536 : Int32) < ((p1 ^^^ (-1 : Int32)) &&& (p1 - (1 : Int32)))
        · show Steps p.tables e below (s₁.setTop (mkF m 23 #[.val (.int ((p1 ^^^ (-1 : Int32)) &&& (p1 - (1 : Int32)))), .val (.int (1 : Int32))] [(.int (65536 : Int32)), (.int ((p1 ^^^ (-1 : Int32)) &&& (p1 - (1 : Int32))))])) _
          refine XS.icmpNo X0.here hx rfl (hb hby d16_23) rfl (tlt h23).2.2.2 ?_
          show Steps p.tables e below (s₁.setTop (mkF m 26 #[.val (.int ((p1 ^^^ (-1 : Int32)) &&& (p1 - (1 : Int32)))), .val (.int (1 : Int32))] [])) _
          refine XS.iinc X0.here hx rfl (hb hby d16_26) rfl (l' := #[.val (.int ((p1 ^^^ (-1 : Int32)) &&& (p1 - (1 : Int32)))), .val (.int ((1 : Int32) + (16 : Int32)))]) rfl ?_
          show Steps p.tables e below (s₁.setTop (mkF m 29 #[.val (.int ((p1 ^^^ (-1 : Int32)) &&& (p1 - (1 : Int32)))), .val (.int ((1 : Int32) + (16 : Int32)))] [])) _
          refine XS.iloadN X0.here hx rfl (hb hby d16_29) rfl ?_
          show Steps p.tables e below (s₁.setTop (mkF m 30 #[.val (.int ((p1 ^^^ (-1 : Int32)) &&& (p1 - (1 : Int32)))), .val (.int ((1 : Int32) + (16 : Int32)))] [(.int ((p1 ^^^ (-1 : Int32)) &&& (p1 - (1 : Int32))))])) _
          refine XS.bipush X0.here hx rfl (hb hby d16_30) ?_
          show Steps p.tables e below (s₁.setTop (mkF m 32 #[.val (.int ((p1 ^^^ (-1 : Int32)) &&& (p1 - (1 : Int32)))), .val (.int ((1 : Int32) + (16 : Int32)))] [(.int (16 : Int32)), (.int ((p1 ^^^ (-1 : Int32)) &&& (p1 - (1 : Int32))))])) _
          refine XS.iushr X0.here hx rfl (hb hby d16_32) rfl ?_
          show Steps p.tables e below (s₁.setTop (mkF m 33 #[.val (.int ((p1 ^^^ (-1 : Int32)) &&& (p1 - (1 : Int32)))), .val (.int ((1 : Int32) + (16 : Int32)))] [(.int ((((p1 ^^^ (-1 : Int32)) &&& (p1 - (1 : Int32))).toUInt32 >>> ((16 : Int32) &&& 31).toUInt32).toInt32))])) _
          refine XS.istoreN X0.here hx rfl (hb hby d16_33) rfl (l' := #[.val (.int ((((p1 ^^^ (-1 : Int32)) &&& (p1 - (1 : Int32))).toUInt32 >>> ((16 : Int32) &&& 31).toUInt32).toInt32)), .val (.int ((1 : Int32) + (16 : Int32)))]) rfl ?_
          exact s_34 ((((p1 ^^^ (-1 : Int32)) &&& (p1 - (1 : Int32))).toUInt32 >>> ((16 : Int32) &&& 31).toUInt32).toInt32) ((1 : Int32) + (16 : Int32)) (Eq.trans (by rw [own_f16, if_pos h9, if_pos h23]) hV)
        · show Steps p.tables e below (s₁.setTop (mkF m 23 #[.val (.int ((p1 ^^^ (-1 : Int32)) &&& (p1 - (1 : Int32)))), .val (.int (1 : Int32))] [(.int (65536 : Int32)), (.int ((p1 ^^^ (-1 : Int32)) &&& (p1 - (1 : Int32))))])) _
          refine XS.icmpYes X0.here hx rfl (pc0 := 23) (pc' := 34) rfl (hb hby d16_23) rfl (flt h23).2.2.2 (by decide) (by decide) ?_
          exact s_34 ((p1 ^^^ (-1 : Int32)) &&& (p1 - (1 : Int32))) (1 : Int32) (Eq.trans (by rw [own_f16, if_pos h9, if_neg h23]) hV)
      · show Steps p.tables e below (s₁.setTop (mkF m 9 #[.val (.int ((p1 ^^^ (-1 : Int32)) &&& (p1 - (1 : Int32)))), .unset] [(.int ((p1 ^^^ (-1 : Int32)) &&& (p1 - (1 : Int32))))])) _
        refine XS.ifNo X0.here hx rfl (hb hby d16_9) rfl ((if0 _ _).trans (flt h9).2.2.1) ?_
        show Steps p.tables e below (s₁.setTop (mkF m 12 #[.val (.int ((p1 ^^^ (-1 : Int32)) &&& (p1 - (1 : Int32)))), .unset] [])) _
        refine XS.iloadN X0.here hx rfl (hb hby d16_12) rfl ?_
        show Steps p.tables e below (s₁.setTop (mkF m 13 #[.val (.int ((p1 ^^^ (-1 : Int32)) &&& (p1 - (1 : Int32)))), .unset] [(.int ((p1 ^^^ (-1 : Int32)) &&& (p1 - (1 : Int32))))])) _
        refine XS.bipush X0.here hx rfl (hb hby d16_13) ?_
        show Steps p.tables e below (s₁.setTop (mkF m 15 #[.val (.int ((p1 ^^^ (-1 : Int32)) &&& (p1 - (1 : Int32)))), .unset] [(.int (32 : Int32)), (.int ((p1 ^^^ (-1 : Int32)) &&& (p1 - (1 : Int32))))])) _
        refine XS.iand X0.here hx rfl (hb hby d16_15) rfl ?_
        show Steps p.tables e below (s₁.setTop (mkF m 16 #[.val (.int ((p1 ^^^ (-1 : Int32)) &&& (p1 - (1 : Int32)))), .unset] [(.int (((p1 ^^^ (-1 : Int32)) &&& (p1 - (1 : Int32))) &&& (32 : Int32)))])) _
        have he : (((p1 ^^^ (-1 : Int32)) &&& (p1 - (1 : Int32))) &&& (32 : Int32)) = own_f16 p1 := Eq.trans (by rw [own_f16, if_neg h9]) hV
        rw [← he] at hr
        exact retI X0 hx Bd.returns (hb hby d16_16) hr
    exact s_0 rfl
  · show Q16 Z p1 h0 n0 _ s₁.heap _
    rw [e0]
    exact ⟨rfl, N0, rfl⟩
theorem own_and (x m : Int32) (hm : 0 ≤ m.toInt) : 0 ≤ (x &&& m).toInt ∧ (x &&& m).toInt ≤ m.toInt := by
  have e : (x &&& m).toBitVec.toNat = x.toBitVec.toNat &&& m.toBitVec.toNat := by simp
  have h1 : (x &&& m).toBitVec.toNat ≤ m.toBitVec.toNat := by rw [e]; exact Nat.and_le_right
  have h2 := m.toBitVec.isLt
  rw [← Int32.toInt_toBitVec, BitVec.toInt_eq_toNat_cond] at hm ⊢
  rw [← Int32.toInt_toBitVec m, BitVec.toInt_eq_toNat_cond]
  generalize (x &&& m).toBitVec.toNat = a at *
  generalize m.toBitVec.toNat = b at *
  split at hm
  · split <;> omega
  · omega
theorem own_of (t : Int32) (n : Nat) (h0 : 0 ≤ t.toInt) (h1 : t.toInt < n) (hn : n ≤ 2 ^ 31) : ∃ k, k < n ∧ t = Int32.ofNat k ∧ t.toNatClampNeg = k := by
  refine ⟨t.toInt.toNat, by omega, ?_, ?_⟩
  · apply Int32.toInt_inj.1
    rw [Int32.toInt_ofNat_of_lt (by omega)]
    omega
  · rfl
theorem own_eqint {args : Array Value} {first s : State} {o : Option Outcome} {idx : List Nat} {t : Term} {j : Int32} (h : (Cond.eq t (.int j)).value args first o s idx = some true) : t.eval args first o idx s = some (.int j) := by
  obtain ⟨x, y, h1, h2, k1, k2⟩ := cmp_v (Or.inl h)
  have e2 : Value.int j = y := Option.some.inj h2
  subst e2
  obtain ⟨z, rfl⟩ := k2
  have h3 : (Term.int j).eval args first o idx s = some (.int j) := rfl
  have : z = j := by simpa [Cond.value, h1, h3] using h
  rw [h1, this]
def own_BS (Z : State) (h : Heap) (bs t : Addr) (kc : ClassId) (u : Int32) (w : Int64) : Prop := Exa Z h bs "java/util/BitSet" ∧ Fld Z h bs "java/util/BitSet" "wordsInUse" "I" (.int u) ∧ Fld Z h bs "java/util/BitSet" "words" "[J" (.ref t) ∧ Arv Z h t kc .long 1 [.long w] (.long (0 : Int64))
def own_PS (Z : State) (h : Heap) (a bs t : Addr) (kc : ClassId) (cn la u : Int32) (w : Int64) : Prop := Exa Z h a "com/example/oblivious/oblivious/broker/PacketIds" ∧ Fld Z h a "com/example/oblivious/oblivious/broker/PacketIds" "inUse" "Ljava/util/BitSet;" (.ref bs) ∧ Fld Z h a "com/example/oblivious/oblivious/broker/PacketIds" "count" "I" (.int cn) ∧ Fld Z h a "com/example/oblivious/oblivious/broker/PacketIds" "last" "I" (.int la) ∧ own_BS Z h bs t kc u w
theorem own_ns_e {Z : State} {h : Heap} {a : Addr} {C : String} (E : Exa Z h a C) : ∃ c : Cell, h[a]? = some c ∧ c.vm.isStatics = false := by
  obtain ⟨c, k, e1, -, -, e4, -⟩ := E
  exact ⟨c, e1, e4⟩
theorem own_ns_v {Z : State} {h : Heap} {a : Addr} {k : ClassId} {ty : FieldType} {n : Int32} {vs : List Value} {d : Value} (V : Arv Z h a k ty n vs d) : ∃ c : Cell, h[a]? = some c ∧ c.vm.isStatics = false := by
  obtain ⟨c, A, -⟩ := V
  refine ⟨c, A.1, ?_⟩
  have q := A.2.1.1
  cases hv : c.vm with
  | statics k => exact absurd hv (by simpa using q k)
  | _ => rfl
theorem own_sta_keep {Z : State} {h h' : Heap} {C n d : String} {v : Value} {ws : List Addr} (F : Sta Z h C n d v) (Kp : Keep h h' ws) (hns : ∀ x ∈ ws, ∃ c : Cell, h[x]? = some c ∧ c.vm.isStatics = false) : Sta Z h' C n d v := by
  obtain ⟨cf, i, k, f, st, cell, h1, h2, h3, h4, h5, h6, h7⟩ := F
  refine ⟨cf, i, k, f, st, cell, h1, h2, h3, h4, Kp.2.1 _ _ h5 (fun q => ?_), h6, h7⟩
  obtain ⟨c', e1, e4⟩ := hns _ q
  cases h5.symm.trans e1
  rw [h6] at e4
  cases e4
theorem own_all0 {p : Addr → Prop} : ∀ x ∈ ([] : List Addr), p x := fun _ q => nomatch q
theorem own_allS {p : Addr → Prop} {a : Addr} {l : List Addr} (h : p a) (r : ∀ x ∈ l, p x) : ∀ x ∈ a :: l, p x := fun x q => by
  rcases List.mem_cons.mp q with rfl | q
  · exact h
  · exact r x q
theorem own_nm0 {a : Addr} : a ∉ ([] : List Addr) := fun q => nomatch q
theorem own_nmS {a b : Addr} {l : List Addr} (h : a ≠ b) (r : a ∉ l) : a ∉ b :: l := fun q => (List.mem_cons.mp q).elim h r
def own_get (u : Int32) (w : Int64) (i : Int32) : Int32 := if 0 < u then (if lcmpW (w &&& ((1 : Int64) <<< (i &&& 0x3f).toInt64)) (0 : Int64) = 0 then 0 else 1) else 0
def own_ntz (q : Int64) : Int32 := if q.toInt32 = 0 then (32 : Int32) + own_f16 ((q.toUInt64 >>> ((32 : Int32) &&& 0x3f).toInt64.toUInt64).toInt64).toInt32 else own_f16 q.toInt32
def own_cw (w : Int64) (i : Int32) : Int64 := (w ^^^ (-1 : Int64)) &&& ((-1 : Int64) <<< (i &&& 0x3f).toInt64)
def own_ncb (u : Int32) (w : Int64) (i : Int32) : Int32 := if 0 < u then ((0 : Int32) * (64 : Int32)) + own_ntz (own_cw w i) else i
def own_ru (w : Int64) : Int32 := if lcmpW w 0 = 0 then 0 else 1
def own_set (w : Int64) (i : Int32) : Int64 := w ||| ((1 : Int64) <<< (i &&& 0x3f).toInt64)
def own_clr (w : Int64) (i : Int32) : Int64 := w &&& (((1 : Int64) <<< (i &&& 0x3f).toInt64) ^^^ (-1 : Int64))
theorem own_u1 {u : Int32} {w : Int64} {i : Int32} (hu : u = 0 ∨ u = 1) (h : ¬ own_get u w i = 0) : u = 1 := by
  rcases hu with rfl | rfl
  · exact absurd rfl h
  · rfl
theorem own_g01 (u : Int32) (w : Int64) (i : Int32) : nar .boolean (own_get u w i) = own_get u w i := by
  unfold own_get
  (repeat' split) <;> decide
theorem d9_0 : decode jdk_92_method_2_code 0 = .ok (.getstatic 3, 3) := by decide +kernel
theorem d9_3 : decode jdk_92_method_2_code 3 = .ok (.ifCond .ne 34, 3) := by decide +kernel
theorem d9_37 : decode jdk_92_method_2_code 37 = .ok (.getstatic 3, 3) := by decide +kernel
theorem d9_40 : decode jdk_92_method_2_code 40 = .ok (.ifCond .ne 30, 3) := by decide +kernel
theorem d9_70 : decode jdk_92_method_2_code 70 = .ok (.getstatic 3, 3) := by decide +kernel
theorem d9_73 : decode jdk_92_method_2_code 73 = .ok (.ifCond .ne 37, 3) := by decide +kernel
theorem d9_110 : decode jdk_92_method_2_code 110 = .ok (.return_, 1) := by decide +kernel
theorem ef_rm9 (m : MethodId) (x0 : Addr) : entryFrame m #[(.ref x0)] 1 = mkF m 0 #[.val (.ref x0)] [] := by first | (simp [entryFrame, mkF, argsToLocals, Value.category]; done) | rfl
def Q9 (Z : State) (a1 : Addr) (h0 : Heap) (n0 : Nat) (v : Option Value) (h : Heap) (L : List Loc) : Prop := v = none ∧ Fr n0 L ∧ h = h0
set_option maxHeartbeats 40000000 in
theorem rm9 (l : Launch) (Z : State) (a0 : Array Value) (hw : ∀ d ∈ tables_1, d.before a0 Z = true) (ws : List Jvm.Cond) (a1 : Addr) (h0 : Heap) (n0 : Nat) (Z0 : n0 ≤ h0.size) (St : Sta Z h0 "java/util/BitSet" "$assertionsDisabled" "Z" (.int 1)) :
    MetFree l (⟨"java/util/BitSet", "checkInvariants", "()V"⟩ : MethodName) (head1 (Jvm.Cond.code (⟨"java/util/BitSet", "checkInvariants", "()V"⟩ : MethodName) jdk_92_method_2_code 1 none :: ws) ({ frames := 0, cells := 0, slots := 0, locals := 0 } : Room)) (fun a U => a = #[(.ref a1)] ∧ Z.Warmed39 U.vm ∧ U.heap = h0) (fun _ _ _ _ _ => True) (fun _ U o U' => ∃ v L, o = .returned v ∧ Q9 Z a1 h0 n0 v U'.heap L ∧ FrameEnd U o U' L ({ frames := 0, cells := 0, slots := 0, locals := 0 } : Room).cells ({ frames := 0, cells := 0, slots := 0, locals := 0 } : Room).slots) := by
  refine MetFree.of_bodySF (plainFor_of_name pn_0) hisR ?_
  intro p e s m args below meth c s₁ Bd hml0 hP hK
  obtain ⟨rfl, hZ, hh⟩ := hP
  have hx := Bd.exec
  have hby := Bd.bytes
  have hml : c.maxLocals = 1 := hml0
  have hown : s.vm.findClass "java/util/BitSet" = some m.cls := findClass_of_methodNamed Bd.named
  have hnm := (name_of_methodNamed Bd.named Bd.method).1
  have X0 : Stand p l e ({ frames := 0, cells := 0, slots := 0, locals := 0 } : Room) s m #[(.ref a1)] below meth c s₁ [] 0 0 := Stand.of_body Bd
  have e0 : s₁.heap = h0 := by rw [← hh, Bd.state]; rfl
  have N0 := Fr.nil n0
  have pre0 : ∀ tgt, Steps p.tables e below (s₁.setTop (mkF m 0 #[.val (.ref a1)] [])) tgt → Steps p.tables e below (s₁.setTop (entryFrame m #[(.ref a1)] 1)) tgt := fun tgt k => castTop (ef_rm9 m a1) k
  obtain ⟨T1, X1, e1, st1⟩ := getS2 X0 hx hZ hown (host := "") (Or.inl (hw _ (List.mem_of_getElem? (i := 56) rfl))) Via.refl e0 St (g := (mkF m 0 #[.val (.ref a1)] [])) rfl (hb hby d9_0)
  obtain ⟨T2, X2, e2, st2⟩ := getS2 X1 hx hZ hown (host := "") (Or.inl (hw _ (List.mem_of_getElem? (i := 56) rfl))) Via.refl e1 St (g := (mkF m 37 #[.val (.ref a1)] [])) rfl (hb hby d9_37)
  obtain ⟨T3, X3, e3, st3⟩ := getS2 X2 hx hZ hown (host := "") (Or.inl (hw _ (List.mem_of_getElem? (i := 56) rfl))) Via.refl e2 St (g := (mkF m 70 #[.val (.ref a1)] [])) rfl (hb hby d9_70)
  obtain ⟨fs, hr, hrun, hended, hW, hsame⟩ := X3.leave (v := none) (fun _ => rfl)
  refine ⟨_, _, pre0 _ ?_, hrun, hended, _, _, rfl, ?_, ⟨_, rfl⟩, hW, hsame.mono (by decide) (by decide)⟩
  · show Steps p.tables e below (s₁.setTop (mkF m 0 #[.val (.ref a1)] [])) _
    refine st1 _ ?_
    show Steps p.tables e below (T1.setTop (mkF m 3 #[.val (.ref a1)] [(.int (1 : Int32))])) _
    refine XS.ifYes X1.here hx rfl (pc0 := 3) (pc' := 37) rfl (hb hby d9_3) rfl ((if0 _ _).trans (feq (by decide : ¬ ((1 : Int32) = (0 : Int32)))).2) (by decide) (by decide) ?_
    show Steps p.tables e below (T1.setTop (mkF m 37 #[.val (.ref a1)] [])) _
    refine st2 _ ?_
    show Steps p.tables e below (T2.setTop (mkF m 40 #[.val (.ref a1)] [(.int (1 : Int32))])) _
    refine XS.ifYes X2.here hx rfl (pc0 := 40) (pc' := 70) rfl (hb hby d9_40) rfl ((if0 _ _).trans (feq (by decide : ¬ ((1 : Int32) = (0 : Int32)))).2) (by decide) (by decide) ?_
    show Steps p.tables e below (T2.setTop (mkF m 70 #[.val (.ref a1)] [])) _
    refine st3 _ ?_
    show Steps p.tables e below (T3.setTop (mkF m 73 #[.val (.ref a1)] [(.int (1 : Int32))])) _
    refine XS.ifYes X3.here hx rfl (pc0 := 73) (pc' := 110) rfl (hb hby d9_73) rfl ((if0 _ _).trans (feq (by decide : ¬ ((1 : Int32) = (0 : Int32)))).2) (by decide) (by decide) ?_
    show Steps p.tables e below (T3.setTop (mkF m 110 #[.val (.ref a1)] [])) _
    exact X3.returnOut hx Bd.returns (hb hby d9_110) hr
  · show Q9 Z a1 h0 n0 _ T3.heap _
    rw [e3]
    exact ⟨rfl, N0, rfl⟩
theorem d14_0 : decode jdk_92_method_14_code 0 = .ok (.aload_n 0, 1) := by decide +kernel
theorem d14_1 : decode jdk_92_method_14_code 1 = .ok (.getfield 11, 3) := by decide +kernel
theorem d14_4 : decode jdk_92_method_14_code 4 = .ok (.arraylength, 1) := by decide +kernel
theorem d14_5 : decode jdk_92_method_14_code 5 = .ok (.iload_n 1, 1) := by decide +kernel
theorem d14_6 : decode jdk_92_method_14_code 6 = .ok (.if_icmp .ge 32, 3) := by decide +kernel
theorem d14_38 : decode jdk_92_method_14_code 38 = .ok (.return_, 1) := by decide +kernel
theorem ef_rm14 (m : MethodId) (x0 : Addr) (x1 : Int32) : entryFrame m #[(.ref x0), (.int x1)] 3 = mkF m 0 #[.val (.ref x0), .val (.int x1), .unset] [] := by first | (simp [entryFrame, mkF, argsToLocals, Value.category]; done) | rfl
def Q14 (Z : State) (a1 : Addr) (p1 : Int32) (t : Addr) (kc : ClassId) (u : Int32) (w : Int64) (h0 : Heap) (n0 : Nat) (v : Option Value) (h : Heap) (L : List Loc) : Prop := v = none ∧ Fr n0 L ∧ h = h0
set_option maxHeartbeats 40000000 in
theorem rm14 (l : Launch) (Z : State) (a0 : Array Value) (hw : ∀ d ∈ tables_1, d.before a0 Z = true) (ws : List Jvm.Cond) (a1 : Addr) (p1 : Int32) (t : Addr) (kc : ClassId) (u : Int32) (w : Int64) (h0 : Heap) (n0 : Nat) (Z0 : n0 ≤ h0.size) (hB : own_BS Z h0 a1 t kc u w) (St : Sta Z h0 "java/util/BitSet" "$assertionsDisabled" "Z" (.int 1)) (hp : ¬ (1 : Int32) < p1) :
    MetFree l (⟨"java/util/BitSet", "ensureCapacity", "(I)V"⟩ : MethodName) (head1 (Jvm.Cond.code (⟨"java/util/BitSet", "ensureCapacity", "(I)V"⟩ : MethodName) jdk_92_method_14_code 3 none :: ws) ({ frames := 0, cells := 0, slots := 0, locals := 0 } : Room)) (fun a U => a = #[(.ref a1), (.int p1)] ∧ Z.Warmed39 U.vm ∧ U.heap = h0) (fun _ _ _ _ _ => True) (fun _ U o U' => ∃ v L, o = .returned v ∧ Q14 Z a1 p1 t kc u w h0 n0 v U'.heap L ∧ FrameEnd U o U' L ({ frames := 0, cells := 0, slots := 0, locals := 0 } : Room).cells ({ frames := 0, cells := 0, slots := 0, locals := 0 } : Room).slots) := by
  refine MetFree.of_bodySF (plainFor_of_name pn_0) hisR ?_
  intro p e s m args below meth c s₁ Bd hml0 hP hK
  obtain ⟨rfl, hZ, hh⟩ := hP
  have hx := Bd.exec
  have hby := Bd.bytes
  have hml : c.maxLocals = 3 := hml0
  have hown : s.vm.findClass "java/util/BitSet" = some m.cls := findClass_of_methodNamed Bd.named
  have hnm := (name_of_methodNamed Bd.named Bd.method).1
  have X0 : Stand p l e ({ frames := 0, cells := 0, slots := 0, locals := 0 } : Room) s m #[(.ref a1), (.int p1)] below meth c s₁ [] 0 0 := Stand.of_body Bd
  have e0 : s₁.heap = h0 := by rw [← hh, Bd.state]; rfl
  have N0 := Fr.nil n0
  have pre0 : ∀ tgt, Steps p.tables e below (s₁.setTop (mkF m 0 #[.val (.ref a1), .val (.int p1), .unset] [])) tgt → Steps p.tables e below (s₁.setTop (entryFrame m #[(.ref a1), (.int p1)] 3)) tgt := fun tgt k => castTop (ef_rm14 m a1 p1) k
  obtain ⟨B0, B1, B2, B3⟩ := hB
  obtain ⟨T1, X1, e1, st1⟩ := getF X0 hx hZ hown (host := "") (Or.inl (hw _ (List.mem_of_getElem? (i := 29) rfl))) Via.refl e0 B2 (g := (mkF m 1 #[.val (.ref a1), .val (.int p1), .unset] [(.ref a1)])) rfl rfl (hb hby d14_1)
  obtain ⟨cl2, Ar2, -, S2, M2, -, -⟩ := id B3
  obtain ⟨fs, hr, hrun, hended, hW, hsame⟩ := X1.leave (v := none) (fun _ => rfl)
  refine ⟨_, _, pre0 _ ?_, hrun, hended, _, _, rfl, ?_, ⟨_, rfl⟩, hW, hsame.mono (by decide) (by decide)⟩
  · show Steps p.tables e below (s₁.setTop (mkF m 0 #[.val (.ref a1), .val (.int p1), .unset] [])) _
    refine XS.aloadN X0.here hx rfl (hb hby d14_0) rfl rfl ?_
    show Steps p.tables e below (s₁.setTop (mkF m 1 #[.val (.ref a1), .val (.int p1), .unset] [(.ref a1)])) _
    refine st1 _ ?_
    show Steps p.tables e below (T1.setTop (mkF m 4 #[.val (.ref a1), .val (.int p1), .unset] [(.ref t)])) _
    refine X1.arraylength hx (by rw [e1]; exact Ar2.1) (State.isArrayOf_alike hZ.alike Ar2.2.1) (g := (mkF m 4 #[.val (.ref a1), .val (.int p1), .unset] [(.ref t)])) rfl rfl (hb hby d14_4) _ ?_
    rw [len_of S2 M2]
    show Steps p.tables e below (T1.setTop (mkF m 5 #[.val (.ref a1), .val (.int p1), .unset] [(.int (1 : Int32))])) _
    refine XS.iloadN X1.here hx rfl (hb hby d14_5) rfl ?_
    show Steps p.tables e below (T1.setTop (mkF m 6 #[.val (.ref a1), .val (.int p1), .unset] [(.int p1), (.int (1 : Int32))])) _
    refine XS.icmpYes X1.here hx rfl (pc0 := 6) (pc' := 38) rfl (hb hby d14_6) rfl (flt hp).2.1 (by decide) (by decide) ?_
    show Steps p.tables e below (T1.setTop (mkF m 38 #[.val (.ref a1), .val (.int p1), .unset] [])) _
    exact X1.returnOut hx Bd.returns (hb hby d14_38) hr
  · show Q14 Z a1 p1 t kc u w h0 n0 _ T1.heap _
    rw [e1]
    exact ⟨rfl, N0, rfl⟩
theorem d13_0 : decode jdk_92_method_15_code 0 = .ok (.iload_n 1, 1) := by decide +kernel
theorem d13_1 : decode jdk_92_method_15_code 1 = .ok (.iconst 1, 1) := by decide +kernel
theorem d13_2 : decode jdk_92_method_15_code 2 = .ok (.iadd, 1) := by decide +kernel
theorem d13_3 : decode jdk_92_method_15_code 3 = .ok (.istore_n 2, 1) := by decide +kernel
theorem d13_4 : decode jdk_92_method_15_code 4 = .ok (.aload_n 0, 1) := by decide +kernel
theorem d13_5 : decode jdk_92_method_15_code 5 = .ok (.getfield 7, 3) := by decide +kernel
theorem d13_8 : decode jdk_92_method_15_code 8 = .ok (.iload_n 2, 1) := by decide +kernel
theorem d13_9 : decode jdk_92_method_15_code 9 = .ok (.if_icmp .ge 13, 3) := by decide +kernel
theorem d13_12 : decode jdk_92_method_15_code 12 = .ok (.aload_n 0, 1) := by decide +kernel
theorem d13_13 : decode jdk_92_method_15_code 13 = .ok (.iload_n 2, 1) := by decide +kernel
theorem d13_14 : decode jdk_92_method_15_code 14 = .ok (.invokevirtual 139, 3) := by decide +kernel
theorem pd_0 : parseMethodDescriptor "(I)V" = some ⟨[.int], none⟩ := by decide +kernel
theorem d13_17 : decode jdk_92_method_15_code 17 = .ok (.aload_n 0, 1) := by decide +kernel
theorem d13_18 : decode jdk_92_method_15_code 18 = .ok (.iload_n 2, 1) := by decide +kernel
theorem d13_19 : decode jdk_92_method_15_code 19 = .ok (.putfield 7, 3) := by decide +kernel
theorem d13_22 : decode jdk_92_method_15_code 22 = .ok (.return_, 1) := by decide +kernel
theorem ef_rm13 (m : MethodId) (x0 : Addr) (x1 : Int32) : entryFrame m #[(.ref x0), (.int x1)] 3 = mkF m 0 #[.val (.ref x0), .val (.int x1), .unset] [] := by first | (simp [entryFrame, mkF, argsToLocals, Value.category]; done) | rfl
def Q13 (Z : State) (a1 : Addr) (p1 : Int32) (t : Addr) (kc : ClassId) (u : Int32) (w : Int64) (h0 : Heap) (n0 : Nat) (v : Option Value) (h : Heap) (L : List Loc) : Prop := v = none ∧ Fr n0 L ∧ Keep h0 h [a1] ∧ own_BS Z h a1 t kc 1 w
set_option maxHeartbeats 40000000 in
theorem rm13 (l : Launch) (Z : State) (a0 : Array Value) (hw : ∀ d ∈ tables_1, d.before a0 Z = true) (ws : List Jvm.Cond) (a1 : Addr) (p1 : Int32) (t : Addr) (kc : ClassId) (u : Int32) (w : Int64) (h0 : Heap) (n0 : Nat) (Z0 : n0 ≤ h0.size) (gn_a1 : n0 ≤ a1) (gn_t : n0 ≤ t) (ne1 : a1 ≠ t) (hB : own_BS Z h0 a1 t kc u w) (St : Sta Z h0 "java/util/BitSet" "$assertionsDisabled" "Z" (.int 1)) (hp : p1 = 0) (hu : u = 0 ∨ u = 1) :
    MetFree l (⟨"java/util/BitSet", "expandTo", "(I)V"⟩ : MethodName) (head1 (Jvm.Cond.code (⟨"java/util/BitSet", "expandTo", "(I)V"⟩ : MethodName) jdk_92_method_15_code 3 none :: ws) ({ frames := 1, cells := 0, slots := 0, locals := 14 } : Room)) (fun a U => a = #[(.ref a1), (.int p1)] ∧ Z.Warmed39 U.vm ∧ U.heap = h0) (fun _ _ _ _ _ => True) (fun _ U o U' => ∃ v L, o = .returned v ∧ Q13 Z a1 p1 t kc u w h0 n0 v U'.heap L ∧ FrameEnd U o U' L ({ frames := 1, cells := 0, slots := 0, locals := 14 } : Room).cells ({ frames := 1, cells := 0, slots := 0, locals := 14 } : Room).slots) := by
  refine MetFree.of_bodySF (plainFor_of_name pn_0) hisR ?_
  intro p e s m args below meth c s₁ Bd hml0 hP hK
  obtain ⟨rfl, hZ, hh⟩ := hP
  have hx := Bd.exec
  have hby := Bd.bytes
  have hml : c.maxLocals = 3 := hml0
  have hown : s.vm.findClass "java/util/BitSet" = some m.cls := findClass_of_methodNamed Bd.named
  have hnm := (name_of_methodNamed Bd.named Bd.method).1
  have X0 : Stand p l e ({ frames := 1, cells := 0, slots := 0, locals := 14 } : Room) s m #[(.ref a1), (.int p1)] below meth c s₁ [] 0 0 := Stand.of_body Bd
  have e0 : s₁.heap = h0 := by rw [← hh, Bd.state]; rfl
  have N0 := Fr.nil n0
  have pre0 : ∀ tgt, Steps p.tables e below (s₁.setTop (mkF m 0 #[.val (.ref a1), .val (.int p1), .unset] [])) tgt → Steps p.tables e below (s₁.setTop (entryFrame m #[(.ref a1), (.int p1)] 3)) tgt := fun tgt k => castTop (ef_rm13 m a1 p1) k
  obtain ⟨B0, B1, B2, B3⟩ := hB
  have pre1 : ∀ tgt, Steps p.tables e below (s₁.setTop (mkF m 4 #[.val (.ref a1), .val (.int p1), .val (.int (p1 + (1 : Int32)))] [])) tgt → Steps p.tables e below (s₁.setTop (entryFrame m #[(.ref a1), (.int p1)] 3)) tgt := fun tgt kt => pre0 _ (by
    show Steps p.tables e below (s₁.setTop (mkF m 0 #[.val (.ref a1), .val (.int p1), .unset] [])) _
    refine XS.iloadN X0.here hx rfl (hb hby d13_0) rfl ?_
    show Steps p.tables e below (s₁.setTop (mkF m 1 #[.val (.ref a1), .val (.int p1), .unset] [(.int p1)])) _
    refine XS.iconst X0.here hx rfl (hb hby d13_1) ?_
    show Steps p.tables e below (s₁.setTop (mkF m 2 #[.val (.ref a1), .val (.int p1), .unset] [(.int (1 : Int32)), (.int p1)])) _
    refine XS.iadd X0.here hx rfl (hb hby d13_2) rfl ?_
    show Steps p.tables e below (s₁.setTop (mkF m 3 #[.val (.ref a1), .val (.int p1), .unset] [(.int (p1 + (1 : Int32)))])) _
    refine XS.istoreN X0.here hx rfl (hb hby d13_3) rfl (l' := #[.val (.ref a1), .val (.int p1), .val (.int (p1 + (1 : Int32)))]) rfl ?_
    exact kt)
  have rw2 : (p1 + (1 : Int32)) = (1 : Int32) := by first | (rw [hp]; done) | (rw [hp]; rfl)
  rw [rw2] at pre1
  obtain ⟨T3, X3, e3, st3⟩ := getF X0 hx hZ hown (host := "") (Or.inl (hw _ (List.mem_of_getElem? (i := 16) rfl))) Via.refl e0 B1 (g := (mkF m 5 #[.val (.ref a1), .val (.int p1), .val (.int (1 : Int32))] [(.ref a1)])) rfl rfl (hb hby d13_5)
  have pre4 : ∀ tgt, Steps p.tables e below (T3.setTop (mkF m 9 #[.val (.ref a1), .val (.int p1), .val (.int (1 : Int32))] [(.int (1 : Int32)), (.int u)])) tgt → Steps p.tables e below (s₁.setTop (entryFrame m #[(.ref a1), (.int p1)] 3)) tgt := fun tgt kt => pre1 _ (by
    show Steps p.tables e below (s₁.setTop (mkF m 4 #[.val (.ref a1), .val (.int p1), .val (.int (1 : Int32))] [])) _
    refine XS.aloadN X0.here hx rfl (hb hby d13_4) rfl rfl ?_
    show Steps p.tables e below (s₁.setTop (mkF m 5 #[.val (.ref a1), .val (.int p1), .val (.int (1 : Int32))] [(.ref a1)])) _
    refine st3 _ ?_
    show Steps p.tables e below (T3.setTop (mkF m 8 #[.val (.ref a1), .val (.int p1), .val (.int (1 : Int32))] [(.int u)])) _
    refine XS.iloadN X3.here hx rfl (hb hby d13_8) rfl ?_
    exact kt)
  by_cases hA : u < (1 : Int32)
  · obtain ⟨cq5, q5, q5'⟩ := B0.cell
    obtain ⟨_, _, ⟨T5, L5, k5, n5⟩, -, X5, ⟨Lc5, hQ5, l5, y5, z5⟩, st5⟩ := X3.privateBack hx (y := (⟨"java/util/BitSet", "ensureCapacity", "(I)V"⟩ : MethodName)) hown (mvT hZ (hw _ (List.mem_of_getElem? (i := 80) rfl))) (mvT hZ (hw _ (List.mem_of_getElem? (i := 81) rfl))) (mvT hZ (hw _ (List.mem_of_getElem? (i := 83) rfl))) (Cond.privateMethod_at (mvP hZ (hw _ (List.mem_of_getElem? (i := 82) rfl)) (args := #[]))) (mvT hZ (hw _ (List.mem_of_getElem? (i := 84) rfl))) (by decide) (backOf (W := 0) (rm14 l Z a0 hw [] a1 (1 : Int32) t kc u w h0 n0 Z0 ⟨B0, B1, B2, B3⟩ St (by decide)) hZ (hw _ (List.mem_of_getElem? (i := 84) rfl)) (hw _ (List.mem_of_getElem? (i := 11) rfl)) (by decide) (by decide)) (g := (mkF m 14 #[.val (.ref a1), .val (.int p1), .val (.int (1 : Int32))] [(.int (1 : Int32)), (.ref a1)])) rfl (by rw [hml]; rfl) (Steps.refl _) (a := a1) (by rw [e3]; exact q5) q5' (argsL := [(.int (1 : Int32))]) (rest := []) (lenOf pd_0 rfl) rfl (by show 2 * 0 + _ ≤ _; exact Nat.le_of_eq rfl) (hb hby d13_14) (fun _ _ => ⟨rfl, e3, (by decide : 0 + 0 ≤ _), (by decide : 0 + 0 ≤ _)⟩)
    dsimp only [Pt.U, Pt.locs, Pt.cells, Pt.slots] at X5 l5 y5 z5 st5 hQ5
    subst l5 y5 z5
    obtain ⟨rfl, Nq5, e5⟩ := hQ5
    have N6 := Fr.app N0 Nq5
    obtain ⟨T7, h7, X7, e7, W7, st7⟩ := putF X5 hx hZ hown (host := "") (Or.inl (hw _ (List.mem_of_getElem? (i := 16) rfl))) Via.refl e5 B1 B0 (Or.inl (hw _ (List.mem_of_getElem? (i := 17) rfl))) (hw _ (List.mem_of_getElem? (i := 10) rfl)) (ty := .int) (by decide) rfl rfl (g := (mkF m 19 #[.val (.ref a1), .val (.int p1), .val (.int (1 : Int32))] [(.int (1 : Int32)), (.ref a1)])) rfl rfl (hb hby d13_19)
    have f8 := B1.same W7
    have f9 := B0.wr W7
    have f10 := B2.other W7 (Or.inr (slot_ne (Or.inl (hw _ (List.mem_of_getElem? (i := 30) rfl))) (Or.inl (hw _ (List.mem_of_getElem? (i := 17) rfl))) (by decide) (t := (.array .long)) (t' := .int) (by decide) (by decide)))
    have f11 := B3.other W7 (Ne.symm ne1)
    have f12 := St.wr W7
    have zz13 : n0 ≤ h7.size := Nat.le_trans Z0 (Keep.of_wr W7).1
    have N14 := Fr.snoc X7 N6 gn_a1
    have K15 : Keep h0 h7 [a1] := (Keep.refl h0 [a1]).wr W7 (Or.inl (List.mem_of_getElem? (i := 0) rfl))
    obtain ⟨fs, hr, hrun, hended, hW, hsame⟩ := X7.leave (v := none) (fun _ => rfl)
    refine ⟨_, _, pre4 _ ?_, hrun, hended, _, _, rfl, ?_, ⟨_, rfl⟩, hW, hsame.mono (by decide) (by decide)⟩
    · show Steps p.tables e below (T3.setTop (mkF m 9 #[.val (.ref a1), .val (.int p1), .val (.int (1 : Int32))] [(.int (1 : Int32)), (.int u)])) _
      refine XS.icmpNo X3.here hx rfl (hb hby d13_9) rfl (tlt hA).2.1 ?_
      show Steps p.tables e below (T3.setTop (mkF m 12 #[.val (.ref a1), .val (.int p1), .val (.int (1 : Int32))] [])) _
      refine XS.aloadN X3.here hx rfl (hb hby d13_12) rfl rfl ?_
      show Steps p.tables e below (T3.setTop (mkF m 13 #[.val (.ref a1), .val (.int p1), .val (.int (1 : Int32))] [(.ref a1)])) _
      refine XS.iloadN X3.here hx rfl (hb hby d13_13) rfl ?_
      show Steps p.tables e below (T3.setTop (mkF m 14 #[.val (.ref a1), .val (.int p1), .val (.int (1 : Int32))] [(.int (1 : Int32)), (.ref a1)])) _
      refine st5.trans ?_
      show Steps p.tables e below (T5.setTop (mkF m 17 #[.val (.ref a1), .val (.int p1), .val (.int (1 : Int32))] [])) _
      refine XS.aloadN X5.here hx rfl (hb hby d13_17) rfl rfl ?_
      show Steps p.tables e below (T5.setTop (mkF m 18 #[.val (.ref a1), .val (.int p1), .val (.int (1 : Int32))] [(.ref a1)])) _
      refine XS.iloadN X5.here hx rfl (hb hby d13_18) rfl ?_
      show Steps p.tables e below (T5.setTop (mkF m 19 #[.val (.ref a1), .val (.int p1), .val (.int (1 : Int32))] [(.int (1 : Int32)), (.ref a1)])) _
      refine st7 _ ?_
      show Steps p.tables e below (T7.setTop (mkF m 22 #[.val (.ref a1), .val (.int p1), .val (.int (1 : Int32))] [])) _
      exact X7.returnOut hx Bd.returns (hb hby d13_22) hr
    · show Q13 Z a1 p1 t kc u w h0 n0 _ T7.heap _
      rw [e7]
      exact ⟨rfl, N14, K15, ⟨f9, f8, f10, f11⟩⟩
  · have hu1 : u = 1 := hu.elim (fun q => absurd (by rw [q]; decide) hA) id
    obtain ⟨fs, hr, hrun, hended, hW, hsame⟩ := X3.leave (v := none) (fun _ => rfl)
    refine ⟨_, _, pre4 _ ?_, hrun, hended, _, _, rfl, ?_, ⟨_, rfl⟩, hW, hsame.mono (by decide) (by decide)⟩
    · show Steps p.tables e below (T3.setTop (mkF m 9 #[.val (.ref a1), .val (.int p1), .val (.int (1 : Int32))] [(.int (1 : Int32)), (.int u)])) _
      refine XS.icmpYes X3.here hx rfl (pc0 := 9) (pc' := 22) rfl (hb hby d13_9) rfl (flt hA).2.1 (by decide) (by decide) ?_
      show Steps p.tables e below (T3.setTop (mkF m 22 #[.val (.ref a1), .val (.int p1), .val (.int (1 : Int32))] [])) _
      exact X3.returnOut hx Bd.returns (hb hby d13_22) hr
    · show Q13 Z a1 p1 t kc u w h0 n0 _ T3.heap _
      rw [e3]
      subst hu1
      exact ⟨rfl, N0, Keep.refl _ _, ⟨B0, B1, B2, B3⟩⟩
theorem d8_0 : decode jdk_92_method_26_code 0 = .ok (.iload_n 1, 1) := by decide +kernel
theorem d8_1 : decode jdk_92_method_26_code 1 = .ok (.ifCond .ge 30, 3) := by decide +kernel
theorem d8_31 : decode jdk_92_method_26_code 31 = .ok (.aload_n 0, 1) := by decide +kernel
theorem d8_32 : decode jdk_92_method_26_code 32 = .ok (.invokevirtual 56, 3) := by decide +kernel
theorem pd_1 : parseMethodDescriptor "()V" = some ⟨[], none⟩ := by decide +kernel
theorem d8_35 : decode jdk_92_method_26_code 35 = .ok (.iload_n 1, 1) := by decide +kernel
theorem d8_36 : decode jdk_92_method_26_code 36 = .ok (.invokestatic 52, 3) := by decide +kernel
theorem pd_2 : parseMethodDescriptor "(I)I" = some ⟨[.int], some .int⟩ := by decide +kernel
theorem d8_39 : decode jdk_92_method_26_code 39 = .ok (.istore_n 2, 1) := by decide +kernel
theorem d8_40 : decode jdk_92_method_26_code 40 = .ok (.iload_n 2, 1) := by decide +kernel
theorem d8_41 : decode jdk_92_method_26_code 41 = .ok (.aload_n 0, 1) := by decide +kernel
theorem d8_42 : decode jdk_92_method_26_code 42 = .ok (.getfield 7, 3) := by decide +kernel
theorem d8_45 : decode jdk_92_method_26_code 45 = .ok (.if_icmp .ge 22, 3) := by decide +kernel
theorem d8_48 : decode jdk_92_method_26_code 48 = .ok (.aload_n 0, 1) := by decide +kernel
theorem d8_49 : decode jdk_92_method_26_code 49 = .ok (.getfield 11, 3) := by decide +kernel
theorem d8_52 : decode jdk_92_method_26_code 52 = .ok (.iload_n 2, 1) := by decide +kernel
theorem d8_53 : decode jdk_92_method_26_code 53 = .ok (.laload, 1) := by decide +kernel
theorem d8_54 : decode jdk_92_method_26_code 54 = .ok (.lconst 1, 1) := by decide +kernel
theorem d8_55 : decode jdk_92_method_26_code 55 = .ok (.iload_n 1, 1) := by decide +kernel
theorem d8_56 : decode jdk_92_method_26_code 56 = .ok (.lshl, 1) := by decide +kernel
theorem d8_57 : decode jdk_92_method_26_code 57 = .ok (.land, 1) := by decide +kernel
theorem d8_58 : decode jdk_92_method_26_code 58 = .ok (.lconst 0, 1) := by decide +kernel
theorem d8_59 : decode jdk_92_method_26_code 59 = .ok (.lcmp, 1) := by decide +kernel
theorem d8_60 : decode jdk_92_method_26_code 60 = .ok (.ifCond .eq 7, 3) := by decide +kernel
theorem d8_67 : decode jdk_92_method_26_code 67 = .ok (.iconst 0, 1) := by decide +kernel
theorem d8_68 : decode jdk_92_method_26_code 68 = .ok (.ireturn, 1) := by decide +kernel
theorem d8_63 : decode jdk_92_method_26_code 63 = .ok (.iconst 1, 1) := by decide +kernel
theorem d8_64 : decode jdk_92_method_26_code 64 = .ok (.goto 4, 3) := by decide +kernel
theorem ef_rm8 (m : MethodId) (x0 : Addr) (x1 : Int32) : entryFrame m #[(.ref x0), (.int x1)] 3 = mkF m 0 #[.val (.ref x0), .val (.int x1), .unset] [] := by first | (simp [entryFrame, mkF, argsToLocals, Value.category]; done) | rfl
def Q8 (Z : State) (a1 : Addr) (p1 : Int32) (t : Addr) (kc : ClassId) (u : Int32) (w : Int64) (h0 : Heap) (n0 : Nat) (v : Option Value) (h : Heap) (L : List Loc) : Prop := v = some (.int (own_get u w p1)) ∧ Fr n0 L ∧ h = h0
set_option maxHeartbeats 40000000 in
theorem rm8 (l : Launch) (Z : State) (a0 : Array Value) (hw : ∀ d ∈ tables_1, d.before a0 Z = true) (ws : List Jvm.Cond) (a1 : Addr) (p1 : Int32) (t : Addr) (kc : ClassId) (u : Int32) (w : Int64) (h0 : Heap) (n0 : Nat) (Z0 : n0 ≤ h0.size) (hB : own_BS Z h0 a1 t kc u w) (St : Sta Z h0 "java/util/BitSet" "$assertionsDisabled" "Z" (.int 1)) (hp : ¬ p1 < 0) (hwi : own_f5 p1 = 0) :
    MetFree l (⟨"java/util/BitSet", "get", "(I)Z"⟩ : MethodName) (head1 (Jvm.Cond.code (⟨"java/util/BitSet", "get", "(I)Z"⟩ : MethodName) jdk_92_method_26_code 3 (some .boolean) :: ws) ({ frames := 1, cells := 0, slots := 0, locals := 12 } : Room)) (fun a U => a = #[(.ref a1), (.int p1)] ∧ Z.Warmed39 U.vm ∧ U.heap = h0) (fun _ _ _ _ _ => True) (fun _ U o U' => ∃ v L, o = .returned v ∧ Q8 Z a1 p1 t kc u w h0 n0 v U'.heap L ∧ FrameEnd U o U' L ({ frames := 1, cells := 0, slots := 0, locals := 12 } : Room).cells ({ frames := 1, cells := 0, slots := 0, locals := 12 } : Room).slots) := by
  refine MetFree.of_bodySF (plainFor_of_name pn_0) hisR ?_
  intro p e s m args below meth c s₁ Bd hml0 hP hK
  obtain ⟨rfl, hZ, hh⟩ := hP
  have hx := Bd.exec
  have hby := Bd.bytes
  have hml : c.maxLocals = 3 := hml0
  have hown : s.vm.findClass "java/util/BitSet" = some m.cls := findClass_of_methodNamed Bd.named
  have hnm := (name_of_methodNamed Bd.named Bd.method).1
  have X0 : Stand p l e ({ frames := 1, cells := 0, slots := 0, locals := 12 } : Room) s m #[(.ref a1), (.int p1)] below meth c s₁ [] 0 0 := Stand.of_body Bd
  have e0 : s₁.heap = h0 := by rw [← hh, Bd.state]; rfl
  have N0 := Fr.nil n0
  have pre0 : ∀ tgt, Steps p.tables e below (s₁.setTop (mkF m 0 #[.val (.ref a1), .val (.int p1), .unset] [])) tgt → Steps p.tables e below (s₁.setTop (entryFrame m #[(.ref a1), (.int p1)] 3)) tgt := fun tgt k => castTop (ef_rm8 m a1 p1) k
  obtain ⟨B0, B1, B2, B3⟩ := hB
  obtain ⟨cq1, q1, q1'⟩ := B0.cell
  obtain ⟨_, _, ⟨T1, L1, k1, n1⟩, -, X1, ⟨Lc1, hQ1, l1, y1, z1⟩, st1⟩ := X0.privateBack hx (y := (⟨"java/util/BitSet", "checkInvariants", "()V"⟩ : MethodName)) hown (mvT hZ (hw _ (List.mem_of_getElem? (i := 51) rfl))) (mvT hZ (hw _ (List.mem_of_getElem? (i := 52) rfl))) (mvT hZ (hw _ (List.mem_of_getElem? (i := 54) rfl))) (Cond.privateMethod_at (mvP hZ (hw _ (List.mem_of_getElem? (i := 53) rfl)) (args := #[]))) (mvT hZ (hw _ (List.mem_of_getElem? (i := 55) rfl))) (by decide) (backOf (W := 0) (rm9 l Z a0 hw [] a1 h0 n0 Z0 St) hZ (hw _ (List.mem_of_getElem? (i := 55) rfl)) (hw _ (List.mem_of_getElem? (i := 11) rfl)) (by decide) (by decide)) (g := (mkF m 32 #[.val (.ref a1), .val (.int p1), .unset] [(.ref a1)])) rfl (by rw [hml]; rfl) (Steps.refl _) (a := a1) (by rw [e0]; exact q1) q1' (argsL := []) (rest := []) (lenOf pd_1 rfl) rfl (by show 2 * 0 + _ ≤ _; exact Nat.le_of_eq rfl) (hb hby d8_32) (fun _ _ => ⟨rfl, e0, (by decide : 0 + 0 ≤ _), (by decide : 0 + 0 ≤ _)⟩)
  dsimp only [Pt.U, Pt.locs, Pt.cells, Pt.slots] at X1 l1 y1 z1 st1 hQ1
  subst l1 y1 z1
  obtain ⟨rfl, Nq1, e1⟩ := hQ1
  have N2 := Fr.app N0 Nq1
  obtain ⟨_, _, ⟨T3, L3, k3, n3⟩, -, X3, ⟨Lc3, hQ3, l3, y3, z3⟩, st3⟩ := Jvm.LawKit.callS X1 hx (y := (⟨"java/util/BitSet", "wordIndex", "(I)I"⟩ : MethodName)) hown (mvT hZ (hw _ (List.mem_of_getElem? (i := 25) rfl))) (mvT hZ (hw _ (List.mem_of_getElem? (i := 26) rfl))) (mvT hZ (hw _ (List.mem_of_getElem? (i := 11) rfl))) (mvT hZ (hw _ (List.mem_of_getElem? (i := 27) rfl))) (by decide) (backOf (W := 0) (rm5 l Z a0 hw [] p1  h0 n0 Z0 ) hZ (hw _ (List.mem_of_getElem? (i := 27) rfl)) (hw _ (List.mem_of_getElem? (i := 11) rfl)) (by decide) (by decide)) (g := (mkF m 36 #[.val (.ref a1), .val (.int p1), .unset] [(.int p1)])) rfl (by rw [hml]; rfl) (argsL := [(.int p1)]) (rest := []) (lenOf pd_2 rfl) rfl (by show 2 * 0 + _ ≤ _; exact Nat.le_of_eq rfl) (hb hby d8_36) (fun _ _ => ⟨rfl, e1, (by decide : 0 + 0 ≤ _), (by decide : 0 + 0 ≤ _)⟩)
  dsimp only [Pt.U, Pt.locs, Pt.cells, Pt.slots] at X3 l3 y3 z3 st3 hQ3
  subst l3 y3 z3
  obtain ⟨rfl, Nq3, e3⟩ := hQ3
  have N4 := Fr.app N2 Nq3
  have pre5 : ∀ tgt, Steps p.tables e below (T3.setTop (mkF m 39 #[.val (.ref a1), .val (.int p1), .unset] [(.int (own_f5 p1))])) tgt → Steps p.tables e below (s₁.setTop (entryFrame m #[(.ref a1), (.int p1)] 3)) tgt := fun tgt kt => pre0 _ (by
    show Steps p.tables e below (s₁.setTop (mkF m 0 #[.val (.ref a1), .val (.int p1), .unset] [])) _
    refine XS.iloadN X0.here hx rfl (hb hby d8_0) rfl ?_
    show Steps p.tables e below (s₁.setTop (mkF m 1 #[.val (.ref a1), .val (.int p1), .unset] [(.int p1)])) _
    refine XS.ifYes X0.here hx rfl (pc0 := 1) (pc' := 31) rfl (hb hby d8_1) rfl ((if0 _ _).trans (flt hp).2.1) (by decide) (by decide) ?_
    show Steps p.tables e below (s₁.setTop (mkF m 31 #[.val (.ref a1), .val (.int p1), .unset] [])) _
    refine XS.aloadN X0.here hx rfl (hb hby d8_31) rfl rfl ?_
    show Steps p.tables e below (s₁.setTop (mkF m 32 #[.val (.ref a1), .val (.int p1), .unset] [(.ref a1)])) _
    refine st1.trans ?_
    show Steps p.tables e below (T1.setTop (mkF m 35 #[.val (.ref a1), .val (.int p1), .unset] [])) _
    refine XS.iloadN X1.here hx rfl (hb hby d8_35) rfl ?_
    show Steps p.tables e below (T1.setTop (mkF m 36 #[.val (.ref a1), .val (.int p1), .unset] [(.int p1)])) _
    refine st3 _ ?_
    exact kt)
  have rw6 : (own_f5 p1) = (0 : Int32) := hwi
  rw [rw6] at pre5
  obtain ⟨T7, X7, e7, st7⟩ := getF X3 hx hZ hown (host := "") (Or.inl (hw _ (List.mem_of_getElem? (i := 16) rfl))) Via.refl e3 B1 (g := (mkF m 42 #[.val (.ref a1), .val (.int p1), .val (.int (0 : Int32))] [(.ref a1), (.int (0 : Int32))])) rfl rfl (hb hby d8_42)
  have pre8 : ∀ tgt, Steps p.tables e below (T7.setTop (mkF m 45 #[.val (.ref a1), .val (.int p1), .val (.int (0 : Int32))] [(.int u), (.int (0 : Int32))])) tgt → Steps p.tables e below (s₁.setTop (entryFrame m #[(.ref a1), (.int p1)] 3)) tgt := fun tgt kt => pre5 _ (by
    show Steps p.tables e below (T3.setTop (mkF m 39 #[.val (.ref a1), .val (.int p1), .unset] [(.int (0 : Int32))])) _
    refine XS.istoreN X3.here hx rfl (hb hby d8_39) rfl (l' := #[.val (.ref a1), .val (.int p1), .val (.int (0 : Int32))]) rfl ?_
    show Steps p.tables e below (T3.setTop (mkF m 40 #[.val (.ref a1), .val (.int p1), .val (.int (0 : Int32))] [])) _
    refine XS.iloadN X3.here hx rfl (hb hby d8_40) rfl ?_
    show Steps p.tables e below (T3.setTop (mkF m 41 #[.val (.ref a1), .val (.int p1), .val (.int (0 : Int32))] [(.int (0 : Int32))])) _
    refine XS.aloadN X3.here hx rfl (hb hby d8_41) rfl rfl ?_
    show Steps p.tables e below (T3.setTop (mkF m 42 #[.val (.ref a1), .val (.int p1), .val (.int (0 : Int32))] [(.ref a1), (.int (0 : Int32))])) _
    refine st7 _ ?_
    exact kt)
  by_cases hA : (0 : Int32) < u
  · obtain ⟨T9, X9, e9, st9⟩ := getF X7 hx hZ hown (host := "") (Or.inl (hw _ (List.mem_of_getElem? (i := 29) rfl))) Via.refl e7 B2 (g := (mkF m 49 #[.val (.ref a1), .val (.int p1), .val (.int (0 : Int32))] [(.ref a1)])) rfl rfl (hb hby d8_49)
    obtain ⟨cl10, Ar10, -, S10, -, H10, -⟩ := id B3
    have hi10 : ¬ ((0 : Int32) < 0 ∨ cl10.slots.size ≤ (0 : Int32).toNatClampNeg) := inb_of S10 ⟨by decide, by decide⟩
    have ha10 : cl10.slots[(0 : Int32).toNatClampNeg]? = some (.long w) := H10 0 (by rw [S10]; decide)
    have pre11 : ∀ tgt, Steps p.tables e below (T9.setTop (mkF m 60 #[.val (.ref a1), .val (.int p1), .val (.int (0 : Int32))] [(.int (lcmpW (w &&& ((1 : Int64) <<< (p1 &&& 0x3f).toInt64)) (0 : Int64)))])) tgt → Steps p.tables e below (s₁.setTop (entryFrame m #[(.ref a1), (.int p1)] 3)) tgt := fun tgt kt => pre8 _ (by
      show Steps p.tables e below (T7.setTop (mkF m 45 #[.val (.ref a1), .val (.int p1), .val (.int (0 : Int32))] [(.int u), (.int (0 : Int32))])) _
      refine XS.icmpNo X7.here hx rfl (hb hby d8_45) rfl (tlt hA).2.1 ?_
      show Steps p.tables e below (T7.setTop (mkF m 48 #[.val (.ref a1), .val (.int p1), .val (.int (0 : Int32))] [])) _
      refine XS.aloadN X7.here hx rfl (hb hby d8_48) rfl rfl ?_
      show Steps p.tables e below (T7.setTop (mkF m 49 #[.val (.ref a1), .val (.int p1), .val (.int (0 : Int32))] [(.ref a1)])) _
      refine st9 _ ?_
      show Steps p.tables e below (T9.setTop (mkF m 52 #[.val (.ref a1), .val (.int p1), .val (.int (0 : Int32))] [(.ref t)])) _
      refine XS.iloadN X9.here hx rfl (hb hby d8_52) rfl ?_
      show Steps p.tables e below (T9.setTop (mkF m 53 #[.val (.ref a1), .val (.int p1), .val (.int (0 : Int32))] [(.int (0 : Int32)), (.ref t)])) _
      refine X9.laload hx (j := (0 : Int32)) (v := (.long w)) (by rw [e9]; exact Ar10.1) (State.isArrayOf_alike hZ.alike Ar10.2.1) Ar10.2.2 hi10 ha10 (g := (mkF m 53 #[.val (.ref a1), .val (.int p1), .val (.int (0 : Int32))] [(.int (0 : Int32)), (.ref t)])) rfl rfl (hb hby d8_53) _ ?_
      show Steps p.tables e below (T9.setTop (mkF m 54 #[.val (.ref a1), .val (.int p1), .val (.int (0 : Int32))] [(.long w)])) _
      refine XS.lconst X9.here hx rfl (hb hby d8_54) ?_
      show Steps p.tables e below (T9.setTop (mkF m 55 #[.val (.ref a1), .val (.int p1), .val (.int (0 : Int32))] [(.long (1 : Int64)), (.long w)])) _
      refine XS.iloadN X9.here hx rfl (hb hby d8_55) rfl ?_
      show Steps p.tables e below (T9.setTop (mkF m 56 #[.val (.ref a1), .val (.int p1), .val (.int (0 : Int32))] [(.int p1), (.long (1 : Int64)), (.long w)])) _
      refine XS.lshl X9.here hx rfl (hb hby d8_56) rfl ?_
      show Steps p.tables e below (T9.setTop (mkF m 57 #[.val (.ref a1), .val (.int p1), .val (.int (0 : Int32))] [(.long ((1 : Int64) <<< (p1 &&& 0x3f).toInt64)), (.long w)])) _
      refine XS.land X9.here hx rfl (hb hby d8_57) rfl ?_
      show Steps p.tables e below (T9.setTop (mkF m 58 #[.val (.ref a1), .val (.int p1), .val (.int (0 : Int32))] [(.long (w &&& ((1 : Int64) <<< (p1 &&& 0x3f).toInt64)))])) _
      refine XS.lconst X9.here hx rfl (hb hby d8_58) ?_
      show Steps p.tables e below (T9.setTop (mkF m 59 #[.val (.ref a1), .val (.int p1), .val (.int (0 : Int32))] [(.long (0 : Int64)), (.long (w &&& ((1 : Int64) <<< (p1 &&& 0x3f).toInt64)))])) _
      refine XS.lcmp X9.here hx rfl (hb hby d8_59) rfl ?_
      exact kt)
    by_cases hB : (lcmpW (w &&& ((1 : Int64) <<< (p1 &&& 0x3f).toInt64)) (0 : Int64)) = (0 : Int32)
    · obtain ⟨fs, hr, hrun, hended, hW, hsame⟩ := X9.leave (v := some (.int (0 : Int32))) (fun h => by rw [Bd.returns] at h; cases h)
      refine ⟨_, _, pre11 _ ?_, hrun, hended, _, _, rfl, ?_, ⟨_, rfl⟩, hW, hsame.mono (by decide) (by decide)⟩
      · show Steps p.tables e below (T9.setTop (mkF m 60 #[.val (.ref a1), .val (.int p1), .val (.int (0 : Int32))] [(.int (lcmpW (w &&& ((1 : Int64) <<< (p1 &&& 0x3f).toInt64)) (0 : Int64)))])) _
        refine XS.ifYes X9.here hx rfl (pc0 := 60) (pc' := 67) rfl (hb hby d8_60) rfl ((if0 _ _).trans (teq hB).1) (by decide) (by decide) ?_
        show Steps p.tables e below (T9.setTop (mkF m 67 #[.val (.ref a1), .val (.int p1), .val (.int (0 : Int32))] [])) _
        refine XS.iconst X9.here hx rfl (hb hby d8_67) ?_
        show Steps p.tables e below (T9.setTop (mkF m 68 #[.val (.ref a1), .val (.int p1), .val (.int (0 : Int32))] [(.int (0 : Int32))])) _
        exact retN X9 hx (t := .boolean) Bd.returns (by simp) (hb hby d8_68) hr
      · show Q8 Z a1 p1 t kc u w h0 n0 _ T9.heap _
        rw [e9]
        exact ⟨by first | (rw [own_get, if_pos hA, if_pos hB]; done) | (rw [own_get, if_pos hA, if_pos hB]; rfl), N4, rfl⟩
    · obtain ⟨fs, hr, hrun, hended, hW, hsame⟩ := X9.leave (v := some (.int (1 : Int32))) (fun h => by rw [Bd.returns] at h; cases h)
      refine ⟨_, _, pre11 _ ?_, hrun, hended, _, _, rfl, ?_, ⟨_, rfl⟩, hW, hsame.mono (by decide) (by decide)⟩
      · show Steps p.tables e below (T9.setTop (mkF m 60 #[.val (.ref a1), .val (.int p1), .val (.int (0 : Int32))] [(.int (lcmpW (w &&& ((1 : Int64) <<< (p1 &&& 0x3f).toInt64)) (0 : Int64)))])) _
        refine XS.ifNo X9.here hx rfl (hb hby d8_60) rfl ((if0 _ _).trans (feq hB).1) ?_
        show Steps p.tables e below (T9.setTop (mkF m 63 #[.val (.ref a1), .val (.int p1), .val (.int (0 : Int32))] [])) _
        refine XS.iconst X9.here hx rfl (hb hby d8_63) ?_
        show Steps p.tables e below (T9.setTop (mkF m 64 #[.val (.ref a1), .val (.int p1), .val (.int (0 : Int32))] [(.int (1 : Int32))])) _
        refine XS.goto X9.here hx rfl (pc0 := 64) (pc' := 68) rfl (hb hby d8_64) (by decide) (by decide) ?_
        show Steps p.tables e below (T9.setTop (mkF m 68 #[.val (.ref a1), .val (.int p1), .val (.int (0 : Int32))] [(.int (1 : Int32))])) _
        exact retN X9 hx (t := .boolean) Bd.returns (by simp) (hb hby d8_68) hr
      · show Q8 Z a1 p1 t kc u w h0 n0 _ T9.heap _
        rw [e9]
        exact ⟨by first | (rw [own_get, if_pos hA, if_neg hB]; done) | (rw [own_get, if_pos hA, if_neg hB]; rfl), N4, rfl⟩
  · obtain ⟨fs, hr, hrun, hended, hW, hsame⟩ := X7.leave (v := some (.int (0 : Int32))) (fun h => by rw [Bd.returns] at h; cases h)
    refine ⟨_, _, pre8 _ ?_, hrun, hended, _, _, rfl, ?_, ⟨_, rfl⟩, hW, hsame.mono (by decide) (by decide)⟩
    · show Steps p.tables e below (T7.setTop (mkF m 45 #[.val (.ref a1), .val (.int p1), .val (.int (0 : Int32))] [(.int u), (.int (0 : Int32))])) _
      refine XS.icmpYes X7.here hx rfl (pc0 := 45) (pc' := 67) rfl (hb hby d8_45) rfl (flt hA).2.1 (by decide) (by decide) ?_
      show Steps p.tables e below (T7.setTop (mkF m 67 #[.val (.ref a1), .val (.int p1), .val (.int (0 : Int32))] [])) _
      refine XS.iconst X7.here hx rfl (hb hby d8_67) ?_
      show Steps p.tables e below (T7.setTop (mkF m 68 #[.val (.ref a1), .val (.int p1), .val (.int (0 : Int32))] [(.int (0 : Int32))])) _
      exact retN X7 hx (t := .boolean) Bd.returns (by simp) (hb hby d8_68) hr
    · show Q8 Z a1 p1 t kc u w h0 n0 _ T7.heap _
      rw [e7]
      exact ⟨by first | (rw [own_get, if_neg hA]; done) | (rw [own_get, if_neg hA]; rfl), N4, rfl⟩
theorem d15_0 : decode jdk_35_method_49_code 0 = .ok (.lload_n 0, 1) := by decide +kernel
theorem d15_1 : decode jdk_35_method_49_code 1 = .ok (.l2i, 1) := by decide +kernel
theorem d15_2 : decode jdk_35_method_49_code 2 = .ok (.istore_n 2, 1) := by decide +kernel
theorem d15_3 : decode jdk_35_method_49_code 3 = .ok (.iload_n 2, 1) := by decide +kernel
theorem d15_4 : decode jdk_35_method_49_code 4 = .ok (.ifCond .ne 17, 3) := by decide +kernel
theorem d15_7 : decode jdk_35_method_49_code 7 = .ok (.bipush 32, 2) := by decide +kernel
theorem d15_9 : decode jdk_35_method_49_code 9 = .ok (.lload_n 0, 1) := by decide +kernel
theorem d15_10 : decode jdk_35_method_49_code 10 = .ok (.bipush 32, 2) := by decide +kernel
theorem d15_12 : decode jdk_35_method_49_code 12 = .ok (.lushr, 1) := by decide +kernel
theorem d15_13 : decode jdk_35_method_49_code 13 = .ok (.l2i, 1) := by decide +kernel
theorem d15_14 : decode jdk_35_method_49_code 14 = .ok (.invokestatic 311, 3) := by decide +kernel
theorem d15_17 : decode jdk_35_method_49_code 17 = .ok (.iadd, 1) := by decide +kernel
theorem d15_18 : decode jdk_35_method_49_code 18 = .ok (.goto 7, 3) := by decide +kernel
theorem d15_25 : decode jdk_35_method_49_code 25 = .ok (.ireturn, 1) := by decide +kernel
theorem d15_21 : decode jdk_35_method_49_code 21 = .ok (.iload_n 2, 1) := by decide +kernel
theorem d15_22 : decode jdk_35_method_49_code 22 = .ok (.invokestatic 311, 3) := by decide +kernel
theorem pn_2 : plainName "java/lang/Long" = true := by first | (simp [plainName, overriddenIn]; done) | decide +kernel
theorem ef_rm15 (m : MethodId) (x0 : Int64) : entryFrame m #[(.long x0)] 3 = mkF m 0 #[.val (.long x0), .second, .unset] [] := by first | (simp [entryFrame, mkF, argsToLocals, Value.category]; done) | rfl
def Q15 (Z : State) (q1 : Int64) (h0 : Heap) (n0 : Nat) (v : Option Value) (h : Heap) (L : List Loc) : Prop := v = some (.int (own_ntz q1)) ∧ Fr n0 L ∧ h = h0
set_option maxHeartbeats 40000000 in
theorem rm15 (l : Launch) (Z : State) (a0 : Array Value) (hw : ∀ d ∈ tables_1, d.before a0 Z = true) (ws : List Jvm.Cond) (q1 : Int64) (h0 : Heap) (n0 : Nat) (Z0 : n0 ≤ h0.size) :
    MetFree l (⟨"java/lang/Long", "numberOfTrailingZeros", "(J)I"⟩ : MethodName) (head1 (Jvm.Cond.code (⟨"java/lang/Long", "numberOfTrailingZeros", "(J)I"⟩ : MethodName) jdk_35_method_49_code 3 (some .int) :: ws) ({ frames := 1, cells := 0, slots := 0, locals := 14 } : Room)) (fun a U => a = #[(.long q1)] ∧ Z.Warmed39 U.vm ∧ U.heap = h0) (fun _ _ _ _ _ => True) (fun _ U o U' => ∃ v L, o = .returned v ∧ Q15 Z q1 h0 n0 v U'.heap L ∧ FrameEnd U o U' L ({ frames := 1, cells := 0, slots := 0, locals := 14 } : Room).cells ({ frames := 1, cells := 0, slots := 0, locals := 14 } : Room).slots) := by
  refine MetFree.of_bodySF (plainFor_of_name pn_2) hisR ?_
  intro p e s m args below meth c s₁ Bd hml0 hP hK
  obtain ⟨rfl, hZ, hh⟩ := hP
  have hx := Bd.exec
  have hby := Bd.bytes
  have hml : c.maxLocals = 3 := hml0
  have hown : s.vm.findClass "java/lang/Long" = some m.cls := findClass_of_methodNamed Bd.named
  have hnm := (name_of_methodNamed Bd.named Bd.method).1
  have X0 : Stand p l e ({ frames := 1, cells := 0, slots := 0, locals := 14 } : Room) s m #[(.long q1)] below meth c s₁ [] 0 0 := Stand.of_body Bd
  have e0 : s₁.heap = h0 := by rw [← hh, Bd.state]; rfl
  have N0 := Fr.nil n0
  have pre0 : ∀ tgt, Steps p.tables e below (s₁.setTop (mkF m 0 #[.val (.long q1), .second, .unset] [])) tgt → Steps p.tables e below (s₁.setTop (entryFrame m #[(.long q1)] 3)) tgt := fun tgt k => castTop (ef_rm15 m q1) k
  have pre1 : ∀ tgt, Steps p.tables e below (s₁.setTop (mkF m 4 #[.val (.long q1), .second, .val (.int (q1.toInt32))] [(.int (q1.toInt32))])) tgt → Steps p.tables e below (s₁.setTop (entryFrame m #[(.long q1)] 3)) tgt := fun tgt kt => pre0 _ (by
    show Steps p.tables e below (s₁.setTop (mkF m 0 #[.val (.long q1), .second, .unset] [])) _
    refine XS.lloadN X0.here hx rfl (hb hby d15_0) rfl ?_
    show Steps p.tables e below (s₁.setTop (mkF m 1 #[.val (.long q1), .second, .unset] [(.long q1)])) _
    refine XS.l2i X0.here hx rfl (hb hby d15_1) rfl ?_
    show Steps p.tables e below (s₁.setTop (mkF m 2 #[.val (.long q1), .second, .unset] [(.int (q1.toInt32))])) _
    refine XS.istoreN X0.here hx rfl (hb hby d15_2) rfl (l' := #[.val (.long q1), .second, .val (.int (q1.toInt32))]) rfl ?_
    show Steps p.tables e below (s₁.setTop (mkF m 3 #[.val (.long q1), .second, .val (.int (q1.toInt32))] [])) _
    refine XS.iloadN X0.here hx rfl (hb hby d15_3) rfl ?_
    exact kt)
  by_cases hA : (q1.toInt32) = (0 : Int32)
  · obtain ⟨_, _, ⟨T2, L2, k2, n2⟩, -, X2, ⟨Lc2, hQ2, l2, y2, z2⟩, st2⟩ := Jvm.LawKit.callS X0 hx (y := (⟨"java/lang/Integer", "numberOfTrailingZeros", "(I)I"⟩ : MethodName)) hown (mvT hZ (hw _ (List.mem_of_getElem? (i := 90) rfl))) (mvT hZ (hw _ (List.mem_of_getElem? (i := 91) rfl))) (mvT hZ (hw _ (List.mem_of_getElem? (i := 92) rfl))) (mvT hZ (hw _ (List.mem_of_getElem? (i := 93) rfl))) (by decide) (backOf (W := 1) (rm16 l Z a0 hw [] (((q1.toUInt64 >>> ((32 : Int32) &&& 0x3f).toInt64.toUInt64).toInt64).toInt32)  h0 n0 Z0 ) hZ (hw _ (List.mem_of_getElem? (i := 93) rfl)) (hw _ (List.mem_of_getElem? (i := 92) rfl)) (by decide) (by decide)) (g := (mkF m 14 #[.val (.long q1), .second, .val (.int (q1.toInt32))] [(.int (((q1.toUInt64 >>> ((32 : Int32) &&& 0x3f).toInt64.toUInt64).toInt64).toInt32)), (.int (32 : Int32))])) rfl (by rw [hml]; rfl) (argsL := [(.int (((q1.toUInt64 >>> ((32 : Int32) &&& 0x3f).toInt64.toUInt64).toInt64).toInt32))]) (rest := [(.int (32 : Int32))]) (lenOf pd_2 rfl) rfl (by show 2 * 0 + _ ≤ _; exact Nat.le_of_eq rfl) (hb hby d15_14) (fun _ _ => ⟨rfl, e0, (by decide : 0 + 0 ≤ _), (by decide : 0 + 0 ≤ _)⟩)
    dsimp only [Pt.U, Pt.locs, Pt.cells, Pt.slots] at X2 l2 y2 z2 st2 hQ2
    subst l2 y2 z2
    obtain ⟨rfl, Nq2, e2⟩ := hQ2
    have N3 := Fr.app N0 Nq2
    obtain ⟨fs, hr, hrun, hended, hW, hsame⟩ := X2.leave (v := some (.int ((32 : Int32) + (own_f16 (((q1.toUInt64 >>> ((32 : Int32) &&& 0x3f).toInt64.toUInt64).toInt64).toInt32))))) (fun h => by rw [Bd.returns] at h; cases h)
    refine ⟨_, _, pre1 _ ?_, hrun, hended, _, _, rfl, ?_, ⟨_, rfl⟩, hW, hsame.mono (by decide) (by decide)⟩
    · show Steps p.tables e below (s₁.setTop (mkF m 4 #[.val (.long q1), .second, .val (.int (q1.toInt32))] [(.int (q1.toInt32))])) _
      refine XS.ifNo X0.here hx rfl (hb hby d15_4) rfl ((if0 _ _).trans (teq hA).2) ?_
      show Steps p.tables e below (s₁.setTop (mkF m 7 #[.val (.long q1), .second, .val (.int (q1.toInt32))] [])) _
      refine XS.bipush X0.here hx rfl (hb hby d15_7) ?_
      show Steps p.tables e below (s₁.setTop (mkF m 9 #[.val (.long q1), .second, .val (.int (q1.toInt32))] [(.int (32 : Int32))])) _
      refine XS.lloadN X0.here hx rfl (hb hby d15_9) rfl ?_
      show Steps p.tables e below (s₁.setTop (mkF m 10 #[.val (.long q1), .second, .val (.int (q1.toInt32))] [(.long q1), (.int (32 : Int32))])) _
      refine XS.bipush X0.here hx rfl (hb hby d15_10) ?_
      show Steps p.tables e below (s₁.setTop (mkF m 12 #[.val (.long q1), .second, .val (.int (q1.toInt32))] [(.int (32 : Int32)), (.long q1), (.int (32 : Int32))])) _
      refine XS.lushr X0.here hx rfl (hb hby d15_12) rfl ?_
      show Steps p.tables e below (s₁.setTop (mkF m 13 #[.val (.long q1), .second, .val (.int (q1.toInt32))] [(.long ((q1.toUInt64 >>> ((32 : Int32) &&& 0x3f).toInt64.toUInt64).toInt64)), (.int (32 : Int32))])) _
      refine XS.l2i X0.here hx rfl (hb hby d15_13) rfl ?_
      show Steps p.tables e below (s₁.setTop (mkF m 14 #[.val (.long q1), .second, .val (.int (q1.toInt32))] [(.int (((q1.toUInt64 >>> ((32 : Int32) &&& 0x3f).toInt64.toUInt64).toInt64).toInt32)), (.int (32 : Int32))])) _
      refine st2 _ ?_
      show Steps p.tables e below (T2.setTop (mkF m 17 #[.val (.long q1), .second, .val (.int (q1.toInt32))] [(.int (own_f16 (((q1.toUInt64 >>> ((32 : Int32) &&& 0x3f).toInt64.toUInt64).toInt64).toInt32))), (.int (32 : Int32))])) _
      refine XS.iadd X2.here hx rfl (hb hby d15_17) rfl ?_
      show Steps p.tables e below (T2.setTop (mkF m 18 #[.val (.long q1), .second, .val (.int (q1.toInt32))] [(.int ((32 : Int32) + (own_f16 (((q1.toUInt64 >>> ((32 : Int32) &&& 0x3f).toInt64.toUInt64).toInt64).toInt32))))])) _
      refine XS.goto X2.here hx rfl (pc0 := 18) (pc' := 25) rfl (hb hby d15_18) (by decide) (by decide) ?_
      show Steps p.tables e below (T2.setTop (mkF m 25 #[.val (.long q1), .second, .val (.int (q1.toInt32))] [(.int ((32 : Int32) + (own_f16 (((q1.toUInt64 >>> ((32 : Int32) &&& 0x3f).toInt64.toUInt64).toInt64).toInt32))))])) _
      exact retI X2 hx Bd.returns (hb hby d15_25) hr
    · show Q15 Z q1 h0 n0 _ T2.heap _
      rw [e2]
      exact ⟨by rw [own_ntz, if_pos hA], N3, rfl⟩
  · obtain ⟨_, _, ⟨T4, L4, k4, n4⟩, -, X4, ⟨Lc4, hQ4, l4, y4, z4⟩, st4⟩ := Jvm.LawKit.callS X0 hx (y := (⟨"java/lang/Integer", "numberOfTrailingZeros", "(I)I"⟩ : MethodName)) hown (mvT hZ (hw _ (List.mem_of_getElem? (i := 90) rfl))) (mvT hZ (hw _ (List.mem_of_getElem? (i := 91) rfl))) (mvT hZ (hw _ (List.mem_of_getElem? (i := 92) rfl))) (mvT hZ (hw _ (List.mem_of_getElem? (i := 93) rfl))) (by decide) (backOf (W := 0) (rm16 l Z a0 hw [] (q1.toInt32)  h0 n0 Z0 ) hZ (hw _ (List.mem_of_getElem? (i := 93) rfl)) (hw _ (List.mem_of_getElem? (i := 92) rfl)) (by decide) (by decide)) (g := (mkF m 22 #[.val (.long q1), .second, .val (.int (q1.toInt32))] [(.int (q1.toInt32))])) rfl (by rw [hml]; rfl) (argsL := [(.int (q1.toInt32))]) (rest := []) (lenOf pd_2 rfl) rfl (by show 2 * 0 + _ ≤ _; exact Nat.le_of_eq rfl) (hb hby d15_22) (fun _ _ => ⟨rfl, e0, (by decide : 0 + 0 ≤ _), (by decide : 0 + 0 ≤ _)⟩)
    dsimp only [Pt.U, Pt.locs, Pt.cells, Pt.slots] at X4 l4 y4 z4 st4 hQ4
    subst l4 y4 z4
    obtain ⟨rfl, Nq4, e4⟩ := hQ4
    have N5 := Fr.app N0 Nq4
    obtain ⟨fs, hr, hrun, hended, hW, hsame⟩ := X4.leave (v := some (.int (own_f16 (q1.toInt32)))) (fun h => by rw [Bd.returns] at h; cases h)
    refine ⟨_, _, pre1 _ ?_, hrun, hended, _, _, rfl, ?_, ⟨_, rfl⟩, hW, hsame.mono (by decide) (by decide)⟩
    · show Steps p.tables e below (s₁.setTop (mkF m 4 #[.val (.long q1), .second, .val (.int (q1.toInt32))] [(.int (q1.toInt32))])) _
      refine XS.ifYes X0.here hx rfl (pc0 := 4) (pc' := 21) rfl (hb hby d15_4) rfl ((if0 _ _).trans (feq hA).2) (by decide) (by decide) ?_
      show Steps p.tables e below (s₁.setTop (mkF m 21 #[.val (.long q1), .second, .val (.int (q1.toInt32))] [])) _
      refine XS.iloadN X0.here hx rfl (hb hby d15_21) rfl ?_
      show Steps p.tables e below (s₁.setTop (mkF m 22 #[.val (.long q1), .second, .val (.int (q1.toInt32))] [(.int (q1.toInt32))])) _
      refine st4 _ ?_
      show Steps p.tables e below (T4.setTop (mkF m 25 #[.val (.long q1), .second, .val (.int (q1.toInt32))] [(.int (own_f16 (q1.toInt32)))])) _
      exact retI X4 hx Bd.returns (hb hby d15_25) hr
    · show Q15 Z q1 h0 n0 _ T4.heap _
      rw [e4]
      exact ⟨by rw [own_ntz, if_neg hA], N5, rfl⟩
theorem d11_0 : decode jdk_92_method_29_code 0 = .ok (.iload_n 1, 1) := by decide +kernel
theorem d11_1 : decode jdk_92_method_29_code 1 = .ok (.ifCond .ge 30, 3) := by decide +kernel
theorem d11_31 : decode jdk_92_method_29_code 31 = .ok (.aload_n 0, 1) := by decide +kernel
theorem d11_32 : decode jdk_92_method_29_code 32 = .ok (.invokevirtual 56, 3) := by decide +kernel
theorem d11_35 : decode jdk_92_method_29_code 35 = .ok (.iload_n 1, 1) := by decide +kernel
theorem d11_36 : decode jdk_92_method_29_code 36 = .ok (.invokestatic 52, 3) := by decide +kernel
theorem d11_39 : decode jdk_92_method_29_code 39 = .ok (.istore_n 2, 1) := by decide +kernel
theorem d11_40 : decode jdk_92_method_29_code 40 = .ok (.iload_n 2, 1) := by decide +kernel
theorem d11_41 : decode jdk_92_method_29_code 41 = .ok (.aload_n 0, 1) := by decide +kernel
theorem d11_42 : decode jdk_92_method_29_code 42 = .ok (.getfield 7, 3) := by decide +kernel
theorem d11_45 : decode jdk_92_method_29_code 45 = .ok (.if_icmp .lt 5, 3) := by decide +kernel
theorem d11_48 : decode jdk_92_method_29_code 48 = .ok (.iload_n 1, 1) := by decide +kernel
theorem d11_49 : decode jdk_92_method_29_code 49 = .ok (.ireturn, 1) := by decide +kernel
theorem d11_50 : decode jdk_92_method_29_code 50 = .ok (.aload_n 0, 1) := by decide +kernel
theorem d11_51 : decode jdk_92_method_29_code 51 = .ok (.getfield 11, 3) := by decide +kernel
theorem d11_54 : decode jdk_92_method_29_code 54 = .ok (.iload_n 2, 1) := by decide +kernel
theorem d11_55 : decode jdk_92_method_29_code 55 = .ok (.laload, 1) := by decide +kernel
theorem d11_56 : decode jdk_92_method_29_code 56 = .ok (.ldc2_w 165, 3) := by decide +kernel
theorem d11_59 : decode jdk_92_method_29_code 59 = .ok (.lxor, 1) := by decide +kernel
theorem d11_60 : decode jdk_92_method_29_code 60 = .ok (.ldc2_w 165, 3) := by decide +kernel
theorem d11_63 : decode jdk_92_method_29_code 63 = .ok (.iload_n 1, 1) := by decide +kernel
theorem d11_64 : decode jdk_92_method_29_code 64 = .ok (.lshl, 1) := by decide +kernel
theorem d11_65 : decode jdk_92_method_29_code 65 = .ok (.land, 1) := by decide +kernel
theorem d11_66 : decode jdk_92_method_29_code 66 = .ok (.lstore_n 3, 1) := by decide +kernel
theorem d11_67 : decode jdk_92_method_29_code 67 = .ok (.lload_n 3, 1) := by decide +kernel
theorem d11_68 : decode jdk_92_method_29_code 68 = .ok (.lconst 0, 1) := by decide +kernel
theorem d11_69 : decode jdk_92_method_29_code 69 = .ok (.lcmp, 1) := by decide +kernel
theorem d11_70 : decode jdk_92_method_29_code 70 = .ok (.ifCond .eq 13, 3) := by decide +kernel
theorem d11_73 : decode jdk_92_method_29_code 73 = .ok (.iload_n 2, 1) := by decide +kernel
theorem d11_74 : decode jdk_92_method_29_code 74 = .ok (.bipush 64, 2) := by decide +kernel
theorem d11_76 : decode jdk_92_method_29_code 76 = .ok (.imul, 1) := by decide +kernel
theorem d11_77 : decode jdk_92_method_29_code 77 = .ok (.lload_n 3, 1) := by decide +kernel
theorem d11_78 : decode jdk_92_method_29_code 78 = .ok (.invokestatic 182, 3) := by decide +kernel
theorem pd_3 : parseMethodDescriptor "(J)I" = some ⟨[.long], some .int⟩ := by decide +kernel
theorem d11_81 : decode jdk_92_method_29_code 81 = .ok (.iadd, 1) := by decide +kernel
theorem d11_82 : decode jdk_92_method_29_code 82 = .ok (.ireturn, 1) := by decide +kernel
theorem ef_rm11 (m : MethodId) (x0 : Addr) (x1 : Int32) : entryFrame m #[(.ref x0), (.int x1)] 5 = mkF m 0 #[.val (.ref x0), .val (.int x1), .unset, .unset, .unset] [] := by first | (simp [entryFrame, mkF, argsToLocals, Value.category]; done) | rfl
def Q11 (Z : State) (a1 : Addr) (p1 : Int32) (t : Addr) (kc : ClassId) (u : Int32) (w : Int64) (h0 : Heap) (n0 : Nat) (v : Option Value) (h : Heap) (L : List Loc) : Prop := v = some (.int (own_ncb u w p1)) ∧ Fr n0 L ∧ h = h0
set_option maxHeartbeats 40000000 in
theorem rm11 (l : Launch) (Z : State) (a0 : Array Value) (hw : ∀ d ∈ tables_1, d.before a0 Z = true) (ws : List Jvm.Cond) (a1 : Addr) (p1 : Int32) (t : Addr) (kc : ClassId) (u : Int32) (w : Int64) (h0 : Heap) (n0 : Nat) (Z0 : n0 ≤ h0.size) (hB : own_BS Z h0 a1 t kc u w) (St : Sta Z h0 "java/util/BitSet" "$assertionsDisabled" "Z" (.int 1)) (hp : ¬ p1 < 0) (hwi : own_f5 p1 = 0) (hnz : 0 < u → ¬ lcmpW (own_cw w p1) 0 = 0) :
    MetFree l (⟨"java/util/BitSet", "nextClearBit", "(I)I"⟩ : MethodName) (head1 (Jvm.Cond.code (⟨"java/util/BitSet", "nextClearBit", "(I)I"⟩ : MethodName) jdk_92_method_29_code 5 (some .int) :: ws) ({ frames := 2, cells := 0, slots := 0, locals := 29 } : Room)) (fun a U => a = #[(.ref a1), (.int p1)] ∧ Z.Warmed39 U.vm ∧ U.heap = h0) (fun _ _ _ _ _ => True) (fun _ U o U' => ∃ v L, o = .returned v ∧ Q11 Z a1 p1 t kc u w h0 n0 v U'.heap L ∧ FrameEnd U o U' L ({ frames := 2, cells := 0, slots := 0, locals := 29 } : Room).cells ({ frames := 2, cells := 0, slots := 0, locals := 29 } : Room).slots) := by
  refine MetFree.of_bodySF (plainFor_of_name pn_0) hisR ?_
  intro p e s m args below meth c s₁ Bd hml0 hP hK
  obtain ⟨rfl, hZ, hh⟩ := hP
  have hx := Bd.exec
  have hby := Bd.bytes
  have hml : c.maxLocals = 5 := hml0
  have hown : s.vm.findClass "java/util/BitSet" = some m.cls := findClass_of_methodNamed Bd.named
  have hnm := (name_of_methodNamed Bd.named Bd.method).1
  have X0 : Stand p l e ({ frames := 2, cells := 0, slots := 0, locals := 29 } : Room) s m #[(.ref a1), (.int p1)] below meth c s₁ [] 0 0 := Stand.of_body Bd
  have e0 : s₁.heap = h0 := by rw [← hh, Bd.state]; rfl
  have N0 := Fr.nil n0
  have pre0 : ∀ tgt, Steps p.tables e below (s₁.setTop (mkF m 0 #[.val (.ref a1), .val (.int p1), .unset, .unset, .unset] [])) tgt → Steps p.tables e below (s₁.setTop (entryFrame m #[(.ref a1), (.int p1)] 5)) tgt := fun tgt k => castTop (ef_rm11 m a1 p1) k
  obtain ⟨B0, B1, B2, B3⟩ := hB
  obtain ⟨cq1, q1, q1'⟩ := B0.cell
  obtain ⟨_, _, ⟨T1, L1, k1, n1⟩, -, X1, ⟨Lc1, hQ1, l1, y1, z1⟩, st1⟩ := X0.privateBack hx (y := (⟨"java/util/BitSet", "checkInvariants", "()V"⟩ : MethodName)) hown (mvT hZ (hw _ (List.mem_of_getElem? (i := 51) rfl))) (mvT hZ (hw _ (List.mem_of_getElem? (i := 52) rfl))) (mvT hZ (hw _ (List.mem_of_getElem? (i := 54) rfl))) (Cond.privateMethod_at (mvP hZ (hw _ (List.mem_of_getElem? (i := 53) rfl)) (args := #[]))) (mvT hZ (hw _ (List.mem_of_getElem? (i := 55) rfl))) (by decide) (backOf (W := 0) (rm9 l Z a0 hw [] a1 h0 n0 Z0 St) hZ (hw _ (List.mem_of_getElem? (i := 55) rfl)) (hw _ (List.mem_of_getElem? (i := 11) rfl)) (by decide) (by decide)) (g := (mkF m 32 #[.val (.ref a1), .val (.int p1), .unset, .unset, .unset] [(.ref a1)])) rfl (by rw [hml]; rfl) (Steps.refl _) (a := a1) (by rw [e0]; exact q1) q1' (argsL := []) (rest := []) (lenOf pd_1 rfl) rfl (by show 2 * 0 + _ ≤ _; exact Nat.le_of_eq rfl) (hb hby d11_32) (fun _ _ => ⟨rfl, e0, (by decide : 0 + 0 ≤ _), (by decide : 0 + 0 ≤ _)⟩)
  dsimp only [Pt.U, Pt.locs, Pt.cells, Pt.slots] at X1 l1 y1 z1 st1 hQ1
  subst l1 y1 z1
  obtain ⟨rfl, Nq1, e1⟩ := hQ1
  have N2 := Fr.app N0 Nq1
  obtain ⟨_, _, ⟨T3, L3, k3, n3⟩, -, X3, ⟨Lc3, hQ3, l3, y3, z3⟩, st3⟩ := Jvm.LawKit.callS X1 hx (y := (⟨"java/util/BitSet", "wordIndex", "(I)I"⟩ : MethodName)) hown (mvT hZ (hw _ (List.mem_of_getElem? (i := 25) rfl))) (mvT hZ (hw _ (List.mem_of_getElem? (i := 26) rfl))) (mvT hZ (hw _ (List.mem_of_getElem? (i := 11) rfl))) (mvT hZ (hw _ (List.mem_of_getElem? (i := 27) rfl))) (by decide) (backOf (W := 0) (rm5 l Z a0 hw [] p1  h0 n0 Z0 ) hZ (hw _ (List.mem_of_getElem? (i := 27) rfl)) (hw _ (List.mem_of_getElem? (i := 11) rfl)) (by decide) (by decide)) (g := (mkF m 36 #[.val (.ref a1), .val (.int p1), .unset, .unset, .unset] [(.int p1)])) rfl (by rw [hml]; rfl) (argsL := [(.int p1)]) (rest := []) (lenOf pd_2 rfl) rfl (by show 2 * 0 + _ ≤ _; exact Nat.le_of_eq rfl) (hb hby d11_36) (fun _ _ => ⟨rfl, e1, (by decide : 0 + 0 ≤ _), (by decide : 0 + 0 ≤ _)⟩)
  dsimp only [Pt.U, Pt.locs, Pt.cells, Pt.slots] at X3 l3 y3 z3 st3 hQ3
  subst l3 y3 z3
  obtain ⟨rfl, Nq3, e3⟩ := hQ3
  have N4 := Fr.app N2 Nq3
  have pre5 : ∀ tgt, Steps p.tables e below (T3.setTop (mkF m 39 #[.val (.ref a1), .val (.int p1), .unset, .unset, .unset] [(.int (own_f5 p1))])) tgt → Steps p.tables e below (s₁.setTop (entryFrame m #[(.ref a1), (.int p1)] 5)) tgt := fun tgt kt => pre0 _ (by
    show Steps p.tables e below (s₁.setTop (mkF m 0 #[.val (.ref a1), .val (.int p1), .unset, .unset, .unset] [])) _
    refine XS.iloadN X0.here hx rfl (hb hby d11_0) rfl ?_
    show Steps p.tables e below (s₁.setTop (mkF m 1 #[.val (.ref a1), .val (.int p1), .unset, .unset, .unset] [(.int p1)])) _
    refine XS.ifYes X0.here hx rfl (pc0 := 1) (pc' := 31) rfl (hb hby d11_1) rfl ((if0 _ _).trans (flt hp).2.1) (by decide) (by decide) ?_
    show Steps p.tables e below (s₁.setTop (mkF m 31 #[.val (.ref a1), .val (.int p1), .unset, .unset, .unset] [])) _
    refine XS.aloadN X0.here hx rfl (hb hby d11_31) rfl rfl ?_
    show Steps p.tables e below (s₁.setTop (mkF m 32 #[.val (.ref a1), .val (.int p1), .unset, .unset, .unset] [(.ref a1)])) _
    refine st1.trans ?_
    show Steps p.tables e below (T1.setTop (mkF m 35 #[.val (.ref a1), .val (.int p1), .unset, .unset, .unset] [])) _
    refine XS.iloadN X1.here hx rfl (hb hby d11_35) rfl ?_
    show Steps p.tables e below (T1.setTop (mkF m 36 #[.val (.ref a1), .val (.int p1), .unset, .unset, .unset] [(.int p1)])) _
    refine st3 _ ?_
    exact kt)
  have rw6 : (own_f5 p1) = (0 : Int32) := hwi
  rw [rw6] at pre5
  obtain ⟨T7, X7, e7, st7⟩ := getF X3 hx hZ hown (host := "") (Or.inl (hw _ (List.mem_of_getElem? (i := 16) rfl))) Via.refl e3 B1 (g := (mkF m 42 #[.val (.ref a1), .val (.int p1), .val (.int (0 : Int32)), .unset, .unset] [(.ref a1), (.int (0 : Int32))])) rfl rfl (hb hby d11_42)
  have pre8 : ∀ tgt, Steps p.tables e below (T7.setTop (mkF m 45 #[.val (.ref a1), .val (.int p1), .val (.int (0 : Int32)), .unset, .unset] [(.int u), (.int (0 : Int32))])) tgt → Steps p.tables e below (s₁.setTop (entryFrame m #[(.ref a1), (.int p1)] 5)) tgt := fun tgt kt => pre5 _ (by
    show Steps p.tables e below (T3.setTop (mkF m 39 #[.val (.ref a1), .val (.int p1), .unset, .unset, .unset] [(.int (0 : Int32))])) _
    refine XS.istoreN X3.here hx rfl (hb hby d11_39) rfl (l' := #[.val (.ref a1), .val (.int p1), .val (.int (0 : Int32)), .unset, .unset]) rfl ?_
    show Steps p.tables e below (T3.setTop (mkF m 40 #[.val (.ref a1), .val (.int p1), .val (.int (0 : Int32)), .unset, .unset] [])) _
    refine XS.iloadN X3.here hx rfl (hb hby d11_40) rfl ?_
    show Steps p.tables e below (T3.setTop (mkF m 41 #[.val (.ref a1), .val (.int p1), .val (.int (0 : Int32)), .unset, .unset] [(.int (0 : Int32))])) _
    refine XS.aloadN X3.here hx rfl (hb hby d11_41) rfl rfl ?_
    show Steps p.tables e below (T3.setTop (mkF m 42 #[.val (.ref a1), .val (.int p1), .val (.int (0 : Int32)), .unset, .unset] [(.ref a1), (.int (0 : Int32))])) _
    refine st7 _ ?_
    exact kt)
  by_cases hA : (0 : Int32) < u
  · obtain ⟨T9, X9, e9, st9⟩ := getF X7 hx hZ hown (host := "") (Or.inl (hw _ (List.mem_of_getElem? (i := 29) rfl))) Via.refl e7 B2 (g := (mkF m 51 #[.val (.ref a1), .val (.int p1), .val (.int (0 : Int32)), .unset, .unset] [(.ref a1)])) rfl rfl (hb hby d11_51)
    obtain ⟨cl10, Ar10, -, S10, -, H10, -⟩ := id B3
    have hi10 : ¬ ((0 : Int32) < 0 ∨ cl10.slots.size ≤ (0 : Int32).toNatClampNeg) := inb_of S10 ⟨by decide, by decide⟩
    have ha10 : cl10.slots[(0 : Int32).toNatClampNeg]? = some (.long w) := H10 0 (by rw [S10]; decide)
    obtain ⟨_, _, ⟨T11, L11, k11, n11⟩, -, X11, ⟨Lc11, hQ11, l11, y11, z11⟩, st11⟩ := Jvm.LawKit.callS X9 hx (y := (⟨"java/lang/Long", "numberOfTrailingZeros", "(J)I"⟩ : MethodName)) hown (mvT hZ (hw _ (List.mem_of_getElem? (i := 86) rfl))) (mvT hZ (hw _ (List.mem_of_getElem? (i := 87) rfl))) (mvT hZ (hw _ (List.mem_of_getElem? (i := 88) rfl))) (mvT hZ (hw _ (List.mem_of_getElem? (i := 89) rfl))) (by decide) (backOf (W := 1) (rm15 l Z a0 hw [] ((w ^^^ (-1 : Int64)) &&& ((-1 : Int64) <<< (p1 &&& 0x3f).toInt64)) h0 n0 Z0) hZ (hw _ (List.mem_of_getElem? (i := 89) rfl)) (hw _ (List.mem_of_getElem? (i := 88) rfl)) (by decide) (by decide)) (g := (mkF m 78 #[.val (.ref a1), .val (.int p1), .val (.int (0 : Int32)), .val (.long ((w ^^^ (-1 : Int64)) &&& ((-1 : Int64) <<< (p1 &&& 0x3f).toInt64))), .second] [(.long ((w ^^^ (-1 : Int64)) &&& ((-1 : Int64) <<< (p1 &&& 0x3f).toInt64))), (.int ((0 : Int32) * (64 : Int32)))])) rfl (by rw [hml]; rfl) (argsL := [(.long ((w ^^^ (-1 : Int64)) &&& ((-1 : Int64) <<< (p1 &&& 0x3f).toInt64)))]) (rest := [(.int ((0 : Int32) * (64 : Int32)))]) (lenOf pd_3 rfl) rfl (by show 2 * 0 + _ ≤ _; exact Nat.le_of_eq rfl) (hb hby d11_78) (fun _ _ => ⟨rfl, e9, (by decide : 0 + 0 ≤ _), (by decide : 0 + 0 ≤ _)⟩)
    dsimp only [Pt.U, Pt.locs, Pt.cells, Pt.slots] at X11 l11 y11 z11 st11 hQ11
    subst l11 y11 z11
    obtain ⟨rfl, Nq11, e11⟩ := hQ11
    have N12 := Fr.app N4 Nq11
    obtain ⟨fs, hr, hrun, hended, hW, hsame⟩ := X11.leave (v := some (.int (((0 : Int32) * (64 : Int32)) + (own_ntz ((w ^^^ (-1 : Int64)) &&& ((-1 : Int64) <<< (p1 &&& 0x3f).toInt64)))))) (fun h => by rw [Bd.returns] at h; cases h)
    refine ⟨_, _, pre8 _ ?_, hrun, hended, _, _, rfl, ?_, ⟨_, rfl⟩, hW, hsame.mono (by decide) (by decide)⟩
    · show Steps p.tables e below (T7.setTop (mkF m 45 #[.val (.ref a1), .val (.int p1), .val (.int (0 : Int32)), .unset, .unset] [(.int u), (.int (0 : Int32))])) _
      refine XS.icmpYes X7.here hx rfl (pc0 := 45) (pc' := 50) rfl (hb hby d11_45) rfl (tlt hA).1 (by decide) (by decide) ?_
      show Steps p.tables e below (T7.setTop (mkF m 50 #[.val (.ref a1), .val (.int p1), .val (.int (0 : Int32)), .unset, .unset] [])) _
      refine XS.aloadN X7.here hx rfl (hb hby d11_50) rfl rfl ?_
      show Steps p.tables e below (T7.setTop (mkF m 51 #[.val (.ref a1), .val (.int p1), .val (.int (0 : Int32)), .unset, .unset] [(.ref a1)])) _
      refine st9 _ ?_
      show Steps p.tables e below (T9.setTop (mkF m 54 #[.val (.ref a1), .val (.int p1), .val (.int (0 : Int32)), .unset, .unset] [(.ref t)])) _
      refine XS.iloadN X9.here hx rfl (hb hby d11_54) rfl ?_
      show Steps p.tables e below (T9.setTop (mkF m 55 #[.val (.ref a1), .val (.int p1), .val (.int (0 : Int32)), .unset, .unset] [(.int (0 : Int32)), (.ref t)])) _
      refine X9.laload hx (j := (0 : Int32)) (v := (.long w)) (by rw [e9]; exact Ar10.1) (State.isArrayOf_alike hZ.alike Ar10.2.1) Ar10.2.2 hi10 ha10 (g := (mkF m 55 #[.val (.ref a1), .val (.int p1), .val (.int (0 : Int32)), .unset, .unset] [(.int (0 : Int32)), (.ref t)])) rfl rfl (hb hby d11_55) _ ?_
      show Steps p.tables e below (T9.setTop (mkF m 56 #[.val (.ref a1), .val (.int p1), .val (.int (0 : Int32)), .unset, .unset] [(.long w)])) _
      refine X9.ldc2Long hx hown (mvT hZ (hw _ (List.mem_of_getElem? (i := 85) rfl))) (g := (mkF m 56 #[.val (.ref a1), .val (.int p1), .val (.int (0 : Int32)), .unset, .unset] [(.long w)])) rfl (hb hby d11_56) _ ?_
      show Steps p.tables e below (T9.setTop (mkF m 59 #[.val (.ref a1), .val (.int p1), .val (.int (0 : Int32)), .unset, .unset] [(.long (-1 : Int64)), (.long w)])) _
      refine XS.lxor X9.here hx rfl (hb hby d11_59) rfl ?_
      show Steps p.tables e below (T9.setTop (mkF m 60 #[.val (.ref a1), .val (.int p1), .val (.int (0 : Int32)), .unset, .unset] [(.long (w ^^^ (-1 : Int64)))])) _
      refine X9.ldc2Long hx hown (mvT hZ (hw _ (List.mem_of_getElem? (i := 85) rfl))) (g := (mkF m 60 #[.val (.ref a1), .val (.int p1), .val (.int (0 : Int32)), .unset, .unset] [(.long (w ^^^ (-1 : Int64)))])) rfl (hb hby d11_60) _ ?_
      show Steps p.tables e below (T9.setTop (mkF m 63 #[.val (.ref a1), .val (.int p1), .val (.int (0 : Int32)), .unset, .unset] [(.long (-1 : Int64)), (.long (w ^^^ (-1 : Int64)))])) _
      refine XS.iloadN X9.here hx rfl (hb hby d11_63) rfl ?_
      show Steps p.tables e below (T9.setTop (mkF m 64 #[.val (.ref a1), .val (.int p1), .val (.int (0 : Int32)), .unset, .unset] [(.int p1), (.long (-1 : Int64)), (.long (w ^^^ (-1 : Int64)))])) _
      refine XS.lshl X9.here hx rfl (hb hby d11_64) rfl ?_
      show Steps p.tables e below (T9.setTop (mkF m 65 #[.val (.ref a1), .val (.int p1), .val (.int (0 : Int32)), .unset, .unset] [(.long ((-1 : Int64) <<< (p1 &&& 0x3f).toInt64)), (.long (w ^^^ (-1 : Int64)))])) _
      refine XS.land X9.here hx rfl (hb hby d11_65) rfl ?_
      show Steps p.tables e below (T9.setTop (mkF m 66 #[.val (.ref a1), .val (.int p1), .val (.int (0 : Int32)), .unset, .unset] [(.long ((w ^^^ (-1 : Int64)) &&& ((-1 : Int64) <<< (p1 &&& 0x3f).toInt64)))])) _
      refine XS.lstoreN X9.here hx rfl (hb hby d11_66) rfl (l' := #[.val (.ref a1), .val (.int p1), .val (.int (0 : Int32)), .val (.long ((w ^^^ (-1 : Int64)) &&& ((-1 : Int64) <<< (p1 &&& 0x3f).toInt64))), .second]) rfl ?_
      show Steps p.tables e below (T9.setTop (mkF m 67 #[.val (.ref a1), .val (.int p1), .val (.int (0 : Int32)), .val (.long ((w ^^^ (-1 : Int64)) &&& ((-1 : Int64) <<< (p1 &&& 0x3f).toInt64))), .second] [])) _
      refine XS.lloadN X9.here hx rfl (hb hby d11_67) rfl ?_
      show Steps p.tables e below (T9.setTop (mkF m 68 #[.val (.ref a1), .val (.int p1), .val (.int (0 : Int32)), .val (.long ((w ^^^ (-1 : Int64)) &&& ((-1 : Int64) <<< (p1 &&& 0x3f).toInt64))), .second] [(.long ((w ^^^ (-1 : Int64)) &&& ((-1 : Int64) <<< (p1 &&& 0x3f).toInt64)))])) _
      refine XS.lconst X9.here hx rfl (hb hby d11_68) ?_
      show Steps p.tables e below (T9.setTop (mkF m 69 #[.val (.ref a1), .val (.int p1), .val (.int (0 : Int32)), .val (.long ((w ^^^ (-1 : Int64)) &&& ((-1 : Int64) <<< (p1 &&& 0x3f).toInt64))), .second] [(.long (0 : Int64)), (.long ((w ^^^ (-1 : Int64)) &&& ((-1 : Int64) <<< (p1 &&& 0x3f).toInt64)))])) _
      refine XS.lcmp X9.here hx rfl (hb hby d11_69) rfl ?_
      show Steps p.tables e below (T9.setTop (mkF m 70 #[.val (.ref a1), .val (.int p1), .val (.int (0 : Int32)), .val (.long ((w ^^^ (-1 : Int64)) &&& ((-1 : Int64) <<< (p1 &&& 0x3f).toInt64))), .second] [(.int (lcmpW ((w ^^^ (-1 : Int64)) &&& ((-1 : Int64) <<< (p1 &&& 0x3f).toInt64)) (0 : Int64)))])) _
      refine XS.ifNo X9.here hx rfl (hb hby d11_70) rfl ((if0 _ _).trans (feq (hnz hA)).1) ?_
      show Steps p.tables e below (T9.setTop (mkF m 73 #[.val (.ref a1), .val (.int p1), .val (.int (0 : Int32)), .val (.long ((w ^^^ (-1 : Int64)) &&& ((-1 : Int64) <<< (p1 &&& 0x3f).toInt64))), .second] [])) _
      refine XS.iloadN X9.here hx rfl (hb hby d11_73) rfl ?_
      show Steps p.tables e below (T9.setTop (mkF m 74 #[.val (.ref a1), .val (.int p1), .val (.int (0 : Int32)), .val (.long ((w ^^^ (-1 : Int64)) &&& ((-1 : Int64) <<< (p1 &&& 0x3f).toInt64))), .second] [(.int (0 : Int32))])) _
      refine XS.bipush X9.here hx rfl (hb hby d11_74) ?_
      show Steps p.tables e below (T9.setTop (mkF m 76 #[.val (.ref a1), .val (.int p1), .val (.int (0 : Int32)), .val (.long ((w ^^^ (-1 : Int64)) &&& ((-1 : Int64) <<< (p1 &&& 0x3f).toInt64))), .second] [(.int (64 : Int32)), (.int (0 : Int32))])) _
      refine XS.imul X9.here hx rfl (hb hby d11_76) rfl ?_
      show Steps p.tables e below (T9.setTop (mkF m 77 #[.val (.ref a1), .val (.int p1), .val (.int (0 : Int32)), .val (.long ((w ^^^ (-1 : Int64)) &&& ((-1 : Int64) <<< (p1 &&& 0x3f).toInt64))), .second] [(.int ((0 : Int32) * (64 : Int32)))])) _
      refine XS.lloadN X9.here hx rfl (hb hby d11_77) rfl ?_
      show Steps p.tables e below (T9.setTop (mkF m 78 #[.val (.ref a1), .val (.int p1), .val (.int (0 : Int32)), .val (.long ((w ^^^ (-1 : Int64)) &&& ((-1 : Int64) <<< (p1 &&& 0x3f).toInt64))), .second] [(.long ((w ^^^ (-1 : Int64)) &&& ((-1 : Int64) <<< (p1 &&& 0x3f).toInt64))), (.int ((0 : Int32) * (64 : Int32)))])) _
      refine st11 _ ?_
      show Steps p.tables e below (T11.setTop (mkF m 81 #[.val (.ref a1), .val (.int p1), .val (.int (0 : Int32)), .val (.long ((w ^^^ (-1 : Int64)) &&& ((-1 : Int64) <<< (p1 &&& 0x3f).toInt64))), .second] [(.int (own_ntz ((w ^^^ (-1 : Int64)) &&& ((-1 : Int64) <<< (p1 &&& 0x3f).toInt64)))), (.int ((0 : Int32) * (64 : Int32)))])) _
      refine XS.iadd X11.here hx rfl (hb hby d11_81) rfl ?_
      show Steps p.tables e below (T11.setTop (mkF m 82 #[.val (.ref a1), .val (.int p1), .val (.int (0 : Int32)), .val (.long ((w ^^^ (-1 : Int64)) &&& ((-1 : Int64) <<< (p1 &&& 0x3f).toInt64))), .second] [(.int (((0 : Int32) * (64 : Int32)) + (own_ntz ((w ^^^ (-1 : Int64)) &&& ((-1 : Int64) <<< (p1 &&& 0x3f).toInt64)))))])) _
      exact retI X11 hx Bd.returns (hb hby d11_82) hr
    · show Q11 Z a1 p1 t kc u w h0 n0 _ T11.heap _
      rw [e11]
      exact ⟨by first | (rw [own_ncb, if_pos hA]; done) | (rw [own_ncb, if_pos hA]; rfl), N12, rfl⟩
  · obtain ⟨fs, hr, hrun, hended, hW, hsame⟩ := X7.leave (v := some (.int p1)) (fun h => by rw [Bd.returns] at h; cases h)
    refine ⟨_, _, pre8 _ ?_, hrun, hended, _, _, rfl, ?_, ⟨_, rfl⟩, hW, hsame.mono (by decide) (by decide)⟩
    · show Steps p.tables e below (T7.setTop (mkF m 45 #[.val (.ref a1), .val (.int p1), .val (.int (0 : Int32)), .unset, .unset] [(.int u), (.int (0 : Int32))])) _
      refine XS.icmpNo X7.here hx rfl (hb hby d11_45) rfl (flt hA).1 ?_
      show Steps p.tables e below (T7.setTop (mkF m 48 #[.val (.ref a1), .val (.int p1), .val (.int (0 : Int32)), .unset, .unset] [])) _
      refine XS.iloadN X7.here hx rfl (hb hby d11_48) rfl ?_
      show Steps p.tables e below (T7.setTop (mkF m 49 #[.val (.ref a1), .val (.int p1), .val (.int (0 : Int32)), .unset, .unset] [(.int p1)])) _
      exact retI X7 hx Bd.returns (hb hby d11_49) hr
    · show Q11 Z a1 p1 t kc u w h0 n0 _ T7.heap _
      rw [e7]
      exact ⟨by rw [own_ncb, if_neg hA], N4, rfl⟩
theorem d12_0 : decode jdk_92_method_19_code 0 = .ok (.iload_n 1, 1) := by decide +kernel
theorem d12_1 : decode jdk_92_method_19_code 1 = .ok (.ifCond .ge 30, 3) := by decide +kernel
theorem d12_31 : decode jdk_92_method_19_code 31 = .ok (.iload_n 1, 1) := by decide +kernel
theorem d12_32 : decode jdk_92_method_19_code 32 = .ok (.invokestatic 52, 3) := by decide +kernel
theorem d12_35 : decode jdk_92_method_19_code 35 = .ok (.istore_n 2, 1) := by decide +kernel
theorem d12_36 : decode jdk_92_method_19_code 36 = .ok (.aload_n 0, 1) := by decide +kernel
theorem d12_37 : decode jdk_92_method_19_code 37 = .ok (.iload_n 2, 1) := by decide +kernel
theorem d12_38 : decode jdk_92_method_19_code 38 = .ok (.invokevirtual 155, 3) := by decide +kernel
theorem d12_41 : decode jdk_92_method_19_code 41 = .ok (.aload_n 0, 1) := by decide +kernel
theorem d12_42 : decode jdk_92_method_19_code 42 = .ok (.getfield 11, 3) := by decide +kernel
theorem d12_45 : decode jdk_92_method_19_code 45 = .ok (.iload_n 2, 1) := by decide +kernel
theorem d12_46 : decode jdk_92_method_19_code 46 = .ok (.dup2, 1) := by decide +kernel
theorem d12_47 : decode jdk_92_method_19_code 47 = .ok (.laload, 1) := by decide +kernel
theorem d12_48 : decode jdk_92_method_19_code 48 = .ok (.lconst 1, 1) := by decide +kernel
theorem d12_49 : decode jdk_92_method_19_code 49 = .ok (.iload_n 1, 1) := by decide +kernel
theorem d12_50 : decode jdk_92_method_19_code 50 = .ok (.lshl, 1) := by decide +kernel
theorem d12_51 : decode jdk_92_method_19_code 51 = .ok (.lor, 1) := by decide +kernel
theorem d12_52 : decode jdk_92_method_19_code 52 = .ok (.lastore, 1) := by decide +kernel
theorem d12_53 : decode jdk_92_method_19_code 53 = .ok (.aload_n 0, 1) := by decide +kernel
theorem d12_54 : decode jdk_92_method_19_code 54 = .ok (.invokevirtual 56, 3) := by decide +kernel
theorem d12_57 : decode jdk_92_method_19_code 57 = .ok (.return_, 1) := by decide +kernel
theorem ef_rm12 (m : MethodId) (x0 : Addr) (x1 : Int32) : entryFrame m #[(.ref x0), (.int x1)] 3 = mkF m 0 #[.val (.ref x0), .val (.int x1), .unset] [] := by first | (simp [entryFrame, mkF, argsToLocals, Value.category]; done) | rfl
def Q12 (Z : State) (a1 : Addr) (p1 : Int32) (t : Addr) (kc : ClassId) (u : Int32) (w : Int64) (h0 : Heap) (n0 : Nat) (v : Option Value) (h : Heap) (L : List Loc) : Prop := v = none ∧ Fr n0 L ∧ Keep h0 h [a1, t] ∧ own_BS Z h a1 t kc 1 (own_set w p1)
set_option maxHeartbeats 40000000 in
theorem rm12 (l : Launch) (Z : State) (a0 : Array Value) (hw : ∀ d ∈ tables_1, d.before a0 Z = true) (ws : List Jvm.Cond) (a1 : Addr) (p1 : Int32) (t : Addr) (kc : ClassId) (u : Int32) (w : Int64) (h0 : Heap) (n0 : Nat) (Z0 : n0 ≤ h0.size) (gn_a1 : n0 ≤ a1) (gn_t : n0 ≤ t) (ne1 : a1 ≠ t) (hB : own_BS Z h0 a1 t kc u w) (St : Sta Z h0 "java/util/BitSet" "$assertionsDisabled" "Z" (.int 1)) (hp : ¬ p1 < 0) (hwi : own_f5 p1 = 0) (hu : u = 0 ∨ u = 1) :
    MetFree l (⟨"java/util/BitSet", "set", "(I)V"⟩ : MethodName) (head1 (Jvm.Cond.code (⟨"java/util/BitSet", "set", "(I)V"⟩ : MethodName) jdk_92_method_19_code 3 none :: ws) ({ frames := 2, cells := 0, slots := 0, locals := 28 } : Room)) (fun a U => a = #[(.ref a1), (.int p1)] ∧ Z.Warmed39 U.vm ∧ U.heap = h0) (fun _ _ _ _ _ => True) (fun _ U o U' => ∃ v L, o = .returned v ∧ Q12 Z a1 p1 t kc u w h0 n0 v U'.heap L ∧ FrameEnd U o U' L ({ frames := 2, cells := 0, slots := 0, locals := 28 } : Room).cells ({ frames := 2, cells := 0, slots := 0, locals := 28 } : Room).slots) := by
  refine MetFree.of_bodySF (plainFor_of_name pn_0) hisR ?_
  intro p e s m args below meth c s₁ Bd hml0 hP hK
  obtain ⟨rfl, hZ, hh⟩ := hP
  have hx := Bd.exec
  have hby := Bd.bytes
  have hml : c.maxLocals = 3 := hml0
  have hown : s.vm.findClass "java/util/BitSet" = some m.cls := findClass_of_methodNamed Bd.named
  have hnm := (name_of_methodNamed Bd.named Bd.method).1
  have X0 : Stand p l e ({ frames := 2, cells := 0, slots := 0, locals := 28 } : Room) s m #[(.ref a1), (.int p1)] below meth c s₁ [] 0 0 := Stand.of_body Bd
  have e0 : s₁.heap = h0 := by rw [← hh, Bd.state]; rfl
  have N0 := Fr.nil n0
  have pre0 : ∀ tgt, Steps p.tables e below (s₁.setTop (mkF m 0 #[.val (.ref a1), .val (.int p1), .unset] [])) tgt → Steps p.tables e below (s₁.setTop (entryFrame m #[(.ref a1), (.int p1)] 3)) tgt := fun tgt k => castTop (ef_rm12 m a1 p1) k
  obtain ⟨B0, B1, B2, B3⟩ := hB
  obtain ⟨_, _, ⟨T1, L1, k1, n1⟩, -, X1, ⟨Lc1, hQ1, l1, y1, z1⟩, st1⟩ := Jvm.LawKit.callS X0 hx (y := (⟨"java/util/BitSet", "wordIndex", "(I)I"⟩ : MethodName)) hown (mvT hZ (hw _ (List.mem_of_getElem? (i := 25) rfl))) (mvT hZ (hw _ (List.mem_of_getElem? (i := 26) rfl))) (mvT hZ (hw _ (List.mem_of_getElem? (i := 11) rfl))) (mvT hZ (hw _ (List.mem_of_getElem? (i := 27) rfl))) (by decide) (backOf (W := 0) (rm5 l Z a0 hw [] p1  h0 n0 Z0 ) hZ (hw _ (List.mem_of_getElem? (i := 27) rfl)) (hw _ (List.mem_of_getElem? (i := 11) rfl)) (by decide) (by decide)) (g := (mkF m 32 #[.val (.ref a1), .val (.int p1), .unset] [(.int p1)])) rfl (by rw [hml]; rfl) (argsL := [(.int p1)]) (rest := []) (lenOf pd_2 rfl) rfl (by show 2 * 0 + _ ≤ _; exact Nat.le_of_eq rfl) (hb hby d12_32) (fun _ _ => ⟨rfl, e0, (by decide : 0 + 0 ≤ _), (by decide : 0 + 0 ≤ _)⟩)
  dsimp only [Pt.U, Pt.locs, Pt.cells, Pt.slots] at X1 l1 y1 z1 st1 hQ1
  subst l1 y1 z1
  obtain ⟨rfl, Nq1, e1⟩ := hQ1
  have N2 := Fr.app N0 Nq1
  have pre3 : ∀ tgt, Steps p.tables e below (T1.setTop (mkF m 35 #[.val (.ref a1), .val (.int p1), .unset] [(.int (own_f5 p1))])) tgt → Steps p.tables e below (s₁.setTop (entryFrame m #[(.ref a1), (.int p1)] 3)) tgt := fun tgt kt => pre0 _ (by
    show Steps p.tables e below (s₁.setTop (mkF m 0 #[.val (.ref a1), .val (.int p1), .unset] [])) _
    refine XS.iloadN X0.here hx rfl (hb hby d12_0) rfl ?_
    show Steps p.tables e below (s₁.setTop (mkF m 1 #[.val (.ref a1), .val (.int p1), .unset] [(.int p1)])) _
    refine XS.ifYes X0.here hx rfl (pc0 := 1) (pc' := 31) rfl (hb hby d12_1) rfl ((if0 _ _).trans (flt hp).2.1) (by decide) (by decide) ?_
    show Steps p.tables e below (s₁.setTop (mkF m 31 #[.val (.ref a1), .val (.int p1), .unset] [])) _
    refine XS.iloadN X0.here hx rfl (hb hby d12_31) rfl ?_
    show Steps p.tables e below (s₁.setTop (mkF m 32 #[.val (.ref a1), .val (.int p1), .unset] [(.int p1)])) _
    refine st1 _ ?_
    exact kt)
  have rw4 : (own_f5 p1) = (0 : Int32) := hwi
  rw [rw4] at pre3
  obtain ⟨cq5, q5, q5'⟩ := B0.cell
  obtain ⟨_, _, ⟨T5, L5, k5, n5⟩, -, X5, ⟨Lc5, hQ5, l5, y5, z5⟩, st5⟩ := X1.privateBack hx (y := (⟨"java/util/BitSet", "expandTo", "(I)V"⟩ : MethodName)) hown (mvT hZ (hw _ (List.mem_of_getElem? (i := 75) rfl))) (mvT hZ (hw _ (List.mem_of_getElem? (i := 76) rfl))) (mvT hZ (hw _ (List.mem_of_getElem? (i := 78) rfl))) (Cond.privateMethod_at (mvP hZ (hw _ (List.mem_of_getElem? (i := 77) rfl)) (args := #[]))) (mvT hZ (hw _ (List.mem_of_getElem? (i := 79) rfl))) (by decide) (backOf (W := 0) (rm13 l Z a0 hw [] a1 (0 : Int32) t kc u w h0 n0 Z0 gn_a1 gn_t ne1 ⟨B0, B1, B2, B3⟩ St rfl hu) hZ (hw _ (List.mem_of_getElem? (i := 79) rfl)) (hw _ (List.mem_of_getElem? (i := 11) rfl)) (by decide) (by decide)) (g := (mkF m 38 #[.val (.ref a1), .val (.int p1), .val (.int (0 : Int32))] [(.int (0 : Int32)), (.ref a1)])) rfl (by rw [hml]; rfl) (Steps.refl _) (a := a1) (by rw [e1]; exact q5) q5' (argsL := [(.int (0 : Int32))]) (rest := []) (lenOf pd_0 rfl) rfl (by show 2 * 0 + _ ≤ _; exact Nat.le_of_eq rfl) (hb hby d12_38) (fun _ _ => ⟨rfl, e1, (by decide : 0 + 0 ≤ _), (by decide : 0 + 0 ≤ _)⟩)
  dsimp only [Pt.U, Pt.locs, Pt.cells, Pt.slots] at X5 l5 y5 z5 st5 hQ5
  subst l5 y5 z5
  obtain ⟨rfl, Nq5, K5, B0_5, B1_5, B2_5, B3_5⟩ := hQ5
  have ns6 : ∀ x ∈ [a1], ∃ c : Cell, h0[x]? = some c ∧ c.vm.isStatics = false := (own_allS (own_ns_e B0) own_all0)
  have f7 := B0.keep K5
  have f8 := B3.keep K5 (own_nmS (Ne.symm ne1) own_nm0)
  have f9 := own_sta_keep St K5 ns6
  have zz10 : n0 ≤ T5.heap.size := Nat.le_trans Z0 K5.1
  have K11 : Keep h0 T5.heap [a1, t] := Keep.trans (Keep.refl h0 [a1, t]) K5 (own_allS (Or.inl (List.mem_of_getElem? (i := 0) rfl)) own_all0)
  have N12 := Fr.app N2 Nq5
  obtain ⟨T13, X13, e13, st13⟩ := getF X5 hx hZ hown (host := "") (Or.inl (hw _ (List.mem_of_getElem? (i := 29) rfl))) Via.refl rfl B2_5 (g := (mkF m 42 #[.val (.ref a1), .val (.int p1), .val (.int (0 : Int32))] [(.ref a1)])) rfl rfl (hb hby d12_42)
  obtain ⟨cl14, Ar14, -, S14, -, H14, -⟩ := id B3_5
  have hi14 : ¬ ((0 : Int32) < 0 ∨ cl14.slots.size ≤ (0 : Int32).toNatClampNeg) := inb_of S14 ⟨by decide, by decide⟩
  have ha14 : cl14.slots[(0 : Int32).toNatClampNeg]? = some (.long w) := H14 0 (by rw [S14]; decide)
  obtain ⟨cl15, Ar15, q15, S15, N15, H15, G15⟩ := id B3_5
  have hin15 : ¬ ((0 : Int32) < 0 ∨ cl15.slots.size ≤ ((0 : Int32)).toNatClampNeg) := inb_of S15 ⟨by decide, by decide⟩
  obtain ⟨T16, h16, X16, e16, W16, st16⟩ := stJ X13 hx hZ e13 Ar15 (j := (0 : Int32)) hin15 (g := (mkF m 52 #[.val (.ref a1), .val (.int p1), .val (.int (0 : Int32))] [(.long (w ||| ((1 : Int64) <<< (p1 &&& 0x3f).toInt64))), (.int (0 : Int32)), (.ref t)])) rfl rfl (hb hby d12_52)
  have f17 : Arv Z h16 t kc .long (1 : Int32) [(.long (w ||| ((1 : Int64) <<< (p1 &&& 0x3f).toInt64)))] (.long (0 : Int64)) := Arv.set Ar15 q15 S15 N15 H15 G15 rfl W16 0 rfl (Nat.le_of_ble_eq_true rfl)
  have f18 := B0_5.wr W16
  have f19 := f9.wr W16
  have f20 := B1_5.other W16 (Or.inl ne1)
  have f21 := B2_5.other W16 (Or.inl ne1)
  have zz22 : n0 ≤ h16.size := Nat.le_trans zz10 (Keep.of_wr W16).1
  have N23 := Fr.snoc X16 N12 gn_t
  have K24 : Keep h0 h16 [a1, t] := K11.wr W16 (Or.inl (List.mem_of_getElem? (i := 1) rfl))
  obtain ⟨cq25, q25, q25'⟩ := f18.cell
  obtain ⟨_, _, ⟨T25, L25, k25, n25⟩, -, X25, ⟨Lc25, hQ25, l25, y25, z25⟩, st25⟩ := X16.privateBack hx (y := (⟨"java/util/BitSet", "checkInvariants", "()V"⟩ : MethodName)) hown (mvT hZ (hw _ (List.mem_of_getElem? (i := 51) rfl))) (mvT hZ (hw _ (List.mem_of_getElem? (i := 52) rfl))) (mvT hZ (hw _ (List.mem_of_getElem? (i := 54) rfl))) (Cond.privateMethod_at (mvP hZ (hw _ (List.mem_of_getElem? (i := 53) rfl)) (args := #[]))) (mvT hZ (hw _ (List.mem_of_getElem? (i := 55) rfl))) (by decide) (backOf (W := 0) (rm9 l Z a0 hw [] a1 h16 n0 zz22 f19) hZ (hw _ (List.mem_of_getElem? (i := 55) rfl)) (hw _ (List.mem_of_getElem? (i := 11) rfl)) (by decide) (by decide)) (g := (mkF m 54 #[.val (.ref a1), .val (.int p1), .val (.int (0 : Int32))] [(.ref a1)])) rfl (by rw [hml]; rfl) (Steps.refl _) (a := a1) (by rw [e16]; exact q25) q25' (argsL := []) (rest := []) (lenOf pd_1 rfl) rfl (by show 2 * 0 + _ ≤ _; exact Nat.le_of_eq rfl) (hb hby d12_54) (fun _ _ => ⟨rfl, e16, (by decide : 0 + 0 ≤ _), (by decide : 0 + 0 ≤ _)⟩)
  dsimp only [Pt.U, Pt.locs, Pt.cells, Pt.slots] at X25 l25 y25 z25 st25 hQ25
  subst l25 y25 z25
  obtain ⟨rfl, Nq25, e25⟩ := hQ25
  have N26 := Fr.app N23 Nq25
  obtain ⟨fs, hr, hrun, hended, hW, hsame⟩ := X25.leave (v := none) (fun _ => rfl)
  refine ⟨_, _, pre3 _ ?_, hrun, hended, _, _, rfl, ?_, ⟨_, rfl⟩, hW, hsame.mono (by decide) (by decide)⟩
  · show Steps p.tables e below (T1.setTop (mkF m 35 #[.val (.ref a1), .val (.int p1), .unset] [(.int (0 : Int32))])) _
    refine XS.istoreN X1.here hx rfl (hb hby d12_35) rfl (l' := #[.val (.ref a1), .val (.int p1), .val (.int (0 : Int32))]) rfl ?_
    show Steps p.tables e below (T1.setTop (mkF m 36 #[.val (.ref a1), .val (.int p1), .val (.int (0 : Int32))] [])) _
    refine XS.aloadN X1.here hx rfl (hb hby d12_36) rfl rfl ?_
    show Steps p.tables e below (T1.setTop (mkF m 37 #[.val (.ref a1), .val (.int p1), .val (.int (0 : Int32))] [(.ref a1)])) _
    refine XS.iloadN X1.here hx rfl (hb hby d12_37) rfl ?_
    show Steps p.tables e below (T1.setTop (mkF m 38 #[.val (.ref a1), .val (.int p1), .val (.int (0 : Int32))] [(.int (0 : Int32)), (.ref a1)])) _
    refine st5.trans ?_
    show Steps p.tables e below (T5.setTop (mkF m 41 #[.val (.ref a1), .val (.int p1), .val (.int (0 : Int32))] [])) _
    refine XS.aloadN X5.here hx rfl (hb hby d12_41) rfl rfl ?_
    show Steps p.tables e below (T5.setTop (mkF m 42 #[.val (.ref a1), .val (.int p1), .val (.int (0 : Int32))] [(.ref a1)])) _
    refine st13 _ ?_
    show Steps p.tables e below (T13.setTop (mkF m 45 #[.val (.ref a1), .val (.int p1), .val (.int (0 : Int32))] [(.ref t)])) _
    refine XS.iloadN X13.here hx rfl (hb hby d12_45) rfl ?_
    show Steps p.tables e below (T13.setTop (mkF m 46 #[.val (.ref a1), .val (.int p1), .val (.int (0 : Int32))] [(.int (0 : Int32)), (.ref t)])) _
    jvm_step X13.here [X13.here.top, hx, (hb hby d12_46), Value.category]
    show Steps p.tables e below (T13.setTop (mkF m 47 #[.val (.ref a1), .val (.int p1), .val (.int (0 : Int32))] [(.int (0 : Int32)), (.ref t), (.int (0 : Int32)), (.ref t)])) _
    refine X13.laload hx (j := (0 : Int32)) (v := (.long w)) (by rw [e13]; exact Ar14.1) (State.isArrayOf_alike hZ.alike Ar14.2.1) Ar14.2.2 hi14 ha14 (g := (mkF m 47 #[.val (.ref a1), .val (.int p1), .val (.int (0 : Int32))] [(.int (0 : Int32)), (.ref t), (.int (0 : Int32)), (.ref t)])) rfl rfl (hb hby d12_47) _ ?_
    show Steps p.tables e below (T13.setTop (mkF m 48 #[.val (.ref a1), .val (.int p1), .val (.int (0 : Int32))] [(.long w), (.int (0 : Int32)), (.ref t)])) _
    refine XS.lconst X13.here hx rfl (hb hby d12_48) ?_
    show Steps p.tables e below (T13.setTop (mkF m 49 #[.val (.ref a1), .val (.int p1), .val (.int (0 : Int32))] [(.long (1 : Int64)), (.long w), (.int (0 : Int32)), (.ref t)])) _
    refine XS.iloadN X13.here hx rfl (hb hby d12_49) rfl ?_
    show Steps p.tables e below (T13.setTop (mkF m 50 #[.val (.ref a1), .val (.int p1), .val (.int (0 : Int32))] [(.int p1), (.long (1 : Int64)), (.long w), (.int (0 : Int32)), (.ref t)])) _
    refine XS.lshl X13.here hx rfl (hb hby d12_50) rfl ?_
    show Steps p.tables e below (T13.setTop (mkF m 51 #[.val (.ref a1), .val (.int p1), .val (.int (0 : Int32))] [(.long ((1 : Int64) <<< (p1 &&& 0x3f).toInt64)), (.long w), (.int (0 : Int32)), (.ref t)])) _
    refine XS.lor X13.here hx rfl (hb hby d12_51) rfl ?_
    show Steps p.tables e below (T13.setTop (mkF m 52 #[.val (.ref a1), .val (.int p1), .val (.int (0 : Int32))] [(.long (w ||| ((1 : Int64) <<< (p1 &&& 0x3f).toInt64))), (.int (0 : Int32)), (.ref t)])) _
    refine st16 _ ?_
    show Steps p.tables e below (T16.setTop (mkF m 53 #[.val (.ref a1), .val (.int p1), .val (.int (0 : Int32))] [])) _
    refine XS.aloadN X16.here hx rfl (hb hby d12_53) rfl rfl ?_
    show Steps p.tables e below (T16.setTop (mkF m 54 #[.val (.ref a1), .val (.int p1), .val (.int (0 : Int32))] [(.ref a1)])) _
    refine st25.trans ?_
    show Steps p.tables e below (T25.setTop (mkF m 57 #[.val (.ref a1), .val (.int p1), .val (.int (0 : Int32))] [])) _
    exact X25.returnOut hx Bd.returns (hb hby d12_57) hr
  · show Q12 Z a1 p1 t kc u w h0 n0 _ T25.heap _
    rw [e25]
    exact ⟨rfl, N26, K24, ⟨f18, f20, f21, f17⟩⟩
theorem d18_0 : decode jdk_92_method_3_code 0 = .ok (.aload_n 0, 1) := by decide +kernel
theorem d18_1 : decode jdk_92_method_3_code 1 = .ok (.getfield 7, 3) := by decide +kernel
theorem d18_4 : decode jdk_92_method_3_code 4 = .ok (.iconst 1, 1) := by decide +kernel
theorem d18_5 : decode jdk_92_method_3_code 5 = .ok (.isub, 1) := by decide +kernel
theorem d18_6 : decode jdk_92_method_3_code 6 = .ok (.istore_n 1, 1) := by decide +kernel
theorem d18_7 : decode jdk_92_method_3_code 7 = .ok (.iload_n 1, 1) := by decide +kernel
theorem d18_8 : decode jdk_92_method_3_code 8 = .ok (.ifCond .lt 23, 3) := by decide +kernel
theorem d18_11 : decode jdk_92_method_3_code 11 = .ok (.aload_n 0, 1) := by decide +kernel
theorem d18_12 : decode jdk_92_method_3_code 12 = .ok (.getfield 11, 3) := by decide +kernel
theorem d18_15 : decode jdk_92_method_3_code 15 = .ok (.iload_n 1, 1) := by decide +kernel
theorem d18_16 : decode jdk_92_method_3_code 16 = .ok (.laload, 1) := by decide +kernel
theorem d18_17 : decode jdk_92_method_3_code 17 = .ok (.lconst 0, 1) := by decide +kernel
theorem d18_18 : decode jdk_92_method_3_code 18 = .ok (.lcmp, 1) := by decide +kernel
theorem d18_19 : decode jdk_92_method_3_code 19 = .ok (.ifCond .eq 6, 3) := by decide +kernel
theorem d18_25 : decode jdk_92_method_3_code 25 = .ok (.iinc 1 (-1), 3) := by decide +kernel
theorem d18_28 : decode jdk_92_method_3_code 28 = .ok (.goto (-21), 3) := by decide +kernel
theorem d18_31 : decode jdk_92_method_3_code 31 = .ok (.aload_n 0, 1) := by decide +kernel
theorem d18_32 : decode jdk_92_method_3_code 32 = .ok (.iload_n 1, 1) := by decide +kernel
theorem d18_33 : decode jdk_92_method_3_code 33 = .ok (.iconst 1, 1) := by decide +kernel
theorem d18_34 : decode jdk_92_method_3_code 34 = .ok (.iadd, 1) := by decide +kernel
theorem d18_35 : decode jdk_92_method_3_code 35 = .ok (.putfield 7, 3) := by decide +kernel
theorem d18_38 : decode jdk_92_method_3_code 38 = .ok (.return_, 1) := by decide +kernel
theorem d18_22 : decode jdk_92_method_3_code 22 = .ok (.goto 9, 3) := by decide +kernel
theorem ef_rm18 (m : MethodId) (x0 : Addr) : entryFrame m #[(.ref x0)] 2 = mkF m 0 #[.val (.ref x0), .unset] [] := by first | (simp [entryFrame, mkF, argsToLocals, Value.category]; done) | rfl
def Q18 (Z : State) (a1 : Addr) (t : Addr) (kc : ClassId) (w : Int64) (h0 : Heap) (n0 : Nat) (v : Option Value) (h : Heap) (L : List Loc) : Prop := v = none ∧ Fr n0 L ∧ Keep h0 h [a1] ∧ own_BS Z h a1 t kc (own_ru w) w
set_option maxHeartbeats 40000000 in
theorem rm18 (l : Launch) (Z : State) (a0 : Array Value) (hw : ∀ d ∈ tables_1, d.before a0 Z = true) (ws : List Jvm.Cond) (a1 : Addr) (t : Addr) (kc : ClassId) (w : Int64) (h0 : Heap) (n0 : Nat) (Z0 : n0 ≤ h0.size) (gn_a1 : n0 ≤ a1) (gn_t : n0 ≤ t) (ne1 : a1 ≠ t) (hB : own_BS Z h0 a1 t kc 1 w) (St : Sta Z h0 "java/util/BitSet" "$assertionsDisabled" "Z" (.int 1)) :
    MetFree l (⟨"java/util/BitSet", "recalculateWordsInUse", "()V"⟩ : MethodName) (head1 (Jvm.Cond.code (⟨"java/util/BitSet", "recalculateWordsInUse", "()V"⟩ : MethodName) jdk_92_method_3_code 2 none :: ws) ({ frames := 0, cells := 0, slots := 0, locals := 0 } : Room)) (fun a U => a = #[(.ref a1)] ∧ Z.Warmed39 U.vm ∧ U.heap = h0) (fun _ _ _ _ _ => True) (fun _ U o U' => ∃ v L, o = .returned v ∧ Q18 Z a1 t kc w h0 n0 v U'.heap L ∧ FrameEnd U o U' L ({ frames := 0, cells := 0, slots := 0, locals := 0 } : Room).cells ({ frames := 0, cells := 0, slots := 0, locals := 0 } : Room).slots) := by
  refine MetFree.of_bodySF (plainFor_of_name pn_0) hisR ?_
  intro p e s m args below meth c s₁ Bd hml0 hP hK
  obtain ⟨rfl, hZ, hh⟩ := hP
  have hx := Bd.exec
  have hby := Bd.bytes
  have hml : c.maxLocals = 2 := hml0
  have hown : s.vm.findClass "java/util/BitSet" = some m.cls := findClass_of_methodNamed Bd.named
  have hnm := (name_of_methodNamed Bd.named Bd.method).1
  have X0 : Stand p l e ({ frames := 0, cells := 0, slots := 0, locals := 0 } : Room) s m #[(.ref a1)] below meth c s₁ [] 0 0 := Stand.of_body Bd
  have e0 : s₁.heap = h0 := by rw [← hh, Bd.state]; rfl
  have N0 := Fr.nil n0
  have pre0 : ∀ tgt, Steps p.tables e below (s₁.setTop (mkF m 0 #[.val (.ref a1), .unset] [])) tgt → Steps p.tables e below (s₁.setTop (entryFrame m #[(.ref a1)] 2)) tgt := fun tgt k => castTop (ef_rm18 m a1) k
  obtain ⟨B0, B1, B2, B3⟩ := hB
  obtain ⟨T1, X1, e1, st1⟩ := getF X0 hx hZ hown (host := "") (Or.inl (hw _ (List.mem_of_getElem? (i := 16) rfl))) Via.refl e0 B1 (g := (mkF m 1 #[.val (.ref a1), .unset] [(.ref a1)])) rfl rfl (hb hby d18_1)
  have pre2 : ∀ tgt, Steps p.tables e below (T1.setTop (mkF m 6 #[.val (.ref a1), .unset] [(.int ((1 : Int32) - (1 : Int32)))])) tgt → Steps p.tables e below (s₁.setTop (entryFrame m #[(.ref a1)] 2)) tgt := fun tgt kt => pre0 _ (by
    show Steps p.tables e below (s₁.setTop (mkF m 0 #[.val (.ref a1), .unset] [])) _
    refine XS.aloadN X0.here hx rfl (hb hby d18_0) rfl rfl ?_
    show Steps p.tables e below (s₁.setTop (mkF m 1 #[.val (.ref a1), .unset] [(.ref a1)])) _
    refine st1 _ ?_
    show Steps p.tables e below (T1.setTop (mkF m 4 #[.val (.ref a1), .unset] [(.int (1 : Int32))])) _
    refine XS.iconst X1.here hx rfl (hb hby d18_4) ?_
    show Steps p.tables e below (T1.setTop (mkF m 5 #[.val (.ref a1), .unset] [(.int (1 : Int32)), (.int (1 : Int32))])) _
    refine XS.isub X1.here hx rfl (hb hby d18_5) rfl ?_
    exact kt)
  have rw3 : ((1 : Int32) - (1 : Int32)) = (0 : Int32) := rfl
  rw [rw3] at pre2
  obtain ⟨T4, X4, e4, st4⟩ := getF X1 hx hZ hown (host := "") (Or.inl (hw _ (List.mem_of_getElem? (i := 29) rfl))) Via.refl e1 B2 (g := (mkF m 12 #[.val (.ref a1), .val (.int (0 : Int32))] [(.ref a1)])) rfl rfl (hb hby d18_12)
  obtain ⟨cl5, Ar5, -, S5, -, H5, -⟩ := id B3
  have hi5 : ¬ ((0 : Int32) < 0 ∨ cl5.slots.size ≤ (0 : Int32).toNatClampNeg) := inb_of S5 ⟨by decide, by decide⟩
  have ha5 : cl5.slots[(0 : Int32).toNatClampNeg]? = some (.long w) := H5 0 (by rw [S5]; decide)
  have pre6 : ∀ tgt, Steps p.tables e below (T4.setTop (mkF m 19 #[.val (.ref a1), .val (.int (0 : Int32))] [(.int (lcmpW w (0 : Int64)))])) tgt → Steps p.tables e below (s₁.setTop (entryFrame m #[(.ref a1)] 2)) tgt := fun tgt kt => pre2 _ (by
    show Steps p.tables e below (T1.setTop (mkF m 6 #[.val (.ref a1), .unset] [(.int (0 : Int32))])) _
    refine XS.istoreN X1.here hx rfl (hb hby d18_6) rfl (l' := #[.val (.ref a1), .val (.int (0 : Int32))]) rfl ?_
    show Steps p.tables e below (T1.setTop (mkF m 7 #[.val (.ref a1), .val (.int (0 : Int32))] [])) _
    refine XS.iloadN X1.here hx rfl (hb hby d18_7) rfl ?_
    show Steps p.tables e below (T1.setTop (mkF m 8 #[.val (.ref a1), .val (.int (0 : Int32))] [(.int (0 : Int32))])) _
    refine XS.ifNo X1.here hx rfl (hb hby d18_8) rfl ((if0 _ _).trans (flt (by decide : ¬ ((0 : Int32) < (0 : Int32)))).1) ?_
    show Steps p.tables e below (T1.setTop (mkF m 11 #[.val (.ref a1), .val (.int (0 : Int32))] [])) _
    refine XS.aloadN X1.here hx rfl (hb hby d18_11) rfl rfl ?_
    show Steps p.tables e below (T1.setTop (mkF m 12 #[.val (.ref a1), .val (.int (0 : Int32))] [(.ref a1)])) _
    refine st4 _ ?_
    show Steps p.tables e below (T4.setTop (mkF m 15 #[.val (.ref a1), .val (.int (0 : Int32))] [(.ref t)])) _
    refine XS.iloadN X4.here hx rfl (hb hby d18_15) rfl ?_
    show Steps p.tables e below (T4.setTop (mkF m 16 #[.val (.ref a1), .val (.int (0 : Int32))] [(.int (0 : Int32)), (.ref t)])) _
    refine X4.laload hx (j := (0 : Int32)) (v := (.long w)) (by rw [e4]; exact Ar5.1) (State.isArrayOf_alike hZ.alike Ar5.2.1) Ar5.2.2 hi5 ha5 (g := (mkF m 16 #[.val (.ref a1), .val (.int (0 : Int32))] [(.int (0 : Int32)), (.ref t)])) rfl rfl (hb hby d18_16) _ ?_
    show Steps p.tables e below (T4.setTop (mkF m 17 #[.val (.ref a1), .val (.int (0 : Int32))] [(.long w)])) _
    refine XS.lconst X4.here hx rfl (hb hby d18_17) ?_
    show Steps p.tables e below (T4.setTop (mkF m 18 #[.val (.ref a1), .val (.int (0 : Int32))] [(.long (0 : Int64)), (.long w)])) _
    refine XS.lcmp X4.here hx rfl (hb hby d18_18) rfl ?_
    exact kt)
  by_cases hA : (lcmpW w (0 : Int64)) = (0 : Int32)
  · have pre7 : ∀ tgt, Steps p.tables e below (T4.setTop (mkF m 7 #[.val (.ref a1), .val (.int ((0 : Int32) + (-1 : Int32)))] [])) tgt → Steps p.tables e below (s₁.setTop (entryFrame m #[(.ref a1)] 2)) tgt := fun tgt kt => pre6 _ (by
      show Steps p.tables e below (T4.setTop (mkF m 19 #[.val (.ref a1), .val (.int (0 : Int32))] [(.int (lcmpW w (0 : Int64)))])) _
      refine XS.ifYes X4.here hx rfl (pc0 := 19) (pc' := 25) rfl (hb hby d18_19) rfl ((if0 _ _).trans (teq hA).1) (by decide) (by decide) ?_
      show Steps p.tables e below (T4.setTop (mkF m 25 #[.val (.ref a1), .val (.int (0 : Int32))] [])) _
      refine XS.iinc X4.here hx rfl (hb hby d18_25) rfl (l' := #[.val (.ref a1), .val (.int ((0 : Int32) + (-1 : Int32)))]) rfl ?_
      show Steps p.tables e below (T4.setTop (mkF m 28 #[.val (.ref a1), .val (.int ((0 : Int32) + (-1 : Int32)))] [])) _
      refine XS.goto X4.here hx rfl (pc0 := 28) (pc' := 7) rfl (hb hby d18_28) (by decide) (by decide) ?_
      exact kt)
    have rw8 : ((0 : Int32) + (-1 : Int32)) = (-1 : Int32) := rfl
    rw [rw8] at pre7
    have pre9 : ∀ tgt, Steps p.tables e below (T4.setTop (mkF m 35 #[.val (.ref a1), .val (.int (-1 : Int32))] [(.int ((-1 : Int32) + (1 : Int32))), (.ref a1)])) tgt → Steps p.tables e below (s₁.setTop (entryFrame m #[(.ref a1)] 2)) tgt := fun tgt kt => pre7 _ (by
      show Steps p.tables e below (T4.setTop (mkF m 7 #[.val (.ref a1), .val (.int (-1 : Int32))] [])) _
      refine XS.iloadN X4.here hx rfl (hb hby d18_7) rfl ?_
      show Steps p.tables e below (T4.setTop (mkF m 8 #[.val (.ref a1), .val (.int (-1 : Int32))] [(.int (-1 : Int32))])) _
      refine XS.ifYes X4.here hx rfl (pc0 := 8) (pc' := 31) rfl (hb hby d18_8) rfl ((if0 _ _).trans (tlt (by decide : (-1 : Int32) < (0 : Int32))).1) (by decide) (by decide) ?_
      show Steps p.tables e below (T4.setTop (mkF m 31 #[.val (.ref a1), .val (.int (-1 : Int32))] [])) _
      refine XS.aloadN X4.here hx rfl (hb hby d18_31) rfl rfl ?_
      show Steps p.tables e below (T4.setTop (mkF m 32 #[.val (.ref a1), .val (.int (-1 : Int32))] [(.ref a1)])) _
      refine XS.iloadN X4.here hx rfl (hb hby d18_32) rfl ?_
      show Steps p.tables e below (T4.setTop (mkF m 33 #[.val (.ref a1), .val (.int (-1 : Int32))] [(.int (-1 : Int32)), (.ref a1)])) _
      refine XS.iconst X4.here hx rfl (hb hby d18_33) ?_
      show Steps p.tables e below (T4.setTop (mkF m 34 #[.val (.ref a1), .val (.int (-1 : Int32))] [(.int (1 : Int32)), (.int (-1 : Int32)), (.ref a1)])) _
      refine XS.iadd X4.here hx rfl (hb hby d18_34) rfl ?_
      exact kt)
    have rw10 : ((-1 : Int32) + (1 : Int32)) = (0 : Int32) := rfl
    rw [rw10] at pre9
    obtain ⟨T11, h11, X11, e11, W11, st11⟩ := putF X4 hx hZ hown (host := "") (Or.inl (hw _ (List.mem_of_getElem? (i := 16) rfl))) Via.refl e4 B1 B0 (Or.inl (hw _ (List.mem_of_getElem? (i := 17) rfl))) (hw _ (List.mem_of_getElem? (i := 10) rfl)) (ty := .int) (by decide) rfl rfl (g := (mkF m 35 #[.val (.ref a1), .val (.int (-1 : Int32))] [(.int (0 : Int32)), (.ref a1)])) rfl rfl (hb hby d18_35)
    have f12 := B1.same W11
    have f13 := B0.wr W11
    have f14 := B2.other W11 (Or.inr (slot_ne (Or.inl (hw _ (List.mem_of_getElem? (i := 30) rfl))) (Or.inl (hw _ (List.mem_of_getElem? (i := 17) rfl))) (by decide) (t := (.array .long)) (t' := .int) (by decide) (by decide)))
    have f15 := B3.other W11 (Ne.symm ne1)
    have f16 := St.wr W11
    have zz17 : n0 ≤ h11.size := Nat.le_trans Z0 (Keep.of_wr W11).1
    have N18 := Fr.snoc X11 N0 gn_a1
    have K19 : Keep h0 h11 [a1] := (Keep.refl h0 [a1]).wr W11 (Or.inl (List.mem_of_getElem? (i := 0) rfl))
    obtain ⟨fs, hr, hrun, hended, hW, hsame⟩ := X11.leave (v := none) (fun _ => rfl)
    refine ⟨_, _, pre9 _ ?_, hrun, hended, _, _, rfl, ?_, ⟨_, rfl⟩, hW, hsame.mono (by decide) (by decide)⟩
    · show Steps p.tables e below (T4.setTop (mkF m 35 #[.val (.ref a1), .val (.int (-1 : Int32))] [(.int (0 : Int32)), (.ref a1)])) _
      refine st11 _ ?_
      show Steps p.tables e below (T11.setTop (mkF m 38 #[.val (.ref a1), .val (.int (-1 : Int32))] [])) _
      exact X11.returnOut hx Bd.returns (hb hby d18_38) hr
    · show Q18 Z a1 t kc w h0 n0 _ T11.heap _
      rw [e11]
      unfold Q18
      rw [own_ru, if_pos hA]
      exact ⟨rfl, N18, K19, ⟨f13, f12, f14, f15⟩⟩
  · have pre20 : ∀ tgt, Steps p.tables e below (T4.setTop (mkF m 35 #[.val (.ref a1), .val (.int (0 : Int32))] [(.int ((0 : Int32) + (1 : Int32))), (.ref a1)])) tgt → Steps p.tables e below (s₁.setTop (entryFrame m #[(.ref a1)] 2)) tgt := fun tgt kt => pre6 _ (by
      show Steps p.tables e below (T4.setTop (mkF m 19 #[.val (.ref a1), .val (.int (0 : Int32))] [(.int (lcmpW w (0 : Int64)))])) _
      refine XS.ifNo X4.here hx rfl (hb hby d18_19) rfl ((if0 _ _).trans (feq hA).1) ?_
      show Steps p.tables e below (T4.setTop (mkF m 22 #[.val (.ref a1), .val (.int (0 : Int32))] [])) _
      refine XS.goto X4.here hx rfl (pc0 := 22) (pc' := 31) rfl (hb hby d18_22) (by decide) (by decide) ?_
      show Steps p.tables e below (T4.setTop (mkF m 31 #[.val (.ref a1), .val (.int (0 : Int32))] [])) _
      refine XS.aloadN X4.here hx rfl (hb hby d18_31) rfl rfl ?_
      show Steps p.tables e below (T4.setTop (mkF m 32 #[.val (.ref a1), .val (.int (0 : Int32))] [(.ref a1)])) _
      refine XS.iloadN X4.here hx rfl (hb hby d18_32) rfl ?_
      show Steps p.tables e below (T4.setTop (mkF m 33 #[.val (.ref a1), .val (.int (0 : Int32))] [(.int (0 : Int32)), (.ref a1)])) _
      refine XS.iconst X4.here hx rfl (hb hby d18_33) ?_
      show Steps p.tables e below (T4.setTop (mkF m 34 #[.val (.ref a1), .val (.int (0 : Int32))] [(.int (1 : Int32)), (.int (0 : Int32)), (.ref a1)])) _
      refine XS.iadd X4.here hx rfl (hb hby d18_34) rfl ?_
      exact kt)
    have rw21 : ((0 : Int32) + (1 : Int32)) = (1 : Int32) := rfl
    rw [rw21] at pre20
    obtain ⟨T22, h22, X22, e22, W22, st22⟩ := putF X4 hx hZ hown (host := "") (Or.inl (hw _ (List.mem_of_getElem? (i := 16) rfl))) Via.refl e4 B1 B0 (Or.inl (hw _ (List.mem_of_getElem? (i := 17) rfl))) (hw _ (List.mem_of_getElem? (i := 10) rfl)) (ty := .int) (by decide) rfl rfl (g := (mkF m 35 #[.val (.ref a1), .val (.int (0 : Int32))] [(.int (1 : Int32)), (.ref a1)])) rfl rfl (hb hby d18_35)
    have f23 := B1.same W22
    have f24 := B0.wr W22
    have f25 := B2.other W22 (Or.inr (slot_ne (Or.inl (hw _ (List.mem_of_getElem? (i := 30) rfl))) (Or.inl (hw _ (List.mem_of_getElem? (i := 17) rfl))) (by decide) (t := (.array .long)) (t' := .int) (by decide) (by decide)))
    have f26 := B3.other W22 (Ne.symm ne1)
    have f27 := St.wr W22
    have zz28 : n0 ≤ h22.size := Nat.le_trans Z0 (Keep.of_wr W22).1
    have N29 := Fr.snoc X22 N0 gn_a1
    have K30 : Keep h0 h22 [a1] := (Keep.refl h0 [a1]).wr W22 (Or.inl (List.mem_of_getElem? (i := 0) rfl))
    obtain ⟨fs, hr, hrun, hended, hW, hsame⟩ := X22.leave (v := none) (fun _ => rfl)
    refine ⟨_, _, pre20 _ ?_, hrun, hended, _, _, rfl, ?_, ⟨_, rfl⟩, hW, hsame.mono (by decide) (by decide)⟩
    · show Steps p.tables e below (T4.setTop (mkF m 35 #[.val (.ref a1), .val (.int (0 : Int32))] [(.int (1 : Int32)), (.ref a1)])) _
      refine st22 _ ?_
      show Steps p.tables e below (T22.setTop (mkF m 38 #[.val (.ref a1), .val (.int (0 : Int32))] [])) _
      exact X22.returnOut hx Bd.returns (hb hby d18_38) hr
    · show Q18 Z a1 t kc w h0 n0 _ T22.heap _
      rw [e22]
      unfold Q18
      rw [own_ru, if_neg hA]
      exact ⟨rfl, N29, K30, ⟨f24, f23, f25, f26⟩⟩
theorem d17_0 : decode jdk_92_method_23_code 0 = .ok (.iload_n 1, 1) := by decide +kernel
theorem d17_1 : decode jdk_92_method_23_code 1 = .ok (.ifCond .ge 30, 3) := by decide +kernel
theorem d17_31 : decode jdk_92_method_23_code 31 = .ok (.iload_n 1, 1) := by decide +kernel
theorem d17_32 : decode jdk_92_method_23_code 32 = .ok (.invokestatic 52, 3) := by decide +kernel
theorem d17_35 : decode jdk_92_method_23_code 35 = .ok (.istore_n 2, 1) := by decide +kernel
theorem d17_36 : decode jdk_92_method_23_code 36 = .ok (.iload_n 2, 1) := by decide +kernel
theorem d17_37 : decode jdk_92_method_23_code 37 = .ok (.aload_n 0, 1) := by decide +kernel
theorem d17_38 : decode jdk_92_method_23_code 38 = .ok (.getfield 7, 3) := by decide +kernel
theorem d17_41 : decode jdk_92_method_23_code 41 = .ok (.if_icmp .lt 4, 3) := by decide +kernel
theorem d17_45 : decode jdk_92_method_23_code 45 = .ok (.aload_n 0, 1) := by decide +kernel
theorem d17_46 : decode jdk_92_method_23_code 46 = .ok (.getfield 11, 3) := by decide +kernel
theorem d17_49 : decode jdk_92_method_23_code 49 = .ok (.iload_n 2, 1) := by decide +kernel
theorem d17_50 : decode jdk_92_method_23_code 50 = .ok (.dup2, 1) := by decide +kernel
theorem d17_51 : decode jdk_92_method_23_code 51 = .ok (.laload, 1) := by decide +kernel
theorem d17_52 : decode jdk_92_method_23_code 52 = .ok (.lconst 1, 1) := by decide +kernel
theorem d17_53 : decode jdk_92_method_23_code 53 = .ok (.iload_n 1, 1) := by decide +kernel
theorem d17_54 : decode jdk_92_method_23_code 54 = .ok (.lshl, 1) := by decide +kernel
theorem d17_55 : decode jdk_92_method_23_code 55 = .ok (.ldc2_w 165, 3) := by decide +kernel
theorem d17_58 : decode jdk_92_method_23_code 58 = .ok (.lxor, 1) := by decide +kernel
theorem d17_59 : decode jdk_92_method_23_code 59 = .ok (.land, 1) := by decide +kernel
theorem d17_60 : decode jdk_92_method_23_code 60 = .ok (.lastore, 1) := by decide +kernel
theorem d17_61 : decode jdk_92_method_23_code 61 = .ok (.aload_n 0, 1) := by decide +kernel
theorem d17_62 : decode jdk_92_method_23_code 62 = .ok (.invokevirtual 158, 3) := by decide +kernel
theorem d17_65 : decode jdk_92_method_23_code 65 = .ok (.aload_n 0, 1) := by decide +kernel
theorem d17_66 : decode jdk_92_method_23_code 66 = .ok (.invokevirtual 56, 3) := by decide +kernel
theorem d17_69 : decode jdk_92_method_23_code 69 = .ok (.return_, 1) := by decide +kernel
theorem ef_rm17 (m : MethodId) (x0 : Addr) (x1 : Int32) : entryFrame m #[(.ref x0), (.int x1)] 3 = mkF m 0 #[.val (.ref x0), .val (.int x1), .unset] [] := by first | (simp [entryFrame, mkF, argsToLocals, Value.category]; done) | rfl
def Q17 (Z : State) (a1 : Addr) (p1 : Int32) (t : Addr) (kc : ClassId) (w : Int64) (h0 : Heap) (n0 : Nat) (v : Option Value) (h : Heap) (L : List Loc) : Prop := v = none ∧ Fr n0 L ∧ Keep h0 h [a1, t] ∧ own_BS Z h a1 t kc (own_ru (own_clr w p1)) (own_clr w p1)
set_option maxHeartbeats 40000000 in
theorem rm17 (l : Launch) (Z : State) (a0 : Array Value) (hw : ∀ d ∈ tables_1, d.before a0 Z = true) (ws : List Jvm.Cond) (a1 : Addr) (p1 : Int32) (t : Addr) (kc : ClassId) (w : Int64) (h0 : Heap) (n0 : Nat) (Z0 : n0 ≤ h0.size) (gn_a1 : n0 ≤ a1) (gn_t : n0 ≤ t) (ne1 : a1 ≠ t) (hB : own_BS Z h0 a1 t kc 1 w) (St : Sta Z h0 "java/util/BitSet" "$assertionsDisabled" "Z" (.int 1)) (hp : ¬ p1 < 0) (hwi : own_f5 p1 = 0) :
    MetFree l (⟨"java/util/BitSet", "clear", "(I)V"⟩ : MethodName) (head1 (Jvm.Cond.code (⟨"java/util/BitSet", "clear", "(I)V"⟩ : MethodName) jdk_92_method_23_code 3 none :: ws) ({ frames := 1, cells := 0, slots := 0, locals := 13 } : Room)) (fun a U => a = #[(.ref a1), (.int p1)] ∧ Z.Warmed39 U.vm ∧ U.heap = h0) (fun _ _ _ _ _ => True) (fun _ U o U' => ∃ v L, o = .returned v ∧ Q17 Z a1 p1 t kc w h0 n0 v U'.heap L ∧ FrameEnd U o U' L ({ frames := 1, cells := 0, slots := 0, locals := 13 } : Room).cells ({ frames := 1, cells := 0, slots := 0, locals := 13 } : Room).slots) := by
  refine MetFree.of_bodySF (plainFor_of_name pn_0) hisR ?_
  intro p e s m args below meth c s₁ Bd hml0 hP hK
  obtain ⟨rfl, hZ, hh⟩ := hP
  have hx := Bd.exec
  have hby := Bd.bytes
  have hml : c.maxLocals = 3 := hml0
  have hown : s.vm.findClass "java/util/BitSet" = some m.cls := findClass_of_methodNamed Bd.named
  have hnm := (name_of_methodNamed Bd.named Bd.method).1
  have X0 : Stand p l e ({ frames := 1, cells := 0, slots := 0, locals := 13 } : Room) s m #[(.ref a1), (.int p1)] below meth c s₁ [] 0 0 := Stand.of_body Bd
  have e0 : s₁.heap = h0 := by rw [← hh, Bd.state]; rfl
  have N0 := Fr.nil n0
  have pre0 : ∀ tgt, Steps p.tables e below (s₁.setTop (mkF m 0 #[.val (.ref a1), .val (.int p1), .unset] [])) tgt → Steps p.tables e below (s₁.setTop (entryFrame m #[(.ref a1), (.int p1)] 3)) tgt := fun tgt k => castTop (ef_rm17 m a1 p1) k
  obtain ⟨B0, B1, B2, B3⟩ := hB
  obtain ⟨_, _, ⟨T1, L1, k1, n1⟩, -, X1, ⟨Lc1, hQ1, l1, y1, z1⟩, st1⟩ := Jvm.LawKit.callS X0 hx (y := (⟨"java/util/BitSet", "wordIndex", "(I)I"⟩ : MethodName)) hown (mvT hZ (hw _ (List.mem_of_getElem? (i := 25) rfl))) (mvT hZ (hw _ (List.mem_of_getElem? (i := 26) rfl))) (mvT hZ (hw _ (List.mem_of_getElem? (i := 11) rfl))) (mvT hZ (hw _ (List.mem_of_getElem? (i := 27) rfl))) (by decide) (backOf (W := 0) (rm5 l Z a0 hw [] p1  h0 n0 Z0 ) hZ (hw _ (List.mem_of_getElem? (i := 27) rfl)) (hw _ (List.mem_of_getElem? (i := 11) rfl)) (by decide) (by decide)) (g := (mkF m 32 #[.val (.ref a1), .val (.int p1), .unset] [(.int p1)])) rfl (by rw [hml]; rfl) (argsL := [(.int p1)]) (rest := []) (lenOf pd_2 rfl) rfl (by show 2 * 0 + _ ≤ _; exact Nat.le_of_eq rfl) (hb hby d17_32) (fun _ _ => ⟨rfl, e0, (by decide : 0 + 0 ≤ _), (by decide : 0 + 0 ≤ _)⟩)
  dsimp only [Pt.U, Pt.locs, Pt.cells, Pt.slots] at X1 l1 y1 z1 st1 hQ1
  subst l1 y1 z1
  obtain ⟨rfl, Nq1, e1⟩ := hQ1
  have N2 := Fr.app N0 Nq1
  have pre3 : ∀ tgt, Steps p.tables e below (T1.setTop (mkF m 35 #[.val (.ref a1), .val (.int p1), .unset] [(.int (own_f5 p1))])) tgt → Steps p.tables e below (s₁.setTop (entryFrame m #[(.ref a1), (.int p1)] 3)) tgt := fun tgt kt => pre0 _ (by
    show Steps p.tables e below (s₁.setTop (mkF m 0 #[.val (.ref a1), .val (.int p1), .unset] [])) _
    refine XS.iloadN X0.here hx rfl (hb hby d17_0) rfl ?_
    show Steps p.tables e below (s₁.setTop (mkF m 1 #[.val (.ref a1), .val (.int p1), .unset] [(.int p1)])) _
    refine XS.ifYes X0.here hx rfl (pc0 := 1) (pc' := 31) rfl (hb hby d17_1) rfl ((if0 _ _).trans (flt hp).2.1) (by decide) (by decide) ?_
    show Steps p.tables e below (s₁.setTop (mkF m 31 #[.val (.ref a1), .val (.int p1), .unset] [])) _
    refine XS.iloadN X0.here hx rfl (hb hby d17_31) rfl ?_
    show Steps p.tables e below (s₁.setTop (mkF m 32 #[.val (.ref a1), .val (.int p1), .unset] [(.int p1)])) _
    refine st1 _ ?_
    exact kt)
  have rw4 : (own_f5 p1) = (0 : Int32) := hwi
  rw [rw4] at pre3
  obtain ⟨T5, X5, e5, st5⟩ := getF X1 hx hZ hown (host := "") (Or.inl (hw _ (List.mem_of_getElem? (i := 16) rfl))) Via.refl e1 B1 (g := (mkF m 38 #[.val (.ref a1), .val (.int p1), .val (.int (0 : Int32))] [(.ref a1), (.int (0 : Int32))])) rfl rfl (hb hby d17_38)
  obtain ⟨T6, X6, e6, st6⟩ := getF X5 hx hZ hown (host := "") (Or.inl (hw _ (List.mem_of_getElem? (i := 29) rfl))) Via.refl e5 B2 (g := (mkF m 46 #[.val (.ref a1), .val (.int p1), .val (.int (0 : Int32))] [(.ref a1)])) rfl rfl (hb hby d17_46)
  obtain ⟨cl7, Ar7, -, S7, -, H7, -⟩ := id B3
  have hi7 : ¬ ((0 : Int32) < 0 ∨ cl7.slots.size ≤ (0 : Int32).toNatClampNeg) := inb_of S7 ⟨by decide, by decide⟩
  have ha7 : cl7.slots[(0 : Int32).toNatClampNeg]? = some (.long w) := H7 0 (by rw [S7]; decide)
  obtain ⟨cl8, Ar8, q8, S8, N8, H8, G8⟩ := id B3
  have hin8 : ¬ ((0 : Int32) < 0 ∨ cl8.slots.size ≤ ((0 : Int32)).toNatClampNeg) := inb_of S8 ⟨by decide, by decide⟩
  obtain ⟨T9, h9, X9, e9, W9, st9⟩ := stJ X6 hx hZ e6 Ar8 (j := (0 : Int32)) hin8 (g := (mkF m 60 #[.val (.ref a1), .val (.int p1), .val (.int (0 : Int32))] [(.long (w &&& (((1 : Int64) <<< (p1 &&& 0x3f).toInt64) ^^^ (-1 : Int64)))), (.int (0 : Int32)), (.ref t)])) rfl rfl (hb hby d17_60)
  have f10 : Arv Z h9 t kc .long (1 : Int32) [(.long (w &&& (((1 : Int64) <<< (p1 &&& 0x3f).toInt64) ^^^ (-1 : Int64))))] (.long (0 : Int64)) := Arv.set Ar8 q8 S8 N8 H8 G8 rfl W9 0 rfl (Nat.le_of_ble_eq_true rfl)
  have f11 := B0.wr W9
  have f12 := B1.other W9 (Or.inl ne1)
  have f13 := B2.other W9 (Or.inl ne1)
  have f14 := St.wr W9
  have zz15 : n0 ≤ h9.size := Nat.le_trans Z0 (Keep.of_wr W9).1
  have N16 := Fr.snoc X9 N2 gn_t
  have K17 : Keep h0 h9 [a1, t] := (Keep.refl h0 [a1, t]).wr W9 (Or.inl (List.mem_of_getElem? (i := 1) rfl))
  obtain ⟨cq18, q18, q18'⟩ := f11.cell
  obtain ⟨_, _, ⟨T18, L18, k18, n18⟩, -, X18, ⟨Lc18, hQ18, l18, y18, z18⟩, st18⟩ := X9.privateBack hx (y := (⟨"java/util/BitSet", "recalculateWordsInUse", "()V"⟩ : MethodName)) hown (mvT hZ (hw _ (List.mem_of_getElem? (i := 100) rfl))) (mvT hZ (hw _ (List.mem_of_getElem? (i := 101) rfl))) (mvT hZ (hw _ (List.mem_of_getElem? (i := 103) rfl))) (Cond.privateMethod_at (mvP hZ (hw _ (List.mem_of_getElem? (i := 102) rfl)) (args := #[]))) (mvT hZ (hw _ (List.mem_of_getElem? (i := 104) rfl))) (by decide) (backOf (W := 0) (rm18 l Z a0 hw [] a1 t kc (w &&& (((1 : Int64) <<< (p1 &&& 0x3f).toInt64) ^^^ (-1 : Int64))) h9 n0 zz15 gn_a1 gn_t ne1 ⟨f11, f12, f13, f10⟩ f14) hZ (hw _ (List.mem_of_getElem? (i := 104) rfl)) (hw _ (List.mem_of_getElem? (i := 11) rfl)) (by decide) (by decide)) (g := (mkF m 62 #[.val (.ref a1), .val (.int p1), .val (.int (0 : Int32))] [(.ref a1)])) rfl (by rw [hml]; rfl) (Steps.refl _) (a := a1) (by rw [e9]; exact q18) q18' (argsL := []) (rest := []) (lenOf pd_1 rfl) rfl (by show 2 * 0 + _ ≤ _; exact Nat.le_of_eq rfl) (hb hby d17_62) (fun _ _ => ⟨rfl, e9, (by decide : 0 + 0 ≤ _), (by decide : 0 + 0 ≤ _)⟩)
  dsimp only [Pt.U, Pt.locs, Pt.cells, Pt.slots] at X18 l18 y18 z18 st18 hQ18
  subst l18 y18 z18
  obtain ⟨rfl, Nq18, K18, B0_18, B1_18, B2_18, B3_18⟩ := hQ18
  have ns19 : ∀ x ∈ [a1], ∃ c : Cell, h9[x]? = some c ∧ c.vm.isStatics = false := (own_allS (own_ns_e f11) own_all0)
  have f20 := f11.keep K18
  have f21 := f10.keep K18 (own_nmS (Ne.symm ne1) own_nm0)
  have f22 := own_sta_keep f14 K18 ns19
  have zz23 : n0 ≤ T18.heap.size := Nat.le_trans zz15 K18.1
  have K24 : Keep h0 T18.heap [a1, t] := Keep.trans K17 K18 (own_allS (Or.inl (List.mem_of_getElem? (i := 0) rfl)) own_all0)
  have N25 := Fr.app N16 Nq18
  obtain ⟨cq26, q26, q26'⟩ := B0_18.cell
  obtain ⟨_, _, ⟨T26, L26, k26, n26⟩, -, X26, ⟨Lc26, hQ26, l26, y26, z26⟩, st26⟩ := X18.privateBack hx (y := (⟨"java/util/BitSet", "checkInvariants", "()V"⟩ : MethodName)) hown (mvT hZ (hw _ (List.mem_of_getElem? (i := 51) rfl))) (mvT hZ (hw _ (List.mem_of_getElem? (i := 52) rfl))) (mvT hZ (hw _ (List.mem_of_getElem? (i := 54) rfl))) (Cond.privateMethod_at (mvP hZ (hw _ (List.mem_of_getElem? (i := 53) rfl)) (args := #[]))) (mvT hZ (hw _ (List.mem_of_getElem? (i := 55) rfl))) (by decide) (backOf (W := 0) (rm9 l Z a0 hw [] a1 T18.heap n0 zz23 f22) hZ (hw _ (List.mem_of_getElem? (i := 55) rfl)) (hw _ (List.mem_of_getElem? (i := 11) rfl)) (by decide) (by decide)) (g := (mkF m 66 #[.val (.ref a1), .val (.int p1), .val (.int (0 : Int32))] [(.ref a1)])) rfl (by rw [hml]; rfl) (Steps.refl _) (a := a1) q26 q26' (argsL := []) (rest := []) (lenOf pd_1 rfl) rfl (by show 2 * 0 + _ ≤ _; exact Nat.le_of_eq rfl) (hb hby d17_66) (fun _ _ => ⟨rfl, rfl, (by decide : 0 + 0 ≤ _), (by decide : 0 + 0 ≤ _)⟩)
  dsimp only [Pt.U, Pt.locs, Pt.cells, Pt.slots] at X26 l26 y26 z26 st26 hQ26
  subst l26 y26 z26
  obtain ⟨rfl, Nq26, e26⟩ := hQ26
  have N27 := Fr.app N25 Nq26
  obtain ⟨fs, hr, hrun, hended, hW, hsame⟩ := X26.leave (v := none) (fun _ => rfl)
  refine ⟨_, _, pre3 _ ?_, hrun, hended, _, _, rfl, ?_, ⟨_, rfl⟩, hW, hsame.mono (by decide) (by decide)⟩
  · show Steps p.tables e below (T1.setTop (mkF m 35 #[.val (.ref a1), .val (.int p1), .unset] [(.int (0 : Int32))])) _
    refine XS.istoreN X1.here hx rfl (hb hby d17_35) rfl (l' := #[.val (.ref a1), .val (.int p1), .val (.int (0 : Int32))]) rfl ?_
    show Steps p.tables e below (T1.setTop (mkF m 36 #[.val (.ref a1), .val (.int p1), .val (.int (0 : Int32))] [])) _
    refine XS.iloadN X1.here hx rfl (hb hby d17_36) rfl ?_
    show Steps p.tables e below (T1.setTop (mkF m 37 #[.val (.ref a1), .val (.int p1), .val (.int (0 : Int32))] [(.int (0 : Int32))])) _
    refine XS.aloadN X1.here hx rfl (hb hby d17_37) rfl rfl ?_
    show Steps p.tables e below (T1.setTop (mkF m 38 #[.val (.ref a1), .val (.int p1), .val (.int (0 : Int32))] [(.ref a1), (.int (0 : Int32))])) _
    refine st5 _ ?_
    show Steps p.tables e below (T5.setTop (mkF m 41 #[.val (.ref a1), .val (.int p1), .val (.int (0 : Int32))] [(.int (1 : Int32)), (.int (0 : Int32))])) _
    refine XS.icmpYes X5.here hx rfl (pc0 := 41) (pc' := 45) rfl (hb hby d17_41) rfl (tlt (by decide : (0 : Int32) < (1 : Int32))).1 (by decide) (by decide) ?_
    show Steps p.tables e below (T5.setTop (mkF m 45 #[.val (.ref a1), .val (.int p1), .val (.int (0 : Int32))] [])) _
    refine XS.aloadN X5.here hx rfl (hb hby d17_45) rfl rfl ?_
    show Steps p.tables e below (T5.setTop (mkF m 46 #[.val (.ref a1), .val (.int p1), .val (.int (0 : Int32))] [(.ref a1)])) _
    refine st6 _ ?_
    show Steps p.tables e below (T6.setTop (mkF m 49 #[.val (.ref a1), .val (.int p1), .val (.int (0 : Int32))] [(.ref t)])) _
    refine XS.iloadN X6.here hx rfl (hb hby d17_49) rfl ?_
    show Steps p.tables e below (T6.setTop (mkF m 50 #[.val (.ref a1), .val (.int p1), .val (.int (0 : Int32))] [(.int (0 : Int32)), (.ref t)])) _
    jvm_step X6.here [X6.here.top, hx, (hb hby d17_50), Value.category]
    show Steps p.tables e below (T6.setTop (mkF m 51 #[.val (.ref a1), .val (.int p1), .val (.int (0 : Int32))] [(.int (0 : Int32)), (.ref t), (.int (0 : Int32)), (.ref t)])) _
    refine X6.laload hx (j := (0 : Int32)) (v := (.long w)) (by rw [e6]; exact Ar7.1) (State.isArrayOf_alike hZ.alike Ar7.2.1) Ar7.2.2 hi7 ha7 (g := (mkF m 51 #[.val (.ref a1), .val (.int p1), .val (.int (0 : Int32))] [(.int (0 : Int32)), (.ref t), (.int (0 : Int32)), (.ref t)])) rfl rfl (hb hby d17_51) _ ?_
    show Steps p.tables e below (T6.setTop (mkF m 52 #[.val (.ref a1), .val (.int p1), .val (.int (0 : Int32))] [(.long w), (.int (0 : Int32)), (.ref t)])) _
    refine XS.lconst X6.here hx rfl (hb hby d17_52) ?_
    show Steps p.tables e below (T6.setTop (mkF m 53 #[.val (.ref a1), .val (.int p1), .val (.int (0 : Int32))] [(.long (1 : Int64)), (.long w), (.int (0 : Int32)), (.ref t)])) _
    refine XS.iloadN X6.here hx rfl (hb hby d17_53) rfl ?_
    show Steps p.tables e below (T6.setTop (mkF m 54 #[.val (.ref a1), .val (.int p1), .val (.int (0 : Int32))] [(.int p1), (.long (1 : Int64)), (.long w), (.int (0 : Int32)), (.ref t)])) _
    refine XS.lshl X6.here hx rfl (hb hby d17_54) rfl ?_
    show Steps p.tables e below (T6.setTop (mkF m 55 #[.val (.ref a1), .val (.int p1), .val (.int (0 : Int32))] [(.long ((1 : Int64) <<< (p1 &&& 0x3f).toInt64)), (.long w), (.int (0 : Int32)), (.ref t)])) _
    refine X6.ldc2Long hx hown (mvT hZ (hw _ (List.mem_of_getElem? (i := 85) rfl))) (g := (mkF m 55 #[.val (.ref a1), .val (.int p1), .val (.int (0 : Int32))] [(.long ((1 : Int64) <<< (p1 &&& 0x3f).toInt64)), (.long w), (.int (0 : Int32)), (.ref t)])) rfl (hb hby d17_55) _ ?_
    show Steps p.tables e below (T6.setTop (mkF m 58 #[.val (.ref a1), .val (.int p1), .val (.int (0 : Int32))] [(.long (-1 : Int64)), (.long ((1 : Int64) <<< (p1 &&& 0x3f).toInt64)), (.long w), (.int (0 : Int32)), (.ref t)])) _
    refine XS.lxor X6.here hx rfl (hb hby d17_58) rfl ?_
    show Steps p.tables e below (T6.setTop (mkF m 59 #[.val (.ref a1), .val (.int p1), .val (.int (0 : Int32))] [(.long (((1 : Int64) <<< (p1 &&& 0x3f).toInt64) ^^^ (-1 : Int64))), (.long w), (.int (0 : Int32)), (.ref t)])) _
    refine XS.land X6.here hx rfl (hb hby d17_59) rfl ?_
    show Steps p.tables e below (T6.setTop (mkF m 60 #[.val (.ref a1), .val (.int p1), .val (.int (0 : Int32))] [(.long (w &&& (((1 : Int64) <<< (p1 &&& 0x3f).toInt64) ^^^ (-1 : Int64)))), (.int (0 : Int32)), (.ref t)])) _
    refine st9 _ ?_
    show Steps p.tables e below (T9.setTop (mkF m 61 #[.val (.ref a1), .val (.int p1), .val (.int (0 : Int32))] [])) _
    refine XS.aloadN X9.here hx rfl (hb hby d17_61) rfl rfl ?_
    show Steps p.tables e below (T9.setTop (mkF m 62 #[.val (.ref a1), .val (.int p1), .val (.int (0 : Int32))] [(.ref a1)])) _
    refine st18.trans ?_
    show Steps p.tables e below (T18.setTop (mkF m 65 #[.val (.ref a1), .val (.int p1), .val (.int (0 : Int32))] [])) _
    refine XS.aloadN X18.here hx rfl (hb hby d17_65) rfl rfl ?_
    show Steps p.tables e below (T18.setTop (mkF m 66 #[.val (.ref a1), .val (.int p1), .val (.int (0 : Int32))] [(.ref a1)])) _
    refine st26.trans ?_
    show Steps p.tables e below (T26.setTop (mkF m 69 #[.val (.ref a1), .val (.int p1), .val (.int (0 : Int32))] [])) _
    exact X26.returnOut hx Bd.returns (hb hby d17_69) hr
  · show Q17 Z a1 p1 t kc w h0 n0 _ T26.heap _
    rw [e26]
    exact ⟨rfl, N27, K24, ⟨B0_18, B1_18, B2_18, B3_18⟩⟩
theorem d6_0 : decode prog_5_method_2_code 0 = .ok (.aload_n 0, 1) := by decide +kernel
theorem d6_1 : decode prog_5_method_2_code 1 = .ok (.getfield 16, 3) := by decide +kernel
theorem d6_4 : decode prog_5_method_2_code 4 = .ok (.ldc 20, 2) := by decide +kernel
theorem d6_6 : decode prog_5_method_2_code 6 = .ok (.if_icmp .ge 7, 3) := by decide +kernel
theorem d6_9 : decode prog_5_method_2_code 9 = .ok (.iconst 1, 1) := by decide +kernel
theorem d6_10 : decode prog_5_method_2_code 10 = .ok (.goto 4, 3) := by decide +kernel
theorem d6_14 : decode prog_5_method_2_code 14 = .ok (.ireturn, 1) := by decide +kernel
theorem pn_3 : plainName "com/example/oblivious/oblivious/broker/PacketIds" = true := by first | (simp [plainName, overriddenIn]; done) | decide +kernel
theorem ef_rm6 (m : MethodId) (x0 : Addr) : entryFrame m #[(.ref x0)] 1 = mkF m 0 #[.val (.ref x0)] [] := by first | (simp [entryFrame, mkF, argsToLocals, Value.category]; done) | rfl
def Q6 (Z : State) (a1 : Addr) (cn : Int32) (h0 : Heap) (n0 : Nat) (v : Option Value) (h : Heap) (L : List Loc) : Prop := v = some (.int (1 : Int32)) ∧ Fr n0 L ∧ h = h0
set_option maxHeartbeats 40000000 in
theorem rm6 (l : Launch) (Z : State) (a0 : Array Value) (hw : ∀ d ∈ tables_1, d.before a0 Z = true) (ws : List Jvm.Cond) (a1 : Addr) (cn : Int32) (h0 : Heap) (n0 : Nat) (Z0 : n0 ≤ h0.size) (F1 : Fld Z h0 a1 "com/example/oblivious/oblivious/broker/PacketIds" "count" "I" (.int cn)) (hc : cn < 65535) :
    MetFree l (⟨"com/example/oblivious/oblivious/broker/PacketIds", "hasFree", "()Z"⟩ : MethodName) (head1 (Jvm.Cond.code (⟨"com/example/oblivious/oblivious/broker/PacketIds", "hasFree", "()Z"⟩ : MethodName) prog_5_method_2_code 1 (some .boolean) :: ws) ({ frames := 0, cells := 0, slots := 0, locals := 0 } : Room)) (fun a U => a = #[(.ref a1)] ∧ Z.Warmed39 U.vm ∧ U.heap = h0) (fun _ _ _ _ _ => True) (fun _ U o U' => ∃ v L, o = .returned v ∧ Q6 Z a1 cn h0 n0 v U'.heap L ∧ FrameEnd U o U' L ({ frames := 0, cells := 0, slots := 0, locals := 0 } : Room).cells ({ frames := 0, cells := 0, slots := 0, locals := 0 } : Room).slots) := by
  refine MetFree.of_bodySF (plainFor_of_name pn_3) hisR ?_
  intro p e s m args below meth c s₁ Bd hml0 hP hK
  obtain ⟨rfl, hZ, hh⟩ := hP
  have hx := Bd.exec
  have hby := Bd.bytes
  have hml : c.maxLocals = 1 := hml0
  have hown : s.vm.findClass "com/example/oblivious/oblivious/broker/PacketIds" = some m.cls := findClass_of_methodNamed Bd.named
  have hnm := (name_of_methodNamed Bd.named Bd.method).1
  have X0 : Stand p l e ({ frames := 0, cells := 0, slots := 0, locals := 0 } : Room) s m #[(.ref a1)] below meth c s₁ [] 0 0 := Stand.of_body Bd
  have e0 : s₁.heap = h0 := by rw [← hh, Bd.state]; rfl
  have N0 := Fr.nil n0
  have pre0 : ∀ tgt, Steps p.tables e below (s₁.setTop (mkF m 0 #[.val (.ref a1)] [])) tgt → Steps p.tables e below (s₁.setTop (entryFrame m #[(.ref a1)] 1)) tgt := fun tgt k => castTop (ef_rm6 m a1) k
  obtain ⟨T1, X1, e1, st1⟩ := getF X0 hx hZ hown (host := "") (Or.inl (hw _ (List.mem_of_getElem? (i := 38) rfl))) Via.refl e0 F1 (g := (mkF m 1 #[.val (.ref a1)] [(.ref a1)])) rfl rfl (hb hby d6_1)
  obtain ⟨fs, hr, hrun, hended, hW, hsame⟩ := X1.leave (v := some (.int (1 : Int32))) (fun h => by rw [Bd.returns] at h; cases h)
  refine ⟨_, _, pre0 _ ?_, hrun, hended, _, _, rfl, ?_, ⟨_, rfl⟩, hW, hsame.mono (by decide) (by decide)⟩
  · show Steps p.tables e below (s₁.setTop (mkF m 0 #[.val (.ref a1)] [])) _
    refine XS.aloadN X0.here hx rfl (hb hby d6_0) rfl rfl ?_
    show Steps p.tables e below (s₁.setTop (mkF m 1 #[.val (.ref a1)] [(.ref a1)])) _
    refine st1 _ ?_
    show Steps p.tables e below (T1.setTop (mkF m 4 #[.val (.ref a1)] [(.int cn)])) _
    refine X1.ldcInt hx hown (mvT hZ (hw _ (List.mem_of_getElem? (i := 40) rfl))) (g := (mkF m 4 #[.val (.ref a1)] [(.int cn)])) rfl (hb hby d6_4) _ ?_
    show Steps p.tables e below (T1.setTop (mkF m 6 #[.val (.ref a1)] [(.int (65535 : Int32)), (.int cn)])) _
    refine XS.icmpNo X1.here hx rfl (hb hby d6_6) rfl (tlt hc).2.1 ?_
    show Steps p.tables e below (T1.setTop (mkF m 9 #[.val (.ref a1)] [])) _
    refine XS.iconst X1.here hx rfl (hb hby d6_9) ?_
    show Steps p.tables e below (T1.setTop (mkF m 10 #[.val (.ref a1)] [(.int (1 : Int32))])) _
    refine XS.goto X1.here hx rfl (pc0 := 10) (pc' := 14) rfl (hb hby d6_10) (by decide) (by decide) ?_
    show Steps p.tables e below (T1.setTop (mkF m 14 #[.val (.ref a1)] [(.int (1 : Int32))])) _
    exact retN X1 hx (t := .boolean) Bd.returns (by simp) (hb hby d6_14) hr
  · show Q6 Z a1 cn h0 n0 _ T1.heap _
    rw [e1]
    exact ⟨rfl, N0, rfl⟩
theorem d10_0 : decode prog_5_method_3_code 0 = .ok (.aload_n 0, 1) := by decide +kernel
theorem d10_1 : decode prog_5_method_3_code 1 = .ok (.invokevirtual 21, 3) := by decide +kernel
theorem pd_4 : parseMethodDescriptor "()Z" = some ⟨[], some .boolean⟩ := by decide +kernel
theorem d10_4 : decode prog_5_method_3_code 4 = .ok (.ifCond .ne 5, 3) := by decide +kernel
theorem d10_9 : decode prog_5_method_3_code 9 = .ok (.aload_n 0, 1) := by decide +kernel
theorem d10_10 : decode prog_5_method_3_code 10 = .ok (.getfield 10, 3) := by decide +kernel
theorem d10_13 : decode prog_5_method_3_code 13 = .ok (.aload_n 0, 1) := by decide +kernel
theorem d10_14 : decode prog_5_method_3_code 14 = .ok (.getfield 25, 3) := by decide +kernel
theorem d10_17 : decode prog_5_method_3_code 17 = .ok (.iconst 1, 1) := by decide +kernel
theorem d10_18 : decode prog_5_method_3_code 18 = .ok (.iadd, 1) := by decide +kernel
theorem d10_19 : decode prog_5_method_3_code 19 = .ok (.invokevirtual 28, 3) := by decide +kernel
theorem d10_22 : decode prog_5_method_3_code 22 = .ok (.istore_n 1, 1) := by decide +kernel
theorem d10_23 : decode prog_5_method_3_code 23 = .ok (.iload_n 1, 1) := by decide +kernel
theorem d10_24 : decode prog_5_method_3_code 24 = .ok (.ldc 20, 2) := by decide +kernel
theorem d10_26 : decode prog_5_method_3_code 26 = .ok (.if_icmp .le 12, 3) := by decide +kernel
theorem d10_38 : decode prog_5_method_3_code 38 = .ok (.aload_n 0, 1) := by decide +kernel
theorem d10_39 : decode prog_5_method_3_code 39 = .ok (.getfield 10, 3) := by decide +kernel
theorem d10_42 : decode prog_5_method_3_code 42 = .ok (.iload_n 1, 1) := by decide +kernel
theorem d10_43 : decode prog_5_method_3_code 43 = .ok (.invokevirtual 32, 3) := by decide +kernel
theorem d10_46 : decode prog_5_method_3_code 46 = .ok (.aload_n 0, 1) := by decide +kernel
theorem d10_47 : decode prog_5_method_3_code 47 = .ok (.dup, 1) := by decide +kernel
theorem d10_48 : decode prog_5_method_3_code 48 = .ok (.getfield 16, 3) := by decide +kernel
theorem d10_51 : decode prog_5_method_3_code 51 = .ok (.iconst 1, 1) := by decide +kernel
theorem d10_52 : decode prog_5_method_3_code 52 = .ok (.iadd, 1) := by decide +kernel
theorem d10_53 : decode prog_5_method_3_code 53 = .ok (.putfield 16, 3) := by decide +kernel
theorem d10_56 : decode prog_5_method_3_code 56 = .ok (.aload_n 0, 1) := by decide +kernel
theorem d10_57 : decode prog_5_method_3_code 57 = .ok (.iload_n 1, 1) := by decide +kernel
theorem d10_58 : decode prog_5_method_3_code 58 = .ok (.putfield 25, 3) := by decide +kernel
theorem d10_61 : decode prog_5_method_3_code 61 = .ok (.iload_n 1, 1) := by decide +kernel
theorem d10_62 : decode prog_5_method_3_code 62 = .ok (.ireturn, 1) := by decide +kernel
theorem ef_rm10 (m : MethodId) (x0 : Addr) : entryFrame m #[(.ref x0)] 2 = mkF m 0 #[.val (.ref x0), .unset] [] := by first | (simp [entryFrame, mkF, argsToLocals, Value.category]; done) | rfl
def Q10 (Z : State) (a1 : Addr) (bs t : Addr) (kc : ClassId) (cn la u : Int32) (w : Int64) (r : Int32) (h0 : Heap) (n0 : Nat) (v : Option Value) (h : Heap) (L : List Loc) : Prop := v = some (.int r) ∧ Fr n0 L ∧ Keep h0 h [a1, bs, t] ∧ own_PS Z h a1 bs t kc (cn + (1 : Int32)) r 1 (own_set w r)
set_option maxHeartbeats 40000000 in
theorem rm10 (l : Launch) (Z : State) (a0 : Array Value) (hw : ∀ d ∈ tables_1, d.before a0 Z = true) (ws : List Jvm.Cond) (a1 : Addr) (bs t : Addr) (kc : ClassId) (cn la u : Int32) (w : Int64) (r : Int32) (h0 : Heap) (n0 : Nat) (Z0 : n0 ≤ h0.size) (gn_a1 : n0 ≤ a1) (gn_bs : n0 ≤ bs) (gn_t : n0 ≤ t) (ne1 : a1 ≠ bs) (ne2 : a1 ≠ t) (ne3 : bs ≠ t) (hP : own_PS Z h0 a1 bs t kc cn la u w) (St : Sta Z h0 "java/util/BitSet" "$assertionsDisabled" "Z" (.int 1)) (hc : cn < 65535) (hu : u = 0 ∨ u = 1) (hr : own_ncb u w (la + (1 : Int32)) = r) (hq1 : ¬ (la + (1 : Int32)) < 0) (hq2 : own_f5 (la + (1 : Int32)) = 0) (hnz : 0 < u → ¬ lcmpW (own_cw w (la + (1 : Int32))) 0 = 0) (hr1 : ¬ r < 0) (hr2 : own_f5 r = 0) (hr3 : ¬ (65535 : Int32) < r) :
    MetFree l (⟨"com/example/oblivious/oblivious/broker/PacketIds", "take", "()I"⟩ : MethodName) (head1 (Jvm.Cond.code (⟨"com/example/oblivious/oblivious/broker/PacketIds", "take", "()I"⟩ : MethodName) prog_5_method_3_code 2 (some .int) :: ws) ({ frames := 3, cells := 0, slots := 0, locals := 45 } : Room)) (fun a U => a = #[(.ref a1)] ∧ Z.Warmed39 U.vm ∧ U.heap = h0) (fun _ _ _ _ _ => True) (fun _ U o U' => ∃ v L, o = .returned v ∧ Q10 Z a1 bs t kc cn la u w r h0 n0 v U'.heap L ∧ FrameEnd U o U' L ({ frames := 3, cells := 0, slots := 0, locals := 45 } : Room).cells ({ frames := 3, cells := 0, slots := 0, locals := 45 } : Room).slots) := by
  refine MetFree.of_bodySF (plainFor_of_name pn_3) hisR ?_
  intro p e s m args below meth c s₁ Bd hml0 hP hK
  obtain ⟨rfl, hZ, hh⟩ := hP
  have hx := Bd.exec
  have hby := Bd.bytes
  have hml : c.maxLocals = 2 := hml0
  have hown : s.vm.findClass "com/example/oblivious/oblivious/broker/PacketIds" = some m.cls := findClass_of_methodNamed Bd.named
  have hnm := (name_of_methodNamed Bd.named Bd.method).1
  have X0 : Stand p l e ({ frames := 3, cells := 0, slots := 0, locals := 45 } : Room) s m #[(.ref a1)] below meth c s₁ [] 0 0 := Stand.of_body Bd
  have e0 : s₁.heap = h0 := by rw [← hh, Bd.state]; rfl
  have N0 := Fr.nil n0
  have pre0 : ∀ tgt, Steps p.tables e below (s₁.setTop (mkF m 0 #[.val (.ref a1), .unset] [])) tgt → Steps p.tables e below (s₁.setTop (entryFrame m #[(.ref a1)] 2)) tgt := fun tgt k => castTop (ef_rm10 m a1) k
  obtain ⟨P0, P1, P2, P3, B0, B1, B2, B3⟩ := hP
  obtain ⟨cq1, kq1, q1a, q1b, q1c⟩ := isOf hZ e0 P0
  obtain ⟨_, _, ⟨T1, L1, k1, n1⟩, -, X1, ⟨Lc1, hQ1, l1, y1, z1⟩, st1⟩ := X0.virtualBack hx (y := (⟨"com/example/oblivious/oblivious/broker/PacketIds", "hasFree", "()Z"⟩ : MethodName)) (z := (⟨"com/example/oblivious/oblivious/broker/PacketIds", "hasFree", "()Z"⟩ : MethodName)) hown (mvT hZ (hw _ (List.mem_of_getElem? (i := 62) rfl))) (mvT hZ (hw _ (List.mem_of_getElem? (i := 34) rfl))) (notFace_of_selects (args := #[]) (mvT hZ (hw _ (List.mem_of_getElem? (i := 36) rfl)))) (mvT hZ (hw _ (List.mem_of_getElem? (i := 36) rfl))) (mvT hZ (hw _ (List.mem_of_getElem? (i := 35) rfl))) (by decide) (backOf (W := 0) (rm6 l Z a0 hw [] a1 cn h0 n0 Z0 P2 hc) hZ (hw _ (List.mem_of_getElem? (i := 37) rfl)) (hw _ (List.mem_of_getElem? (i := 2) rfl)) (by decide) (by decide)) q1a q1c (g := (mkF m 1 #[.val (.ref a1), .unset] [(.ref a1)])) rfl (by rw [hml]; rfl) (Steps.refl _) (argsL := []) (rest := []) (lenOf pd_4 rfl) rfl (by show 2 * 0 + _ ≤ _; exact Nat.le_of_eq rfl) (hb hby d10_1) (fun _ _ => ⟨rfl, e0, (by decide : 0 + 0 ≤ _), (by decide : 0 + 0 ≤ _)⟩)
  dsimp only [Pt.U, Pt.locs, Pt.cells, Pt.slots] at X1 l1 y1 z1 st1 hQ1
  subst l1 y1 z1
  obtain ⟨rfl, Nq1, e1⟩ := hQ1
  have N2 := Fr.app N0 Nq1
  obtain ⟨T3, X3, e3, st3⟩ := getF X1 hx hZ hown (host := "") (Or.inl (hw _ (List.mem_of_getElem? (i := 31) rfl))) Via.refl e1 P1 (g := (mkF m 10 #[.val (.ref a1), .unset] [(.ref a1)])) rfl rfl (hb hby d10_10)
  obtain ⟨T4, X4, e4, st4⟩ := getF X3 hx hZ hown (host := "") (Or.inl (hw _ (List.mem_of_getElem? (i := 63) rfl))) Via.refl e3 P3 (g := (mkF m 14 #[.val (.ref a1), .unset] [(.ref a1), (.ref bs)])) rfl rfl (hb hby d10_14)
  obtain ⟨cq5, kq5, q5a, q5b, q5c⟩ := isOf hZ e4 B0
  obtain ⟨_, _, ⟨T5, L5, k5, n5⟩, -, X5, ⟨Lc5, hQ5, l5, y5, z5⟩, st5⟩ := X4.virtualBack hx (y := (⟨"java/util/BitSet", "nextClearBit", "(I)I"⟩ : MethodName)) (z := (⟨"java/util/BitSet", "nextClearBit", "(I)I"⟩ : MethodName)) hown (mvT hZ (hw _ (List.mem_of_getElem? (i := 65) rfl))) (mvT hZ (hw _ (List.mem_of_getElem? (i := 66) rfl))) (notFace_of_selects (args := #[]) (mvT hZ (hw _ (List.mem_of_getElem? (i := 68) rfl)))) (mvT hZ (hw _ (List.mem_of_getElem? (i := 68) rfl))) (mvT hZ (hw _ (List.mem_of_getElem? (i := 67) rfl))) (by decide) (backOf (W := 0) (rm11 l Z a0 hw [] bs (la + (1 : Int32)) t kc u w h0 n0 Z0 ⟨B0, B1, B2, B3⟩ St hq1 hq2 hnz) hZ (hw _ (List.mem_of_getElem? (i := 69) rfl)) (hw _ (List.mem_of_getElem? (i := 11) rfl)) (by decide) (by decide)) q5a q5c (g := (mkF m 19 #[.val (.ref a1), .unset] [(.int (la + (1 : Int32))), (.ref bs)])) rfl (by rw [hml]; rfl) (Steps.refl _) (argsL := [(.int (la + (1 : Int32)))]) (rest := []) (lenOf pd_2 rfl) rfl (by show 2 * 0 + _ ≤ _; exact Nat.le_of_eq rfl) (hb hby d10_19) (fun _ _ => ⟨rfl, e4, (by decide : 0 + 0 ≤ _), (by decide : 0 + 0 ≤ _)⟩)
  dsimp only [Pt.U, Pt.locs, Pt.cells, Pt.slots] at X5 l5 y5 z5 st5 hQ5
  subst l5 y5 z5
  obtain ⟨rfl, Nq5, e5⟩ := hQ5
  have N6 := Fr.app N2 Nq5
  have pre7 : ∀ tgt, Steps p.tables e below (T5.setTop (mkF m 22 #[.val (.ref a1), .unset] [(.int (own_ncb u w (la + (1 : Int32))))])) tgt → Steps p.tables e below (s₁.setTop (entryFrame m #[(.ref a1)] 2)) tgt := fun tgt kt => pre0 _ (by
    show Steps p.tables e below (s₁.setTop (mkF m 0 #[.val (.ref a1), .unset] [])) _
    refine XS.aloadN X0.here hx rfl (hb hby d10_0) rfl rfl ?_
    show Steps p.tables e below (s₁.setTop (mkF m 1 #[.val (.ref a1), .unset] [(.ref a1)])) _
    refine st1.trans ?_
    show Steps p.tables e below (T1.setTop (mkF m 4 #[.val (.ref a1), .unset] [(.int (1 : Int32))])) _
    refine XS.ifYes X1.here hx rfl (pc0 := 4) (pc' := 9) rfl (hb hby d10_4) rfl ((if0 _ _).trans (feq (by decide : ¬ ((1 : Int32) = (0 : Int32)))).2) (by decide) (by decide) ?_
    show Steps p.tables e below (T1.setTop (mkF m 9 #[.val (.ref a1), .unset] [])) _
    refine XS.aloadN X1.here hx rfl (hb hby d10_9) rfl rfl ?_
    show Steps p.tables e below (T1.setTop (mkF m 10 #[.val (.ref a1), .unset] [(.ref a1)])) _
    refine st3 _ ?_
    show Steps p.tables e below (T3.setTop (mkF m 13 #[.val (.ref a1), .unset] [(.ref bs)])) _
    refine XS.aloadN X3.here hx rfl (hb hby d10_13) rfl rfl ?_
    show Steps p.tables e below (T3.setTop (mkF m 14 #[.val (.ref a1), .unset] [(.ref a1), (.ref bs)])) _
    refine st4 _ ?_
    show Steps p.tables e below (T4.setTop (mkF m 17 #[.val (.ref a1), .unset] [(.int la), (.ref bs)])) _
    refine XS.iconst X4.here hx rfl (hb hby d10_17) ?_
    show Steps p.tables e below (T4.setTop (mkF m 18 #[.val (.ref a1), .unset] [(.int (1 : Int32)), (.int la), (.ref bs)])) _
    refine XS.iadd X4.here hx rfl (hb hby d10_18) rfl ?_
    show Steps p.tables e below (T4.setTop (mkF m 19 #[.val (.ref a1), .unset] [(.int (la + (1 : Int32))), (.ref bs)])) _
    refine st5.trans ?_
    exact kt)
  have rw8 : (own_ncb u w (la + (1 : Int32))) = r := hr
  rw [rw8] at pre7
  obtain ⟨T9, X9, e9, st9⟩ := getF X5 hx hZ hown (host := "") (Or.inl (hw _ (List.mem_of_getElem? (i := 31) rfl))) Via.refl e5 P1 (g := (mkF m 39 #[.val (.ref a1), .val (.int r)] [(.ref a1)])) rfl rfl (hb hby d10_39)
  obtain ⟨cq10, kq10, q10a, q10b, q10c⟩ := isOf hZ e9 B0
  obtain ⟨_, _, ⟨T10, L10, k10, n10⟩, -, X10, ⟨Lc10, hQ10, l10, y10, z10⟩, st10⟩ := X9.virtualBack hx (y := (⟨"java/util/BitSet", "set", "(I)V"⟩ : MethodName)) (z := (⟨"java/util/BitSet", "set", "(I)V"⟩ : MethodName)) hown (mvT hZ (hw _ (List.mem_of_getElem? (i := 70) rfl))) (mvT hZ (hw _ (List.mem_of_getElem? (i := 71) rfl))) (notFace_of_selects (args := #[]) (mvT hZ (hw _ (List.mem_of_getElem? (i := 73) rfl)))) (mvT hZ (hw _ (List.mem_of_getElem? (i := 73) rfl))) (mvT hZ (hw _ (List.mem_of_getElem? (i := 72) rfl))) (by decide) (backOf (W := 0) (rm12 l Z a0 hw [] bs r t kc u w h0 n0 Z0 gn_bs gn_t ne3 ⟨B0, B1, B2, B3⟩ St hr1 hr2 hu) hZ (hw _ (List.mem_of_getElem? (i := 74) rfl)) (hw _ (List.mem_of_getElem? (i := 11) rfl)) (by decide) (by decide)) q10a q10c (g := (mkF m 43 #[.val (.ref a1), .val (.int r)] [(.int r), (.ref bs)])) rfl (by rw [hml]; rfl) (Steps.refl _) (argsL := [(.int r)]) (rest := []) (lenOf pd_0 rfl) rfl (by show 2 * 0 + _ ≤ _; exact Nat.le_of_eq rfl) (hb hby d10_43) (fun _ _ => ⟨rfl, e9, (by decide : 0 + 0 ≤ _), (by decide : 0 + 0 ≤ _)⟩)
  dsimp only [Pt.U, Pt.locs, Pt.cells, Pt.slots] at X10 l10 y10 z10 st10 hQ10
  subst l10 y10 z10
  obtain ⟨rfl, Nq10, K10, B0_10, B1_10, B2_10, B3_10⟩ := hQ10
  have ns11 : ∀ x ∈ [bs, t], ∃ c : Cell, h0[x]? = some c ∧ c.vm.isStatics = false := (own_allS (own_ns_e B0) (own_allS (own_ns_v B3) own_all0))
  have f12 := P0.keep K10
  have f13 := P1.keep K10 (own_nmS ne1 (own_nmS ne2 own_nm0))
  have f14 := P2.keep K10 (own_nmS ne1 (own_nmS ne2 own_nm0))
  have f15 := P3.keep K10 (own_nmS ne1 (own_nmS ne2 own_nm0))
  have f16 := B0.keep K10
  have f17 := own_sta_keep St K10 ns11
  have zz18 : n0 ≤ T10.heap.size := Nat.le_trans Z0 K10.1
  have K19 : Keep h0 T10.heap [a1, bs, t] := Keep.trans (Keep.refl h0 [a1, bs, t]) K10 (own_allS (Or.inl (List.mem_of_getElem? (i := 1) rfl)) (own_allS (Or.inl (List.mem_of_getElem? (i := 2) rfl)) own_all0))
  have N20 := Fr.app N6 Nq10
  obtain ⟨T21, X21, e21, st21⟩ := getF X10 hx hZ hown (host := "") (Or.inl (hw _ (List.mem_of_getElem? (i := 38) rfl))) Via.refl rfl f14 (g := (mkF m 48 #[.val (.ref a1), .val (.int r)] [(.ref a1), (.ref a1)])) rfl rfl (hb hby d10_48)
  obtain ⟨T22, h22, X22, e22, W22, st22⟩ := putF X21 hx hZ hown (host := "") (Or.inl (hw _ (List.mem_of_getElem? (i := 38) rfl))) Via.refl e21 f14 f12 (Or.inl (hw _ (List.mem_of_getElem? (i := 39) rfl))) (hw _ (List.mem_of_getElem? (i := 1) rfl)) (ty := .int) (by decide) rfl rfl (g := (mkF m 53 #[.val (.ref a1), .val (.int r)] [(.int (cn + (1 : Int32))), (.ref a1)])) rfl rfl (hb hby d10_53)
  have f23 := f14.same W22
  have f24 := f12.wr W22
  have f25 := f13.other W22 (Or.inr (slot_ne (Or.inr (hw _ (List.mem_of_getElem? (i := 32) rfl))) (Or.inl (hw _ (List.mem_of_getElem? (i := 39) rfl))) (by decide) (t := (.object "java/util/BitSet")) (t' := .int) (by decide) (by decide)))
  have f26 := f15.other W22 (Or.inr (slot_ne (Or.inl (hw _ (List.mem_of_getElem? (i := 64) rfl))) (Or.inl (hw _ (List.mem_of_getElem? (i := 39) rfl))) (by decide) (t := .int) (t' := .int) (by decide) (by decide)))
  have f27 := B0_10.wr W22
  have f28 := f17.wr W22
  have f29 := B1_10.other W22 (Or.inl (Ne.symm ne1))
  have f30 := B2_10.other W22 (Or.inl (Ne.symm ne1))
  have f31 := B3_10.other W22 (Ne.symm ne2)
  have zz32 : n0 ≤ h22.size := Nat.le_trans zz18 (Keep.of_wr W22).1
  have N33 := Fr.snoc X22 N20 gn_a1
  have K34 : Keep h0 h22 [a1, bs, t] := K19.wr W22 (Or.inl (List.mem_of_getElem? (i := 0) rfl))
  obtain ⟨T35, h35, X35, e35, W35, st35⟩ := putF X22 hx hZ hown (host := "") (Or.inl (hw _ (List.mem_of_getElem? (i := 63) rfl))) Via.refl e22 f26 f24 (Or.inl (hw _ (List.mem_of_getElem? (i := 64) rfl))) (hw _ (List.mem_of_getElem? (i := 1) rfl)) (ty := .int) (by decide) rfl rfl (g := (mkF m 58 #[.val (.ref a1), .val (.int r)] [(.int r), (.ref a1)])) rfl rfl (hb hby d10_58)
  have f36 := f26.same W35
  have f37 := f24.wr W35
  have f38 := f25.other W35 (Or.inr (slot_ne (Or.inr (hw _ (List.mem_of_getElem? (i := 32) rfl))) (Or.inl (hw _ (List.mem_of_getElem? (i := 64) rfl))) (by decide) (t := (.object "java/util/BitSet")) (t' := .int) (by decide) (by decide)))
  have f39 := f23.other W35 (Or.inr (slot_ne (Or.inl (hw _ (List.mem_of_getElem? (i := 39) rfl))) (Or.inl (hw _ (List.mem_of_getElem? (i := 64) rfl))) (by decide) (t := .int) (t' := .int) (by decide) (by decide)))
  have f40 := f27.wr W35
  have f41 := f28.wr W35
  have f42 := f29.other W35 (Or.inl (Ne.symm ne1))
  have f43 := f30.other W35 (Or.inl (Ne.symm ne1))
  have f44 := f31.other W35 (Ne.symm ne2)
  have zz45 : n0 ≤ h35.size := Nat.le_trans zz32 (Keep.of_wr W35).1
  have N46 := Fr.snoc X35 N33 gn_a1
  have K47 : Keep h0 h35 [a1, bs, t] := K34.wr W35 (Or.inl (List.mem_of_getElem? (i := 0) rfl))
  obtain ⟨fs, hr, hrun, hended, hW, hsame⟩ := X35.leave (v := some (.int r)) (fun h => by rw [Bd.returns] at h; cases h)
  refine ⟨_, _, pre7 _ ?_, hrun, hended, _, _, rfl, ?_, ⟨_, rfl⟩, hW, hsame.mono (by decide) (by decide)⟩
  · show Steps p.tables e below (T5.setTop (mkF m 22 #[.val (.ref a1), .unset] [(.int r)])) _
    refine XS.istoreN X5.here hx rfl (hb hby d10_22) rfl (l' := #[.val (.ref a1), .val (.int r)]) rfl ?_
    show Steps p.tables e below (T5.setTop (mkF m 23 #[.val (.ref a1), .val (.int r)] [])) _
    refine XS.iloadN X5.here hx rfl (hb hby d10_23) rfl ?_
    show Steps p.tables e below (T5.setTop (mkF m 24 #[.val (.ref a1), .val (.int r)] [(.int r)])) _
    refine X5.ldcInt hx hown (mvT hZ (hw _ (List.mem_of_getElem? (i := 40) rfl))) (g := (mkF m 24 #[.val (.ref a1), .val (.int r)] [(.int r)])) rfl (hb hby d10_24) _ ?_
    show Steps p.tables e below (T5.setTop (mkF m 26 #[.val (.ref a1), .val (.int r)] [(.int (65535 : Int32)), (.int r)])) _
    refine XS.icmpYes X5.here hx rfl (pc0 := 26) (pc' := 38) rfl (hb hby d10_26) rfl (flt hr3).2.2.2 (by decide) (by decide) ?_
    show Steps p.tables e below (T5.setTop (mkF m 38 #[.val (.ref a1), .val (.int r)] [])) _
    refine XS.aloadN X5.here hx rfl (hb hby d10_38) rfl rfl ?_
    show Steps p.tables e below (T5.setTop (mkF m 39 #[.val (.ref a1), .val (.int r)] [(.ref a1)])) _
    refine st9 _ ?_
    show Steps p.tables e below (T9.setTop (mkF m 42 #[.val (.ref a1), .val (.int r)] [(.ref bs)])) _
    refine XS.iloadN X9.here hx rfl (hb hby d10_42) rfl ?_
    show Steps p.tables e below (T9.setTop (mkF m 43 #[.val (.ref a1), .val (.int r)] [(.int r), (.ref bs)])) _
    refine st10.trans ?_
    show Steps p.tables e below (T10.setTop (mkF m 46 #[.val (.ref a1), .val (.int r)] [])) _
    refine XS.aloadN X10.here hx rfl (hb hby d10_46) rfl rfl ?_
    show Steps p.tables e below (T10.setTop (mkF m 47 #[.val (.ref a1), .val (.int r)] [(.ref a1)])) _
    refine XS.dup X10.here hx rfl (hb hby d10_47) rfl rfl ?_
    show Steps p.tables e below (T10.setTop (mkF m 48 #[.val (.ref a1), .val (.int r)] [(.ref a1), (.ref a1)])) _
    refine st21 _ ?_
    show Steps p.tables e below (T21.setTop (mkF m 51 #[.val (.ref a1), .val (.int r)] [(.int cn), (.ref a1)])) _
    refine XS.iconst X21.here hx rfl (hb hby d10_51) ?_
    show Steps p.tables e below (T21.setTop (mkF m 52 #[.val (.ref a1), .val (.int r)] [(.int (1 : Int32)), (.int cn), (.ref a1)])) _
    refine XS.iadd X21.here hx rfl (hb hby d10_52) rfl ?_
    show Steps p.tables e below (T21.setTop (mkF m 53 #[.val (.ref a1), .val (.int r)] [(.int (cn + (1 : Int32))), (.ref a1)])) _
    refine st22 _ ?_
    show Steps p.tables e below (T22.setTop (mkF m 56 #[.val (.ref a1), .val (.int r)] [])) _
    refine XS.aloadN X22.here hx rfl (hb hby d10_56) rfl rfl ?_
    show Steps p.tables e below (T22.setTop (mkF m 57 #[.val (.ref a1), .val (.int r)] [(.ref a1)])) _
    refine XS.iloadN X22.here hx rfl (hb hby d10_57) rfl ?_
    show Steps p.tables e below (T22.setTop (mkF m 58 #[.val (.ref a1), .val (.int r)] [(.int r), (.ref a1)])) _
    refine st35 _ ?_
    show Steps p.tables e below (T35.setTop (mkF m 61 #[.val (.ref a1), .val (.int r)] [])) _
    refine XS.iloadN X35.here hx rfl (hb hby d10_61) rfl ?_
    show Steps p.tables e below (T35.setTop (mkF m 62 #[.val (.ref a1), .val (.int r)] [(.int r)])) _
    exact retI X35 hx Bd.returns (hb hby d10_62) hr
  · show Q10 Z a1 bs t kc cn la u w r h0 n0 _ T35.heap _
    rw [e35]
    exact ⟨rfl, N46, K47, ⟨f37, f38, f39, f36, ⟨f40, f42, f43, f44⟩⟩⟩
theorem d7_0 : decode prog_5_method_4_code 0 = .ok (.aload_n 0, 1) := by decide +kernel
theorem d7_1 : decode prog_5_method_4_code 1 = .ok (.getfield 10, 3) := by decide +kernel
theorem d7_4 : decode prog_5_method_4_code 4 = .ok (.iload_n 1, 1) := by decide +kernel
theorem d7_5 : decode prog_5_method_4_code 5 = .ok (.invokevirtual 36, 3) := by decide +kernel
theorem pd_5 : parseMethodDescriptor "(I)Z" = some ⟨[.int], some .boolean⟩ := by decide +kernel
theorem d7_8 : decode prog_5_method_4_code 8 = .ok (.istore_n 2, 1) := by decide +kernel
theorem d7_9 : decode prog_5_method_4_code 9 = .ok (.iload_n 2, 1) := by decide +kernel
theorem d7_10 : decode prog_5_method_4_code 10 = .ok (.ifCond .eq 21, 3) := by decide +kernel
theorem d7_31 : decode prog_5_method_4_code 31 = .ok (.iload_n 2, 1) := by decide +kernel
theorem d7_32 : decode prog_5_method_4_code 32 = .ok (.ireturn, 1) := by decide +kernel
theorem d7_13 : decode prog_5_method_4_code 13 = .ok (.aload_n 0, 1) := by decide +kernel
theorem d7_14 : decode prog_5_method_4_code 14 = .ok (.getfield 10, 3) := by decide +kernel
theorem d7_17 : decode prog_5_method_4_code 17 = .ok (.iload_n 1, 1) := by decide +kernel
theorem d7_18 : decode prog_5_method_4_code 18 = .ok (.invokevirtual 40, 3) := by decide +kernel
theorem d7_21 : decode prog_5_method_4_code 21 = .ok (.aload_n 0, 1) := by decide +kernel
theorem d7_22 : decode prog_5_method_4_code 22 = .ok (.dup, 1) := by decide +kernel
theorem d7_23 : decode prog_5_method_4_code 23 = .ok (.getfield 16, 3) := by decide +kernel
theorem d7_26 : decode prog_5_method_4_code 26 = .ok (.iconst 1, 1) := by decide +kernel
theorem d7_27 : decode prog_5_method_4_code 27 = .ok (.isub, 1) := by decide +kernel
theorem d7_28 : decode prog_5_method_4_code 28 = .ok (.putfield 16, 3) := by decide +kernel
theorem ef_rm7 (m : MethodId) (x0 : Addr) (x1 : Int32) : entryFrame m #[(.ref x0), (.int x1)] 3 = mkF m 0 #[.val (.ref x0), .val (.int x1), .unset] [] := by first | (simp [entryFrame, mkF, argsToLocals, Value.category]; done) | rfl
def Q7 (Z : State) (a1 : Addr) (p1 : Int32) (bs t : Addr) (kc : ClassId) (cn la u : Int32) (w : Int64) (h0 : Heap) (n0 : Nat) (v : Option Value) (h : Heap) (L : List Loc) : Prop := ∃ c' u' w', v = some (.int (own_get u w p1)) ∧ Fr n0 L ∧ Keep h0 h [a1, bs, t] ∧ own_PS Z h a1 bs t kc c' la u' w' ∧ ((own_get u w p1 = 0 ∧ c' = cn ∧ u' = u ∧ w' = w) ∨ (¬ own_get u w p1 = 0 ∧ c' = cn - (1 : Int32) ∧ u' = own_ru (own_clr w p1) ∧ w' = own_clr w p1))
set_option maxHeartbeats 40000000 in
theorem rm7 (l : Launch) (Z : State) (a0 : Array Value) (hw : ∀ d ∈ tables_1, d.before a0 Z = true) (ws : List Jvm.Cond) (a1 : Addr) (p1 : Int32) (bs t : Addr) (kc : ClassId) (cn la u : Int32) (w : Int64) (h0 : Heap) (n0 : Nat) (Z0 : n0 ≤ h0.size) (gn_a1 : n0 ≤ a1) (gn_bs : n0 ≤ bs) (gn_t : n0 ≤ t) (ne1 : a1 ≠ bs) (ne2 : a1 ≠ t) (ne3 : bs ≠ t) (hP : own_PS Z h0 a1 bs t kc cn la u w) (St : Sta Z h0 "java/util/BitSet" "$assertionsDisabled" "Z" (.int 1)) (hc : cn < 65535) (hu : u = 0 ∨ u = 1) (hp : ¬ p1 < 0) (hwi : own_f5 p1 = 0) :
    MetFree l (⟨"com/example/oblivious/oblivious/broker/PacketIds", "free", "(I)Z"⟩ : MethodName) (head1 (Jvm.Cond.code (⟨"com/example/oblivious/oblivious/broker/PacketIds", "free", "(I)Z"⟩ : MethodName) prog_5_method_4_code 3 (some .boolean) :: ws) ({ frames := 2, cells := 0, slots := 0, locals := 27 } : Room)) (fun a U => a = #[(.ref a1), (.int p1)] ∧ Z.Warmed39 U.vm ∧ U.heap = h0) (fun _ _ _ _ _ => True) (fun _ U o U' => ∃ v L, o = .returned v ∧ Q7 Z a1 p1 bs t kc cn la u w h0 n0 v U'.heap L ∧ FrameEnd U o U' L ({ frames := 2, cells := 0, slots := 0, locals := 27 } : Room).cells ({ frames := 2, cells := 0, slots := 0, locals := 27 } : Room).slots) := by
  refine MetFree.of_bodySF (plainFor_of_name pn_3) hisR ?_
  intro p e s m args below meth c s₁ Bd hml0 hP hK
  obtain ⟨rfl, hZ, hh⟩ := hP
  have hx := Bd.exec
  have hby := Bd.bytes
  have hml : c.maxLocals = 3 := hml0
  have hown : s.vm.findClass "com/example/oblivious/oblivious/broker/PacketIds" = some m.cls := findClass_of_methodNamed Bd.named
  have hnm := (name_of_methodNamed Bd.named Bd.method).1
  have X0 : Stand p l e ({ frames := 2, cells := 0, slots := 0, locals := 27 } : Room) s m #[(.ref a1), (.int p1)] below meth c s₁ [] 0 0 := Stand.of_body Bd
  have e0 : s₁.heap = h0 := by rw [← hh, Bd.state]; rfl
  have N0 := Fr.nil n0
  have pre0 : ∀ tgt, Steps p.tables e below (s₁.setTop (mkF m 0 #[.val (.ref a1), .val (.int p1), .unset] [])) tgt → Steps p.tables e below (s₁.setTop (entryFrame m #[(.ref a1), (.int p1)] 3)) tgt := fun tgt k => castTop (ef_rm7 m a1 p1) k
  obtain ⟨P0, P1, P2, P3, B0, B1, B2, B3⟩ := hP
  obtain ⟨T1, X1, e1, st1⟩ := getF X0 hx hZ hown (host := "") (Or.inl (hw _ (List.mem_of_getElem? (i := 31) rfl))) Via.refl e0 P1 (g := (mkF m 1 #[.val (.ref a1), .val (.int p1), .unset] [(.ref a1)])) rfl rfl (hb hby d7_1)
  obtain ⟨cq2, kq2, q2a, q2b, q2c⟩ := isOf hZ e1 B0
  obtain ⟨_, _, ⟨T2, L2, k2, n2⟩, -, X2, ⟨Lc2, hQ2, l2, y2, z2⟩, st2⟩ := X1.virtualBack hx (y := (⟨"java/util/BitSet", "get", "(I)Z"⟩ : MethodName)) (z := (⟨"java/util/BitSet", "get", "(I)Z"⟩ : MethodName)) hown (mvT hZ (hw _ (List.mem_of_getElem? (i := 46) rfl))) (mvT hZ (hw _ (List.mem_of_getElem? (i := 47) rfl))) (notFace_of_selects (args := #[]) (mvT hZ (hw _ (List.mem_of_getElem? (i := 49) rfl)))) (mvT hZ (hw _ (List.mem_of_getElem? (i := 49) rfl))) (mvT hZ (hw _ (List.mem_of_getElem? (i := 48) rfl))) (by decide) (backOf (W := 0) (rm8 l Z a0 hw [] bs p1 t kc u w h0 n0 Z0 ⟨B0, B1, B2, B3⟩ St hp hwi) hZ (hw _ (List.mem_of_getElem? (i := 50) rfl)) (hw _ (List.mem_of_getElem? (i := 11) rfl)) (by decide) (by decide)) q2a q2c (g := (mkF m 5 #[.val (.ref a1), .val (.int p1), .unset] [(.int p1), (.ref bs)])) rfl (by rw [hml]; rfl) (Steps.refl _) (argsL := [(.int p1)]) (rest := []) (lenOf pd_5 rfl) rfl (by show 2 * 0 + _ ≤ _; exact Nat.le_of_eq rfl) (hb hby d7_5) (fun _ _ => ⟨rfl, e1, (by decide : 0 + 0 ≤ _), (by decide : 0 + 0 ≤ _)⟩)
  dsimp only [Pt.U, Pt.locs, Pt.cells, Pt.slots] at X2 l2 y2 z2 st2 hQ2
  subst l2 y2 z2
  obtain ⟨rfl, Nq2, e2⟩ := hQ2
  have N3 := Fr.app N0 Nq2
  have pre4 : ∀ tgt, Steps p.tables e below (T2.setTop (mkF m 10 #[.val (.ref a1), .val (.int p1), .val (.int (own_get u w p1))] [(.int (own_get u w p1))])) tgt → Steps p.tables e below (s₁.setTop (entryFrame m #[(.ref a1), (.int p1)] 3)) tgt := fun tgt kt => pre0 _ (by
    show Steps p.tables e below (s₁.setTop (mkF m 0 #[.val (.ref a1), .val (.int p1), .unset] [])) _
    refine XS.aloadN X0.here hx rfl (hb hby d7_0) rfl rfl ?_
    show Steps p.tables e below (s₁.setTop (mkF m 1 #[.val (.ref a1), .val (.int p1), .unset] [(.ref a1)])) _
    refine st1 _ ?_
    show Steps p.tables e below (T1.setTop (mkF m 4 #[.val (.ref a1), .val (.int p1), .unset] [(.ref bs)])) _
    refine XS.iloadN X1.here hx rfl (hb hby d7_4) rfl ?_
    show Steps p.tables e below (T1.setTop (mkF m 5 #[.val (.ref a1), .val (.int p1), .unset] [(.int p1), (.ref bs)])) _
    refine st2.trans ?_
    show Steps p.tables e below (T2.setTop (mkF m 8 #[.val (.ref a1), .val (.int p1), .unset] [(.int (own_get u w p1))])) _
    refine XS.istoreN X2.here hx rfl (hb hby d7_8) rfl (l' := #[.val (.ref a1), .val (.int p1), .val (.int (own_get u w p1))]) rfl ?_
    show Steps p.tables e below (T2.setTop (mkF m 9 #[.val (.ref a1), .val (.int p1), .val (.int (own_get u w p1))] [])) _
    refine XS.iloadN X2.here hx rfl (hb hby d7_9) rfl ?_
    exact kt)
  by_cases hA : (own_get u w p1) = (0 : Int32)
  · obtain ⟨fs, hr, hrun, hended, hW, hsame⟩ := X2.leave (v := some (.int (nar .boolean (own_get u w p1)))) (fun h => by rw [Bd.returns] at h; cases h)
    refine ⟨_, _, pre4 _ ?_, hrun, hended, _, _, rfl, ?_, ⟨_, rfl⟩, hW, hsame.mono (by decide) (by decide)⟩
    · show Steps p.tables e below (T2.setTop (mkF m 10 #[.val (.ref a1), .val (.int p1), .val (.int (own_get u w p1))] [(.int (own_get u w p1))])) _
      refine XS.ifYes X2.here hx rfl (pc0 := 10) (pc' := 31) rfl (hb hby d7_10) rfl ((if0 _ _).trans (teq hA).1) (by decide) (by decide) ?_
      show Steps p.tables e below (T2.setTop (mkF m 31 #[.val (.ref a1), .val (.int p1), .val (.int (own_get u w p1))] [])) _
      refine XS.iloadN X2.here hx rfl (hb hby d7_31) rfl ?_
      show Steps p.tables e below (T2.setTop (mkF m 32 #[.val (.ref a1), .val (.int p1), .val (.int (own_get u w p1))] [(.int (own_get u w p1))])) _
      exact retN X2 hx (t := .boolean) Bd.returns (by simp) (hb hby d7_32) hr
    · show Q7 Z a1 p1 bs t kc cn la u w h0 n0 _ T2.heap _
      rw [e2]
      exact ⟨cn, u, w, by rw [own_g01], N3, (Keep.refl h0 [a1, bs, t]), ⟨P0, P1, P2, P3, ⟨B0, B1, B2, B3⟩⟩, Or.inl ⟨hA, rfl, rfl, rfl⟩⟩
  · have hu1 := own_u1 hu hA
    have f5 : Fld Z h0 bs "java/util/BitSet" "wordsInUse" "I" (.int (1 : Int32)) := hu1 ▸ B1
    obtain ⟨T6, X6, e6, st6⟩ := getF X2 hx hZ hown (host := "") (Or.inl (hw _ (List.mem_of_getElem? (i := 31) rfl))) Via.refl e2 P1 (g := (mkF m 14 #[.val (.ref a1), .val (.int p1), .val (.int (own_get u w p1))] [(.ref a1)])) rfl rfl (hb hby d7_14)
    obtain ⟨cq7, kq7, q7a, q7b, q7c⟩ := isOf hZ e6 B0
    obtain ⟨_, _, ⟨T7, L7, k7, n7⟩, -, X7, ⟨Lc7, hQ7, l7, y7, z7⟩, st7⟩ := X6.virtualBack hx (y := (⟨"java/util/BitSet", "clear", "(I)V"⟩ : MethodName)) (z := (⟨"java/util/BitSet", "clear", "(I)V"⟩ : MethodName)) hown (mvT hZ (hw _ (List.mem_of_getElem? (i := 95) rfl))) (mvT hZ (hw _ (List.mem_of_getElem? (i := 96) rfl))) (notFace_of_selects (args := #[]) (mvT hZ (hw _ (List.mem_of_getElem? (i := 98) rfl)))) (mvT hZ (hw _ (List.mem_of_getElem? (i := 98) rfl))) (mvT hZ (hw _ (List.mem_of_getElem? (i := 97) rfl))) (by decide) (backOf (W := 0) (rm17 l Z a0 hw [] bs p1 t kc w h0 n0 Z0 gn_bs gn_t ne3 ⟨B0, f5, B2, B3⟩ St hp hwi) hZ (hw _ (List.mem_of_getElem? (i := 99) rfl)) (hw _ (List.mem_of_getElem? (i := 11) rfl)) (by decide) (by decide)) q7a q7c (g := (mkF m 18 #[.val (.ref a1), .val (.int p1), .val (.int (own_get u w p1))] [(.int p1), (.ref bs)])) rfl (by rw [hml]; rfl) (Steps.refl _) (argsL := [(.int p1)]) (rest := []) (lenOf pd_0 rfl) rfl (by show 2 * 0 + _ ≤ _; exact Nat.le_of_eq rfl) (hb hby d7_18) (fun _ _ => ⟨rfl, e6, (by decide : 0 + 0 ≤ _), (by decide : 0 + 0 ≤ _)⟩)
    dsimp only [Pt.U, Pt.locs, Pt.cells, Pt.slots] at X7 l7 y7 z7 st7 hQ7
    subst l7 y7 z7
    obtain ⟨rfl, Nq7, K7, B0_7, B1_7, B2_7, B3_7⟩ := hQ7
    have ns8 : ∀ x ∈ [bs, t], ∃ c : Cell, h0[x]? = some c ∧ c.vm.isStatics = false := (own_allS (own_ns_e B0) (own_allS (own_ns_v B3) own_all0))
    have f9 := P0.keep K7
    have f10 := P1.keep K7 (own_nmS ne1 (own_nmS ne2 own_nm0))
    have f11 := P2.keep K7 (own_nmS ne1 (own_nmS ne2 own_nm0))
    have f12 := P3.keep K7 (own_nmS ne1 (own_nmS ne2 own_nm0))
    have f13 := B0.keep K7
    have f14 := own_sta_keep St K7 ns8
    have zz15 : n0 ≤ T7.heap.size := Nat.le_trans Z0 K7.1
    have K16 : Keep h0 T7.heap [a1, bs, t] := Keep.trans (Keep.refl h0 [a1, bs, t]) K7 (own_allS (Or.inl (List.mem_of_getElem? (i := 1) rfl)) (own_allS (Or.inl (List.mem_of_getElem? (i := 2) rfl)) own_all0))
    have N17 := Fr.app N3 Nq7
    obtain ⟨T18, X18, e18, st18⟩ := getF X7 hx hZ hown (host := "") (Or.inl (hw _ (List.mem_of_getElem? (i := 38) rfl))) Via.refl rfl f11 (g := (mkF m 23 #[.val (.ref a1), .val (.int p1), .val (.int (own_get u w p1))] [(.ref a1), (.ref a1)])) rfl rfl (hb hby d7_23)
    obtain ⟨T19, h19, X19, e19, W19, st19⟩ := putF X18 hx hZ hown (host := "") (Or.inl (hw _ (List.mem_of_getElem? (i := 38) rfl))) Via.refl e18 f11 f9 (Or.inl (hw _ (List.mem_of_getElem? (i := 39) rfl))) (hw _ (List.mem_of_getElem? (i := 1) rfl)) (ty := .int) (by decide) rfl rfl (g := (mkF m 28 #[.val (.ref a1), .val (.int p1), .val (.int (own_get u w p1))] [(.int (cn - (1 : Int32))), (.ref a1)])) rfl rfl (hb hby d7_28)
    have f20 := f11.same W19
    have f21 := f9.wr W19
    have f22 := f10.other W19 (Or.inr (slot_ne (Or.inr (hw _ (List.mem_of_getElem? (i := 32) rfl))) (Or.inl (hw _ (List.mem_of_getElem? (i := 39) rfl))) (by decide) (t := (.object "java/util/BitSet")) (t' := .int) (by decide) (by decide)))
    have f23 := f12.other W19 (Or.inr (slot_ne (Or.inl (hw _ (List.mem_of_getElem? (i := 64) rfl))) (Or.inl (hw _ (List.mem_of_getElem? (i := 39) rfl))) (by decide) (t := .int) (t' := .int) (by decide) (by decide)))
    have f24 := B0_7.wr W19
    have f25 := f14.wr W19
    have f26 := B1_7.other W19 (Or.inl (Ne.symm ne1))
    have f27 := B2_7.other W19 (Or.inl (Ne.symm ne1))
    have f28 := B3_7.other W19 (Ne.symm ne2)
    have zz29 : n0 ≤ h19.size := Nat.le_trans zz15 (Keep.of_wr W19).1
    have N30 := Fr.snoc X19 N17 gn_a1
    have K31 : Keep h0 h19 [a1, bs, t] := K16.wr W19 (Or.inl (List.mem_of_getElem? (i := 0) rfl))
    obtain ⟨fs, hr, hrun, hended, hW, hsame⟩ := X19.leave (v := some (.int (nar .boolean (own_get u w p1)))) (fun h => by rw [Bd.returns] at h; cases h)
    refine ⟨_, _, pre4 _ ?_, hrun, hended, _, _, rfl, ?_, ⟨_, rfl⟩, hW, hsame.mono (by decide) (by decide)⟩
    · show Steps p.tables e below (T2.setTop (mkF m 10 #[.val (.ref a1), .val (.int p1), .val (.int (own_get u w p1))] [(.int (own_get u w p1))])) _
      refine XS.ifNo X2.here hx rfl (hb hby d7_10) rfl ((if0 _ _).trans (feq hA).1) ?_
      show Steps p.tables e below (T2.setTop (mkF m 13 #[.val (.ref a1), .val (.int p1), .val (.int (own_get u w p1))] [])) _
      refine XS.aloadN X2.here hx rfl (hb hby d7_13) rfl rfl ?_
      show Steps p.tables e below (T2.setTop (mkF m 14 #[.val (.ref a1), .val (.int p1), .val (.int (own_get u w p1))] [(.ref a1)])) _
      refine st6 _ ?_
      show Steps p.tables e below (T6.setTop (mkF m 17 #[.val (.ref a1), .val (.int p1), .val (.int (own_get u w p1))] [(.ref bs)])) _
      refine XS.iloadN X6.here hx rfl (hb hby d7_17) rfl ?_
      show Steps p.tables e below (T6.setTop (mkF m 18 #[.val (.ref a1), .val (.int p1), .val (.int (own_get u w p1))] [(.int p1), (.ref bs)])) _
      refine st7.trans ?_
      show Steps p.tables e below (T7.setTop (mkF m 21 #[.val (.ref a1), .val (.int p1), .val (.int (own_get u w p1))] [])) _
      refine XS.aloadN X7.here hx rfl (hb hby d7_21) rfl rfl ?_
      show Steps p.tables e below (T7.setTop (mkF m 22 #[.val (.ref a1), .val (.int p1), .val (.int (own_get u w p1))] [(.ref a1)])) _
      refine XS.dup X7.here hx rfl (hb hby d7_22) rfl rfl ?_
      show Steps p.tables e below (T7.setTop (mkF m 23 #[.val (.ref a1), .val (.int p1), .val (.int (own_get u w p1))] [(.ref a1), (.ref a1)])) _
      refine st18 _ ?_
      show Steps p.tables e below (T18.setTop (mkF m 26 #[.val (.ref a1), .val (.int p1), .val (.int (own_get u w p1))] [(.int cn), (.ref a1)])) _
      refine XS.iconst X18.here hx rfl (hb hby d7_26) ?_
      show Steps p.tables e below (T18.setTop (mkF m 27 #[.val (.ref a1), .val (.int p1), .val (.int (own_get u w p1))] [(.int (1 : Int32)), (.int cn), (.ref a1)])) _
      refine XS.isub X18.here hx rfl (hb hby d7_27) rfl ?_
      show Steps p.tables e below (T18.setTop (mkF m 28 #[.val (.ref a1), .val (.int p1), .val (.int (own_get u w p1))] [(.int (cn - (1 : Int32))), (.ref a1)])) _
      refine st19 _ ?_
      show Steps p.tables e below (T19.setTop (mkF m 31 #[.val (.ref a1), .val (.int p1), .val (.int (own_get u w p1))] [])) _
      refine XS.iloadN X19.here hx rfl (hb hby d7_31) rfl ?_
      show Steps p.tables e below (T19.setTop (mkF m 32 #[.val (.ref a1), .val (.int p1), .val (.int (own_get u w p1))] [(.int (own_get u w p1))])) _
      exact retN X19 hx (t := .boolean) Bd.returns (by simp) (hb hby d7_32) hr
    · show Q7 Z a1 p1 bs t kc cn la u w h0 n0 _ T19.heap _
      rw [e19]
      exact ⟨cn - (1 : Int32), own_ru (own_clr w p1), own_clr w p1, by rw [own_g01], N30, K31, ⟨f21, f22, f20, f23, ⟨f24, f26, f27, f28⟩⟩, Or.inr ⟨hA, rfl, rfl, rfl⟩⟩
theorem d4_0 : decode jdk_92_method_6_code 0 = .ok (.aload_n 0, 1) := by decide +kernel
theorem d4_1 : decode jdk_92_method_6_code 1 = .ok (.iload_n 1, 1) := by decide +kernel
theorem d4_2 : decode jdk_92_method_6_code 2 = .ok (.iconst 1, 1) := by decide +kernel
theorem d4_3 : decode jdk_92_method_6_code 3 = .ok (.isub, 1) := by decide +kernel
theorem d4_4 : decode jdk_92_method_6_code 4 = .ok (.invokestatic 52, 3) := by decide +kernel
theorem d4_7 : decode jdk_92_method_6_code 7 = .ok (.iconst 1, 1) := by decide +kernel
theorem d4_8 : decode jdk_92_method_6_code 8 = .ok (.iadd, 1) := by decide +kernel
theorem d4_9 : decode jdk_92_method_6_code 9 = .ok (.newarray .long, 2) := by decide +kernel
theorem d4_11 : decode jdk_92_method_6_code 11 = .ok (.putfield 11, 3) := by decide +kernel
theorem d4_14 : decode jdk_92_method_6_code 14 = .ok (.return_, 1) := by decide +kernel
theorem ef_rm4 (m : MethodId) (x0 : Addr) (x1 : Int32) : entryFrame m #[(.ref x0), (.int x1)] 2 = mkF m 0 #[.val (.ref x0), .val (.int x1)] [] := by first | (simp [entryFrame, mkF, argsToLocals, Value.category]; done) | rfl
def Q4 (Z : State) (a1 : Addr) (p1 : Int32) (u : Int32) (h0 : Heap) (n0 : Nat) (v : Option Value) (h : Heap) (L : List Loc) : Prop := v = none ∧ Fr n0 L ∧ Keep h0 h [a1] ∧ ∃ t kc, Fld Z h a1 "java/util/BitSet" "sizeIsSticky" "Z" (.int (0 : Int32)) ∧ Exa Z h a1 "java/util/BitSet" ∧ n0 ≤ t ∧ h0.size ≤ t ∧ Fld Z h a1 "java/util/BitSet" "wordsInUse" "I" (.int u) ∧ Fld Z h a1 "java/util/BitSet" "words" "[J" (.ref t) ∧ Arv Z h t kc .long 1 [.long (0 : Int64)] (.long (0 : Int64))
set_option maxHeartbeats 40000000 in
theorem rm4 (l : Launch) (Z : State) (a0 : Array Value) (hw : ∀ d ∈ tables_1, d.before a0 Z = true) (ws : List Jvm.Cond) (a1 : Addr) (p1 : Int32) (u : Int32) (h0 : Heap) (n0 : Nat) (Z0 : n0 ≤ h0.size) (gn_a1 : n0 ≤ a1) (E1 : Exa Z h0 a1 "java/util/BitSet") (F1 : Fld Z h0 a1 "java/util/BitSet" "wordsInUse" "I" (.int u)) (F2 : Fld Z h0 a1 "java/util/BitSet" "words" "[J" .null) (F3 : Fld Z h0 a1 "java/util/BitSet" "sizeIsSticky" "Z" (.int (0 : Int32))) (hp : p1 = 64) :
    MetFree l (⟨"java/util/BitSet", "initWords", "(I)V"⟩ : MethodName) (head1 (Jvm.Cond.code (⟨"java/util/BitSet", "initWords", "(I)V"⟩ : MethodName) jdk_92_method_6_code 2 none :: ws) ({ frames := 1, cells := 1, slots := 1, locals := 13 } : Room)) (fun a U => a = #[(.ref a1), (.int p1)] ∧ Z.Warmed39 U.vm ∧ U.heap = h0) (fun _ _ _ _ _ => True) (fun _ U o U' => ∃ v L, o = .returned v ∧ Q4 Z a1 p1 u h0 n0 v U'.heap L ∧ FrameEnd U o U' L ({ frames := 1, cells := 1, slots := 1, locals := 13 } : Room).cells ({ frames := 1, cells := 1, slots := 1, locals := 13 } : Room).slots) := by
  refine MetFree.of_bodySF (plainFor_of_name pn_0) hisR ?_
  intro p e s m args below meth c s₁ Bd hml0 hP hK
  obtain ⟨rfl, hZ, hh⟩ := hP
  have hx := Bd.exec
  have hby := Bd.bytes
  have hml : c.maxLocals = 2 := hml0
  have hown : s.vm.findClass "java/util/BitSet" = some m.cls := findClass_of_methodNamed Bd.named
  have hnm := (name_of_methodNamed Bd.named Bd.method).1
  have X0 : Stand p l e ({ frames := 1, cells := 1, slots := 1, locals := 13 } : Room) s m #[(.ref a1), (.int p1)] below meth c s₁ [] 0 0 := Stand.of_body Bd
  have e0 : s₁.heap = h0 := by rw [← hh, Bd.state]; rfl
  have N0 := Fr.nil n0
  have pre0 : ∀ tgt, Steps p.tables e below (s₁.setTop (mkF m 0 #[.val (.ref a1), .val (.int p1)] [])) tgt → Steps p.tables e below (s₁.setTop (entryFrame m #[(.ref a1), (.int p1)] 2)) tgt := fun tgt k => castTop (ef_rm4 m a1 p1) k
  obtain ⟨_, _, ⟨T1, L1, k1, n1⟩, -, X1, ⟨Lc1, hQ1, l1, y1, z1⟩, st1⟩ := Jvm.LawKit.callS X0 hx (y := (⟨"java/util/BitSet", "wordIndex", "(I)I"⟩ : MethodName)) hown (mvT hZ (hw _ (List.mem_of_getElem? (i := 25) rfl))) (mvT hZ (hw _ (List.mem_of_getElem? (i := 26) rfl))) (mvT hZ (hw _ (List.mem_of_getElem? (i := 11) rfl))) (mvT hZ (hw _ (List.mem_of_getElem? (i := 27) rfl))) (by decide) (backOf (W := 1) (rm5 l Z a0 hw [] (p1 - (1 : Int32))  h0 n0 Z0 ) hZ (hw _ (List.mem_of_getElem? (i := 27) rfl)) (hw _ (List.mem_of_getElem? (i := 11) rfl)) (by decide) (by decide)) (g := (mkF m 4 #[.val (.ref a1), .val (.int p1)] [(.int (p1 - (1 : Int32))), (.ref a1)])) rfl (by rw [hml]; rfl) (argsL := [(.int (p1 - (1 : Int32)))]) (rest := [(.ref a1)]) (lenOf pd_2 rfl) rfl (by show 2 * 0 + _ ≤ _; exact Nat.le_of_eq rfl) (hb hby d4_4) (fun _ _ => ⟨rfl, e0, (by decide : 0 + 0 ≤ _), (by decide : 0 + 0 ≤ _)⟩)
  dsimp only [Pt.U, Pt.locs, Pt.cells, Pt.slots] at X1 l1 y1 z1 st1 hQ1
  subst l1 y1 z1
  obtain ⟨rfl, Nq1, e1⟩ := hQ1
  have N2 := Fr.app N0 Nq1
  have pre3 : ∀ tgt, Steps p.tables e below (T1.setTop (mkF m 9 #[.val (.ref a1), .val (.int p1)] [(.int ((own_f5 (p1 - (1 : Int32))) + (1 : Int32))), (.ref a1)])) tgt → Steps p.tables e below (s₁.setTop (entryFrame m #[(.ref a1), (.int p1)] 2)) tgt := fun tgt kt => pre0 _ (by
    show Steps p.tables e below (s₁.setTop (mkF m 0 #[.val (.ref a1), .val (.int p1)] [])) _
    refine XS.aloadN X0.here hx rfl (hb hby d4_0) rfl rfl ?_
    show Steps p.tables e below (s₁.setTop (mkF m 1 #[.val (.ref a1), .val (.int p1)] [(.ref a1)])) _
    refine XS.iloadN X0.here hx rfl (hb hby d4_1) rfl ?_
    show Steps p.tables e below (s₁.setTop (mkF m 2 #[.val (.ref a1), .val (.int p1)] [(.int p1), (.ref a1)])) _
    refine XS.iconst X0.here hx rfl (hb hby d4_2) ?_
    show Steps p.tables e below (s₁.setTop (mkF m 3 #[.val (.ref a1), .val (.int p1)] [(.int (1 : Int32)), (.int p1), (.ref a1)])) _
    refine XS.isub X0.here hx rfl (hb hby d4_3) rfl ?_
    show Steps p.tables e below (s₁.setTop (mkF m 4 #[.val (.ref a1), .val (.int p1)] [(.int (p1 - (1 : Int32))), (.ref a1)])) _
    refine st1 _ ?_
    show Steps p.tables e below (T1.setTop (mkF m 7 #[.val (.ref a1), .val (.int p1)] [(.int (own_f5 (p1 - (1 : Int32)))), (.ref a1)])) _
    refine XS.iconst X1.here hx rfl (hb hby d4_7) ?_
    show Steps p.tables e below (T1.setTop (mkF m 8 #[.val (.ref a1), .val (.int p1)] [(.int (1 : Int32)), (.int (own_f5 (p1 - (1 : Int32)))), (.ref a1)])) _
    refine XS.iadd X1.here hx rfl (hb hby d4_8) rfl ?_
    exact kt)
  have rw4 : ((own_f5 (p1 - (1 : Int32))) + (1 : Int32)) = (1 : Int32) := by rw [hp]; decide
  rw [rw4] at pre3
  obtain ⟨T5, h5, k5, X5, e5, E5, A5, st5⟩ := newP X1 hx hZ (hw _ (List.mem_of_getElem? (i := 28) rfl)) e1 (g := (mkF m 9 #[.val (.ref a1), .val (.int p1)] [(.int (1 : Int32)), (.ref a1)])) rfl (hb hby d4_9) rfl (by decide) (cap := 1) (by decide) (by decide) (by decide) (by decide)
  obtain ⟨b5, g5⟩ : ∃ z, z = h0.size := ⟨_, rfl⟩
  rw [← g5] at A5 st5
  have ne6 : a1 ≠ b5 := Nat.ne_of_lt (Nat.lt_of_lt_of_le E1.lt (Nat.le_of_eq g5.symm))
  have f7 := E1.ext E5
  have f8 := F1.ext E5
  have f9 := F2.ext E5
  have f10 := F3.ext E5
  have gn_b5 : n0 ≤ b5 := Nat.le_trans Z0 (Nat.le_of_eq g5.symm)
  have zz11 : n0 ≤ h5.size := Nat.le_trans Z0 E5.1
  have sz_b5 : h0.size ≤ b5 := Nat.le_trans (Keep.refl h0 [a1]).1 (Nat.le_of_eq g5.symm)
  have K12 : Keep h0 h5 [a1] := (Keep.refl h0 [a1]).ext E5
  have f13 : Arv Z h5 b5 k5 .long (1 : Int32) [(.long (0 : Int64))] (.long (0 : Int64)) := (Arv.new A5 (by decide)).pad (pad_rep [] (.long (0 : Int64)) 1)
  obtain ⟨T14, h14, X14, e14, W14, st14⟩ := putF X5 hx hZ hown (host := "") (Or.inl (hw _ (List.mem_of_getElem? (i := 29) rfl))) Via.refl e5 f9 f7 (Or.inl (hw _ (List.mem_of_getElem? (i := 30) rfl))) (hw _ (List.mem_of_getElem? (i := 10) rfl)) (ty := (.array .long)) (by decide) rfl rfl (g := (mkF m 11 #[.val (.ref a1), .val (.int p1)] [(.ref b5), (.ref a1)])) rfl rfl (hb hby d4_11)
  have f15 := f9.same W14
  have f16 := f7.wr W14
  have f17 := f8.other W14 (Or.inr (slot_ne (Or.inl (hw _ (List.mem_of_getElem? (i := 17) rfl))) (Or.inl (hw _ (List.mem_of_getElem? (i := 30) rfl))) (by decide) (t := .int) (t' := (.array .long)) (by decide) (by decide)))
  have f18 := f10.other W14 (Or.inr (slot_ne (Or.inl (hw _ (List.mem_of_getElem? (i := 19) rfl))) (Or.inl (hw _ (List.mem_of_getElem? (i := 30) rfl))) (by decide) (t := .boolean) (t' := (.array .long)) (by decide) (by decide)))
  have f19 := f13.other W14 (Ne.symm ne6)
  have zz20 : n0 ≤ h14.size := Nat.le_trans zz11 (Keep.of_wr W14).1
  have N21 := Fr.snoc X14 N2 gn_a1
  have K22 : Keep h0 h14 [a1] := K12.wr W14 (Or.inl (List.mem_of_getElem? (i := 0) rfl))
  obtain ⟨fs, hr, hrun, hended, hW, hsame⟩ := X14.leave (v := none) (fun _ => rfl)
  refine ⟨_, _, pre3 _ ?_, hrun, hended, _, _, rfl, ?_, ⟨_, rfl⟩, hW, hsame.mono (by decide) (by decide)⟩
  · show Steps p.tables e below (T1.setTop (mkF m 9 #[.val (.ref a1), .val (.int p1)] [(.int (1 : Int32)), (.ref a1)])) _
    refine st5 _ ?_
    show Steps p.tables e below (T5.setTop (mkF m 11 #[.val (.ref a1), .val (.int p1)] [(.ref b5), (.ref a1)])) _
    refine st14 _ ?_
    show Steps p.tables e below (T14.setTop (mkF m 14 #[.val (.ref a1), .val (.int p1)] [])) _
    exact X14.returnOut hx Bd.returns (hb hby d4_14) hr
  · show Q4 Z a1 p1 u h0 n0 _ T14.heap _
    rw [e14]
    exact ⟨rfl, N21, K22, b5, k5, f18, f16, gn_b5, sz_b5, f17, f15, f19⟩
theorem d3_0 : decode jdk_92_method_4_code 0 = .ok (.aload_n 0, 1) := by decide +kernel
theorem d3_1 : decode jdk_92_method_4_code 1 = .ok (.invokespecial 21, 3) := by decide +kernel
theorem d3_4 : decode jdk_92_method_4_code 4 = .ok (.aload_n 0, 1) := by decide +kernel
theorem d3_5 : decode jdk_92_method_4_code 5 = .ok (.iconst 0, 1) := by decide +kernel
theorem d3_6 : decode jdk_92_method_4_code 6 = .ok (.putfield 7, 3) := by decide +kernel
theorem d3_9 : decode jdk_92_method_4_code 9 = .ok (.aload_n 0, 1) := by decide +kernel
theorem d3_10 : decode jdk_92_method_4_code 10 = .ok (.iconst 0, 1) := by decide +kernel
theorem d3_11 : decode jdk_92_method_4_code 11 = .ok (.putfield 24, 3) := by decide +kernel
theorem d3_14 : decode jdk_92_method_4_code 14 = .ok (.aload_n 0, 1) := by decide +kernel
theorem d3_15 : decode jdk_92_method_4_code 15 = .ok (.bipush 64, 2) := by decide +kernel
theorem d3_17 : decode jdk_92_method_4_code 17 = .ok (.invokevirtual 27, 3) := by decide +kernel
theorem d3_20 : decode jdk_92_method_4_code 20 = .ok (.aload_n 0, 1) := by decide +kernel
theorem d3_21 : decode jdk_92_method_4_code 21 = .ok (.iconst 0, 1) := by decide +kernel
theorem d3_22 : decode jdk_92_method_4_code 22 = .ok (.putfield 24, 3) := by decide +kernel
theorem d3_25 : decode jdk_92_method_4_code 25 = .ok (.return_, 1) := by decide +kernel
theorem ef_rm3 (m : MethodId) (x0 : Addr) : entryFrame m #[(.ref x0)] 1 = mkF m 0 #[.val (.ref x0)] [] := by first | (simp [entryFrame, mkF, argsToLocals, Value.category]; done) | rfl
def Q3 (Z : State) (a1 : Addr) (h0 : Heap) (n0 : Nat) (v : Option Value) (h : Heap) (L : List Loc) : Prop := v = none ∧ Fr n0 L ∧ Keep h0 h [a1] ∧ ∃ t kc, n0 ≤ t ∧ h0.size ≤ t ∧ own_BS Z h a1 t kc 0 0
set_option maxHeartbeats 40000000 in
theorem rm3 (l : Launch) (Z : State) (a0 : Array Value) (hw : ∀ d ∈ tables_1, d.before a0 Z = true) (ws : List Jvm.Cond) (a1 : Addr) (h0 : Heap) (n0 : Nat) (Z0 : n0 ≤ h0.size) (gn_a1 : n0 ≤ a1) (E1 : Exa Z h0 a1 "java/util/BitSet") (F1 : Fld Z h0 a1 "java/util/BitSet" "wordsInUse" "I" (.int (0 : Int32))) (F2 : Fld Z h0 a1 "java/util/BitSet" "words" "[J" .null) (F3 : Fld Z h0 a1 "java/util/BitSet" "sizeIsSticky" "Z" (.int (0 : Int32))) :
    MetFree l (⟨"java/util/BitSet", "<init>", "()V"⟩ : MethodName) (head1 (Jvm.Cond.code (⟨"java/util/BitSet", "<init>", "()V"⟩ : MethodName) jdk_92_method_4_code 1 none :: ws) ({ frames := 2, cells := 1, slots := 1, locals := 26 } : Room)) (fun a U => a = #[(.ref a1)] ∧ Z.Warmed39 U.vm ∧ U.heap = h0) (fun _ _ _ _ _ => True) (fun _ U o U' => ∃ v L, o = .returned v ∧ Q3 Z a1 h0 n0 v U'.heap L ∧ FrameEnd U o U' L ({ frames := 2, cells := 1, slots := 1, locals := 26 } : Room).cells ({ frames := 2, cells := 1, slots := 1, locals := 26 } : Room).slots) := by
  refine MetFree.of_bodySF (plainFor_of_name pn_0) hisR ?_
  intro p e s m args below meth c s₁ Bd hml0 hP hK
  obtain ⟨rfl, hZ, hh⟩ := hP
  have hx := Bd.exec
  have hby := Bd.bytes
  have hml : c.maxLocals = 1 := hml0
  have hown : s.vm.findClass "java/util/BitSet" = some m.cls := findClass_of_methodNamed Bd.named
  have hnm := (name_of_methodNamed Bd.named Bd.method).1
  have X0 : Stand p l e ({ frames := 2, cells := 1, slots := 1, locals := 26 } : Room) s m #[(.ref a1)] below meth c s₁ [] 0 0 := Stand.of_body Bd
  have e0 : s₁.heap = h0 := by rw [← hh, Bd.state]; rfl
  have N0 := Fr.nil n0
  have pre0 : ∀ tgt, Steps p.tables e below (s₁.setTop (mkF m 0 #[.val (.ref a1)] [])) tgt → Steps p.tables e below (s₁.setTop (entryFrame m #[(.ref a1)] 1)) tgt := fun tgt k => castTop (ef_rm3 m a1) k
  obtain ⟨T1, X1, e1, st1⟩ := initO X0 hx hZ hown (hw _ (List.mem_of_getElem? (i := 15) rfl)) (hw _ (List.mem_of_getElem? (i := 7) rfl)) (hw _ (List.mem_of_getElem? (i := 8) rfl)) e0 (g := (mkF m 1 #[.val (.ref a1)] [(.ref a1)])) rfl (by rw [hml]; rfl) rfl (hb hby d3_1) (by decide) (W := 0) (by show 2 * 0 + _ ≤ _; exact Nat.le_of_eq rfl) (by decide)
  obtain ⟨T2, h2, X2, e2, W2, st2⟩ := putF X1 hx hZ hown (host := "") (Or.inl (hw _ (List.mem_of_getElem? (i := 16) rfl))) Via.refl e1 F1 E1 (Or.inl (hw _ (List.mem_of_getElem? (i := 17) rfl))) (hw _ (List.mem_of_getElem? (i := 10) rfl)) (ty := .int) (by decide) rfl rfl (g := (mkF m 6 #[.val (.ref a1)] [(.int (0 : Int32)), (.ref a1)])) rfl rfl (hb hby d3_6)
  have f3 := F1.same W2
  have f4 := E1.wr W2
  have f5 := F2.other W2 (Or.inr (slot_ne (Or.inl (hw _ (List.mem_of_getElem? (i := 30) rfl))) (Or.inl (hw _ (List.mem_of_getElem? (i := 17) rfl))) (by decide) (t := (.array .long)) (t' := .int) (by decide) (by decide)))
  have f6 := F3.other W2 (Or.inr (slot_ne (Or.inl (hw _ (List.mem_of_getElem? (i := 19) rfl))) (Or.inl (hw _ (List.mem_of_getElem? (i := 17) rfl))) (by decide) (t := .boolean) (t' := .int) (by decide) (by decide)))
  have zz7 : n0 ≤ h2.size := Nat.le_trans Z0 (Keep.of_wr W2).1
  have N8 := Fr.snoc X2 N0 gn_a1
  have K9 : Keep h0 h2 [a1] := (Keep.refl h0 [a1]).wr W2 (Or.inl (List.mem_of_getElem? (i := 0) rfl))
  obtain ⟨T10, h10, X10, e10, W10, st10⟩ := putFN X2 hx hZ hown (hw _ (List.mem_of_getElem? (i := 18) rfl)) Via.refl e2 f6 f4 (Or.inl (hw _ (List.mem_of_getElem? (i := 19) rfl))) (hw _ (List.mem_of_getElem? (i := 10) rfl)) (ty := .boolean) (v' := (.int (0 : Int32))) (by decide) rfl rfl (g := (mkF m 11 #[.val (.ref a1)] [(.int (0 : Int32)), (.ref a1)])) rfl rfl (hb hby d3_11)
  have f11 := f6.same W10
  have f12 := f4.wr W10
  have f13 := f3.other W10 (Or.inr (slot_ne (Or.inl (hw _ (List.mem_of_getElem? (i := 17) rfl))) (Or.inl (hw _ (List.mem_of_getElem? (i := 19) rfl))) (by decide) (t := .int) (t' := .boolean) (by decide) (by decide)))
  have f14 := f5.other W10 (Or.inr (slot_ne (Or.inl (hw _ (List.mem_of_getElem? (i := 30) rfl))) (Or.inl (hw _ (List.mem_of_getElem? (i := 19) rfl))) (by decide) (t := (.array .long)) (t' := .boolean) (by decide) (by decide)))
  have zz15 : n0 ≤ h10.size := Nat.le_trans zz7 (Keep.of_wr W10).1
  have N16 := Fr.snoc X10 N8 gn_a1
  have K17 : Keep h0 h10 [a1] := K9.wr W10 (Or.inl (List.mem_of_getElem? (i := 0) rfl))
  obtain ⟨cq18, q18, q18'⟩ := f12.cell
  obtain ⟨_, _, ⟨T18, L18, k18, n18⟩, -, X18, ⟨Lc18, hQ18, l18, y18, z18⟩, st18⟩ := X10.privateBack hx (y := (⟨"java/util/BitSet", "initWords", "(I)V"⟩ : MethodName)) hown (mvT hZ (hw _ (List.mem_of_getElem? (i := 20) rfl))) (mvT hZ (hw _ (List.mem_of_getElem? (i := 21) rfl))) (mvT hZ (hw _ (List.mem_of_getElem? (i := 23) rfl))) (Cond.privateMethod_at (mvP hZ (hw _ (List.mem_of_getElem? (i := 22) rfl)) (args := #[]))) (mvT hZ (hw _ (List.mem_of_getElem? (i := 24) rfl))) (by decide) (backOf (W := 0) (rm4 l Z a0 hw [] a1 (64 : Int32) (0 : Int32) h10 n0 zz15 gn_a1 f12 f13 f14 f11 rfl) hZ (hw _ (List.mem_of_getElem? (i := 24) rfl)) (hw _ (List.mem_of_getElem? (i := 11) rfl)) (by decide) (by decide)) (g := (mkF m 17 #[.val (.ref a1)] [(.int (64 : Int32)), (.ref a1)])) rfl (by rw [hml]; rfl) (Steps.refl _) (a := a1) (by rw [e10]; exact q18) q18' (argsL := [(.int (64 : Int32))]) (rest := []) (lenOf pd_0 rfl) rfl (by show 2 * 0 + _ ≤ _; exact Nat.le_of_eq rfl) (hb hby d3_17) (fun _ _ => ⟨rfl, e10, (by decide : 0 + 1 ≤ _), (by decide : 0 + 1 ≤ _)⟩)
  dsimp only [Pt.U, Pt.locs, Pt.cells, Pt.slots] at X18 l18 y18 z18 st18 hQ18
  subst l18 y18 z18
  obtain ⟨rfl, Nq18, K18, t, kc, B4_18, B0_18, gn_t, szt, B1_18, B2_18, B3_18⟩ := hQ18
  have ne_t : a1 ≠ t := Nat.ne_of_lt (Nat.lt_of_lt_of_le f12.lt szt)
  have sz_t : h0.size ≤ t := Nat.le_trans K17.1 szt
  have ns19 : ∀ x ∈ [a1], ∃ c : Cell, h10[x]? = some c ∧ c.vm.isStatics = false := (own_allS (own_ns_e f12) own_all0)
  have f20 := f12.keep K18
  have zz21 : n0 ≤ T18.heap.size := Nat.le_trans zz15 K18.1
  have K22 : Keep h0 T18.heap [a1] := Keep.trans K17 K18 (own_allS (Or.inl (List.mem_of_getElem? (i := 0) rfl)) own_all0)
  have N23 := Fr.app N16 Nq18
  obtain ⟨T24, h24, X24, e24, W24, st24⟩ := putFN X18 hx hZ hown (hw _ (List.mem_of_getElem? (i := 18) rfl)) Via.refl rfl B4_18 B0_18 (Or.inl (hw _ (List.mem_of_getElem? (i := 19) rfl))) (hw _ (List.mem_of_getElem? (i := 10) rfl)) (ty := .boolean) (v' := (.int (0 : Int32))) (by decide) rfl rfl (g := (mkF m 22 #[.val (.ref a1)] [(.int (0 : Int32)), (.ref a1)])) rfl rfl (hb hby d3_22)
  have f25 := B4_18.same W24
  have f26 := B0_18.wr W24
  have f27 := B1_18.other W24 (Or.inr (slot_ne (Or.inl (hw _ (List.mem_of_getElem? (i := 17) rfl))) (Or.inl (hw _ (List.mem_of_getElem? (i := 19) rfl))) (by decide) (t := .int) (t' := .boolean) (by decide) (by decide)))
  have f28 := B2_18.other W24 (Or.inr (slot_ne (Or.inl (hw _ (List.mem_of_getElem? (i := 30) rfl))) (Or.inl (hw _ (List.mem_of_getElem? (i := 19) rfl))) (by decide) (t := (.array .long)) (t' := .boolean) (by decide) (by decide)))
  have f29 := B3_18.other W24 (Ne.symm ne_t)
  have zz30 : n0 ≤ h24.size := Nat.le_trans zz21 (Keep.of_wr W24).1
  have N31 := Fr.snoc X24 N23 gn_a1
  have K32 : Keep h0 h24 [a1] := K22.wr W24 (Or.inl (List.mem_of_getElem? (i := 0) rfl))
  obtain ⟨fs, hr, hrun, hended, hW, hsame⟩ := X24.leave (v := none) (fun _ => rfl)
  refine ⟨_, _, pre0 _ ?_, hrun, hended, _, _, rfl, ?_, ⟨_, rfl⟩, hW, hsame.mono (by decide) (by decide)⟩
  · show Steps p.tables e below (s₁.setTop (mkF m 0 #[.val (.ref a1)] [])) _
    refine XS.aloadN X0.here hx rfl (hb hby d3_0) rfl rfl ?_
    show Steps p.tables e below (s₁.setTop (mkF m 1 #[.val (.ref a1)] [(.ref a1)])) _
    refine st1 _ ?_
    show Steps p.tables e below (T1.setTop (mkF m 4 #[.val (.ref a1)] [])) _
    refine XS.aloadN X1.here hx rfl (hb hby d3_4) rfl rfl ?_
    show Steps p.tables e below (T1.setTop (mkF m 5 #[.val (.ref a1)] [(.ref a1)])) _
    refine XS.iconst X1.here hx rfl (hb hby d3_5) ?_
    show Steps p.tables e below (T1.setTop (mkF m 6 #[.val (.ref a1)] [(.int (0 : Int32)), (.ref a1)])) _
    refine st2 _ ?_
    show Steps p.tables e below (T2.setTop (mkF m 9 #[.val (.ref a1)] [])) _
    refine XS.aloadN X2.here hx rfl (hb hby d3_9) rfl rfl ?_
    show Steps p.tables e below (T2.setTop (mkF m 10 #[.val (.ref a1)] [(.ref a1)])) _
    refine XS.iconst X2.here hx rfl (hb hby d3_10) ?_
    show Steps p.tables e below (T2.setTop (mkF m 11 #[.val (.ref a1)] [(.int (0 : Int32)), (.ref a1)])) _
    refine st10 _ ?_
    show Steps p.tables e below (T10.setTop (mkF m 14 #[.val (.ref a1)] [])) _
    refine XS.aloadN X10.here hx rfl (hb hby d3_14) rfl rfl ?_
    show Steps p.tables e below (T10.setTop (mkF m 15 #[.val (.ref a1)] [(.ref a1)])) _
    refine XS.bipush X10.here hx rfl (hb hby d3_15) ?_
    show Steps p.tables e below (T10.setTop (mkF m 17 #[.val (.ref a1)] [(.int (64 : Int32)), (.ref a1)])) _
    refine st18.trans ?_
    show Steps p.tables e below (T18.setTop (mkF m 20 #[.val (.ref a1)] [])) _
    refine XS.aloadN X18.here hx rfl (hb hby d3_20) rfl rfl ?_
    show Steps p.tables e below (T18.setTop (mkF m 21 #[.val (.ref a1)] [(.ref a1)])) _
    refine XS.iconst X18.here hx rfl (hb hby d3_21) ?_
    show Steps p.tables e below (T18.setTop (mkF m 22 #[.val (.ref a1)] [(.int (0 : Int32)), (.ref a1)])) _
    refine st24 _ ?_
    show Steps p.tables e below (T24.setTop (mkF m 25 #[.val (.ref a1)] [])) _
    exact X24.returnOut hx Bd.returns (hb hby d3_25) hr
  · show Q3 Z a1 h0 n0 _ T24.heap _
    rw [e24]
    exact ⟨rfl, N31, K32, t, kc, gn_t, sz_t, ⟨f26, f27, f28, f29⟩⟩
theorem d1_0 : decode prog_5_method_1_code 0 = .ok (.aload_n 0, 1) := by decide +kernel
theorem d1_1 : decode prog_5_method_1_code 1 = .ok (.invokespecial 1, 3) := by decide +kernel
theorem d1_4 : decode prog_5_method_1_code 4 = .ok (.aload_n 0, 1) := by decide +kernel
theorem d1_5 : decode prog_5_method_1_code 5 = .ok (.new 7, 3) := by decide +kernel
theorem d1_8 : decode prog_5_method_1_code 8 = .ok (.dup, 1) := by decide +kernel
theorem d1_9 : decode prog_5_method_1_code 9 = .ok (.invokespecial 9, 3) := by decide +kernel
theorem d1_12 : decode prog_5_method_1_code 12 = .ok (.putfield 10, 3) := by decide +kernel
theorem d1_15 : decode prog_5_method_1_code 15 = .ok (.return_, 1) := by decide +kernel
theorem ef_rm1 (m : MethodId) (x0 : Addr) : entryFrame m #[(.ref x0)] 1 = mkF m 0 #[.val (.ref x0)] [] := by first | (simp [entryFrame, mkF, argsToLocals, Value.category]; done) | rfl
def Q1 (Z : State) (a1 : Addr) (h0 : Heap) (n0 : Nat) (v : Option Value) (h : Heap) (L : List Loc) : Prop := v = none ∧ Fr n0 L ∧ Keep h0 h [a1] ∧ ∃ bs t kc, n0 ≤ bs ∧ n0 ≤ t ∧ h0.size ≤ bs ∧ h0.size ≤ t ∧ a1 ≠ bs ∧ a1 ≠ t ∧ bs ≠ t ∧ own_PS Z h a1 bs t kc 0 0 0 0
set_option maxHeartbeats 40000000 in
theorem rm1 (l : Launch) (Z : State) (a0 : Array Value) (hw : ∀ d ∈ tables_1, d.before a0 Z = true) (ws : List Jvm.Cond) (a1 : Addr) (h0 : Heap) (n0 : Nat) (Z0 : n0 ≤ h0.size) (gn_a1 : n0 ≤ a1) (E1 : Exa Z h0 a1 "com/example/oblivious/oblivious/broker/PacketIds") (F1 : Fld Z h0 a1 "com/example/oblivious/oblivious/broker/PacketIds" "inUse" "Ljava/util/BitSet;" .null) (F2 : Fld Z h0 a1 "com/example/oblivious/oblivious/broker/PacketIds" "count" "I" (.int (0 : Int32))) (F3 : Fld Z h0 a1 "com/example/oblivious/oblivious/broker/PacketIds" "last" "I" (.int (0 : Int32))) :
    MetFree l (⟨"com/example/oblivious/oblivious/broker/PacketIds", "<init>", "()V"⟩ : MethodName) (head1 (Jvm.Cond.code (⟨"com/example/oblivious/oblivious/broker/PacketIds", "<init>", "()V"⟩ : MethodName) prog_5_method_1_code 1 none :: ws) ({ frames := 3, cells := 2, slots := 4, locals := 40 } : Room)) (fun a U => a = #[(.ref a1)] ∧ Z.Warmed39 U.vm ∧ U.heap = h0) (fun _ _ _ _ _ => True) (fun _ U o U' => ∃ v L, o = .returned v ∧ Q1 Z a1 h0 n0 v U'.heap L ∧ FrameEnd U o U' L ({ frames := 3, cells := 2, slots := 4, locals := 40 } : Room).cells ({ frames := 3, cells := 2, slots := 4, locals := 40 } : Room).slots) := by
  refine MetFree.of_bodySF (plainFor_of_name pn_3) hisR ?_
  intro p e s m args below meth c s₁ Bd hml0 hP hK
  obtain ⟨rfl, hZ, hh⟩ := hP
  have hx := Bd.exec
  have hby := Bd.bytes
  have hml : c.maxLocals = 1 := hml0
  have hown : s.vm.findClass "com/example/oblivious/oblivious/broker/PacketIds" = some m.cls := findClass_of_methodNamed Bd.named
  have hnm := (name_of_methodNamed Bd.named Bd.method).1
  have X0 : Stand p l e ({ frames := 3, cells := 2, slots := 4, locals := 40 } : Room) s m #[(.ref a1)] below meth c s₁ [] 0 0 := Stand.of_body Bd
  have e0 : s₁.heap = h0 := by rw [← hh, Bd.state]; rfl
  have N0 := Fr.nil n0
  have pre0 : ∀ tgt, Steps p.tables e below (s₁.setTop (mkF m 0 #[.val (.ref a1)] [])) tgt → Steps p.tables e below (s₁.setTop (entryFrame m #[(.ref a1)] 1)) tgt := fun tgt k => castTop (ef_rm1 m a1) k
  obtain ⟨T1, X1, e1, st1⟩ := initO X0 hx hZ hown (hw _ (List.mem_of_getElem? (i := 6) rfl)) (hw _ (List.mem_of_getElem? (i := 7) rfl)) (hw _ (List.mem_of_getElem? (i := 8) rfl)) e0 (g := (mkF m 1 #[.val (.ref a1)] [(.ref a1)])) rfl (by rw [hml]; rfl) rfl (hb hby d1_1) (by decide) (W := 0) (by show 2 * 0 + _ ≤ _; exact Nat.le_of_eq rfl) (by decide)
  obtain ⟨T2, h2, X2, e2, E2, A2, D2, -, st2⟩ := newO X1 hx hZ hown (hw _ (List.mem_of_getElem? (i := 9) rfl)) (hw _ (List.mem_of_getElem? (i := 10) rfl)) (hw _ (List.mem_of_getElem? (i := 11) rfl)) e1 (g := (mkF m 5 #[.val (.ref a1)] [(.ref a1)])) rfl (hb hby d1_5) (by decide) (by decide)
  obtain ⟨b2, g2⟩ : ∃ z, z = h0.size := ⟨_, rfl⟩
  rw [← g2] at A2 D2 st2
  have ne3 : a1 ≠ b2 := Nat.ne_of_lt (Nat.lt_of_lt_of_le E1.lt (Nat.le_of_eq g2.symm))
  have f4 := E1.ext E2
  have f5 := F1.ext E2
  have f6 := F2.ext E2
  have f7 := F3.ext E2
  have gn_b2 : n0 ≤ b2 := Nat.le_trans Z0 (Nat.le_of_eq g2.symm)
  have zz8 : n0 ≤ h2.size := Nat.le_trans Z0 E2.1
  have sz_b2 : h0.size ≤ b2 := Nat.le_trans (Keep.refl h0 [a1]).1 (Nat.le_of_eq g2.symm)
  have K9 : Keep h0 h2 [a1] := (Keep.refl h0 [a1]).ext E2
  have f10 : Fld Z h2 b2 "java/util/BitSet" "wordsInUse" "I" (.int (0 : Int32)) := D2 (Or.inl (hw _ (List.mem_of_getElem? (i := 17) rfl))) (ty := .int) (by decide)
  have f11 : Fld Z h2 b2 "java/util/BitSet" "sizeIsSticky" "Z" (.int (0 : Int32)) := D2 (Or.inl (hw _ (List.mem_of_getElem? (i := 19) rfl))) (ty := .boolean) (by decide)
  have f12 : Fld Z h2 b2 "java/util/BitSet" "words" "[J" .null := D2 (Or.inl (hw _ (List.mem_of_getElem? (i := 30) rfl))) (ty := (.array .long)) (by decide)
  obtain ⟨_, _, ⟨T13, L13, k13, n13⟩, -, X13, ⟨Lc13, hQ13, l13, y13, z13⟩, st13⟩ := X2.specialBack hx (y := (⟨"java/util/BitSet", "<init>", "()V"⟩ : MethodName)) rfl hown (mvT hZ (hw _ (List.mem_of_getElem? (i := 12) rfl))) (mvT hZ (hw _ (List.mem_of_getElem? (i := 13) rfl))) (mvT hZ (hw _ (List.mem_of_getElem? (i := 14) rfl))) (by decide) (backOf (W := 2) (rm3 l Z a0 hw [] b2 h2 n0 zz8 gn_b2 A2 f10 f12 f11) hZ (hw _ (List.mem_of_getElem? (i := 14) rfl)) (hw _ (List.mem_of_getElem? (i := 11) rfl)) (by decide) (by decide)) (g := (mkF m 9 #[.val (.ref a1)] [(.ref b2), (.ref b2), (.ref a1)])) rfl (by rw [hml]; rfl) (Steps.refl _) (a := b2) (argsL := []) (rest := [(.ref b2), (.ref a1)]) (lenOf pd_1 rfl) rfl (by show 2 * 0 + _ ≤ _; exact Nat.le_of_eq rfl) (hb hby d1_9) (fun _ _ => ⟨rfl, e2, (by decide : 1 + 1 ≤ _), (by decide : 3 + 1 ≤ _)⟩)
  dsimp only [Pt.U, Pt.locs, Pt.cells, Pt.slots] at X13 l13 y13 z13 st13 hQ13
  subst l13 y13 z13
  obtain ⟨rfl, Nq13, K13, t, kc, gn_t, szt, B0_13, B1_13, B2_13, B3_13⟩ := hQ13
  have ne14 : a1 ≠ t := Nat.ne_of_lt (Nat.lt_of_lt_of_le f4.lt szt)
  have ne15 : b2 ≠ t := Nat.ne_of_lt (Nat.lt_of_lt_of_le A2.lt szt)
  have sz_t : h0.size ≤ t := Nat.le_trans K9.1 szt
  have ns16 : ∀ x ∈ [b2], ∃ c : Cell, h2[x]? = some c ∧ c.vm.isStatics = false := (own_allS (own_ns_e A2) own_all0)
  have f17 := f4.keep K13
  have f18 := f5.keep K13 (own_nmS ne3 own_nm0)
  have f19 := f6.keep K13 (own_nmS ne3 own_nm0)
  have f20 := f7.keep K13 (own_nmS ne3 own_nm0)
  have f21 := A2.keep K13
  have zz22 : n0 ≤ T13.heap.size := Nat.le_trans zz8 K13.1
  have K23 : Keep h0 T13.heap [a1] := Keep.trans K9 K13 (own_allS (Or.inr sz_b2) own_all0)
  have N24 := Fr.app N0 Nq13
  obtain ⟨T25, h25, X25, e25, W25, st25⟩ := putF X13 hx hZ hown (host := "") (Or.inl (hw _ (List.mem_of_getElem? (i := 31) rfl))) Via.refl rfl f18 f17 (Or.inr ⟨(hw _ (List.mem_of_getElem? (i := 32) rfl)), rfl, hnm⟩) (hw _ (List.mem_of_getElem? (i := 1) rfl)) (ty := (.object "java/util/BitSet")) (by decide) rfl rfl (g := (mkF m 12 #[.val (.ref a1)] [(.ref b2), (.ref a1)])) rfl rfl (hb hby d1_12)
  have f26 := f18.same W25
  have f27 := f17.wr W25
  have f28 := f19.other W25 (Or.inr (slot_ne (Or.inl (hw _ (List.mem_of_getElem? (i := 39) rfl))) (Or.inr (hw _ (List.mem_of_getElem? (i := 32) rfl))) (by decide) (t := .int) (t' := (.object "java/util/BitSet")) (by decide) (by decide)))
  have f29 := f20.other W25 (Or.inr (slot_ne (Or.inl (hw _ (List.mem_of_getElem? (i := 64) rfl))) (Or.inr (hw _ (List.mem_of_getElem? (i := 32) rfl))) (by decide) (t := .int) (t' := (.object "java/util/BitSet")) (by decide) (by decide)))
  have f30 := B0_13.wr W25
  have f31 := B1_13.other W25 (Or.inl (Ne.symm ne3))
  have f32 := B2_13.other W25 (Or.inl (Ne.symm ne3))
  have f33 := B3_13.other W25 (Ne.symm ne14)
  have zz34 : n0 ≤ h25.size := Nat.le_trans zz22 (Keep.of_wr W25).1
  have N35 := Fr.snoc X25 N24 gn_a1
  have K36 : Keep h0 h25 [a1] := K23.wr W25 (Or.inl (List.mem_of_getElem? (i := 0) rfl))
  obtain ⟨fs, hr, hrun, hended, hW, hsame⟩ := X25.leave (v := none) (fun _ => rfl)
  refine ⟨_, _, pre0 _ ?_, hrun, hended, _, _, rfl, ?_, ⟨_, rfl⟩, hW, hsame.mono (by decide) (by decide)⟩
  · show Steps p.tables e below (s₁.setTop (mkF m 0 #[.val (.ref a1)] [])) _
    refine XS.aloadN X0.here hx rfl (hb hby d1_0) rfl rfl ?_
    show Steps p.tables e below (s₁.setTop (mkF m 1 #[.val (.ref a1)] [(.ref a1)])) _
    refine st1 _ ?_
    show Steps p.tables e below (T1.setTop (mkF m 4 #[.val (.ref a1)] [])) _
    refine XS.aloadN X1.here hx rfl (hb hby d1_4) rfl rfl ?_
    show Steps p.tables e below (T1.setTop (mkF m 5 #[.val (.ref a1)] [(.ref a1)])) _
    refine st2 _ ?_
    show Steps p.tables e below (T2.setTop (mkF m 8 #[.val (.ref a1)] [(.ref b2), (.ref a1)])) _
    refine XS.dup X2.here hx rfl (hb hby d1_8) rfl rfl ?_
    show Steps p.tables e below (T2.setTop (mkF m 9 #[.val (.ref a1)] [(.ref b2), (.ref b2), (.ref a1)])) _
    refine st13.trans ?_
    show Steps p.tables e below (T13.setTop (mkF m 12 #[.val (.ref a1)] [(.ref b2), (.ref a1)])) _
    refine st25 _ ?_
    show Steps p.tables e below (T25.setTop (mkF m 15 #[.val (.ref a1)] [])) _
    exact X25.returnOut hx Bd.returns (hb hby d1_15) hr
  · show Q1 Z a1 h0 n0 _ T25.heap _
    rw [e25]
    exact ⟨rfl, N35, K36, b2, t, kc, gn_b2, gn_t, sz_b2, sz_t, ne3, ne14, ne15, ⟨f27, f26, f28, f29, ⟨f30, f31, f32, f33⟩⟩⟩
theorem own_n4 (x : Int32) : x &&& 3 = 0 ∨ x &&& 3 = 1 ∨ x &&& 3 = 2 ∨ x &&& 3 = 3 := by
  have h := own_and x 3 (by decide)
  have e : (3 : Int32).toInt = 3 := by decide
  obtain ⟨k, hk, q, -⟩ := own_of (x &&& 3) 4 h.1 (by omega) (by decide)
  rw [q]
  have key : ∀ n : Fin 4, Int32.ofNat n.val = 0 ∨ Int32.ofNat n.val = 1 ∨ Int32.ofNat n.val = 2 ∨ Int32.ofNat n.val = 3 := by decide
  exact key ⟨k, hk⟩
theorem own_n8 (x : Int32) {p : Int32 → Prop} (H : ∀ k : Fin 8, p (Int32.ofNat k.val)) : p (x &&& 7) := by
  have h := own_and x 7 (by decide)
  have e : (7 : Int32).toInt = 7 := by decide
  obtain ⟨k, hk, q, -⟩ := own_of (x &&& 7) 8 h.1 (by omega) (by decide)
  rw [q]
  exact H ⟨k, hk⟩
theorem own_i7 (x : Int32) : ¬ (x &&& 7) < 0 ∧ own_f5 (x &&& 7) = 0 := own_n8 x (p := fun z => ¬ z < 0 ∧ own_f5 z = 0) (by decide +kernel)
theorem own_c0 {x c' u' : Int32} {w' : Int64} (h : (own_get 0 0 (x &&& 7) = 0 ∧ c' = 0 ∧ u' = 0 ∧ w' = 0) ∨ (¬ own_get 0 0 (x &&& 7) = 0 ∧ c' = 0 - (1 : Int32) ∧ u' = own_ru (own_clr 0 (x &&& 7)) ∧ w' = own_clr 0 (x &&& 7))) :
    c' < 65535 ∧ (u' = 0 ∨ u' = 1) ∧ own_ncb u' w' ((0 : Int32) + (1 : Int32)) = 1 ∧ (0 < u' → ¬ lcmpW (own_cw w' ((0 : Int32) + (1 : Int32))) 0 = 0) := by
  have key := own_n8 x (p := fun z => own_ru (own_clr 0 z) = 0 ∨ own_ru (own_clr 0 z) = 1) (by decide +kernel)
  have key2 := own_n8 x (p := fun z => own_ncb (own_ru (own_clr 0 z)) (own_clr 0 z) ((0 : Int32) + (1 : Int32)) = 1 ∧ ¬ lcmpW (own_cw (own_clr 0 z) ((0 : Int32) + (1 : Int32))) 0 = 0) (by decide +kernel)
  rcases h with ⟨-, rfl, rfl, rfl⟩ | ⟨-, rfl, rfl, rfl⟩
  · decide +kernel
  · exact ⟨by decide +kernel, key, key2.1, fun _ => key2.2⟩
theorem own_e0 (x : Int32) : ((x &&& 7) < 1 → own_get 0 0 (x &&& 7) = 0) ∧ (¬ (x &&& 7) < 1 → (0 : Int32) < (x &&& 7) → own_get 0 0 (x &&& 7) = 0) ∧ (¬ (x &&& 7) < 1 → ¬ (0 : Int32) < (x &&& 7) → own_get 0 0 (x &&& 7) = 1) :=
  own_n8 x (p := fun z => (z < 1 → own_get 0 0 z = 0) ∧ (¬ z < 1 → (0 : Int32) < z → own_get 0 0 z = 0) ∧ (¬ z < 1 → ¬ (0 : Int32) < z → own_get 0 0 z = 1)) (by decide +kernel)
theorem own_c1 {x c' u' : Int32} {w' : Int64} (h : (own_get 1 2 (x &&& 7) = 0 ∧ c' = 1 ∧ u' = 1 ∧ w' = 2) ∨ (¬ own_get 1 2 (x &&& 7) = 0 ∧ c' = 1 - (1 : Int32) ∧ u' = own_ru (own_clr 2 (x &&& 7)) ∧ w' = own_clr 2 (x &&& 7))) :
    c' < 65535 ∧ (u' = 0 ∨ u' = 1) ∧ own_ncb u' w' ((1 : Int32) + (1 : Int32)) = 2 ∧ (0 < u' → ¬ lcmpW (own_cw w' ((1 : Int32) + (1 : Int32))) 0 = 0) := by
  have key := own_n8 x (p := fun z => own_ru (own_clr 2 z) = 0 ∨ own_ru (own_clr 2 z) = 1) (by decide +kernel)
  have key2 := own_n8 x (p := fun z => own_ncb (own_ru (own_clr 2 z)) (own_clr 2 z) ((1 : Int32) + (1 : Int32)) = 2 ∧ ¬ lcmpW (own_cw (own_clr 2 z) ((1 : Int32) + (1 : Int32))) 0 = 0) (by decide +kernel)
  rcases h with ⟨-, rfl, rfl, rfl⟩ | ⟨-, rfl, rfl, rfl⟩
  · decide +kernel
  · exact ⟨by decide +kernel, key, key2.1, fun _ => key2.2⟩
theorem own_e1 (x : Int32) : ((x &&& 7) < 1 → own_get 1 2 (x &&& 7) = 0) ∧ (¬ (x &&& 7) < 1 → (1 : Int32) < (x &&& 7) → own_get 1 2 (x &&& 7) = 0) ∧ (¬ (x &&& 7) < 1 → ¬ (1 : Int32) < (x &&& 7) → own_get 1 2 (x &&& 7) = 1) :=
  own_n8 x (p := fun z => (z < 1 → own_get 1 2 z = 0) ∧ (¬ z < 1 → (1 : Int32) < z → own_get 1 2 z = 0) ∧ (¬ z < 1 → ¬ (1 : Int32) < z → own_get 1 2 z = 1)) (by decide +kernel)
theorem own_c2 {x c' u' : Int32} {w' : Int64} (h : (own_get 1 6 (x &&& 7) = 0 ∧ c' = 2 ∧ u' = 1 ∧ w' = 6) ∨ (¬ own_get 1 6 (x &&& 7) = 0 ∧ c' = 2 - (1 : Int32) ∧ u' = own_ru (own_clr 6 (x &&& 7)) ∧ w' = own_clr 6 (x &&& 7))) :
    c' < 65535 ∧ (u' = 0 ∨ u' = 1) ∧ own_ncb u' w' ((2 : Int32) + (1 : Int32)) = 3 ∧ (0 < u' → ¬ lcmpW (own_cw w' ((2 : Int32) + (1 : Int32))) 0 = 0) := by
  have key := own_n8 x (p := fun z => own_ru (own_clr 6 z) = 0 ∨ own_ru (own_clr 6 z) = 1) (by decide +kernel)
  have key2 := own_n8 x (p := fun z => own_ncb (own_ru (own_clr 6 z)) (own_clr 6 z) ((2 : Int32) + (1 : Int32)) = 3 ∧ ¬ lcmpW (own_cw (own_clr 6 z) ((2 : Int32) + (1 : Int32))) 0 = 0) (by decide +kernel)
  rcases h with ⟨-, rfl, rfl, rfl⟩ | ⟨-, rfl, rfl, rfl⟩
  · decide +kernel
  · exact ⟨by decide +kernel, key, key2.1, fun _ => key2.2⟩
theorem own_e2 (x : Int32) : ((x &&& 7) < 1 → own_get 1 6 (x &&& 7) = 0) ∧ (¬ (x &&& 7) < 1 → (2 : Int32) < (x &&& 7) → own_get 1 6 (x &&& 7) = 0) ∧ (¬ (x &&& 7) < 1 → ¬ (2 : Int32) < (x &&& 7) → own_get 1 6 (x &&& 7) = 1) :=
  own_n8 x (p := fun z => (z < 1 → own_get 1 6 z = 0) ∧ (¬ z < 1 → (2 : Int32) < z → own_get 1 6 z = 0) ∧ (¬ z < 1 → ¬ (2 : Int32) < z → own_get 1 6 z = 1)) (by decide +kernel)
theorem own_c3 {x c' u' : Int32} {w' : Int64} (h : (own_get 1 14 (x &&& 7) = 0 ∧ c' = 3 ∧ u' = 1 ∧ w' = 14) ∨ (¬ own_get 1 14 (x &&& 7) = 0 ∧ c' = 3 - (1 : Int32) ∧ u' = own_ru (own_clr 14 (x &&& 7)) ∧ w' = own_clr 14 (x &&& 7))) :
    c' < 65535 ∧ (u' = 0 ∨ u' = 1) ∧ own_ncb u' w' ((3 : Int32) + (1 : Int32)) = 4 ∧ (0 < u' → ¬ lcmpW (own_cw w' ((3 : Int32) + (1 : Int32))) 0 = 0) := by
  have key := own_n8 x (p := fun z => own_ru (own_clr 14 z) = 0 ∨ own_ru (own_clr 14 z) = 1) (by decide +kernel)
  have key2 := own_n8 x (p := fun z => own_ncb (own_ru (own_clr 14 z)) (own_clr 14 z) ((3 : Int32) + (1 : Int32)) = 4 ∧ ¬ lcmpW (own_cw (own_clr 14 z) ((3 : Int32) + (1 : Int32))) 0 = 0) (by decide +kernel)
  rcases h with ⟨-, rfl, rfl, rfl⟩ | ⟨-, rfl, rfl, rfl⟩
  · decide +kernel
  · exact ⟨by decide +kernel, key, key2.1, fun _ => key2.2⟩
theorem own_e3 (x : Int32) : ((x &&& 7) < 1 → own_get 1 14 (x &&& 7) = 0) ∧ (¬ (x &&& 7) < 1 → (3 : Int32) < (x &&& 7) → own_get 1 14 (x &&& 7) = 0) ∧ (¬ (x &&& 7) < 1 → ¬ (3 : Int32) < (x &&& 7) → own_get 1 14 (x &&& 7) = 1) :=
  own_n8 x (p := fun z => (z < 1 → own_get 1 14 z = 0) ∧ (¬ z < 1 → (3 : Int32) < z → own_get 1 14 z = 0) ∧ (¬ z < 1 → ¬ (3 : Int32) < z → own_get 1 14 z = 1)) (by decide +kernel)
theorem pd_6 : parseMethodDescriptor "()I" = some ⟨[], some .int⟩ := by decide +kernel
theorem own_lt1 {g c' n u' u : Int32} {w' w : Int64} {q : Int32} (h : (g = 0 ∧ c' = n ∧ u' = u ∧ w' = w) ∨ (¬ g = 0 ∧ c' = n - (1 : Int32) ∧ u' = own_ru (own_clr w q) ∧ w' = own_clr w q)) (h0 : n + 1 < 65535 := by decide) (h1 : n - 1 + 1 < 65535 := by decide) : c' + 1 < 65535 := by
  rcases h with ⟨-, rfl, -, -⟩ | ⟨-, rfl, -, -⟩
  · exact h0
  · exact h1
theorem pn_4 : plainName "com/example/oblivious/oblivious/broker/PacketIdsHasFreePinLaw" = true := by first | (simp [plainName, overriddenIn]; done) | decide +kernel
theorem ef_rm0 (m : MethodId) (x0 : Int32) (x1 : Int32) : entryFrame m #[(.int x0), (.int x1)] maxLocals = mkF m 0 #[.val (.int x0), .val (.int x1), .unset, .unset, .unset, .unset, .unset, .unset, .unset] [] := by first | (simp [entryFrame, mkF, argsToLocals, Value.category, maxLocals]; done) | rfl
def Q0 (Z : State) (p0 : Int32) (p1 : Int32) (h0 : Heap) (n0 : Nat) (v : Option Value) (h : Heap) (L : List Loc) : Prop := v = some (.int (1 : Int32)) ∧ Fr n0 L
set_option maxHeartbeats 40000000 in
theorem rm0 (l : Launch) (Z : State) (a0 : Array Value) (hw : ∀ d ∈ tables_1, d.before a0 Z = true) (ws : List Jvm.Cond) (p0 : Int32) (p1 : Int32) (h0 : Heap) (n0 : Nat) (Z0 : n0 ≤ h0.size) (St : Sta Z h0 "java/util/BitSet" "$assertionsDisabled" "Z" (.int 1)) :
    MetFree l x (head1 (Jvm.Cond.code x code maxLocals ret :: ws) room_1) (fun a U => a = #[(.int p0), (.int p1)] ∧ Z.Warmed39 U.vm ∧ U.heap = h0) (fun _ _ _ _ _ => True) (fun _ U o U' => ∃ v L, o = .returned v ∧ Q0 Z p0 p1 h0 n0 v U'.heap L ∧ FrameEnd U o U' L room_1.cells room_1.slots) := by
  refine MetFree.of_bodySF (plainFor_of_name pn_4) hisR ?_
  intro p e s m args below meth c s₁ Bd hml0 hP hK
  obtain ⟨rfl, hZ, hh⟩ := hP
  have hx := Bd.exec
  have hby := Bd.bytes
  have hml : c.maxLocals = 9 := hml0
  have hown : s.vm.findClass "com/example/oblivious/oblivious/broker/PacketIdsHasFreePinLaw" = some m.cls := findClass_of_methodNamed Bd.named
  have hnm := (name_of_methodNamed Bd.named Bd.method).1
  have X0 : Stand p l e room_1 s m #[(.int p0), (.int p1)] below meth c s₁ [] 0 0 := Stand.of_body Bd
  have e0 : s₁.heap = h0 := by rw [← hh, Bd.state]; rfl
  have N0 := Fr.nil n0
  have pre0 : ∀ tgt, Steps p.tables e below (s₁.setTop (mkF m 0 #[.val (.int p0), .val (.int p1), .unset, .unset, .unset, .unset, .unset, .unset, .unset] [])) tgt → Steps p.tables e below (s₁.setTop (entryFrame m #[(.int p0), (.int p1)] maxLocals)) tgt := fun tgt k => castTop (ef_rm0 m p0 p1) k
  obtain ⟨T1, h1, X1, e1, E1, A1, D1, -, st1⟩ := newO X0 hx hZ hown (hw _ (List.mem_of_getElem? (i := 0) rfl)) (hw _ (List.mem_of_getElem? (i := 1) rfl)) (hw _ (List.mem_of_getElem? (i := 2) rfl)) e0 (g := (mkF m 0 #[.val (.int p0), .val (.int p1), .unset, .unset, .unset, .unset, .unset, .unset, .unset] [])) rfl (hb hby at_0) (by decide) (by decide)
  obtain ⟨b1, g1⟩ : ∃ z, z = h0.size := ⟨_, rfl⟩
  rw [← g1] at A1 D1 st1
  have f2 := St.ext E1
  have gn_b1 : n0 ≤ b1 := Nat.le_trans Z0 (Nat.le_of_eq g1.symm)
  have zz3 : n0 ≤ h1.size := Nat.le_trans Z0 E1.1
  have f4 : Fld Z h1 b1 "com/example/oblivious/oblivious/broker/PacketIds" "inUse" "Ljava/util/BitSet;" .null := D1 (Or.inr (hw _ (List.mem_of_getElem? (i := 32) rfl))) (ty := (.object "java/util/BitSet")) (by decide)
  have f5 : Fld Z h1 b1 "com/example/oblivious/oblivious/broker/PacketIds" "count" "I" (.int (0 : Int32)) := D1 (Or.inl (hw _ (List.mem_of_getElem? (i := 39) rfl))) (ty := .int) (by decide)
  have f6 : Fld Z h1 b1 "com/example/oblivious/oblivious/broker/PacketIds" "last" "I" (.int (0 : Int32)) := D1 (Or.inl (hw _ (List.mem_of_getElem? (i := 64) rfl))) (ty := .int) (by decide)
  obtain ⟨_, _, ⟨T7, L7, k7, n7⟩, -, X7, ⟨Lc7, hQ7, l7, y7, z7⟩, st7⟩ := X1.specialBack hx (y := (⟨"com/example/oblivious/oblivious/broker/PacketIds", "<init>", "()V"⟩ : MethodName)) rfl hown (mvT hZ (hw _ (List.mem_of_getElem? (i := 3) rfl))) (mvT hZ (hw _ (List.mem_of_getElem? (i := 4) rfl))) (mvT hZ (hw _ (List.mem_of_getElem? (i := 5) rfl))) (by decide) (backOf (W := 1) (rm1 l Z a0 hw [] b1 h1 n0 zz3 gn_b1 A1 f4 f5 f6) hZ (hw _ (List.mem_of_getElem? (i := 5) rfl)) (hw _ (List.mem_of_getElem? (i := 2) rfl)) (by decide) (by decide)) (g := (mkF m 4 #[.val (.int p0), .val (.int p1), .unset, .unset, .unset, .unset, .unset, .unset, .unset] [(.ref b1), (.ref b1)])) rfl (by rw [hml]; rfl) (Steps.refl _) (a := b1) (argsL := []) (rest := [(.ref b1)]) (lenOf pd_1 rfl) rfl (by show 2 * 0 + _ ≤ _; exact Nat.le_of_eq rfl) (hb hby at_4) (fun _ _ => ⟨rfl, e1, (by decide : 1 + 2 ≤ _), (by decide : 3 + 4 ≤ _)⟩)
  dsimp only [Pt.U, Pt.locs, Pt.cells, Pt.slots] at X7 l7 y7 z7 st7 hQ7
  subst l7 y7 z7
  obtain ⟨rfl, Nq7, K7, bs, t, kc, gn_bs, gn_t, szb, szt, ne1, ne2, ne3, P0_7, P1_7, P2_7, P3_7, B0_7, B1_7, B2_7, B3_7⟩ := hQ7
  have ns8 : ∀ x ∈ [b1], ∃ c : Cell, h1[x]? = some c ∧ c.vm.isStatics = false := (own_allS (own_ns_e A1) own_all0)
  have f9 := own_sta_keep f2 K7 ns8
  have f10 := A1.keep K7
  have zz11 : n0 ≤ T7.heap.size := Nat.le_trans zz3 K7.1
  have N12 := Fr.app N0 Nq7
  obtain ⟨cq13, kq13, q13a, q13b, q13c⟩ := isOf hZ rfl P0_7
  obtain ⟨_, _, ⟨T13, L13, k13, n13⟩, -, X13, ⟨Lc13, hQ13, l13, y13, z13⟩, st13⟩ := X7.virtualBack hx (y := (⟨"com/example/oblivious/oblivious/broker/PacketIds", "hasFree", "()Z"⟩ : MethodName)) (z := (⟨"com/example/oblivious/oblivious/broker/PacketIds", "hasFree", "()Z"⟩ : MethodName)) hown (mvT hZ (hw _ (List.mem_of_getElem? (i := 33) rfl))) (mvT hZ (hw _ (List.mem_of_getElem? (i := 34) rfl))) (notFace_of_selects (args := #[]) (mvT hZ (hw _ (List.mem_of_getElem? (i := 36) rfl)))) (mvT hZ (hw _ (List.mem_of_getElem? (i := 36) rfl))) (mvT hZ (hw _ (List.mem_of_getElem? (i := 35) rfl))) (by decide) (backOf (W := 0) (rm6 l Z a0 hw [] b1 (0 : Int32) T7.heap n0 zz11 P2_7 (by decide)) hZ (hw _ (List.mem_of_getElem? (i := 37) rfl)) (hw _ (List.mem_of_getElem? (i := 2) rfl)) (by decide) (by decide)) q13a q13c (g := (mkF m 9 #[.val (.int p0), .val (.int p1), .val (.ref b1), .unset, .unset, .unset, .unset, .unset, .unset] [(.ref b1)])) rfl (by rw [hml]; rfl) (Steps.refl _) (argsL := []) (rest := []) (lenOf pd_4 rfl) rfl (by show 2 * 0 + _ ≤ _; exact Nat.le_of_eq rfl) (hb hby at_9) (fun _ _ => ⟨rfl, rfl, (by decide : 3 + 0 ≤ _), (by decide : 7 + 0 ≤ _)⟩)
  dsimp only [Pt.U, Pt.locs, Pt.cells, Pt.slots] at X13 l13 y13 z13 st13 hQ13
  subst l13 y13 z13
  obtain ⟨rfl, Nq13, e13⟩ := hQ13
  have N14 := Fr.app N12 Nq13
  have pre15 : ∀ tgt, Steps p.tables e below (T13.setTop (mkF m 18 #[.val (.int p0), .val (.int p1), .val (.ref b1), .val (.int (1 : Int32)), .val (.int (p0 &&& (3 : Int32))), .unset, .unset, .unset, .unset] [])) tgt → Steps p.tables e below (s₁.setTop (entryFrame m #[(.int p0), (.int p1)] maxLocals)) tgt := fun tgt kt => pre0 _ (by
    show Steps p.tables e below (s₁.setTop (mkF m 0 #[.val (.int p0), .val (.int p1), .unset, .unset, .unset, .unset, .unset, .unset, .unset] [])) _
    refine st1 _ ?_
    show Steps p.tables e below (T1.setTop (mkF m 3 #[.val (.int p0), .val (.int p1), .unset, .unset, .unset, .unset, .unset, .unset, .unset] [(.ref b1)])) _
    refine XS.dup X1.here hx rfl (hb hby at_3) rfl rfl ?_
    show Steps p.tables e below (T1.setTop (mkF m 4 #[.val (.int p0), .val (.int p1), .unset, .unset, .unset, .unset, .unset, .unset, .unset] [(.ref b1), (.ref b1)])) _
    refine st7.trans ?_
    show Steps p.tables e below (T7.setTop (mkF m 7 #[.val (.int p0), .val (.int p1), .unset, .unset, .unset, .unset, .unset, .unset, .unset] [(.ref b1)])) _
    refine XS.astoreN X7.here hx rfl (hb hby at_7) rfl rfl (l' := #[.val (.int p0), .val (.int p1), .val (.ref b1), .unset, .unset, .unset, .unset, .unset, .unset]) rfl ?_
    show Steps p.tables e below (T7.setTop (mkF m 8 #[.val (.int p0), .val (.int p1), .val (.ref b1), .unset, .unset, .unset, .unset, .unset, .unset] [])) _
    refine XS.aloadN X7.here hx rfl (hb hby at_8) rfl rfl ?_
    show Steps p.tables e below (T7.setTop (mkF m 9 #[.val (.int p0), .val (.int p1), .val (.ref b1), .unset, .unset, .unset, .unset, .unset, .unset] [(.ref b1)])) _
    refine st13.trans ?_
    show Steps p.tables e below (T13.setTop (mkF m 12 #[.val (.int p0), .val (.int p1), .val (.ref b1), .unset, .unset, .unset, .unset, .unset, .unset] [(.int (1 : Int32))])) _
    refine XS.istoreN X13.here hx rfl (hb hby at_12) rfl (l' := #[.val (.int p0), .val (.int p1), .val (.ref b1), .val (.int (1 : Int32)), .unset, .unset, .unset, .unset, .unset]) rfl ?_
    show Steps p.tables e below (T13.setTop (mkF m 13 #[.val (.int p0), .val (.int p1), .val (.ref b1), .val (.int (1 : Int32)), .unset, .unset, .unset, .unset, .unset] [])) _
    refine XS.iloadN X13.here hx rfl (hb hby at_13) rfl ?_
    show Steps p.tables e below (T13.setTop (mkF m 14 #[.val (.int p0), .val (.int p1), .val (.ref b1), .val (.int (1 : Int32)), .unset, .unset, .unset, .unset, .unset] [(.int p0)])) _
    refine XS.iconst X13.here hx rfl (hb hby at_14) ?_
    show Steps p.tables e below (T13.setTop (mkF m 15 #[.val (.int p0), .val (.int p1), .val (.ref b1), .val (.int (1 : Int32)), .unset, .unset, .unset, .unset, .unset] [(.int (3 : Int32)), (.int p0)])) _
    refine XS.iand X13.here hx rfl (hb hby at_15) rfl ?_
    show Steps p.tables e below (T13.setTop (mkF m 16 #[.val (.int p0), .val (.int p1), .val (.ref b1), .val (.int (1 : Int32)), .unset, .unset, .unset, .unset, .unset] [(.int (p0 &&& (3 : Int32)))])) _
    refine XS.istore X13.here hx rfl (hb hby at_16) rfl (l' := #[.val (.int p0), .val (.int p1), .val (.ref b1), .val (.int (1 : Int32)), .val (.int (p0 &&& (3 : Int32))), .unset, .unset, .unset, .unset]) rfl ?_
    exact kt)
  obtain ⟨nn, hnn⟩ : ∃ z, z = (p0 &&& (3 : Int32)) := ⟨_, rfl⟩
  rw [← hnn] at pre15
  have hn4 := own_n4 p0
  rw [← hnn] at hn4
  clear hnn
  rcases hn4 with rfl | rfl | rfl | rfl
  · have hi7 := own_i7 p1
    have he := own_e0 p1
    obtain ⟨cq16, kq16, q16a, q16b, q16c⟩ := isOf hZ e13 P0_7
    obtain ⟨_, _, ⟨T16, L16, k16, n16⟩, -, X16, ⟨Lc16, hQ16, l16, y16, z16⟩, st16⟩ := X13.virtualBack hx (y := (⟨"com/example/oblivious/oblivious/broker/PacketIds", "free", "(I)Z"⟩ : MethodName)) (z := (⟨"com/example/oblivious/oblivious/broker/PacketIds", "free", "(I)Z"⟩ : MethodName)) hown (mvT hZ (hw _ (List.mem_of_getElem? (i := 41) rfl))) (mvT hZ (hw _ (List.mem_of_getElem? (i := 42) rfl))) (notFace_of_selects (args := #[]) (mvT hZ (hw _ (List.mem_of_getElem? (i := 44) rfl)))) (mvT hZ (hw _ (List.mem_of_getElem? (i := 44) rfl))) (mvT hZ (hw _ (List.mem_of_getElem? (i := 43) rfl))) (by decide) (backOf (W := 0) (rm7 l Z a0 hw [] b1 (p1 &&& (7 : Int32)) bs t kc (0 : Int32) (0 : Int32) (0 : Int32) (0 : Int64) T7.heap n0 zz11 gn_b1 gn_bs gn_t ne1 ne2 ne3 ⟨P0_7, P1_7, P2_7, P3_7, ⟨B0_7, B1_7, B2_7, B3_7⟩⟩ f9 (by decide) (by decide) hi7.1 hi7.2) hZ (hw _ (List.mem_of_getElem? (i := 45) rfl)) (hw _ (List.mem_of_getElem? (i := 2) rfl)) (by decide) (by decide)) q16a q16c (g := (mkF m 131 #[.val (.int p0), .val (.int p1), .val (.ref b1), .val (.int (1 : Int32)), .val (.int (0 : Int32)), .val (.int (p1 &&& (7 : Int32))), .unset, .unset, .unset] [(.int (p1 &&& (7 : Int32))), (.ref b1)])) rfl (by rw [hml]; rfl) (Steps.refl _) (argsL := [(.int (p1 &&& (7 : Int32)))]) (rest := []) (lenOf pd_5 rfl) rfl (by show 2 * 0 + _ ≤ _; exact Nat.le_of_eq rfl) (hb hby at_131) (fun _ _ => ⟨rfl, e13, (by decide : 3 + 0 ≤ _), (by decide : 7 + 0 ≤ _)⟩)
    dsimp only [Pt.U, Pt.locs, Pt.cells, Pt.slots] at X16 l16 y16 z16 st16 hQ16
    subst l16 y16 z16
    obtain ⟨cF, uF, wF, rfl, Nq16, K16, ⟨P0_16, P1_16, P2_16, P3_16, B0_16, B1_16, B2_16, B3_16⟩, hF⟩ := hQ16
    have ns17 : ∀ x ∈ [b1, bs, t], ∃ c : Cell, T7.heap[x]? = some c ∧ c.vm.isStatics = false := (own_allS (own_ns_e P0_7) (own_allS (own_ns_e B0_7) (own_allS (own_ns_v B3_7) own_all0)))
    have f18 := own_sta_keep f9 K16 ns17
    have f19 := P0_7.keep K16
    have f20 := B0_7.keep K16
    have zz21 : n0 ≤ T16.heap.size := Nat.le_trans zz11 K16.1
    have N22 := Fr.app N14 Nq16
    have hc' := own_c0 hF
    have pre23 : ∀ tgt, Steps p.tables e below (T16.setTop (mkF m 139 #[.val (.int p0), .val (.int p1), .val (.ref b1), .val (.int (1 : Int32)), .val (.int (0 : Int32)), .val (.int (p1 &&& (7 : Int32))), .val (.int (own_get (0 : Int32) (0 : Int64) (p1 &&& (7 : Int32)))), .unset, .unset] [(.int (1 : Int32)), (.int (p1 &&& (7 : Int32)))])) tgt → Steps p.tables e below (s₁.setTop (entryFrame m #[(.int p0), (.int p1)] maxLocals)) tgt := fun tgt kt => pre15 _ (by
      show Steps p.tables e below (T13.setTop (mkF m 18 #[.val (.int p0), .val (.int p1), .val (.ref b1), .val (.int (1 : Int32)), .val (.int (0 : Int32)), .unset, .unset, .unset, .unset] [])) _
      refine XS.iload X13.here hx rfl (hb hby at_18) rfl ?_
      show Steps p.tables e below (T13.setTop (mkF m 20 #[.val (.int p0), .val (.int p1), .val (.ref b1), .val (.int (1 : Int32)), .val (.int (0 : Int32)), .unset, .unset, .unset, .unset] [(.int (0 : Int32))])) _
      refine XS.ifYes X13.here hx rfl (pc0 := 20) (pc' := 52) rfl (hb hby at_20) rfl ((if0 _ _).trans (flt (by decide : ¬ ((0 : Int32) < (0 : Int32)))).2.2.2) (by decide) (by decide) ?_
      show Steps p.tables e below (T13.setTop (mkF m 52 #[.val (.int p0), .val (.int p1), .val (.ref b1), .val (.int (1 : Int32)), .val (.int (0 : Int32)), .unset, .unset, .unset, .unset] [])) _
      refine XS.iload X13.here hx rfl (hb hby at_52) rfl ?_
      show Steps p.tables e below (T13.setTop (mkF m 54 #[.val (.int p0), .val (.int p1), .val (.ref b1), .val (.int (1 : Int32)), .val (.int (0 : Int32)), .unset, .unset, .unset, .unset] [(.int (0 : Int32))])) _
      refine XS.iconst X13.here hx rfl (hb hby at_54) ?_
      show Steps p.tables e below (T13.setTop (mkF m 55 #[.val (.int p0), .val (.int p1), .val (.ref b1), .val (.int (1 : Int32)), .val (.int (0 : Int32)), .unset, .unset, .unset, .unset] [(.int (1 : Int32)), (.int (0 : Int32))])) _
      refine XS.icmpYes X13.here hx rfl (pc0 := 55) (pc' := 87) rfl (hb hby at_55) rfl (flt (by decide : ¬ ((1 : Int32) < (0 : Int32)))).2.2.2 (by decide) (by decide) ?_
      show Steps p.tables e below (T13.setTop (mkF m 87 #[.val (.int p0), .val (.int p1), .val (.ref b1), .val (.int (1 : Int32)), .val (.int (0 : Int32)), .unset, .unset, .unset, .unset] [])) _
      refine XS.iload X13.here hx rfl (hb hby at_87) rfl ?_
      show Steps p.tables e below (T13.setTop (mkF m 89 #[.val (.int p0), .val (.int p1), .val (.ref b1), .val (.int (1 : Int32)), .val (.int (0 : Int32)), .unset, .unset, .unset, .unset] [(.int (0 : Int32))])) _
      refine XS.iconst X13.here hx rfl (hb hby at_89) ?_
      show Steps p.tables e below (T13.setTop (mkF m 90 #[.val (.int p0), .val (.int p1), .val (.ref b1), .val (.int (1 : Int32)), .val (.int (0 : Int32)), .unset, .unset, .unset, .unset] [(.int (2 : Int32)), (.int (0 : Int32))])) _
      refine XS.icmpYes X13.here hx rfl (pc0 := 90) (pc' := 122) rfl (hb hby at_90) rfl (flt (by decide : ¬ ((2 : Int32) < (0 : Int32)))).2.2.2 (by decide) (by decide) ?_
      show Steps p.tables e below (T13.setTop (mkF m 122 #[.val (.int p0), .val (.int p1), .val (.ref b1), .val (.int (1 : Int32)), .val (.int (0 : Int32)), .unset, .unset, .unset, .unset] [])) _
      refine XS.iloadN X13.here hx rfl (hb hby at_122) rfl ?_
      show Steps p.tables e below (T13.setTop (mkF m 123 #[.val (.int p0), .val (.int p1), .val (.ref b1), .val (.int (1 : Int32)), .val (.int (0 : Int32)), .unset, .unset, .unset, .unset] [(.int p1)])) _
      refine XS.bipush X13.here hx rfl (hb hby at_123) ?_
      show Steps p.tables e below (T13.setTop (mkF m 125 #[.val (.int p0), .val (.int p1), .val (.ref b1), .val (.int (1 : Int32)), .val (.int (0 : Int32)), .unset, .unset, .unset, .unset] [(.int (7 : Int32)), (.int p1)])) _
      refine XS.iand X13.here hx rfl (hb hby at_125) rfl ?_
      show Steps p.tables e below (T13.setTop (mkF m 126 #[.val (.int p0), .val (.int p1), .val (.ref b1), .val (.int (1 : Int32)), .val (.int (0 : Int32)), .unset, .unset, .unset, .unset] [(.int (p1 &&& (7 : Int32)))])) _
      refine XS.istore X13.here hx rfl (hb hby at_126) rfl (l' := #[.val (.int p0), .val (.int p1), .val (.ref b1), .val (.int (1 : Int32)), .val (.int (0 : Int32)), .val (.int (p1 &&& (7 : Int32))), .unset, .unset, .unset]) rfl ?_
      show Steps p.tables e below (T13.setTop (mkF m 128 #[.val (.int p0), .val (.int p1), .val (.ref b1), .val (.int (1 : Int32)), .val (.int (0 : Int32)), .val (.int (p1 &&& (7 : Int32))), .unset, .unset, .unset] [])) _
      refine XS.aloadN X13.here hx rfl (hb hby at_128) rfl rfl ?_
      show Steps p.tables e below (T13.setTop (mkF m 129 #[.val (.int p0), .val (.int p1), .val (.ref b1), .val (.int (1 : Int32)), .val (.int (0 : Int32)), .val (.int (p1 &&& (7 : Int32))), .unset, .unset, .unset] [(.ref b1)])) _
      refine XS.iload X13.here hx rfl (hb hby at_129) rfl ?_
      show Steps p.tables e below (T13.setTop (mkF m 131 #[.val (.int p0), .val (.int p1), .val (.ref b1), .val (.int (1 : Int32)), .val (.int (0 : Int32)), .val (.int (p1 &&& (7 : Int32))), .unset, .unset, .unset] [(.int (p1 &&& (7 : Int32))), (.ref b1)])) _
      refine st16.trans ?_
      show Steps p.tables e below (T16.setTop (mkF m 134 #[.val (.int p0), .val (.int p1), .val (.ref b1), .val (.int (1 : Int32)), .val (.int (0 : Int32)), .val (.int (p1 &&& (7 : Int32))), .unset, .unset, .unset] [(.int (own_get (0 : Int32) (0 : Int64) (p1 &&& (7 : Int32))))])) _
      refine XS.istore X16.here hx rfl (hb hby at_134) rfl (l' := #[.val (.int p0), .val (.int p1), .val (.ref b1), .val (.int (1 : Int32)), .val (.int (0 : Int32)), .val (.int (p1 &&& (7 : Int32))), .val (.int (own_get (0 : Int32) (0 : Int64) (p1 &&& (7 : Int32)))), .unset, .unset]) rfl ?_
      show Steps p.tables e below (T16.setTop (mkF m 136 #[.val (.int p0), .val (.int p1), .val (.ref b1), .val (.int (1 : Int32)), .val (.int (0 : Int32)), .val (.int (p1 &&& (7 : Int32))), .val (.int (own_get (0 : Int32) (0 : Int64) (p1 &&& (7 : Int32)))), .unset, .unset] [])) _
      refine XS.iload X16.here hx rfl (hb hby at_136) rfl ?_
      show Steps p.tables e below (T16.setTop (mkF m 138 #[.val (.int p0), .val (.int p1), .val (.ref b1), .val (.int (1 : Int32)), .val (.int (0 : Int32)), .val (.int (p1 &&& (7 : Int32))), .val (.int (own_get (0 : Int32) (0 : Int64) (p1 &&& (7 : Int32)))), .unset, .unset] [(.int (p1 &&& (7 : Int32)))])) _
      refine XS.iconst X16.here hx rfl (hb hby at_138) ?_
      exact kt)
    obtain ⟨ex, hm25, pre24⟩ : ∃ (ex : Int32), ((own_get (0 : Int32) (0 : Int64) (p1 &&& (7 : Int32))) = ex) ∧ ∀ tgt, Steps p.tables e below (T16.setTop (mkF m 156 #[.val (.int p0), .val (.int p1), .val (.ref b1), .val (.int (1 : Int32)), .val (.int (0 : Int32)), .val (.int (p1 &&& (7 : Int32))), .val (.int (own_get (0 : Int32) (0 : Int64) (p1 &&& (7 : Int32)))), .val (.int ex), .unset] [])) tgt → Steps p.tables e below (s₁.setTop (entryFrame m #[(.int p0), (.int p1)] maxLocals)) tgt := by
      by_cases h139 : (p1 &&& (7 : Int32)) < (1 : Int32)
      · exact ⟨(0 : Int32), (he.1 h139), fun tgt kt => pre23 _ (by
          show Steps p.tables e below (T16.setTop (mkF m 139 #[.val (.int p0), .val (.int p1), .val (.ref b1), .val (.int (1 : Int32)), .val (.int (0 : Int32)), .val (.int (p1 &&& (7 : Int32))), .val (.int (own_get (0 : Int32) (0 : Int64) (p1 &&& (7 : Int32)))), .unset, .unset] [(.int (1 : Int32)), (.int (p1 &&& (7 : Int32)))])) _
          refine XS.icmpYes X16.here hx rfl (pc0 := 139) (pc' := 153) rfl (hb hby at_139) rfl (tlt h139).1 (by decide) (by decide) ?_
          show Steps p.tables e below (T16.setTop (mkF m 153 #[.val (.int p0), .val (.int p1), .val (.ref b1), .val (.int (1 : Int32)), .val (.int (0 : Int32)), .val (.int (p1 &&& (7 : Int32))), .val (.int (own_get (0 : Int32) (0 : Int64) (p1 &&& (7 : Int32)))), .unset, .unset] [])) _
          refine XS.iconst X16.here hx rfl (hb hby at_153) ?_
          show Steps p.tables e below (T16.setTop (mkF m 154 #[.val (.int p0), .val (.int p1), .val (.ref b1), .val (.int (1 : Int32)), .val (.int (0 : Int32)), .val (.int (p1 &&& (7 : Int32))), .val (.int (own_get (0 : Int32) (0 : Int64) (p1 &&& (7 : Int32)))), .unset, .unset] [(.int (0 : Int32))])) _
          refine XS.istore X16.here hx rfl (hb hby at_154) rfl (l' := #[.val (.int p0), .val (.int p1), .val (.ref b1), .val (.int (1 : Int32)), .val (.int (0 : Int32)), .val (.int (p1 &&& (7 : Int32))), .val (.int (own_get (0 : Int32) (0 : Int64) (p1 &&& (7 : Int32)))), .val (.int (0 : Int32)), .unset]) rfl ?_
          exact kt)⟩
      · by_cases h146 : (0 : Int32) < (p1 &&& (7 : Int32))
        · exact ⟨(0 : Int32), (he.2.1 h139 h146), fun tgt kt => pre23 _ (by
            show Steps p.tables e below (T16.setTop (mkF m 139 #[.val (.int p0), .val (.int p1), .val (.ref b1), .val (.int (1 : Int32)), .val (.int (0 : Int32)), .val (.int (p1 &&& (7 : Int32))), .val (.int (own_get (0 : Int32) (0 : Int64) (p1 &&& (7 : Int32)))), .unset, .unset] [(.int (1 : Int32)), (.int (p1 &&& (7 : Int32)))])) _
            refine XS.icmpNo X16.here hx rfl (hb hby at_139) rfl (flt h139).1 ?_
            show Steps p.tables e below (T16.setTop (mkF m 142 #[.val (.int p0), .val (.int p1), .val (.ref b1), .val (.int (1 : Int32)), .val (.int (0 : Int32)), .val (.int (p1 &&& (7 : Int32))), .val (.int (own_get (0 : Int32) (0 : Int64) (p1 &&& (7 : Int32)))), .unset, .unset] [])) _
            refine XS.iload X16.here hx rfl (hb hby at_142) rfl ?_
            show Steps p.tables e below (T16.setTop (mkF m 144 #[.val (.int p0), .val (.int p1), .val (.ref b1), .val (.int (1 : Int32)), .val (.int (0 : Int32)), .val (.int (p1 &&& (7 : Int32))), .val (.int (own_get (0 : Int32) (0 : Int64) (p1 &&& (7 : Int32)))), .unset, .unset] [(.int (p1 &&& (7 : Int32)))])) _
            refine XS.iload X16.here hx rfl (hb hby at_144) rfl ?_
            show Steps p.tables e below (T16.setTop (mkF m 146 #[.val (.int p0), .val (.int p1), .val (.ref b1), .val (.int (1 : Int32)), .val (.int (0 : Int32)), .val (.int (p1 &&& (7 : Int32))), .val (.int (own_get (0 : Int32) (0 : Int64) (p1 &&& (7 : Int32)))), .unset, .unset] [(.int (0 : Int32)), (.int (p1 &&& (7 : Int32)))])) _
            refine XS.icmpYes X16.here hx rfl (pc0 := 146) (pc' := 153) rfl (hb hby at_146) rfl (tlt h146).2.2.1 (by decide) (by decide) ?_
            show Steps p.tables e below (T16.setTop (mkF m 153 #[.val (.int p0), .val (.int p1), .val (.ref b1), .val (.int (1 : Int32)), .val (.int (0 : Int32)), .val (.int (p1 &&& (7 : Int32))), .val (.int (own_get (0 : Int32) (0 : Int64) (p1 &&& (7 : Int32)))), .unset, .unset] [])) _
            refine XS.iconst X16.here hx rfl (hb hby at_153) ?_
            show Steps p.tables e below (T16.setTop (mkF m 154 #[.val (.int p0), .val (.int p1), .val (.ref b1), .val (.int (1 : Int32)), .val (.int (0 : Int32)), .val (.int (p1 &&& (7 : Int32))), .val (.int (own_get (0 : Int32) (0 : Int64) (p1 &&& (7 : Int32)))), .unset, .unset] [(.int (0 : Int32))])) _
            refine XS.istore X16.here hx rfl (hb hby at_154) rfl (l' := #[.val (.int p0), .val (.int p1), .val (.ref b1), .val (.int (1 : Int32)), .val (.int (0 : Int32)), .val (.int (p1 &&& (7 : Int32))), .val (.int (own_get (0 : Int32) (0 : Int64) (p1 &&& (7 : Int32)))), .val (.int (0 : Int32)), .unset]) rfl ?_
            exact kt)⟩
        · exact ⟨(1 : Int32), (he.2.2 h139 h146), fun tgt kt => pre23 _ (by
            show Steps p.tables e below (T16.setTop (mkF m 139 #[.val (.int p0), .val (.int p1), .val (.ref b1), .val (.int (1 : Int32)), .val (.int (0 : Int32)), .val (.int (p1 &&& (7 : Int32))), .val (.int (own_get (0 : Int32) (0 : Int64) (p1 &&& (7 : Int32)))), .unset, .unset] [(.int (1 : Int32)), (.int (p1 &&& (7 : Int32)))])) _
            refine XS.icmpNo X16.here hx rfl (hb hby at_139) rfl (flt h139).1 ?_
            show Steps p.tables e below (T16.setTop (mkF m 142 #[.val (.int p0), .val (.int p1), .val (.ref b1), .val (.int (1 : Int32)), .val (.int (0 : Int32)), .val (.int (p1 &&& (7 : Int32))), .val (.int (own_get (0 : Int32) (0 : Int64) (p1 &&& (7 : Int32)))), .unset, .unset] [])) _
            refine XS.iload X16.here hx rfl (hb hby at_142) rfl ?_
            show Steps p.tables e below (T16.setTop (mkF m 144 #[.val (.int p0), .val (.int p1), .val (.ref b1), .val (.int (1 : Int32)), .val (.int (0 : Int32)), .val (.int (p1 &&& (7 : Int32))), .val (.int (own_get (0 : Int32) (0 : Int64) (p1 &&& (7 : Int32)))), .unset, .unset] [(.int (p1 &&& (7 : Int32)))])) _
            refine XS.iload X16.here hx rfl (hb hby at_144) rfl ?_
            show Steps p.tables e below (T16.setTop (mkF m 146 #[.val (.int p0), .val (.int p1), .val (.ref b1), .val (.int (1 : Int32)), .val (.int (0 : Int32)), .val (.int (p1 &&& (7 : Int32))), .val (.int (own_get (0 : Int32) (0 : Int64) (p1 &&& (7 : Int32)))), .unset, .unset] [(.int (0 : Int32)), (.int (p1 &&& (7 : Int32)))])) _
            refine XS.icmpNo X16.here hx rfl (hb hby at_146) rfl (flt h146).2.2.1 ?_
            show Steps p.tables e below (T16.setTop (mkF m 149 #[.val (.int p0), .val (.int p1), .val (.ref b1), .val (.int (1 : Int32)), .val (.int (0 : Int32)), .val (.int (p1 &&& (7 : Int32))), .val (.int (own_get (0 : Int32) (0 : Int64) (p1 &&& (7 : Int32)))), .unset, .unset] [])) _
            refine XS.iconst X16.here hx rfl (hb hby at_149) ?_
            show Steps p.tables e below (T16.setTop (mkF m 150 #[.val (.int p0), .val (.int p1), .val (.ref b1), .val (.int (1 : Int32)), .val (.int (0 : Int32)), .val (.int (p1 &&& (7 : Int32))), .val (.int (own_get (0 : Int32) (0 : Int64) (p1 &&& (7 : Int32)))), .unset, .unset] [(.int (1 : Int32))])) _
            refine XS.goto X16.here hx rfl (pc0 := 150) (pc' := 154) rfl (hb hby at_150) (by decide) (by decide) ?_
            show Steps p.tables e below (T16.setTop (mkF m 154 #[.val (.int p0), .val (.int p1), .val (.ref b1), .val (.int (1 : Int32)), .val (.int (0 : Int32)), .val (.int (p1 &&& (7 : Int32))), .val (.int (own_get (0 : Int32) (0 : Int64) (p1 &&& (7 : Int32)))), .unset, .unset] [(.int (1 : Int32))])) _
            refine XS.istore X16.here hx rfl (hb hby at_154) rfl (l' := #[.val (.int p0), .val (.int p1), .val (.ref b1), .val (.int (1 : Int32)), .val (.int (0 : Int32)), .val (.int (p1 &&& (7 : Int32))), .val (.int (own_get (0 : Int32) (0 : Int64) (p1 &&& (7 : Int32)))), .val (.int (1 : Int32)), .unset]) rfl ?_
            exact kt)⟩
    obtain ⟨cq26, kq26, q26a, q26b, q26c⟩ := isOf hZ rfl P0_16
    obtain ⟨_, _, ⟨T26, L26, k26, n26⟩, -, X26, ⟨Lc26, hQ26, l26, y26, z26⟩, st26⟩ := X16.virtualBack hx (y := (⟨"com/example/oblivious/oblivious/broker/PacketIds", "hasFree", "()Z"⟩ : MethodName)) (z := (⟨"com/example/oblivious/oblivious/broker/PacketIds", "hasFree", "()Z"⟩ : MethodName)) hown (mvT hZ (hw _ (List.mem_of_getElem? (i := 33) rfl))) (mvT hZ (hw _ (List.mem_of_getElem? (i := 34) rfl))) (notFace_of_selects (args := #[]) (mvT hZ (hw _ (List.mem_of_getElem? (i := 36) rfl)))) (mvT hZ (hw _ (List.mem_of_getElem? (i := 36) rfl))) (mvT hZ (hw _ (List.mem_of_getElem? (i := 35) rfl))) (by decide) (backOf (W := 0) (rm6 l Z a0 hw [] b1 cF T16.heap n0 zz21 P2_16 hc'.1) hZ (hw _ (List.mem_of_getElem? (i := 37) rfl)) (hw _ (List.mem_of_getElem? (i := 2) rfl)) (by decide) (by decide)) q26a q26c (g := (mkF m 168 #[.val (.int p0), .val (.int p1), .val (.ref b1), .val (.int (1 : Int32)), .val (.int (0 : Int32)), .val (.int (p1 &&& (7 : Int32))), .val (.int (own_get (0 : Int32) (0 : Int64) (p1 &&& (7 : Int32)))), .val (.int ex), .unset] [(.ref b1)])) rfl (by rw [hml]; rfl) (Steps.refl _) (argsL := []) (rest := []) (lenOf pd_4 rfl) rfl (by show 2 * 0 + _ ≤ _; exact Nat.le_of_eq rfl) (hb hby at_168) (fun _ _ => ⟨rfl, rfl, (by decide : 3 + 0 ≤ _), (by decide : 7 + 0 ≤ _)⟩)
    dsimp only [Pt.U, Pt.locs, Pt.cells, Pt.slots] at X26 l26 y26 z26 st26 hQ26
    subst l26 y26 z26
    obtain ⟨rfl, Nq26, e26⟩ := hQ26
    have N27 := Fr.app N22 Nq26
    obtain ⟨cq28, kq28, q28a, q28b, q28c⟩ := isOf hZ e26 P0_16
    obtain ⟨_, _, ⟨T28, L28, k28, n28⟩, -, X28, ⟨Lc28, hQ28, l28, y28, z28⟩, st28⟩ := X26.virtualBack hx (y := (⟨"com/example/oblivious/oblivious/broker/PacketIds", "take", "()I"⟩ : MethodName)) (z := (⟨"com/example/oblivious/oblivious/broker/PacketIds", "take", "()I"⟩ : MethodName)) hown (mvT hZ (hw _ (List.mem_of_getElem? (i := 57) rfl))) (mvT hZ (hw _ (List.mem_of_getElem? (i := 58) rfl))) (notFace_of_selects (args := #[]) (mvT hZ (hw _ (List.mem_of_getElem? (i := 60) rfl)))) (mvT hZ (hw _ (List.mem_of_getElem? (i := 60) rfl))) (mvT hZ (hw _ (List.mem_of_getElem? (i := 59) rfl))) (by decide) (backOf (W := 0) (rm10 l Z a0 hw [] b1 bs t kc cF (0 : Int32) uF wF (1 : Int32) T16.heap n0 zz21 gn_b1 gn_bs gn_t ne1 ne2 ne3 ⟨P0_16, P1_16, P2_16, P3_16, ⟨B0_16, B1_16, B2_16, B3_16⟩⟩ f18 hc'.1 hc'.2.1 hc'.2.2.1 (by decide +kernel) (by decide +kernel) hc'.2.2.2 (by decide +kernel) (by decide +kernel) (by decide +kernel)) hZ (hw _ (List.mem_of_getElem? (i := 61) rfl)) (hw _ (List.mem_of_getElem? (i := 2) rfl)) (by decide) (by decide)) q28a q28c (g := (mkF m 181 #[.val (.int p0), .val (.int p1), .val (.ref b1), .val (.int (1 : Int32)), .val (.int (0 : Int32)), .val (.int (p1 &&& (7 : Int32))), .val (.int (own_get (0 : Int32) (0 : Int64) (p1 &&& (7 : Int32)))), .val (.int ex), .unset] [(.ref b1)])) rfl (by rw [hml]; rfl) (Steps.refl _) (argsL := []) (rest := []) (lenOf pd_6 rfl) rfl (by show 2 * 0 + _ ≤ _; exact Nat.le_of_eq rfl) (hb hby at_181) (fun _ _ => ⟨rfl, e26, (by decide : 3 + 0 ≤ _), (by decide : 7 + 0 ≤ _)⟩)
    dsimp only [Pt.U, Pt.locs, Pt.cells, Pt.slots] at X28 l28 y28 z28 st28 hQ28
    subst l28 y28 z28
    obtain ⟨rfl, Nq28, K28, P0_28, P1_28, P2_28, P3_28, B0_28, B1_28, B2_28, B3_28⟩ := hQ28
    have ns29 : ∀ x ∈ [b1, bs, t], ∃ c : Cell, T16.heap[x]? = some c ∧ c.vm.isStatics = false := (own_allS (own_ns_e P0_16) (own_allS (own_ns_e B0_16) (own_allS (own_ns_v B3_16) own_all0)))
    have f30 := own_sta_keep f18 K28 ns29
    have f31 := P0_16.keep K28
    have f32 := B0_16.keep K28
    have zz33 : n0 ≤ T28.heap.size := Nat.le_trans zz21 K28.1
    have N34 := Fr.app N27 Nq28
    obtain ⟨cq35, kq35, q35a, q35b, q35c⟩ := isOf hZ rfl P0_28
    obtain ⟨_, _, ⟨T35, L35, k35, n35⟩, -, X35, ⟨Lc35, hQ35, l35, y35, z35⟩, st35⟩ := X28.virtualBack hx (y := (⟨"com/example/oblivious/oblivious/broker/PacketIds", "hasFree", "()Z"⟩ : MethodName)) (z := (⟨"com/example/oblivious/oblivious/broker/PacketIds", "hasFree", "()Z"⟩ : MethodName)) hown (mvT hZ (hw _ (List.mem_of_getElem? (i := 33) rfl))) (mvT hZ (hw _ (List.mem_of_getElem? (i := 34) rfl))) (notFace_of_selects (args := #[]) (mvT hZ (hw _ (List.mem_of_getElem? (i := 36) rfl)))) (mvT hZ (hw _ (List.mem_of_getElem? (i := 36) rfl))) (mvT hZ (hw _ (List.mem_of_getElem? (i := 35) rfl))) (by decide) (backOf (W := 0) (rm6 l Z a0 hw [] b1 (cF + (1 : Int32)) T28.heap n0 zz33 P2_28 (own_lt1 hF)) hZ (hw _ (List.mem_of_getElem? (i := 37) rfl)) (hw _ (List.mem_of_getElem? (i := 2) rfl)) (by decide) (by decide)) q35a q35c (g := (mkF m 200 #[.val (.int p0), .val (.int p1), .val (.ref b1), .val (.int (1 : Int32)), .val (.int (0 : Int32)), .val (.int (p1 &&& (7 : Int32))), .val (.int (own_get (0 : Int32) (0 : Int64) (p1 &&& (7 : Int32)))), .val (.int ex), .val (.int (1 : Int32))] [(.ref b1)])) rfl (by rw [hml]; rfl) (Steps.refl _) (argsL := []) (rest := []) (lenOf pd_4 rfl) rfl (by show 2 * 0 + _ ≤ _; exact Nat.le_of_eq rfl) (hb hby at_200) (fun _ _ => ⟨rfl, rfl, (by decide : 3 + 0 ≤ _), (by decide : 7 + 0 ≤ _)⟩)
    dsimp only [Pt.U, Pt.locs, Pt.cells, Pt.slots] at X35 l35 y35 z35 st35 hQ35
    subst l35 y35 z35
    obtain ⟨rfl, Nq35, e35⟩ := hQ35
    have N36 := Fr.app N34 Nq35
    obtain ⟨fs, hr, hrun, hended, hW, hsame⟩ := X35.leave (v := some (.int (1 : Int32))) (fun h => by rw [Bd.returns] at h; cases h)
    refine ⟨_, _, pre24 _ ?_, hrun, hended, _, _, rfl, ?_, ⟨_, rfl⟩, hW, hsame.mono (by decide) (by decide)⟩
    · show Steps p.tables e below (T16.setTop (mkF m 156 #[.val (.int p0), .val (.int p1), .val (.ref b1), .val (.int (1 : Int32)), .val (.int (0 : Int32)), .val (.int (p1 &&& (7 : Int32))), .val (.int (own_get (0 : Int32) (0 : Int64) (p1 &&& (7 : Int32)))), .val (.int ex), .unset] [])) _
      refine XS.iloadN X16.here hx rfl (hb hby at_156) rfl ?_
      show Steps p.tables e below (T16.setTop (mkF m 157 #[.val (.int p0), .val (.int p1), .val (.ref b1), .val (.int (1 : Int32)), .val (.int (0 : Int32)), .val (.int (p1 &&& (7 : Int32))), .val (.int (own_get (0 : Int32) (0 : Int64) (p1 &&& (7 : Int32)))), .val (.int ex), .unset] [(.int (1 : Int32))])) _
      refine XS.ifNo X16.here hx rfl (hb hby at_157) rfl ((if0 _ _).trans (feq (by decide : ¬ ((1 : Int32) = (0 : Int32)))).1) ?_
      show Steps p.tables e below (T16.setTop (mkF m 160 #[.val (.int p0), .val (.int p1), .val (.ref b1), .val (.int (1 : Int32)), .val (.int (0 : Int32)), .val (.int (p1 &&& (7 : Int32))), .val (.int (own_get (0 : Int32) (0 : Int64) (p1 &&& (7 : Int32)))), .val (.int ex), .unset] [])) _
      refine XS.iload X16.here hx rfl (hb hby at_160) rfl ?_
      show Steps p.tables e below (T16.setTop (mkF m 162 #[.val (.int p0), .val (.int p1), .val (.ref b1), .val (.int (1 : Int32)), .val (.int (0 : Int32)), .val (.int (p1 &&& (7 : Int32))), .val (.int (own_get (0 : Int32) (0 : Int64) (p1 &&& (7 : Int32)))), .val (.int ex), .unset] [(.int (own_get (0 : Int32) (0 : Int64) (p1 &&& (7 : Int32))))])) _
      refine XS.iload X16.here hx rfl (hb hby at_162) rfl ?_
      show Steps p.tables e below (T16.setTop (mkF m 164 #[.val (.int p0), .val (.int p1), .val (.ref b1), .val (.int (1 : Int32)), .val (.int (0 : Int32)), .val (.int (p1 &&& (7 : Int32))), .val (.int (own_get (0 : Int32) (0 : Int64) (p1 &&& (7 : Int32)))), .val (.int ex), .unset] [(.int ex), (.int (own_get (0 : Int32) (0 : Int64) (p1 &&& (7 : Int32))))])) _
      refine XS.icmpNo X16.here hx rfl (hb hby at_164) rfl (teq hm25).2 ?_
      show Steps p.tables e below (T16.setTop (mkF m 167 #[.val (.int p0), .val (.int p1), .val (.ref b1), .val (.int (1 : Int32)), .val (.int (0 : Int32)), .val (.int (p1 &&& (7 : Int32))), .val (.int (own_get (0 : Int32) (0 : Int64) (p1 &&& (7 : Int32)))), .val (.int ex), .unset] [])) _
      refine XS.aloadN X16.here hx rfl (hb hby at_167) rfl rfl ?_
      show Steps p.tables e below (T16.setTop (mkF m 168 #[.val (.int p0), .val (.int p1), .val (.ref b1), .val (.int (1 : Int32)), .val (.int (0 : Int32)), .val (.int (p1 &&& (7 : Int32))), .val (.int (own_get (0 : Int32) (0 : Int64) (p1 &&& (7 : Int32)))), .val (.int ex), .unset] [(.ref b1)])) _
      refine st26.trans ?_
      show Steps p.tables e below (T26.setTop (mkF m 171 #[.val (.int p0), .val (.int p1), .val (.ref b1), .val (.int (1 : Int32)), .val (.int (0 : Int32)), .val (.int (p1 &&& (7 : Int32))), .val (.int (own_get (0 : Int32) (0 : Int64) (p1 &&& (7 : Int32)))), .val (.int ex), .unset] [(.int (1 : Int32))])) _
      refine XS.ifNo X26.here hx rfl (hb hby at_171) rfl ((if0 _ _).trans (feq (by decide : ¬ ((1 : Int32) = (0 : Int32)))).1) ?_
      show Steps p.tables e below (T26.setTop (mkF m 174 #[.val (.int p0), .val (.int p1), .val (.ref b1), .val (.int (1 : Int32)), .val (.int (0 : Int32)), .val (.int (p1 &&& (7 : Int32))), .val (.int (own_get (0 : Int32) (0 : Int64) (p1 &&& (7 : Int32)))), .val (.int ex), .unset] [])) _
      refine XS.iconst X26.here hx rfl (hb hby at_174) ?_
      show Steps p.tables e below (T26.setTop (mkF m 175 #[.val (.int p0), .val (.int p1), .val (.ref b1), .val (.int (1 : Int32)), .val (.int (0 : Int32)), .val (.int (p1 &&& (7 : Int32))), .val (.int (own_get (0 : Int32) (0 : Int64) (p1 &&& (7 : Int32)))), .val (.int ex), .unset] [(.int (1 : Int32))])) _
      refine XS.goto X26.here hx rfl (pc0 := 175) (pc' := 179) rfl (hb hby at_175) (by decide) (by decide) ?_
      show Steps p.tables e below (T26.setTop (mkF m 179 #[.val (.int p0), .val (.int p1), .val (.ref b1), .val (.int (1 : Int32)), .val (.int (0 : Int32)), .val (.int (p1 &&& (7 : Int32))), .val (.int (own_get (0 : Int32) (0 : Int64) (p1 &&& (7 : Int32)))), .val (.int ex), .unset] [(.int (1 : Int32))])) _
      refine XS.istoreN X26.here hx rfl (hb hby at_179) rfl (l' := #[.val (.int p0), .val (.int p1), .val (.ref b1), .val (.int (1 : Int32)), .val (.int (0 : Int32)), .val (.int (p1 &&& (7 : Int32))), .val (.int (own_get (0 : Int32) (0 : Int64) (p1 &&& (7 : Int32)))), .val (.int ex), .unset]) rfl ?_
      show Steps p.tables e below (T26.setTop (mkF m 180 #[.val (.int p0), .val (.int p1), .val (.ref b1), .val (.int (1 : Int32)), .val (.int (0 : Int32)), .val (.int (p1 &&& (7 : Int32))), .val (.int (own_get (0 : Int32) (0 : Int64) (p1 &&& (7 : Int32)))), .val (.int ex), .unset] [])) _
      refine XS.aloadN X26.here hx rfl (hb hby at_180) rfl rfl ?_
      show Steps p.tables e below (T26.setTop (mkF m 181 #[.val (.int p0), .val (.int p1), .val (.ref b1), .val (.int (1 : Int32)), .val (.int (0 : Int32)), .val (.int (p1 &&& (7 : Int32))), .val (.int (own_get (0 : Int32) (0 : Int64) (p1 &&& (7 : Int32)))), .val (.int ex), .unset] [(.ref b1)])) _
      refine st28.trans ?_
      show Steps p.tables e below (T28.setTop (mkF m 184 #[.val (.int p0), .val (.int p1), .val (.ref b1), .val (.int (1 : Int32)), .val (.int (0 : Int32)), .val (.int (p1 &&& (7 : Int32))), .val (.int (own_get (0 : Int32) (0 : Int64) (p1 &&& (7 : Int32)))), .val (.int ex), .unset] [(.int (1 : Int32))])) _
      refine XS.istore X28.here hx rfl (hb hby at_184) rfl (l' := #[.val (.int p0), .val (.int p1), .val (.ref b1), .val (.int (1 : Int32)), .val (.int (0 : Int32)), .val (.int (p1 &&& (7 : Int32))), .val (.int (own_get (0 : Int32) (0 : Int64) (p1 &&& (7 : Int32)))), .val (.int ex), .val (.int (1 : Int32))]) rfl ?_
      show Steps p.tables e below (T28.setTop (mkF m 186 #[.val (.int p0), .val (.int p1), .val (.ref b1), .val (.int (1 : Int32)), .val (.int (0 : Int32)), .val (.int (p1 &&& (7 : Int32))), .val (.int (own_get (0 : Int32) (0 : Int64) (p1 &&& (7 : Int32)))), .val (.int ex), .val (.int (1 : Int32))] [])) _
      refine XS.iloadN X28.here hx rfl (hb hby at_186) rfl ?_
      show Steps p.tables e below (T28.setTop (mkF m 187 #[.val (.int p0), .val (.int p1), .val (.ref b1), .val (.int (1 : Int32)), .val (.int (0 : Int32)), .val (.int (p1 &&& (7 : Int32))), .val (.int (own_get (0 : Int32) (0 : Int64) (p1 &&& (7 : Int32)))), .val (.int ex), .val (.int (1 : Int32))] [(.int (1 : Int32))])) _
      refine XS.ifNo X28.here hx rfl (hb hby at_187) rfl ((if0 _ _).trans (feq (by decide : ¬ ((1 : Int32) = (0 : Int32)))).1) ?_
      show Steps p.tables e below (T28.setTop (mkF m 190 #[.val (.int p0), .val (.int p1), .val (.ref b1), .val (.int (1 : Int32)), .val (.int (0 : Int32)), .val (.int (p1 &&& (7 : Int32))), .val (.int (own_get (0 : Int32) (0 : Int64) (p1 &&& (7 : Int32)))), .val (.int ex), .val (.int (1 : Int32))] [])) _
      refine XS.iload X28.here hx rfl (hb hby at_190) rfl ?_
      show Steps p.tables e below (T28.setTop (mkF m 192 #[.val (.int p0), .val (.int p1), .val (.ref b1), .val (.int (1 : Int32)), .val (.int (0 : Int32)), .val (.int (p1 &&& (7 : Int32))), .val (.int (own_get (0 : Int32) (0 : Int64) (p1 &&& (7 : Int32)))), .val (.int ex), .val (.int (1 : Int32))] [(.int (1 : Int32))])) _
      refine XS.iload X28.here hx rfl (hb hby at_192) rfl ?_
      show Steps p.tables e below (T28.setTop (mkF m 194 #[.val (.int p0), .val (.int p1), .val (.ref b1), .val (.int (1 : Int32)), .val (.int (0 : Int32)), .val (.int (p1 &&& (7 : Int32))), .val (.int (own_get (0 : Int32) (0 : Int64) (p1 &&& (7 : Int32)))), .val (.int ex), .val (.int (1 : Int32))] [(.int (0 : Int32)), (.int (1 : Int32))])) _
      refine XS.iconst X28.here hx rfl (hb hby at_194) ?_
      show Steps p.tables e below (T28.setTop (mkF m 195 #[.val (.int p0), .val (.int p1), .val (.ref b1), .val (.int (1 : Int32)), .val (.int (0 : Int32)), .val (.int (p1 &&& (7 : Int32))), .val (.int (own_get (0 : Int32) (0 : Int64) (p1 &&& (7 : Int32)))), .val (.int ex), .val (.int (1 : Int32))] [(.int (1 : Int32)), (.int (0 : Int32)), (.int (1 : Int32))])) _
      refine XS.iadd X28.here hx rfl (hb hby at_195) rfl ?_
      show Steps p.tables e below (T28.setTop (mkF m 196 #[.val (.int p0), .val (.int p1), .val (.ref b1), .val (.int (1 : Int32)), .val (.int (0 : Int32)), .val (.int (p1 &&& (7 : Int32))), .val (.int (own_get (0 : Int32) (0 : Int64) (p1 &&& (7 : Int32)))), .val (.int ex), .val (.int (1 : Int32))] [(.int ((0 : Int32) + (1 : Int32))), (.int (1 : Int32))])) _
      refine XS.icmpNo X28.here hx rfl (hb hby at_196) rfl (teq (by decide +kernel)).2 ?_
      show Steps p.tables e below (T28.setTop (mkF m 199 #[.val (.int p0), .val (.int p1), .val (.ref b1), .val (.int (1 : Int32)), .val (.int (0 : Int32)), .val (.int (p1 &&& (7 : Int32))), .val (.int (own_get (0 : Int32) (0 : Int64) (p1 &&& (7 : Int32)))), .val (.int ex), .val (.int (1 : Int32))] [])) _
      refine XS.aloadN X28.here hx rfl (hb hby at_199) rfl rfl ?_
      show Steps p.tables e below (T28.setTop (mkF m 200 #[.val (.int p0), .val (.int p1), .val (.ref b1), .val (.int (1 : Int32)), .val (.int (0 : Int32)), .val (.int (p1 &&& (7 : Int32))), .val (.int (own_get (0 : Int32) (0 : Int64) (p1 &&& (7 : Int32)))), .val (.int ex), .val (.int (1 : Int32))] [(.ref b1)])) _
      refine st35.trans ?_
      show Steps p.tables e below (T35.setTop (mkF m 203 #[.val (.int p0), .val (.int p1), .val (.ref b1), .val (.int (1 : Int32)), .val (.int (0 : Int32)), .val (.int (p1 &&& (7 : Int32))), .val (.int (own_get (0 : Int32) (0 : Int64) (p1 &&& (7 : Int32)))), .val (.int ex), .val (.int (1 : Int32))] [(.int (1 : Int32))])) _
      refine XS.ifNo X35.here hx rfl (hb hby at_203) rfl ((if0 _ _).trans (feq (by decide : ¬ ((1 : Int32) = (0 : Int32)))).1) ?_
      show Steps p.tables e below (T35.setTop (mkF m 206 #[.val (.int p0), .val (.int p1), .val (.ref b1), .val (.int (1 : Int32)), .val (.int (0 : Int32)), .val (.int (p1 &&& (7 : Int32))), .val (.int (own_get (0 : Int32) (0 : Int64) (p1 &&& (7 : Int32)))), .val (.int ex), .val (.int (1 : Int32))] [])) _
      refine XS.iconst X35.here hx rfl (hb hby at_206) ?_
      show Steps p.tables e below (T35.setTop (mkF m 207 #[.val (.int p0), .val (.int p1), .val (.ref b1), .val (.int (1 : Int32)), .val (.int (0 : Int32)), .val (.int (p1 &&& (7 : Int32))), .val (.int (own_get (0 : Int32) (0 : Int64) (p1 &&& (7 : Int32)))), .val (.int ex), .val (.int (1 : Int32))] [(.int (1 : Int32))])) _
      refine XS.goto X35.here hx rfl (pc0 := 207) (pc' := 211) rfl (hb hby at_207) (by decide) (by decide) ?_
      show Steps p.tables e below (T35.setTop (mkF m 211 #[.val (.int p0), .val (.int p1), .val (.ref b1), .val (.int (1 : Int32)), .val (.int (0 : Int32)), .val (.int (p1 &&& (7 : Int32))), .val (.int (own_get (0 : Int32) (0 : Int64) (p1 &&& (7 : Int32)))), .val (.int ex), .val (.int (1 : Int32))] [(.int (1 : Int32))])) _
      refine XS.istoreN X35.here hx rfl (hb hby at_211) rfl (l' := #[.val (.int p0), .val (.int p1), .val (.ref b1), .val (.int (1 : Int32)), .val (.int (0 : Int32)), .val (.int (p1 &&& (7 : Int32))), .val (.int (own_get (0 : Int32) (0 : Int64) (p1 &&& (7 : Int32)))), .val (.int ex), .val (.int (1 : Int32))]) rfl ?_
      show Steps p.tables e below (T35.setTop (mkF m 212 #[.val (.int p0), .val (.int p1), .val (.ref b1), .val (.int (1 : Int32)), .val (.int (0 : Int32)), .val (.int (p1 &&& (7 : Int32))), .val (.int (own_get (0 : Int32) (0 : Int64) (p1 &&& (7 : Int32)))), .val (.int ex), .val (.int (1 : Int32))] [])) _
      refine XS.iloadN X35.here hx rfl (hb hby at_212) rfl ?_
      show Steps p.tables e below (T35.setTop (mkF m 213 #[.val (.int p0), .val (.int p1), .val (.ref b1), .val (.int (1 : Int32)), .val (.int (0 : Int32)), .val (.int (p1 &&& (7 : Int32))), .val (.int (own_get (0 : Int32) (0 : Int64) (p1 &&& (7 : Int32)))), .val (.int ex), .val (.int (1 : Int32))] [(.int (1 : Int32))])) _
      exact retN X35 hx (t := .boolean) Bd.returns (by simp) (hb hby at_213) hr
    · show Q0 Z p0 p1 h0 n0 _ T35.heap _
      rw [e35]
      exact ⟨rfl, N36⟩
  · obtain ⟨cq37, kq37, q37a, q37b, q37c⟩ := isOf hZ e13 P0_7
    obtain ⟨_, _, ⟨T37, L37, k37, n37⟩, -, X37, ⟨Lc37, hQ37, l37, y37, z37⟩, st37⟩ := X13.virtualBack hx (y := (⟨"com/example/oblivious/oblivious/broker/PacketIds", "take", "()I"⟩ : MethodName)) (z := (⟨"com/example/oblivious/oblivious/broker/PacketIds", "take", "()I"⟩ : MethodName)) hown (mvT hZ (hw _ (List.mem_of_getElem? (i := 57) rfl))) (mvT hZ (hw _ (List.mem_of_getElem? (i := 58) rfl))) (notFace_of_selects (args := #[]) (mvT hZ (hw _ (List.mem_of_getElem? (i := 60) rfl)))) (mvT hZ (hw _ (List.mem_of_getElem? (i := 60) rfl))) (mvT hZ (hw _ (List.mem_of_getElem? (i := 59) rfl))) (by decide) (backOf (W := 0) (rm10 l Z a0 hw [] b1 bs t kc (0 : Int32) (0 : Int32) (0 : Int32) (0 : Int64) (1 : Int32) T7.heap n0 zz11 gn_b1 gn_bs gn_t ne1 ne2 ne3 ⟨P0_7, P1_7, P2_7, P3_7, ⟨B0_7, B1_7, B2_7, B3_7⟩⟩ f9 (by decide) (by decide) (by decide +kernel) (by decide +kernel) (by decide +kernel) (by decide +kernel) (by decide +kernel) (by decide +kernel) (by decide +kernel)) hZ (hw _ (List.mem_of_getElem? (i := 61) rfl)) (hw _ (List.mem_of_getElem? (i := 2) rfl)) (by decide) (by decide)) q37a q37c (g := (mkF m 24 #[.val (.int p0), .val (.int p1), .val (.ref b1), .val (.int (1 : Int32)), .val (.int (1 : Int32)), .unset, .unset, .unset, .unset] [(.ref b1)])) rfl (by rw [hml]; rfl) (Steps.refl _) (argsL := []) (rest := []) (lenOf pd_6 rfl) rfl (by show 2 * 0 + _ ≤ _; exact Nat.le_of_eq rfl) (hb hby at_24) (fun _ _ => ⟨rfl, e13, (by decide : 3 + 0 ≤ _), (by decide : 7 + 0 ≤ _)⟩)
    dsimp only [Pt.U, Pt.locs, Pt.cells, Pt.slots] at X37 l37 y37 z37 st37 hQ37
    subst l37 y37 z37
    obtain ⟨rfl, Nq37, K37, P0_37, P1_37, P2_37, P3_37, B0_37, B1_37, B2_37, B3_37⟩ := hQ37
    have ns38 : ∀ x ∈ [b1, bs, t], ∃ c : Cell, T7.heap[x]? = some c ∧ c.vm.isStatics = false := (own_allS (own_ns_e P0_7) (own_allS (own_ns_e B0_7) (own_allS (own_ns_v B3_7) own_all0)))
    have f39 := own_sta_keep f9 K37 ns38
    have f40 := P0_7.keep K37
    have f41 := B0_7.keep K37
    have zz42 : n0 ≤ T37.heap.size := Nat.le_trans zz11 K37.1
    have C_37 : Fld Z T37.heap b1 "com/example/oblivious/oblivious/broker/PacketIds" "count" "I" (.int (1 : Int32)) := P2_37
    have V_37 : Arv Z T37.heap t kc .long 1 [.long (2 : Int64)] (.long (0 : Int64)) := (show own_set (0 : Int64) (1 : Int32) = (2 : Int64) by decide +kernel) ▸ B3_37
    have N43 := Fr.app N14 Nq37
    obtain ⟨cq44, kq44, q44a, q44b, q44c⟩ := isOf hZ rfl P0_37
    obtain ⟨_, _, ⟨T44, L44, k44, n44⟩, -, X44, ⟨Lc44, hQ44, l44, y44, z44⟩, st44⟩ := X37.virtualBack hx (y := (⟨"com/example/oblivious/oblivious/broker/PacketIds", "hasFree", "()Z"⟩ : MethodName)) (z := (⟨"com/example/oblivious/oblivious/broker/PacketIds", "hasFree", "()Z"⟩ : MethodName)) hown (mvT hZ (hw _ (List.mem_of_getElem? (i := 33) rfl))) (mvT hZ (hw _ (List.mem_of_getElem? (i := 34) rfl))) (notFace_of_selects (args := #[]) (mvT hZ (hw _ (List.mem_of_getElem? (i := 36) rfl)))) (mvT hZ (hw _ (List.mem_of_getElem? (i := 36) rfl))) (mvT hZ (hw _ (List.mem_of_getElem? (i := 35) rfl))) (by decide) (backOf (W := 0) (rm6 l Z a0 hw [] b1 (1 : Int32) T37.heap n0 zz42 C_37 (by decide)) hZ (hw _ (List.mem_of_getElem? (i := 37) rfl)) (hw _ (List.mem_of_getElem? (i := 2) rfl)) (by decide) (by decide)) q44a q44c (g := (mkF m 40 #[.val (.int p0), .val (.int p1), .val (.ref b1), .val (.int (1 : Int32)), .val (.int (1 : Int32)), .val (.int (1 : Int32)), .unset, .unset, .unset] [(.ref b1)])) rfl (by rw [hml]; rfl) (Steps.refl _) (argsL := []) (rest := []) (lenOf pd_4 rfl) rfl (by show 2 * 0 + _ ≤ _; exact Nat.le_of_eq rfl) (hb hby at_40) (fun _ _ => ⟨rfl, rfl, (by decide : 3 + 0 ≤ _), (by decide : 7 + 0 ≤ _)⟩)
    dsimp only [Pt.U, Pt.locs, Pt.cells, Pt.slots] at X44 l44 y44 z44 st44 hQ44
    subst l44 y44 z44
    obtain ⟨rfl, Nq44, e44⟩ := hQ44
    have N45 := Fr.app N43 Nq44
    have hi7 := own_i7 p1
    have he := own_e1 p1
    obtain ⟨cq46, kq46, q46a, q46b, q46c⟩ := isOf hZ e44 P0_37
    obtain ⟨_, _, ⟨T46, L46, k46, n46⟩, -, X46, ⟨Lc46, hQ46, l46, y46, z46⟩, st46⟩ := X44.virtualBack hx (y := (⟨"com/example/oblivious/oblivious/broker/PacketIds", "free", "(I)Z"⟩ : MethodName)) (z := (⟨"com/example/oblivious/oblivious/broker/PacketIds", "free", "(I)Z"⟩ : MethodName)) hown (mvT hZ (hw _ (List.mem_of_getElem? (i := 41) rfl))) (mvT hZ (hw _ (List.mem_of_getElem? (i := 42) rfl))) (notFace_of_selects (args := #[]) (mvT hZ (hw _ (List.mem_of_getElem? (i := 44) rfl)))) (mvT hZ (hw _ (List.mem_of_getElem? (i := 44) rfl))) (mvT hZ (hw _ (List.mem_of_getElem? (i := 43) rfl))) (by decide) (backOf (W := 0) (rm7 l Z a0 hw [] b1 (p1 &&& (7 : Int32)) bs t kc (1 : Int32) (1 : Int32) (1 : Int32) (2 : Int64) T37.heap n0 zz42 gn_b1 gn_bs gn_t ne1 ne2 ne3 ⟨P0_37, P1_37, C_37, P3_37, ⟨B0_37, B1_37, B2_37, V_37⟩⟩ f39 (by decide) (by decide) hi7.1 hi7.2) hZ (hw _ (List.mem_of_getElem? (i := 45) rfl)) (hw _ (List.mem_of_getElem? (i := 2) rfl)) (by decide) (by decide)) q46a q46c (g := (mkF m 131 #[.val (.int p0), .val (.int p1), .val (.ref b1), .val (.int (1 : Int32)), .val (.int (1 : Int32)), .val (.int (p1 &&& (7 : Int32))), .unset, .unset, .unset] [(.int (p1 &&& (7 : Int32))), (.ref b1)])) rfl (by rw [hml]; rfl) (Steps.refl _) (argsL := [(.int (p1 &&& (7 : Int32)))]) (rest := []) (lenOf pd_5 rfl) rfl (by show 2 * 0 + _ ≤ _; exact Nat.le_of_eq rfl) (hb hby at_131) (fun _ _ => ⟨rfl, e44, (by decide : 3 + 0 ≤ _), (by decide : 7 + 0 ≤ _)⟩)
    dsimp only [Pt.U, Pt.locs, Pt.cells, Pt.slots] at X46 l46 y46 z46 st46 hQ46
    subst l46 y46 z46
    obtain ⟨cF, uF, wF, rfl, Nq46, K46, ⟨P0_46, P1_46, P2_46, P3_46, B0_46, B1_46, B2_46, B3_46⟩, hF⟩ := hQ46
    have ns47 : ∀ x ∈ [b1, bs, t], ∃ c : Cell, T37.heap[x]? = some c ∧ c.vm.isStatics = false := (own_allS (own_ns_e P0_37) (own_allS (own_ns_e B0_37) (own_allS (own_ns_v V_37) own_all0)))
    have f48 := own_sta_keep f39 K46 ns47
    have f49 := P0_37.keep K46
    have f50 := B0_37.keep K46
    have zz51 : n0 ≤ T46.heap.size := Nat.le_trans zz42 K46.1
    have N52 := Fr.app N45 Nq46
    have hc' := own_c1 hF
    have pre53 : ∀ tgt, Steps p.tables e below (T46.setTop (mkF m 139 #[.val (.int p0), .val (.int p1), .val (.ref b1), .val (.int (1 : Int32)), .val (.int (1 : Int32)), .val (.int (p1 &&& (7 : Int32))), .val (.int (own_get (1 : Int32) (2 : Int64) (p1 &&& (7 : Int32)))), .unset, .unset] [(.int (1 : Int32)), (.int (p1 &&& (7 : Int32)))])) tgt → Steps p.tables e below (s₁.setTop (entryFrame m #[(.int p0), (.int p1)] maxLocals)) tgt := fun tgt kt => pre15 _ (by
      show Steps p.tables e below (T13.setTop (mkF m 18 #[.val (.int p0), .val (.int p1), .val (.ref b1), .val (.int (1 : Int32)), .val (.int (1 : Int32)), .unset, .unset, .unset, .unset] [])) _
      refine XS.iload X13.here hx rfl (hb hby at_18) rfl ?_
      show Steps p.tables e below (T13.setTop (mkF m 20 #[.val (.int p0), .val (.int p1), .val (.ref b1), .val (.int (1 : Int32)), .val (.int (1 : Int32)), .unset, .unset, .unset, .unset] [(.int (1 : Int32))])) _
      refine XS.ifNo X13.here hx rfl (hb hby at_20) rfl ((if0 _ _).trans (tlt (by decide : (0 : Int32) < (1 : Int32))).2.2.2) ?_
      show Steps p.tables e below (T13.setTop (mkF m 23 #[.val (.int p0), .val (.int p1), .val (.ref b1), .val (.int (1 : Int32)), .val (.int (1 : Int32)), .unset, .unset, .unset, .unset] [])) _
      refine XS.aloadN X13.here hx rfl (hb hby at_23) rfl rfl ?_
      show Steps p.tables e below (T13.setTop (mkF m 24 #[.val (.int p0), .val (.int p1), .val (.ref b1), .val (.int (1 : Int32)), .val (.int (1 : Int32)), .unset, .unset, .unset, .unset] [(.ref b1)])) _
      refine st37.trans ?_
      show Steps p.tables e below (T37.setTop (mkF m 27 #[.val (.int p0), .val (.int p1), .val (.ref b1), .val (.int (1 : Int32)), .val (.int (1 : Int32)), .unset, .unset, .unset, .unset] [(.int (1 : Int32))])) _
      refine XS.istore X37.here hx rfl (hb hby at_27) rfl (l' := #[.val (.int p0), .val (.int p1), .val (.ref b1), .val (.int (1 : Int32)), .val (.int (1 : Int32)), .val (.int (1 : Int32)), .unset, .unset, .unset]) rfl ?_
      show Steps p.tables e below (T37.setTop (mkF m 29 #[.val (.int p0), .val (.int p1), .val (.ref b1), .val (.int (1 : Int32)), .val (.int (1 : Int32)), .val (.int (1 : Int32)), .unset, .unset, .unset] [])) _
      refine XS.iloadN X37.here hx rfl (hb hby at_29) rfl ?_
      show Steps p.tables e below (T37.setTop (mkF m 30 #[.val (.int p0), .val (.int p1), .val (.ref b1), .val (.int (1 : Int32)), .val (.int (1 : Int32)), .val (.int (1 : Int32)), .unset, .unset, .unset] [(.int (1 : Int32))])) _
      refine XS.ifNo X37.here hx rfl (hb hby at_30) rfl ((if0 _ _).trans (feq (by decide : ¬ ((1 : Int32) = (0 : Int32)))).1) ?_
      show Steps p.tables e below (T37.setTop (mkF m 33 #[.val (.int p0), .val (.int p1), .val (.ref b1), .val (.int (1 : Int32)), .val (.int (1 : Int32)), .val (.int (1 : Int32)), .unset, .unset, .unset] [])) _
      refine XS.iload X37.here hx rfl (hb hby at_33) rfl ?_
      show Steps p.tables e below (T37.setTop (mkF m 35 #[.val (.int p0), .val (.int p1), .val (.ref b1), .val (.int (1 : Int32)), .val (.int (1 : Int32)), .val (.int (1 : Int32)), .unset, .unset, .unset] [(.int (1 : Int32))])) _
      refine XS.iconst X37.here hx rfl (hb hby at_35) ?_
      show Steps p.tables e below (T37.setTop (mkF m 36 #[.val (.int p0), .val (.int p1), .val (.ref b1), .val (.int (1 : Int32)), .val (.int (1 : Int32)), .val (.int (1 : Int32)), .unset, .unset, .unset] [(.int (1 : Int32)), (.int (1 : Int32))])) _
      refine XS.icmpNo X37.here hx rfl (hb hby at_36) rfl (teq (rfl : (1 : Int32) = (1 : Int32))).2 ?_
      show Steps p.tables e below (T37.setTop (mkF m 39 #[.val (.int p0), .val (.int p1), .val (.ref b1), .val (.int (1 : Int32)), .val (.int (1 : Int32)), .val (.int (1 : Int32)), .unset, .unset, .unset] [])) _
      refine XS.aloadN X37.here hx rfl (hb hby at_39) rfl rfl ?_
      show Steps p.tables e below (T37.setTop (mkF m 40 #[.val (.int p0), .val (.int p1), .val (.ref b1), .val (.int (1 : Int32)), .val (.int (1 : Int32)), .val (.int (1 : Int32)), .unset, .unset, .unset] [(.ref b1)])) _
      refine st44.trans ?_
      show Steps p.tables e below (T44.setTop (mkF m 43 #[.val (.int p0), .val (.int p1), .val (.ref b1), .val (.int (1 : Int32)), .val (.int (1 : Int32)), .val (.int (1 : Int32)), .unset, .unset, .unset] [(.int (1 : Int32))])) _
      refine XS.ifNo X44.here hx rfl (hb hby at_43) rfl ((if0 _ _).trans (feq (by decide : ¬ ((1 : Int32) = (0 : Int32)))).1) ?_
      show Steps p.tables e below (T44.setTop (mkF m 46 #[.val (.int p0), .val (.int p1), .val (.ref b1), .val (.int (1 : Int32)), .val (.int (1 : Int32)), .val (.int (1 : Int32)), .unset, .unset, .unset] [])) _
      refine XS.iconst X44.here hx rfl (hb hby at_46) ?_
      show Steps p.tables e below (T44.setTop (mkF m 47 #[.val (.int p0), .val (.int p1), .val (.ref b1), .val (.int (1 : Int32)), .val (.int (1 : Int32)), .val (.int (1 : Int32)), .unset, .unset, .unset] [(.int (1 : Int32))])) _
      refine XS.goto X44.here hx rfl (pc0 := 47) (pc' := 51) rfl (hb hby at_47) (by decide) (by decide) ?_
      show Steps p.tables e below (T44.setTop (mkF m 51 #[.val (.int p0), .val (.int p1), .val (.ref b1), .val (.int (1 : Int32)), .val (.int (1 : Int32)), .val (.int (1 : Int32)), .unset, .unset, .unset] [(.int (1 : Int32))])) _
      refine XS.istoreN X44.here hx rfl (hb hby at_51) rfl (l' := #[.val (.int p0), .val (.int p1), .val (.ref b1), .val (.int (1 : Int32)), .val (.int (1 : Int32)), .val (.int (1 : Int32)), .unset, .unset, .unset]) rfl ?_
      show Steps p.tables e below (T44.setTop (mkF m 52 #[.val (.int p0), .val (.int p1), .val (.ref b1), .val (.int (1 : Int32)), .val (.int (1 : Int32)), .val (.int (1 : Int32)), .unset, .unset, .unset] [])) _
      refine XS.iload X44.here hx rfl (hb hby at_52) rfl ?_
      show Steps p.tables e below (T44.setTop (mkF m 54 #[.val (.int p0), .val (.int p1), .val (.ref b1), .val (.int (1 : Int32)), .val (.int (1 : Int32)), .val (.int (1 : Int32)), .unset, .unset, .unset] [(.int (1 : Int32))])) _
      refine XS.iconst X44.here hx rfl (hb hby at_54) ?_
      show Steps p.tables e below (T44.setTop (mkF m 55 #[.val (.int p0), .val (.int p1), .val (.ref b1), .val (.int (1 : Int32)), .val (.int (1 : Int32)), .val (.int (1 : Int32)), .unset, .unset, .unset] [(.int (1 : Int32)), (.int (1 : Int32))])) _
      refine XS.icmpYes X44.here hx rfl (pc0 := 55) (pc' := 87) rfl (hb hby at_55) rfl (flt (by decide : ¬ ((1 : Int32) < (1 : Int32)))).2.2.2 (by decide) (by decide) ?_
      show Steps p.tables e below (T44.setTop (mkF m 87 #[.val (.int p0), .val (.int p1), .val (.ref b1), .val (.int (1 : Int32)), .val (.int (1 : Int32)), .val (.int (1 : Int32)), .unset, .unset, .unset] [])) _
      refine XS.iload X44.here hx rfl (hb hby at_87) rfl ?_
      show Steps p.tables e below (T44.setTop (mkF m 89 #[.val (.int p0), .val (.int p1), .val (.ref b1), .val (.int (1 : Int32)), .val (.int (1 : Int32)), .val (.int (1 : Int32)), .unset, .unset, .unset] [(.int (1 : Int32))])) _
      refine XS.iconst X44.here hx rfl (hb hby at_89) ?_
      show Steps p.tables e below (T44.setTop (mkF m 90 #[.val (.int p0), .val (.int p1), .val (.ref b1), .val (.int (1 : Int32)), .val (.int (1 : Int32)), .val (.int (1 : Int32)), .unset, .unset, .unset] [(.int (2 : Int32)), (.int (1 : Int32))])) _
      refine XS.icmpYes X44.here hx rfl (pc0 := 90) (pc' := 122) rfl (hb hby at_90) rfl (flt (by decide : ¬ ((2 : Int32) < (1 : Int32)))).2.2.2 (by decide) (by decide) ?_
      show Steps p.tables e below (T44.setTop (mkF m 122 #[.val (.int p0), .val (.int p1), .val (.ref b1), .val (.int (1 : Int32)), .val (.int (1 : Int32)), .val (.int (1 : Int32)), .unset, .unset, .unset] [])) _
      refine XS.iloadN X44.here hx rfl (hb hby at_122) rfl ?_
      show Steps p.tables e below (T44.setTop (mkF m 123 #[.val (.int p0), .val (.int p1), .val (.ref b1), .val (.int (1 : Int32)), .val (.int (1 : Int32)), .val (.int (1 : Int32)), .unset, .unset, .unset] [(.int p1)])) _
      refine XS.bipush X44.here hx rfl (hb hby at_123) ?_
      show Steps p.tables e below (T44.setTop (mkF m 125 #[.val (.int p0), .val (.int p1), .val (.ref b1), .val (.int (1 : Int32)), .val (.int (1 : Int32)), .val (.int (1 : Int32)), .unset, .unset, .unset] [(.int (7 : Int32)), (.int p1)])) _
      refine XS.iand X44.here hx rfl (hb hby at_125) rfl ?_
      show Steps p.tables e below (T44.setTop (mkF m 126 #[.val (.int p0), .val (.int p1), .val (.ref b1), .val (.int (1 : Int32)), .val (.int (1 : Int32)), .val (.int (1 : Int32)), .unset, .unset, .unset] [(.int (p1 &&& (7 : Int32)))])) _
      refine XS.istore X44.here hx rfl (hb hby at_126) rfl (l' := #[.val (.int p0), .val (.int p1), .val (.ref b1), .val (.int (1 : Int32)), .val (.int (1 : Int32)), .val (.int (p1 &&& (7 : Int32))), .unset, .unset, .unset]) rfl ?_
      show Steps p.tables e below (T44.setTop (mkF m 128 #[.val (.int p0), .val (.int p1), .val (.ref b1), .val (.int (1 : Int32)), .val (.int (1 : Int32)), .val (.int (p1 &&& (7 : Int32))), .unset, .unset, .unset] [])) _
      refine XS.aloadN X44.here hx rfl (hb hby at_128) rfl rfl ?_
      show Steps p.tables e below (T44.setTop (mkF m 129 #[.val (.int p0), .val (.int p1), .val (.ref b1), .val (.int (1 : Int32)), .val (.int (1 : Int32)), .val (.int (p1 &&& (7 : Int32))), .unset, .unset, .unset] [(.ref b1)])) _
      refine XS.iload X44.here hx rfl (hb hby at_129) rfl ?_
      show Steps p.tables e below (T44.setTop (mkF m 131 #[.val (.int p0), .val (.int p1), .val (.ref b1), .val (.int (1 : Int32)), .val (.int (1 : Int32)), .val (.int (p1 &&& (7 : Int32))), .unset, .unset, .unset] [(.int (p1 &&& (7 : Int32))), (.ref b1)])) _
      refine st46.trans ?_
      show Steps p.tables e below (T46.setTop (mkF m 134 #[.val (.int p0), .val (.int p1), .val (.ref b1), .val (.int (1 : Int32)), .val (.int (1 : Int32)), .val (.int (p1 &&& (7 : Int32))), .unset, .unset, .unset] [(.int (own_get (1 : Int32) (2 : Int64) (p1 &&& (7 : Int32))))])) _
      refine XS.istore X46.here hx rfl (hb hby at_134) rfl (l' := #[.val (.int p0), .val (.int p1), .val (.ref b1), .val (.int (1 : Int32)), .val (.int (1 : Int32)), .val (.int (p1 &&& (7 : Int32))), .val (.int (own_get (1 : Int32) (2 : Int64) (p1 &&& (7 : Int32)))), .unset, .unset]) rfl ?_
      show Steps p.tables e below (T46.setTop (mkF m 136 #[.val (.int p0), .val (.int p1), .val (.ref b1), .val (.int (1 : Int32)), .val (.int (1 : Int32)), .val (.int (p1 &&& (7 : Int32))), .val (.int (own_get (1 : Int32) (2 : Int64) (p1 &&& (7 : Int32)))), .unset, .unset] [])) _
      refine XS.iload X46.here hx rfl (hb hby at_136) rfl ?_
      show Steps p.tables e below (T46.setTop (mkF m 138 #[.val (.int p0), .val (.int p1), .val (.ref b1), .val (.int (1 : Int32)), .val (.int (1 : Int32)), .val (.int (p1 &&& (7 : Int32))), .val (.int (own_get (1 : Int32) (2 : Int64) (p1 &&& (7 : Int32)))), .unset, .unset] [(.int (p1 &&& (7 : Int32)))])) _
      refine XS.iconst X46.here hx rfl (hb hby at_138) ?_
      exact kt)
    obtain ⟨ex, hm55, pre54⟩ : ∃ (ex : Int32), ((own_get (1 : Int32) (2 : Int64) (p1 &&& (7 : Int32))) = ex) ∧ ∀ tgt, Steps p.tables e below (T46.setTop (mkF m 156 #[.val (.int p0), .val (.int p1), .val (.ref b1), .val (.int (1 : Int32)), .val (.int (1 : Int32)), .val (.int (p1 &&& (7 : Int32))), .val (.int (own_get (1 : Int32) (2 : Int64) (p1 &&& (7 : Int32)))), .val (.int ex), .unset] [])) tgt → Steps p.tables e below (s₁.setTop (entryFrame m #[(.int p0), (.int p1)] maxLocals)) tgt := by
      by_cases h139 : (p1 &&& (7 : Int32)) < (1 : Int32)
      · exact ⟨(0 : Int32), (he.1 h139), fun tgt kt => pre53 _ (by
          show Steps p.tables e below (T46.setTop (mkF m 139 #[.val (.int p0), .val (.int p1), .val (.ref b1), .val (.int (1 : Int32)), .val (.int (1 : Int32)), .val (.int (p1 &&& (7 : Int32))), .val (.int (own_get (1 : Int32) (2 : Int64) (p1 &&& (7 : Int32)))), .unset, .unset] [(.int (1 : Int32)), (.int (p1 &&& (7 : Int32)))])) _
          refine XS.icmpYes X46.here hx rfl (pc0 := 139) (pc' := 153) rfl (hb hby at_139) rfl (tlt h139).1 (by decide) (by decide) ?_
          show Steps p.tables e below (T46.setTop (mkF m 153 #[.val (.int p0), .val (.int p1), .val (.ref b1), .val (.int (1 : Int32)), .val (.int (1 : Int32)), .val (.int (p1 &&& (7 : Int32))), .val (.int (own_get (1 : Int32) (2 : Int64) (p1 &&& (7 : Int32)))), .unset, .unset] [])) _
          refine XS.iconst X46.here hx rfl (hb hby at_153) ?_
          show Steps p.tables e below (T46.setTop (mkF m 154 #[.val (.int p0), .val (.int p1), .val (.ref b1), .val (.int (1 : Int32)), .val (.int (1 : Int32)), .val (.int (p1 &&& (7 : Int32))), .val (.int (own_get (1 : Int32) (2 : Int64) (p1 &&& (7 : Int32)))), .unset, .unset] [(.int (0 : Int32))])) _
          refine XS.istore X46.here hx rfl (hb hby at_154) rfl (l' := #[.val (.int p0), .val (.int p1), .val (.ref b1), .val (.int (1 : Int32)), .val (.int (1 : Int32)), .val (.int (p1 &&& (7 : Int32))), .val (.int (own_get (1 : Int32) (2 : Int64) (p1 &&& (7 : Int32)))), .val (.int (0 : Int32)), .unset]) rfl ?_
          exact kt)⟩
      · by_cases h146 : (1 : Int32) < (p1 &&& (7 : Int32))
        · exact ⟨(0 : Int32), (he.2.1 h139 h146), fun tgt kt => pre53 _ (by
            show Steps p.tables e below (T46.setTop (mkF m 139 #[.val (.int p0), .val (.int p1), .val (.ref b1), .val (.int (1 : Int32)), .val (.int (1 : Int32)), .val (.int (p1 &&& (7 : Int32))), .val (.int (own_get (1 : Int32) (2 : Int64) (p1 &&& (7 : Int32)))), .unset, .unset] [(.int (1 : Int32)), (.int (p1 &&& (7 : Int32)))])) _
            refine XS.icmpNo X46.here hx rfl (hb hby at_139) rfl (flt h139).1 ?_
            show Steps p.tables e below (T46.setTop (mkF m 142 #[.val (.int p0), .val (.int p1), .val (.ref b1), .val (.int (1 : Int32)), .val (.int (1 : Int32)), .val (.int (p1 &&& (7 : Int32))), .val (.int (own_get (1 : Int32) (2 : Int64) (p1 &&& (7 : Int32)))), .unset, .unset] [])) _
            refine XS.iload X46.here hx rfl (hb hby at_142) rfl ?_
            show Steps p.tables e below (T46.setTop (mkF m 144 #[.val (.int p0), .val (.int p1), .val (.ref b1), .val (.int (1 : Int32)), .val (.int (1 : Int32)), .val (.int (p1 &&& (7 : Int32))), .val (.int (own_get (1 : Int32) (2 : Int64) (p1 &&& (7 : Int32)))), .unset, .unset] [(.int (p1 &&& (7 : Int32)))])) _
            refine XS.iload X46.here hx rfl (hb hby at_144) rfl ?_
            show Steps p.tables e below (T46.setTop (mkF m 146 #[.val (.int p0), .val (.int p1), .val (.ref b1), .val (.int (1 : Int32)), .val (.int (1 : Int32)), .val (.int (p1 &&& (7 : Int32))), .val (.int (own_get (1 : Int32) (2 : Int64) (p1 &&& (7 : Int32)))), .unset, .unset] [(.int (1 : Int32)), (.int (p1 &&& (7 : Int32)))])) _
            refine XS.icmpYes X46.here hx rfl (pc0 := 146) (pc' := 153) rfl (hb hby at_146) rfl (tlt h146).2.2.1 (by decide) (by decide) ?_
            show Steps p.tables e below (T46.setTop (mkF m 153 #[.val (.int p0), .val (.int p1), .val (.ref b1), .val (.int (1 : Int32)), .val (.int (1 : Int32)), .val (.int (p1 &&& (7 : Int32))), .val (.int (own_get (1 : Int32) (2 : Int64) (p1 &&& (7 : Int32)))), .unset, .unset] [])) _
            refine XS.iconst X46.here hx rfl (hb hby at_153) ?_
            show Steps p.tables e below (T46.setTop (mkF m 154 #[.val (.int p0), .val (.int p1), .val (.ref b1), .val (.int (1 : Int32)), .val (.int (1 : Int32)), .val (.int (p1 &&& (7 : Int32))), .val (.int (own_get (1 : Int32) (2 : Int64) (p1 &&& (7 : Int32)))), .unset, .unset] [(.int (0 : Int32))])) _
            refine XS.istore X46.here hx rfl (hb hby at_154) rfl (l' := #[.val (.int p0), .val (.int p1), .val (.ref b1), .val (.int (1 : Int32)), .val (.int (1 : Int32)), .val (.int (p1 &&& (7 : Int32))), .val (.int (own_get (1 : Int32) (2 : Int64) (p1 &&& (7 : Int32)))), .val (.int (0 : Int32)), .unset]) rfl ?_
            exact kt)⟩
        · exact ⟨(1 : Int32), (he.2.2 h139 h146), fun tgt kt => pre53 _ (by
            show Steps p.tables e below (T46.setTop (mkF m 139 #[.val (.int p0), .val (.int p1), .val (.ref b1), .val (.int (1 : Int32)), .val (.int (1 : Int32)), .val (.int (p1 &&& (7 : Int32))), .val (.int (own_get (1 : Int32) (2 : Int64) (p1 &&& (7 : Int32)))), .unset, .unset] [(.int (1 : Int32)), (.int (p1 &&& (7 : Int32)))])) _
            refine XS.icmpNo X46.here hx rfl (hb hby at_139) rfl (flt h139).1 ?_
            show Steps p.tables e below (T46.setTop (mkF m 142 #[.val (.int p0), .val (.int p1), .val (.ref b1), .val (.int (1 : Int32)), .val (.int (1 : Int32)), .val (.int (p1 &&& (7 : Int32))), .val (.int (own_get (1 : Int32) (2 : Int64) (p1 &&& (7 : Int32)))), .unset, .unset] [])) _
            refine XS.iload X46.here hx rfl (hb hby at_142) rfl ?_
            show Steps p.tables e below (T46.setTop (mkF m 144 #[.val (.int p0), .val (.int p1), .val (.ref b1), .val (.int (1 : Int32)), .val (.int (1 : Int32)), .val (.int (p1 &&& (7 : Int32))), .val (.int (own_get (1 : Int32) (2 : Int64) (p1 &&& (7 : Int32)))), .unset, .unset] [(.int (p1 &&& (7 : Int32)))])) _
            refine XS.iload X46.here hx rfl (hb hby at_144) rfl ?_
            show Steps p.tables e below (T46.setTop (mkF m 146 #[.val (.int p0), .val (.int p1), .val (.ref b1), .val (.int (1 : Int32)), .val (.int (1 : Int32)), .val (.int (p1 &&& (7 : Int32))), .val (.int (own_get (1 : Int32) (2 : Int64) (p1 &&& (7 : Int32)))), .unset, .unset] [(.int (1 : Int32)), (.int (p1 &&& (7 : Int32)))])) _
            refine XS.icmpNo X46.here hx rfl (hb hby at_146) rfl (flt h146).2.2.1 ?_
            show Steps p.tables e below (T46.setTop (mkF m 149 #[.val (.int p0), .val (.int p1), .val (.ref b1), .val (.int (1 : Int32)), .val (.int (1 : Int32)), .val (.int (p1 &&& (7 : Int32))), .val (.int (own_get (1 : Int32) (2 : Int64) (p1 &&& (7 : Int32)))), .unset, .unset] [])) _
            refine XS.iconst X46.here hx rfl (hb hby at_149) ?_
            show Steps p.tables e below (T46.setTop (mkF m 150 #[.val (.int p0), .val (.int p1), .val (.ref b1), .val (.int (1 : Int32)), .val (.int (1 : Int32)), .val (.int (p1 &&& (7 : Int32))), .val (.int (own_get (1 : Int32) (2 : Int64) (p1 &&& (7 : Int32)))), .unset, .unset] [(.int (1 : Int32))])) _
            refine XS.goto X46.here hx rfl (pc0 := 150) (pc' := 154) rfl (hb hby at_150) (by decide) (by decide) ?_
            show Steps p.tables e below (T46.setTop (mkF m 154 #[.val (.int p0), .val (.int p1), .val (.ref b1), .val (.int (1 : Int32)), .val (.int (1 : Int32)), .val (.int (p1 &&& (7 : Int32))), .val (.int (own_get (1 : Int32) (2 : Int64) (p1 &&& (7 : Int32)))), .unset, .unset] [(.int (1 : Int32))])) _
            refine XS.istore X46.here hx rfl (hb hby at_154) rfl (l' := #[.val (.int p0), .val (.int p1), .val (.ref b1), .val (.int (1 : Int32)), .val (.int (1 : Int32)), .val (.int (p1 &&& (7 : Int32))), .val (.int (own_get (1 : Int32) (2 : Int64) (p1 &&& (7 : Int32)))), .val (.int (1 : Int32)), .unset]) rfl ?_
            exact kt)⟩
    obtain ⟨cq56, kq56, q56a, q56b, q56c⟩ := isOf hZ rfl P0_46
    obtain ⟨_, _, ⟨T56, L56, k56, n56⟩, -, X56, ⟨Lc56, hQ56, l56, y56, z56⟩, st56⟩ := X46.virtualBack hx (y := (⟨"com/example/oblivious/oblivious/broker/PacketIds", "hasFree", "()Z"⟩ : MethodName)) (z := (⟨"com/example/oblivious/oblivious/broker/PacketIds", "hasFree", "()Z"⟩ : MethodName)) hown (mvT hZ (hw _ (List.mem_of_getElem? (i := 33) rfl))) (mvT hZ (hw _ (List.mem_of_getElem? (i := 34) rfl))) (notFace_of_selects (args := #[]) (mvT hZ (hw _ (List.mem_of_getElem? (i := 36) rfl)))) (mvT hZ (hw _ (List.mem_of_getElem? (i := 36) rfl))) (mvT hZ (hw _ (List.mem_of_getElem? (i := 35) rfl))) (by decide) (backOf (W := 0) (rm6 l Z a0 hw [] b1 cF T46.heap n0 zz51 P2_46 hc'.1) hZ (hw _ (List.mem_of_getElem? (i := 37) rfl)) (hw _ (List.mem_of_getElem? (i := 2) rfl)) (by decide) (by decide)) q56a q56c (g := (mkF m 168 #[.val (.int p0), .val (.int p1), .val (.ref b1), .val (.int (1 : Int32)), .val (.int (1 : Int32)), .val (.int (p1 &&& (7 : Int32))), .val (.int (own_get (1 : Int32) (2 : Int64) (p1 &&& (7 : Int32)))), .val (.int ex), .unset] [(.ref b1)])) rfl (by rw [hml]; rfl) (Steps.refl _) (argsL := []) (rest := []) (lenOf pd_4 rfl) rfl (by show 2 * 0 + _ ≤ _; exact Nat.le_of_eq rfl) (hb hby at_168) (fun _ _ => ⟨rfl, rfl, (by decide : 3 + 0 ≤ _), (by decide : 7 + 0 ≤ _)⟩)
    dsimp only [Pt.U, Pt.locs, Pt.cells, Pt.slots] at X56 l56 y56 z56 st56 hQ56
    subst l56 y56 z56
    obtain ⟨rfl, Nq56, e56⟩ := hQ56
    have N57 := Fr.app N52 Nq56
    obtain ⟨cq58, kq58, q58a, q58b, q58c⟩ := isOf hZ e56 P0_46
    obtain ⟨_, _, ⟨T58, L58, k58, n58⟩, -, X58, ⟨Lc58, hQ58, l58, y58, z58⟩, st58⟩ := X56.virtualBack hx (y := (⟨"com/example/oblivious/oblivious/broker/PacketIds", "take", "()I"⟩ : MethodName)) (z := (⟨"com/example/oblivious/oblivious/broker/PacketIds", "take", "()I"⟩ : MethodName)) hown (mvT hZ (hw _ (List.mem_of_getElem? (i := 57) rfl))) (mvT hZ (hw _ (List.mem_of_getElem? (i := 58) rfl))) (notFace_of_selects (args := #[]) (mvT hZ (hw _ (List.mem_of_getElem? (i := 60) rfl)))) (mvT hZ (hw _ (List.mem_of_getElem? (i := 60) rfl))) (mvT hZ (hw _ (List.mem_of_getElem? (i := 59) rfl))) (by decide) (backOf (W := 0) (rm10 l Z a0 hw [] b1 bs t kc cF (1 : Int32) uF wF (2 : Int32) T46.heap n0 zz51 gn_b1 gn_bs gn_t ne1 ne2 ne3 ⟨P0_46, P1_46, P2_46, P3_46, ⟨B0_46, B1_46, B2_46, B3_46⟩⟩ f48 hc'.1 hc'.2.1 hc'.2.2.1 (by decide +kernel) (by decide +kernel) hc'.2.2.2 (by decide +kernel) (by decide +kernel) (by decide +kernel)) hZ (hw _ (List.mem_of_getElem? (i := 61) rfl)) (hw _ (List.mem_of_getElem? (i := 2) rfl)) (by decide) (by decide)) q58a q58c (g := (mkF m 181 #[.val (.int p0), .val (.int p1), .val (.ref b1), .val (.int (1 : Int32)), .val (.int (1 : Int32)), .val (.int (p1 &&& (7 : Int32))), .val (.int (own_get (1 : Int32) (2 : Int64) (p1 &&& (7 : Int32)))), .val (.int ex), .unset] [(.ref b1)])) rfl (by rw [hml]; rfl) (Steps.refl _) (argsL := []) (rest := []) (lenOf pd_6 rfl) rfl (by show 2 * 0 + _ ≤ _; exact Nat.le_of_eq rfl) (hb hby at_181) (fun _ _ => ⟨rfl, e56, (by decide : 3 + 0 ≤ _), (by decide : 7 + 0 ≤ _)⟩)
    dsimp only [Pt.U, Pt.locs, Pt.cells, Pt.slots] at X58 l58 y58 z58 st58 hQ58
    subst l58 y58 z58
    obtain ⟨rfl, Nq58, K58, P0_58, P1_58, P2_58, P3_58, B0_58, B1_58, B2_58, B3_58⟩ := hQ58
    have ns59 : ∀ x ∈ [b1, bs, t], ∃ c : Cell, T46.heap[x]? = some c ∧ c.vm.isStatics = false := (own_allS (own_ns_e P0_46) (own_allS (own_ns_e B0_46) (own_allS (own_ns_v B3_46) own_all0)))
    have f60 := own_sta_keep f48 K58 ns59
    have f61 := P0_46.keep K58
    have f62 := B0_46.keep K58
    have zz63 : n0 ≤ T58.heap.size := Nat.le_trans zz51 K58.1
    have N64 := Fr.app N57 Nq58
    obtain ⟨cq65, kq65, q65a, q65b, q65c⟩ := isOf hZ rfl P0_58
    obtain ⟨_, _, ⟨T65, L65, k65, n65⟩, -, X65, ⟨Lc65, hQ65, l65, y65, z65⟩, st65⟩ := X58.virtualBack hx (y := (⟨"com/example/oblivious/oblivious/broker/PacketIds", "hasFree", "()Z"⟩ : MethodName)) (z := (⟨"com/example/oblivious/oblivious/broker/PacketIds", "hasFree", "()Z"⟩ : MethodName)) hown (mvT hZ (hw _ (List.mem_of_getElem? (i := 33) rfl))) (mvT hZ (hw _ (List.mem_of_getElem? (i := 34) rfl))) (notFace_of_selects (args := #[]) (mvT hZ (hw _ (List.mem_of_getElem? (i := 36) rfl)))) (mvT hZ (hw _ (List.mem_of_getElem? (i := 36) rfl))) (mvT hZ (hw _ (List.mem_of_getElem? (i := 35) rfl))) (by decide) (backOf (W := 0) (rm6 l Z a0 hw [] b1 (cF + (1 : Int32)) T58.heap n0 zz63 P2_58 (own_lt1 hF)) hZ (hw _ (List.mem_of_getElem? (i := 37) rfl)) (hw _ (List.mem_of_getElem? (i := 2) rfl)) (by decide) (by decide)) q65a q65c (g := (mkF m 200 #[.val (.int p0), .val (.int p1), .val (.ref b1), .val (.int (1 : Int32)), .val (.int (1 : Int32)), .val (.int (p1 &&& (7 : Int32))), .val (.int (own_get (1 : Int32) (2 : Int64) (p1 &&& (7 : Int32)))), .val (.int ex), .val (.int (2 : Int32))] [(.ref b1)])) rfl (by rw [hml]; rfl) (Steps.refl _) (argsL := []) (rest := []) (lenOf pd_4 rfl) rfl (by show 2 * 0 + _ ≤ _; exact Nat.le_of_eq rfl) (hb hby at_200) (fun _ _ => ⟨rfl, rfl, (by decide : 3 + 0 ≤ _), (by decide : 7 + 0 ≤ _)⟩)
    dsimp only [Pt.U, Pt.locs, Pt.cells, Pt.slots] at X65 l65 y65 z65 st65 hQ65
    subst l65 y65 z65
    obtain ⟨rfl, Nq65, e65⟩ := hQ65
    have N66 := Fr.app N64 Nq65
    obtain ⟨fs, hr, hrun, hended, hW, hsame⟩ := X65.leave (v := some (.int (1 : Int32))) (fun h => by rw [Bd.returns] at h; cases h)
    refine ⟨_, _, pre54 _ ?_, hrun, hended, _, _, rfl, ?_, ⟨_, rfl⟩, hW, hsame.mono (by decide) (by decide)⟩
    · show Steps p.tables e below (T46.setTop (mkF m 156 #[.val (.int p0), .val (.int p1), .val (.ref b1), .val (.int (1 : Int32)), .val (.int (1 : Int32)), .val (.int (p1 &&& (7 : Int32))), .val (.int (own_get (1 : Int32) (2 : Int64) (p1 &&& (7 : Int32)))), .val (.int ex), .unset] [])) _
      refine XS.iloadN X46.here hx rfl (hb hby at_156) rfl ?_
      show Steps p.tables e below (T46.setTop (mkF m 157 #[.val (.int p0), .val (.int p1), .val (.ref b1), .val (.int (1 : Int32)), .val (.int (1 : Int32)), .val (.int (p1 &&& (7 : Int32))), .val (.int (own_get (1 : Int32) (2 : Int64) (p1 &&& (7 : Int32)))), .val (.int ex), .unset] [(.int (1 : Int32))])) _
      refine XS.ifNo X46.here hx rfl (hb hby at_157) rfl ((if0 _ _).trans (feq (by decide : ¬ ((1 : Int32) = (0 : Int32)))).1) ?_
      show Steps p.tables e below (T46.setTop (mkF m 160 #[.val (.int p0), .val (.int p1), .val (.ref b1), .val (.int (1 : Int32)), .val (.int (1 : Int32)), .val (.int (p1 &&& (7 : Int32))), .val (.int (own_get (1 : Int32) (2 : Int64) (p1 &&& (7 : Int32)))), .val (.int ex), .unset] [])) _
      refine XS.iload X46.here hx rfl (hb hby at_160) rfl ?_
      show Steps p.tables e below (T46.setTop (mkF m 162 #[.val (.int p0), .val (.int p1), .val (.ref b1), .val (.int (1 : Int32)), .val (.int (1 : Int32)), .val (.int (p1 &&& (7 : Int32))), .val (.int (own_get (1 : Int32) (2 : Int64) (p1 &&& (7 : Int32)))), .val (.int ex), .unset] [(.int (own_get (1 : Int32) (2 : Int64) (p1 &&& (7 : Int32))))])) _
      refine XS.iload X46.here hx rfl (hb hby at_162) rfl ?_
      show Steps p.tables e below (T46.setTop (mkF m 164 #[.val (.int p0), .val (.int p1), .val (.ref b1), .val (.int (1 : Int32)), .val (.int (1 : Int32)), .val (.int (p1 &&& (7 : Int32))), .val (.int (own_get (1 : Int32) (2 : Int64) (p1 &&& (7 : Int32)))), .val (.int ex), .unset] [(.int ex), (.int (own_get (1 : Int32) (2 : Int64) (p1 &&& (7 : Int32))))])) _
      refine XS.icmpNo X46.here hx rfl (hb hby at_164) rfl (teq hm55).2 ?_
      show Steps p.tables e below (T46.setTop (mkF m 167 #[.val (.int p0), .val (.int p1), .val (.ref b1), .val (.int (1 : Int32)), .val (.int (1 : Int32)), .val (.int (p1 &&& (7 : Int32))), .val (.int (own_get (1 : Int32) (2 : Int64) (p1 &&& (7 : Int32)))), .val (.int ex), .unset] [])) _
      refine XS.aloadN X46.here hx rfl (hb hby at_167) rfl rfl ?_
      show Steps p.tables e below (T46.setTop (mkF m 168 #[.val (.int p0), .val (.int p1), .val (.ref b1), .val (.int (1 : Int32)), .val (.int (1 : Int32)), .val (.int (p1 &&& (7 : Int32))), .val (.int (own_get (1 : Int32) (2 : Int64) (p1 &&& (7 : Int32)))), .val (.int ex), .unset] [(.ref b1)])) _
      refine st56.trans ?_
      show Steps p.tables e below (T56.setTop (mkF m 171 #[.val (.int p0), .val (.int p1), .val (.ref b1), .val (.int (1 : Int32)), .val (.int (1 : Int32)), .val (.int (p1 &&& (7 : Int32))), .val (.int (own_get (1 : Int32) (2 : Int64) (p1 &&& (7 : Int32)))), .val (.int ex), .unset] [(.int (1 : Int32))])) _
      refine XS.ifNo X56.here hx rfl (hb hby at_171) rfl ((if0 _ _).trans (feq (by decide : ¬ ((1 : Int32) = (0 : Int32)))).1) ?_
      show Steps p.tables e below (T56.setTop (mkF m 174 #[.val (.int p0), .val (.int p1), .val (.ref b1), .val (.int (1 : Int32)), .val (.int (1 : Int32)), .val (.int (p1 &&& (7 : Int32))), .val (.int (own_get (1 : Int32) (2 : Int64) (p1 &&& (7 : Int32)))), .val (.int ex), .unset] [])) _
      refine XS.iconst X56.here hx rfl (hb hby at_174) ?_
      show Steps p.tables e below (T56.setTop (mkF m 175 #[.val (.int p0), .val (.int p1), .val (.ref b1), .val (.int (1 : Int32)), .val (.int (1 : Int32)), .val (.int (p1 &&& (7 : Int32))), .val (.int (own_get (1 : Int32) (2 : Int64) (p1 &&& (7 : Int32)))), .val (.int ex), .unset] [(.int (1 : Int32))])) _
      refine XS.goto X56.here hx rfl (pc0 := 175) (pc' := 179) rfl (hb hby at_175) (by decide) (by decide) ?_
      show Steps p.tables e below (T56.setTop (mkF m 179 #[.val (.int p0), .val (.int p1), .val (.ref b1), .val (.int (1 : Int32)), .val (.int (1 : Int32)), .val (.int (p1 &&& (7 : Int32))), .val (.int (own_get (1 : Int32) (2 : Int64) (p1 &&& (7 : Int32)))), .val (.int ex), .unset] [(.int (1 : Int32))])) _
      refine XS.istoreN X56.here hx rfl (hb hby at_179) rfl (l' := #[.val (.int p0), .val (.int p1), .val (.ref b1), .val (.int (1 : Int32)), .val (.int (1 : Int32)), .val (.int (p1 &&& (7 : Int32))), .val (.int (own_get (1 : Int32) (2 : Int64) (p1 &&& (7 : Int32)))), .val (.int ex), .unset]) rfl ?_
      show Steps p.tables e below (T56.setTop (mkF m 180 #[.val (.int p0), .val (.int p1), .val (.ref b1), .val (.int (1 : Int32)), .val (.int (1 : Int32)), .val (.int (p1 &&& (7 : Int32))), .val (.int (own_get (1 : Int32) (2 : Int64) (p1 &&& (7 : Int32)))), .val (.int ex), .unset] [])) _
      refine XS.aloadN X56.here hx rfl (hb hby at_180) rfl rfl ?_
      show Steps p.tables e below (T56.setTop (mkF m 181 #[.val (.int p0), .val (.int p1), .val (.ref b1), .val (.int (1 : Int32)), .val (.int (1 : Int32)), .val (.int (p1 &&& (7 : Int32))), .val (.int (own_get (1 : Int32) (2 : Int64) (p1 &&& (7 : Int32)))), .val (.int ex), .unset] [(.ref b1)])) _
      refine st58.trans ?_
      show Steps p.tables e below (T58.setTop (mkF m 184 #[.val (.int p0), .val (.int p1), .val (.ref b1), .val (.int (1 : Int32)), .val (.int (1 : Int32)), .val (.int (p1 &&& (7 : Int32))), .val (.int (own_get (1 : Int32) (2 : Int64) (p1 &&& (7 : Int32)))), .val (.int ex), .unset] [(.int (2 : Int32))])) _
      refine XS.istore X58.here hx rfl (hb hby at_184) rfl (l' := #[.val (.int p0), .val (.int p1), .val (.ref b1), .val (.int (1 : Int32)), .val (.int (1 : Int32)), .val (.int (p1 &&& (7 : Int32))), .val (.int (own_get (1 : Int32) (2 : Int64) (p1 &&& (7 : Int32)))), .val (.int ex), .val (.int (2 : Int32))]) rfl ?_
      show Steps p.tables e below (T58.setTop (mkF m 186 #[.val (.int p0), .val (.int p1), .val (.ref b1), .val (.int (1 : Int32)), .val (.int (1 : Int32)), .val (.int (p1 &&& (7 : Int32))), .val (.int (own_get (1 : Int32) (2 : Int64) (p1 &&& (7 : Int32)))), .val (.int ex), .val (.int (2 : Int32))] [])) _
      refine XS.iloadN X58.here hx rfl (hb hby at_186) rfl ?_
      show Steps p.tables e below (T58.setTop (mkF m 187 #[.val (.int p0), .val (.int p1), .val (.ref b1), .val (.int (1 : Int32)), .val (.int (1 : Int32)), .val (.int (p1 &&& (7 : Int32))), .val (.int (own_get (1 : Int32) (2 : Int64) (p1 &&& (7 : Int32)))), .val (.int ex), .val (.int (2 : Int32))] [(.int (1 : Int32))])) _
      refine XS.ifNo X58.here hx rfl (hb hby at_187) rfl ((if0 _ _).trans (feq (by decide : ¬ ((1 : Int32) = (0 : Int32)))).1) ?_
      show Steps p.tables e below (T58.setTop (mkF m 190 #[.val (.int p0), .val (.int p1), .val (.ref b1), .val (.int (1 : Int32)), .val (.int (1 : Int32)), .val (.int (p1 &&& (7 : Int32))), .val (.int (own_get (1 : Int32) (2 : Int64) (p1 &&& (7 : Int32)))), .val (.int ex), .val (.int (2 : Int32))] [])) _
      refine XS.iload X58.here hx rfl (hb hby at_190) rfl ?_
      show Steps p.tables e below (T58.setTop (mkF m 192 #[.val (.int p0), .val (.int p1), .val (.ref b1), .val (.int (1 : Int32)), .val (.int (1 : Int32)), .val (.int (p1 &&& (7 : Int32))), .val (.int (own_get (1 : Int32) (2 : Int64) (p1 &&& (7 : Int32)))), .val (.int ex), .val (.int (2 : Int32))] [(.int (2 : Int32))])) _
      refine XS.iload X58.here hx rfl (hb hby at_192) rfl ?_
      show Steps p.tables e below (T58.setTop (mkF m 194 #[.val (.int p0), .val (.int p1), .val (.ref b1), .val (.int (1 : Int32)), .val (.int (1 : Int32)), .val (.int (p1 &&& (7 : Int32))), .val (.int (own_get (1 : Int32) (2 : Int64) (p1 &&& (7 : Int32)))), .val (.int ex), .val (.int (2 : Int32))] [(.int (1 : Int32)), (.int (2 : Int32))])) _
      refine XS.iconst X58.here hx rfl (hb hby at_194) ?_
      show Steps p.tables e below (T58.setTop (mkF m 195 #[.val (.int p0), .val (.int p1), .val (.ref b1), .val (.int (1 : Int32)), .val (.int (1 : Int32)), .val (.int (p1 &&& (7 : Int32))), .val (.int (own_get (1 : Int32) (2 : Int64) (p1 &&& (7 : Int32)))), .val (.int ex), .val (.int (2 : Int32))] [(.int (1 : Int32)), (.int (1 : Int32)), (.int (2 : Int32))])) _
      refine XS.iadd X58.here hx rfl (hb hby at_195) rfl ?_
      show Steps p.tables e below (T58.setTop (mkF m 196 #[.val (.int p0), .val (.int p1), .val (.ref b1), .val (.int (1 : Int32)), .val (.int (1 : Int32)), .val (.int (p1 &&& (7 : Int32))), .val (.int (own_get (1 : Int32) (2 : Int64) (p1 &&& (7 : Int32)))), .val (.int ex), .val (.int (2 : Int32))] [(.int ((1 : Int32) + (1 : Int32))), (.int (2 : Int32))])) _
      refine XS.icmpNo X58.here hx rfl (hb hby at_196) rfl (teq (by decide +kernel)).2 ?_
      show Steps p.tables e below (T58.setTop (mkF m 199 #[.val (.int p0), .val (.int p1), .val (.ref b1), .val (.int (1 : Int32)), .val (.int (1 : Int32)), .val (.int (p1 &&& (7 : Int32))), .val (.int (own_get (1 : Int32) (2 : Int64) (p1 &&& (7 : Int32)))), .val (.int ex), .val (.int (2 : Int32))] [])) _
      refine XS.aloadN X58.here hx rfl (hb hby at_199) rfl rfl ?_
      show Steps p.tables e below (T58.setTop (mkF m 200 #[.val (.int p0), .val (.int p1), .val (.ref b1), .val (.int (1 : Int32)), .val (.int (1 : Int32)), .val (.int (p1 &&& (7 : Int32))), .val (.int (own_get (1 : Int32) (2 : Int64) (p1 &&& (7 : Int32)))), .val (.int ex), .val (.int (2 : Int32))] [(.ref b1)])) _
      refine st65.trans ?_
      show Steps p.tables e below (T65.setTop (mkF m 203 #[.val (.int p0), .val (.int p1), .val (.ref b1), .val (.int (1 : Int32)), .val (.int (1 : Int32)), .val (.int (p1 &&& (7 : Int32))), .val (.int (own_get (1 : Int32) (2 : Int64) (p1 &&& (7 : Int32)))), .val (.int ex), .val (.int (2 : Int32))] [(.int (1 : Int32))])) _
      refine XS.ifNo X65.here hx rfl (hb hby at_203) rfl ((if0 _ _).trans (feq (by decide : ¬ ((1 : Int32) = (0 : Int32)))).1) ?_
      show Steps p.tables e below (T65.setTop (mkF m 206 #[.val (.int p0), .val (.int p1), .val (.ref b1), .val (.int (1 : Int32)), .val (.int (1 : Int32)), .val (.int (p1 &&& (7 : Int32))), .val (.int (own_get (1 : Int32) (2 : Int64) (p1 &&& (7 : Int32)))), .val (.int ex), .val (.int (2 : Int32))] [])) _
      refine XS.iconst X65.here hx rfl (hb hby at_206) ?_
      show Steps p.tables e below (T65.setTop (mkF m 207 #[.val (.int p0), .val (.int p1), .val (.ref b1), .val (.int (1 : Int32)), .val (.int (1 : Int32)), .val (.int (p1 &&& (7 : Int32))), .val (.int (own_get (1 : Int32) (2 : Int64) (p1 &&& (7 : Int32)))), .val (.int ex), .val (.int (2 : Int32))] [(.int (1 : Int32))])) _
      refine XS.goto X65.here hx rfl (pc0 := 207) (pc' := 211) rfl (hb hby at_207) (by decide) (by decide) ?_
      show Steps p.tables e below (T65.setTop (mkF m 211 #[.val (.int p0), .val (.int p1), .val (.ref b1), .val (.int (1 : Int32)), .val (.int (1 : Int32)), .val (.int (p1 &&& (7 : Int32))), .val (.int (own_get (1 : Int32) (2 : Int64) (p1 &&& (7 : Int32)))), .val (.int ex), .val (.int (2 : Int32))] [(.int (1 : Int32))])) _
      refine XS.istoreN X65.here hx rfl (hb hby at_211) rfl (l' := #[.val (.int p0), .val (.int p1), .val (.ref b1), .val (.int (1 : Int32)), .val (.int (1 : Int32)), .val (.int (p1 &&& (7 : Int32))), .val (.int (own_get (1 : Int32) (2 : Int64) (p1 &&& (7 : Int32)))), .val (.int ex), .val (.int (2 : Int32))]) rfl ?_
      show Steps p.tables e below (T65.setTop (mkF m 212 #[.val (.int p0), .val (.int p1), .val (.ref b1), .val (.int (1 : Int32)), .val (.int (1 : Int32)), .val (.int (p1 &&& (7 : Int32))), .val (.int (own_get (1 : Int32) (2 : Int64) (p1 &&& (7 : Int32)))), .val (.int ex), .val (.int (2 : Int32))] [])) _
      refine XS.iloadN X65.here hx rfl (hb hby at_212) rfl ?_
      show Steps p.tables e below (T65.setTop (mkF m 213 #[.val (.int p0), .val (.int p1), .val (.ref b1), .val (.int (1 : Int32)), .val (.int (1 : Int32)), .val (.int (p1 &&& (7 : Int32))), .val (.int (own_get (1 : Int32) (2 : Int64) (p1 &&& (7 : Int32)))), .val (.int ex), .val (.int (2 : Int32))] [(.int (1 : Int32))])) _
      exact retN X65 hx (t := .boolean) Bd.returns (by simp) (hb hby at_213) hr
    · show Q0 Z p0 p1 h0 n0 _ T65.heap _
      rw [e65]
      exact ⟨rfl, N66⟩
  · obtain ⟨cq67, kq67, q67a, q67b, q67c⟩ := isOf hZ e13 P0_7
    obtain ⟨_, _, ⟨T67, L67, k67, n67⟩, -, X67, ⟨Lc67, hQ67, l67, y67, z67⟩, st67⟩ := X13.virtualBack hx (y := (⟨"com/example/oblivious/oblivious/broker/PacketIds", "take", "()I"⟩ : MethodName)) (z := (⟨"com/example/oblivious/oblivious/broker/PacketIds", "take", "()I"⟩ : MethodName)) hown (mvT hZ (hw _ (List.mem_of_getElem? (i := 57) rfl))) (mvT hZ (hw _ (List.mem_of_getElem? (i := 58) rfl))) (notFace_of_selects (args := #[]) (mvT hZ (hw _ (List.mem_of_getElem? (i := 60) rfl)))) (mvT hZ (hw _ (List.mem_of_getElem? (i := 60) rfl))) (mvT hZ (hw _ (List.mem_of_getElem? (i := 59) rfl))) (by decide) (backOf (W := 0) (rm10 l Z a0 hw [] b1 bs t kc (0 : Int32) (0 : Int32) (0 : Int32) (0 : Int64) (1 : Int32) T7.heap n0 zz11 gn_b1 gn_bs gn_t ne1 ne2 ne3 ⟨P0_7, P1_7, P2_7, P3_7, ⟨B0_7, B1_7, B2_7, B3_7⟩⟩ f9 (by decide) (by decide) (by decide +kernel) (by decide +kernel) (by decide +kernel) (by decide +kernel) (by decide +kernel) (by decide +kernel) (by decide +kernel)) hZ (hw _ (List.mem_of_getElem? (i := 61) rfl)) (hw _ (List.mem_of_getElem? (i := 2) rfl)) (by decide) (by decide)) q67a q67c (g := (mkF m 24 #[.val (.int p0), .val (.int p1), .val (.ref b1), .val (.int (1 : Int32)), .val (.int (2 : Int32)), .unset, .unset, .unset, .unset] [(.ref b1)])) rfl (by rw [hml]; rfl) (Steps.refl _) (argsL := []) (rest := []) (lenOf pd_6 rfl) rfl (by show 2 * 0 + _ ≤ _; exact Nat.le_of_eq rfl) (hb hby at_24) (fun _ _ => ⟨rfl, e13, (by decide : 3 + 0 ≤ _), (by decide : 7 + 0 ≤ _)⟩)
    dsimp only [Pt.U, Pt.locs, Pt.cells, Pt.slots] at X67 l67 y67 z67 st67 hQ67
    subst l67 y67 z67
    obtain ⟨rfl, Nq67, K67, P0_67, P1_67, P2_67, P3_67, B0_67, B1_67, B2_67, B3_67⟩ := hQ67
    have ns68 : ∀ x ∈ [b1, bs, t], ∃ c : Cell, T7.heap[x]? = some c ∧ c.vm.isStatics = false := (own_allS (own_ns_e P0_7) (own_allS (own_ns_e B0_7) (own_allS (own_ns_v B3_7) own_all0)))
    have f69 := own_sta_keep f9 K67 ns68
    have f70 := P0_7.keep K67
    have f71 := B0_7.keep K67
    have zz72 : n0 ≤ T67.heap.size := Nat.le_trans zz11 K67.1
    have C_67 : Fld Z T67.heap b1 "com/example/oblivious/oblivious/broker/PacketIds" "count" "I" (.int (1 : Int32)) := P2_67
    have V_67 : Arv Z T67.heap t kc .long 1 [.long (2 : Int64)] (.long (0 : Int64)) := (show own_set (0 : Int64) (1 : Int32) = (2 : Int64) by decide +kernel) ▸ B3_67
    have N73 := Fr.app N14 Nq67
    obtain ⟨cq74, kq74, q74a, q74b, q74c⟩ := isOf hZ rfl P0_67
    obtain ⟨_, _, ⟨T74, L74, k74, n74⟩, -, X74, ⟨Lc74, hQ74, l74, y74, z74⟩, st74⟩ := X67.virtualBack hx (y := (⟨"com/example/oblivious/oblivious/broker/PacketIds", "hasFree", "()Z"⟩ : MethodName)) (z := (⟨"com/example/oblivious/oblivious/broker/PacketIds", "hasFree", "()Z"⟩ : MethodName)) hown (mvT hZ (hw _ (List.mem_of_getElem? (i := 33) rfl))) (mvT hZ (hw _ (List.mem_of_getElem? (i := 34) rfl))) (notFace_of_selects (args := #[]) (mvT hZ (hw _ (List.mem_of_getElem? (i := 36) rfl)))) (mvT hZ (hw _ (List.mem_of_getElem? (i := 36) rfl))) (mvT hZ (hw _ (List.mem_of_getElem? (i := 35) rfl))) (by decide) (backOf (W := 0) (rm6 l Z a0 hw [] b1 (1 : Int32) T67.heap n0 zz72 C_67 (by decide)) hZ (hw _ (List.mem_of_getElem? (i := 37) rfl)) (hw _ (List.mem_of_getElem? (i := 2) rfl)) (by decide) (by decide)) q74a q74c (g := (mkF m 40 #[.val (.int p0), .val (.int p1), .val (.ref b1), .val (.int (1 : Int32)), .val (.int (2 : Int32)), .val (.int (1 : Int32)), .unset, .unset, .unset] [(.ref b1)])) rfl (by rw [hml]; rfl) (Steps.refl _) (argsL := []) (rest := []) (lenOf pd_4 rfl) rfl (by show 2 * 0 + _ ≤ _; exact Nat.le_of_eq rfl) (hb hby at_40) (fun _ _ => ⟨rfl, rfl, (by decide : 3 + 0 ≤ _), (by decide : 7 + 0 ≤ _)⟩)
    dsimp only [Pt.U, Pt.locs, Pt.cells, Pt.slots] at X74 l74 y74 z74 st74 hQ74
    subst l74 y74 z74
    obtain ⟨rfl, Nq74, e74⟩ := hQ74
    have N75 := Fr.app N73 Nq74
    obtain ⟨cq76, kq76, q76a, q76b, q76c⟩ := isOf hZ e74 P0_67
    obtain ⟨_, _, ⟨T76, L76, k76, n76⟩, -, X76, ⟨Lc76, hQ76, l76, y76, z76⟩, st76⟩ := X74.virtualBack hx (y := (⟨"com/example/oblivious/oblivious/broker/PacketIds", "take", "()I"⟩ : MethodName)) (z := (⟨"com/example/oblivious/oblivious/broker/PacketIds", "take", "()I"⟩ : MethodName)) hown (mvT hZ (hw _ (List.mem_of_getElem? (i := 57) rfl))) (mvT hZ (hw _ (List.mem_of_getElem? (i := 58) rfl))) (notFace_of_selects (args := #[]) (mvT hZ (hw _ (List.mem_of_getElem? (i := 60) rfl)))) (mvT hZ (hw _ (List.mem_of_getElem? (i := 60) rfl))) (mvT hZ (hw _ (List.mem_of_getElem? (i := 59) rfl))) (by decide) (backOf (W := 0) (rm10 l Z a0 hw [] b1 bs t kc (1 : Int32) (1 : Int32) (1 : Int32) (2 : Int64) (2 : Int32) T67.heap n0 zz72 gn_b1 gn_bs gn_t ne1 ne2 ne3 ⟨P0_67, P1_67, C_67, P3_67, ⟨B0_67, B1_67, B2_67, V_67⟩⟩ f69 (by decide) (by decide) (by decide +kernel) (by decide +kernel) (by decide +kernel) (by decide +kernel) (by decide +kernel) (by decide +kernel) (by decide +kernel)) hZ (hw _ (List.mem_of_getElem? (i := 61) rfl)) (hw _ (List.mem_of_getElem? (i := 2) rfl)) (by decide) (by decide)) q76a q76c (g := (mkF m 59 #[.val (.int p0), .val (.int p1), .val (.ref b1), .val (.int (1 : Int32)), .val (.int (2 : Int32)), .val (.int (1 : Int32)), .unset, .unset, .unset] [(.ref b1)])) rfl (by rw [hml]; rfl) (Steps.refl _) (argsL := []) (rest := []) (lenOf pd_6 rfl) rfl (by show 2 * 0 + _ ≤ _; exact Nat.le_of_eq rfl) (hb hby at_59) (fun _ _ => ⟨rfl, e74, (by decide : 3 + 0 ≤ _), (by decide : 7 + 0 ≤ _)⟩)
    dsimp only [Pt.U, Pt.locs, Pt.cells, Pt.slots] at X76 l76 y76 z76 st76 hQ76
    subst l76 y76 z76
    obtain ⟨rfl, Nq76, K76, P0_76, P1_76, P2_76, P3_76, B0_76, B1_76, B2_76, B3_76⟩ := hQ76
    have ns77 : ∀ x ∈ [b1, bs, t], ∃ c : Cell, T67.heap[x]? = some c ∧ c.vm.isStatics = false := (own_allS (own_ns_e P0_67) (own_allS (own_ns_e B0_67) (own_allS (own_ns_v V_67) own_all0)))
    have f78 := own_sta_keep f69 K76 ns77
    have f79 := P0_67.keep K76
    have f80 := B0_67.keep K76
    have zz81 : n0 ≤ T76.heap.size := Nat.le_trans zz72 K76.1
    have C_76 : Fld Z T76.heap b1 "com/example/oblivious/oblivious/broker/PacketIds" "count" "I" (.int (2 : Int32)) := P2_76
    have V_76 : Arv Z T76.heap t kc .long 1 [.long (6 : Int64)] (.long (0 : Int64)) := (show own_set (2 : Int64) (2 : Int32) = (6 : Int64) by decide +kernel) ▸ B3_76
    have N82 := Fr.app N75 Nq76
    obtain ⟨cq83, kq83, q83a, q83b, q83c⟩ := isOf hZ rfl P0_76
    obtain ⟨_, _, ⟨T83, L83, k83, n83⟩, -, X83, ⟨Lc83, hQ83, l83, y83, z83⟩, st83⟩ := X76.virtualBack hx (y := (⟨"com/example/oblivious/oblivious/broker/PacketIds", "hasFree", "()Z"⟩ : MethodName)) (z := (⟨"com/example/oblivious/oblivious/broker/PacketIds", "hasFree", "()Z"⟩ : MethodName)) hown (mvT hZ (hw _ (List.mem_of_getElem? (i := 33) rfl))) (mvT hZ (hw _ (List.mem_of_getElem? (i := 34) rfl))) (notFace_of_selects (args := #[]) (mvT hZ (hw _ (List.mem_of_getElem? (i := 36) rfl)))) (mvT hZ (hw _ (List.mem_of_getElem? (i := 36) rfl))) (mvT hZ (hw _ (List.mem_of_getElem? (i := 35) rfl))) (by decide) (backOf (W := 0) (rm6 l Z a0 hw [] b1 (2 : Int32) T76.heap n0 zz81 C_76 (by decide)) hZ (hw _ (List.mem_of_getElem? (i := 37) rfl)) (hw _ (List.mem_of_getElem? (i := 2) rfl)) (by decide) (by decide)) q83a q83c (g := (mkF m 75 #[.val (.int p0), .val (.int p1), .val (.ref b1), .val (.int (1 : Int32)), .val (.int (2 : Int32)), .val (.int (2 : Int32)), .unset, .unset, .unset] [(.ref b1)])) rfl (by rw [hml]; rfl) (Steps.refl _) (argsL := []) (rest := []) (lenOf pd_4 rfl) rfl (by show 2 * 0 + _ ≤ _; exact Nat.le_of_eq rfl) (hb hby at_75) (fun _ _ => ⟨rfl, rfl, (by decide : 3 + 0 ≤ _), (by decide : 7 + 0 ≤ _)⟩)
    dsimp only [Pt.U, Pt.locs, Pt.cells, Pt.slots] at X83 l83 y83 z83 st83 hQ83
    subst l83 y83 z83
    obtain ⟨rfl, Nq83, e83⟩ := hQ83
    have N84 := Fr.app N82 Nq83
    have hi7 := own_i7 p1
    have he := own_e2 p1
    obtain ⟨cq85, kq85, q85a, q85b, q85c⟩ := isOf hZ e83 P0_76
    obtain ⟨_, _, ⟨T85, L85, k85, n85⟩, -, X85, ⟨Lc85, hQ85, l85, y85, z85⟩, st85⟩ := X83.virtualBack hx (y := (⟨"com/example/oblivious/oblivious/broker/PacketIds", "free", "(I)Z"⟩ : MethodName)) (z := (⟨"com/example/oblivious/oblivious/broker/PacketIds", "free", "(I)Z"⟩ : MethodName)) hown (mvT hZ (hw _ (List.mem_of_getElem? (i := 41) rfl))) (mvT hZ (hw _ (List.mem_of_getElem? (i := 42) rfl))) (notFace_of_selects (args := #[]) (mvT hZ (hw _ (List.mem_of_getElem? (i := 44) rfl)))) (mvT hZ (hw _ (List.mem_of_getElem? (i := 44) rfl))) (mvT hZ (hw _ (List.mem_of_getElem? (i := 43) rfl))) (by decide) (backOf (W := 0) (rm7 l Z a0 hw [] b1 (p1 &&& (7 : Int32)) bs t kc (2 : Int32) (2 : Int32) (1 : Int32) (6 : Int64) T76.heap n0 zz81 gn_b1 gn_bs gn_t ne1 ne2 ne3 ⟨P0_76, P1_76, C_76, P3_76, ⟨B0_76, B1_76, B2_76, V_76⟩⟩ f78 (by decide) (by decide) hi7.1 hi7.2) hZ (hw _ (List.mem_of_getElem? (i := 45) rfl)) (hw _ (List.mem_of_getElem? (i := 2) rfl)) (by decide) (by decide)) q85a q85c (g := (mkF m 131 #[.val (.int p0), .val (.int p1), .val (.ref b1), .val (.int (1 : Int32)), .val (.int (2 : Int32)), .val (.int (p1 &&& (7 : Int32))), .unset, .unset, .unset] [(.int (p1 &&& (7 : Int32))), (.ref b1)])) rfl (by rw [hml]; rfl) (Steps.refl _) (argsL := [(.int (p1 &&& (7 : Int32)))]) (rest := []) (lenOf pd_5 rfl) rfl (by show 2 * 0 + _ ≤ _; exact Nat.le_of_eq rfl) (hb hby at_131) (fun _ _ => ⟨rfl, e83, (by decide : 3 + 0 ≤ _), (by decide : 7 + 0 ≤ _)⟩)
    dsimp only [Pt.U, Pt.locs, Pt.cells, Pt.slots] at X85 l85 y85 z85 st85 hQ85
    subst l85 y85 z85
    obtain ⟨cF, uF, wF, rfl, Nq85, K85, ⟨P0_85, P1_85, P2_85, P3_85, B0_85, B1_85, B2_85, B3_85⟩, hF⟩ := hQ85
    have ns86 : ∀ x ∈ [b1, bs, t], ∃ c : Cell, T76.heap[x]? = some c ∧ c.vm.isStatics = false := (own_allS (own_ns_e P0_76) (own_allS (own_ns_e B0_76) (own_allS (own_ns_v V_76) own_all0)))
    have f87 := own_sta_keep f78 K85 ns86
    have f88 := P0_76.keep K85
    have f89 := B0_76.keep K85
    have zz90 : n0 ≤ T85.heap.size := Nat.le_trans zz81 K85.1
    have N91 := Fr.app N84 Nq85
    have hc' := own_c2 hF
    have pre92 : ∀ tgt, Steps p.tables e below (T85.setTop (mkF m 139 #[.val (.int p0), .val (.int p1), .val (.ref b1), .val (.int (1 : Int32)), .val (.int (2 : Int32)), .val (.int (p1 &&& (7 : Int32))), .val (.int (own_get (1 : Int32) (6 : Int64) (p1 &&& (7 : Int32)))), .unset, .unset] [(.int (1 : Int32)), (.int (p1 &&& (7 : Int32)))])) tgt → Steps p.tables e below (s₁.setTop (entryFrame m #[(.int p0), (.int p1)] maxLocals)) tgt := fun tgt kt => pre15 _ (by
      show Steps p.tables e below (T13.setTop (mkF m 18 #[.val (.int p0), .val (.int p1), .val (.ref b1), .val (.int (1 : Int32)), .val (.int (2 : Int32)), .unset, .unset, .unset, .unset] [])) _
      refine XS.iload X13.here hx rfl (hb hby at_18) rfl ?_
      show Steps p.tables e below (T13.setTop (mkF m 20 #[.val (.int p0), .val (.int p1), .val (.ref b1), .val (.int (1 : Int32)), .val (.int (2 : Int32)), .unset, .unset, .unset, .unset] [(.int (2 : Int32))])) _
      refine XS.ifNo X13.here hx rfl (hb hby at_20) rfl ((if0 _ _).trans (tlt (by decide : (0 : Int32) < (2 : Int32))).2.2.2) ?_
      show Steps p.tables e below (T13.setTop (mkF m 23 #[.val (.int p0), .val (.int p1), .val (.ref b1), .val (.int (1 : Int32)), .val (.int (2 : Int32)), .unset, .unset, .unset, .unset] [])) _
      refine XS.aloadN X13.here hx rfl (hb hby at_23) rfl rfl ?_
      show Steps p.tables e below (T13.setTop (mkF m 24 #[.val (.int p0), .val (.int p1), .val (.ref b1), .val (.int (1 : Int32)), .val (.int (2 : Int32)), .unset, .unset, .unset, .unset] [(.ref b1)])) _
      refine st67.trans ?_
      show Steps p.tables e below (T67.setTop (mkF m 27 #[.val (.int p0), .val (.int p1), .val (.ref b1), .val (.int (1 : Int32)), .val (.int (2 : Int32)), .unset, .unset, .unset, .unset] [(.int (1 : Int32))])) _
      refine XS.istore X67.here hx rfl (hb hby at_27) rfl (l' := #[.val (.int p0), .val (.int p1), .val (.ref b1), .val (.int (1 : Int32)), .val (.int (2 : Int32)), .val (.int (1 : Int32)), .unset, .unset, .unset]) rfl ?_
      show Steps p.tables e below (T67.setTop (mkF m 29 #[.val (.int p0), .val (.int p1), .val (.ref b1), .val (.int (1 : Int32)), .val (.int (2 : Int32)), .val (.int (1 : Int32)), .unset, .unset, .unset] [])) _
      refine XS.iloadN X67.here hx rfl (hb hby at_29) rfl ?_
      show Steps p.tables e below (T67.setTop (mkF m 30 #[.val (.int p0), .val (.int p1), .val (.ref b1), .val (.int (1 : Int32)), .val (.int (2 : Int32)), .val (.int (1 : Int32)), .unset, .unset, .unset] [(.int (1 : Int32))])) _
      refine XS.ifNo X67.here hx rfl (hb hby at_30) rfl ((if0 _ _).trans (feq (by decide : ¬ ((1 : Int32) = (0 : Int32)))).1) ?_
      show Steps p.tables e below (T67.setTop (mkF m 33 #[.val (.int p0), .val (.int p1), .val (.ref b1), .val (.int (1 : Int32)), .val (.int (2 : Int32)), .val (.int (1 : Int32)), .unset, .unset, .unset] [])) _
      refine XS.iload X67.here hx rfl (hb hby at_33) rfl ?_
      show Steps p.tables e below (T67.setTop (mkF m 35 #[.val (.int p0), .val (.int p1), .val (.ref b1), .val (.int (1 : Int32)), .val (.int (2 : Int32)), .val (.int (1 : Int32)), .unset, .unset, .unset] [(.int (1 : Int32))])) _
      refine XS.iconst X67.here hx rfl (hb hby at_35) ?_
      show Steps p.tables e below (T67.setTop (mkF m 36 #[.val (.int p0), .val (.int p1), .val (.ref b1), .val (.int (1 : Int32)), .val (.int (2 : Int32)), .val (.int (1 : Int32)), .unset, .unset, .unset] [(.int (1 : Int32)), (.int (1 : Int32))])) _
      refine XS.icmpNo X67.here hx rfl (hb hby at_36) rfl (teq (rfl : (1 : Int32) = (1 : Int32))).2 ?_
      show Steps p.tables e below (T67.setTop (mkF m 39 #[.val (.int p0), .val (.int p1), .val (.ref b1), .val (.int (1 : Int32)), .val (.int (2 : Int32)), .val (.int (1 : Int32)), .unset, .unset, .unset] [])) _
      refine XS.aloadN X67.here hx rfl (hb hby at_39) rfl rfl ?_
      show Steps p.tables e below (T67.setTop (mkF m 40 #[.val (.int p0), .val (.int p1), .val (.ref b1), .val (.int (1 : Int32)), .val (.int (2 : Int32)), .val (.int (1 : Int32)), .unset, .unset, .unset] [(.ref b1)])) _
      refine st74.trans ?_
      show Steps p.tables e below (T74.setTop (mkF m 43 #[.val (.int p0), .val (.int p1), .val (.ref b1), .val (.int (1 : Int32)), .val (.int (2 : Int32)), .val (.int (1 : Int32)), .unset, .unset, .unset] [(.int (1 : Int32))])) _
      refine XS.ifNo X74.here hx rfl (hb hby at_43) rfl ((if0 _ _).trans (feq (by decide : ¬ ((1 : Int32) = (0 : Int32)))).1) ?_
      show Steps p.tables e below (T74.setTop (mkF m 46 #[.val (.int p0), .val (.int p1), .val (.ref b1), .val (.int (1 : Int32)), .val (.int (2 : Int32)), .val (.int (1 : Int32)), .unset, .unset, .unset] [])) _
      refine XS.iconst X74.here hx rfl (hb hby at_46) ?_
      show Steps p.tables e below (T74.setTop (mkF m 47 #[.val (.int p0), .val (.int p1), .val (.ref b1), .val (.int (1 : Int32)), .val (.int (2 : Int32)), .val (.int (1 : Int32)), .unset, .unset, .unset] [(.int (1 : Int32))])) _
      refine XS.goto X74.here hx rfl (pc0 := 47) (pc' := 51) rfl (hb hby at_47) (by decide) (by decide) ?_
      show Steps p.tables e below (T74.setTop (mkF m 51 #[.val (.int p0), .val (.int p1), .val (.ref b1), .val (.int (1 : Int32)), .val (.int (2 : Int32)), .val (.int (1 : Int32)), .unset, .unset, .unset] [(.int (1 : Int32))])) _
      refine XS.istoreN X74.here hx rfl (hb hby at_51) rfl (l' := #[.val (.int p0), .val (.int p1), .val (.ref b1), .val (.int (1 : Int32)), .val (.int (2 : Int32)), .val (.int (1 : Int32)), .unset, .unset, .unset]) rfl ?_
      show Steps p.tables e below (T74.setTop (mkF m 52 #[.val (.int p0), .val (.int p1), .val (.ref b1), .val (.int (1 : Int32)), .val (.int (2 : Int32)), .val (.int (1 : Int32)), .unset, .unset, .unset] [])) _
      refine XS.iload X74.here hx rfl (hb hby at_52) rfl ?_
      show Steps p.tables e below (T74.setTop (mkF m 54 #[.val (.int p0), .val (.int p1), .val (.ref b1), .val (.int (1 : Int32)), .val (.int (2 : Int32)), .val (.int (1 : Int32)), .unset, .unset, .unset] [(.int (2 : Int32))])) _
      refine XS.iconst X74.here hx rfl (hb hby at_54) ?_
      show Steps p.tables e below (T74.setTop (mkF m 55 #[.val (.int p0), .val (.int p1), .val (.ref b1), .val (.int (1 : Int32)), .val (.int (2 : Int32)), .val (.int (1 : Int32)), .unset, .unset, .unset] [(.int (1 : Int32)), (.int (2 : Int32))])) _
      refine XS.icmpNo X74.here hx rfl (hb hby at_55) rfl (tlt (by decide : (1 : Int32) < (2 : Int32))).2.2.2 ?_
      show Steps p.tables e below (T74.setTop (mkF m 58 #[.val (.int p0), .val (.int p1), .val (.ref b1), .val (.int (1 : Int32)), .val (.int (2 : Int32)), .val (.int (1 : Int32)), .unset, .unset, .unset] [])) _
      refine XS.aloadN X74.here hx rfl (hb hby at_58) rfl rfl ?_
      show Steps p.tables e below (T74.setTop (mkF m 59 #[.val (.int p0), .val (.int p1), .val (.ref b1), .val (.int (1 : Int32)), .val (.int (2 : Int32)), .val (.int (1 : Int32)), .unset, .unset, .unset] [(.ref b1)])) _
      refine st76.trans ?_
      show Steps p.tables e below (T76.setTop (mkF m 62 #[.val (.int p0), .val (.int p1), .val (.ref b1), .val (.int (1 : Int32)), .val (.int (2 : Int32)), .val (.int (1 : Int32)), .unset, .unset, .unset] [(.int (2 : Int32))])) _
      refine XS.istore X76.here hx rfl (hb hby at_62) rfl (l' := #[.val (.int p0), .val (.int p1), .val (.ref b1), .val (.int (1 : Int32)), .val (.int (2 : Int32)), .val (.int (2 : Int32)), .unset, .unset, .unset]) rfl ?_
      show Steps p.tables e below (T76.setTop (mkF m 64 #[.val (.int p0), .val (.int p1), .val (.ref b1), .val (.int (1 : Int32)), .val (.int (2 : Int32)), .val (.int (2 : Int32)), .unset, .unset, .unset] [])) _
      refine XS.iloadN X76.here hx rfl (hb hby at_64) rfl ?_
      show Steps p.tables e below (T76.setTop (mkF m 65 #[.val (.int p0), .val (.int p1), .val (.ref b1), .val (.int (1 : Int32)), .val (.int (2 : Int32)), .val (.int (2 : Int32)), .unset, .unset, .unset] [(.int (1 : Int32))])) _
      refine XS.ifNo X76.here hx rfl (hb hby at_65) rfl ((if0 _ _).trans (feq (by decide : ¬ ((1 : Int32) = (0 : Int32)))).1) ?_
      show Steps p.tables e below (T76.setTop (mkF m 68 #[.val (.int p0), .val (.int p1), .val (.ref b1), .val (.int (1 : Int32)), .val (.int (2 : Int32)), .val (.int (2 : Int32)), .unset, .unset, .unset] [])) _
      refine XS.iload X76.here hx rfl (hb hby at_68) rfl ?_
      show Steps p.tables e below (T76.setTop (mkF m 70 #[.val (.int p0), .val (.int p1), .val (.ref b1), .val (.int (1 : Int32)), .val (.int (2 : Int32)), .val (.int (2 : Int32)), .unset, .unset, .unset] [(.int (2 : Int32))])) _
      refine XS.iconst X76.here hx rfl (hb hby at_70) ?_
      show Steps p.tables e below (T76.setTop (mkF m 71 #[.val (.int p0), .val (.int p1), .val (.ref b1), .val (.int (1 : Int32)), .val (.int (2 : Int32)), .val (.int (2 : Int32)), .unset, .unset, .unset] [(.int (2 : Int32)), (.int (2 : Int32))])) _
      refine XS.icmpNo X76.here hx rfl (hb hby at_71) rfl (teq (rfl : (2 : Int32) = (2 : Int32))).2 ?_
      show Steps p.tables e below (T76.setTop (mkF m 74 #[.val (.int p0), .val (.int p1), .val (.ref b1), .val (.int (1 : Int32)), .val (.int (2 : Int32)), .val (.int (2 : Int32)), .unset, .unset, .unset] [])) _
      refine XS.aloadN X76.here hx rfl (hb hby at_74) rfl rfl ?_
      show Steps p.tables e below (T76.setTop (mkF m 75 #[.val (.int p0), .val (.int p1), .val (.ref b1), .val (.int (1 : Int32)), .val (.int (2 : Int32)), .val (.int (2 : Int32)), .unset, .unset, .unset] [(.ref b1)])) _
      refine st83.trans ?_
      show Steps p.tables e below (T83.setTop (mkF m 78 #[.val (.int p0), .val (.int p1), .val (.ref b1), .val (.int (1 : Int32)), .val (.int (2 : Int32)), .val (.int (2 : Int32)), .unset, .unset, .unset] [(.int (1 : Int32))])) _
      refine XS.ifNo X83.here hx rfl (hb hby at_78) rfl ((if0 _ _).trans (feq (by decide : ¬ ((1 : Int32) = (0 : Int32)))).1) ?_
      show Steps p.tables e below (T83.setTop (mkF m 81 #[.val (.int p0), .val (.int p1), .val (.ref b1), .val (.int (1 : Int32)), .val (.int (2 : Int32)), .val (.int (2 : Int32)), .unset, .unset, .unset] [])) _
      refine XS.iconst X83.here hx rfl (hb hby at_81) ?_
      show Steps p.tables e below (T83.setTop (mkF m 82 #[.val (.int p0), .val (.int p1), .val (.ref b1), .val (.int (1 : Int32)), .val (.int (2 : Int32)), .val (.int (2 : Int32)), .unset, .unset, .unset] [(.int (1 : Int32))])) _
      refine XS.goto X83.here hx rfl (pc0 := 82) (pc' := 86) rfl (hb hby at_82) (by decide) (by decide) ?_
      show Steps p.tables e below (T83.setTop (mkF m 86 #[.val (.int p0), .val (.int p1), .val (.ref b1), .val (.int (1 : Int32)), .val (.int (2 : Int32)), .val (.int (2 : Int32)), .unset, .unset, .unset] [(.int (1 : Int32))])) _
      refine XS.istoreN X83.here hx rfl (hb hby at_86) rfl (l' := #[.val (.int p0), .val (.int p1), .val (.ref b1), .val (.int (1 : Int32)), .val (.int (2 : Int32)), .val (.int (2 : Int32)), .unset, .unset, .unset]) rfl ?_
      show Steps p.tables e below (T83.setTop (mkF m 87 #[.val (.int p0), .val (.int p1), .val (.ref b1), .val (.int (1 : Int32)), .val (.int (2 : Int32)), .val (.int (2 : Int32)), .unset, .unset, .unset] [])) _
      refine XS.iload X83.here hx rfl (hb hby at_87) rfl ?_
      show Steps p.tables e below (T83.setTop (mkF m 89 #[.val (.int p0), .val (.int p1), .val (.ref b1), .val (.int (1 : Int32)), .val (.int (2 : Int32)), .val (.int (2 : Int32)), .unset, .unset, .unset] [(.int (2 : Int32))])) _
      refine XS.iconst X83.here hx rfl (hb hby at_89) ?_
      show Steps p.tables e below (T83.setTop (mkF m 90 #[.val (.int p0), .val (.int p1), .val (.ref b1), .val (.int (1 : Int32)), .val (.int (2 : Int32)), .val (.int (2 : Int32)), .unset, .unset, .unset] [(.int (2 : Int32)), (.int (2 : Int32))])) _
      refine XS.icmpYes X83.here hx rfl (pc0 := 90) (pc' := 122) rfl (hb hby at_90) rfl (flt (by decide : ¬ ((2 : Int32) < (2 : Int32)))).2.2.2 (by decide) (by decide) ?_
      show Steps p.tables e below (T83.setTop (mkF m 122 #[.val (.int p0), .val (.int p1), .val (.ref b1), .val (.int (1 : Int32)), .val (.int (2 : Int32)), .val (.int (2 : Int32)), .unset, .unset, .unset] [])) _
      refine XS.iloadN X83.here hx rfl (hb hby at_122) rfl ?_
      show Steps p.tables e below (T83.setTop (mkF m 123 #[.val (.int p0), .val (.int p1), .val (.ref b1), .val (.int (1 : Int32)), .val (.int (2 : Int32)), .val (.int (2 : Int32)), .unset, .unset, .unset] [(.int p1)])) _
      refine XS.bipush X83.here hx rfl (hb hby at_123) ?_
      show Steps p.tables e below (T83.setTop (mkF m 125 #[.val (.int p0), .val (.int p1), .val (.ref b1), .val (.int (1 : Int32)), .val (.int (2 : Int32)), .val (.int (2 : Int32)), .unset, .unset, .unset] [(.int (7 : Int32)), (.int p1)])) _
      refine XS.iand X83.here hx rfl (hb hby at_125) rfl ?_
      show Steps p.tables e below (T83.setTop (mkF m 126 #[.val (.int p0), .val (.int p1), .val (.ref b1), .val (.int (1 : Int32)), .val (.int (2 : Int32)), .val (.int (2 : Int32)), .unset, .unset, .unset] [(.int (p1 &&& (7 : Int32)))])) _
      refine XS.istore X83.here hx rfl (hb hby at_126) rfl (l' := #[.val (.int p0), .val (.int p1), .val (.ref b1), .val (.int (1 : Int32)), .val (.int (2 : Int32)), .val (.int (p1 &&& (7 : Int32))), .unset, .unset, .unset]) rfl ?_
      show Steps p.tables e below (T83.setTop (mkF m 128 #[.val (.int p0), .val (.int p1), .val (.ref b1), .val (.int (1 : Int32)), .val (.int (2 : Int32)), .val (.int (p1 &&& (7 : Int32))), .unset, .unset, .unset] [])) _
      refine XS.aloadN X83.here hx rfl (hb hby at_128) rfl rfl ?_
      show Steps p.tables e below (T83.setTop (mkF m 129 #[.val (.int p0), .val (.int p1), .val (.ref b1), .val (.int (1 : Int32)), .val (.int (2 : Int32)), .val (.int (p1 &&& (7 : Int32))), .unset, .unset, .unset] [(.ref b1)])) _
      refine XS.iload X83.here hx rfl (hb hby at_129) rfl ?_
      show Steps p.tables e below (T83.setTop (mkF m 131 #[.val (.int p0), .val (.int p1), .val (.ref b1), .val (.int (1 : Int32)), .val (.int (2 : Int32)), .val (.int (p1 &&& (7 : Int32))), .unset, .unset, .unset] [(.int (p1 &&& (7 : Int32))), (.ref b1)])) _
      refine st85.trans ?_
      show Steps p.tables e below (T85.setTop (mkF m 134 #[.val (.int p0), .val (.int p1), .val (.ref b1), .val (.int (1 : Int32)), .val (.int (2 : Int32)), .val (.int (p1 &&& (7 : Int32))), .unset, .unset, .unset] [(.int (own_get (1 : Int32) (6 : Int64) (p1 &&& (7 : Int32))))])) _
      refine XS.istore X85.here hx rfl (hb hby at_134) rfl (l' := #[.val (.int p0), .val (.int p1), .val (.ref b1), .val (.int (1 : Int32)), .val (.int (2 : Int32)), .val (.int (p1 &&& (7 : Int32))), .val (.int (own_get (1 : Int32) (6 : Int64) (p1 &&& (7 : Int32)))), .unset, .unset]) rfl ?_
      show Steps p.tables e below (T85.setTop (mkF m 136 #[.val (.int p0), .val (.int p1), .val (.ref b1), .val (.int (1 : Int32)), .val (.int (2 : Int32)), .val (.int (p1 &&& (7 : Int32))), .val (.int (own_get (1 : Int32) (6 : Int64) (p1 &&& (7 : Int32)))), .unset, .unset] [])) _
      refine XS.iload X85.here hx rfl (hb hby at_136) rfl ?_
      show Steps p.tables e below (T85.setTop (mkF m 138 #[.val (.int p0), .val (.int p1), .val (.ref b1), .val (.int (1 : Int32)), .val (.int (2 : Int32)), .val (.int (p1 &&& (7 : Int32))), .val (.int (own_get (1 : Int32) (6 : Int64) (p1 &&& (7 : Int32)))), .unset, .unset] [(.int (p1 &&& (7 : Int32)))])) _
      refine XS.iconst X85.here hx rfl (hb hby at_138) ?_
      exact kt)
    obtain ⟨ex, hm94, pre93⟩ : ∃ (ex : Int32), ((own_get (1 : Int32) (6 : Int64) (p1 &&& (7 : Int32))) = ex) ∧ ∀ tgt, Steps p.tables e below (T85.setTop (mkF m 156 #[.val (.int p0), .val (.int p1), .val (.ref b1), .val (.int (1 : Int32)), .val (.int (2 : Int32)), .val (.int (p1 &&& (7 : Int32))), .val (.int (own_get (1 : Int32) (6 : Int64) (p1 &&& (7 : Int32)))), .val (.int ex), .unset] [])) tgt → Steps p.tables e below (s₁.setTop (entryFrame m #[(.int p0), (.int p1)] maxLocals)) tgt := by
      by_cases h139 : (p1 &&& (7 : Int32)) < (1 : Int32)
      · exact ⟨(0 : Int32), (he.1 h139), fun tgt kt => pre92 _ (by
          show Steps p.tables e below (T85.setTop (mkF m 139 #[.val (.int p0), .val (.int p1), .val (.ref b1), .val (.int (1 : Int32)), .val (.int (2 : Int32)), .val (.int (p1 &&& (7 : Int32))), .val (.int (own_get (1 : Int32) (6 : Int64) (p1 &&& (7 : Int32)))), .unset, .unset] [(.int (1 : Int32)), (.int (p1 &&& (7 : Int32)))])) _
          refine XS.icmpYes X85.here hx rfl (pc0 := 139) (pc' := 153) rfl (hb hby at_139) rfl (tlt h139).1 (by decide) (by decide) ?_
          show Steps p.tables e below (T85.setTop (mkF m 153 #[.val (.int p0), .val (.int p1), .val (.ref b1), .val (.int (1 : Int32)), .val (.int (2 : Int32)), .val (.int (p1 &&& (7 : Int32))), .val (.int (own_get (1 : Int32) (6 : Int64) (p1 &&& (7 : Int32)))), .unset, .unset] [])) _
          refine XS.iconst X85.here hx rfl (hb hby at_153) ?_
          show Steps p.tables e below (T85.setTop (mkF m 154 #[.val (.int p0), .val (.int p1), .val (.ref b1), .val (.int (1 : Int32)), .val (.int (2 : Int32)), .val (.int (p1 &&& (7 : Int32))), .val (.int (own_get (1 : Int32) (6 : Int64) (p1 &&& (7 : Int32)))), .unset, .unset] [(.int (0 : Int32))])) _
          refine XS.istore X85.here hx rfl (hb hby at_154) rfl (l' := #[.val (.int p0), .val (.int p1), .val (.ref b1), .val (.int (1 : Int32)), .val (.int (2 : Int32)), .val (.int (p1 &&& (7 : Int32))), .val (.int (own_get (1 : Int32) (6 : Int64) (p1 &&& (7 : Int32)))), .val (.int (0 : Int32)), .unset]) rfl ?_
          exact kt)⟩
      · by_cases h146 : (2 : Int32) < (p1 &&& (7 : Int32))
        · exact ⟨(0 : Int32), (he.2.1 h139 h146), fun tgt kt => pre92 _ (by
            show Steps p.tables e below (T85.setTop (mkF m 139 #[.val (.int p0), .val (.int p1), .val (.ref b1), .val (.int (1 : Int32)), .val (.int (2 : Int32)), .val (.int (p1 &&& (7 : Int32))), .val (.int (own_get (1 : Int32) (6 : Int64) (p1 &&& (7 : Int32)))), .unset, .unset] [(.int (1 : Int32)), (.int (p1 &&& (7 : Int32)))])) _
            refine XS.icmpNo X85.here hx rfl (hb hby at_139) rfl (flt h139).1 ?_
            show Steps p.tables e below (T85.setTop (mkF m 142 #[.val (.int p0), .val (.int p1), .val (.ref b1), .val (.int (1 : Int32)), .val (.int (2 : Int32)), .val (.int (p1 &&& (7 : Int32))), .val (.int (own_get (1 : Int32) (6 : Int64) (p1 &&& (7 : Int32)))), .unset, .unset] [])) _
            refine XS.iload X85.here hx rfl (hb hby at_142) rfl ?_
            show Steps p.tables e below (T85.setTop (mkF m 144 #[.val (.int p0), .val (.int p1), .val (.ref b1), .val (.int (1 : Int32)), .val (.int (2 : Int32)), .val (.int (p1 &&& (7 : Int32))), .val (.int (own_get (1 : Int32) (6 : Int64) (p1 &&& (7 : Int32)))), .unset, .unset] [(.int (p1 &&& (7 : Int32)))])) _
            refine XS.iload X85.here hx rfl (hb hby at_144) rfl ?_
            show Steps p.tables e below (T85.setTop (mkF m 146 #[.val (.int p0), .val (.int p1), .val (.ref b1), .val (.int (1 : Int32)), .val (.int (2 : Int32)), .val (.int (p1 &&& (7 : Int32))), .val (.int (own_get (1 : Int32) (6 : Int64) (p1 &&& (7 : Int32)))), .unset, .unset] [(.int (2 : Int32)), (.int (p1 &&& (7 : Int32)))])) _
            refine XS.icmpYes X85.here hx rfl (pc0 := 146) (pc' := 153) rfl (hb hby at_146) rfl (tlt h146).2.2.1 (by decide) (by decide) ?_
            show Steps p.tables e below (T85.setTop (mkF m 153 #[.val (.int p0), .val (.int p1), .val (.ref b1), .val (.int (1 : Int32)), .val (.int (2 : Int32)), .val (.int (p1 &&& (7 : Int32))), .val (.int (own_get (1 : Int32) (6 : Int64) (p1 &&& (7 : Int32)))), .unset, .unset] [])) _
            refine XS.iconst X85.here hx rfl (hb hby at_153) ?_
            show Steps p.tables e below (T85.setTop (mkF m 154 #[.val (.int p0), .val (.int p1), .val (.ref b1), .val (.int (1 : Int32)), .val (.int (2 : Int32)), .val (.int (p1 &&& (7 : Int32))), .val (.int (own_get (1 : Int32) (6 : Int64) (p1 &&& (7 : Int32)))), .unset, .unset] [(.int (0 : Int32))])) _
            refine XS.istore X85.here hx rfl (hb hby at_154) rfl (l' := #[.val (.int p0), .val (.int p1), .val (.ref b1), .val (.int (1 : Int32)), .val (.int (2 : Int32)), .val (.int (p1 &&& (7 : Int32))), .val (.int (own_get (1 : Int32) (6 : Int64) (p1 &&& (7 : Int32)))), .val (.int (0 : Int32)), .unset]) rfl ?_
            exact kt)⟩
        · exact ⟨(1 : Int32), (he.2.2 h139 h146), fun tgt kt => pre92 _ (by
            show Steps p.tables e below (T85.setTop (mkF m 139 #[.val (.int p0), .val (.int p1), .val (.ref b1), .val (.int (1 : Int32)), .val (.int (2 : Int32)), .val (.int (p1 &&& (7 : Int32))), .val (.int (own_get (1 : Int32) (6 : Int64) (p1 &&& (7 : Int32)))), .unset, .unset] [(.int (1 : Int32)), (.int (p1 &&& (7 : Int32)))])) _
            refine XS.icmpNo X85.here hx rfl (hb hby at_139) rfl (flt h139).1 ?_
            show Steps p.tables e below (T85.setTop (mkF m 142 #[.val (.int p0), .val (.int p1), .val (.ref b1), .val (.int (1 : Int32)), .val (.int (2 : Int32)), .val (.int (p1 &&& (7 : Int32))), .val (.int (own_get (1 : Int32) (6 : Int64) (p1 &&& (7 : Int32)))), .unset, .unset] [])) _
            refine XS.iload X85.here hx rfl (hb hby at_142) rfl ?_
            show Steps p.tables e below (T85.setTop (mkF m 144 #[.val (.int p0), .val (.int p1), .val (.ref b1), .val (.int (1 : Int32)), .val (.int (2 : Int32)), .val (.int (p1 &&& (7 : Int32))), .val (.int (own_get (1 : Int32) (6 : Int64) (p1 &&& (7 : Int32)))), .unset, .unset] [(.int (p1 &&& (7 : Int32)))])) _
            refine XS.iload X85.here hx rfl (hb hby at_144) rfl ?_
            show Steps p.tables e below (T85.setTop (mkF m 146 #[.val (.int p0), .val (.int p1), .val (.ref b1), .val (.int (1 : Int32)), .val (.int (2 : Int32)), .val (.int (p1 &&& (7 : Int32))), .val (.int (own_get (1 : Int32) (6 : Int64) (p1 &&& (7 : Int32)))), .unset, .unset] [(.int (2 : Int32)), (.int (p1 &&& (7 : Int32)))])) _
            refine XS.icmpNo X85.here hx rfl (hb hby at_146) rfl (flt h146).2.2.1 ?_
            show Steps p.tables e below (T85.setTop (mkF m 149 #[.val (.int p0), .val (.int p1), .val (.ref b1), .val (.int (1 : Int32)), .val (.int (2 : Int32)), .val (.int (p1 &&& (7 : Int32))), .val (.int (own_get (1 : Int32) (6 : Int64) (p1 &&& (7 : Int32)))), .unset, .unset] [])) _
            refine XS.iconst X85.here hx rfl (hb hby at_149) ?_
            show Steps p.tables e below (T85.setTop (mkF m 150 #[.val (.int p0), .val (.int p1), .val (.ref b1), .val (.int (1 : Int32)), .val (.int (2 : Int32)), .val (.int (p1 &&& (7 : Int32))), .val (.int (own_get (1 : Int32) (6 : Int64) (p1 &&& (7 : Int32)))), .unset, .unset] [(.int (1 : Int32))])) _
            refine XS.goto X85.here hx rfl (pc0 := 150) (pc' := 154) rfl (hb hby at_150) (by decide) (by decide) ?_
            show Steps p.tables e below (T85.setTop (mkF m 154 #[.val (.int p0), .val (.int p1), .val (.ref b1), .val (.int (1 : Int32)), .val (.int (2 : Int32)), .val (.int (p1 &&& (7 : Int32))), .val (.int (own_get (1 : Int32) (6 : Int64) (p1 &&& (7 : Int32)))), .unset, .unset] [(.int (1 : Int32))])) _
            refine XS.istore X85.here hx rfl (hb hby at_154) rfl (l' := #[.val (.int p0), .val (.int p1), .val (.ref b1), .val (.int (1 : Int32)), .val (.int (2 : Int32)), .val (.int (p1 &&& (7 : Int32))), .val (.int (own_get (1 : Int32) (6 : Int64) (p1 &&& (7 : Int32)))), .val (.int (1 : Int32)), .unset]) rfl ?_
            exact kt)⟩
    obtain ⟨cq95, kq95, q95a, q95b, q95c⟩ := isOf hZ rfl P0_85
    obtain ⟨_, _, ⟨T95, L95, k95, n95⟩, -, X95, ⟨Lc95, hQ95, l95, y95, z95⟩, st95⟩ := X85.virtualBack hx (y := (⟨"com/example/oblivious/oblivious/broker/PacketIds", "hasFree", "()Z"⟩ : MethodName)) (z := (⟨"com/example/oblivious/oblivious/broker/PacketIds", "hasFree", "()Z"⟩ : MethodName)) hown (mvT hZ (hw _ (List.mem_of_getElem? (i := 33) rfl))) (mvT hZ (hw _ (List.mem_of_getElem? (i := 34) rfl))) (notFace_of_selects (args := #[]) (mvT hZ (hw _ (List.mem_of_getElem? (i := 36) rfl)))) (mvT hZ (hw _ (List.mem_of_getElem? (i := 36) rfl))) (mvT hZ (hw _ (List.mem_of_getElem? (i := 35) rfl))) (by decide) (backOf (W := 0) (rm6 l Z a0 hw [] b1 cF T85.heap n0 zz90 P2_85 hc'.1) hZ (hw _ (List.mem_of_getElem? (i := 37) rfl)) (hw _ (List.mem_of_getElem? (i := 2) rfl)) (by decide) (by decide)) q95a q95c (g := (mkF m 168 #[.val (.int p0), .val (.int p1), .val (.ref b1), .val (.int (1 : Int32)), .val (.int (2 : Int32)), .val (.int (p1 &&& (7 : Int32))), .val (.int (own_get (1 : Int32) (6 : Int64) (p1 &&& (7 : Int32)))), .val (.int ex), .unset] [(.ref b1)])) rfl (by rw [hml]; rfl) (Steps.refl _) (argsL := []) (rest := []) (lenOf pd_4 rfl) rfl (by show 2 * 0 + _ ≤ _; exact Nat.le_of_eq rfl) (hb hby at_168) (fun _ _ => ⟨rfl, rfl, (by decide : 3 + 0 ≤ _), (by decide : 7 + 0 ≤ _)⟩)
    dsimp only [Pt.U, Pt.locs, Pt.cells, Pt.slots] at X95 l95 y95 z95 st95 hQ95
    subst l95 y95 z95
    obtain ⟨rfl, Nq95, e95⟩ := hQ95
    have N96 := Fr.app N91 Nq95
    obtain ⟨cq97, kq97, q97a, q97b, q97c⟩ := isOf hZ e95 P0_85
    obtain ⟨_, _, ⟨T97, L97, k97, n97⟩, -, X97, ⟨Lc97, hQ97, l97, y97, z97⟩, st97⟩ := X95.virtualBack hx (y := (⟨"com/example/oblivious/oblivious/broker/PacketIds", "take", "()I"⟩ : MethodName)) (z := (⟨"com/example/oblivious/oblivious/broker/PacketIds", "take", "()I"⟩ : MethodName)) hown (mvT hZ (hw _ (List.mem_of_getElem? (i := 57) rfl))) (mvT hZ (hw _ (List.mem_of_getElem? (i := 58) rfl))) (notFace_of_selects (args := #[]) (mvT hZ (hw _ (List.mem_of_getElem? (i := 60) rfl)))) (mvT hZ (hw _ (List.mem_of_getElem? (i := 60) rfl))) (mvT hZ (hw _ (List.mem_of_getElem? (i := 59) rfl))) (by decide) (backOf (W := 0) (rm10 l Z a0 hw [] b1 bs t kc cF (2 : Int32) uF wF (3 : Int32) T85.heap n0 zz90 gn_b1 gn_bs gn_t ne1 ne2 ne3 ⟨P0_85, P1_85, P2_85, P3_85, ⟨B0_85, B1_85, B2_85, B3_85⟩⟩ f87 hc'.1 hc'.2.1 hc'.2.2.1 (by decide +kernel) (by decide +kernel) hc'.2.2.2 (by decide +kernel) (by decide +kernel) (by decide +kernel)) hZ (hw _ (List.mem_of_getElem? (i := 61) rfl)) (hw _ (List.mem_of_getElem? (i := 2) rfl)) (by decide) (by decide)) q97a q97c (g := (mkF m 181 #[.val (.int p0), .val (.int p1), .val (.ref b1), .val (.int (1 : Int32)), .val (.int (2 : Int32)), .val (.int (p1 &&& (7 : Int32))), .val (.int (own_get (1 : Int32) (6 : Int64) (p1 &&& (7 : Int32)))), .val (.int ex), .unset] [(.ref b1)])) rfl (by rw [hml]; rfl) (Steps.refl _) (argsL := []) (rest := []) (lenOf pd_6 rfl) rfl (by show 2 * 0 + _ ≤ _; exact Nat.le_of_eq rfl) (hb hby at_181) (fun _ _ => ⟨rfl, e95, (by decide : 3 + 0 ≤ _), (by decide : 7 + 0 ≤ _)⟩)
    dsimp only [Pt.U, Pt.locs, Pt.cells, Pt.slots] at X97 l97 y97 z97 st97 hQ97
    subst l97 y97 z97
    obtain ⟨rfl, Nq97, K97, P0_97, P1_97, P2_97, P3_97, B0_97, B1_97, B2_97, B3_97⟩ := hQ97
    have ns98 : ∀ x ∈ [b1, bs, t], ∃ c : Cell, T85.heap[x]? = some c ∧ c.vm.isStatics = false := (own_allS (own_ns_e P0_85) (own_allS (own_ns_e B0_85) (own_allS (own_ns_v B3_85) own_all0)))
    have f99 := own_sta_keep f87 K97 ns98
    have f100 := P0_85.keep K97
    have f101 := B0_85.keep K97
    have zz102 : n0 ≤ T97.heap.size := Nat.le_trans zz90 K97.1
    have N103 := Fr.app N96 Nq97
    obtain ⟨cq104, kq104, q104a, q104b, q104c⟩ := isOf hZ rfl P0_97
    obtain ⟨_, _, ⟨T104, L104, k104, n104⟩, -, X104, ⟨Lc104, hQ104, l104, y104, z104⟩, st104⟩ := X97.virtualBack hx (y := (⟨"com/example/oblivious/oblivious/broker/PacketIds", "hasFree", "()Z"⟩ : MethodName)) (z := (⟨"com/example/oblivious/oblivious/broker/PacketIds", "hasFree", "()Z"⟩ : MethodName)) hown (mvT hZ (hw _ (List.mem_of_getElem? (i := 33) rfl))) (mvT hZ (hw _ (List.mem_of_getElem? (i := 34) rfl))) (notFace_of_selects (args := #[]) (mvT hZ (hw _ (List.mem_of_getElem? (i := 36) rfl)))) (mvT hZ (hw _ (List.mem_of_getElem? (i := 36) rfl))) (mvT hZ (hw _ (List.mem_of_getElem? (i := 35) rfl))) (by decide) (backOf (W := 0) (rm6 l Z a0 hw [] b1 (cF + (1 : Int32)) T97.heap n0 zz102 P2_97 (own_lt1 hF)) hZ (hw _ (List.mem_of_getElem? (i := 37) rfl)) (hw _ (List.mem_of_getElem? (i := 2) rfl)) (by decide) (by decide)) q104a q104c (g := (mkF m 200 #[.val (.int p0), .val (.int p1), .val (.ref b1), .val (.int (1 : Int32)), .val (.int (2 : Int32)), .val (.int (p1 &&& (7 : Int32))), .val (.int (own_get (1 : Int32) (6 : Int64) (p1 &&& (7 : Int32)))), .val (.int ex), .val (.int (3 : Int32))] [(.ref b1)])) rfl (by rw [hml]; rfl) (Steps.refl _) (argsL := []) (rest := []) (lenOf pd_4 rfl) rfl (by show 2 * 0 + _ ≤ _; exact Nat.le_of_eq rfl) (hb hby at_200) (fun _ _ => ⟨rfl, rfl, (by decide : 3 + 0 ≤ _), (by decide : 7 + 0 ≤ _)⟩)
    dsimp only [Pt.U, Pt.locs, Pt.cells, Pt.slots] at X104 l104 y104 z104 st104 hQ104
    subst l104 y104 z104
    obtain ⟨rfl, Nq104, e104⟩ := hQ104
    have N105 := Fr.app N103 Nq104
    obtain ⟨fs, hr, hrun, hended, hW, hsame⟩ := X104.leave (v := some (.int (1 : Int32))) (fun h => by rw [Bd.returns] at h; cases h)
    refine ⟨_, _, pre93 _ ?_, hrun, hended, _, _, rfl, ?_, ⟨_, rfl⟩, hW, hsame.mono (by decide) (by decide)⟩
    · show Steps p.tables e below (T85.setTop (mkF m 156 #[.val (.int p0), .val (.int p1), .val (.ref b1), .val (.int (1 : Int32)), .val (.int (2 : Int32)), .val (.int (p1 &&& (7 : Int32))), .val (.int (own_get (1 : Int32) (6 : Int64) (p1 &&& (7 : Int32)))), .val (.int ex), .unset] [])) _
      refine XS.iloadN X85.here hx rfl (hb hby at_156) rfl ?_
      show Steps p.tables e below (T85.setTop (mkF m 157 #[.val (.int p0), .val (.int p1), .val (.ref b1), .val (.int (1 : Int32)), .val (.int (2 : Int32)), .val (.int (p1 &&& (7 : Int32))), .val (.int (own_get (1 : Int32) (6 : Int64) (p1 &&& (7 : Int32)))), .val (.int ex), .unset] [(.int (1 : Int32))])) _
      refine XS.ifNo X85.here hx rfl (hb hby at_157) rfl ((if0 _ _).trans (feq (by decide : ¬ ((1 : Int32) = (0 : Int32)))).1) ?_
      show Steps p.tables e below (T85.setTop (mkF m 160 #[.val (.int p0), .val (.int p1), .val (.ref b1), .val (.int (1 : Int32)), .val (.int (2 : Int32)), .val (.int (p1 &&& (7 : Int32))), .val (.int (own_get (1 : Int32) (6 : Int64) (p1 &&& (7 : Int32)))), .val (.int ex), .unset] [])) _
      refine XS.iload X85.here hx rfl (hb hby at_160) rfl ?_
      show Steps p.tables e below (T85.setTop (mkF m 162 #[.val (.int p0), .val (.int p1), .val (.ref b1), .val (.int (1 : Int32)), .val (.int (2 : Int32)), .val (.int (p1 &&& (7 : Int32))), .val (.int (own_get (1 : Int32) (6 : Int64) (p1 &&& (7 : Int32)))), .val (.int ex), .unset] [(.int (own_get (1 : Int32) (6 : Int64) (p1 &&& (7 : Int32))))])) _
      refine XS.iload X85.here hx rfl (hb hby at_162) rfl ?_
      show Steps p.tables e below (T85.setTop (mkF m 164 #[.val (.int p0), .val (.int p1), .val (.ref b1), .val (.int (1 : Int32)), .val (.int (2 : Int32)), .val (.int (p1 &&& (7 : Int32))), .val (.int (own_get (1 : Int32) (6 : Int64) (p1 &&& (7 : Int32)))), .val (.int ex), .unset] [(.int ex), (.int (own_get (1 : Int32) (6 : Int64) (p1 &&& (7 : Int32))))])) _
      refine XS.icmpNo X85.here hx rfl (hb hby at_164) rfl (teq hm94).2 ?_
      show Steps p.tables e below (T85.setTop (mkF m 167 #[.val (.int p0), .val (.int p1), .val (.ref b1), .val (.int (1 : Int32)), .val (.int (2 : Int32)), .val (.int (p1 &&& (7 : Int32))), .val (.int (own_get (1 : Int32) (6 : Int64) (p1 &&& (7 : Int32)))), .val (.int ex), .unset] [])) _
      refine XS.aloadN X85.here hx rfl (hb hby at_167) rfl rfl ?_
      show Steps p.tables e below (T85.setTop (mkF m 168 #[.val (.int p0), .val (.int p1), .val (.ref b1), .val (.int (1 : Int32)), .val (.int (2 : Int32)), .val (.int (p1 &&& (7 : Int32))), .val (.int (own_get (1 : Int32) (6 : Int64) (p1 &&& (7 : Int32)))), .val (.int ex), .unset] [(.ref b1)])) _
      refine st95.trans ?_
      show Steps p.tables e below (T95.setTop (mkF m 171 #[.val (.int p0), .val (.int p1), .val (.ref b1), .val (.int (1 : Int32)), .val (.int (2 : Int32)), .val (.int (p1 &&& (7 : Int32))), .val (.int (own_get (1 : Int32) (6 : Int64) (p1 &&& (7 : Int32)))), .val (.int ex), .unset] [(.int (1 : Int32))])) _
      refine XS.ifNo X95.here hx rfl (hb hby at_171) rfl ((if0 _ _).trans (feq (by decide : ¬ ((1 : Int32) = (0 : Int32)))).1) ?_
      show Steps p.tables e below (T95.setTop (mkF m 174 #[.val (.int p0), .val (.int p1), .val (.ref b1), .val (.int (1 : Int32)), .val (.int (2 : Int32)), .val (.int (p1 &&& (7 : Int32))), .val (.int (own_get (1 : Int32) (6 : Int64) (p1 &&& (7 : Int32)))), .val (.int ex), .unset] [])) _
      refine XS.iconst X95.here hx rfl (hb hby at_174) ?_
      show Steps p.tables e below (T95.setTop (mkF m 175 #[.val (.int p0), .val (.int p1), .val (.ref b1), .val (.int (1 : Int32)), .val (.int (2 : Int32)), .val (.int (p1 &&& (7 : Int32))), .val (.int (own_get (1 : Int32) (6 : Int64) (p1 &&& (7 : Int32)))), .val (.int ex), .unset] [(.int (1 : Int32))])) _
      refine XS.goto X95.here hx rfl (pc0 := 175) (pc' := 179) rfl (hb hby at_175) (by decide) (by decide) ?_
      show Steps p.tables e below (T95.setTop (mkF m 179 #[.val (.int p0), .val (.int p1), .val (.ref b1), .val (.int (1 : Int32)), .val (.int (2 : Int32)), .val (.int (p1 &&& (7 : Int32))), .val (.int (own_get (1 : Int32) (6 : Int64) (p1 &&& (7 : Int32)))), .val (.int ex), .unset] [(.int (1 : Int32))])) _
      refine XS.istoreN X95.here hx rfl (hb hby at_179) rfl (l' := #[.val (.int p0), .val (.int p1), .val (.ref b1), .val (.int (1 : Int32)), .val (.int (2 : Int32)), .val (.int (p1 &&& (7 : Int32))), .val (.int (own_get (1 : Int32) (6 : Int64) (p1 &&& (7 : Int32)))), .val (.int ex), .unset]) rfl ?_
      show Steps p.tables e below (T95.setTop (mkF m 180 #[.val (.int p0), .val (.int p1), .val (.ref b1), .val (.int (1 : Int32)), .val (.int (2 : Int32)), .val (.int (p1 &&& (7 : Int32))), .val (.int (own_get (1 : Int32) (6 : Int64) (p1 &&& (7 : Int32)))), .val (.int ex), .unset] [])) _
      refine XS.aloadN X95.here hx rfl (hb hby at_180) rfl rfl ?_
      show Steps p.tables e below (T95.setTop (mkF m 181 #[.val (.int p0), .val (.int p1), .val (.ref b1), .val (.int (1 : Int32)), .val (.int (2 : Int32)), .val (.int (p1 &&& (7 : Int32))), .val (.int (own_get (1 : Int32) (6 : Int64) (p1 &&& (7 : Int32)))), .val (.int ex), .unset] [(.ref b1)])) _
      refine st97.trans ?_
      show Steps p.tables e below (T97.setTop (mkF m 184 #[.val (.int p0), .val (.int p1), .val (.ref b1), .val (.int (1 : Int32)), .val (.int (2 : Int32)), .val (.int (p1 &&& (7 : Int32))), .val (.int (own_get (1 : Int32) (6 : Int64) (p1 &&& (7 : Int32)))), .val (.int ex), .unset] [(.int (3 : Int32))])) _
      refine XS.istore X97.here hx rfl (hb hby at_184) rfl (l' := #[.val (.int p0), .val (.int p1), .val (.ref b1), .val (.int (1 : Int32)), .val (.int (2 : Int32)), .val (.int (p1 &&& (7 : Int32))), .val (.int (own_get (1 : Int32) (6 : Int64) (p1 &&& (7 : Int32)))), .val (.int ex), .val (.int (3 : Int32))]) rfl ?_
      show Steps p.tables e below (T97.setTop (mkF m 186 #[.val (.int p0), .val (.int p1), .val (.ref b1), .val (.int (1 : Int32)), .val (.int (2 : Int32)), .val (.int (p1 &&& (7 : Int32))), .val (.int (own_get (1 : Int32) (6 : Int64) (p1 &&& (7 : Int32)))), .val (.int ex), .val (.int (3 : Int32))] [])) _
      refine XS.iloadN X97.here hx rfl (hb hby at_186) rfl ?_
      show Steps p.tables e below (T97.setTop (mkF m 187 #[.val (.int p0), .val (.int p1), .val (.ref b1), .val (.int (1 : Int32)), .val (.int (2 : Int32)), .val (.int (p1 &&& (7 : Int32))), .val (.int (own_get (1 : Int32) (6 : Int64) (p1 &&& (7 : Int32)))), .val (.int ex), .val (.int (3 : Int32))] [(.int (1 : Int32))])) _
      refine XS.ifNo X97.here hx rfl (hb hby at_187) rfl ((if0 _ _).trans (feq (by decide : ¬ ((1 : Int32) = (0 : Int32)))).1) ?_
      show Steps p.tables e below (T97.setTop (mkF m 190 #[.val (.int p0), .val (.int p1), .val (.ref b1), .val (.int (1 : Int32)), .val (.int (2 : Int32)), .val (.int (p1 &&& (7 : Int32))), .val (.int (own_get (1 : Int32) (6 : Int64) (p1 &&& (7 : Int32)))), .val (.int ex), .val (.int (3 : Int32))] [])) _
      refine XS.iload X97.here hx rfl (hb hby at_190) rfl ?_
      show Steps p.tables e below (T97.setTop (mkF m 192 #[.val (.int p0), .val (.int p1), .val (.ref b1), .val (.int (1 : Int32)), .val (.int (2 : Int32)), .val (.int (p1 &&& (7 : Int32))), .val (.int (own_get (1 : Int32) (6 : Int64) (p1 &&& (7 : Int32)))), .val (.int ex), .val (.int (3 : Int32))] [(.int (3 : Int32))])) _
      refine XS.iload X97.here hx rfl (hb hby at_192) rfl ?_
      show Steps p.tables e below (T97.setTop (mkF m 194 #[.val (.int p0), .val (.int p1), .val (.ref b1), .val (.int (1 : Int32)), .val (.int (2 : Int32)), .val (.int (p1 &&& (7 : Int32))), .val (.int (own_get (1 : Int32) (6 : Int64) (p1 &&& (7 : Int32)))), .val (.int ex), .val (.int (3 : Int32))] [(.int (2 : Int32)), (.int (3 : Int32))])) _
      refine XS.iconst X97.here hx rfl (hb hby at_194) ?_
      show Steps p.tables e below (T97.setTop (mkF m 195 #[.val (.int p0), .val (.int p1), .val (.ref b1), .val (.int (1 : Int32)), .val (.int (2 : Int32)), .val (.int (p1 &&& (7 : Int32))), .val (.int (own_get (1 : Int32) (6 : Int64) (p1 &&& (7 : Int32)))), .val (.int ex), .val (.int (3 : Int32))] [(.int (1 : Int32)), (.int (2 : Int32)), (.int (3 : Int32))])) _
      refine XS.iadd X97.here hx rfl (hb hby at_195) rfl ?_
      show Steps p.tables e below (T97.setTop (mkF m 196 #[.val (.int p0), .val (.int p1), .val (.ref b1), .val (.int (1 : Int32)), .val (.int (2 : Int32)), .val (.int (p1 &&& (7 : Int32))), .val (.int (own_get (1 : Int32) (6 : Int64) (p1 &&& (7 : Int32)))), .val (.int ex), .val (.int (3 : Int32))] [(.int ((2 : Int32) + (1 : Int32))), (.int (3 : Int32))])) _
      refine XS.icmpNo X97.here hx rfl (hb hby at_196) rfl (teq (by decide +kernel)).2 ?_
      show Steps p.tables e below (T97.setTop (mkF m 199 #[.val (.int p0), .val (.int p1), .val (.ref b1), .val (.int (1 : Int32)), .val (.int (2 : Int32)), .val (.int (p1 &&& (7 : Int32))), .val (.int (own_get (1 : Int32) (6 : Int64) (p1 &&& (7 : Int32)))), .val (.int ex), .val (.int (3 : Int32))] [])) _
      refine XS.aloadN X97.here hx rfl (hb hby at_199) rfl rfl ?_
      show Steps p.tables e below (T97.setTop (mkF m 200 #[.val (.int p0), .val (.int p1), .val (.ref b1), .val (.int (1 : Int32)), .val (.int (2 : Int32)), .val (.int (p1 &&& (7 : Int32))), .val (.int (own_get (1 : Int32) (6 : Int64) (p1 &&& (7 : Int32)))), .val (.int ex), .val (.int (3 : Int32))] [(.ref b1)])) _
      refine st104.trans ?_
      show Steps p.tables e below (T104.setTop (mkF m 203 #[.val (.int p0), .val (.int p1), .val (.ref b1), .val (.int (1 : Int32)), .val (.int (2 : Int32)), .val (.int (p1 &&& (7 : Int32))), .val (.int (own_get (1 : Int32) (6 : Int64) (p1 &&& (7 : Int32)))), .val (.int ex), .val (.int (3 : Int32))] [(.int (1 : Int32))])) _
      refine XS.ifNo X104.here hx rfl (hb hby at_203) rfl ((if0 _ _).trans (feq (by decide : ¬ ((1 : Int32) = (0 : Int32)))).1) ?_
      show Steps p.tables e below (T104.setTop (mkF m 206 #[.val (.int p0), .val (.int p1), .val (.ref b1), .val (.int (1 : Int32)), .val (.int (2 : Int32)), .val (.int (p1 &&& (7 : Int32))), .val (.int (own_get (1 : Int32) (6 : Int64) (p1 &&& (7 : Int32)))), .val (.int ex), .val (.int (3 : Int32))] [])) _
      refine XS.iconst X104.here hx rfl (hb hby at_206) ?_
      show Steps p.tables e below (T104.setTop (mkF m 207 #[.val (.int p0), .val (.int p1), .val (.ref b1), .val (.int (1 : Int32)), .val (.int (2 : Int32)), .val (.int (p1 &&& (7 : Int32))), .val (.int (own_get (1 : Int32) (6 : Int64) (p1 &&& (7 : Int32)))), .val (.int ex), .val (.int (3 : Int32))] [(.int (1 : Int32))])) _
      refine XS.goto X104.here hx rfl (pc0 := 207) (pc' := 211) rfl (hb hby at_207) (by decide) (by decide) ?_
      show Steps p.tables e below (T104.setTop (mkF m 211 #[.val (.int p0), .val (.int p1), .val (.ref b1), .val (.int (1 : Int32)), .val (.int (2 : Int32)), .val (.int (p1 &&& (7 : Int32))), .val (.int (own_get (1 : Int32) (6 : Int64) (p1 &&& (7 : Int32)))), .val (.int ex), .val (.int (3 : Int32))] [(.int (1 : Int32))])) _
      refine XS.istoreN X104.here hx rfl (hb hby at_211) rfl (l' := #[.val (.int p0), .val (.int p1), .val (.ref b1), .val (.int (1 : Int32)), .val (.int (2 : Int32)), .val (.int (p1 &&& (7 : Int32))), .val (.int (own_get (1 : Int32) (6 : Int64) (p1 &&& (7 : Int32)))), .val (.int ex), .val (.int (3 : Int32))]) rfl ?_
      show Steps p.tables e below (T104.setTop (mkF m 212 #[.val (.int p0), .val (.int p1), .val (.ref b1), .val (.int (1 : Int32)), .val (.int (2 : Int32)), .val (.int (p1 &&& (7 : Int32))), .val (.int (own_get (1 : Int32) (6 : Int64) (p1 &&& (7 : Int32)))), .val (.int ex), .val (.int (3 : Int32))] [])) _
      refine XS.iloadN X104.here hx rfl (hb hby at_212) rfl ?_
      show Steps p.tables e below (T104.setTop (mkF m 213 #[.val (.int p0), .val (.int p1), .val (.ref b1), .val (.int (1 : Int32)), .val (.int (2 : Int32)), .val (.int (p1 &&& (7 : Int32))), .val (.int (own_get (1 : Int32) (6 : Int64) (p1 &&& (7 : Int32)))), .val (.int ex), .val (.int (3 : Int32))] [(.int (1 : Int32))])) _
      exact retN X104 hx (t := .boolean) Bd.returns (by simp) (hb hby at_213) hr
    · show Q0 Z p0 p1 h0 n0 _ T104.heap _
      rw [e104]
      exact ⟨rfl, N105⟩
  · obtain ⟨cq106, kq106, q106a, q106b, q106c⟩ := isOf hZ e13 P0_7
    obtain ⟨_, _, ⟨T106, L106, k106, n106⟩, -, X106, ⟨Lc106, hQ106, l106, y106, z106⟩, st106⟩ := X13.virtualBack hx (y := (⟨"com/example/oblivious/oblivious/broker/PacketIds", "take", "()I"⟩ : MethodName)) (z := (⟨"com/example/oblivious/oblivious/broker/PacketIds", "take", "()I"⟩ : MethodName)) hown (mvT hZ (hw _ (List.mem_of_getElem? (i := 57) rfl))) (mvT hZ (hw _ (List.mem_of_getElem? (i := 58) rfl))) (notFace_of_selects (args := #[]) (mvT hZ (hw _ (List.mem_of_getElem? (i := 60) rfl)))) (mvT hZ (hw _ (List.mem_of_getElem? (i := 60) rfl))) (mvT hZ (hw _ (List.mem_of_getElem? (i := 59) rfl))) (by decide) (backOf (W := 0) (rm10 l Z a0 hw [] b1 bs t kc (0 : Int32) (0 : Int32) (0 : Int32) (0 : Int64) (1 : Int32) T7.heap n0 zz11 gn_b1 gn_bs gn_t ne1 ne2 ne3 ⟨P0_7, P1_7, P2_7, P3_7, ⟨B0_7, B1_7, B2_7, B3_7⟩⟩ f9 (by decide) (by decide) (by decide +kernel) (by decide +kernel) (by decide +kernel) (by decide +kernel) (by decide +kernel) (by decide +kernel) (by decide +kernel)) hZ (hw _ (List.mem_of_getElem? (i := 61) rfl)) (hw _ (List.mem_of_getElem? (i := 2) rfl)) (by decide) (by decide)) q106a q106c (g := (mkF m 24 #[.val (.int p0), .val (.int p1), .val (.ref b1), .val (.int (1 : Int32)), .val (.int (3 : Int32)), .unset, .unset, .unset, .unset] [(.ref b1)])) rfl (by rw [hml]; rfl) (Steps.refl _) (argsL := []) (rest := []) (lenOf pd_6 rfl) rfl (by show 2 * 0 + _ ≤ _; exact Nat.le_of_eq rfl) (hb hby at_24) (fun _ _ => ⟨rfl, e13, (by decide : 3 + 0 ≤ _), (by decide : 7 + 0 ≤ _)⟩)
    dsimp only [Pt.U, Pt.locs, Pt.cells, Pt.slots] at X106 l106 y106 z106 st106 hQ106
    subst l106 y106 z106
    obtain ⟨rfl, Nq106, K106, P0_106, P1_106, P2_106, P3_106, B0_106, B1_106, B2_106, B3_106⟩ := hQ106
    have ns107 : ∀ x ∈ [b1, bs, t], ∃ c : Cell, T7.heap[x]? = some c ∧ c.vm.isStatics = false := (own_allS (own_ns_e P0_7) (own_allS (own_ns_e B0_7) (own_allS (own_ns_v B3_7) own_all0)))
    have f108 := own_sta_keep f9 K106 ns107
    have f109 := P0_7.keep K106
    have f110 := B0_7.keep K106
    have zz111 : n0 ≤ T106.heap.size := Nat.le_trans zz11 K106.1
    have C_106 : Fld Z T106.heap b1 "com/example/oblivious/oblivious/broker/PacketIds" "count" "I" (.int (1 : Int32)) := P2_106
    have V_106 : Arv Z T106.heap t kc .long 1 [.long (2 : Int64)] (.long (0 : Int64)) := (show own_set (0 : Int64) (1 : Int32) = (2 : Int64) by decide +kernel) ▸ B3_106
    have N112 := Fr.app N14 Nq106
    obtain ⟨cq113, kq113, q113a, q113b, q113c⟩ := isOf hZ rfl P0_106
    obtain ⟨_, _, ⟨T113, L113, k113, n113⟩, -, X113, ⟨Lc113, hQ113, l113, y113, z113⟩, st113⟩ := X106.virtualBack hx (y := (⟨"com/example/oblivious/oblivious/broker/PacketIds", "hasFree", "()Z"⟩ : MethodName)) (z := (⟨"com/example/oblivious/oblivious/broker/PacketIds", "hasFree", "()Z"⟩ : MethodName)) hown (mvT hZ (hw _ (List.mem_of_getElem? (i := 33) rfl))) (mvT hZ (hw _ (List.mem_of_getElem? (i := 34) rfl))) (notFace_of_selects (args := #[]) (mvT hZ (hw _ (List.mem_of_getElem? (i := 36) rfl)))) (mvT hZ (hw _ (List.mem_of_getElem? (i := 36) rfl))) (mvT hZ (hw _ (List.mem_of_getElem? (i := 35) rfl))) (by decide) (backOf (W := 0) (rm6 l Z a0 hw [] b1 (1 : Int32) T106.heap n0 zz111 C_106 (by decide)) hZ (hw _ (List.mem_of_getElem? (i := 37) rfl)) (hw _ (List.mem_of_getElem? (i := 2) rfl)) (by decide) (by decide)) q113a q113c (g := (mkF m 40 #[.val (.int p0), .val (.int p1), .val (.ref b1), .val (.int (1 : Int32)), .val (.int (3 : Int32)), .val (.int (1 : Int32)), .unset, .unset, .unset] [(.ref b1)])) rfl (by rw [hml]; rfl) (Steps.refl _) (argsL := []) (rest := []) (lenOf pd_4 rfl) rfl (by show 2 * 0 + _ ≤ _; exact Nat.le_of_eq rfl) (hb hby at_40) (fun _ _ => ⟨rfl, rfl, (by decide : 3 + 0 ≤ _), (by decide : 7 + 0 ≤ _)⟩)
    dsimp only [Pt.U, Pt.locs, Pt.cells, Pt.slots] at X113 l113 y113 z113 st113 hQ113
    subst l113 y113 z113
    obtain ⟨rfl, Nq113, e113⟩ := hQ113
    have N114 := Fr.app N112 Nq113
    obtain ⟨cq115, kq115, q115a, q115b, q115c⟩ := isOf hZ e113 P0_106
    obtain ⟨_, _, ⟨T115, L115, k115, n115⟩, -, X115, ⟨Lc115, hQ115, l115, y115, z115⟩, st115⟩ := X113.virtualBack hx (y := (⟨"com/example/oblivious/oblivious/broker/PacketIds", "take", "()I"⟩ : MethodName)) (z := (⟨"com/example/oblivious/oblivious/broker/PacketIds", "take", "()I"⟩ : MethodName)) hown (mvT hZ (hw _ (List.mem_of_getElem? (i := 57) rfl))) (mvT hZ (hw _ (List.mem_of_getElem? (i := 58) rfl))) (notFace_of_selects (args := #[]) (mvT hZ (hw _ (List.mem_of_getElem? (i := 60) rfl)))) (mvT hZ (hw _ (List.mem_of_getElem? (i := 60) rfl))) (mvT hZ (hw _ (List.mem_of_getElem? (i := 59) rfl))) (by decide) (backOf (W := 0) (rm10 l Z a0 hw [] b1 bs t kc (1 : Int32) (1 : Int32) (1 : Int32) (2 : Int64) (2 : Int32) T106.heap n0 zz111 gn_b1 gn_bs gn_t ne1 ne2 ne3 ⟨P0_106, P1_106, C_106, P3_106, ⟨B0_106, B1_106, B2_106, V_106⟩⟩ f108 (by decide) (by decide) (by decide +kernel) (by decide +kernel) (by decide +kernel) (by decide +kernel) (by decide +kernel) (by decide +kernel) (by decide +kernel)) hZ (hw _ (List.mem_of_getElem? (i := 61) rfl)) (hw _ (List.mem_of_getElem? (i := 2) rfl)) (by decide) (by decide)) q115a q115c (g := (mkF m 59 #[.val (.int p0), .val (.int p1), .val (.ref b1), .val (.int (1 : Int32)), .val (.int (3 : Int32)), .val (.int (1 : Int32)), .unset, .unset, .unset] [(.ref b1)])) rfl (by rw [hml]; rfl) (Steps.refl _) (argsL := []) (rest := []) (lenOf pd_6 rfl) rfl (by show 2 * 0 + _ ≤ _; exact Nat.le_of_eq rfl) (hb hby at_59) (fun _ _ => ⟨rfl, e113, (by decide : 3 + 0 ≤ _), (by decide : 7 + 0 ≤ _)⟩)
    dsimp only [Pt.U, Pt.locs, Pt.cells, Pt.slots] at X115 l115 y115 z115 st115 hQ115
    subst l115 y115 z115
    obtain ⟨rfl, Nq115, K115, P0_115, P1_115, P2_115, P3_115, B0_115, B1_115, B2_115, B3_115⟩ := hQ115
    have ns116 : ∀ x ∈ [b1, bs, t], ∃ c : Cell, T106.heap[x]? = some c ∧ c.vm.isStatics = false := (own_allS (own_ns_e P0_106) (own_allS (own_ns_e B0_106) (own_allS (own_ns_v V_106) own_all0)))
    have f117 := own_sta_keep f108 K115 ns116
    have f118 := P0_106.keep K115
    have f119 := B0_106.keep K115
    have zz120 : n0 ≤ T115.heap.size := Nat.le_trans zz111 K115.1
    have C_115 : Fld Z T115.heap b1 "com/example/oblivious/oblivious/broker/PacketIds" "count" "I" (.int (2 : Int32)) := P2_115
    have V_115 : Arv Z T115.heap t kc .long 1 [.long (6 : Int64)] (.long (0 : Int64)) := (show own_set (2 : Int64) (2 : Int32) = (6 : Int64) by decide +kernel) ▸ B3_115
    have N121 := Fr.app N114 Nq115
    obtain ⟨cq122, kq122, q122a, q122b, q122c⟩ := isOf hZ rfl P0_115
    obtain ⟨_, _, ⟨T122, L122, k122, n122⟩, -, X122, ⟨Lc122, hQ122, l122, y122, z122⟩, st122⟩ := X115.virtualBack hx (y := (⟨"com/example/oblivious/oblivious/broker/PacketIds", "hasFree", "()Z"⟩ : MethodName)) (z := (⟨"com/example/oblivious/oblivious/broker/PacketIds", "hasFree", "()Z"⟩ : MethodName)) hown (mvT hZ (hw _ (List.mem_of_getElem? (i := 33) rfl))) (mvT hZ (hw _ (List.mem_of_getElem? (i := 34) rfl))) (notFace_of_selects (args := #[]) (mvT hZ (hw _ (List.mem_of_getElem? (i := 36) rfl)))) (mvT hZ (hw _ (List.mem_of_getElem? (i := 36) rfl))) (mvT hZ (hw _ (List.mem_of_getElem? (i := 35) rfl))) (by decide) (backOf (W := 0) (rm6 l Z a0 hw [] b1 (2 : Int32) T115.heap n0 zz120 C_115 (by decide)) hZ (hw _ (List.mem_of_getElem? (i := 37) rfl)) (hw _ (List.mem_of_getElem? (i := 2) rfl)) (by decide) (by decide)) q122a q122c (g := (mkF m 75 #[.val (.int p0), .val (.int p1), .val (.ref b1), .val (.int (1 : Int32)), .val (.int (3 : Int32)), .val (.int (2 : Int32)), .unset, .unset, .unset] [(.ref b1)])) rfl (by rw [hml]; rfl) (Steps.refl _) (argsL := []) (rest := []) (lenOf pd_4 rfl) rfl (by show 2 * 0 + _ ≤ _; exact Nat.le_of_eq rfl) (hb hby at_75) (fun _ _ => ⟨rfl, rfl, (by decide : 3 + 0 ≤ _), (by decide : 7 + 0 ≤ _)⟩)
    dsimp only [Pt.U, Pt.locs, Pt.cells, Pt.slots] at X122 l122 y122 z122 st122 hQ122
    subst l122 y122 z122
    obtain ⟨rfl, Nq122, e122⟩ := hQ122
    have N123 := Fr.app N121 Nq122
    obtain ⟨cq124, kq124, q124a, q124b, q124c⟩ := isOf hZ e122 P0_115
    obtain ⟨_, _, ⟨T124, L124, k124, n124⟩, -, X124, ⟨Lc124, hQ124, l124, y124, z124⟩, st124⟩ := X122.virtualBack hx (y := (⟨"com/example/oblivious/oblivious/broker/PacketIds", "take", "()I"⟩ : MethodName)) (z := (⟨"com/example/oblivious/oblivious/broker/PacketIds", "take", "()I"⟩ : MethodName)) hown (mvT hZ (hw _ (List.mem_of_getElem? (i := 57) rfl))) (mvT hZ (hw _ (List.mem_of_getElem? (i := 58) rfl))) (notFace_of_selects (args := #[]) (mvT hZ (hw _ (List.mem_of_getElem? (i := 60) rfl)))) (mvT hZ (hw _ (List.mem_of_getElem? (i := 60) rfl))) (mvT hZ (hw _ (List.mem_of_getElem? (i := 59) rfl))) (by decide) (backOf (W := 0) (rm10 l Z a0 hw [] b1 bs t kc (2 : Int32) (2 : Int32) (1 : Int32) (6 : Int64) (3 : Int32) T115.heap n0 zz120 gn_b1 gn_bs gn_t ne1 ne2 ne3 ⟨P0_115, P1_115, C_115, P3_115, ⟨B0_115, B1_115, B2_115, V_115⟩⟩ f117 (by decide) (by decide) (by decide +kernel) (by decide +kernel) (by decide +kernel) (by decide +kernel) (by decide +kernel) (by decide +kernel) (by decide +kernel)) hZ (hw _ (List.mem_of_getElem? (i := 61) rfl)) (hw _ (List.mem_of_getElem? (i := 2) rfl)) (by decide) (by decide)) q124a q124c (g := (mkF m 94 #[.val (.int p0), .val (.int p1), .val (.ref b1), .val (.int (1 : Int32)), .val (.int (3 : Int32)), .val (.int (2 : Int32)), .unset, .unset, .unset] [(.ref b1)])) rfl (by rw [hml]; rfl) (Steps.refl _) (argsL := []) (rest := []) (lenOf pd_6 rfl) rfl (by show 2 * 0 + _ ≤ _; exact Nat.le_of_eq rfl) (hb hby at_94) (fun _ _ => ⟨rfl, e122, (by decide : 3 + 0 ≤ _), (by decide : 7 + 0 ≤ _)⟩)
    dsimp only [Pt.U, Pt.locs, Pt.cells, Pt.slots] at X124 l124 y124 z124 st124 hQ124
    subst l124 y124 z124
    obtain ⟨rfl, Nq124, K124, P0_124, P1_124, P2_124, P3_124, B0_124, B1_124, B2_124, B3_124⟩ := hQ124
    have ns125 : ∀ x ∈ [b1, bs, t], ∃ c : Cell, T115.heap[x]? = some c ∧ c.vm.isStatics = false := (own_allS (own_ns_e P0_115) (own_allS (own_ns_e B0_115) (own_allS (own_ns_v V_115) own_all0)))
    have f126 := own_sta_keep f117 K124 ns125
    have f127 := P0_115.keep K124
    have f128 := B0_115.keep K124
    have zz129 : n0 ≤ T124.heap.size := Nat.le_trans zz120 K124.1
    have C_124 : Fld Z T124.heap b1 "com/example/oblivious/oblivious/broker/PacketIds" "count" "I" (.int (3 : Int32)) := P2_124
    have V_124 : Arv Z T124.heap t kc .long 1 [.long (14 : Int64)] (.long (0 : Int64)) := (show own_set (6 : Int64) (3 : Int32) = (14 : Int64) by decide +kernel) ▸ B3_124
    have N130 := Fr.app N123 Nq124
    obtain ⟨cq131, kq131, q131a, q131b, q131c⟩ := isOf hZ rfl P0_124
    obtain ⟨_, _, ⟨T131, L131, k131, n131⟩, -, X131, ⟨Lc131, hQ131, l131, y131, z131⟩, st131⟩ := X124.virtualBack hx (y := (⟨"com/example/oblivious/oblivious/broker/PacketIds", "hasFree", "()Z"⟩ : MethodName)) (z := (⟨"com/example/oblivious/oblivious/broker/PacketIds", "hasFree", "()Z"⟩ : MethodName)) hown (mvT hZ (hw _ (List.mem_of_getElem? (i := 33) rfl))) (mvT hZ (hw _ (List.mem_of_getElem? (i := 34) rfl))) (notFace_of_selects (args := #[]) (mvT hZ (hw _ (List.mem_of_getElem? (i := 36) rfl)))) (mvT hZ (hw _ (List.mem_of_getElem? (i := 36) rfl))) (mvT hZ (hw _ (List.mem_of_getElem? (i := 35) rfl))) (by decide) (backOf (W := 0) (rm6 l Z a0 hw [] b1 (3 : Int32) T124.heap n0 zz129 C_124 (by decide)) hZ (hw _ (List.mem_of_getElem? (i := 37) rfl)) (hw _ (List.mem_of_getElem? (i := 2) rfl)) (by decide) (by decide)) q131a q131c (g := (mkF m 110 #[.val (.int p0), .val (.int p1), .val (.ref b1), .val (.int (1 : Int32)), .val (.int (3 : Int32)), .val (.int (3 : Int32)), .unset, .unset, .unset] [(.ref b1)])) rfl (by rw [hml]; rfl) (Steps.refl _) (argsL := []) (rest := []) (lenOf pd_4 rfl) rfl (by show 2 * 0 + _ ≤ _; exact Nat.le_of_eq rfl) (hb hby at_110) (fun _ _ => ⟨rfl, rfl, (by decide : 3 + 0 ≤ _), (by decide : 7 + 0 ≤ _)⟩)
    dsimp only [Pt.U, Pt.locs, Pt.cells, Pt.slots] at X131 l131 y131 z131 st131 hQ131
    subst l131 y131 z131
    obtain ⟨rfl, Nq131, e131⟩ := hQ131
    have N132 := Fr.app N130 Nq131
    have hi7 := own_i7 p1
    have he := own_e3 p1
    obtain ⟨cq133, kq133, q133a, q133b, q133c⟩ := isOf hZ e131 P0_124
    obtain ⟨_, _, ⟨T133, L133, k133, n133⟩, -, X133, ⟨Lc133, hQ133, l133, y133, z133⟩, st133⟩ := X131.virtualBack hx (y := (⟨"com/example/oblivious/oblivious/broker/PacketIds", "free", "(I)Z"⟩ : MethodName)) (z := (⟨"com/example/oblivious/oblivious/broker/PacketIds", "free", "(I)Z"⟩ : MethodName)) hown (mvT hZ (hw _ (List.mem_of_getElem? (i := 41) rfl))) (mvT hZ (hw _ (List.mem_of_getElem? (i := 42) rfl))) (notFace_of_selects (args := #[]) (mvT hZ (hw _ (List.mem_of_getElem? (i := 44) rfl)))) (mvT hZ (hw _ (List.mem_of_getElem? (i := 44) rfl))) (mvT hZ (hw _ (List.mem_of_getElem? (i := 43) rfl))) (by decide) (backOf (W := 0) (rm7 l Z a0 hw [] b1 (p1 &&& (7 : Int32)) bs t kc (3 : Int32) (3 : Int32) (1 : Int32) (14 : Int64) T124.heap n0 zz129 gn_b1 gn_bs gn_t ne1 ne2 ne3 ⟨P0_124, P1_124, C_124, P3_124, ⟨B0_124, B1_124, B2_124, V_124⟩⟩ f126 (by decide) (by decide) hi7.1 hi7.2) hZ (hw _ (List.mem_of_getElem? (i := 45) rfl)) (hw _ (List.mem_of_getElem? (i := 2) rfl)) (by decide) (by decide)) q133a q133c (g := (mkF m 131 #[.val (.int p0), .val (.int p1), .val (.ref b1), .val (.int (1 : Int32)), .val (.int (3 : Int32)), .val (.int (p1 &&& (7 : Int32))), .unset, .unset, .unset] [(.int (p1 &&& (7 : Int32))), (.ref b1)])) rfl (by rw [hml]; rfl) (Steps.refl _) (argsL := [(.int (p1 &&& (7 : Int32)))]) (rest := []) (lenOf pd_5 rfl) rfl (by show 2 * 0 + _ ≤ _; exact Nat.le_of_eq rfl) (hb hby at_131) (fun _ _ => ⟨rfl, e131, (by decide : 3 + 0 ≤ _), (by decide : 7 + 0 ≤ _)⟩)
    dsimp only [Pt.U, Pt.locs, Pt.cells, Pt.slots] at X133 l133 y133 z133 st133 hQ133
    subst l133 y133 z133
    obtain ⟨cF, uF, wF, rfl, Nq133, K133, ⟨P0_133, P1_133, P2_133, P3_133, B0_133, B1_133, B2_133, B3_133⟩, hF⟩ := hQ133
    have ns134 : ∀ x ∈ [b1, bs, t], ∃ c : Cell, T124.heap[x]? = some c ∧ c.vm.isStatics = false := (own_allS (own_ns_e P0_124) (own_allS (own_ns_e B0_124) (own_allS (own_ns_v V_124) own_all0)))
    have f135 := own_sta_keep f126 K133 ns134
    have f136 := P0_124.keep K133
    have f137 := B0_124.keep K133
    have zz138 : n0 ≤ T133.heap.size := Nat.le_trans zz129 K133.1
    have N139 := Fr.app N132 Nq133
    have hc' := own_c3 hF
    have pre140 : ∀ tgt, Steps p.tables e below (T133.setTop (mkF m 139 #[.val (.int p0), .val (.int p1), .val (.ref b1), .val (.int (1 : Int32)), .val (.int (3 : Int32)), .val (.int (p1 &&& (7 : Int32))), .val (.int (own_get (1 : Int32) (14 : Int64) (p1 &&& (7 : Int32)))), .unset, .unset] [(.int (1 : Int32)), (.int (p1 &&& (7 : Int32)))])) tgt → Steps p.tables e below (s₁.setTop (entryFrame m #[(.int p0), (.int p1)] maxLocals)) tgt := fun tgt kt => pre15 _ (by
      show Steps p.tables e below (T13.setTop (mkF m 18 #[.val (.int p0), .val (.int p1), .val (.ref b1), .val (.int (1 : Int32)), .val (.int (3 : Int32)), .unset, .unset, .unset, .unset] [])) _
      refine XS.iload X13.here hx rfl (hb hby at_18) rfl ?_
      show Steps p.tables e below (T13.setTop (mkF m 20 #[.val (.int p0), .val (.int p1), .val (.ref b1), .val (.int (1 : Int32)), .val (.int (3 : Int32)), .unset, .unset, .unset, .unset] [(.int (3 : Int32))])) _
      refine XS.ifNo X13.here hx rfl (hb hby at_20) rfl ((if0 _ _).trans (tlt (by decide : (0 : Int32) < (3 : Int32))).2.2.2) ?_
      show Steps p.tables e below (T13.setTop (mkF m 23 #[.val (.int p0), .val (.int p1), .val (.ref b1), .val (.int (1 : Int32)), .val (.int (3 : Int32)), .unset, .unset, .unset, .unset] [])) _
      refine XS.aloadN X13.here hx rfl (hb hby at_23) rfl rfl ?_
      show Steps p.tables e below (T13.setTop (mkF m 24 #[.val (.int p0), .val (.int p1), .val (.ref b1), .val (.int (1 : Int32)), .val (.int (3 : Int32)), .unset, .unset, .unset, .unset] [(.ref b1)])) _
      refine st106.trans ?_
      show Steps p.tables e below (T106.setTop (mkF m 27 #[.val (.int p0), .val (.int p1), .val (.ref b1), .val (.int (1 : Int32)), .val (.int (3 : Int32)), .unset, .unset, .unset, .unset] [(.int (1 : Int32))])) _
      refine XS.istore X106.here hx rfl (hb hby at_27) rfl (l' := #[.val (.int p0), .val (.int p1), .val (.ref b1), .val (.int (1 : Int32)), .val (.int (3 : Int32)), .val (.int (1 : Int32)), .unset, .unset, .unset]) rfl ?_
      show Steps p.tables e below (T106.setTop (mkF m 29 #[.val (.int p0), .val (.int p1), .val (.ref b1), .val (.int (1 : Int32)), .val (.int (3 : Int32)), .val (.int (1 : Int32)), .unset, .unset, .unset] [])) _
      refine XS.iloadN X106.here hx rfl (hb hby at_29) rfl ?_
      show Steps p.tables e below (T106.setTop (mkF m 30 #[.val (.int p0), .val (.int p1), .val (.ref b1), .val (.int (1 : Int32)), .val (.int (3 : Int32)), .val (.int (1 : Int32)), .unset, .unset, .unset] [(.int (1 : Int32))])) _
      refine XS.ifNo X106.here hx rfl (hb hby at_30) rfl ((if0 _ _).trans (feq (by decide : ¬ ((1 : Int32) = (0 : Int32)))).1) ?_
      show Steps p.tables e below (T106.setTop (mkF m 33 #[.val (.int p0), .val (.int p1), .val (.ref b1), .val (.int (1 : Int32)), .val (.int (3 : Int32)), .val (.int (1 : Int32)), .unset, .unset, .unset] [])) _
      refine XS.iload X106.here hx rfl (hb hby at_33) rfl ?_
      show Steps p.tables e below (T106.setTop (mkF m 35 #[.val (.int p0), .val (.int p1), .val (.ref b1), .val (.int (1 : Int32)), .val (.int (3 : Int32)), .val (.int (1 : Int32)), .unset, .unset, .unset] [(.int (1 : Int32))])) _
      refine XS.iconst X106.here hx rfl (hb hby at_35) ?_
      show Steps p.tables e below (T106.setTop (mkF m 36 #[.val (.int p0), .val (.int p1), .val (.ref b1), .val (.int (1 : Int32)), .val (.int (3 : Int32)), .val (.int (1 : Int32)), .unset, .unset, .unset] [(.int (1 : Int32)), (.int (1 : Int32))])) _
      refine XS.icmpNo X106.here hx rfl (hb hby at_36) rfl (teq (rfl : (1 : Int32) = (1 : Int32))).2 ?_
      show Steps p.tables e below (T106.setTop (mkF m 39 #[.val (.int p0), .val (.int p1), .val (.ref b1), .val (.int (1 : Int32)), .val (.int (3 : Int32)), .val (.int (1 : Int32)), .unset, .unset, .unset] [])) _
      refine XS.aloadN X106.here hx rfl (hb hby at_39) rfl rfl ?_
      show Steps p.tables e below (T106.setTop (mkF m 40 #[.val (.int p0), .val (.int p1), .val (.ref b1), .val (.int (1 : Int32)), .val (.int (3 : Int32)), .val (.int (1 : Int32)), .unset, .unset, .unset] [(.ref b1)])) _
      refine st113.trans ?_
      show Steps p.tables e below (T113.setTop (mkF m 43 #[.val (.int p0), .val (.int p1), .val (.ref b1), .val (.int (1 : Int32)), .val (.int (3 : Int32)), .val (.int (1 : Int32)), .unset, .unset, .unset] [(.int (1 : Int32))])) _
      refine XS.ifNo X113.here hx rfl (hb hby at_43) rfl ((if0 _ _).trans (feq (by decide : ¬ ((1 : Int32) = (0 : Int32)))).1) ?_
      show Steps p.tables e below (T113.setTop (mkF m 46 #[.val (.int p0), .val (.int p1), .val (.ref b1), .val (.int (1 : Int32)), .val (.int (3 : Int32)), .val (.int (1 : Int32)), .unset, .unset, .unset] [])) _
      refine XS.iconst X113.here hx rfl (hb hby at_46) ?_
      show Steps p.tables e below (T113.setTop (mkF m 47 #[.val (.int p0), .val (.int p1), .val (.ref b1), .val (.int (1 : Int32)), .val (.int (3 : Int32)), .val (.int (1 : Int32)), .unset, .unset, .unset] [(.int (1 : Int32))])) _
      refine XS.goto X113.here hx rfl (pc0 := 47) (pc' := 51) rfl (hb hby at_47) (by decide) (by decide) ?_
      show Steps p.tables e below (T113.setTop (mkF m 51 #[.val (.int p0), .val (.int p1), .val (.ref b1), .val (.int (1 : Int32)), .val (.int (3 : Int32)), .val (.int (1 : Int32)), .unset, .unset, .unset] [(.int (1 : Int32))])) _
      refine XS.istoreN X113.here hx rfl (hb hby at_51) rfl (l' := #[.val (.int p0), .val (.int p1), .val (.ref b1), .val (.int (1 : Int32)), .val (.int (3 : Int32)), .val (.int (1 : Int32)), .unset, .unset, .unset]) rfl ?_
      show Steps p.tables e below (T113.setTop (mkF m 52 #[.val (.int p0), .val (.int p1), .val (.ref b1), .val (.int (1 : Int32)), .val (.int (3 : Int32)), .val (.int (1 : Int32)), .unset, .unset, .unset] [])) _
      refine XS.iload X113.here hx rfl (hb hby at_52) rfl ?_
      show Steps p.tables e below (T113.setTop (mkF m 54 #[.val (.int p0), .val (.int p1), .val (.ref b1), .val (.int (1 : Int32)), .val (.int (3 : Int32)), .val (.int (1 : Int32)), .unset, .unset, .unset] [(.int (3 : Int32))])) _
      refine XS.iconst X113.here hx rfl (hb hby at_54) ?_
      show Steps p.tables e below (T113.setTop (mkF m 55 #[.val (.int p0), .val (.int p1), .val (.ref b1), .val (.int (1 : Int32)), .val (.int (3 : Int32)), .val (.int (1 : Int32)), .unset, .unset, .unset] [(.int (1 : Int32)), (.int (3 : Int32))])) _
      refine XS.icmpNo X113.here hx rfl (hb hby at_55) rfl (tlt (by decide : (1 : Int32) < (3 : Int32))).2.2.2 ?_
      show Steps p.tables e below (T113.setTop (mkF m 58 #[.val (.int p0), .val (.int p1), .val (.ref b1), .val (.int (1 : Int32)), .val (.int (3 : Int32)), .val (.int (1 : Int32)), .unset, .unset, .unset] [])) _
      refine XS.aloadN X113.here hx rfl (hb hby at_58) rfl rfl ?_
      show Steps p.tables e below (T113.setTop (mkF m 59 #[.val (.int p0), .val (.int p1), .val (.ref b1), .val (.int (1 : Int32)), .val (.int (3 : Int32)), .val (.int (1 : Int32)), .unset, .unset, .unset] [(.ref b1)])) _
      refine st115.trans ?_
      show Steps p.tables e below (T115.setTop (mkF m 62 #[.val (.int p0), .val (.int p1), .val (.ref b1), .val (.int (1 : Int32)), .val (.int (3 : Int32)), .val (.int (1 : Int32)), .unset, .unset, .unset] [(.int (2 : Int32))])) _
      refine XS.istore X115.here hx rfl (hb hby at_62) rfl (l' := #[.val (.int p0), .val (.int p1), .val (.ref b1), .val (.int (1 : Int32)), .val (.int (3 : Int32)), .val (.int (2 : Int32)), .unset, .unset, .unset]) rfl ?_
      show Steps p.tables e below (T115.setTop (mkF m 64 #[.val (.int p0), .val (.int p1), .val (.ref b1), .val (.int (1 : Int32)), .val (.int (3 : Int32)), .val (.int (2 : Int32)), .unset, .unset, .unset] [])) _
      refine XS.iloadN X115.here hx rfl (hb hby at_64) rfl ?_
      show Steps p.tables e below (T115.setTop (mkF m 65 #[.val (.int p0), .val (.int p1), .val (.ref b1), .val (.int (1 : Int32)), .val (.int (3 : Int32)), .val (.int (2 : Int32)), .unset, .unset, .unset] [(.int (1 : Int32))])) _
      refine XS.ifNo X115.here hx rfl (hb hby at_65) rfl ((if0 _ _).trans (feq (by decide : ¬ ((1 : Int32) = (0 : Int32)))).1) ?_
      show Steps p.tables e below (T115.setTop (mkF m 68 #[.val (.int p0), .val (.int p1), .val (.ref b1), .val (.int (1 : Int32)), .val (.int (3 : Int32)), .val (.int (2 : Int32)), .unset, .unset, .unset] [])) _
      refine XS.iload X115.here hx rfl (hb hby at_68) rfl ?_
      show Steps p.tables e below (T115.setTop (mkF m 70 #[.val (.int p0), .val (.int p1), .val (.ref b1), .val (.int (1 : Int32)), .val (.int (3 : Int32)), .val (.int (2 : Int32)), .unset, .unset, .unset] [(.int (2 : Int32))])) _
      refine XS.iconst X115.here hx rfl (hb hby at_70) ?_
      show Steps p.tables e below (T115.setTop (mkF m 71 #[.val (.int p0), .val (.int p1), .val (.ref b1), .val (.int (1 : Int32)), .val (.int (3 : Int32)), .val (.int (2 : Int32)), .unset, .unset, .unset] [(.int (2 : Int32)), (.int (2 : Int32))])) _
      refine XS.icmpNo X115.here hx rfl (hb hby at_71) rfl (teq (rfl : (2 : Int32) = (2 : Int32))).2 ?_
      show Steps p.tables e below (T115.setTop (mkF m 74 #[.val (.int p0), .val (.int p1), .val (.ref b1), .val (.int (1 : Int32)), .val (.int (3 : Int32)), .val (.int (2 : Int32)), .unset, .unset, .unset] [])) _
      refine XS.aloadN X115.here hx rfl (hb hby at_74) rfl rfl ?_
      show Steps p.tables e below (T115.setTop (mkF m 75 #[.val (.int p0), .val (.int p1), .val (.ref b1), .val (.int (1 : Int32)), .val (.int (3 : Int32)), .val (.int (2 : Int32)), .unset, .unset, .unset] [(.ref b1)])) _
      refine st122.trans ?_
      show Steps p.tables e below (T122.setTop (mkF m 78 #[.val (.int p0), .val (.int p1), .val (.ref b1), .val (.int (1 : Int32)), .val (.int (3 : Int32)), .val (.int (2 : Int32)), .unset, .unset, .unset] [(.int (1 : Int32))])) _
      refine XS.ifNo X122.here hx rfl (hb hby at_78) rfl ((if0 _ _).trans (feq (by decide : ¬ ((1 : Int32) = (0 : Int32)))).1) ?_
      show Steps p.tables e below (T122.setTop (mkF m 81 #[.val (.int p0), .val (.int p1), .val (.ref b1), .val (.int (1 : Int32)), .val (.int (3 : Int32)), .val (.int (2 : Int32)), .unset, .unset, .unset] [])) _
      refine XS.iconst X122.here hx rfl (hb hby at_81) ?_
      show Steps p.tables e below (T122.setTop (mkF m 82 #[.val (.int p0), .val (.int p1), .val (.ref b1), .val (.int (1 : Int32)), .val (.int (3 : Int32)), .val (.int (2 : Int32)), .unset, .unset, .unset] [(.int (1 : Int32))])) _
      refine XS.goto X122.here hx rfl (pc0 := 82) (pc' := 86) rfl (hb hby at_82) (by decide) (by decide) ?_
      show Steps p.tables e below (T122.setTop (mkF m 86 #[.val (.int p0), .val (.int p1), .val (.ref b1), .val (.int (1 : Int32)), .val (.int (3 : Int32)), .val (.int (2 : Int32)), .unset, .unset, .unset] [(.int (1 : Int32))])) _
      refine XS.istoreN X122.here hx rfl (hb hby at_86) rfl (l' := #[.val (.int p0), .val (.int p1), .val (.ref b1), .val (.int (1 : Int32)), .val (.int (3 : Int32)), .val (.int (2 : Int32)), .unset, .unset, .unset]) rfl ?_
      show Steps p.tables e below (T122.setTop (mkF m 87 #[.val (.int p0), .val (.int p1), .val (.ref b1), .val (.int (1 : Int32)), .val (.int (3 : Int32)), .val (.int (2 : Int32)), .unset, .unset, .unset] [])) _
      refine XS.iload X122.here hx rfl (hb hby at_87) rfl ?_
      show Steps p.tables e below (T122.setTop (mkF m 89 #[.val (.int p0), .val (.int p1), .val (.ref b1), .val (.int (1 : Int32)), .val (.int (3 : Int32)), .val (.int (2 : Int32)), .unset, .unset, .unset] [(.int (3 : Int32))])) _
      refine XS.iconst X122.here hx rfl (hb hby at_89) ?_
      show Steps p.tables e below (T122.setTop (mkF m 90 #[.val (.int p0), .val (.int p1), .val (.ref b1), .val (.int (1 : Int32)), .val (.int (3 : Int32)), .val (.int (2 : Int32)), .unset, .unset, .unset] [(.int (2 : Int32)), (.int (3 : Int32))])) _
      refine XS.icmpNo X122.here hx rfl (hb hby at_90) rfl (tlt (by decide : (2 : Int32) < (3 : Int32))).2.2.2 ?_
      show Steps p.tables e below (T122.setTop (mkF m 93 #[.val (.int p0), .val (.int p1), .val (.ref b1), .val (.int (1 : Int32)), .val (.int (3 : Int32)), .val (.int (2 : Int32)), .unset, .unset, .unset] [])) _
      refine XS.aloadN X122.here hx rfl (hb hby at_93) rfl rfl ?_
      show Steps p.tables e below (T122.setTop (mkF m 94 #[.val (.int p0), .val (.int p1), .val (.ref b1), .val (.int (1 : Int32)), .val (.int (3 : Int32)), .val (.int (2 : Int32)), .unset, .unset, .unset] [(.ref b1)])) _
      refine st124.trans ?_
      show Steps p.tables e below (T124.setTop (mkF m 97 #[.val (.int p0), .val (.int p1), .val (.ref b1), .val (.int (1 : Int32)), .val (.int (3 : Int32)), .val (.int (2 : Int32)), .unset, .unset, .unset] [(.int (3 : Int32))])) _
      refine XS.istore X124.here hx rfl (hb hby at_97) rfl (l' := #[.val (.int p0), .val (.int p1), .val (.ref b1), .val (.int (1 : Int32)), .val (.int (3 : Int32)), .val (.int (3 : Int32)), .unset, .unset, .unset]) rfl ?_
      show Steps p.tables e below (T124.setTop (mkF m 99 #[.val (.int p0), .val (.int p1), .val (.ref b1), .val (.int (1 : Int32)), .val (.int (3 : Int32)), .val (.int (3 : Int32)), .unset, .unset, .unset] [])) _
      refine XS.iloadN X124.here hx rfl (hb hby at_99) rfl ?_
      show Steps p.tables e below (T124.setTop (mkF m 100 #[.val (.int p0), .val (.int p1), .val (.ref b1), .val (.int (1 : Int32)), .val (.int (3 : Int32)), .val (.int (3 : Int32)), .unset, .unset, .unset] [(.int (1 : Int32))])) _
      refine XS.ifNo X124.here hx rfl (hb hby at_100) rfl ((if0 _ _).trans (feq (by decide : ¬ ((1 : Int32) = (0 : Int32)))).1) ?_
      show Steps p.tables e below (T124.setTop (mkF m 103 #[.val (.int p0), .val (.int p1), .val (.ref b1), .val (.int (1 : Int32)), .val (.int (3 : Int32)), .val (.int (3 : Int32)), .unset, .unset, .unset] [])) _
      refine XS.iload X124.here hx rfl (hb hby at_103) rfl ?_
      show Steps p.tables e below (T124.setTop (mkF m 105 #[.val (.int p0), .val (.int p1), .val (.ref b1), .val (.int (1 : Int32)), .val (.int (3 : Int32)), .val (.int (3 : Int32)), .unset, .unset, .unset] [(.int (3 : Int32))])) _
      refine XS.iconst X124.here hx rfl (hb hby at_105) ?_
      show Steps p.tables e below (T124.setTop (mkF m 106 #[.val (.int p0), .val (.int p1), .val (.ref b1), .val (.int (1 : Int32)), .val (.int (3 : Int32)), .val (.int (3 : Int32)), .unset, .unset, .unset] [(.int (3 : Int32)), (.int (3 : Int32))])) _
      refine XS.icmpNo X124.here hx rfl (hb hby at_106) rfl (teq (rfl : (3 : Int32) = (3 : Int32))).2 ?_
      show Steps p.tables e below (T124.setTop (mkF m 109 #[.val (.int p0), .val (.int p1), .val (.ref b1), .val (.int (1 : Int32)), .val (.int (3 : Int32)), .val (.int (3 : Int32)), .unset, .unset, .unset] [])) _
      refine XS.aloadN X124.here hx rfl (hb hby at_109) rfl rfl ?_
      show Steps p.tables e below (T124.setTop (mkF m 110 #[.val (.int p0), .val (.int p1), .val (.ref b1), .val (.int (1 : Int32)), .val (.int (3 : Int32)), .val (.int (3 : Int32)), .unset, .unset, .unset] [(.ref b1)])) _
      refine st131.trans ?_
      show Steps p.tables e below (T131.setTop (mkF m 113 #[.val (.int p0), .val (.int p1), .val (.ref b1), .val (.int (1 : Int32)), .val (.int (3 : Int32)), .val (.int (3 : Int32)), .unset, .unset, .unset] [(.int (1 : Int32))])) _
      refine XS.ifNo X131.here hx rfl (hb hby at_113) rfl ((if0 _ _).trans (feq (by decide : ¬ ((1 : Int32) = (0 : Int32)))).1) ?_
      show Steps p.tables e below (T131.setTop (mkF m 116 #[.val (.int p0), .val (.int p1), .val (.ref b1), .val (.int (1 : Int32)), .val (.int (3 : Int32)), .val (.int (3 : Int32)), .unset, .unset, .unset] [])) _
      refine XS.iconst X131.here hx rfl (hb hby at_116) ?_
      show Steps p.tables e below (T131.setTop (mkF m 117 #[.val (.int p0), .val (.int p1), .val (.ref b1), .val (.int (1 : Int32)), .val (.int (3 : Int32)), .val (.int (3 : Int32)), .unset, .unset, .unset] [(.int (1 : Int32))])) _
      refine XS.goto X131.here hx rfl (pc0 := 117) (pc' := 121) rfl (hb hby at_117) (by decide) (by decide) ?_
      show Steps p.tables e below (T131.setTop (mkF m 121 #[.val (.int p0), .val (.int p1), .val (.ref b1), .val (.int (1 : Int32)), .val (.int (3 : Int32)), .val (.int (3 : Int32)), .unset, .unset, .unset] [(.int (1 : Int32))])) _
      refine XS.istoreN X131.here hx rfl (hb hby at_121) rfl (l' := #[.val (.int p0), .val (.int p1), .val (.ref b1), .val (.int (1 : Int32)), .val (.int (3 : Int32)), .val (.int (3 : Int32)), .unset, .unset, .unset]) rfl ?_
      show Steps p.tables e below (T131.setTop (mkF m 122 #[.val (.int p0), .val (.int p1), .val (.ref b1), .val (.int (1 : Int32)), .val (.int (3 : Int32)), .val (.int (3 : Int32)), .unset, .unset, .unset] [])) _
      refine XS.iloadN X131.here hx rfl (hb hby at_122) rfl ?_
      show Steps p.tables e below (T131.setTop (mkF m 123 #[.val (.int p0), .val (.int p1), .val (.ref b1), .val (.int (1 : Int32)), .val (.int (3 : Int32)), .val (.int (3 : Int32)), .unset, .unset, .unset] [(.int p1)])) _
      refine XS.bipush X131.here hx rfl (hb hby at_123) ?_
      show Steps p.tables e below (T131.setTop (mkF m 125 #[.val (.int p0), .val (.int p1), .val (.ref b1), .val (.int (1 : Int32)), .val (.int (3 : Int32)), .val (.int (3 : Int32)), .unset, .unset, .unset] [(.int (7 : Int32)), (.int p1)])) _
      refine XS.iand X131.here hx rfl (hb hby at_125) rfl ?_
      show Steps p.tables e below (T131.setTop (mkF m 126 #[.val (.int p0), .val (.int p1), .val (.ref b1), .val (.int (1 : Int32)), .val (.int (3 : Int32)), .val (.int (3 : Int32)), .unset, .unset, .unset] [(.int (p1 &&& (7 : Int32)))])) _
      refine XS.istore X131.here hx rfl (hb hby at_126) rfl (l' := #[.val (.int p0), .val (.int p1), .val (.ref b1), .val (.int (1 : Int32)), .val (.int (3 : Int32)), .val (.int (p1 &&& (7 : Int32))), .unset, .unset, .unset]) rfl ?_
      show Steps p.tables e below (T131.setTop (mkF m 128 #[.val (.int p0), .val (.int p1), .val (.ref b1), .val (.int (1 : Int32)), .val (.int (3 : Int32)), .val (.int (p1 &&& (7 : Int32))), .unset, .unset, .unset] [])) _
      refine XS.aloadN X131.here hx rfl (hb hby at_128) rfl rfl ?_
      show Steps p.tables e below (T131.setTop (mkF m 129 #[.val (.int p0), .val (.int p1), .val (.ref b1), .val (.int (1 : Int32)), .val (.int (3 : Int32)), .val (.int (p1 &&& (7 : Int32))), .unset, .unset, .unset] [(.ref b1)])) _
      refine XS.iload X131.here hx rfl (hb hby at_129) rfl ?_
      show Steps p.tables e below (T131.setTop (mkF m 131 #[.val (.int p0), .val (.int p1), .val (.ref b1), .val (.int (1 : Int32)), .val (.int (3 : Int32)), .val (.int (p1 &&& (7 : Int32))), .unset, .unset, .unset] [(.int (p1 &&& (7 : Int32))), (.ref b1)])) _
      refine st133.trans ?_
      show Steps p.tables e below (T133.setTop (mkF m 134 #[.val (.int p0), .val (.int p1), .val (.ref b1), .val (.int (1 : Int32)), .val (.int (3 : Int32)), .val (.int (p1 &&& (7 : Int32))), .unset, .unset, .unset] [(.int (own_get (1 : Int32) (14 : Int64) (p1 &&& (7 : Int32))))])) _
      refine XS.istore X133.here hx rfl (hb hby at_134) rfl (l' := #[.val (.int p0), .val (.int p1), .val (.ref b1), .val (.int (1 : Int32)), .val (.int (3 : Int32)), .val (.int (p1 &&& (7 : Int32))), .val (.int (own_get (1 : Int32) (14 : Int64) (p1 &&& (7 : Int32)))), .unset, .unset]) rfl ?_
      show Steps p.tables e below (T133.setTop (mkF m 136 #[.val (.int p0), .val (.int p1), .val (.ref b1), .val (.int (1 : Int32)), .val (.int (3 : Int32)), .val (.int (p1 &&& (7 : Int32))), .val (.int (own_get (1 : Int32) (14 : Int64) (p1 &&& (7 : Int32)))), .unset, .unset] [])) _
      refine XS.iload X133.here hx rfl (hb hby at_136) rfl ?_
      show Steps p.tables e below (T133.setTop (mkF m 138 #[.val (.int p0), .val (.int p1), .val (.ref b1), .val (.int (1 : Int32)), .val (.int (3 : Int32)), .val (.int (p1 &&& (7 : Int32))), .val (.int (own_get (1 : Int32) (14 : Int64) (p1 &&& (7 : Int32)))), .unset, .unset] [(.int (p1 &&& (7 : Int32)))])) _
      refine XS.iconst X133.here hx rfl (hb hby at_138) ?_
      exact kt)
    obtain ⟨ex, hm142, pre141⟩ : ∃ (ex : Int32), ((own_get (1 : Int32) (14 : Int64) (p1 &&& (7 : Int32))) = ex) ∧ ∀ tgt, Steps p.tables e below (T133.setTop (mkF m 156 #[.val (.int p0), .val (.int p1), .val (.ref b1), .val (.int (1 : Int32)), .val (.int (3 : Int32)), .val (.int (p1 &&& (7 : Int32))), .val (.int (own_get (1 : Int32) (14 : Int64) (p1 &&& (7 : Int32)))), .val (.int ex), .unset] [])) tgt → Steps p.tables e below (s₁.setTop (entryFrame m #[(.int p0), (.int p1)] maxLocals)) tgt := by
      by_cases h139 : (p1 &&& (7 : Int32)) < (1 : Int32)
      · exact ⟨(0 : Int32), (he.1 h139), fun tgt kt => pre140 _ (by
          show Steps p.tables e below (T133.setTop (mkF m 139 #[.val (.int p0), .val (.int p1), .val (.ref b1), .val (.int (1 : Int32)), .val (.int (3 : Int32)), .val (.int (p1 &&& (7 : Int32))), .val (.int (own_get (1 : Int32) (14 : Int64) (p1 &&& (7 : Int32)))), .unset, .unset] [(.int (1 : Int32)), (.int (p1 &&& (7 : Int32)))])) _
          refine XS.icmpYes X133.here hx rfl (pc0 := 139) (pc' := 153) rfl (hb hby at_139) rfl (tlt h139).1 (by decide) (by decide) ?_
          show Steps p.tables e below (T133.setTop (mkF m 153 #[.val (.int p0), .val (.int p1), .val (.ref b1), .val (.int (1 : Int32)), .val (.int (3 : Int32)), .val (.int (p1 &&& (7 : Int32))), .val (.int (own_get (1 : Int32) (14 : Int64) (p1 &&& (7 : Int32)))), .unset, .unset] [])) _
          refine XS.iconst X133.here hx rfl (hb hby at_153) ?_
          show Steps p.tables e below (T133.setTop (mkF m 154 #[.val (.int p0), .val (.int p1), .val (.ref b1), .val (.int (1 : Int32)), .val (.int (3 : Int32)), .val (.int (p1 &&& (7 : Int32))), .val (.int (own_get (1 : Int32) (14 : Int64) (p1 &&& (7 : Int32)))), .unset, .unset] [(.int (0 : Int32))])) _
          refine XS.istore X133.here hx rfl (hb hby at_154) rfl (l' := #[.val (.int p0), .val (.int p1), .val (.ref b1), .val (.int (1 : Int32)), .val (.int (3 : Int32)), .val (.int (p1 &&& (7 : Int32))), .val (.int (own_get (1 : Int32) (14 : Int64) (p1 &&& (7 : Int32)))), .val (.int (0 : Int32)), .unset]) rfl ?_
          exact kt)⟩
      · by_cases h146 : (3 : Int32) < (p1 &&& (7 : Int32))
        · exact ⟨(0 : Int32), (he.2.1 h139 h146), fun tgt kt => pre140 _ (by
            show Steps p.tables e below (T133.setTop (mkF m 139 #[.val (.int p0), .val (.int p1), .val (.ref b1), .val (.int (1 : Int32)), .val (.int (3 : Int32)), .val (.int (p1 &&& (7 : Int32))), .val (.int (own_get (1 : Int32) (14 : Int64) (p1 &&& (7 : Int32)))), .unset, .unset] [(.int (1 : Int32)), (.int (p1 &&& (7 : Int32)))])) _
            refine XS.icmpNo X133.here hx rfl (hb hby at_139) rfl (flt h139).1 ?_
            show Steps p.tables e below (T133.setTop (mkF m 142 #[.val (.int p0), .val (.int p1), .val (.ref b1), .val (.int (1 : Int32)), .val (.int (3 : Int32)), .val (.int (p1 &&& (7 : Int32))), .val (.int (own_get (1 : Int32) (14 : Int64) (p1 &&& (7 : Int32)))), .unset, .unset] [])) _
            refine XS.iload X133.here hx rfl (hb hby at_142) rfl ?_
            show Steps p.tables e below (T133.setTop (mkF m 144 #[.val (.int p0), .val (.int p1), .val (.ref b1), .val (.int (1 : Int32)), .val (.int (3 : Int32)), .val (.int (p1 &&& (7 : Int32))), .val (.int (own_get (1 : Int32) (14 : Int64) (p1 &&& (7 : Int32)))), .unset, .unset] [(.int (p1 &&& (7 : Int32)))])) _
            refine XS.iload X133.here hx rfl (hb hby at_144) rfl ?_
            show Steps p.tables e below (T133.setTop (mkF m 146 #[.val (.int p0), .val (.int p1), .val (.ref b1), .val (.int (1 : Int32)), .val (.int (3 : Int32)), .val (.int (p1 &&& (7 : Int32))), .val (.int (own_get (1 : Int32) (14 : Int64) (p1 &&& (7 : Int32)))), .unset, .unset] [(.int (3 : Int32)), (.int (p1 &&& (7 : Int32)))])) _
            refine XS.icmpYes X133.here hx rfl (pc0 := 146) (pc' := 153) rfl (hb hby at_146) rfl (tlt h146).2.2.1 (by decide) (by decide) ?_
            show Steps p.tables e below (T133.setTop (mkF m 153 #[.val (.int p0), .val (.int p1), .val (.ref b1), .val (.int (1 : Int32)), .val (.int (3 : Int32)), .val (.int (p1 &&& (7 : Int32))), .val (.int (own_get (1 : Int32) (14 : Int64) (p1 &&& (7 : Int32)))), .unset, .unset] [])) _
            refine XS.iconst X133.here hx rfl (hb hby at_153) ?_
            show Steps p.tables e below (T133.setTop (mkF m 154 #[.val (.int p0), .val (.int p1), .val (.ref b1), .val (.int (1 : Int32)), .val (.int (3 : Int32)), .val (.int (p1 &&& (7 : Int32))), .val (.int (own_get (1 : Int32) (14 : Int64) (p1 &&& (7 : Int32)))), .unset, .unset] [(.int (0 : Int32))])) _
            refine XS.istore X133.here hx rfl (hb hby at_154) rfl (l' := #[.val (.int p0), .val (.int p1), .val (.ref b1), .val (.int (1 : Int32)), .val (.int (3 : Int32)), .val (.int (p1 &&& (7 : Int32))), .val (.int (own_get (1 : Int32) (14 : Int64) (p1 &&& (7 : Int32)))), .val (.int (0 : Int32)), .unset]) rfl ?_
            exact kt)⟩
        · exact ⟨(1 : Int32), (he.2.2 h139 h146), fun tgt kt => pre140 _ (by
            show Steps p.tables e below (T133.setTop (mkF m 139 #[.val (.int p0), .val (.int p1), .val (.ref b1), .val (.int (1 : Int32)), .val (.int (3 : Int32)), .val (.int (p1 &&& (7 : Int32))), .val (.int (own_get (1 : Int32) (14 : Int64) (p1 &&& (7 : Int32)))), .unset, .unset] [(.int (1 : Int32)), (.int (p1 &&& (7 : Int32)))])) _
            refine XS.icmpNo X133.here hx rfl (hb hby at_139) rfl (flt h139).1 ?_
            show Steps p.tables e below (T133.setTop (mkF m 142 #[.val (.int p0), .val (.int p1), .val (.ref b1), .val (.int (1 : Int32)), .val (.int (3 : Int32)), .val (.int (p1 &&& (7 : Int32))), .val (.int (own_get (1 : Int32) (14 : Int64) (p1 &&& (7 : Int32)))), .unset, .unset] [])) _
            refine XS.iload X133.here hx rfl (hb hby at_142) rfl ?_
            show Steps p.tables e below (T133.setTop (mkF m 144 #[.val (.int p0), .val (.int p1), .val (.ref b1), .val (.int (1 : Int32)), .val (.int (3 : Int32)), .val (.int (p1 &&& (7 : Int32))), .val (.int (own_get (1 : Int32) (14 : Int64) (p1 &&& (7 : Int32)))), .unset, .unset] [(.int (p1 &&& (7 : Int32)))])) _
            refine XS.iload X133.here hx rfl (hb hby at_144) rfl ?_
            show Steps p.tables e below (T133.setTop (mkF m 146 #[.val (.int p0), .val (.int p1), .val (.ref b1), .val (.int (1 : Int32)), .val (.int (3 : Int32)), .val (.int (p1 &&& (7 : Int32))), .val (.int (own_get (1 : Int32) (14 : Int64) (p1 &&& (7 : Int32)))), .unset, .unset] [(.int (3 : Int32)), (.int (p1 &&& (7 : Int32)))])) _
            refine XS.icmpNo X133.here hx rfl (hb hby at_146) rfl (flt h146).2.2.1 ?_
            show Steps p.tables e below (T133.setTop (mkF m 149 #[.val (.int p0), .val (.int p1), .val (.ref b1), .val (.int (1 : Int32)), .val (.int (3 : Int32)), .val (.int (p1 &&& (7 : Int32))), .val (.int (own_get (1 : Int32) (14 : Int64) (p1 &&& (7 : Int32)))), .unset, .unset] [])) _
            refine XS.iconst X133.here hx rfl (hb hby at_149) ?_
            show Steps p.tables e below (T133.setTop (mkF m 150 #[.val (.int p0), .val (.int p1), .val (.ref b1), .val (.int (1 : Int32)), .val (.int (3 : Int32)), .val (.int (p1 &&& (7 : Int32))), .val (.int (own_get (1 : Int32) (14 : Int64) (p1 &&& (7 : Int32)))), .unset, .unset] [(.int (1 : Int32))])) _
            refine XS.goto X133.here hx rfl (pc0 := 150) (pc' := 154) rfl (hb hby at_150) (by decide) (by decide) ?_
            show Steps p.tables e below (T133.setTop (mkF m 154 #[.val (.int p0), .val (.int p1), .val (.ref b1), .val (.int (1 : Int32)), .val (.int (3 : Int32)), .val (.int (p1 &&& (7 : Int32))), .val (.int (own_get (1 : Int32) (14 : Int64) (p1 &&& (7 : Int32)))), .unset, .unset] [(.int (1 : Int32))])) _
            refine XS.istore X133.here hx rfl (hb hby at_154) rfl (l' := #[.val (.int p0), .val (.int p1), .val (.ref b1), .val (.int (1 : Int32)), .val (.int (3 : Int32)), .val (.int (p1 &&& (7 : Int32))), .val (.int (own_get (1 : Int32) (14 : Int64) (p1 &&& (7 : Int32)))), .val (.int (1 : Int32)), .unset]) rfl ?_
            exact kt)⟩
    obtain ⟨cq143, kq143, q143a, q143b, q143c⟩ := isOf hZ rfl P0_133
    obtain ⟨_, _, ⟨T143, L143, k143, n143⟩, -, X143, ⟨Lc143, hQ143, l143, y143, z143⟩, st143⟩ := X133.virtualBack hx (y := (⟨"com/example/oblivious/oblivious/broker/PacketIds", "hasFree", "()Z"⟩ : MethodName)) (z := (⟨"com/example/oblivious/oblivious/broker/PacketIds", "hasFree", "()Z"⟩ : MethodName)) hown (mvT hZ (hw _ (List.mem_of_getElem? (i := 33) rfl))) (mvT hZ (hw _ (List.mem_of_getElem? (i := 34) rfl))) (notFace_of_selects (args := #[]) (mvT hZ (hw _ (List.mem_of_getElem? (i := 36) rfl)))) (mvT hZ (hw _ (List.mem_of_getElem? (i := 36) rfl))) (mvT hZ (hw _ (List.mem_of_getElem? (i := 35) rfl))) (by decide) (backOf (W := 0) (rm6 l Z a0 hw [] b1 cF T133.heap n0 zz138 P2_133 hc'.1) hZ (hw _ (List.mem_of_getElem? (i := 37) rfl)) (hw _ (List.mem_of_getElem? (i := 2) rfl)) (by decide) (by decide)) q143a q143c (g := (mkF m 168 #[.val (.int p0), .val (.int p1), .val (.ref b1), .val (.int (1 : Int32)), .val (.int (3 : Int32)), .val (.int (p1 &&& (7 : Int32))), .val (.int (own_get (1 : Int32) (14 : Int64) (p1 &&& (7 : Int32)))), .val (.int ex), .unset] [(.ref b1)])) rfl (by rw [hml]; rfl) (Steps.refl _) (argsL := []) (rest := []) (lenOf pd_4 rfl) rfl (by show 2 * 0 + _ ≤ _; exact Nat.le_of_eq rfl) (hb hby at_168) (fun _ _ => ⟨rfl, rfl, (by decide : 3 + 0 ≤ _), (by decide : 7 + 0 ≤ _)⟩)
    dsimp only [Pt.U, Pt.locs, Pt.cells, Pt.slots] at X143 l143 y143 z143 st143 hQ143
    subst l143 y143 z143
    obtain ⟨rfl, Nq143, e143⟩ := hQ143
    have N144 := Fr.app N139 Nq143
    obtain ⟨cq145, kq145, q145a, q145b, q145c⟩ := isOf hZ e143 P0_133
    obtain ⟨_, _, ⟨T145, L145, k145, n145⟩, -, X145, ⟨Lc145, hQ145, l145, y145, z145⟩, st145⟩ := X143.virtualBack hx (y := (⟨"com/example/oblivious/oblivious/broker/PacketIds", "take", "()I"⟩ : MethodName)) (z := (⟨"com/example/oblivious/oblivious/broker/PacketIds", "take", "()I"⟩ : MethodName)) hown (mvT hZ (hw _ (List.mem_of_getElem? (i := 57) rfl))) (mvT hZ (hw _ (List.mem_of_getElem? (i := 58) rfl))) (notFace_of_selects (args := #[]) (mvT hZ (hw _ (List.mem_of_getElem? (i := 60) rfl)))) (mvT hZ (hw _ (List.mem_of_getElem? (i := 60) rfl))) (mvT hZ (hw _ (List.mem_of_getElem? (i := 59) rfl))) (by decide) (backOf (W := 0) (rm10 l Z a0 hw [] b1 bs t kc cF (3 : Int32) uF wF (4 : Int32) T133.heap n0 zz138 gn_b1 gn_bs gn_t ne1 ne2 ne3 ⟨P0_133, P1_133, P2_133, P3_133, ⟨B0_133, B1_133, B2_133, B3_133⟩⟩ f135 hc'.1 hc'.2.1 hc'.2.2.1 (by decide +kernel) (by decide +kernel) hc'.2.2.2 (by decide +kernel) (by decide +kernel) (by decide +kernel)) hZ (hw _ (List.mem_of_getElem? (i := 61) rfl)) (hw _ (List.mem_of_getElem? (i := 2) rfl)) (by decide) (by decide)) q145a q145c (g := (mkF m 181 #[.val (.int p0), .val (.int p1), .val (.ref b1), .val (.int (1 : Int32)), .val (.int (3 : Int32)), .val (.int (p1 &&& (7 : Int32))), .val (.int (own_get (1 : Int32) (14 : Int64) (p1 &&& (7 : Int32)))), .val (.int ex), .unset] [(.ref b1)])) rfl (by rw [hml]; rfl) (Steps.refl _) (argsL := []) (rest := []) (lenOf pd_6 rfl) rfl (by show 2 * 0 + _ ≤ _; exact Nat.le_of_eq rfl) (hb hby at_181) (fun _ _ => ⟨rfl, e143, (by decide : 3 + 0 ≤ _), (by decide : 7 + 0 ≤ _)⟩)
    dsimp only [Pt.U, Pt.locs, Pt.cells, Pt.slots] at X145 l145 y145 z145 st145 hQ145
    subst l145 y145 z145
    obtain ⟨rfl, Nq145, K145, P0_145, P1_145, P2_145, P3_145, B0_145, B1_145, B2_145, B3_145⟩ := hQ145
    have ns146 : ∀ x ∈ [b1, bs, t], ∃ c : Cell, T133.heap[x]? = some c ∧ c.vm.isStatics = false := (own_allS (own_ns_e P0_133) (own_allS (own_ns_e B0_133) (own_allS (own_ns_v B3_133) own_all0)))
    have f147 := own_sta_keep f135 K145 ns146
    have f148 := P0_133.keep K145
    have f149 := B0_133.keep K145
    have zz150 : n0 ≤ T145.heap.size := Nat.le_trans zz138 K145.1
    have N151 := Fr.app N144 Nq145
    obtain ⟨cq152, kq152, q152a, q152b, q152c⟩ := isOf hZ rfl P0_145
    obtain ⟨_, _, ⟨T152, L152, k152, n152⟩, -, X152, ⟨Lc152, hQ152, l152, y152, z152⟩, st152⟩ := X145.virtualBack hx (y := (⟨"com/example/oblivious/oblivious/broker/PacketIds", "hasFree", "()Z"⟩ : MethodName)) (z := (⟨"com/example/oblivious/oblivious/broker/PacketIds", "hasFree", "()Z"⟩ : MethodName)) hown (mvT hZ (hw _ (List.mem_of_getElem? (i := 33) rfl))) (mvT hZ (hw _ (List.mem_of_getElem? (i := 34) rfl))) (notFace_of_selects (args := #[]) (mvT hZ (hw _ (List.mem_of_getElem? (i := 36) rfl)))) (mvT hZ (hw _ (List.mem_of_getElem? (i := 36) rfl))) (mvT hZ (hw _ (List.mem_of_getElem? (i := 35) rfl))) (by decide) (backOf (W := 0) (rm6 l Z a0 hw [] b1 (cF + (1 : Int32)) T145.heap n0 zz150 P2_145 (own_lt1 hF)) hZ (hw _ (List.mem_of_getElem? (i := 37) rfl)) (hw _ (List.mem_of_getElem? (i := 2) rfl)) (by decide) (by decide)) q152a q152c (g := (mkF m 200 #[.val (.int p0), .val (.int p1), .val (.ref b1), .val (.int (1 : Int32)), .val (.int (3 : Int32)), .val (.int (p1 &&& (7 : Int32))), .val (.int (own_get (1 : Int32) (14 : Int64) (p1 &&& (7 : Int32)))), .val (.int ex), .val (.int (4 : Int32))] [(.ref b1)])) rfl (by rw [hml]; rfl) (Steps.refl _) (argsL := []) (rest := []) (lenOf pd_4 rfl) rfl (by show 2 * 0 + _ ≤ _; exact Nat.le_of_eq rfl) (hb hby at_200) (fun _ _ => ⟨rfl, rfl, (by decide : 3 + 0 ≤ _), (by decide : 7 + 0 ≤ _)⟩)
    dsimp only [Pt.U, Pt.locs, Pt.cells, Pt.slots] at X152 l152 y152 z152 st152 hQ152
    subst l152 y152 z152
    obtain ⟨rfl, Nq152, e152⟩ := hQ152
    have N153 := Fr.app N151 Nq152
    obtain ⟨fs, hr, hrun, hended, hW, hsame⟩ := X152.leave (v := some (.int (1 : Int32))) (fun h => by rw [Bd.returns] at h; cases h)
    refine ⟨_, _, pre141 _ ?_, hrun, hended, _, _, rfl, ?_, ⟨_, rfl⟩, hW, hsame.mono (by decide) (by decide)⟩
    · show Steps p.tables e below (T133.setTop (mkF m 156 #[.val (.int p0), .val (.int p1), .val (.ref b1), .val (.int (1 : Int32)), .val (.int (3 : Int32)), .val (.int (p1 &&& (7 : Int32))), .val (.int (own_get (1 : Int32) (14 : Int64) (p1 &&& (7 : Int32)))), .val (.int ex), .unset] [])) _
      refine XS.iloadN X133.here hx rfl (hb hby at_156) rfl ?_
      show Steps p.tables e below (T133.setTop (mkF m 157 #[.val (.int p0), .val (.int p1), .val (.ref b1), .val (.int (1 : Int32)), .val (.int (3 : Int32)), .val (.int (p1 &&& (7 : Int32))), .val (.int (own_get (1 : Int32) (14 : Int64) (p1 &&& (7 : Int32)))), .val (.int ex), .unset] [(.int (1 : Int32))])) _
      refine XS.ifNo X133.here hx rfl (hb hby at_157) rfl ((if0 _ _).trans (feq (by decide : ¬ ((1 : Int32) = (0 : Int32)))).1) ?_
      show Steps p.tables e below (T133.setTop (mkF m 160 #[.val (.int p0), .val (.int p1), .val (.ref b1), .val (.int (1 : Int32)), .val (.int (3 : Int32)), .val (.int (p1 &&& (7 : Int32))), .val (.int (own_get (1 : Int32) (14 : Int64) (p1 &&& (7 : Int32)))), .val (.int ex), .unset] [])) _
      refine XS.iload X133.here hx rfl (hb hby at_160) rfl ?_
      show Steps p.tables e below (T133.setTop (mkF m 162 #[.val (.int p0), .val (.int p1), .val (.ref b1), .val (.int (1 : Int32)), .val (.int (3 : Int32)), .val (.int (p1 &&& (7 : Int32))), .val (.int (own_get (1 : Int32) (14 : Int64) (p1 &&& (7 : Int32)))), .val (.int ex), .unset] [(.int (own_get (1 : Int32) (14 : Int64) (p1 &&& (7 : Int32))))])) _
      refine XS.iload X133.here hx rfl (hb hby at_162) rfl ?_
      show Steps p.tables e below (T133.setTop (mkF m 164 #[.val (.int p0), .val (.int p1), .val (.ref b1), .val (.int (1 : Int32)), .val (.int (3 : Int32)), .val (.int (p1 &&& (7 : Int32))), .val (.int (own_get (1 : Int32) (14 : Int64) (p1 &&& (7 : Int32)))), .val (.int ex), .unset] [(.int ex), (.int (own_get (1 : Int32) (14 : Int64) (p1 &&& (7 : Int32))))])) _
      refine XS.icmpNo X133.here hx rfl (hb hby at_164) rfl (teq hm142).2 ?_
      show Steps p.tables e below (T133.setTop (mkF m 167 #[.val (.int p0), .val (.int p1), .val (.ref b1), .val (.int (1 : Int32)), .val (.int (3 : Int32)), .val (.int (p1 &&& (7 : Int32))), .val (.int (own_get (1 : Int32) (14 : Int64) (p1 &&& (7 : Int32)))), .val (.int ex), .unset] [])) _
      refine XS.aloadN X133.here hx rfl (hb hby at_167) rfl rfl ?_
      show Steps p.tables e below (T133.setTop (mkF m 168 #[.val (.int p0), .val (.int p1), .val (.ref b1), .val (.int (1 : Int32)), .val (.int (3 : Int32)), .val (.int (p1 &&& (7 : Int32))), .val (.int (own_get (1 : Int32) (14 : Int64) (p1 &&& (7 : Int32)))), .val (.int ex), .unset] [(.ref b1)])) _
      refine st143.trans ?_
      show Steps p.tables e below (T143.setTop (mkF m 171 #[.val (.int p0), .val (.int p1), .val (.ref b1), .val (.int (1 : Int32)), .val (.int (3 : Int32)), .val (.int (p1 &&& (7 : Int32))), .val (.int (own_get (1 : Int32) (14 : Int64) (p1 &&& (7 : Int32)))), .val (.int ex), .unset] [(.int (1 : Int32))])) _
      refine XS.ifNo X143.here hx rfl (hb hby at_171) rfl ((if0 _ _).trans (feq (by decide : ¬ ((1 : Int32) = (0 : Int32)))).1) ?_
      show Steps p.tables e below (T143.setTop (mkF m 174 #[.val (.int p0), .val (.int p1), .val (.ref b1), .val (.int (1 : Int32)), .val (.int (3 : Int32)), .val (.int (p1 &&& (7 : Int32))), .val (.int (own_get (1 : Int32) (14 : Int64) (p1 &&& (7 : Int32)))), .val (.int ex), .unset] [])) _
      refine XS.iconst X143.here hx rfl (hb hby at_174) ?_
      show Steps p.tables e below (T143.setTop (mkF m 175 #[.val (.int p0), .val (.int p1), .val (.ref b1), .val (.int (1 : Int32)), .val (.int (3 : Int32)), .val (.int (p1 &&& (7 : Int32))), .val (.int (own_get (1 : Int32) (14 : Int64) (p1 &&& (7 : Int32)))), .val (.int ex), .unset] [(.int (1 : Int32))])) _
      refine XS.goto X143.here hx rfl (pc0 := 175) (pc' := 179) rfl (hb hby at_175) (by decide) (by decide) ?_
      show Steps p.tables e below (T143.setTop (mkF m 179 #[.val (.int p0), .val (.int p1), .val (.ref b1), .val (.int (1 : Int32)), .val (.int (3 : Int32)), .val (.int (p1 &&& (7 : Int32))), .val (.int (own_get (1 : Int32) (14 : Int64) (p1 &&& (7 : Int32)))), .val (.int ex), .unset] [(.int (1 : Int32))])) _
      refine XS.istoreN X143.here hx rfl (hb hby at_179) rfl (l' := #[.val (.int p0), .val (.int p1), .val (.ref b1), .val (.int (1 : Int32)), .val (.int (3 : Int32)), .val (.int (p1 &&& (7 : Int32))), .val (.int (own_get (1 : Int32) (14 : Int64) (p1 &&& (7 : Int32)))), .val (.int ex), .unset]) rfl ?_
      show Steps p.tables e below (T143.setTop (mkF m 180 #[.val (.int p0), .val (.int p1), .val (.ref b1), .val (.int (1 : Int32)), .val (.int (3 : Int32)), .val (.int (p1 &&& (7 : Int32))), .val (.int (own_get (1 : Int32) (14 : Int64) (p1 &&& (7 : Int32)))), .val (.int ex), .unset] [])) _
      refine XS.aloadN X143.here hx rfl (hb hby at_180) rfl rfl ?_
      show Steps p.tables e below (T143.setTop (mkF m 181 #[.val (.int p0), .val (.int p1), .val (.ref b1), .val (.int (1 : Int32)), .val (.int (3 : Int32)), .val (.int (p1 &&& (7 : Int32))), .val (.int (own_get (1 : Int32) (14 : Int64) (p1 &&& (7 : Int32)))), .val (.int ex), .unset] [(.ref b1)])) _
      refine st145.trans ?_
      show Steps p.tables e below (T145.setTop (mkF m 184 #[.val (.int p0), .val (.int p1), .val (.ref b1), .val (.int (1 : Int32)), .val (.int (3 : Int32)), .val (.int (p1 &&& (7 : Int32))), .val (.int (own_get (1 : Int32) (14 : Int64) (p1 &&& (7 : Int32)))), .val (.int ex), .unset] [(.int (4 : Int32))])) _
      refine XS.istore X145.here hx rfl (hb hby at_184) rfl (l' := #[.val (.int p0), .val (.int p1), .val (.ref b1), .val (.int (1 : Int32)), .val (.int (3 : Int32)), .val (.int (p1 &&& (7 : Int32))), .val (.int (own_get (1 : Int32) (14 : Int64) (p1 &&& (7 : Int32)))), .val (.int ex), .val (.int (4 : Int32))]) rfl ?_
      show Steps p.tables e below (T145.setTop (mkF m 186 #[.val (.int p0), .val (.int p1), .val (.ref b1), .val (.int (1 : Int32)), .val (.int (3 : Int32)), .val (.int (p1 &&& (7 : Int32))), .val (.int (own_get (1 : Int32) (14 : Int64) (p1 &&& (7 : Int32)))), .val (.int ex), .val (.int (4 : Int32))] [])) _
      refine XS.iloadN X145.here hx rfl (hb hby at_186) rfl ?_
      show Steps p.tables e below (T145.setTop (mkF m 187 #[.val (.int p0), .val (.int p1), .val (.ref b1), .val (.int (1 : Int32)), .val (.int (3 : Int32)), .val (.int (p1 &&& (7 : Int32))), .val (.int (own_get (1 : Int32) (14 : Int64) (p1 &&& (7 : Int32)))), .val (.int ex), .val (.int (4 : Int32))] [(.int (1 : Int32))])) _
      refine XS.ifNo X145.here hx rfl (hb hby at_187) rfl ((if0 _ _).trans (feq (by decide : ¬ ((1 : Int32) = (0 : Int32)))).1) ?_
      show Steps p.tables e below (T145.setTop (mkF m 190 #[.val (.int p0), .val (.int p1), .val (.ref b1), .val (.int (1 : Int32)), .val (.int (3 : Int32)), .val (.int (p1 &&& (7 : Int32))), .val (.int (own_get (1 : Int32) (14 : Int64) (p1 &&& (7 : Int32)))), .val (.int ex), .val (.int (4 : Int32))] [])) _
      refine XS.iload X145.here hx rfl (hb hby at_190) rfl ?_
      show Steps p.tables e below (T145.setTop (mkF m 192 #[.val (.int p0), .val (.int p1), .val (.ref b1), .val (.int (1 : Int32)), .val (.int (3 : Int32)), .val (.int (p1 &&& (7 : Int32))), .val (.int (own_get (1 : Int32) (14 : Int64) (p1 &&& (7 : Int32)))), .val (.int ex), .val (.int (4 : Int32))] [(.int (4 : Int32))])) _
      refine XS.iload X145.here hx rfl (hb hby at_192) rfl ?_
      show Steps p.tables e below (T145.setTop (mkF m 194 #[.val (.int p0), .val (.int p1), .val (.ref b1), .val (.int (1 : Int32)), .val (.int (3 : Int32)), .val (.int (p1 &&& (7 : Int32))), .val (.int (own_get (1 : Int32) (14 : Int64) (p1 &&& (7 : Int32)))), .val (.int ex), .val (.int (4 : Int32))] [(.int (3 : Int32)), (.int (4 : Int32))])) _
      refine XS.iconst X145.here hx rfl (hb hby at_194) ?_
      show Steps p.tables e below (T145.setTop (mkF m 195 #[.val (.int p0), .val (.int p1), .val (.ref b1), .val (.int (1 : Int32)), .val (.int (3 : Int32)), .val (.int (p1 &&& (7 : Int32))), .val (.int (own_get (1 : Int32) (14 : Int64) (p1 &&& (7 : Int32)))), .val (.int ex), .val (.int (4 : Int32))] [(.int (1 : Int32)), (.int (3 : Int32)), (.int (4 : Int32))])) _
      refine XS.iadd X145.here hx rfl (hb hby at_195) rfl ?_
      show Steps p.tables e below (T145.setTop (mkF m 196 #[.val (.int p0), .val (.int p1), .val (.ref b1), .val (.int (1 : Int32)), .val (.int (3 : Int32)), .val (.int (p1 &&& (7 : Int32))), .val (.int (own_get (1 : Int32) (14 : Int64) (p1 &&& (7 : Int32)))), .val (.int ex), .val (.int (4 : Int32))] [(.int ((3 : Int32) + (1 : Int32))), (.int (4 : Int32))])) _
      refine XS.icmpNo X145.here hx rfl (hb hby at_196) rfl (teq (by decide +kernel)).2 ?_
      show Steps p.tables e below (T145.setTop (mkF m 199 #[.val (.int p0), .val (.int p1), .val (.ref b1), .val (.int (1 : Int32)), .val (.int (3 : Int32)), .val (.int (p1 &&& (7 : Int32))), .val (.int (own_get (1 : Int32) (14 : Int64) (p1 &&& (7 : Int32)))), .val (.int ex), .val (.int (4 : Int32))] [])) _
      refine XS.aloadN X145.here hx rfl (hb hby at_199) rfl rfl ?_
      show Steps p.tables e below (T145.setTop (mkF m 200 #[.val (.int p0), .val (.int p1), .val (.ref b1), .val (.int (1 : Int32)), .val (.int (3 : Int32)), .val (.int (p1 &&& (7 : Int32))), .val (.int (own_get (1 : Int32) (14 : Int64) (p1 &&& (7 : Int32)))), .val (.int ex), .val (.int (4 : Int32))] [(.ref b1)])) _
      refine st152.trans ?_
      show Steps p.tables e below (T152.setTop (mkF m 203 #[.val (.int p0), .val (.int p1), .val (.ref b1), .val (.int (1 : Int32)), .val (.int (3 : Int32)), .val (.int (p1 &&& (7 : Int32))), .val (.int (own_get (1 : Int32) (14 : Int64) (p1 &&& (7 : Int32)))), .val (.int ex), .val (.int (4 : Int32))] [(.int (1 : Int32))])) _
      refine XS.ifNo X152.here hx rfl (hb hby at_203) rfl ((if0 _ _).trans (feq (by decide : ¬ ((1 : Int32) = (0 : Int32)))).1) ?_
      show Steps p.tables e below (T152.setTop (mkF m 206 #[.val (.int p0), .val (.int p1), .val (.ref b1), .val (.int (1 : Int32)), .val (.int (3 : Int32)), .val (.int (p1 &&& (7 : Int32))), .val (.int (own_get (1 : Int32) (14 : Int64) (p1 &&& (7 : Int32)))), .val (.int ex), .val (.int (4 : Int32))] [])) _
      refine XS.iconst X152.here hx rfl (hb hby at_206) ?_
      show Steps p.tables e below (T152.setTop (mkF m 207 #[.val (.int p0), .val (.int p1), .val (.ref b1), .val (.int (1 : Int32)), .val (.int (3 : Int32)), .val (.int (p1 &&& (7 : Int32))), .val (.int (own_get (1 : Int32) (14 : Int64) (p1 &&& (7 : Int32)))), .val (.int ex), .val (.int (4 : Int32))] [(.int (1 : Int32))])) _
      refine XS.goto X152.here hx rfl (pc0 := 207) (pc' := 211) rfl (hb hby at_207) (by decide) (by decide) ?_
      show Steps p.tables e below (T152.setTop (mkF m 211 #[.val (.int p0), .val (.int p1), .val (.ref b1), .val (.int (1 : Int32)), .val (.int (3 : Int32)), .val (.int (p1 &&& (7 : Int32))), .val (.int (own_get (1 : Int32) (14 : Int64) (p1 &&& (7 : Int32)))), .val (.int ex), .val (.int (4 : Int32))] [(.int (1 : Int32))])) _
      refine XS.istoreN X152.here hx rfl (hb hby at_211) rfl (l' := #[.val (.int p0), .val (.int p1), .val (.ref b1), .val (.int (1 : Int32)), .val (.int (3 : Int32)), .val (.int (p1 &&& (7 : Int32))), .val (.int (own_get (1 : Int32) (14 : Int64) (p1 &&& (7 : Int32)))), .val (.int ex), .val (.int (4 : Int32))]) rfl ?_
      show Steps p.tables e below (T152.setTop (mkF m 212 #[.val (.int p0), .val (.int p1), .val (.ref b1), .val (.int (1 : Int32)), .val (.int (3 : Int32)), .val (.int (p1 &&& (7 : Int32))), .val (.int (own_get (1 : Int32) (14 : Int64) (p1 &&& (7 : Int32)))), .val (.int ex), .val (.int (4 : Int32))] [])) _
      refine XS.iloadN X152.here hx rfl (hb hby at_212) rfl ?_
      show Steps p.tables e below (T152.setTop (mkF m 213 #[.val (.int p0), .val (.int p1), .val (.ref b1), .val (.int (1 : Int32)), .val (.int (3 : Int32)), .val (.int (p1 &&& (7 : Int32))), .val (.int (own_get (1 : Int32) (14 : Int64) (p1 &&& (7 : Int32)))), .val (.int ex), .val (.int (4 : Int32))] [(.int (1 : Int32))])) _
      exact retN X152 hx (t := .boolean) Bd.returns (by simp) (hb hby at_213) hr
    · show Q0 Z p0 p1 h0 n0 _ T152.heap _
      rw [e152]
      exact ⟨rfl, N153⟩
set_option maxHeartbeats 40000000 in
theorem comes_1 {Post : Tables → Env → Array Value → State → Outcome → State → Prop} (hpost : ∀ tb e args s v u, (limb_1_1.after args s (.returned v) u = true ∧ limb_1_2.after args s (.returned v) u = true ∧ True) → FrameEnd s (.returned v) u (Jvm.fieldLocs frame_1_writes args s ++ Jvm.arrayLocs frame_1_arrays args s ++ Jvm.staticLocs frame_1_statics s) 16 128 → Post tb e args s (.returned v) u) :
    ArmFor flags0 classFile x code maxLocals ret World_1 tables_1 room_1 Calls_1 rest_1 Pre_1 Post := by
  intro l hfl _ _ p e ha hc hk s m args below hf hA hF happ hP
  obtain ⟨hcalls, hrest, hpre⟩ := hP
  obtain ⟨-, -, -, hnamed, -, -, -, hat⟩ := (Spec.applies_iff hf).mp happ
  obtain ⟨hg, hn⟩ := and_e (Cond.before_iff.mp (show (Jvm.Cond.and given_1 narrow_1).before args s = true from hpre))
  obtain ⟨g1, g2⟩ := and_e hg
  obtain ⟨g3, g4⟩ := and_e g2
  obtain ⟨w0, w1, rfl⟩ : ∃ w0 w1 : Value, args = #[w0, w1] := by
    have hs : args.size = 2 := by simpa [Cond.value, given_1] using g1
    obtain ⟨L⟩ := args
    match L, hs with
    | [w0, w1], _ => exact ⟨w0, w1, rfl⟩
  have hw := fun d (hd : d ∈ tables_1) => atoms_spec (ws := Jvm.Cond.code x code maxLocals ret :: tables_1) hat d (List.mem_cons_of_mem _ hd)
  have hfit : Fit s := fun {y c} hc i hi => by
    obtain ⟨ha, rfl⟩ := Array.getElem?_eq_some_iff.mp hc
    have q := List.all_eq_true.mp ((Array.all_eq_true_iff_forall_mem.mp hF) _ (Array.getElem_mem ha)) i (List.mem_range.mpr hi)
    simpa [Array.getElem?_eq_getElem hi] using q
  obtain ⟨hsets, hown0⟩ := atoms_of _ (rest_1_c_eq ▸ (show rest_1_c.before _ s = true from hrest))
  have hr0 := Cond.before_iff.mp hown0
  obtain ⟨i0, ei0⟩ := is_v g3
  obtain rfl : w0 = (.int i0) := Option.some.inj ei0
  obtain ⟨i1, ei1⟩ := is_v g4
  obtain rfl : w1 = (.int i1) := Option.some.inj ei1
  have St := Sta.start (own_eqint (Cond.before_iff.mp (hsets _ (List.mem_of_getElem? (i := 2) rfl)))) (Or.inl (hsets _ (List.mem_of_getElem? (i := 1) rfl)))
  obtain ⟨n, o, h1, h2, h3, _, L, rfl, ⟨rfl, N⟩, hq⟩ := rm0 l s _ hw tables_1 i0 i1  s.heap s.heap.size (Nat.le_refl _) St p e ha hc hk s m _ below hf ((Spec.applies_iff_loose hf).mp happ).1 ⟨rfl, State.Warmed39.refl s, rfl⟩ trivial
  refine ⟨n, _, h1, h2, h3, hpost _ _ _ _ _ _ ⟨Cond.after_iff.mpr rfl, Cond.after_iff.mpr (eq_i res_at (Term.int_eval (1)) rfl), trivial⟩ ⟨hq.1, hq.2.1, (hq.2.2.sift fun y hy => Or.inr (N y hy)).mono (by decide) (by decide)⟩⟩
theorem main_1_1 : Claimed_1_1 := comes_1 fun _ _ _ _ _ _ h hF => ⟨h.1, hF⟩
theorem main_1_2 : Claimed_1_2 := comes_1 fun _ _ _ _ _ _ h hF => ⟨h.2.1, hF⟩
end Jvm.Pilot.@@N@@
namespace Jvm.Pilot.@@N@@
open Jvm Jvm.ClassFile Sem Op Lib Jvm.Free Jvm.Stand Jvm.Pilot.@@N@@.Jvm.D
/-! MADE BY PROGRAM (witnessworld.py) out of the Statement's table words and the real class files: 16 classes; the members and pool entries that the words name. The judged class is class 1, her method 1. -/
namespace start1
open Jvm.ClassFile
def u (s : String) : CpInfo := .utf8 (stringToUtf16 s)
/-- a pool by its gaps: so many unusable entries, then the entry; so many at the end -/
def gap : Nat → List CpInfo → List CpInfo
  | 0, r => r
  | n + 1, r => .unusable :: gap n r
def poolList (es : List (Nat × CpInfo)) (last : Nat) : List CpInfo := es.foldr (fun e r => gap e.1 (e.2 :: r)) (gap last [])
def pool (es : List (Nat × CpInfo)) (last : Nat) : Array CpInfo := ⟨poolList es last⟩
def fileOf (pool : Array CpInfo) (this : Nat) (attrs : Array Attribute := #[]) (ms : Array MethodInfo := #[]) (fl : Nat := 33) (sup : Nat := 0) (ifs : Array Nat := #[]) (fds : Array FieldInfo := #[]) : ClassFile where
  minorVersion := 0
  majorVersion := 65
  constantPool := pool
  accessFlags := fl
  thisClass := this
  superClass := sup
  interfaces := ifs
  fields := fds
  methods := ms
  attributes := attrs
def plain (name : String) (sup : Option ClassId) : Class where
  name := name
  kind := .ordinary
  loader := none
  accessFlags := 33
  super := sup
  interfaces := #[]
  cf := none
  fields := #[]
  methods := #[]
  instanceTypes := #[]
  staticTypes := #[]
  resolved := #[]
  callSites := []
  init := .initialized
  statics := none
  mirror := none

def pool0 : Array CpInfo := pool [(5, u "<init>"), (0, u "()V"), (1, .class_ 10), (1, u "java/lang/Object")] 113

def k0c0 : Code := { maxStack := 0, maxLocals := 1, code := object_method_1_code, exceptionTable := #[], attributes := #[] }
def k0m0 : Method := { name := "<init>", desc := "()V", sig := { parameters := [], returnType := none }, accessFlags := 1, code := some k0c0 }
/-- java/lang/Object -/
def k0 : Class := { plain "java/lang/Object" none with
  accessFlags := 33
  interfaces := #[]
  cf := some (fileOf pool0 8 #[] #[{ accessFlags := 1, nameIndex := 5, descriptorIndex := 6, attributes := #[] }] 33 0 #[] #[])
  fields := #[]
  methods := #[k0m0]
  instanceTypes := #[]
  staticTypes := #[]
  resolved := Array.replicate 124 none
  statics := none }

def pool1 : Array CpInfo := pool [(2, .class_ 4), (0, .nameAndType 5 6), (0, u "java/lang/Object"), (0, u "<init>"), (0, u "()V"), (0, .class_ 8), (0, u "com/example/oblivious/oblivious/broker/PacketIds"), (0, .methodref 7 3), (0, .methodref 7 11), (0, .nameAndType 12 13), (0, u "hasFree"), (0, u "()Z"), (0, .methodref 7 15), (0, .nameAndType 16 17), (0, u "take"), (0, u "()I"), (0, .methodref 7 19), (0, .nameAndType 20 21), (0, u "free"), (0, u "(I)Z"), (0, .class_ 23), (0, u "com/example/oblivious/oblivious/broker/PacketIdsHasFreePinLaw"), (2, u "law"), (0, u "(II)Z")] 3

def k1m0 : Method := { name := "<init>", desc := "()V", sig := { parameters := [], returnType := none }, accessFlags := 1, code := none }
def k1c1 : Code := { maxStack := 3, maxLocals := 9, code := code, exceptionTable := #[], attributes := #[] }
def k1m1 : Method := { name := "law", desc := "(II)Z", sig := { parameters := [.int, .int], returnType := some .boolean }, accessFlags := 9, code := some k1c1 }
/-- com/example/oblivious/oblivious/broker/PacketIdsHasFreePinLaw -/
def k1 : Class := { plain "com/example/oblivious/oblivious/broker/PacketIdsHasFreePinLaw" (some 0) with
  accessFlags := 49
  interfaces := #[]
  cf := some (fileOf pool1 22 #[] #[{ accessFlags := 1, nameIndex := 5, descriptorIndex := 6, attributes := #[] }, { accessFlags := 9, nameIndex := 26, descriptorIndex := 27, attributes := #[] }] 49 2 #[] #[])
  fields := #[]
  methods := #[k1m0, k1m1]
  instanceTypes := #[]
  staticTypes := #[]
  resolved := Array.replicate 31 none
  statics := none }

def pool2 : Array CpInfo := pool [(1, .methodref 2 3), (0, .class_ 4), (0, .nameAndType 5 6), (0, u "java/lang/Object"), (0, u "<init>"), (0, u "()V"), (0, .class_ 8), (0, u "java/util/BitSet"), (0, .methodref 7 3), (0, .fieldref 11 12), (0, .class_ 13), (0, .nameAndType 14 15), (0, u "com/example/oblivious/oblivious/broker/PacketIds"), (0, u "inUse"), (0, u "Ljava/util/BitSet;"), (0, .fieldref 11 17), (0, .nameAndType 18 19), (0, u "count"), (0, u "I"), (0, .integer 65535), (0, .methodref 11 22), (0, .nameAndType 23 24), (0, u "hasFree"), (0, u "()Z"), (0, .fieldref 11 26), (0, .nameAndType 27 19), (0, u "last"), (0, .methodref 7 29), (0, .nameAndType 30 31), (0, u "nextClearBit"), (0, u "(I)I"), (0, .methodref 7 33), (0, .nameAndType 34 35), (0, u "set"), (0, u "(I)V"), (0, .methodref 7 37), (0, .nameAndType 38 39), (0, u "get"), (0, u "(I)Z"), (0, .methodref 7 41), (0, .nameAndType 42 35), (0, u "clear"), (0, u "MAX"), (4, u "take"), (0, u "()I"), (0, u "free")] 2

def k2c0 : Code := { maxStack := 3, maxLocals := 1, code := prog_5_method_1_code, exceptionTable := #[], attributes := #[] }
def k2m0 : Method := { name := "<init>", desc := "()V", sig := { parameters := [], returnType := none }, accessFlags := 0, code := some k2c0 }
def k2c1 : Code := { maxStack := 2, maxLocals := 1, code := prog_5_method_2_code, exceptionTable := #[], attributes := #[] }
def k2m1 : Method := { name := "hasFree", desc := "()Z", sig := { parameters := [], returnType := some .boolean }, accessFlags := 0, code := some k2c1 }
def k2c2 : Code := { maxStack := 3, maxLocals := 2, code := prog_5_method_3_code, exceptionTable := #[], attributes := #[] }
def k2m2 : Method := { name := "take", desc := "()I", sig := { parameters := [], returnType := some .int }, accessFlags := 0, code := some k2c2 }
def k2c3 : Code := { maxStack := 3, maxLocals := 3, code := prog_5_method_4_code, exceptionTable := #[], attributes := #[] }
def k2m3 : Method := { name := "free", desc := "(I)Z", sig := { parameters := [.int], returnType := some .boolean }, accessFlags := 0, code := some k2c3 }
/-- com/example/oblivious/oblivious/broker/PacketIds -/
def k2 : Class := { plain "com/example/oblivious/oblivious/broker/PacketIds" (some 0) with
  accessFlags := 32
  interfaces := #[]
  cf := some (fileOf pool2 11 #[] #[{ accessFlags := 0, nameIndex := 5, descriptorIndex := 6, attributes := #[] }, { accessFlags := 0, nameIndex := 23, descriptorIndex := 24, attributes := #[] }, { accessFlags := 0, nameIndex := 48, descriptorIndex := 49, attributes := #[] }, { accessFlags := 0, nameIndex := 50, descriptorIndex := 39, attributes := #[] }] 32 2 #[] #[{ accessFlags := 26, nameIndex := 43, descriptorIndex := 19, attributes := #[] }, { accessFlags := 18, nameIndex := 14, descriptorIndex := 15, attributes := #[] }, { accessFlags := 2, nameIndex := 18, descriptorIndex := 19, attributes := #[] }, { accessFlags := 2, nameIndex := 27, descriptorIndex := 19, attributes := #[] }])
  fields := #[{ name := "MAX", type := .int, accessFlags := 26, slot := 0, constantValue := 0 }, { name := "inUse", type := (.object "java/util/BitSet"), accessFlags := 18, slot := 0, constantValue := 0 }, { name := "count", type := .int, accessFlags := 2, slot := 1, constantValue := 0 }, { name := "last", type := .int, accessFlags := 2, slot := 2, constantValue := 0 }]
  methods := #[k2m0, k2m1, k2m2, k2m3]
  instanceTypes := #[(.object "java/util/BitSet"), .int, .int]
  staticTypes := #[.int]
  resolved := Array.replicate 53 none
  statics := none }

def pool3 : Array CpInfo := pool [(1, .class_ 2), (0, u "java/lang/Cloneable"), (0, .class_ 4), (0, u "java/lang/Object")] 2

/-- java/lang/Cloneable -/
def k3 : Class := { plain "java/lang/Cloneable" (some 0) with
  accessFlags := 1537
  interfaces := #[]
  cf := some (fileOf pool3 1 #[] #[] 1537 3 #[] #[])
  fields := #[]
  methods := #[]
  instanceTypes := #[]
  staticTypes := #[]
  resolved := Array.replicate 7 none
  statics := none }

def pool4 : Array CpInfo := pool [(1, .class_ 2), (0, u "java/io/Serializable"), (0, .class_ 4), (0, u "java/lang/Object")] 2

/-- java/io/Serializable -/
def k4 : Class := { plain "java/io/Serializable" (some 0) with
  accessFlags := 1537
  interfaces := #[]
  cf := some (fileOf pool4 1 #[] #[] 1537 3 #[] #[])
  fields := #[]
  methods := #[]
  instanceTypes := #[]
  staticTypes := #[]
  resolved := Array.replicate 7 none
  statics := none }

def pool5 : Array CpInfo := pool [(1, .class_ 2), (0, u "java/util/BitSet"), (0, .fieldref 1 4), (0, .nameAndType 5 6), (0, u "$assertionsDisabled"), (0, u "Z"), (0, .fieldref 1 8), (0, .nameAndType 9 10), (0, u "wordsInUse"), (0, u "I"), (0, .fieldref 1 12), (0, .nameAndType 13 14), (0, u "words"), (0, u "[J"), (3, .nameAndType 19 20), (0, u "<init>"), (0, u "()V"), (0, .methodref 22 18), (0, .class_ 23), (0, u "java/lang/Object"), (0, .fieldref 1 25), (0, .nameAndType 26 6), (0, u "sizeIsSticky"), (0, .methodref 1 28), (0, .nameAndType 29 30), (0, u "initWords"), (0, u "(I)V"), (21, .methodref 1 53), (0, .nameAndType 54 55), (0, u "wordIndex"), (0, u "(I)I"), (0, .methodref 1 57), (0, .nameAndType 58 20), (0, u "checkInvariants"), (21, u "get"), (58, .methodref 1 140), (0, .nameAndType 141 30), (0, u "ensureCapacity"), (13, .methodref 1 156), (0, .nameAndType 157 30), (0, u "expandTo"), (0, .methodref 1 159), (0, .nameAndType 160 20), (0, u "recalculateWordsInUse"), (4, .long 18446744073709551615), (3, u "set"), (2, u "clear"), (9, .methodref 183 184), (0, .class_ 185), (0, .nameAndType 186 187), (0, u "java/lang/Long"), (0, u "numberOfTrailingZeros"), (0, u "(J)I"), (78, u "nextClearBit"), (2, .class_ 270), (0, u "java/util/BitSet$1BitSetSpliterator"), (22, u "serialPersistentFields"), (0, u "[Ljava/io/ObjectStreamField;"), (0, .class_ 296), (0, u "java/lang/Cloneable"), (0, .class_ 298), (0, u "java/io/Serializable"), (0, u "ADDRESS_BITS_PER_WORD"), (2, u "BITS_PER_WORD"), (1, u "BIT_INDEX_MASK"), (1, u "WORD_MASK"), (0, u "J"), (0, u "serialVersionUID"), (42, u "(I)Z")] 65

def k5c0 : Code := { maxStack := 2, maxLocals := 1, code := jdk_92_method_1_code, exceptionTable := #[], attributes := #[] }
def k5m0 : Method := { name := "wordIndex", desc := "(I)I", sig := { parameters := [.int], returnType := some .int }, accessFlags := 10, code := some k5c0 }
def k5c1 : Code := { maxStack := 4, maxLocals := 1, code := jdk_92_method_2_code, exceptionTable := #[], attributes := #[] }
def k5m1 : Method := { name := "checkInvariants", desc := "()V", sig := { parameters := [], returnType := none }, accessFlags := 2, code := some k5c1 }
def k5c2 : Code := { maxStack := 4, maxLocals := 2, code := jdk_92_method_3_code, exceptionTable := #[], attributes := #[] }
def k5m2 : Method := { name := "recalculateWordsInUse", desc := "()V", sig := { parameters := [], returnType := none }, accessFlags := 2, code := some k5c2 }
def k5c3 : Code := { maxStack := 2, maxLocals := 1, code := jdk_92_method_4_code, exceptionTable := #[], attributes := #[] }
def k5m3 : Method := { name := "<init>", desc := "()V", sig := { parameters := [], returnType := none }, accessFlags := 1, code := some k5c3 }
def k5c4 : Code := { maxStack := 3, maxLocals := 2, code := jdk_92_method_6_code, exceptionTable := #[], attributes := #[] }
def k5m4 : Method := { name := "initWords", desc := "(I)V", sig := { parameters := [.int], returnType := none }, accessFlags := 2, code := some k5c4 }
def k5c5 : Code := { maxStack := 3, maxLocals := 3, code := jdk_92_method_14_code, exceptionTable := #[], attributes := #[] }
def k5m5 : Method := { name := "ensureCapacity", desc := "(I)V", sig := { parameters := [.int], returnType := none }, accessFlags := 2, code := some k5c5 }
def k5c6 : Code := { maxStack := 2, maxLocals := 3, code := jdk_92_method_15_code, exceptionTable := #[], attributes := #[] }
def k5m6 : Method := { name := "expandTo", desc := "(I)V", sig := { parameters := [.int], returnType := none }, accessFlags := 2, code := some k5c6 }
def k5c7 : Code := { maxStack := 7, maxLocals := 3, code := jdk_92_method_19_code, exceptionTable := #[], attributes := #[] }
def k5m7 : Method := { name := "set", desc := "(I)V", sig := { parameters := [.int], returnType := none }, accessFlags := 1, code := some k5c7 }
def k5c8 : Code := { maxStack := 8, maxLocals := 3, code := jdk_92_method_23_code, exceptionTable := #[], attributes := #[] }
def k5m8 : Method := { name := "clear", desc := "(I)V", sig := { parameters := [.int], returnType := none }, accessFlags := 1, code := some k5c8 }
def k5c9 : Code := { maxStack := 5, maxLocals := 3, code := jdk_92_method_26_code, exceptionTable := #[], attributes := #[] }
def k5m9 : Method := { name := "get", desc := "(I)Z", sig := { parameters := [.int], returnType := some .boolean }, accessFlags := 1, code := some k5c9 }
def k5c10 : Code := { maxStack := 5, maxLocals := 5, code := jdk_92_method_29_code, exceptionTable := #[], attributes := #[] }
def k5m10 : Method := { name := "nextClearBit", desc := "(I)I", sig := { parameters := [.int], returnType := some .int }, accessFlags := 1, code := some k5c10 }
/-- java/util/BitSet -/
def k5 : Class := { plain "java/util/BitSet" (some 0) with
  accessFlags := 33
  interfaces := #[3, 4]
  cf := some (fileOf pool5 1 #[.nestMembers #[269]] #[{ accessFlags := 10, nameIndex := 54, descriptorIndex := 55, attributes := #[] }, { accessFlags := 2, nameIndex := 58, descriptorIndex := 20, attributes := #[] }, { accessFlags := 2, nameIndex := 160, descriptorIndex := 20, attributes := #[] }, { accessFlags := 1, nameIndex := 19, descriptorIndex := 20, attributes := #[] }, { accessFlags := 2, nameIndex := 29, descriptorIndex := 30, attributes := #[] }, { accessFlags := 2, nameIndex := 141, descriptorIndex := 30, attributes := #[] }, { accessFlags := 2, nameIndex := 157, descriptorIndex := 30, attributes := #[] }, { accessFlags := 1, nameIndex := 169, descriptorIndex := 30, attributes := #[] }, { accessFlags := 1, nameIndex := 172, descriptorIndex := 30, attributes := #[] }, { accessFlags := 1, nameIndex := 80, descriptorIndex := 351, attributes := #[] }, { accessFlags := 1, nameIndex := 266, descriptorIndex := 55, attributes := #[] }] 33 22 #[295, 297] #[{ accessFlags := 26, nameIndex := 299, descriptorIndex := 10, attributes := #[] }, { accessFlags := 26, nameIndex := 302, descriptorIndex := 10, attributes := #[] }, { accessFlags := 26, nameIndex := 304, descriptorIndex := 10, attributes := #[] }, { accessFlags := 26, nameIndex := 306, descriptorIndex := 307, attributes := #[] }, { accessFlags := 26, nameIndex := 293, descriptorIndex := 294, attributes := #[] }, { accessFlags := 2, nameIndex := 13, descriptorIndex := 14, attributes := #[] }, { accessFlags := 130, nameIndex := 9, descriptorIndex := 10, attributes := #[] }, { accessFlags := 130, nameIndex := 26, descriptorIndex := 6, attributes := #[] }, { accessFlags := 26, nameIndex := 308, descriptorIndex := 307, attributes := #[] }, { accessFlags := 4120, nameIndex := 5, descriptorIndex := 6, attributes := #[] }])
  fields := #[{ name := "ADDRESS_BITS_PER_WORD", type := .int, accessFlags := 26, slot := 0, constantValue := 0 }, { name := "BITS_PER_WORD", type := .int, accessFlags := 26, slot := 1, constantValue := 0 }, { name := "BIT_INDEX_MASK", type := .int, accessFlags := 26, slot := 2, constantValue := 0 }, { name := "WORD_MASK", type := .long, accessFlags := 26, slot := 3, constantValue := 0 }, { name := "serialPersistentFields", type := (.array (.object "java/io/ObjectStreamField")), accessFlags := 26, slot := 4, constantValue := 0 }, { name := "words", type := (.array .long), accessFlags := 2, slot := 0, constantValue := 0 }, { name := "wordsInUse", type := .int, accessFlags := 130, slot := 1, constantValue := 0 }, { name := "sizeIsSticky", type := .boolean, accessFlags := 130, slot := 2, constantValue := 0 }, { name := "serialVersionUID", type := .long, accessFlags := 26, slot := 5, constantValue := 0 }, { name := "$assertionsDisabled", type := .boolean, accessFlags := 4120, slot := 6, constantValue := 0 }]
  methods := #[k5m0, k5m1, k5m2, k5m3, k5m4, k5m5, k5m6, k5m7, k5m8, k5m9, k5m10]
  instanceTypes := #[(.array .long), .int, .boolean]
  staticTypes := #[.int, .int, .int, .long, (.array (.object "java/io/ObjectStreamField")), .long, .boolean]
  resolved := Array.replicate 417 none
  statics := some 0 }

def pool6 : Array CpInfo := pool [(2, .class_ 4), (1, u "java/lang/Object"), (0, u "<init>"), (0, u "()V"), (1, .class_ 10), (1, u "java/lang/Number"), (2, .class_ 14), (0, u "java/io/Serializable"), (0, u "serialVersionUID"), (0, u "J")] 20

def k6m0 : Method := { name := "<init>", desc := "()V", sig := { parameters := [], returnType := none }, accessFlags := 1, code := none }
/-- java/lang/Number -/
def k6 : Class := { plain "java/lang/Number" (some 0) with
  accessFlags := 1057
  interfaces := #[4]
  cf := some (fileOf pool6 8 #[] #[{ accessFlags := 1, nameIndex := 5, descriptorIndex := 6, attributes := #[] }] 1057 2 #[13] #[{ accessFlags := 26, nameIndex := 15, descriptorIndex := 16, attributes := #[] }])
  fields := #[{ name := "serialVersionUID", type := .long, accessFlags := 26, slot := 0, constantValue := 0 }]
  methods := #[k6m0]
  instanceTypes := #[]
  staticTypes := #[.long]
  resolved := Array.replicate 37 none
  statics := none }

def pool7 : Array CpInfo := pool [(1, .class_ 2), (0, u "java/lang/Comparable"), (0, .class_ 4), (0, u "java/lang/Object")] 7

/-- java/lang/Comparable -/
def k7 : Class := { plain "java/lang/Comparable" (some 0) with
  accessFlags := 1537
  interfaces := #[]
  cf := some (fileOf pool7 1 #[] #[] 1537 3 #[] #[])
  fields := #[]
  methods := #[]
  instanceTypes := #[]
  staticTypes := #[]
  resolved := Array.replicate 12 none
  statics := none }

def pool8 : Array CpInfo := pool [(1, .class_ 2), (0, u "java/lang/constant/Constable"), (0, .class_ 4), (0, u "java/lang/Object")] 6

/-- java/lang/constant/Constable -/
def k8 : Class := { plain "java/lang/constant/Constable" (some 0) with
  accessFlags := 1537
  interfaces := #[]
  cf := some (fileOf pool8 1 #[] #[] 1537 3 #[] #[])
  fields := #[]
  methods := #[]
  instanceTypes := #[]
  staticTypes := #[]
  resolved := Array.replicate 11 none
  statics := none }

def pool9 : Array CpInfo := pool [(1, .class_ 2), (0, u "java/lang/constant/ConstantDesc"), (0, .class_ 4), (0, u "java/lang/Object")] 32

/-- java/lang/constant/ConstantDesc -/
def k9 : Class := { plain "java/lang/constant/ConstantDesc" (some 0) with
  accessFlags := 1537
  interfaces := #[]
  cf := some (fileOf pool9 1 #[] #[] 1537 3 #[] #[])
  fields := #[]
  methods := #[]
  instanceTypes := #[]
  staticTypes := #[]
  resolved := Array.replicate 37 none
  statics := none }

def pool10 : Array CpInfo := pool [(1, .class_ 2), (0, u "java/lang/Long"), (15, .class_ 20), (1, u "java/lang/Integer"), (80, u "(J)I"), (133, .class_ 237), (1, u "java/lang/Long$LongCache"), (33, .class_ 272), (0, u "java/lang/Number"), (2, u "value"), (0, u "J"), (33, u "(I)I"), (0, .methodref 18 312), (0, .nameAndType 313 310), (0, u "numberOfTrailingZeros"), (47, u "TYPE"), (0, u "Ljava/lang/Class;"), (0, .class_ 364), (0, u "java/lang/Comparable"), (0, .class_ 366), (0, u "java/lang/constant/Constable"), (0, .class_ 368), (0, u "java/lang/constant/ConstantDesc"), (0, u "MIN_VALUE"), (1, u "MAX_VALUE"), (4, u "SIZE"), (0, u "I"), (1, u "BYTES"), (1, u "serialVersionUID")] 142

def k10c0 : Code := { maxStack := 4, maxLocals := 3, code := jdk_35_method_49_code, exceptionTable := #[], attributes := #[] }
def k10m0 : Method := { name := "numberOfTrailingZeros", desc := "(J)I", sig := { parameters := [.long], returnType := some .int }, accessFlags := 9, code := some k10c0 }
/-- java/lang/Long -/
def k10 : Class := { plain "java/lang/Long" (some 6) with
  accessFlags := 49
  interfaces := #[7, 8, 9]
  cf := some (fileOf pool10 1 #[.nestMembers #[235]] #[{ accessFlags := 9, nameIndex := 313, descriptorIndex := 101, attributes := #[] }] 49 271 #[363, 365, 367] #[{ accessFlags := 25, nameIndex := 369, descriptorIndex := 276, attributes := #[] }, { accessFlags := 25, nameIndex := 371, descriptorIndex := 276, attributes := #[] }, { accessFlags := 25, nameIndex := 361, descriptorIndex := 362, attributes := #[] }, { accessFlags := 18, nameIndex := 275, descriptorIndex := 276, attributes := #[] }, { accessFlags := 25, nameIndex := 376, descriptorIndex := 377, attributes := #[] }, { accessFlags := 25, nameIndex := 379, descriptorIndex := 377, attributes := #[] }, { accessFlags := 26, nameIndex := 381, descriptorIndex := 276, attributes := #[] }])
  fields := #[{ name := "MIN_VALUE", type := .long, accessFlags := 25, slot := 0, constantValue := 0 }, { name := "MAX_VALUE", type := .long, accessFlags := 25, slot := 1, constantValue := 0 }, { name := "TYPE", type := (.object "java/lang/Class"), accessFlags := 25, slot := 2, constantValue := 0 }, { name := "value", type := .long, accessFlags := 18, slot := 0, constantValue := 0 }, { name := "SIZE", type := .int, accessFlags := 25, slot := 3, constantValue := 0 }, { name := "BYTES", type := .int, accessFlags := 25, slot := 4, constantValue := 0 }, { name := "serialVersionUID", type := .long, accessFlags := 26, slot := 5, constantValue := 0 }]
  methods := #[k10m0]
  instanceTypes := #[.long]
  staticTypes := #[.long, .long, (.object "java/lang/Class"), .int, .int, .long]
  resolved := Array.replicate 524 none
  statics := none }

def pool11 : Array CpInfo := pool [(1, .class_ 2), (0, u "java/lang/Integer"), (16, u "digits"), (0, u "[C"), (33, u "(I)I"), (30, u "DigitOnes"), (0, u "[B"), (2, u "DigitTens"), (99, .class_ 190), (0, u "java/lang/Integer$IntegerCache"), (3, u "I"), (8, .class_ 204), (0, u "java/lang/Number"), (2, u "value"), (56, .integer 65536), (37, u "TYPE"), (0, u "Ljava/lang/Class;"), (0, .class_ 305), (0, u "java/lang/Comparable"), (0, .class_ 307), (0, u "java/lang/constant/Constable"), (0, .class_ 309), (0, u "java/lang/constant/ConstantDesc"), (0, u "MIN_VALUE"), (1, u "MAX_VALUE"), (3, u "SIZE"), (1, u "BYTES"), (1, u "serialVersionUID"), (0, u "J"), (84, u "numberOfTrailingZeros")] 46

def k11c0 : Code := { maxStack := 3, maxLocals := 2, code := jdk_33_method_48_code, exceptionTable := #[], attributes := #[] }
def k11m0 : Method := { name := "numberOfTrailingZeros", desc := "(I)I", sig := { parameters := [.int], returnType := some .int }, accessFlags := 9, code := some k11c0 }
/-- java/lang/Integer -/
def k11 : Class := { plain "java/lang/Integer" (some 6) with
  accessFlags := 49
  interfaces := #[7, 8, 9]
  cf := some (fileOf pool11 1 #[.nestMembers #[189]] #[{ accessFlags := 9, nameIndex := 406, descriptorIndex := 54, attributes := #[] }] 49 203 #[304, 306, 308] #[{ accessFlags := 25, nameIndex := 310, descriptorIndex := 194, attributes := #[] }, { accessFlags := 25, nameIndex := 312, descriptorIndex := 194, attributes := #[] }, { accessFlags := 25, nameIndex := 302, descriptorIndex := 303, attributes := #[] }, { accessFlags := 24, nameIndex := 19, descriptorIndex := 20, attributes := #[] }, { accessFlags := 24, nameIndex := 89, descriptorIndex := 86, attributes := #[] }, { accessFlags := 24, nameIndex := 85, descriptorIndex := 86, attributes := #[] }, { accessFlags := 18, nameIndex := 207, descriptorIndex := 194, attributes := #[] }, { accessFlags := 25, nameIndex := 316, descriptorIndex := 194, attributes := #[] }, { accessFlags := 25, nameIndex := 318, descriptorIndex := 194, attributes := #[] }, { accessFlags := 26, nameIndex := 320, descriptorIndex := 321, attributes := #[] }])
  fields := #[{ name := "MIN_VALUE", type := .int, accessFlags := 25, slot := 0, constantValue := 0 }, { name := "MAX_VALUE", type := .int, accessFlags := 25, slot := 1, constantValue := 0 }, { name := "TYPE", type := (.object "java/lang/Class"), accessFlags := 25, slot := 2, constantValue := 0 }, { name := "digits", type := (.array .char), accessFlags := 24, slot := 3, constantValue := 0 }, { name := "DigitTens", type := (.array .byte), accessFlags := 24, slot := 4, constantValue := 0 }, { name := "DigitOnes", type := (.array .byte), accessFlags := 24, slot := 5, constantValue := 0 }, { name := "value", type := .int, accessFlags := 18, slot := 0, constantValue := 0 }, { name := "SIZE", type := .int, accessFlags := 25, slot := 6, constantValue := 0 }, { name := "BYTES", type := .int, accessFlags := 25, slot := 7, constantValue := 0 }, { name := "serialVersionUID", type := .long, accessFlags := 26, slot := 8, constantValue := 0 }]
  methods := #[k11m0]
  instanceTypes := #[.int]
  staticTypes := #[.int, .int, (.object "java/lang/Class"), (.array .char), (.array .byte), (.array .byte), .int, .int, .long]
  resolved := Array.replicate 453 none
  statics := none }

/-- the primitive byte -/
def k12 : Class := { plain "byte" none with kind := .primitive 'B', accessFlags := 0x411 }
/-- [B -/
def k13 : Class := { plain "[B" (some 0) with kind := .array 12 .byte, interfaces := #[3, 4], accessFlags := 1041 }

/-- the primitive long -/
def k14 : Class := { plain "long" none with kind := .primitive 'J', accessFlags := 0x411 }
/-- [J -/
def k15 : Class := { plain "[J" (some 0) with kind := .array 14 .long, interfaces := #[3, 4], accessFlags := 1041 }

def heap : Heap := #[{ cls := 5, slots := #[.int 0, .int 0, .int 0, .long 0, .null, .long 0, .int 1], vm := .statics 5 }]
def classes : Array Class := #[k0, k1, k2, k3, k4, k5, k6, k7, k8, k9, k10, k11, k12, k13, k14, k15]
def interned : List (Array UInt16 × Addr) := []
def slotsUsed : Nat := 7
def theMethod : MethodId := ⟨1, 1⟩
def args0 : Array Value := #[.int 2, .int 3]
def aboutOver (below : List Frame) : State where
  vm := { classes := classes, interned := interned.toArray }
  heap := heap
  slotsUsed := slotsUsed
  threads := #[{ frames := .invoking theMethod args0 :: below }]
def below0 : List Frame := [.native { method := ⟨0, 0⟩, args := #[] }]
def about1 : State := aboutOver below0
def p0 : Program := .bare "" "" ""
def e0 : Env := launch0.env 0 0 0
theorem w_frames : about1.frames = Frame.invoking theMethod args0 :: below0 := rfl
set_option maxRecDepth 65536 in
theorem w_args : argsFit about1.vm theMethod args0 = true := by decide +kernel
set_option maxRecDepth 65536 in
theorem w_heap : heapFits about1 = true := by decide +kernel
set_option maxRecDepth 65536 in
theorem w_runnable : about1.curStatus? = some .runnable := by decide +kernel
set_option maxRecDepth 65536 in
theorem w_alone : about1.alone = true := by decide +kernel
set_option maxRecDepth 65536 in
theorem w_named : about1.methodNamed? x = some theMethod := by decide +kernel
set_option maxRecDepth 65536 in
theorem w_hears : about1.hears theMethod below0 = true := by decide +kernel
set_option maxRecDepth 65536 in
theorem w_ripe : about1.ripe theMethod args0 below0 = true := by decide +kernel
theorem w_running : about1.status = .running := rfl
set_option maxRecDepth 65536 in
theorem w_room : about1.hasRoom e0.platform room_1 = true :=
  launch0.hasRoom_least _ room_1 (by decide +kernel) (by decide +kernel) (by decide +kernel) (by decide +kernel) (by decide +kernel) (by decide +kernel)
theorem allAtoms_all (ts : List Jvm.Cond) (a : Array Jvm.Value) (st : Jvm.State) : (allAtoms ts).before a st = ts.all (fun c => c.before a st) := by
  induction ts with
  | nil => rfl
  | cons c t ih =>
    show (Jvm.Cond.and c (allAtoms t)).before a st = _
    rw [Jvm.Cond.before_and, ih, List.all_cons]
def words1 : List Jvm.Cond := Jvm.Cond.code x code maxLocals ret :: tables_1
/-- a 'code' word, met by the world's own term for the bytes: nothing is compared byte by byte -/
theorem code_word {y : MethodName} {bytes : ByteArray} {mx : Nat} {rt : Option FieldType} {a : Array Value} {s : State} {m : MethodId} {meth : Method} {c : Code} (h1 : s.methodNamed? y = some m) (h2 : s.vm.method? m = some meth) (h3 : meth.code = some c) (h4 : c.code = bytes)
    (h5 : (c.maxLocals == mx && c.exceptionTable.isEmpty && decide (c.maxStack ≤ mostOperands) && decide (meth.sig.returnType = rt) && !meth.locks && decide (parseMethodDescriptor y.desc = some meth.sig)) = true) : (Jvm.Cond.code y bytes mx rt).before a s = true := by
  simp only [Bool.and_eq_true, beq_iff_eq, Bool.not_eq_true', decide_eq_true_eq] at h5
  obtain ⟨⟨⟨⟨⟨g1, g2⟩, g3⟩, g4⟩, g5⟩, g6⟩ := h5
  simp [Cond.before, Cond.holds, Cond.value, h1, h2, h3, h4, g1, g2, g3, g4, g5, g6]
def isCode : Jvm.Cond → Bool
  | .code _ _ _ _ => true
  | _ => false
theorem all_split {L : List Jvm.Cond} {P : Jvm.Cond → Bool} (h1 : L.all (fun c => isCode c || P c) = true) (h2 : ∀ c ∈ L.filter isCode, P c = true) : L.all P = true := by
  refine List.all_eq_true.mpr fun c hc => ?_
  have h := List.all_eq_true.mp h1 c hc
  rcases Bool.eq_false_or_eq_true (isCode c) with hi | hi
  · exact h2 c (List.mem_filter.mpr ⟨hc, hi⟩)
  · simpa [hi] using h
set_option maxRecDepth 65536 in
theorem w_c0 : (Jvm.Cond.code x code maxLocals ret).before args0 about1 = true := code_word (m := ⟨1, 1⟩) (meth := k1m1) (c := k1c1) (by decide +kernel) rfl rfl rfl (by decide +kernel)
set_option maxRecDepth 65536 in
theorem w_c1 : (Jvm.Cond.code ({ cls := "com/example/oblivious/oblivious/broker/PacketIds", name := "<init>", desc := "()V" } : Jvm.MethodName) prog_5_method_1_code (1 : Nat) (Option.none : Option Jvm.ClassFile.FieldType)).before args0 about1 = true := code_word (m := ⟨2, 0⟩) (meth := k2m0) (c := k2c0) (by decide +kernel) rfl rfl rfl (by decide +kernel)
set_option maxRecDepth 65536 in
theorem w_c2 : (Jvm.Cond.code ({ cls := "java/lang/Object", name := "<init>", desc := "()V" } : Jvm.MethodName) object_method_1_code (1 : Nat) (Option.none : Option Jvm.ClassFile.FieldType)).before args0 about1 = true := code_word (m := ⟨0, 0⟩) (meth := k0m0) (c := k0c0) (by decide +kernel) rfl rfl rfl (by decide +kernel)
set_option maxRecDepth 65536 in
theorem w_c3 : (Jvm.Cond.code ({ cls := "java/util/BitSet", name := "<init>", desc := "()V" } : Jvm.MethodName) jdk_92_method_4_code (1 : Nat) (Option.none : Option Jvm.ClassFile.FieldType)).before args0 about1 = true := code_word (m := ⟨5, 3⟩) (meth := k5m3) (c := k5c3) (by decide +kernel) rfl rfl rfl (by decide +kernel)
set_option maxRecDepth 65536 in
theorem w_c4 : (Jvm.Cond.code ({ cls := "java/util/BitSet", name := "initWords", desc := "(I)V" } : Jvm.MethodName) jdk_92_method_6_code (2 : Nat) (Option.none : Option Jvm.ClassFile.FieldType)).before args0 about1 = true := code_word (m := ⟨5, 4⟩) (meth := k5m4) (c := k5c4) (by decide +kernel) rfl rfl rfl (by decide +kernel)
set_option maxRecDepth 65536 in
theorem w_c5 : (Jvm.Cond.code ({ cls := "java/util/BitSet", name := "wordIndex", desc := "(I)I" } : Jvm.MethodName) jdk_92_method_1_code (1 : Nat) (Option.some Jvm.ClassFile.FieldType.int)).before args0 about1 = true := code_word (m := ⟨5, 0⟩) (meth := k5m0) (c := k5c0) (by decide +kernel) rfl rfl rfl (by decide +kernel)
set_option maxRecDepth 65536 in
theorem w_c6 : (Jvm.Cond.code ({ cls := "com/example/oblivious/oblivious/broker/PacketIds", name := "hasFree", desc := "()Z" } : Jvm.MethodName) prog_5_method_2_code (1 : Nat) (Option.some Jvm.ClassFile.FieldType.boolean)).before args0 about1 = true := code_word (m := ⟨2, 1⟩) (meth := k2m1) (c := k2c1) (by decide +kernel) rfl rfl rfl (by decide +kernel)
set_option maxRecDepth 65536 in
theorem w_c7 : (Jvm.Cond.code ({ cls := "com/example/oblivious/oblivious/broker/PacketIds", name := "free", desc := "(I)Z" } : Jvm.MethodName) prog_5_method_4_code (3 : Nat) (Option.some Jvm.ClassFile.FieldType.boolean)).before args0 about1 = true := code_word (m := ⟨2, 3⟩) (meth := k2m3) (c := k2c3) (by decide +kernel) rfl rfl rfl (by decide +kernel)
set_option maxRecDepth 65536 in
theorem w_c8 : (Jvm.Cond.code ({ cls := "java/util/BitSet", name := "get", desc := "(I)Z" } : Jvm.MethodName) jdk_92_method_26_code (3 : Nat) (Option.some Jvm.ClassFile.FieldType.boolean)).before args0 about1 = true := code_word (m := ⟨5, 9⟩) (meth := k5m9) (c := k5c9) (by decide +kernel) rfl rfl rfl (by decide +kernel)
set_option maxRecDepth 65536 in
theorem w_c9 : (Jvm.Cond.code ({ cls := "java/util/BitSet", name := "checkInvariants", desc := "()V" } : Jvm.MethodName) jdk_92_method_2_code (1 : Nat) (Option.none : Option Jvm.ClassFile.FieldType)).before args0 about1 = true := code_word (m := ⟨5, 1⟩) (meth := k5m1) (c := k5c1) (by decide +kernel) rfl rfl rfl (by decide +kernel)
set_option maxRecDepth 65536 in
theorem w_c10 : (Jvm.Cond.code ({ cls := "com/example/oblivious/oblivious/broker/PacketIds", name := "take", desc := "()I" } : Jvm.MethodName) prog_5_method_3_code (2 : Nat) (Option.some Jvm.ClassFile.FieldType.int)).before args0 about1 = true := code_word (m := ⟨2, 2⟩) (meth := k2m2) (c := k2c2) (by decide +kernel) rfl rfl rfl (by decide +kernel)
set_option maxRecDepth 65536 in
theorem w_c11 : (Jvm.Cond.code ({ cls := "java/util/BitSet", name := "nextClearBit", desc := "(I)I" } : Jvm.MethodName) jdk_92_method_29_code (5 : Nat) (Option.some Jvm.ClassFile.FieldType.int)).before args0 about1 = true := code_word (m := ⟨5, 10⟩) (meth := k5m10) (c := k5c10) (by decide +kernel) rfl rfl rfl (by decide +kernel)
set_option maxRecDepth 65536 in
theorem w_c12 : (Jvm.Cond.code ({ cls := "java/util/BitSet", name := "set", desc := "(I)V" } : Jvm.MethodName) jdk_92_method_19_code (3 : Nat) (Option.none : Option Jvm.ClassFile.FieldType)).before args0 about1 = true := code_word (m := ⟨5, 7⟩) (meth := k5m7) (c := k5c7) (by decide +kernel) rfl rfl rfl (by decide +kernel)
set_option maxRecDepth 65536 in
theorem w_c13 : (Jvm.Cond.code ({ cls := "java/util/BitSet", name := "expandTo", desc := "(I)V" } : Jvm.MethodName) jdk_92_method_15_code (3 : Nat) (Option.none : Option Jvm.ClassFile.FieldType)).before args0 about1 = true := code_word (m := ⟨5, 6⟩) (meth := k5m6) (c := k5c6) (by decide +kernel) rfl rfl rfl (by decide +kernel)
set_option maxRecDepth 65536 in
theorem w_c14 : (Jvm.Cond.code ({ cls := "java/util/BitSet", name := "ensureCapacity", desc := "(I)V" } : Jvm.MethodName) jdk_92_method_14_code (3 : Nat) (Option.none : Option Jvm.ClassFile.FieldType)).before args0 about1 = true := code_word (m := ⟨5, 5⟩) (meth := k5m5) (c := k5c5) (by decide +kernel) rfl rfl rfl (by decide +kernel)
set_option maxRecDepth 65536 in
theorem w_c15 : (Jvm.Cond.code ({ cls := "java/lang/Long", name := "numberOfTrailingZeros", desc := "(J)I" } : Jvm.MethodName) jdk_35_method_49_code (3 : Nat) (Option.some Jvm.ClassFile.FieldType.int)).before args0 about1 = true := code_word (m := ⟨10, 0⟩) (meth := k10m0) (c := k10c0) (by decide +kernel) rfl rfl rfl (by decide +kernel)
set_option maxRecDepth 65536 in
theorem w_c16 : (Jvm.Cond.code ({ cls := "java/lang/Integer", name := "numberOfTrailingZeros", desc := "(I)I" } : Jvm.MethodName) jdk_33_method_48_code (2 : Nat) (Option.some Jvm.ClassFile.FieldType.int)).before args0 about1 = true := code_word (m := ⟨11, 0⟩) (meth := k11m0) (c := k11c0) (by decide +kernel) rfl rfl rfl (by decide +kernel)
set_option maxRecDepth 65536 in
theorem w_c17 : (Jvm.Cond.code ({ cls := "java/util/BitSet", name := "clear", desc := "(I)V" } : Jvm.MethodName) jdk_92_method_23_code (3 : Nat) (Option.none : Option Jvm.ClassFile.FieldType)).before args0 about1 = true := code_word (m := ⟨5, 8⟩) (meth := k5m8) (c := k5c8) (by decide +kernel) rfl rfl rfl (by decide +kernel)
set_option maxRecDepth 65536 in
theorem w_c18 : (Jvm.Cond.code ({ cls := "java/util/BitSet", name := "recalculateWordsInUse", desc := "()V" } : Jvm.MethodName) jdk_92_method_3_code (2 : Nat) (Option.none : Option Jvm.ClassFile.FieldType)).before args0 about1 = true := code_word (m := ⟨5, 2⟩) (meth := k5m2) (c := k5c2) (by decide +kernel) rfl rfl rfl (by decide +kernel)
def codes1 : List Jvm.Cond := [Jvm.Cond.code x code maxLocals ret, Jvm.Cond.code ({ cls := "com/example/oblivious/oblivious/broker/PacketIds", name := "<init>", desc := "()V" } : Jvm.MethodName) prog_5_method_1_code (1 : Nat) (Option.none : Option Jvm.ClassFile.FieldType), Jvm.Cond.code ({ cls := "java/lang/Object", name := "<init>", desc := "()V" } : Jvm.MethodName) object_method_1_code (1 : Nat) (Option.none : Option Jvm.ClassFile.FieldType), Jvm.Cond.code ({ cls := "java/util/BitSet", name := "<init>", desc := "()V" } : Jvm.MethodName) jdk_92_method_4_code (1 : Nat) (Option.none : Option Jvm.ClassFile.FieldType), Jvm.Cond.code ({ cls := "java/util/BitSet", name := "initWords", desc := "(I)V" } : Jvm.MethodName) jdk_92_method_6_code (2 : Nat) (Option.none : Option Jvm.ClassFile.FieldType), Jvm.Cond.code ({ cls := "java/util/BitSet", name := "wordIndex", desc := "(I)I" } : Jvm.MethodName) jdk_92_method_1_code (1 : Nat) (Option.some Jvm.ClassFile.FieldType.int), Jvm.Cond.code ({ cls := "com/example/oblivious/oblivious/broker/PacketIds", name := "hasFree", desc := "()Z" } : Jvm.MethodName) prog_5_method_2_code (1 : Nat) (Option.some Jvm.ClassFile.FieldType.boolean), Jvm.Cond.code ({ cls := "com/example/oblivious/oblivious/broker/PacketIds", name := "free", desc := "(I)Z" } : Jvm.MethodName) prog_5_method_4_code (3 : Nat) (Option.some Jvm.ClassFile.FieldType.boolean), Jvm.Cond.code ({ cls := "java/util/BitSet", name := "get", desc := "(I)Z" } : Jvm.MethodName) jdk_92_method_26_code (3 : Nat) (Option.some Jvm.ClassFile.FieldType.boolean), Jvm.Cond.code ({ cls := "java/util/BitSet", name := "checkInvariants", desc := "()V" } : Jvm.MethodName) jdk_92_method_2_code (1 : Nat) (Option.none : Option Jvm.ClassFile.FieldType), Jvm.Cond.code ({ cls := "com/example/oblivious/oblivious/broker/PacketIds", name := "take", desc := "()I" } : Jvm.MethodName) prog_5_method_3_code (2 : Nat) (Option.some Jvm.ClassFile.FieldType.int), Jvm.Cond.code ({ cls := "java/util/BitSet", name := "nextClearBit", desc := "(I)I" } : Jvm.MethodName) jdk_92_method_29_code (5 : Nat) (Option.some Jvm.ClassFile.FieldType.int), Jvm.Cond.code ({ cls := "java/util/BitSet", name := "set", desc := "(I)V" } : Jvm.MethodName) jdk_92_method_19_code (3 : Nat) (Option.none : Option Jvm.ClassFile.FieldType), Jvm.Cond.code ({ cls := "java/util/BitSet", name := "expandTo", desc := "(I)V" } : Jvm.MethodName) jdk_92_method_15_code (3 : Nat) (Option.none : Option Jvm.ClassFile.FieldType), Jvm.Cond.code ({ cls := "java/util/BitSet", name := "ensureCapacity", desc := "(I)V" } : Jvm.MethodName) jdk_92_method_14_code (3 : Nat) (Option.none : Option Jvm.ClassFile.FieldType), Jvm.Cond.code ({ cls := "java/lang/Long", name := "numberOfTrailingZeros", desc := "(J)I" } : Jvm.MethodName) jdk_35_method_49_code (3 : Nat) (Option.some Jvm.ClassFile.FieldType.int), Jvm.Cond.code ({ cls := "java/lang/Integer", name := "numberOfTrailingZeros", desc := "(I)I" } : Jvm.MethodName) jdk_33_method_48_code (2 : Nat) (Option.some Jvm.ClassFile.FieldType.int), Jvm.Cond.code ({ cls := "java/util/BitSet", name := "clear", desc := "(I)V" } : Jvm.MethodName) jdk_92_method_23_code (3 : Nat) (Option.none : Option Jvm.ClassFile.FieldType), Jvm.Cond.code ({ cls := "java/util/BitSet", name := "recalculateWordsInUse", desc := "()V" } : Jvm.MethodName) jdk_92_method_3_code (2 : Nat) (Option.none : Option Jvm.ClassFile.FieldType)]
set_option maxRecDepth 65536 in
theorem codes_eq : words1.filter isCode = codes1 := rfl
theorem w_codes : ∀ c ∈ words1.filter isCode, c.before args0 about1 = true := by
  rw [codes_eq]
  intro c hc
  simp only [codes1, List.mem_cons, List.not_mem_nil, or_false] at hc
  rcases hc with rfl | rfl | rfl | rfl | rfl | rfl | rfl | rfl | rfl | rfl | rfl | rfl | rfl | rfl | rfl | rfl | rfl | rfl | rfl
  · exact w_c0
  · exact w_c1
  · exact w_c2
  · exact w_c3
  · exact w_c4
  · exact w_c5
  · exact w_c6
  · exact w_c7
  · exact w_c8
  · exact w_c9
  · exact w_c10
  · exact w_c11
  · exact w_c12
  · exact w_c13
  · exact w_c14
  · exact w_c15
  · exact w_c16
  · exact w_c17
  · exact w_c18
set_option maxRecDepth 65536 in
theorem w_t1 : (words1.take 24).all (fun c => isCode c || c.before args0 about1) = true := by decide +kernel
set_option maxRecDepth 65536 in
theorem w_t2 : ((words1.drop 24).take 24).all (fun c => isCode c || c.before args0 about1) = true := by decide +kernel
set_option maxRecDepth 65536 in
theorem w_t3 : (((words1.drop 24).drop 24).take 24).all (fun c => isCode c || c.before args0 about1) = true := by decide +kernel
set_option maxRecDepth 65536 in
theorem w_t4 : ((((words1.drop 24).drop 24).drop 24).take 24).all (fun c => isCode c || c.before args0 about1) = true := by decide +kernel
set_option maxRecDepth 65536 in
theorem w_t5 : ((((words1.drop 24).drop 24).drop 24).drop 24).all (fun c => isCode c || c.before args0 about1) = true := by decide +kernel
theorem w_tables : (allAtoms (Jvm.Cond.code x code maxLocals ret :: tables_1)).before args0 about1 = true := by
  rw [allAtoms_all]
  show words1.all (fun c => c.before args0 about1) = true
  refine all_split ?_ w_codes
  rw [← List.take_append_drop 24 words1, List.all_append, w_t1, ← List.take_append_drop 24 (words1.drop 24), List.all_append, w_t2, ← List.take_append_drop 24 ((words1.drop 24).drop 24), List.all_append, w_t3, ← List.take_append_drop 24 (((words1.drop 24).drop 24).drop 24), List.all_append, w_t4, w_t5]
  rfl
set_option maxRecDepth 65536 in
theorem w_rest : rest_1_c.before args0 about1 = true := by decide +kernel
set_option maxRecDepth 65536 in
theorem w_case : (Jvm.Cond.and given_1 narrow_1).before args0 about1 = true := by decide +kernel
theorem w_applies : (headSpec (Jvm.Cond.code x code maxLocals ret :: tables_1) room_1).applies x e0.platform about1 = true :=
  (Spec.applies_iff w_frames).mpr ⟨w_running, w_runnable, w_alone, w_named, w_hears, w_ripe, w_room, w_tables⟩
theorem atStart : AtStart classFile x code maxLocals ret World_1 tables_1 room_1 Calls_1 rest_1 Pre_1 launch0 p0 e0 about1 theMethod args0 below0 :=
  ⟨lists_1, trivial, launch0.admits_env _ _ _, launch0.least_env, fairChoices_fair.cas, fairChoices_fair.clock, w_frames, w_args, w_heap, w_applies, trivial, w_rest, w_case⟩
end start1
theorem witness_1 : WitnessClaimed_1 := ⟨start1.p0, start1.e0, start1.about1, start1.theMethod, start1.args0, start1.below0, start1.atStart⟩
end Jvm.Pilot.@@N@@
