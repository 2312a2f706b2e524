import JvmDerived
import JvmDerived.Pilot.@@N@@Statement
import JvmDerived.Pilot.@@N@@Code
set_option linter.unusedVariables false
set_option linter.unusedSimpArgs false
set_option maxRecDepth 65536
namespace Jvm.RoadKit
open Sem ClassFile Op Lib Jvm.Stand Jvm.Free Jvm.LawKit
section New
variable {p : Program} {l : Launch} {e : Env} {R : Room} {s : State} {m : MethodId} {args : Array Value} {below : List Frame} {meth : Method} {c : Code} {T : State} {locs : List Loc} {cells slots : Nat}
theorem retI (X : Stand p l e R s m args below meth c T locs cells slots) (hx : p.tables.exec = Jvm.exec) {pc : Nat} {Ls : Array Slot} {z : Int32} {rest : List Value} (hret : meth.sig.returnType = some .int) (hd : decode c.code pc = .ok (.ireturn, 1)) {fs : List Frame}
    (hl : ∀ (f : JFrame) (acts : List Action), f.method = m → f.locked = none → f.entered = [] → (doReturn e (T.setTop f) acts (some (.int z))).1 = T.setFrames fs) : Steps p.tables e below (T.setTop (mkF m pc Ls (.int z :: rest))) (T.setFrames fs) := by
  have hm' : T.vm.method? m = some meth := X.method'
  have hn : narrow .int (.int z) = .int z := rfl
  show Steps p.tables e below (T.setTop { method := m, pc := pc, locals := Ls, stack := _ :: rest, locked := none }) _
  jvm_step X.here [X.here.top, hx, hd, hm', hret, hn]
  first | (intro acts; rw [hl _ acts rfl rfl rfl]) | rw [hl _ _ rfl rfl rfl]
  exact Steps.refl _
end New
end Jvm.RoadKit
namespace Jvm.Pilot.@@N@@
open Jvm Jvm.ClassFile Sem Op Lib Jvm.Free Jvm.Stand Jvm.LawKit Jvm.RoadKit Bundle Jvm.Pilot.@@N@@.Jvm.D
theorem d1_0 : decode prog_92_method_2_code 0 = .ok (.iload_n 0, 1) := by decide +kernel
theorem d1_1 : decode prog_92_method_2_code 1 = .ok (.bipush 97, 2) := by decide +kernel
theorem d1_3 : decode prog_92_method_2_code 3 = .ok (.if_icmp .lt 9, 3) := by decide +kernel
theorem d1_6 : decode prog_92_method_2_code 6 = .ok (.iload_n 0, 1) := by decide +kernel
theorem d1_7 : decode prog_92_method_2_code 7 = .ok (.bipush 122, 2) := by decide +kernel
theorem d1_9 : decode prog_92_method_2_code 9 = .ok (.if_icmp .le 182, 3) := by decide +kernel
theorem d1_12 : decode prog_92_method_2_code 12 = .ok (.iload_n 0, 1) := by decide +kernel
theorem d1_13 : decode prog_92_method_2_code 13 = .ok (.bipush 65, 2) := by decide +kernel
theorem d1_15 : decode prog_92_method_2_code 15 = .ok (.if_icmp .lt 9, 3) := by decide +kernel
theorem d1_18 : decode prog_92_method_2_code 18 = .ok (.iload_n 0, 1) := by decide +kernel
theorem d1_19 : decode prog_92_method_2_code 19 = .ok (.bipush 90, 2) := by decide +kernel
theorem d1_21 : decode prog_92_method_2_code 21 = .ok (.if_icmp .le 170, 3) := by decide +kernel
theorem d1_24 : decode prog_92_method_2_code 24 = .ok (.iload_n 0, 1) := by decide +kernel
theorem d1_25 : decode prog_92_method_2_code 25 = .ok (.bipush 95, 2) := by decide +kernel
theorem d1_27 : decode prog_92_method_2_code 27 = .ok (.if_icmp .eq 164, 3) := by decide +kernel
theorem d1_30 : decode prog_92_method_2_code 30 = .ok (.iload_n 0, 1) := by decide +kernel
theorem d1_31 : decode prog_92_method_2_code 31 = .ok (.sipush 192, 3) := by decide +kernel
theorem d1_34 : decode prog_92_method_2_code 34 = .ok (.if_icmp .lt 10, 3) := by decide +kernel
theorem d1_37 : decode prog_92_method_2_code 37 = .ok (.iload_n 0, 1) := by decide +kernel
theorem d1_38 : decode prog_92_method_2_code 38 = .ok (.sipush 214, 3) := by decide +kernel
theorem d1_41 : decode prog_92_method_2_code 41 = .ok (.if_icmp .le 150, 3) := by decide +kernel
theorem d1_44 : decode prog_92_method_2_code 44 = .ok (.iload_n 0, 1) := by decide +kernel
theorem d1_45 : decode prog_92_method_2_code 45 = .ok (.sipush 216, 3) := by decide +kernel
theorem d1_48 : decode prog_92_method_2_code 48 = .ok (.if_icmp .lt 10, 3) := by decide +kernel
theorem d1_51 : decode prog_92_method_2_code 51 = .ok (.iload_n 0, 1) := by decide +kernel
theorem d1_52 : decode prog_92_method_2_code 52 = .ok (.sipush 246, 3) := by decide +kernel
theorem d1_55 : decode prog_92_method_2_code 55 = .ok (.if_icmp .le 136, 3) := by decide +kernel
theorem d1_58 : decode prog_92_method_2_code 58 = .ok (.iload_n 0, 1) := by decide +kernel
theorem d1_59 : decode prog_92_method_2_code 59 = .ok (.sipush 248, 3) := by decide +kernel
theorem d1_62 : decode prog_92_method_2_code 62 = .ok (.if_icmp .lt 10, 3) := by decide +kernel
theorem d1_65 : decode prog_92_method_2_code 65 = .ok (.iload_n 0, 1) := by decide +kernel
theorem d1_66 : decode prog_92_method_2_code 66 = .ok (.sipush 767, 3) := by decide +kernel
theorem d1_69 : decode prog_92_method_2_code 69 = .ok (.if_icmp .le 122, 3) := by decide +kernel
theorem d1_72 : decode prog_92_method_2_code 72 = .ok (.iload_n 0, 1) := by decide +kernel
theorem d1_73 : decode prog_92_method_2_code 73 = .ok (.sipush 880, 3) := by decide +kernel
theorem d1_76 : decode prog_92_method_2_code 76 = .ok (.if_icmp .lt 10, 3) := by decide +kernel
theorem d1_79 : decode prog_92_method_2_code 79 = .ok (.iload_n 0, 1) := by decide +kernel
theorem d1_80 : decode prog_92_method_2_code 80 = .ok (.sipush 893, 3) := by decide +kernel
theorem d1_83 : decode prog_92_method_2_code 83 = .ok (.if_icmp .le 108, 3) := by decide +kernel
theorem d1_86 : decode prog_92_method_2_code 86 = .ok (.iload_n 0, 1) := by decide +kernel
theorem d1_87 : decode prog_92_method_2_code 87 = .ok (.sipush 895, 3) := by decide +kernel
theorem d1_90 : decode prog_92_method_2_code 90 = .ok (.if_icmp .lt 10, 3) := by decide +kernel
theorem d1_93 : decode prog_92_method_2_code 93 = .ok (.iload_n 0, 1) := by decide +kernel
theorem d1_94 : decode prog_92_method_2_code 94 = .ok (.sipush 8191, 3) := by decide +kernel
theorem d1_97 : decode prog_92_method_2_code 97 = .ok (.if_icmp .le 94, 3) := by decide +kernel
theorem d1_100 : decode prog_92_method_2_code 100 = .ok (.iload_n 0, 1) := by decide +kernel
theorem d1_101 : decode prog_92_method_2_code 101 = .ok (.sipush 8204, 3) := by decide +kernel
theorem d1_104 : decode prog_92_method_2_code 104 = .ok (.if_icmp .lt 10, 3) := by decide +kernel
theorem d1_107 : decode prog_92_method_2_code 107 = .ok (.iload_n 0, 1) := by decide +kernel
theorem d1_108 : decode prog_92_method_2_code 108 = .ok (.sipush 8205, 3) := by decide +kernel
theorem d1_111 : decode prog_92_method_2_code 111 = .ok (.if_icmp .le 80, 3) := by decide +kernel
theorem d1_114 : decode prog_92_method_2_code 114 = .ok (.iload_n 0, 1) := by decide +kernel
theorem d1_115 : decode prog_92_method_2_code 115 = .ok (.sipush 8304, 3) := by decide +kernel
theorem d1_118 : decode prog_92_method_2_code 118 = .ok (.if_icmp .lt 10, 3) := by decide +kernel
theorem d1_121 : decode prog_92_method_2_code 121 = .ok (.iload_n 0, 1) := by decide +kernel
theorem d1_122 : decode prog_92_method_2_code 122 = .ok (.sipush 8591, 3) := by decide +kernel
theorem d1_125 : decode prog_92_method_2_code 125 = .ok (.if_icmp .le 66, 3) := by decide +kernel
theorem d1_128 : decode prog_92_method_2_code 128 = .ok (.iload_n 0, 1) := by decide +kernel
theorem d1_129 : decode prog_92_method_2_code 129 = .ok (.sipush 11264, 3) := by decide +kernel
theorem d1_132 : decode prog_92_method_2_code 132 = .ok (.if_icmp .lt 10, 3) := by decide +kernel
theorem d1_135 : decode prog_92_method_2_code 135 = .ok (.iload_n 0, 1) := by decide +kernel
theorem d1_136 : decode prog_92_method_2_code 136 = .ok (.sipush 12271, 3) := by decide +kernel
theorem d1_139 : decode prog_92_method_2_code 139 = .ok (.if_icmp .le 52, 3) := by decide +kernel
theorem d1_142 : decode prog_92_method_2_code 142 = .ok (.iload_n 0, 1) := by decide +kernel
theorem d1_143 : decode prog_92_method_2_code 143 = .ok (.sipush 12289, 3) := by decide +kernel
theorem d1_146 : decode prog_92_method_2_code 146 = .ok (.if_icmp .lt 9, 3) := by decide +kernel
theorem d1_149 : decode prog_92_method_2_code 149 = .ok (.iload_n 0, 1) := by decide +kernel
theorem d1_150 : decode prog_92_method_2_code 150 = .ok (.ldc 7, 2) := by decide +kernel
theorem d1_152 : decode prog_92_method_2_code 152 = .ok (.if_icmp .le 39, 3) := by decide +kernel
theorem d1_155 : decode prog_92_method_2_code 155 = .ok (.iload_n 0, 1) := by decide +kernel
theorem d1_156 : decode prog_92_method_2_code 156 = .ok (.ldc 8, 2) := by decide +kernel
theorem d1_158 : decode prog_92_method_2_code 158 = .ok (.if_icmp .lt 9, 3) := by decide +kernel
theorem d1_161 : decode prog_92_method_2_code 161 = .ok (.iload_n 0, 1) := by decide +kernel
theorem d1_162 : decode prog_92_method_2_code 162 = .ok (.ldc 9, 2) := by decide +kernel
theorem d1_164 : decode prog_92_method_2_code 164 = .ok (.if_icmp .le 27, 3) := by decide +kernel
theorem d1_167 : decode prog_92_method_2_code 167 = .ok (.iload_n 0, 1) := by decide +kernel
theorem d1_168 : decode prog_92_method_2_code 168 = .ok (.ldc 10, 2) := by decide +kernel
theorem d1_170 : decode prog_92_method_2_code 170 = .ok (.if_icmp .lt 9, 3) := by decide +kernel
theorem d1_173 : decode prog_92_method_2_code 173 = .ok (.iload_n 0, 1) := by decide +kernel
theorem d1_174 : decode prog_92_method_2_code 174 = .ok (.ldc 11, 2) := by decide +kernel
theorem d1_176 : decode prog_92_method_2_code 176 = .ok (.if_icmp .le 15, 3) := by decide +kernel
theorem d1_179 : decode prog_92_method_2_code 179 = .ok (.iload_n 0, 1) := by decide +kernel
theorem d1_180 : decode prog_92_method_2_code 180 = .ok (.ldc 12, 2) := by decide +kernel
theorem d1_182 : decode prog_92_method_2_code 182 = .ok (.if_icmp .lt 13, 3) := by decide +kernel
theorem d1_185 : decode prog_92_method_2_code 185 = .ok (.iload_n 0, 1) := by decide +kernel
theorem d1_186 : decode prog_92_method_2_code 186 = .ok (.ldc 13, 2) := by decide +kernel
theorem d1_188 : decode prog_92_method_2_code 188 = .ok (.if_icmp .gt 7, 3) := by decide +kernel
theorem d1_191 : decode prog_92_method_2_code 191 = .ok (.iconst 1, 1) := by decide +kernel
theorem d1_192 : decode prog_92_method_2_code 192 = .ok (.goto 4, 3) := by decide +kernel
theorem d1_195 : decode prog_92_method_2_code 195 = .ok (.iconst 0, 1) := by decide +kernel
theorem d1_196 : decode prog_92_method_2_code 196 = .ok (.ireturn, 1) := by decide +kernel
def own_f1_196 (p1 : Int32) (u0 : Int32) : Int32 := (nar .boolean u0)
def own_f1_195 (p1 : Int32) : Int32 := (own_f1_196 p1 (0 : Int32))
def own_f1_191 (p1 : Int32) : Int32 := (own_f1_196 p1 (1 : Int32))
def own_f1_179 (p1 : Int32) : Int32 := (if p1 < (65536 : Int32) then (own_f1_195 p1) else (if (983039 : Int32) < p1 then (own_f1_195 p1) else (own_f1_191 p1)))
def own_f1_167 (p1 : Int32) : Int32 := (if p1 < (65008 : Int32) then (own_f1_179 p1) else (if (65533 : Int32) < p1 then (own_f1_179 p1) else (own_f1_191 p1)))
def own_f1_155 (p1 : Int32) : Int32 := (if p1 < (63744 : Int32) then (own_f1_167 p1) else (if (64975 : Int32) < p1 then (own_f1_167 p1) else (own_f1_191 p1)))
def own_f1_142 (p1 : Int32) : Int32 := (if p1 < (12289 : Int32) then (own_f1_155 p1) else (if (55295 : Int32) < p1 then (own_f1_155 p1) else (own_f1_191 p1)))
def own_f1_128 (p1 : Int32) : Int32 := (if p1 < (11264 : Int32) then (own_f1_142 p1) else (if (12271 : Int32) < p1 then (own_f1_142 p1) else (own_f1_191 p1)))
def own_f1_114 (p1 : Int32) : Int32 := (if p1 < (8304 : Int32) then (own_f1_128 p1) else (if (8591 : Int32) < p1 then (own_f1_128 p1) else (own_f1_191 p1)))
def own_f1_100 (p1 : Int32) : Int32 := (if p1 < (8204 : Int32) then (own_f1_114 p1) else (if (8205 : Int32) < p1 then (own_f1_114 p1) else (own_f1_191 p1)))
def own_f1_86 (p1 : Int32) : Int32 := (if p1 < (895 : Int32) then (own_f1_100 p1) else (if (8191 : Int32) < p1 then (own_f1_100 p1) else (own_f1_191 p1)))
def own_f1_72 (p1 : Int32) : Int32 := (if p1 < (880 : Int32) then (own_f1_86 p1) else (if (893 : Int32) < p1 then (own_f1_86 p1) else (own_f1_191 p1)))
def own_f1_58 (p1 : Int32) : Int32 := (if p1 < (248 : Int32) then (own_f1_72 p1) else (if (767 : Int32) < p1 then (own_f1_72 p1) else (own_f1_191 p1)))
def own_f1_44 (p1 : Int32) : Int32 := (if p1 < (216 : Int32) then (own_f1_58 p1) else (if (246 : Int32) < p1 then (own_f1_58 p1) else (own_f1_191 p1)))
def own_f1_24 (p1 : Int32) : Int32 := (if p1 = (95 : Int32) then (own_f1_191 p1) else (if p1 < (192 : Int32) then (own_f1_44 p1) else (if (214 : Int32) < p1 then (own_f1_44 p1) else (own_f1_191 p1))))
def own_f1_12 (p1 : Int32) : Int32 := (if p1 < (65 : Int32) then (own_f1_24 p1) else (if (90 : Int32) < p1 then (own_f1_24 p1) else (own_f1_191 p1)))
def own_f1 (p1 : Int32) : Int32 := (if p1 < (97 : Int32) then (own_f1_12 p1) else (if (122 : Int32) < p1 then (own_f1_12 p1) else (own_f1_191 p1)))
theorem pn_0 : plainName "com/example/melampus/melampus/model/XmlNames" = true := by first | (simp [plainName, overriddenIn]; done) | decide +kernel
theorem ef_rm1 (m : MethodId) (x0 : Int32) : entryFrame m #[(.int x0)] 1 = mkF m 0 #[.val (.int x0)] [] := by first | (simp [entryFrame, mkF, argsToLocals, Value.category]; done) | rfl
def Q1 (Z : State) (p1 : Int32) (h0 : Heap) (n0 : Nat) (v : Option Value) (h : Heap) (L : List Loc) : Prop := v = some (.int (own_f1 p1)) ∧ Fr n0 L ∧ h = h0
set_option maxHeartbeats 40000000 in
theorem rm1 (l : Launch) (Z : State) (a0 : Array Value) (hw : ∀ d ∈ tables_1, d.before a0 Z = true) (ws : List Jvm.Cond) (p1 : Int32) (h0 : Heap) (n0 : Nat) (Z0 : n0 ≤ h0.size) :
    MetFree l (⟨"com/example/melampus/melampus/model/XmlNames", "isNameStartChar", "(I)Z"⟩ : MethodName) (head1 (Jvm.Cond.code (⟨"com/example/melampus/melampus/model/XmlNames", "isNameStartChar", "(I)Z"⟩ : MethodName) prog_92_method_2_code 1 (some .boolean) :: ws) ({ frames := 0, cells := 0, slots := 0, locals := 0 } : Room)) (fun a U => a = #[(.int p1)] ∧ Z.Warmed39 U.vm ∧ U.heap = h0) (fun _ _ _ _ _ => True) (fun _ U o U' => ∃ v L, o = .returned v ∧ Q1 Z p1 h0 n0 v U'.heap L ∧ FrameEnd U o U' L ({ frames := 0, cells := 0, slots := 0, locals := 0 } : Room).cells ({ frames := 0, cells := 0, slots := 0, locals := 0 } : Room).slots) := by
  refine MetFree.of_bodySF (plainFor_of_name pn_0) hisR ?_
  intro p e s m args below meth c s₁ Bd hml0 hP hK
  obtain ⟨rfl, hZ, hh⟩ := hP
  have hx := Bd.exec
  have hby := Bd.bytes
  have hml : c.maxLocals = 1 := hml0
  have hown : s.vm.findClass "com/example/melampus/melampus/model/XmlNames" = some m.cls := findClass_of_methodNamed Bd.named
  have hnm := (name_of_methodNamed Bd.named Bd.method).1
  have X0 : Stand p l e ({ frames := 0, cells := 0, slots := 0, locals := 0 } : Room) s m #[(.int p1)] below meth c s₁ [] 0 0 := Stand.of_body Bd
  have e0 : s₁.heap = h0 := by rw [← hh, Bd.state]; rfl
  have N0 := Fr.nil n0
  have pre0 : ∀ tgt, Steps p.tables e below (s₁.setTop (mkF m 0 #[.val (.int p1)] [])) tgt → Steps p.tables e below (s₁.setTop (entryFrame m #[(.int p1)] 1)) tgt := fun tgt k => castTop (ef_rm1 m p1) k
  obtain ⟨fs, hr, hrun, hended, hW, hsame⟩ := X0.leave (v := some (.int (own_f1 p1))) (fun h => by rw [Bd.returns] at h; cases h)
  refine ⟨_, _, pre0 _ ?_, hrun, hended, _, _, rfl, ?_, ⟨_, rfl⟩, hW, hsame.mono (by decide) (by decide)⟩
  · have s_196 : ∀ (u0 : Int32), own_f1_196 p1 u0 = own_f1 p1 → Steps p.tables e below (s₁.setTop (mkF m 196 #[.val (.int p1)] [(.int u0)])) (s₁.setFrames fs) := by
      intro u0 hV
      show Steps p.tables e below (s₁.setTop (mkF m 196 #[.val (.int p1)] [(.int u0)])) _
      have he : (nar .boolean u0) = own_f1 p1 := Eq.trans (by rw [own_f1_196]) hV
      rw [← he] at hr
      exact retN X0 hx (t := .boolean) Bd.returns (by simp) (hb hby d1_196) hr
    have s_195 : own_f1_195 p1  = own_f1 p1 → Steps p.tables e below (s₁.setTop (mkF m 195 #[.val (.int p1)] [])) (s₁.setFrames fs) := by
      intro  hV
      show Steps p.tables e below (s₁.setTop (mkF m 195 #[.val (.int p1)] [])) _
      refine XS.iconst X0.here hx rfl (hb hby d1_195) ?_
      exact s_196 (0 : Int32) (Eq.trans (by rw [own_f1_195]) hV)
    have s_191 : own_f1_191 p1  = own_f1 p1 → Steps p.tables e below (s₁.setTop (mkF m 191 #[.val (.int p1)] [])) (s₁.setFrames fs) := by
      intro  hV
      show Steps p.tables e below (s₁.setTop (mkF m 191 #[.val (.int p1)] [])) _
      refine XS.iconst X0.here hx rfl (hb hby d1_191) ?_
      show Steps p.tables e below (s₁.setTop (mkF m 192 #[.val (.int p1)] [(.int (1 : Int32))])) _
      refine XS.goto X0.here hx rfl (pc0 := 192) (pc' := 196) rfl (hb hby d1_192) (by decide) (by decide) ?_
      exact s_196 (1 : Int32) (Eq.trans (by rw [own_f1_191]) hV)
    have s_179 : own_f1_179 p1  = own_f1 p1 → Steps p.tables e below (s₁.setTop (mkF m 179 #[.val (.int p1)] [])) (s₁.setFrames fs) := by
      intro  hV
      show Steps p.tables e below (s₁.setTop (mkF m 179 #[.val (.int p1)] [])) _
      refine XS.iloadN X0.here hx rfl (hb hby d1_179) rfl ?_
      show Steps p.tables e below (s₁.setTop (mkF m 180 #[.val (.int p1)] [(.int p1)])) _
      refine X0.ldcInt hx hown (mvT hZ (hw _ (List.mem_of_getElem? (i := 17) rfl))) (g := (mkF m 180 #[.val (.int p1)] [(.int p1)])) rfl (hb hby d1_180) _ ?_
      by_cases h182 : p1 < (65536 : Int32)
      · show Steps p.tables e below (s₁.setTop (mkF m 182 #[.val (.int p1)] [(.int (65536 : Int32)), (.int p1)])) _
        refine XS.icmpYes X0.here hx rfl (pc0 := 182) (pc' := 195) rfl (hb hby d1_182) rfl (tlt h182).1 (by decide) (by decide) ?_
        exact s_195  (Eq.trans (by rw [own_f1_179, if_pos h182]) hV)
      · show Steps p.tables e below (s₁.setTop (mkF m 182 #[.val (.int p1)] [(.int (65536 : Int32)), (.int p1)])) _
        refine XS.icmpNo X0.here hx rfl (hb hby d1_182) rfl (flt h182).1 ?_
        show Steps p.tables e below (s₁.setTop (mkF m 185 #[.val (.int p1)] [])) _
        refine XS.iloadN X0.here hx rfl (hb hby d1_185) rfl ?_
        show Steps p.tables e below (s₁.setTop (mkF m 186 #[.val (.int p1)] [(.int p1)])) _
        refine X0.ldcInt hx hown (mvT hZ (hw _ (List.mem_of_getElem? (i := 25) rfl))) (g := (mkF m 186 #[.val (.int p1)] [(.int p1)])) rfl (hb hby d1_186) _ ?_
        by_cases h188 : (983039 : Int32) < p1
        · show Steps p.tables e below (s₁.setTop (mkF m 188 #[.val (.int p1)] [(.int (983039 : Int32)), (.int p1)])) _
          refine XS.icmpYes X0.here hx rfl (pc0 := 188) (pc' := 195) rfl (hb hby d1_188) rfl (tlt h188).2.2.1 (by decide) (by decide) ?_
          exact s_195  (Eq.trans (by rw [own_f1_179, if_neg h182, if_pos h188]) hV)
        · show Steps p.tables e below (s₁.setTop (mkF m 188 #[.val (.int p1)] [(.int (983039 : Int32)), (.int p1)])) _
          refine XS.icmpNo X0.here hx rfl (hb hby d1_188) rfl (flt h188).2.2.1 ?_
          exact s_191  (Eq.trans (by rw [own_f1_179, if_neg h182, if_neg h188]) hV)
    have s_167 : own_f1_167 p1  = own_f1 p1 → Steps p.tables e below (s₁.setTop (mkF m 167 #[.val (.int p1)] [])) (s₁.setFrames fs) := by
      intro  hV
      show Steps p.tables e below (s₁.setTop (mkF m 167 #[.val (.int p1)] [])) _
      refine XS.iloadN X0.here hx rfl (hb hby d1_167) rfl ?_
      show Steps p.tables e below (s₁.setTop (mkF m 168 #[.val (.int p1)] [(.int p1)])) _
      refine X0.ldcInt hx hown (mvT hZ (hw _ (List.mem_of_getElem? (i := 16) rfl))) (g := (mkF m 168 #[.val (.int p1)] [(.int p1)])) rfl (hb hby d1_168) _ ?_
      by_cases h170 : p1 < (65008 : Int32)
      · show Steps p.tables e below (s₁.setTop (mkF m 170 #[.val (.int p1)] [(.int (65008 : Int32)), (.int p1)])) _
        refine XS.icmpYes X0.here hx rfl (pc0 := 170) (pc' := 179) rfl (hb hby d1_170) rfl (tlt h170).1 (by decide) (by decide) ?_
        exact s_179  (Eq.trans (by rw [own_f1_167, if_pos h170]) hV)
      · show Steps p.tables e below (s₁.setTop (mkF m 170 #[.val (.int p1)] [(.int (65008 : Int32)), (.int p1)])) _
        refine XS.icmpNo X0.here hx rfl (hb hby d1_170) rfl (flt h170).1 ?_
        show Steps p.tables e below (s₁.setTop (mkF m 173 #[.val (.int p1)] [])) _
        refine XS.iloadN X0.here hx rfl (hb hby d1_173) rfl ?_
        show Steps p.tables e below (s₁.setTop (mkF m 174 #[.val (.int p1)] [(.int p1)])) _
        refine X0.ldcInt hx hown (mvT hZ (hw _ (List.mem_of_getElem? (i := 24) rfl))) (g := (mkF m 174 #[.val (.int p1)] [(.int p1)])) rfl (hb hby d1_174) _ ?_
        by_cases h176 : (65533 : Int32) < p1
        · show Steps p.tables e below (s₁.setTop (mkF m 176 #[.val (.int p1)] [(.int (65533 : Int32)), (.int p1)])) _
          refine XS.icmpNo X0.here hx rfl (hb hby d1_176) rfl (tlt h176).2.2.2 ?_
          exact s_179  (Eq.trans (by rw [own_f1_167, if_neg h170, if_pos h176]) hV)
        · show Steps p.tables e below (s₁.setTop (mkF m 176 #[.val (.int p1)] [(.int (65533 : Int32)), (.int p1)])) _
          refine XS.icmpYes X0.here hx rfl (pc0 := 176) (pc' := 191) rfl (hb hby d1_176) rfl (flt h176).2.2.2 (by decide) (by decide) ?_
          exact s_191  (Eq.trans (by rw [own_f1_167, if_neg h170, if_neg h176]) hV)
    have s_155 : own_f1_155 p1  = own_f1 p1 → Steps p.tables e below (s₁.setTop (mkF m 155 #[.val (.int p1)] [])) (s₁.setFrames fs) := by
      intro  hV
      show Steps p.tables e below (s₁.setTop (mkF m 155 #[.val (.int p1)] [])) _
      refine XS.iloadN X0.here hx rfl (hb hby d1_155) rfl ?_
      show Steps p.tables e below (s₁.setTop (mkF m 156 #[.val (.int p1)] [(.int p1)])) _
      refine X0.ldcInt hx hown (mvT hZ (hw _ (List.mem_of_getElem? (i := 15) rfl))) (g := (mkF m 156 #[.val (.int p1)] [(.int p1)])) rfl (hb hby d1_156) _ ?_
      by_cases h158 : p1 < (63744 : Int32)
      · show Steps p.tables e below (s₁.setTop (mkF m 158 #[.val (.int p1)] [(.int (63744 : Int32)), (.int p1)])) _
        refine XS.icmpYes X0.here hx rfl (pc0 := 158) (pc' := 167) rfl (hb hby d1_158) rfl (tlt h158).1 (by decide) (by decide) ?_
        exact s_167  (Eq.trans (by rw [own_f1_155, if_pos h158]) hV)
      · show Steps p.tables e below (s₁.setTop (mkF m 158 #[.val (.int p1)] [(.int (63744 : Int32)), (.int p1)])) _
        refine XS.icmpNo X0.here hx rfl (hb hby d1_158) rfl (flt h158).1 ?_
        show Steps p.tables e below (s₁.setTop (mkF m 161 #[.val (.int p1)] [])) _
        refine XS.iloadN X0.here hx rfl (hb hby d1_161) rfl ?_
        show Steps p.tables e below (s₁.setTop (mkF m 162 #[.val (.int p1)] [(.int p1)])) _
        refine X0.ldcInt hx hown (mvT hZ (hw _ (List.mem_of_getElem? (i := 23) rfl))) (g := (mkF m 162 #[.val (.int p1)] [(.int p1)])) rfl (hb hby d1_162) _ ?_
        by_cases h164 : (64975 : Int32) < p1
        · show Steps p.tables e below (s₁.setTop (mkF m 164 #[.val (.int p1)] [(.int (64975 : Int32)), (.int p1)])) _
          refine XS.icmpNo X0.here hx rfl (hb hby d1_164) rfl (tlt h164).2.2.2 ?_
          exact s_167  (Eq.trans (by rw [own_f1_155, if_neg h158, if_pos h164]) hV)
        · show Steps p.tables e below (s₁.setTop (mkF m 164 #[.val (.int p1)] [(.int (64975 : Int32)), (.int p1)])) _
          refine XS.icmpYes X0.here hx rfl (pc0 := 164) (pc' := 191) rfl (hb hby d1_164) rfl (flt h164).2.2.2 (by decide) (by decide) ?_
          exact s_191  (Eq.trans (by rw [own_f1_155, if_neg h158, if_neg h164]) hV)
    have s_142 : own_f1_142 p1  = own_f1 p1 → Steps p.tables e below (s₁.setTop (mkF m 142 #[.val (.int p1)] [])) (s₁.setFrames fs) := by
      intro  hV
      show Steps p.tables e below (s₁.setTop (mkF m 142 #[.val (.int p1)] [])) _
      refine XS.iloadN X0.here hx rfl (hb hby d1_142) rfl ?_
      show Steps p.tables e below (s₁.setTop (mkF m 143 #[.val (.int p1)] [(.int p1)])) _
      refine XS.sipush X0.here hx rfl (hb hby d1_143) ?_
      by_cases h146 : p1 < (12289 : Int32)
      · show Steps p.tables e below (s₁.setTop (mkF m 146 #[.val (.int p1)] [(.int (12289 : Int32)), (.int p1)])) _
        refine XS.icmpYes X0.here hx rfl (pc0 := 146) (pc' := 155) rfl (hb hby d1_146) rfl (tlt h146).1 (by decide) (by decide) ?_
        exact s_155  (Eq.trans (by rw [own_f1_142, if_pos h146]) hV)
      · show Steps p.tables e below (s₁.setTop (mkF m 146 #[.val (.int p1)] [(.int (12289 : Int32)), (.int p1)])) _
        refine XS.icmpNo X0.here hx rfl (hb hby d1_146) rfl (flt h146).1 ?_
        show Steps p.tables e below (s₁.setTop (mkF m 149 #[.val (.int p1)] [])) _
        refine XS.iloadN X0.here hx rfl (hb hby d1_149) rfl ?_
        show Steps p.tables e below (s₁.setTop (mkF m 150 #[.val (.int p1)] [(.int p1)])) _
        refine X0.ldcInt hx hown (mvT hZ (hw _ (List.mem_of_getElem? (i := 22) rfl))) (g := (mkF m 150 #[.val (.int p1)] [(.int p1)])) rfl (hb hby d1_150) _ ?_
        by_cases h152 : (55295 : Int32) < p1
        · show Steps p.tables e below (s₁.setTop (mkF m 152 #[.val (.int p1)] [(.int (55295 : Int32)), (.int p1)])) _
          refine XS.icmpNo X0.here hx rfl (hb hby d1_152) rfl (tlt h152).2.2.2 ?_
          exact s_155  (Eq.trans (by rw [own_f1_142, if_neg h146, if_pos h152]) hV)
        · show Steps p.tables e below (s₁.setTop (mkF m 152 #[.val (.int p1)] [(.int (55295 : Int32)), (.int p1)])) _
          refine XS.icmpYes X0.here hx rfl (pc0 := 152) (pc' := 191) rfl (hb hby d1_152) rfl (flt h152).2.2.2 (by decide) (by decide) ?_
          exact s_191  (Eq.trans (by rw [own_f1_142, if_neg h146, if_neg h152]) hV)
    have s_128 : own_f1_128 p1  = own_f1 p1 → Steps p.tables e below (s₁.setTop (mkF m 128 #[.val (.int p1)] [])) (s₁.setFrames fs) := by
      intro  hV
      show Steps p.tables e below (s₁.setTop (mkF m 128 #[.val (.int p1)] [])) _
      refine XS.iloadN X0.here hx rfl (hb hby d1_128) rfl ?_
      show Steps p.tables e below (s₁.setTop (mkF m 129 #[.val (.int p1)] [(.int p1)])) _
      refine XS.sipush X0.here hx rfl (hb hby d1_129) ?_
      by_cases h132 : p1 < (11264 : Int32)
      · show Steps p.tables e below (s₁.setTop (mkF m 132 #[.val (.int p1)] [(.int (11264 : Int32)), (.int p1)])) _
        refine XS.icmpYes X0.here hx rfl (pc0 := 132) (pc' := 142) rfl (hb hby d1_132) rfl (tlt h132).1 (by decide) (by decide) ?_
        exact s_142  (Eq.trans (by rw [own_f1_128, if_pos h132]) hV)
      · show Steps p.tables e below (s₁.setTop (mkF m 132 #[.val (.int p1)] [(.int (11264 : Int32)), (.int p1)])) _
        refine XS.icmpNo X0.here hx rfl (hb hby d1_132) rfl (flt h132).1 ?_
        show Steps p.tables e below (s₁.setTop (mkF m 135 #[.val (.int p1)] [])) _
        refine XS.iloadN X0.here hx rfl (hb hby d1_135) rfl ?_
        show Steps p.tables e below (s₁.setTop (mkF m 136 #[.val (.int p1)] [(.int p1)])) _
        refine XS.sipush X0.here hx rfl (hb hby d1_136) ?_
        by_cases h139 : (12271 : Int32) < p1
        · show Steps p.tables e below (s₁.setTop (mkF m 139 #[.val (.int p1)] [(.int (12271 : Int32)), (.int p1)])) _
          refine XS.icmpNo X0.here hx rfl (hb hby d1_139) rfl (tlt h139).2.2.2 ?_
          exact s_142  (Eq.trans (by rw [own_f1_128, if_neg h132, if_pos h139]) hV)
        · show Steps p.tables e below (s₁.setTop (mkF m 139 #[.val (.int p1)] [(.int (12271 : Int32)), (.int p1)])) _
          refine XS.icmpYes X0.here hx rfl (pc0 := 139) (pc' := 191) rfl (hb hby d1_139) rfl (flt h139).2.2.2 (by decide) (by decide) ?_
          exact s_191  (Eq.trans (by rw [own_f1_128, if_neg h132, if_neg h139]) hV)
    have s_114 : own_f1_114 p1  = own_f1 p1 → Steps p.tables e below (s₁.setTop (mkF m 114 #[.val (.int p1)] [])) (s₁.setFrames fs) := by
      intro  hV
      show Steps p.tables e below (s₁.setTop (mkF m 114 #[.val (.int p1)] [])) _
      refine XS.iloadN X0.here hx rfl (hb hby d1_114) rfl ?_
      show Steps p.tables e below (s₁.setTop (mkF m 115 #[.val (.int p1)] [(.int p1)])) _
      refine XS.sipush X0.here hx rfl (hb hby d1_115) ?_
      by_cases h118 : p1 < (8304 : Int32)
      · show Steps p.tables e below (s₁.setTop (mkF m 118 #[.val (.int p1)] [(.int (8304 : Int32)), (.int p1)])) _
        refine XS.icmpYes X0.here hx rfl (pc0 := 118) (pc' := 128) rfl (hb hby d1_118) rfl (tlt h118).1 (by decide) (by decide) ?_
        exact s_128  (Eq.trans (by rw [own_f1_114, if_pos h118]) hV)
      · show Steps p.tables e below (s₁.setTop (mkF m 118 #[.val (.int p1)] [(.int (8304 : Int32)), (.int p1)])) _
        refine XS.icmpNo X0.here hx rfl (hb hby d1_118) rfl (flt h118).1 ?_
        show Steps p.tables e below (s₁.setTop (mkF m 121 #[.val (.int p1)] [])) _
        refine XS.iloadN X0.here hx rfl (hb hby d1_121) rfl ?_
        show Steps p.tables e below (s₁.setTop (mkF m 122 #[.val (.int p1)] [(.int p1)])) _
        refine XS.sipush X0.here hx rfl (hb hby d1_122) ?_
        by_cases h125 : (8591 : Int32) < p1
        · show Steps p.tables e below (s₁.setTop (mkF m 125 #[.val (.int p1)] [(.int (8591 : Int32)), (.int p1)])) _
          refine XS.icmpNo X0.here hx rfl (hb hby d1_125) rfl (tlt h125).2.2.2 ?_
          exact s_128  (Eq.trans (by rw [own_f1_114, if_neg h118, if_pos h125]) hV)
        · show Steps p.tables e below (s₁.setTop (mkF m 125 #[.val (.int p1)] [(.int (8591 : Int32)), (.int p1)])) _
          refine XS.icmpYes X0.here hx rfl (pc0 := 125) (pc' := 191) rfl (hb hby d1_125) rfl (flt h125).2.2.2 (by decide) (by decide) ?_
          exact s_191  (Eq.trans (by rw [own_f1_114, if_neg h118, if_neg h125]) hV)
    have s_100 : own_f1_100 p1  = own_f1 p1 → Steps p.tables e below (s₁.setTop (mkF m 100 #[.val (.int p1)] [])) (s₁.setFrames fs) := by
      intro  hV
      show Steps p.tables e below (s₁.setTop (mkF m 100 #[.val (.int p1)] [])) _
      refine XS.iloadN X0.here hx rfl (hb hby d1_100) rfl ?_
      show Steps p.tables e below (s₁.setTop (mkF m 101 #[.val (.int p1)] [(.int p1)])) _
      refine XS.sipush X0.here hx rfl (hb hby d1_101) ?_
      by_cases h104 : p1 < (8204 : Int32)
      · show Steps p.tables e below (s₁.setTop (mkF m 104 #[.val (.int p1)] [(.int (8204 : Int32)), (.int p1)])) _
        refine XS.icmpYes X0.here hx rfl (pc0 := 104) (pc' := 114) rfl (hb hby d1_104) rfl (tlt h104).1 (by decide) (by decide) ?_
        exact s_114  (Eq.trans (by rw [own_f1_100, if_pos h104]) hV)
      · show Steps p.tables e below (s₁.setTop (mkF m 104 #[.val (.int p1)] [(.int (8204 : Int32)), (.int p1)])) _
        refine XS.icmpNo X0.here hx rfl (hb hby d1_104) rfl (flt h104).1 ?_
        show Steps p.tables e below (s₁.setTop (mkF m 107 #[.val (.int p1)] [])) _
        refine XS.iloadN X0.here hx rfl (hb hby d1_107) rfl ?_
        show Steps p.tables e below (s₁.setTop (mkF m 108 #[.val (.int p1)] [(.int p1)])) _
        refine XS.sipush X0.here hx rfl (hb hby d1_108) ?_
        by_cases h111 : (8205 : Int32) < p1
        · show Steps p.tables e below (s₁.setTop (mkF m 111 #[.val (.int p1)] [(.int (8205 : Int32)), (.int p1)])) _
          refine XS.icmpNo X0.here hx rfl (hb hby d1_111) rfl (tlt h111).2.2.2 ?_
          exact s_114  (Eq.trans (by rw [own_f1_100, if_neg h104, if_pos h111]) hV)
        · show Steps p.tables e below (s₁.setTop (mkF m 111 #[.val (.int p1)] [(.int (8205 : Int32)), (.int p1)])) _
          refine XS.icmpYes X0.here hx rfl (pc0 := 111) (pc' := 191) rfl (hb hby d1_111) rfl (flt h111).2.2.2 (by decide) (by decide) ?_
          exact s_191  (Eq.trans (by rw [own_f1_100, if_neg h104, if_neg h111]) hV)
    have s_86 : own_f1_86 p1  = own_f1 p1 → Steps p.tables e below (s₁.setTop (mkF m 86 #[.val (.int p1)] [])) (s₁.setFrames fs) := by
      intro  hV
      show Steps p.tables e below (s₁.setTop (mkF m 86 #[.val (.int p1)] [])) _
      refine XS.iloadN X0.here hx rfl (hb hby d1_86) rfl ?_
      show Steps p.tables e below (s₁.setTop (mkF m 87 #[.val (.int p1)] [(.int p1)])) _
      refine XS.sipush X0.here hx rfl (hb hby d1_87) ?_
      by_cases h90 : p1 < (895 : Int32)
      · show Steps p.tables e below (s₁.setTop (mkF m 90 #[.val (.int p1)] [(.int (895 : Int32)), (.int p1)])) _
        refine XS.icmpYes X0.here hx rfl (pc0 := 90) (pc' := 100) rfl (hb hby d1_90) rfl (tlt h90).1 (by decide) (by decide) ?_
        exact s_100  (Eq.trans (by rw [own_f1_86, if_pos h90]) hV)
      · show Steps p.tables e below (s₁.setTop (mkF m 90 #[.val (.int p1)] [(.int (895 : Int32)), (.int p1)])) _
        refine XS.icmpNo X0.here hx rfl (hb hby d1_90) rfl (flt h90).1 ?_
        show Steps p.tables e below (s₁.setTop (mkF m 93 #[.val (.int p1)] [])) _
        refine XS.iloadN X0.here hx rfl (hb hby d1_93) rfl ?_
        show Steps p.tables e below (s₁.setTop (mkF m 94 #[.val (.int p1)] [(.int p1)])) _
        refine XS.sipush X0.here hx rfl (hb hby d1_94) ?_
        by_cases h97 : (8191 : Int32) < p1
        · show Steps p.tables e below (s₁.setTop (mkF m 97 #[.val (.int p1)] [(.int (8191 : Int32)), (.int p1)])) _
          refine XS.icmpNo X0.here hx rfl (hb hby d1_97) rfl (tlt h97).2.2.2 ?_
          exact s_100  (Eq.trans (by rw [own_f1_86, if_neg h90, if_pos h97]) hV)
        · show Steps p.tables e below (s₁.setTop (mkF m 97 #[.val (.int p1)] [(.int (8191 : Int32)), (.int p1)])) _
          refine XS.icmpYes X0.here hx rfl (pc0 := 97) (pc' := 191) rfl (hb hby d1_97) rfl (flt h97).2.2.2 (by decide) (by decide) ?_
          exact s_191  (Eq.trans (by rw [own_f1_86, if_neg h90, if_neg h97]) hV)
    have s_72 : own_f1_72 p1  = own_f1 p1 → Steps p.tables e below (s₁.setTop (mkF m 72 #[.val (.int p1)] [])) (s₁.setFrames fs) := by
      intro  hV
      show Steps p.tables e below (s₁.setTop (mkF m 72 #[.val (.int p1)] [])) _
      refine XS.iloadN X0.here hx rfl (hb hby d1_72) rfl ?_
      show Steps p.tables e below (s₁.setTop (mkF m 73 #[.val (.int p1)] [(.int p1)])) _
      refine XS.sipush X0.here hx rfl (hb hby d1_73) ?_
      by_cases h76 : p1 < (880 : Int32)
      · show Steps p.tables e below (s₁.setTop (mkF m 76 #[.val (.int p1)] [(.int (880 : Int32)), (.int p1)])) _
        refine XS.icmpYes X0.here hx rfl (pc0 := 76) (pc' := 86) rfl (hb hby d1_76) rfl (tlt h76).1 (by decide) (by decide) ?_
        exact s_86  (Eq.trans (by rw [own_f1_72, if_pos h76]) hV)
      · show Steps p.tables e below (s₁.setTop (mkF m 76 #[.val (.int p1)] [(.int (880 : Int32)), (.int p1)])) _
        refine XS.icmpNo X0.here hx rfl (hb hby d1_76) rfl (flt h76).1 ?_
        show Steps p.tables e below (s₁.setTop (mkF m 79 #[.val (.int p1)] [])) _
        refine XS.iloadN X0.here hx rfl (hb hby d1_79) rfl ?_
        show Steps p.tables e below (s₁.setTop (mkF m 80 #[.val (.int p1)] [(.int p1)])) _
        refine XS.sipush X0.here hx rfl (hb hby d1_80) ?_
        by_cases h83 : (893 : Int32) < p1
        · show Steps p.tables e below (s₁.setTop (mkF m 83 #[.val (.int p1)] [(.int (893 : Int32)), (.int p1)])) _
          refine XS.icmpNo X0.here hx rfl (hb hby d1_83) rfl (tlt h83).2.2.2 ?_
          exact s_86  (Eq.trans (by rw [own_f1_72, if_neg h76, if_pos h83]) hV)
        · show Steps p.tables e below (s₁.setTop (mkF m 83 #[.val (.int p1)] [(.int (893 : Int32)), (.int p1)])) _
          refine XS.icmpYes X0.here hx rfl (pc0 := 83) (pc' := 191) rfl (hb hby d1_83) rfl (flt h83).2.2.2 (by decide) (by decide) ?_
          exact s_191  (Eq.trans (by rw [own_f1_72, if_neg h76, if_neg h83]) hV)
    have s_58 : own_f1_58 p1  = own_f1 p1 → Steps p.tables e below (s₁.setTop (mkF m 58 #[.val (.int p1)] [])) (s₁.setFrames fs) := by
      intro  hV
      show Steps p.tables e below (s₁.setTop (mkF m 58 #[.val (.int p1)] [])) _
      refine XS.iloadN X0.here hx rfl (hb hby d1_58) rfl ?_
      show Steps p.tables e below (s₁.setTop (mkF m 59 #[.val (.int p1)] [(.int p1)])) _
      refine XS.sipush X0.here hx rfl (hb hby d1_59) ?_
      by_cases h62 : p1 < (248 : Int32)
      · show Steps p.tables e below (s₁.setTop (mkF m 62 #[.val (.int p1)] [(.int (248 : Int32)), (.int p1)])) _
        refine XS.icmpYes X0.here hx rfl (pc0 := 62) (pc' := 72) rfl (hb hby d1_62) rfl (tlt h62).1 (by decide) (by decide) ?_
        exact s_72  (Eq.trans (by rw [own_f1_58, if_pos h62]) hV)
      · show Steps p.tables e below (s₁.setTop (mkF m 62 #[.val (.int p1)] [(.int (248 : Int32)), (.int p1)])) _
        refine XS.icmpNo X0.here hx rfl (hb hby d1_62) rfl (flt h62).1 ?_
        show Steps p.tables e below (s₁.setTop (mkF m 65 #[.val (.int p1)] [])) _
        refine XS.iloadN X0.here hx rfl (hb hby d1_65) rfl ?_
        show Steps p.tables e below (s₁.setTop (mkF m 66 #[.val (.int p1)] [(.int p1)])) _
        refine XS.sipush X0.here hx rfl (hb hby d1_66) ?_
        by_cases h69 : (767 : Int32) < p1
        · show Steps p.tables e below (s₁.setTop (mkF m 69 #[.val (.int p1)] [(.int (767 : Int32)), (.int p1)])) _
          refine XS.icmpNo X0.here hx rfl (hb hby d1_69) rfl (tlt h69).2.2.2 ?_
          exact s_72  (Eq.trans (by rw [own_f1_58, if_neg h62, if_pos h69]) hV)
        · show Steps p.tables e below (s₁.setTop (mkF m 69 #[.val (.int p1)] [(.int (767 : Int32)), (.int p1)])) _
          refine XS.icmpYes X0.here hx rfl (pc0 := 69) (pc' := 191) rfl (hb hby d1_69) rfl (flt h69).2.2.2 (by decide) (by decide) ?_
          exact s_191  (Eq.trans (by rw [own_f1_58, if_neg h62, if_neg h69]) hV)
    have s_44 : own_f1_44 p1  = own_f1 p1 → Steps p.tables e below (s₁.setTop (mkF m 44 #[.val (.int p1)] [])) (s₁.setFrames fs) := by
      intro  hV
      show Steps p.tables e below (s₁.setTop (mkF m 44 #[.val (.int p1)] [])) _
      refine XS.iloadN X0.here hx rfl (hb hby d1_44) rfl ?_
      show Steps p.tables e below (s₁.setTop (mkF m 45 #[.val (.int p1)] [(.int p1)])) _
      refine XS.sipush X0.here hx rfl (hb hby d1_45) ?_
      by_cases h48 : p1 < (216 : Int32)
      · show Steps p.tables e below (s₁.setTop (mkF m 48 #[.val (.int p1)] [(.int (216 : Int32)), (.int p1)])) _
        refine XS.icmpYes X0.here hx rfl (pc0 := 48) (pc' := 58) rfl (hb hby d1_48) rfl (tlt h48).1 (by decide) (by decide) ?_
        exact s_58  (Eq.trans (by rw [own_f1_44, if_pos h48]) hV)
      · show Steps p.tables e below (s₁.setTop (mkF m 48 #[.val (.int p1)] [(.int (216 : Int32)), (.int p1)])) _
        refine XS.icmpNo X0.here hx rfl (hb hby d1_48) rfl (flt h48).1 ?_
        show Steps p.tables e below (s₁.setTop (mkF m 51 #[.val (.int p1)] [])) _
        refine XS.iloadN X0.here hx rfl (hb hby d1_51) rfl ?_
        show Steps p.tables e below (s₁.setTop (mkF m 52 #[.val (.int p1)] [(.int p1)])) _
        refine XS.sipush X0.here hx rfl (hb hby d1_52) ?_
        by_cases h55 : (246 : Int32) < p1
        · show Steps p.tables e below (s₁.setTop (mkF m 55 #[.val (.int p1)] [(.int (246 : Int32)), (.int p1)])) _
          refine XS.icmpNo X0.here hx rfl (hb hby d1_55) rfl (tlt h55).2.2.2 ?_
          exact s_58  (Eq.trans (by rw [own_f1_44, if_neg h48, if_pos h55]) hV)
        · show Steps p.tables e below (s₁.setTop (mkF m 55 #[.val (.int p1)] [(.int (246 : Int32)), (.int p1)])) _
          refine XS.icmpYes X0.here hx rfl (pc0 := 55) (pc' := 191) rfl (hb hby d1_55) rfl (flt h55).2.2.2 (by decide) (by decide) ?_
          exact s_191  (Eq.trans (by rw [own_f1_44, if_neg h48, if_neg h55]) hV)
    have s_24 : own_f1_24 p1  = own_f1 p1 → Steps p.tables e below (s₁.setTop (mkF m 24 #[.val (.int p1)] [])) (s₁.setFrames fs) := by
      intro  hV
      show Steps p.tables e below (s₁.setTop (mkF m 24 #[.val (.int p1)] [])) _
      refine XS.iloadN X0.here hx rfl (hb hby d1_24) rfl ?_
      show Steps p.tables e below (s₁.setTop (mkF m 25 #[.val (.int p1)] [(.int p1)])) _
      refine XS.bipush X0.here hx rfl (hb hby d1_25) ?_
      by_cases h27 : p1 = (95 : Int32)
      · show Steps p.tables e below (s₁.setTop (mkF m 27 #[.val (.int p1)] [(.int (95 : Int32)), (.int p1)])) _
        refine XS.icmpYes X0.here hx rfl (pc0 := 27) (pc' := 191) rfl (hb hby d1_27) rfl (teq h27).1 (by decide) (by decide) ?_
        exact s_191  (Eq.trans (by rw [own_f1_24, if_pos h27]) hV)
      · show Steps p.tables e below (s₁.setTop (mkF m 27 #[.val (.int p1)] [(.int (95 : Int32)), (.int p1)])) _
        refine XS.icmpNo X0.here hx rfl (hb hby d1_27) rfl (feq h27).1 ?_
        show Steps p.tables e below (s₁.setTop (mkF m 30 #[.val (.int p1)] [])) _
        refine XS.iloadN X0.here hx rfl (hb hby d1_30) rfl ?_
        show Steps p.tables e below (s₁.setTop (mkF m 31 #[.val (.int p1)] [(.int p1)])) _
        refine XS.sipush X0.here hx rfl (hb hby d1_31) ?_
        by_cases h34 : p1 < (192 : Int32)
        · show Steps p.tables e below (s₁.setTop (mkF m 34 #[.val (.int p1)] [(.int (192 : Int32)), (.int p1)])) _
          refine XS.icmpYes X0.here hx rfl (pc0 := 34) (pc' := 44) rfl (hb hby d1_34) rfl (tlt h34).1 (by decide) (by decide) ?_
          exact s_44  (Eq.trans (by rw [own_f1_24, if_neg h27, if_pos h34]) hV)
        · show Steps p.tables e below (s₁.setTop (mkF m 34 #[.val (.int p1)] [(.int (192 : Int32)), (.int p1)])) _
          refine XS.icmpNo X0.here hx rfl (hb hby d1_34) rfl (flt h34).1 ?_
          show Steps p.tables e below (s₁.setTop (mkF m 37 #[.val (.int p1)] [])) _
          refine XS.iloadN X0.here hx rfl (hb hby d1_37) rfl ?_
          show Steps p.tables e below (s₁.setTop (mkF m 38 #[.val (.int p1)] [(.int p1)])) _
          refine XS.sipush X0.here hx rfl (hb hby d1_38) ?_
          by_cases h41 : (214 : Int32) < p1
          · show Steps p.tables e below (s₁.setTop (mkF m 41 #[.val (.int p1)] [(.int (214 : Int32)), (.int p1)])) _
            refine XS.icmpNo X0.here hx rfl (hb hby d1_41) rfl (tlt h41).2.2.2 ?_
            exact s_44  (Eq.trans (by rw [own_f1_24, if_neg h27, if_neg h34, if_pos h41]) hV)
          · show Steps p.tables e below (s₁.setTop (mkF m 41 #[.val (.int p1)] [(.int (214 : Int32)), (.int p1)])) _
            refine XS.icmpYes X0.here hx rfl (pc0 := 41) (pc' := 191) rfl (hb hby d1_41) rfl (flt h41).2.2.2 (by decide) (by decide) ?_
            exact s_191  (Eq.trans (by rw [own_f1_24, if_neg h27, if_neg h34, if_neg h41]) hV)
    have s_12 : own_f1_12 p1  = own_f1 p1 → Steps p.tables e below (s₁.setTop (mkF m 12 #[.val (.int p1)] [])) (s₁.setFrames fs) := by
      intro  hV
      show Steps p.tables e below (s₁.setTop (mkF m 12 #[.val (.int p1)] [])) _
      refine XS.iloadN X0.here hx rfl (hb hby d1_12) rfl ?_
      show Steps p.tables e below (s₁.setTop (mkF m 13 #[.val (.int p1)] [(.int p1)])) _
      refine XS.bipush X0.here hx rfl (hb hby d1_13) ?_
      by_cases h15 : p1 < (65 : Int32)
      · show Steps p.tables e below (s₁.setTop (mkF m 15 #[.val (.int p1)] [(.int (65 : Int32)), (.int p1)])) _
        refine XS.icmpYes X0.here hx rfl (pc0 := 15) (pc' := 24) rfl (hb hby d1_15) rfl (tlt h15).1 (by decide) (by decide) ?_
        exact s_24  (Eq.trans (by rw [own_f1_12, if_pos h15]) hV)
      · show Steps p.tables e below (s₁.setTop (mkF m 15 #[.val (.int p1)] [(.int (65 : Int32)), (.int p1)])) _
        refine XS.icmpNo X0.here hx rfl (hb hby d1_15) rfl (flt h15).1 ?_
        show Steps p.tables e below (s₁.setTop (mkF m 18 #[.val (.int p1)] [])) _
        refine XS.iloadN X0.here hx rfl (hb hby d1_18) rfl ?_
        show Steps p.tables e below (s₁.setTop (mkF m 19 #[.val (.int p1)] [(.int p1)])) _
        refine XS.bipush X0.here hx rfl (hb hby d1_19) ?_
        by_cases h21 : (90 : Int32) < p1
        · show Steps p.tables e below (s₁.setTop (mkF m 21 #[.val (.int p1)] [(.int (90 : Int32)), (.int p1)])) _
          refine XS.icmpNo X0.here hx rfl (hb hby d1_21) rfl (tlt h21).2.2.2 ?_
          exact s_24  (Eq.trans (by rw [own_f1_12, if_neg h15, if_pos h21]) hV)
        · show Steps p.tables e below (s₁.setTop (mkF m 21 #[.val (.int p1)] [(.int (90 : Int32)), (.int p1)])) _
          refine XS.icmpYes X0.here hx rfl (pc0 := 21) (pc' := 191) rfl (hb hby d1_21) rfl (flt h21).2.2.2 (by decide) (by decide) ?_
          exact s_191  (Eq.trans (by rw [own_f1_12, if_neg h15, if_neg h21]) hV)
    have s_0 : own_f1 p1  = own_f1 p1 → Steps p.tables e below (s₁.setTop (mkF m 0 #[.val (.int p1)] [])) (s₁.setFrames fs) := by
      intro  hV
      show Steps p.tables e below (s₁.setTop (mkF m 0 #[.val (.int p1)] [])) _
      refine XS.iloadN X0.here hx rfl (hb hby d1_0) rfl ?_
      show Steps p.tables e below (s₁.setTop (mkF m 1 #[.val (.int p1)] [(.int p1)])) _
      refine XS.bipush X0.here hx rfl (hb hby d1_1) ?_
      by_cases h3 : p1 < (97 : Int32)
      · show Steps p.tables e below (s₁.setTop (mkF m 3 #[.val (.int p1)] [(.int (97 : Int32)), (.int p1)])) _
        refine XS.icmpYes X0.here hx rfl (pc0 := 3) (pc' := 12) rfl (hb hby d1_3) rfl (tlt h3).1 (by decide) (by decide) ?_
        exact s_12  (Eq.trans (by rw [own_f1, if_pos h3]) hV)
      · show Steps p.tables e below (s₁.setTop (mkF m 3 #[.val (.int p1)] [(.int (97 : Int32)), (.int p1)])) _
        refine XS.icmpNo X0.here hx rfl (hb hby d1_3) rfl (flt h3).1 ?_
        show Steps p.tables e below (s₁.setTop (mkF m 6 #[.val (.int p1)] [])) _
        refine XS.iloadN X0.here hx rfl (hb hby d1_6) rfl ?_
        show Steps p.tables e below (s₁.setTop (mkF m 7 #[.val (.int p1)] [(.int p1)])) _
        refine XS.bipush X0.here hx rfl (hb hby d1_7) ?_
        by_cases h9 : (122 : Int32) < p1
        · show Steps p.tables e below (s₁.setTop (mkF m 9 #[.val (.int p1)] [(.int (122 : Int32)), (.int p1)])) _
          refine XS.icmpNo X0.here hx rfl (hb hby d1_9) rfl (tlt h9).2.2.2 ?_
          exact s_12  (Eq.trans (by rw [own_f1, if_neg h3, if_pos h9]) hV)
        · show Steps p.tables e below (s₁.setTop (mkF m 9 #[.val (.int p1)] [(.int (122 : Int32)), (.int p1)])) _
          refine XS.icmpYes X0.here hx rfl (pc0 := 9) (pc' := 191) rfl (hb hby d1_9) rfl (flt h9).2.2.2 (by decide) (by decide) ?_
          exact s_191  (Eq.trans (by rw [own_f1, if_neg h3, if_neg h9]) hV)
    exact s_0 rfl
  · show Q1 Z p1 h0 n0 _ s₁.heap _
    rw [e0]
    exact ⟨rfl, N0, rfl⟩
theorem d2_0 : decode method_2_code 0 = .ok (.iload_n 0, 1) := by decide +kernel
theorem d2_1 : decode method_2_code 1 = .ok (.bipush 65, 2) := by decide +kernel
theorem d2_3 : decode method_2_code 3 = .ok (.if_icmp .ge 5, 3) := by decide +kernel
theorem d2_6 : decode method_2_code 6 = .ok (.iconst 0, 1) := by decide +kernel
theorem d2_8 : decode method_2_code 8 = .ok (.iload_n 0, 1) := by decide +kernel
theorem d2_9 : decode method_2_code 9 = .ok (.bipush 90, 2) := by decide +kernel
theorem d2_11 : decode method_2_code 11 = .ok (.if_icmp .gt 5, 3) := by decide +kernel
theorem d2_14 : decode method_2_code 14 = .ok (.iconst 1, 1) := by decide +kernel
theorem d2_16 : decode method_2_code 16 = .ok (.iload_n 0, 1) := by decide +kernel
theorem d2_17 : decode method_2_code 17 = .ok (.bipush 95, 2) := by decide +kernel
theorem d2_19 : decode method_2_code 19 = .ok (.if_icmp .ge 5, 3) := by decide +kernel
theorem d2_22 : decode method_2_code 22 = .ok (.iconst 0, 1) := by decide +kernel
theorem d2_24 : decode method_2_code 24 = .ok (.iload_n 0, 1) := by decide +kernel
theorem d2_25 : decode method_2_code 25 = .ok (.bipush 95, 2) := by decide +kernel
theorem d2_27 : decode method_2_code 27 = .ok (.if_icmp .ne 5, 3) := by decide +kernel
theorem d2_30 : decode method_2_code 30 = .ok (.iconst 1, 1) := by decide +kernel
theorem d2_32 : decode method_2_code 32 = .ok (.iload_n 0, 1) := by decide +kernel
theorem d2_33 : decode method_2_code 33 = .ok (.bipush 97, 2) := by decide +kernel
theorem d2_35 : decode method_2_code 35 = .ok (.if_icmp .ge 5, 3) := by decide +kernel
theorem d2_38 : decode method_2_code 38 = .ok (.iconst 0, 1) := by decide +kernel
theorem d2_40 : decode method_2_code 40 = .ok (.iload_n 0, 1) := by decide +kernel
theorem d2_41 : decode method_2_code 41 = .ok (.bipush 122, 2) := by decide +kernel
theorem d2_43 : decode method_2_code 43 = .ok (.if_icmp .gt 5, 3) := by decide +kernel
theorem d2_46 : decode method_2_code 46 = .ok (.iconst 1, 1) := by decide +kernel
theorem d2_48 : decode method_2_code 48 = .ok (.iload_n 0, 1) := by decide +kernel
theorem d2_49 : decode method_2_code 49 = .ok (.sipush 192, 3) := by decide +kernel
theorem d2_52 : decode method_2_code 52 = .ok (.if_icmp .ge 5, 3) := by decide +kernel
theorem d2_55 : decode method_2_code 55 = .ok (.iconst 0, 1) := by decide +kernel
theorem d2_57 : decode method_2_code 57 = .ok (.iload_n 0, 1) := by decide +kernel
theorem d2_58 : decode method_2_code 58 = .ok (.sipush 214, 3) := by decide +kernel
theorem d2_61 : decode method_2_code 61 = .ok (.if_icmp .gt 5, 3) := by decide +kernel
theorem d2_64 : decode method_2_code 64 = .ok (.iconst 1, 1) := by decide +kernel
theorem d2_66 : decode method_2_code 66 = .ok (.iload_n 0, 1) := by decide +kernel
theorem d2_67 : decode method_2_code 67 = .ok (.sipush 215, 3) := by decide +kernel
theorem d2_70 : decode method_2_code 70 = .ok (.if_icmp .ne 5, 3) := by decide +kernel
theorem d2_73 : decode method_2_code 73 = .ok (.iconst 0, 1) := by decide +kernel
theorem d2_75 : decode method_2_code 75 = .ok (.iload_n 0, 1) := by decide +kernel
theorem d2_76 : decode method_2_code 76 = .ok (.sipush 246, 3) := by decide +kernel
theorem d2_79 : decode method_2_code 79 = .ok (.if_icmp .gt 5, 3) := by decide +kernel
theorem d2_82 : decode method_2_code 82 = .ok (.iconst 1, 1) := by decide +kernel
theorem d2_84 : decode method_2_code 84 = .ok (.iload_n 0, 1) := by decide +kernel
theorem d2_85 : decode method_2_code 85 = .ok (.sipush 247, 3) := by decide +kernel
theorem d2_88 : decode method_2_code 88 = .ok (.if_icmp .ne 5, 3) := by decide +kernel
theorem d2_91 : decode method_2_code 91 = .ok (.iconst 0, 1) := by decide +kernel
theorem d2_93 : decode method_2_code 93 = .ok (.iload_n 0, 1) := by decide +kernel
theorem d2_94 : decode method_2_code 94 = .ok (.sipush 767, 3) := by decide +kernel
theorem d2_97 : decode method_2_code 97 = .ok (.if_icmp .gt 5, 3) := by decide +kernel
theorem d2_100 : decode method_2_code 100 = .ok (.iconst 1, 1) := by decide +kernel
theorem d2_102 : decode method_2_code 102 = .ok (.iload_n 0, 1) := by decide +kernel
theorem d2_103 : decode method_2_code 103 = .ok (.sipush 880, 3) := by decide +kernel
theorem d2_106 : decode method_2_code 106 = .ok (.if_icmp .ge 5, 3) := by decide +kernel
theorem d2_109 : decode method_2_code 109 = .ok (.iconst 0, 1) := by decide +kernel
theorem d2_111 : decode method_2_code 111 = .ok (.iload_n 0, 1) := by decide +kernel
theorem d2_112 : decode method_2_code 112 = .ok (.sipush 893, 3) := by decide +kernel
theorem d2_115 : decode method_2_code 115 = .ok (.if_icmp .gt 5, 3) := by decide +kernel
theorem d2_118 : decode method_2_code 118 = .ok (.iconst 1, 1) := by decide +kernel
theorem d2_120 : decode method_2_code 120 = .ok (.iload_n 0, 1) := by decide +kernel
theorem d2_121 : decode method_2_code 121 = .ok (.sipush 894, 3) := by decide +kernel
theorem d2_124 : decode method_2_code 124 = .ok (.if_icmp .ne 5, 3) := by decide +kernel
theorem d2_127 : decode method_2_code 127 = .ok (.iconst 0, 1) := by decide +kernel
theorem d2_129 : decode method_2_code 129 = .ok (.iload_n 0, 1) := by decide +kernel
theorem d2_130 : decode method_2_code 130 = .ok (.sipush 8191, 3) := by decide +kernel
theorem d2_133 : decode method_2_code 133 = .ok (.if_icmp .gt 5, 3) := by decide +kernel
theorem d2_136 : decode method_2_code 136 = .ok (.iconst 1, 1) := by decide +kernel
theorem d2_138 : decode method_2_code 138 = .ok (.iload_n 0, 1) := by decide +kernel
theorem d2_139 : decode method_2_code 139 = .ok (.sipush 8204, 3) := by decide +kernel
theorem d2_142 : decode method_2_code 142 = .ok (.if_icmp .ge 5, 3) := by decide +kernel
theorem d2_145 : decode method_2_code 145 = .ok (.iconst 0, 1) := by decide +kernel
theorem d2_147 : decode method_2_code 147 = .ok (.iload_n 0, 1) := by decide +kernel
theorem d2_148 : decode method_2_code 148 = .ok (.sipush 8205, 3) := by decide +kernel
theorem d2_151 : decode method_2_code 151 = .ok (.if_icmp .gt 5, 3) := by decide +kernel
theorem d2_154 : decode method_2_code 154 = .ok (.iconst 1, 1) := by decide +kernel
theorem d2_156 : decode method_2_code 156 = .ok (.iload_n 0, 1) := by decide +kernel
theorem d2_157 : decode method_2_code 157 = .ok (.sipush 8304, 3) := by decide +kernel
theorem d2_160 : decode method_2_code 160 = .ok (.if_icmp .ge 5, 3) := by decide +kernel
theorem d2_163 : decode method_2_code 163 = .ok (.iconst 0, 1) := by decide +kernel
theorem d2_165 : decode method_2_code 165 = .ok (.iload_n 0, 1) := by decide +kernel
theorem d2_166 : decode method_2_code 166 = .ok (.sipush 8591, 3) := by decide +kernel
theorem d2_169 : decode method_2_code 169 = .ok (.if_icmp .gt 5, 3) := by decide +kernel
theorem d2_172 : decode method_2_code 172 = .ok (.iconst 1, 1) := by decide +kernel
theorem d2_174 : decode method_2_code 174 = .ok (.iload_n 0, 1) := by decide +kernel
theorem d2_175 : decode method_2_code 175 = .ok (.sipush 11264, 3) := by decide +kernel
theorem d2_178 : decode method_2_code 178 = .ok (.if_icmp .ge 5, 3) := by decide +kernel
theorem d2_181 : decode method_2_code 181 = .ok (.iconst 0, 1) := by decide +kernel
theorem d2_183 : decode method_2_code 183 = .ok (.iload_n 0, 1) := by decide +kernel
theorem d2_184 : decode method_2_code 184 = .ok (.sipush 12271, 3) := by decide +kernel
theorem d2_187 : decode method_2_code 187 = .ok (.if_icmp .gt 5, 3) := by decide +kernel
theorem d2_190 : decode method_2_code 190 = .ok (.iconst 1, 1) := by decide +kernel
theorem d2_192 : decode method_2_code 192 = .ok (.iload_n 0, 1) := by decide +kernel
theorem d2_193 : decode method_2_code 193 = .ok (.sipush 12289, 3) := by decide +kernel
theorem d2_196 : decode method_2_code 196 = .ok (.if_icmp .ge 5, 3) := by decide +kernel
theorem d2_199 : decode method_2_code 199 = .ok (.iconst 0, 1) := by decide +kernel
theorem d2_201 : decode method_2_code 201 = .ok (.iload_n 0, 1) := by decide +kernel
theorem d2_202 : decode method_2_code 202 = .ok (.ldc 7, 2) := by decide +kernel
theorem d2_204 : decode method_2_code 204 = .ok (.if_icmp .gt 5, 3) := by decide +kernel
theorem d2_207 : decode method_2_code 207 = .ok (.iconst 1, 1) := by decide +kernel
theorem d2_209 : decode method_2_code 209 = .ok (.iload_n 0, 1) := by decide +kernel
theorem d2_210 : decode method_2_code 210 = .ok (.ldc 8, 2) := by decide +kernel
theorem d2_212 : decode method_2_code 212 = .ok (.if_icmp .ge 5, 3) := by decide +kernel
theorem d2_215 : decode method_2_code 215 = .ok (.iconst 0, 1) := by decide +kernel
theorem d2_217 : decode method_2_code 217 = .ok (.iload_n 0, 1) := by decide +kernel
theorem d2_218 : decode method_2_code 218 = .ok (.ldc 9, 2) := by decide +kernel
theorem d2_220 : decode method_2_code 220 = .ok (.if_icmp .gt 5, 3) := by decide +kernel
theorem d2_223 : decode method_2_code 223 = .ok (.iconst 1, 1) := by decide +kernel
theorem d2_225 : decode method_2_code 225 = .ok (.iload_n 0, 1) := by decide +kernel
theorem d2_226 : decode method_2_code 226 = .ok (.ldc 10, 2) := by decide +kernel
theorem d2_228 : decode method_2_code 228 = .ok (.if_icmp .ge 5, 3) := by decide +kernel
theorem d2_231 : decode method_2_code 231 = .ok (.iconst 0, 1) := by decide +kernel
theorem d2_233 : decode method_2_code 233 = .ok (.iload_n 0, 1) := by decide +kernel
theorem d2_234 : decode method_2_code 234 = .ok (.ldc 11, 2) := by decide +kernel
theorem d2_236 : decode method_2_code 236 = .ok (.if_icmp .gt 5, 3) := by decide +kernel
theorem d2_239 : decode method_2_code 239 = .ok (.iconst 1, 1) := by decide +kernel
theorem d2_241 : decode method_2_code 241 = .ok (.iload_n 0, 1) := by decide +kernel
theorem d2_242 : decode method_2_code 242 = .ok (.ldc 12, 2) := by decide +kernel
theorem d2_244 : decode method_2_code 244 = .ok (.if_icmp .ge 5, 3) := by decide +kernel
theorem d2_247 : decode method_2_code 247 = .ok (.iconst 0, 1) := by decide +kernel
theorem d2_249 : decode method_2_code 249 = .ok (.iload_n 0, 1) := by decide +kernel
theorem d2_250 : decode method_2_code 250 = .ok (.ldc 13, 2) := by decide +kernel
theorem d2_252 : decode method_2_code 252 = .ok (.if_icmp .gt 7, 3) := by decide +kernel
theorem d2_255 : decode method_2_code 255 = .ok (.iconst 1, 1) := by decide +kernel
theorem d2_256 : decode method_2_code 256 = .ok (.goto 4, 3) := by decide +kernel
theorem d2_259 : decode method_2_code 259 = .ok (.iconst 0, 1) := by decide +kernel
theorem d2_7 : decode method_2_code 7 = .ok (.ireturn, 1) := by decide +kernel
theorem d2_15 : decode method_2_code 15 = .ok (.ireturn, 1) := by decide +kernel
theorem d2_23 : decode method_2_code 23 = .ok (.ireturn, 1) := by decide +kernel
theorem d2_31 : decode method_2_code 31 = .ok (.ireturn, 1) := by decide +kernel
theorem d2_39 : decode method_2_code 39 = .ok (.ireturn, 1) := by decide +kernel
theorem d2_47 : decode method_2_code 47 = .ok (.ireturn, 1) := by decide +kernel
theorem d2_56 : decode method_2_code 56 = .ok (.ireturn, 1) := by decide +kernel
theorem d2_65 : decode method_2_code 65 = .ok (.ireturn, 1) := by decide +kernel
theorem d2_74 : decode method_2_code 74 = .ok (.ireturn, 1) := by decide +kernel
theorem d2_83 : decode method_2_code 83 = .ok (.ireturn, 1) := by decide +kernel
theorem d2_92 : decode method_2_code 92 = .ok (.ireturn, 1) := by decide +kernel
theorem d2_101 : decode method_2_code 101 = .ok (.ireturn, 1) := by decide +kernel
theorem d2_110 : decode method_2_code 110 = .ok (.ireturn, 1) := by decide +kernel
theorem d2_119 : decode method_2_code 119 = .ok (.ireturn, 1) := by decide +kernel
theorem d2_128 : decode method_2_code 128 = .ok (.ireturn, 1) := by decide +kernel
theorem d2_137 : decode method_2_code 137 = .ok (.ireturn, 1) := by decide +kernel
theorem d2_146 : decode method_2_code 146 = .ok (.ireturn, 1) := by decide +kernel
theorem d2_155 : decode method_2_code 155 = .ok (.ireturn, 1) := by decide +kernel
theorem d2_164 : decode method_2_code 164 = .ok (.ireturn, 1) := by decide +kernel
theorem d2_173 : decode method_2_code 173 = .ok (.ireturn, 1) := by decide +kernel
theorem d2_182 : decode method_2_code 182 = .ok (.ireturn, 1) := by decide +kernel
theorem d2_191 : decode method_2_code 191 = .ok (.ireturn, 1) := by decide +kernel
theorem d2_200 : decode method_2_code 200 = .ok (.ireturn, 1) := by decide +kernel
theorem d2_208 : decode method_2_code 208 = .ok (.ireturn, 1) := by decide +kernel
theorem d2_216 : decode method_2_code 216 = .ok (.ireturn, 1) := by decide +kernel
theorem d2_224 : decode method_2_code 224 = .ok (.ireturn, 1) := by decide +kernel
theorem d2_232 : decode method_2_code 232 = .ok (.ireturn, 1) := by decide +kernel
theorem d2_240 : decode method_2_code 240 = .ok (.ireturn, 1) := by decide +kernel
theorem d2_248 : decode method_2_code 248 = .ok (.ireturn, 1) := by decide +kernel
theorem d2_260 : decode method_2_code 260 = .ok (.ireturn, 1) := by decide +kernel
def own_f2_260 (p1 : Int32) (u0 : Int32) : Int32 := (nar .boolean u0)
def own_f2_259 (p1 : Int32) : Int32 := (own_f2_260 p1 (0 : Int32))
def own_f2_249 (p1 : Int32) : Int32 := (if (983039 : Int32) < p1 then (own_f2_259 p1) else (own_f2_260 p1 (1 : Int32)))
def own_f2_241 (p1 : Int32) : Int32 := (if p1 < (65536 : Int32) then (nar .boolean (0 : Int32)) else (own_f2_249 p1))
def own_f2_233 (p1 : Int32) : Int32 := (if (65533 : Int32) < p1 then (own_f2_241 p1) else (nar .boolean (1 : Int32)))
def own_f2_225 (p1 : Int32) : Int32 := (if p1 < (65008 : Int32) then (nar .boolean (0 : Int32)) else (own_f2_233 p1))
def own_f2_217 (p1 : Int32) : Int32 := (if (64975 : Int32) < p1 then (own_f2_225 p1) else (nar .boolean (1 : Int32)))
def own_f2_209 (p1 : Int32) : Int32 := (if p1 < (63744 : Int32) then (nar .boolean (0 : Int32)) else (own_f2_217 p1))
def own_f2_201 (p1 : Int32) : Int32 := (if (55295 : Int32) < p1 then (own_f2_209 p1) else (nar .boolean (1 : Int32)))
def own_f2_192 (p1 : Int32) : Int32 := (if p1 < (12289 : Int32) then (nar .boolean (0 : Int32)) else (own_f2_201 p1))
def own_f2_183 (p1 : Int32) : Int32 := (if (12271 : Int32) < p1 then (own_f2_192 p1) else (nar .boolean (1 : Int32)))
def own_f2_174 (p1 : Int32) : Int32 := (if p1 < (11264 : Int32) then (nar .boolean (0 : Int32)) else (own_f2_183 p1))
def own_f2_165 (p1 : Int32) : Int32 := (if (8591 : Int32) < p1 then (own_f2_174 p1) else (nar .boolean (1 : Int32)))
def own_f2_156 (p1 : Int32) : Int32 := (if p1 < (8304 : Int32) then (nar .boolean (0 : Int32)) else (own_f2_165 p1))
def own_f2_147 (p1 : Int32) : Int32 := (if (8205 : Int32) < p1 then (own_f2_156 p1) else (nar .boolean (1 : Int32)))
def own_f2_138 (p1 : Int32) : Int32 := (if p1 < (8204 : Int32) then (nar .boolean (0 : Int32)) else (own_f2_147 p1))
def own_f2_129 (p1 : Int32) : Int32 := (if (8191 : Int32) < p1 then (own_f2_138 p1) else (nar .boolean (1 : Int32)))
def own_f2_120 (p1 : Int32) : Int32 := (if p1 = (894 : Int32) then (nar .boolean (0 : Int32)) else (own_f2_129 p1))
def own_f2_111 (p1 : Int32) : Int32 := (if (893 : Int32) < p1 then (own_f2_120 p1) else (nar .boolean (1 : Int32)))
def own_f2_102 (p1 : Int32) : Int32 := (if p1 < (880 : Int32) then (nar .boolean (0 : Int32)) else (own_f2_111 p1))
def own_f2_93 (p1 : Int32) : Int32 := (if (767 : Int32) < p1 then (own_f2_102 p1) else (nar .boolean (1 : Int32)))
def own_f2_84 (p1 : Int32) : Int32 := (if p1 = (247 : Int32) then (nar .boolean (0 : Int32)) else (own_f2_93 p1))
def own_f2_75 (p1 : Int32) : Int32 := (if (246 : Int32) < p1 then (own_f2_84 p1) else (nar .boolean (1 : Int32)))
def own_f2_66 (p1 : Int32) : Int32 := (if p1 = (215 : Int32) then (nar .boolean (0 : Int32)) else (own_f2_75 p1))
def own_f2_57 (p1 : Int32) : Int32 := (if (214 : Int32) < p1 then (own_f2_66 p1) else (nar .boolean (1 : Int32)))
def own_f2_48 (p1 : Int32) : Int32 := (if p1 < (192 : Int32) then (nar .boolean (0 : Int32)) else (own_f2_57 p1))
def own_f2_40 (p1 : Int32) : Int32 := (if (122 : Int32) < p1 then (own_f2_48 p1) else (nar .boolean (1 : Int32)))
def own_f2_32 (p1 : Int32) : Int32 := (if p1 < (97 : Int32) then (nar .boolean (0 : Int32)) else (own_f2_40 p1))
def own_f2_24 (p1 : Int32) : Int32 := (if p1 = (95 : Int32) then (nar .boolean (1 : Int32)) else (own_f2_32 p1))
def own_f2_16 (p1 : Int32) : Int32 := (if p1 < (95 : Int32) then (nar .boolean (0 : Int32)) else (own_f2_24 p1))
def own_f2_8 (p1 : Int32) : Int32 := (if (90 : Int32) < p1 then (own_f2_16 p1) else (nar .boolean (1 : Int32)))
def own_f2 (p1 : Int32) : Int32 := (if p1 < (65 : Int32) then (nar .boolean (0 : Int32)) else (own_f2_8 p1))
theorem pn_1 : plainName "com/example/melampus/melampus/model/XmlNamesIsNameStartCharPinLaw" = true := by first | (simp [plainName, overriddenIn]; done) | decide +kernel
theorem ef_rm2 (m : MethodId) (x0 : Int32) : entryFrame m #[(.int x0)] 1 = mkF m 0 #[.val (.int x0)] [] := by first | (simp [entryFrame, mkF, argsToLocals, Value.category]; done) | rfl
def Q2 (Z : State) (p1 : Int32) (h0 : Heap) (n0 : Nat) (v : Option Value) (h : Heap) (L : List Loc) : Prop := v = some (.int (own_f2 p1)) ∧ Fr n0 L ∧ h = h0
set_option maxHeartbeats 40000000 in
theorem rm2 (l : Launch) (Z : State) (a0 : Array Value) (hw : ∀ d ∈ tables_1, d.before a0 Z = true) (ws : List Jvm.Cond) (p1 : Int32) (h0 : Heap) (n0 : Nat) (Z0 : n0 ≤ h0.size) :
    MetFree l (⟨"com/example/melampus/melampus/model/XmlNamesIsNameStartCharPinLaw", "ref", "(I)Z"⟩ : MethodName) (head1 (Jvm.Cond.code (⟨"com/example/melampus/melampus/model/XmlNamesIsNameStartCharPinLaw", "ref", "(I)Z"⟩ : MethodName) method_2_code 1 (some .boolean) :: ws) ({ frames := 0, cells := 0, slots := 0, locals := 0 } : Room)) (fun a U => a = #[(.int p1)] ∧ Z.Warmed39 U.vm ∧ U.heap = h0) (fun _ _ _ _ _ => True) (fun _ U o U' => ∃ v L, o = .returned v ∧ Q2 Z p1 h0 n0 v U'.heap L ∧ FrameEnd U o U' L ({ frames := 0, cells := 0, slots := 0, locals := 0 } : Room).cells ({ frames := 0, cells := 0, slots := 0, locals := 0 } : Room).slots) := by
  refine MetFree.of_bodySF (plainFor_of_name pn_1) hisR ?_
  intro p e s m args below meth c s₁ Bd hml0 hP hK
  obtain ⟨rfl, hZ, hh⟩ := hP
  have hx := Bd.exec
  have hby := Bd.bytes
  have hml : c.maxLocals = 1 := hml0
  have hown : s.vm.findClass "com/example/melampus/melampus/model/XmlNamesIsNameStartCharPinLaw" = some m.cls := findClass_of_methodNamed Bd.named
  have hnm := (name_of_methodNamed Bd.named Bd.method).1
  have X0 : Stand p l e ({ frames := 0, cells := 0, slots := 0, locals := 0 } : Room) s m #[(.int p1)] below meth c s₁ [] 0 0 := Stand.of_body Bd
  have e0 : s₁.heap = h0 := by rw [← hh, Bd.state]; rfl
  have N0 := Fr.nil n0
  have pre0 : ∀ tgt, Steps p.tables e below (s₁.setTop (mkF m 0 #[.val (.int p1)] [])) tgt → Steps p.tables e below (s₁.setTop (entryFrame m #[(.int p1)] 1)) tgt := fun tgt k => castTop (ef_rm2 m p1) k
  obtain ⟨fs, hr, hrun, hended, hW, hsame⟩ := X0.leave (v := some (.int (own_f2 p1))) (fun h => by rw [Bd.returns] at h; cases h)
  refine ⟨_, _, pre0 _ ?_, hrun, hended, _, _, rfl, ?_, ⟨_, rfl⟩, hW, hsame.mono (by decide) (by decide)⟩
  · have s_260 : ∀ (u0 : Int32), own_f2_260 p1 u0 = own_f2 p1 → Steps p.tables e below (s₁.setTop (mkF m 260 #[.val (.int p1)] [(.int u0)])) (s₁.setFrames fs) := by
      intro u0 hV
      show Steps p.tables e below (s₁.setTop (mkF m 260 #[.val (.int p1)] [(.int u0)])) _
      have he : (nar .boolean u0) = own_f2 p1 := Eq.trans (by rw [own_f2_260]) hV
      rw [← he] at hr
      exact retN X0 hx (t := .boolean) Bd.returns (by simp) (hb hby d2_260) hr
    have s_259 : own_f2_259 p1  = own_f2 p1 → Steps p.tables e below (s₁.setTop (mkF m 259 #[.val (.int p1)] [])) (s₁.setFrames fs) := by
      intro  hV
      show Steps p.tables e below (s₁.setTop (mkF m 259 #[.val (.int p1)] [])) _
      refine XS.iconst X0.here hx rfl (hb hby d2_259) ?_
      exact s_260 (0 : Int32) (Eq.trans (by rw [own_f2_259]) hV)
    have s_249 : own_f2_249 p1  = own_f2 p1 → Steps p.tables e below (s₁.setTop (mkF m 249 #[.val (.int p1)] [])) (s₁.setFrames fs) := by
      intro  hV
      show Steps p.tables e below (s₁.setTop (mkF m 249 #[.val (.int p1)] [])) _
      refine XS.iloadN X0.here hx rfl (hb hby d2_249) rfl ?_
      show Steps p.tables e below (s₁.setTop (mkF m 250 #[.val (.int p1)] [(.int p1)])) _
      refine X0.ldcInt hx hown (mvT hZ (hw _ (List.mem_of_getElem? (i := 7) rfl))) (g := (mkF m 250 #[.val (.int p1)] [(.int p1)])) rfl (hb hby d2_250) _ ?_
      by_cases h252 : (983039 : Int32) < p1
      · show Steps p.tables e below (s₁.setTop (mkF m 252 #[.val (.int p1)] [(.int (983039 : Int32)), (.int p1)])) _
        refine XS.icmpYes X0.here hx rfl (pc0 := 252) (pc' := 259) rfl (hb hby d2_252) rfl (tlt h252).2.2.1 (by decide) (by decide) ?_
        exact s_259  (Eq.trans (by rw [own_f2_249, if_pos h252]) hV)
      · show Steps p.tables e below (s₁.setTop (mkF m 252 #[.val (.int p1)] [(.int (983039 : Int32)), (.int p1)])) _
        refine XS.icmpNo X0.here hx rfl (hb hby d2_252) rfl (flt h252).2.2.1 ?_
        show Steps p.tables e below (s₁.setTop (mkF m 255 #[.val (.int p1)] [])) _
        refine XS.iconst X0.here hx rfl (hb hby d2_255) ?_
        show Steps p.tables e below (s₁.setTop (mkF m 256 #[.val (.int p1)] [(.int (1 : Int32))])) _
        refine XS.goto X0.here hx rfl (pc0 := 256) (pc' := 260) rfl (hb hby d2_256) (by decide) (by decide) ?_
        exact s_260 (1 : Int32) (Eq.trans (by rw [own_f2_249, if_neg h252]) hV)
    have s_241 : own_f2_241 p1  = own_f2 p1 → Steps p.tables e below (s₁.setTop (mkF m 241 #[.val (.int p1)] [])) (s₁.setFrames fs) := by
      intro  hV
      show Steps p.tables e below (s₁.setTop (mkF m 241 #[.val (.int p1)] [])) _
      refine XS.iloadN X0.here hx rfl (hb hby d2_241) rfl ?_
      show Steps p.tables e below (s₁.setTop (mkF m 242 #[.val (.int p1)] [(.int p1)])) _
      refine X0.ldcInt hx hown (mvT hZ (hw _ (List.mem_of_getElem? (i := 6) rfl))) (g := (mkF m 242 #[.val (.int p1)] [(.int p1)])) rfl (hb hby d2_242) _ ?_
      by_cases h244 : p1 < (65536 : Int32)
      · show Steps p.tables e below (s₁.setTop (mkF m 244 #[.val (.int p1)] [(.int (65536 : Int32)), (.int p1)])) _
        refine XS.icmpNo X0.here hx rfl (hb hby d2_244) rfl (tlt h244).2.1 ?_
        show Steps p.tables e below (s₁.setTop (mkF m 247 #[.val (.int p1)] [])) _
        refine XS.iconst X0.here hx rfl (hb hby d2_247) ?_
        show Steps p.tables e below (s₁.setTop (mkF m 248 #[.val (.int p1)] [(.int (0 : Int32))])) _
        have he : (nar .boolean (0 : Int32)) = own_f2 p1 := Eq.trans (by rw [own_f2_241, if_pos h244]) hV
        rw [← he] at hr
        exact retN X0 hx (t := .boolean) Bd.returns (by simp) (hb hby d2_248) hr
      · show Steps p.tables e below (s₁.setTop (mkF m 244 #[.val (.int p1)] [(.int (65536 : Int32)), (.int p1)])) _
        refine XS.icmpYes X0.here hx rfl (pc0 := 244) (pc' := 249) rfl (hb hby d2_244) rfl (flt h244).2.1 (by decide) (by decide) ?_
        exact s_249  (Eq.trans (by rw [own_f2_241, if_neg h244]) hV)
    have s_233 : own_f2_233 p1  = own_f2 p1 → Steps p.tables e below (s₁.setTop (mkF m 233 #[.val (.int p1)] [])) (s₁.setFrames fs) := by
      intro  hV
      show Steps p.tables e below (s₁.setTop (mkF m 233 #[.val (.int p1)] [])) _
      refine XS.iloadN X0.here hx rfl (hb hby d2_233) rfl ?_
      show Steps p.tables e below (s₁.setTop (mkF m 234 #[.val (.int p1)] [(.int p1)])) _
      refine X0.ldcInt hx hown (mvT hZ (hw _ (List.mem_of_getElem? (i := 5) rfl))) (g := (mkF m 234 #[.val (.int p1)] [(.int p1)])) rfl (hb hby d2_234) _ ?_
      by_cases h236 : (65533 : Int32) < p1
      · show Steps p.tables e below (s₁.setTop (mkF m 236 #[.val (.int p1)] [(.int (65533 : Int32)), (.int p1)])) _
        refine XS.icmpYes X0.here hx rfl (pc0 := 236) (pc' := 241) rfl (hb hby d2_236) rfl (tlt h236).2.2.1 (by decide) (by decide) ?_
        exact s_241  (Eq.trans (by rw [own_f2_233, if_pos h236]) hV)
      · show Steps p.tables e below (s₁.setTop (mkF m 236 #[.val (.int p1)] [(.int (65533 : Int32)), (.int p1)])) _
        refine XS.icmpNo X0.here hx rfl (hb hby d2_236) rfl (flt h236).2.2.1 ?_
        show Steps p.tables e below (s₁.setTop (mkF m 239 #[.val (.int p1)] [])) _
        refine XS.iconst X0.here hx rfl (hb hby d2_239) ?_
        show Steps p.tables e below (s₁.setTop (mkF m 240 #[.val (.int p1)] [(.int (1 : Int32))])) _
        have he : (nar .boolean (1 : Int32)) = own_f2 p1 := Eq.trans (by rw [own_f2_233, if_neg h236]) hV
        rw [← he] at hr
        exact retN X0 hx (t := .boolean) Bd.returns (by simp) (hb hby d2_240) hr
    have s_225 : own_f2_225 p1  = own_f2 p1 → Steps p.tables e below (s₁.setTop (mkF m 225 #[.val (.int p1)] [])) (s₁.setFrames fs) := by
      intro  hV
      show Steps p.tables e below (s₁.setTop (mkF m 225 #[.val (.int p1)] [])) _
      refine XS.iloadN X0.here hx rfl (hb hby d2_225) rfl ?_
      show Steps p.tables e below (s₁.setTop (mkF m 226 #[.val (.int p1)] [(.int p1)])) _
      refine X0.ldcInt hx hown (mvT hZ (hw _ (List.mem_of_getElem? (i := 4) rfl))) (g := (mkF m 226 #[.val (.int p1)] [(.int p1)])) rfl (hb hby d2_226) _ ?_
      by_cases h228 : p1 < (65008 : Int32)
      · show Steps p.tables e below (s₁.setTop (mkF m 228 #[.val (.int p1)] [(.int (65008 : Int32)), (.int p1)])) _
        refine XS.icmpNo X0.here hx rfl (hb hby d2_228) rfl (tlt h228).2.1 ?_
        show Steps p.tables e below (s₁.setTop (mkF m 231 #[.val (.int p1)] [])) _
        refine XS.iconst X0.here hx rfl (hb hby d2_231) ?_
        show Steps p.tables e below (s₁.setTop (mkF m 232 #[.val (.int p1)] [(.int (0 : Int32))])) _
        have he : (nar .boolean (0 : Int32)) = own_f2 p1 := Eq.trans (by rw [own_f2_225, if_pos h228]) hV
        rw [← he] at hr
        exact retN X0 hx (t := .boolean) Bd.returns (by simp) (hb hby d2_232) hr
      · show Steps p.tables e below (s₁.setTop (mkF m 228 #[.val (.int p1)] [(.int (65008 : Int32)), (.int p1)])) _
        refine XS.icmpYes X0.here hx rfl (pc0 := 228) (pc' := 233) rfl (hb hby d2_228) rfl (flt h228).2.1 (by decide) (by decide) ?_
        exact s_233  (Eq.trans (by rw [own_f2_225, if_neg h228]) hV)
    have s_217 : own_f2_217 p1  = own_f2 p1 → Steps p.tables e below (s₁.setTop (mkF m 217 #[.val (.int p1)] [])) (s₁.setFrames fs) := by
      intro  hV
      show Steps p.tables e below (s₁.setTop (mkF m 217 #[.val (.int p1)] [])) _
      refine XS.iloadN X0.here hx rfl (hb hby d2_217) rfl ?_
      show Steps p.tables e below (s₁.setTop (mkF m 218 #[.val (.int p1)] [(.int p1)])) _
      refine X0.ldcInt hx hown (mvT hZ (hw _ (List.mem_of_getElem? (i := 3) rfl))) (g := (mkF m 218 #[.val (.int p1)] [(.int p1)])) rfl (hb hby d2_218) _ ?_
      by_cases h220 : (64975 : Int32) < p1
      · show Steps p.tables e below (s₁.setTop (mkF m 220 #[.val (.int p1)] [(.int (64975 : Int32)), (.int p1)])) _
        refine XS.icmpYes X0.here hx rfl (pc0 := 220) (pc' := 225) rfl (hb hby d2_220) rfl (tlt h220).2.2.1 (by decide) (by decide) ?_
        exact s_225  (Eq.trans (by rw [own_f2_217, if_pos h220]) hV)
      · show Steps p.tables e below (s₁.setTop (mkF m 220 #[.val (.int p1)] [(.int (64975 : Int32)), (.int p1)])) _
        refine XS.icmpNo X0.here hx rfl (hb hby d2_220) rfl (flt h220).2.2.1 ?_
        show Steps p.tables e below (s₁.setTop (mkF m 223 #[.val (.int p1)] [])) _
        refine XS.iconst X0.here hx rfl (hb hby d2_223) ?_
        show Steps p.tables e below (s₁.setTop (mkF m 224 #[.val (.int p1)] [(.int (1 : Int32))])) _
        have he : (nar .boolean (1 : Int32)) = own_f2 p1 := Eq.trans (by rw [own_f2_217, if_neg h220]) hV
        rw [← he] at hr
        exact retN X0 hx (t := .boolean) Bd.returns (by simp) (hb hby d2_224) hr
    have s_209 : own_f2_209 p1  = own_f2 p1 → Steps p.tables e below (s₁.setTop (mkF m 209 #[.val (.int p1)] [])) (s₁.setFrames fs) := by
      intro  hV
      show Steps p.tables e below (s₁.setTop (mkF m 209 #[.val (.int p1)] [])) _
      refine XS.iloadN X0.here hx rfl (hb hby d2_209) rfl ?_
      show Steps p.tables e below (s₁.setTop (mkF m 210 #[.val (.int p1)] [(.int p1)])) _
      refine X0.ldcInt hx hown (mvT hZ (hw _ (List.mem_of_getElem? (i := 2) rfl))) (g := (mkF m 210 #[.val (.int p1)] [(.int p1)])) rfl (hb hby d2_210) _ ?_
      by_cases h212 : p1 < (63744 : Int32)
      · show Steps p.tables e below (s₁.setTop (mkF m 212 #[.val (.int p1)] [(.int (63744 : Int32)), (.int p1)])) _
        refine XS.icmpNo X0.here hx rfl (hb hby d2_212) rfl (tlt h212).2.1 ?_
        show Steps p.tables e below (s₁.setTop (mkF m 215 #[.val (.int p1)] [])) _
        refine XS.iconst X0.here hx rfl (hb hby d2_215) ?_
        show Steps p.tables e below (s₁.setTop (mkF m 216 #[.val (.int p1)] [(.int (0 : Int32))])) _
        have he : (nar .boolean (0 : Int32)) = own_f2 p1 := Eq.trans (by rw [own_f2_209, if_pos h212]) hV
        rw [← he] at hr
        exact retN X0 hx (t := .boolean) Bd.returns (by simp) (hb hby d2_216) hr
      · show Steps p.tables e below (s₁.setTop (mkF m 212 #[.val (.int p1)] [(.int (63744 : Int32)), (.int p1)])) _
        refine XS.icmpYes X0.here hx rfl (pc0 := 212) (pc' := 217) rfl (hb hby d2_212) rfl (flt h212).2.1 (by decide) (by decide) ?_
        exact s_217  (Eq.trans (by rw [own_f2_209, if_neg h212]) hV)
    have s_201 : own_f2_201 p1  = own_f2 p1 → Steps p.tables e below (s₁.setTop (mkF m 201 #[.val (.int p1)] [])) (s₁.setFrames fs) := by
      intro  hV
      show Steps p.tables e below (s₁.setTop (mkF m 201 #[.val (.int p1)] [])) _
      refine XS.iloadN X0.here hx rfl (hb hby d2_201) rfl ?_
      show Steps p.tables e below (s₁.setTop (mkF m 202 #[.val (.int p1)] [(.int p1)])) _
      refine X0.ldcInt hx hown (mvT hZ (hw _ (List.mem_of_getElem? (i := 1) rfl))) (g := (mkF m 202 #[.val (.int p1)] [(.int p1)])) rfl (hb hby d2_202) _ ?_
      by_cases h204 : (55295 : Int32) < p1
      · show Steps p.tables e below (s₁.setTop (mkF m 204 #[.val (.int p1)] [(.int (55295 : Int32)), (.int p1)])) _
        refine XS.icmpYes X0.here hx rfl (pc0 := 204) (pc' := 209) rfl (hb hby d2_204) rfl (tlt h204).2.2.1 (by decide) (by decide) ?_
        exact s_209  (Eq.trans (by rw [own_f2_201, if_pos h204]) hV)
      · show Steps p.tables e below (s₁.setTop (mkF m 204 #[.val (.int p1)] [(.int (55295 : Int32)), (.int p1)])) _
        refine XS.icmpNo X0.here hx rfl (hb hby d2_204) rfl (flt h204).2.2.1 ?_
        show Steps p.tables e below (s₁.setTop (mkF m 207 #[.val (.int p1)] [])) _
        refine XS.iconst X0.here hx rfl (hb hby d2_207) ?_
        show Steps p.tables e below (s₁.setTop (mkF m 208 #[.val (.int p1)] [(.int (1 : Int32))])) _
        have he : (nar .boolean (1 : Int32)) = own_f2 p1 := Eq.trans (by rw [own_f2_201, if_neg h204]) hV
        rw [← he] at hr
        exact retN X0 hx (t := .boolean) Bd.returns (by simp) (hb hby d2_208) hr
    have s_192 : own_f2_192 p1  = own_f2 p1 → Steps p.tables e below (s₁.setTop (mkF m 192 #[.val (.int p1)] [])) (s₁.setFrames fs) := by
      intro  hV
      show Steps p.tables e below (s₁.setTop (mkF m 192 #[.val (.int p1)] [])) _
      refine XS.iloadN X0.here hx rfl (hb hby d2_192) rfl ?_
      show Steps p.tables e below (s₁.setTop (mkF m 193 #[.val (.int p1)] [(.int p1)])) _
      refine XS.sipush X0.here hx rfl (hb hby d2_193) ?_
      by_cases h196 : p1 < (12289 : Int32)
      · show Steps p.tables e below (s₁.setTop (mkF m 196 #[.val (.int p1)] [(.int (12289 : Int32)), (.int p1)])) _
        refine XS.icmpNo X0.here hx rfl (hb hby d2_196) rfl (tlt h196).2.1 ?_
        show Steps p.tables e below (s₁.setTop (mkF m 199 #[.val (.int p1)] [])) _
        refine XS.iconst X0.here hx rfl (hb hby d2_199) ?_
        show Steps p.tables e below (s₁.setTop (mkF m 200 #[.val (.int p1)] [(.int (0 : Int32))])) _
        have he : (nar .boolean (0 : Int32)) = own_f2 p1 := Eq.trans (by rw [own_f2_192, if_pos h196]) hV
        rw [← he] at hr
        exact retN X0 hx (t := .boolean) Bd.returns (by simp) (hb hby d2_200) hr
      · show Steps p.tables e below (s₁.setTop (mkF m 196 #[.val (.int p1)] [(.int (12289 : Int32)), (.int p1)])) _
        refine XS.icmpYes X0.here hx rfl (pc0 := 196) (pc' := 201) rfl (hb hby d2_196) rfl (flt h196).2.1 (by decide) (by decide) ?_
        exact s_201  (Eq.trans (by rw [own_f2_192, if_neg h196]) hV)
    have s_183 : own_f2_183 p1  = own_f2 p1 → Steps p.tables e below (s₁.setTop (mkF m 183 #[.val (.int p1)] [])) (s₁.setFrames fs) := by
      intro  hV
      show Steps p.tables e below (s₁.setTop (mkF m 183 #[.val (.int p1)] [])) _
      refine XS.iloadN X0.here hx rfl (hb hby d2_183) rfl ?_
      show Steps p.tables e below (s₁.setTop (mkF m 184 #[.val (.int p1)] [(.int p1)])) _
      refine XS.sipush X0.here hx rfl (hb hby d2_184) ?_
      by_cases h187 : (12271 : Int32) < p1
      · show Steps p.tables e below (s₁.setTop (mkF m 187 #[.val (.int p1)] [(.int (12271 : Int32)), (.int p1)])) _
        refine XS.icmpYes X0.here hx rfl (pc0 := 187) (pc' := 192) rfl (hb hby d2_187) rfl (tlt h187).2.2.1 (by decide) (by decide) ?_
        exact s_192  (Eq.trans (by rw [own_f2_183, if_pos h187]) hV)
      · show Steps p.tables e below (s₁.setTop (mkF m 187 #[.val (.int p1)] [(.int (12271 : Int32)), (.int p1)])) _
        refine XS.icmpNo X0.here hx rfl (hb hby d2_187) rfl (flt h187).2.2.1 ?_
        show Steps p.tables e below (s₁.setTop (mkF m 190 #[.val (.int p1)] [])) _
        refine XS.iconst X0.here hx rfl (hb hby d2_190) ?_
        show Steps p.tables e below (s₁.setTop (mkF m 191 #[.val (.int p1)] [(.int (1 : Int32))])) _
        have he : (nar .boolean (1 : Int32)) = own_f2 p1 := Eq.trans (by rw [own_f2_183, if_neg h187]) hV
        rw [← he] at hr
        exact retN X0 hx (t := .boolean) Bd.returns (by simp) (hb hby d2_191) hr
    have s_174 : own_f2_174 p1  = own_f2 p1 → Steps p.tables e below (s₁.setTop (mkF m 174 #[.val (.int p1)] [])) (s₁.setFrames fs) := by
      intro  hV
      show Steps p.tables e below (s₁.setTop (mkF m 174 #[.val (.int p1)] [])) _
      refine XS.iloadN X0.here hx rfl (hb hby d2_174) rfl ?_
      show Steps p.tables e below (s₁.setTop (mkF m 175 #[.val (.int p1)] [(.int p1)])) _
      refine XS.sipush X0.here hx rfl (hb hby d2_175) ?_
      by_cases h178 : p1 < (11264 : Int32)
      · show Steps p.tables e below (s₁.setTop (mkF m 178 #[.val (.int p1)] [(.int (11264 : Int32)), (.int p1)])) _
        refine XS.icmpNo X0.here hx rfl (hb hby d2_178) rfl (tlt h178).2.1 ?_
        show Steps p.tables e below (s₁.setTop (mkF m 181 #[.val (.int p1)] [])) _
        refine XS.iconst X0.here hx rfl (hb hby d2_181) ?_
        show Steps p.tables e below (s₁.setTop (mkF m 182 #[.val (.int p1)] [(.int (0 : Int32))])) _
        have he : (nar .boolean (0 : Int32)) = own_f2 p1 := Eq.trans (by rw [own_f2_174, if_pos h178]) hV
        rw [← he] at hr
        exact retN X0 hx (t := .boolean) Bd.returns (by simp) (hb hby d2_182) hr
      · show Steps p.tables e below (s₁.setTop (mkF m 178 #[.val (.int p1)] [(.int (11264 : Int32)), (.int p1)])) _
        refine XS.icmpYes X0.here hx rfl (pc0 := 178) (pc' := 183) rfl (hb hby d2_178) rfl (flt h178).2.1 (by decide) (by decide) ?_
        exact s_183  (Eq.trans (by rw [own_f2_174, if_neg h178]) hV)
    have s_165 : own_f2_165 p1  = own_f2 p1 → Steps p.tables e below (s₁.setTop (mkF m 165 #[.val (.int p1)] [])) (s₁.setFrames fs) := by
      intro  hV
      show Steps p.tables e below (s₁.setTop (mkF m 165 #[.val (.int p1)] [])) _
      refine XS.iloadN X0.here hx rfl (hb hby d2_165) rfl ?_
      show Steps p.tables e below (s₁.setTop (mkF m 166 #[.val (.int p1)] [(.int p1)])) _
      refine XS.sipush X0.here hx rfl (hb hby d2_166) ?_
      by_cases h169 : (8591 : Int32) < p1
      · show Steps p.tables e below (s₁.setTop (mkF m 169 #[.val (.int p1)] [(.int (8591 : Int32)), (.int p1)])) _
        refine XS.icmpYes X0.here hx rfl (pc0 := 169) (pc' := 174) rfl (hb hby d2_169) rfl (tlt h169).2.2.1 (by decide) (by decide) ?_
        exact s_174  (Eq.trans (by rw [own_f2_165, if_pos h169]) hV)
      · show Steps p.tables e below (s₁.setTop (mkF m 169 #[.val (.int p1)] [(.int (8591 : Int32)), (.int p1)])) _
        refine XS.icmpNo X0.here hx rfl (hb hby d2_169) rfl (flt h169).2.2.1 ?_
        show Steps p.tables e below (s₁.setTop (mkF m 172 #[.val (.int p1)] [])) _
        refine XS.iconst X0.here hx rfl (hb hby d2_172) ?_
        show Steps p.tables e below (s₁.setTop (mkF m 173 #[.val (.int p1)] [(.int (1 : Int32))])) _
        have he : (nar .boolean (1 : Int32)) = own_f2 p1 := Eq.trans (by rw [own_f2_165, if_neg h169]) hV
        rw [← he] at hr
        exact retN X0 hx (t := .boolean) Bd.returns (by simp) (hb hby d2_173) hr
    have s_156 : own_f2_156 p1  = own_f2 p1 → Steps p.tables e below (s₁.setTop (mkF m 156 #[.val (.int p1)] [])) (s₁.setFrames fs) := by
      intro  hV
      show Steps p.tables e below (s₁.setTop (mkF m 156 #[.val (.int p1)] [])) _
      refine XS.iloadN X0.here hx rfl (hb hby d2_156) rfl ?_
      show Steps p.tables e below (s₁.setTop (mkF m 157 #[.val (.int p1)] [(.int p1)])) _
      refine XS.sipush X0.here hx rfl (hb hby d2_157) ?_
      by_cases h160 : p1 < (8304 : Int32)
      · show Steps p.tables e below (s₁.setTop (mkF m 160 #[.val (.int p1)] [(.int (8304 : Int32)), (.int p1)])) _
        refine XS.icmpNo X0.here hx rfl (hb hby d2_160) rfl (tlt h160).2.1 ?_
        show Steps p.tables e below (s₁.setTop (mkF m 163 #[.val (.int p1)] [])) _
        refine XS.iconst X0.here hx rfl (hb hby d2_163) ?_
        show Steps p.tables e below (s₁.setTop (mkF m 164 #[.val (.int p1)] [(.int (0 : Int32))])) _
        have he : (nar .boolean (0 : Int32)) = own_f2 p1 := Eq.trans (by rw [own_f2_156, if_pos h160]) hV
        rw [← he] at hr
        exact retN X0 hx (t := .boolean) Bd.returns (by simp) (hb hby d2_164) hr
      · show Steps p.tables e below (s₁.setTop (mkF m 160 #[.val (.int p1)] [(.int (8304 : Int32)), (.int p1)])) _
        refine XS.icmpYes X0.here hx rfl (pc0 := 160) (pc' := 165) rfl (hb hby d2_160) rfl (flt h160).2.1 (by decide) (by decide) ?_
        exact s_165  (Eq.trans (by rw [own_f2_156, if_neg h160]) hV)
    have s_147 : own_f2_147 p1  = own_f2 p1 → Steps p.tables e below (s₁.setTop (mkF m 147 #[.val (.int p1)] [])) (s₁.setFrames fs) := by
      intro  hV
      show Steps p.tables e below (s₁.setTop (mkF m 147 #[.val (.int p1)] [])) _
      refine XS.iloadN X0.here hx rfl (hb hby d2_147) rfl ?_
      show Steps p.tables e below (s₁.setTop (mkF m 148 #[.val (.int p1)] [(.int p1)])) _
      refine XS.sipush X0.here hx rfl (hb hby d2_148) ?_
      by_cases h151 : (8205 : Int32) < p1
      · show Steps p.tables e below (s₁.setTop (mkF m 151 #[.val (.int p1)] [(.int (8205 : Int32)), (.int p1)])) _
        refine XS.icmpYes X0.here hx rfl (pc0 := 151) (pc' := 156) rfl (hb hby d2_151) rfl (tlt h151).2.2.1 (by decide) (by decide) ?_
        exact s_156  (Eq.trans (by rw [own_f2_147, if_pos h151]) hV)
      · show Steps p.tables e below (s₁.setTop (mkF m 151 #[.val (.int p1)] [(.int (8205 : Int32)), (.int p1)])) _
        refine XS.icmpNo X0.here hx rfl (hb hby d2_151) rfl (flt h151).2.2.1 ?_
        show Steps p.tables e below (s₁.setTop (mkF m 154 #[.val (.int p1)] [])) _
        refine XS.iconst X0.here hx rfl (hb hby d2_154) ?_
        show Steps p.tables e below (s₁.setTop (mkF m 155 #[.val (.int p1)] [(.int (1 : Int32))])) _
        have he : (nar .boolean (1 : Int32)) = own_f2 p1 := Eq.trans (by rw [own_f2_147, if_neg h151]) hV
        rw [← he] at hr
        exact retN X0 hx (t := .boolean) Bd.returns (by simp) (hb hby d2_155) hr
    have s_138 : own_f2_138 p1  = own_f2 p1 → Steps p.tables e below (s₁.setTop (mkF m 138 #[.val (.int p1)] [])) (s₁.setFrames fs) := by
      intro  hV
      show Steps p.tables e below (s₁.setTop (mkF m 138 #[.val (.int p1)] [])) _
      refine XS.iloadN X0.here hx rfl (hb hby d2_138) rfl ?_
      show Steps p.tables e below (s₁.setTop (mkF m 139 #[.val (.int p1)] [(.int p1)])) _
      refine XS.sipush X0.here hx rfl (hb hby d2_139) ?_
      by_cases h142 : p1 < (8204 : Int32)
      · show Steps p.tables e below (s₁.setTop (mkF m 142 #[.val (.int p1)] [(.int (8204 : Int32)), (.int p1)])) _
        refine XS.icmpNo X0.here hx rfl (hb hby d2_142) rfl (tlt h142).2.1 ?_
        show Steps p.tables e below (s₁.setTop (mkF m 145 #[.val (.int p1)] [])) _
        refine XS.iconst X0.here hx rfl (hb hby d2_145) ?_
        show Steps p.tables e below (s₁.setTop (mkF m 146 #[.val (.int p1)] [(.int (0 : Int32))])) _
        have he : (nar .boolean (0 : Int32)) = own_f2 p1 := Eq.trans (by rw [own_f2_138, if_pos h142]) hV
        rw [← he] at hr
        exact retN X0 hx (t := .boolean) Bd.returns (by simp) (hb hby d2_146) hr
      · show Steps p.tables e below (s₁.setTop (mkF m 142 #[.val (.int p1)] [(.int (8204 : Int32)), (.int p1)])) _
        refine XS.icmpYes X0.here hx rfl (pc0 := 142) (pc' := 147) rfl (hb hby d2_142) rfl (flt h142).2.1 (by decide) (by decide) ?_
        exact s_147  (Eq.trans (by rw [own_f2_138, if_neg h142]) hV)
    have s_129 : own_f2_129 p1  = own_f2 p1 → Steps p.tables e below (s₁.setTop (mkF m 129 #[.val (.int p1)] [])) (s₁.setFrames fs) := by
      intro  hV
      show Steps p.tables e below (s₁.setTop (mkF m 129 #[.val (.int p1)] [])) _
      refine XS.iloadN X0.here hx rfl (hb hby d2_129) rfl ?_
      show Steps p.tables e below (s₁.setTop (mkF m 130 #[.val (.int p1)] [(.int p1)])) _
      refine XS.sipush X0.here hx rfl (hb hby d2_130) ?_
      by_cases h133 : (8191 : Int32) < p1
      · show Steps p.tables e below (s₁.setTop (mkF m 133 #[.val (.int p1)] [(.int (8191 : Int32)), (.int p1)])) _
        refine XS.icmpYes X0.here hx rfl (pc0 := 133) (pc' := 138) rfl (hb hby d2_133) rfl (tlt h133).2.2.1 (by decide) (by decide) ?_
        exact s_138  (Eq.trans (by rw [own_f2_129, if_pos h133]) hV)
      · show Steps p.tables e below (s₁.setTop (mkF m 133 #[.val (.int p1)] [(.int (8191 : Int32)), (.int p1)])) _
        refine XS.icmpNo X0.here hx rfl (hb hby d2_133) rfl (flt h133).2.2.1 ?_
        show Steps p.tables e below (s₁.setTop (mkF m 136 #[.val (.int p1)] [])) _
        refine XS.iconst X0.here hx rfl (hb hby d2_136) ?_
        show Steps p.tables e below (s₁.setTop (mkF m 137 #[.val (.int p1)] [(.int (1 : Int32))])) _
        have he : (nar .boolean (1 : Int32)) = own_f2 p1 := Eq.trans (by rw [own_f2_129, if_neg h133]) hV
        rw [← he] at hr
        exact retN X0 hx (t := .boolean) Bd.returns (by simp) (hb hby d2_137) hr
    have s_120 : own_f2_120 p1  = own_f2 p1 → Steps p.tables e below (s₁.setTop (mkF m 120 #[.val (.int p1)] [])) (s₁.setFrames fs) := by
      intro  hV
      show Steps p.tables e below (s₁.setTop (mkF m 120 #[.val (.int p1)] [])) _
      refine XS.iloadN X0.here hx rfl (hb hby d2_120) rfl ?_
      show Steps p.tables e below (s₁.setTop (mkF m 121 #[.val (.int p1)] [(.int p1)])) _
      refine XS.sipush X0.here hx rfl (hb hby d2_121) ?_
      by_cases h124 : p1 = (894 : Int32)
      · show Steps p.tables e below (s₁.setTop (mkF m 124 #[.val (.int p1)] [(.int (894 : Int32)), (.int p1)])) _
        refine XS.icmpNo X0.here hx rfl (hb hby d2_124) rfl (teq h124).2 ?_
        show Steps p.tables e below (s₁.setTop (mkF m 127 #[.val (.int p1)] [])) _
        refine XS.iconst X0.here hx rfl (hb hby d2_127) ?_
        show Steps p.tables e below (s₁.setTop (mkF m 128 #[.val (.int p1)] [(.int (0 : Int32))])) _
        have he : (nar .boolean (0 : Int32)) = own_f2 p1 := Eq.trans (by rw [own_f2_120, if_pos h124]) hV
        rw [← he] at hr
        exact retN X0 hx (t := .boolean) Bd.returns (by simp) (hb hby d2_128) hr
      · show Steps p.tables e below (s₁.setTop (mkF m 124 #[.val (.int p1)] [(.int (894 : Int32)), (.int p1)])) _
        refine XS.icmpYes X0.here hx rfl (pc0 := 124) (pc' := 129) rfl (hb hby d2_124) rfl (feq h124).2 (by decide) (by decide) ?_
        exact s_129  (Eq.trans (by rw [own_f2_120, if_neg h124]) hV)
    have s_111 : own_f2_111 p1  = own_f2 p1 → Steps p.tables e below (s₁.setTop (mkF m 111 #[.val (.int p1)] [])) (s₁.setFrames fs) := by
      intro  hV
      show Steps p.tables e below (s₁.setTop (mkF m 111 #[.val (.int p1)] [])) _
      refine XS.iloadN X0.here hx rfl (hb hby d2_111) rfl ?_
      show Steps p.tables e below (s₁.setTop (mkF m 112 #[.val (.int p1)] [(.int p1)])) _
      refine XS.sipush X0.here hx rfl (hb hby d2_112) ?_
      by_cases h115 : (893 : Int32) < p1
      · show Steps p.tables e below (s₁.setTop (mkF m 115 #[.val (.int p1)] [(.int (893 : Int32)), (.int p1)])) _
        refine XS.icmpYes X0.here hx rfl (pc0 := 115) (pc' := 120) rfl (hb hby d2_115) rfl (tlt h115).2.2.1 (by decide) (by decide) ?_
        exact s_120  (Eq.trans (by rw [own_f2_111, if_pos h115]) hV)
      · show Steps p.tables e below (s₁.setTop (mkF m 115 #[.val (.int p1)] [(.int (893 : Int32)), (.int p1)])) _
        refine XS.icmpNo X0.here hx rfl (hb hby d2_115) rfl (flt h115).2.2.1 ?_
        show Steps p.tables e below (s₁.setTop (mkF m 118 #[.val (.int p1)] [])) _
        refine XS.iconst X0.here hx rfl (hb hby d2_118) ?_
        show Steps p.tables e below (s₁.setTop (mkF m 119 #[.val (.int p1)] [(.int (1 : Int32))])) _
        have he : (nar .boolean (1 : Int32)) = own_f2 p1 := Eq.trans (by rw [own_f2_111, if_neg h115]) hV
        rw [← he] at hr
        exact retN X0 hx (t := .boolean) Bd.returns (by simp) (hb hby d2_119) hr
    have s_102 : own_f2_102 p1  = own_f2 p1 → Steps p.tables e below (s₁.setTop (mkF m 102 #[.val (.int p1)] [])) (s₁.setFrames fs) := by
      intro  hV
      show Steps p.tables e below (s₁.setTop (mkF m 102 #[.val (.int p1)] [])) _
      refine XS.iloadN X0.here hx rfl (hb hby d2_102) rfl ?_
      show Steps p.tables e below (s₁.setTop (mkF m 103 #[.val (.int p1)] [(.int p1)])) _
      refine XS.sipush X0.here hx rfl (hb hby d2_103) ?_
      by_cases h106 : p1 < (880 : Int32)
      · show Steps p.tables e below (s₁.setTop (mkF m 106 #[.val (.int p1)] [(.int (880 : Int32)), (.int p1)])) _
        refine XS.icmpNo X0.here hx rfl (hb hby d2_106) rfl (tlt h106).2.1 ?_
        show Steps p.tables e below (s₁.setTop (mkF m 109 #[.val (.int p1)] [])) _
        refine XS.iconst X0.here hx rfl (hb hby d2_109) ?_
        show Steps p.tables e below (s₁.setTop (mkF m 110 #[.val (.int p1)] [(.int (0 : Int32))])) _
        have he : (nar .boolean (0 : Int32)) = own_f2 p1 := Eq.trans (by rw [own_f2_102, if_pos h106]) hV
        rw [← he] at hr
        exact retN X0 hx (t := .boolean) Bd.returns (by simp) (hb hby d2_110) hr
      · show Steps p.tables e below (s₁.setTop (mkF m 106 #[.val (.int p1)] [(.int (880 : Int32)), (.int p1)])) _
        refine XS.icmpYes X0.here hx rfl (pc0 := 106) (pc' := 111) rfl (hb hby d2_106) rfl (flt h106).2.1 (by decide) (by decide) ?_
        exact s_111  (Eq.trans (by rw [own_f2_102, if_neg h106]) hV)
    have s_93 : own_f2_93 p1  = own_f2 p1 → Steps p.tables e below (s₁.setTop (mkF m 93 #[.val (.int p1)] [])) (s₁.setFrames fs) := by
      intro  hV
      show Steps p.tables e below (s₁.setTop (mkF m 93 #[.val (.int p1)] [])) _
      refine XS.iloadN X0.here hx rfl (hb hby d2_93) rfl ?_
      show Steps p.tables e below (s₁.setTop (mkF m 94 #[.val (.int p1)] [(.int p1)])) _
      refine XS.sipush X0.here hx rfl (hb hby d2_94) ?_
      by_cases h97 : (767 : Int32) < p1
      · show Steps p.tables e below (s₁.setTop (mkF m 97 #[.val (.int p1)] [(.int (767 : Int32)), (.int p1)])) _
        refine XS.icmpYes X0.here hx rfl (pc0 := 97) (pc' := 102) rfl (hb hby d2_97) rfl (tlt h97).2.2.1 (by decide) (by decide) ?_
        exact s_102  (Eq.trans (by rw [own_f2_93, if_pos h97]) hV)
      · show Steps p.tables e below (s₁.setTop (mkF m 97 #[.val (.int p1)] [(.int (767 : Int32)), (.int p1)])) _
        refine XS.icmpNo X0.here hx rfl (hb hby d2_97) rfl (flt h97).2.2.1 ?_
        show Steps p.tables e below (s₁.setTop (mkF m 100 #[.val (.int p1)] [])) _
        refine XS.iconst X0.here hx rfl (hb hby d2_100) ?_
        show Steps p.tables e below (s₁.setTop (mkF m 101 #[.val (.int p1)] [(.int (1 : Int32))])) _
        have he : (nar .boolean (1 : Int32)) = own_f2 p1 := Eq.trans (by rw [own_f2_93, if_neg h97]) hV
        rw [← he] at hr
        exact retN X0 hx (t := .boolean) Bd.returns (by simp) (hb hby d2_101) hr
    have s_84 : own_f2_84 p1  = own_f2 p1 → Steps p.tables e below (s₁.setTop (mkF m 84 #[.val (.int p1)] [])) (s₁.setFrames fs) := by
      intro  hV
      show Steps p.tables e below (s₁.setTop (mkF m 84 #[.val (.int p1)] [])) _
      refine XS.iloadN X0.here hx rfl (hb hby d2_84) rfl ?_
      show Steps p.tables e below (s₁.setTop (mkF m 85 #[.val (.int p1)] [(.int p1)])) _
      refine XS.sipush X0.here hx rfl (hb hby d2_85) ?_
      by_cases h88 : p1 = (247 : Int32)
      · show Steps p.tables e below (s₁.setTop (mkF m 88 #[.val (.int p1)] [(.int (247 : Int32)), (.int p1)])) _
        refine XS.icmpNo X0.here hx rfl (hb hby d2_88) rfl (teq h88).2 ?_
        show Steps p.tables e below (s₁.setTop (mkF m 91 #[.val (.int p1)] [])) _
        refine XS.iconst X0.here hx rfl (hb hby d2_91) ?_
        show Steps p.tables e below (s₁.setTop (mkF m 92 #[.val (.int p1)] [(.int (0 : Int32))])) _
        have he : (nar .boolean (0 : Int32)) = own_f2 p1 := Eq.trans (by rw [own_f2_84, if_pos h88]) hV
        rw [← he] at hr
        exact retN X0 hx (t := .boolean) Bd.returns (by simp) (hb hby d2_92) hr
      · show Steps p.tables e below (s₁.setTop (mkF m 88 #[.val (.int p1)] [(.int (247 : Int32)), (.int p1)])) _
        refine XS.icmpYes X0.here hx rfl (pc0 := 88) (pc' := 93) rfl (hb hby d2_88) rfl (feq h88).2 (by decide) (by decide) ?_
        exact s_93  (Eq.trans (by rw [own_f2_84, if_neg h88]) hV)
    have s_75 : own_f2_75 p1  = own_f2 p1 → Steps p.tables e below (s₁.setTop (mkF m 75 #[.val (.int p1)] [])) (s₁.setFrames fs) := by
      intro  hV
      show Steps p.tables e below (s₁.setTop (mkF m 75 #[.val (.int p1)] [])) _
      refine XS.iloadN X0.here hx rfl (hb hby d2_75) rfl ?_
      show Steps p.tables e below (s₁.setTop (mkF m 76 #[.val (.int p1)] [(.int p1)])) _
      refine XS.sipush X0.here hx rfl (hb hby d2_76) ?_
      by_cases h79 : (246 : Int32) < p1
      · show Steps p.tables e below (s₁.setTop (mkF m 79 #[.val (.int p1)] [(.int (246 : Int32)), (.int p1)])) _
        refine XS.icmpYes X0.here hx rfl (pc0 := 79) (pc' := 84) rfl (hb hby d2_79) rfl (tlt h79).2.2.1 (by decide) (by decide) ?_
        exact s_84  (Eq.trans (by rw [own_f2_75, if_pos h79]) hV)
      · show Steps p.tables e below (s₁.setTop (mkF m 79 #[.val (.int p1)] [(.int (246 : Int32)), (.int p1)])) _
        refine XS.icmpNo X0.here hx rfl (hb hby d2_79) rfl (flt h79).2.2.1 ?_
        show Steps p.tables e below (s₁.setTop (mkF m 82 #[.val (.int p1)] [])) _
        refine XS.iconst X0.here hx rfl (hb hby d2_82) ?_
        show Steps p.tables e below (s₁.setTop (mkF m 83 #[.val (.int p1)] [(.int (1 : Int32))])) _
        have he : (nar .boolean (1 : Int32)) = own_f2 p1 := Eq.trans (by rw [own_f2_75, if_neg h79]) hV
        rw [← he] at hr
        exact retN X0 hx (t := .boolean) Bd.returns (by simp) (hb hby d2_83) hr
    have s_66 : own_f2_66 p1  = own_f2 p1 → Steps p.tables e below (s₁.setTop (mkF m 66 #[.val (.int p1)] [])) (s₁.setFrames fs) := by
      intro  hV
      show Steps p.tables e below (s₁.setTop (mkF m 66 #[.val (.int p1)] [])) _
      refine XS.iloadN X0.here hx rfl (hb hby d2_66) rfl ?_
      show Steps p.tables e below (s₁.setTop (mkF m 67 #[.val (.int p1)] [(.int p1)])) _
      refine XS.sipush X0.here hx rfl (hb hby d2_67) ?_
      by_cases h70 : p1 = (215 : Int32)
      · show Steps p.tables e below (s₁.setTop (mkF m 70 #[.val (.int p1)] [(.int (215 : Int32)), (.int p1)])) _
        refine XS.icmpNo X0.here hx rfl (hb hby d2_70) rfl (teq h70).2 ?_
        show Steps p.tables e below (s₁.setTop (mkF m 73 #[.val (.int p1)] [])) _
        refine XS.iconst X0.here hx rfl (hb hby d2_73) ?_
        show Steps p.tables e below (s₁.setTop (mkF m 74 #[.val (.int p1)] [(.int (0 : Int32))])) _
        have he : (nar .boolean (0 : Int32)) = own_f2 p1 := Eq.trans (by rw [own_f2_66, if_pos h70]) hV
        rw [← he] at hr
        exact retN X0 hx (t := .boolean) Bd.returns (by simp) (hb hby d2_74) hr
      · show Steps p.tables e below (s₁.setTop (mkF m 70 #[.val (.int p1)] [(.int (215 : Int32)), (.int p1)])) _
        refine XS.icmpYes X0.here hx rfl (pc0 := 70) (pc' := 75) rfl (hb hby d2_70) rfl (feq h70).2 (by decide) (by decide) ?_
        exact s_75  (Eq.trans (by rw [own_f2_66, if_neg h70]) hV)
    have s_57 : own_f2_57 p1  = own_f2 p1 → Steps p.tables e below (s₁.setTop (mkF m 57 #[.val (.int p1)] [])) (s₁.setFrames fs) := by
      intro  hV
      show Steps p.tables e below (s₁.setTop (mkF m 57 #[.val (.int p1)] [])) _
      refine XS.iloadN X0.here hx rfl (hb hby d2_57) rfl ?_
      show Steps p.tables e below (s₁.setTop (mkF m 58 #[.val (.int p1)] [(.int p1)])) _
      refine XS.sipush X0.here hx rfl (hb hby d2_58) ?_
      by_cases h61 : (214 : Int32) < p1
      · show Steps p.tables e below (s₁.setTop (mkF m 61 #[.val (.int p1)] [(.int (214 : Int32)), (.int p1)])) _
        refine XS.icmpYes X0.here hx rfl (pc0 := 61) (pc' := 66) rfl (hb hby d2_61) rfl (tlt h61).2.2.1 (by decide) (by decide) ?_
        exact s_66  (Eq.trans (by rw [own_f2_57, if_pos h61]) hV)
      · show Steps p.tables e below (s₁.setTop (mkF m 61 #[.val (.int p1)] [(.int (214 : Int32)), (.int p1)])) _
        refine XS.icmpNo X0.here hx rfl (hb hby d2_61) rfl (flt h61).2.2.1 ?_
        show Steps p.tables e below (s₁.setTop (mkF m 64 #[.val (.int p1)] [])) _
        refine XS.iconst X0.here hx rfl (hb hby d2_64) ?_
        show Steps p.tables e below (s₁.setTop (mkF m 65 #[.val (.int p1)] [(.int (1 : Int32))])) _
        have he : (nar .boolean (1 : Int32)) = own_f2 p1 := Eq.trans (by rw [own_f2_57, if_neg h61]) hV
        rw [← he] at hr
        exact retN X0 hx (t := .boolean) Bd.returns (by simp) (hb hby d2_65) hr
    have s_48 : own_f2_48 p1  = own_f2 p1 → Steps p.tables e below (s₁.setTop (mkF m 48 #[.val (.int p1)] [])) (s₁.setFrames fs) := by
      intro  hV
      show Steps p.tables e below (s₁.setTop (mkF m 48 #[.val (.int p1)] [])) _
      refine XS.iloadN X0.here hx rfl (hb hby d2_48) rfl ?_
      show Steps p.tables e below (s₁.setTop (mkF m 49 #[.val (.int p1)] [(.int p1)])) _
      refine XS.sipush X0.here hx rfl (hb hby d2_49) ?_
      by_cases h52 : p1 < (192 : Int32)
      · show Steps p.tables e below (s₁.setTop (mkF m 52 #[.val (.int p1)] [(.int (192 : Int32)), (.int p1)])) _
        refine XS.icmpNo X0.here hx rfl (hb hby d2_52) rfl (tlt h52).2.1 ?_
        show Steps p.tables e below (s₁.setTop (mkF m 55 #[.val (.int p1)] [])) _
        refine XS.iconst X0.here hx rfl (hb hby d2_55) ?_
        show Steps p.tables e below (s₁.setTop (mkF m 56 #[.val (.int p1)] [(.int (0 : Int32))])) _
        have he : (nar .boolean (0 : Int32)) = own_f2 p1 := Eq.trans (by rw [own_f2_48, if_pos h52]) hV
        rw [← he] at hr
        exact retN X0 hx (t := .boolean) Bd.returns (by simp) (hb hby d2_56) hr
      · show Steps p.tables e below (s₁.setTop (mkF m 52 #[.val (.int p1)] [(.int (192 : Int32)), (.int p1)])) _
        refine XS.icmpYes X0.here hx rfl (pc0 := 52) (pc' := 57) rfl (hb hby d2_52) rfl (flt h52).2.1 (by decide) (by decide) ?_
        exact s_57  (Eq.trans (by rw [own_f2_48, if_neg h52]) hV)
    have s_40 : own_f2_40 p1  = own_f2 p1 → Steps p.tables e below (s₁.setTop (mkF m 40 #[.val (.int p1)] [])) (s₁.setFrames fs) := by
      intro  hV
      show Steps p.tables e below (s₁.setTop (mkF m 40 #[.val (.int p1)] [])) _
      refine XS.iloadN X0.here hx rfl (hb hby d2_40) rfl ?_
      show Steps p.tables e below (s₁.setTop (mkF m 41 #[.val (.int p1)] [(.int p1)])) _
      refine XS.bipush X0.here hx rfl (hb hby d2_41) ?_
      by_cases h43 : (122 : Int32) < p1
      · show Steps p.tables e below (s₁.setTop (mkF m 43 #[.val (.int p1)] [(.int (122 : Int32)), (.int p1)])) _
        refine XS.icmpYes X0.here hx rfl (pc0 := 43) (pc' := 48) rfl (hb hby d2_43) rfl (tlt h43).2.2.1 (by decide) (by decide) ?_
        exact s_48  (Eq.trans (by rw [own_f2_40, if_pos h43]) hV)
      · show Steps p.tables e below (s₁.setTop (mkF m 43 #[.val (.int p1)] [(.int (122 : Int32)), (.int p1)])) _
        refine XS.icmpNo X0.here hx rfl (hb hby d2_43) rfl (flt h43).2.2.1 ?_
        show Steps p.tables e below (s₁.setTop (mkF m 46 #[.val (.int p1)] [])) _
        refine XS.iconst X0.here hx rfl (hb hby d2_46) ?_
        show Steps p.tables e below (s₁.setTop (mkF m 47 #[.val (.int p1)] [(.int (1 : Int32))])) _
        have he : (nar .boolean (1 : Int32)) = own_f2 p1 := Eq.trans (by rw [own_f2_40, if_neg h43]) hV
        rw [← he] at hr
        exact retN X0 hx (t := .boolean) Bd.returns (by simp) (hb hby d2_47) hr
    have s_32 : own_f2_32 p1  = own_f2 p1 → Steps p.tables e below (s₁.setTop (mkF m 32 #[.val (.int p1)] [])) (s₁.setFrames fs) := by
      intro  hV
      show Steps p.tables e below (s₁.setTop (mkF m 32 #[.val (.int p1)] [])) _
      refine XS.iloadN X0.here hx rfl (hb hby d2_32) rfl ?_
      show Steps p.tables e below (s₁.setTop (mkF m 33 #[.val (.int p1)] [(.int p1)])) _
      refine XS.bipush X0.here hx rfl (hb hby d2_33) ?_
      by_cases h35 : p1 < (97 : Int32)
      · show Steps p.tables e below (s₁.setTop (mkF m 35 #[.val (.int p1)] [(.int (97 : Int32)), (.int p1)])) _
        refine XS.icmpNo X0.here hx rfl (hb hby d2_35) rfl (tlt h35).2.1 ?_
        show Steps p.tables e below (s₁.setTop (mkF m 38 #[.val (.int p1)] [])) _
        refine XS.iconst X0.here hx rfl (hb hby d2_38) ?_
        show Steps p.tables e below (s₁.setTop (mkF m 39 #[.val (.int p1)] [(.int (0 : Int32))])) _
        have he : (nar .boolean (0 : Int32)) = own_f2 p1 := Eq.trans (by rw [own_f2_32, if_pos h35]) hV
        rw [← he] at hr
        exact retN X0 hx (t := .boolean) Bd.returns (by simp) (hb hby d2_39) hr
      · show Steps p.tables e below (s₁.setTop (mkF m 35 #[.val (.int p1)] [(.int (97 : Int32)), (.int p1)])) _
        refine XS.icmpYes X0.here hx rfl (pc0 := 35) (pc' := 40) rfl (hb hby d2_35) rfl (flt h35).2.1 (by decide) (by decide) ?_
        exact s_40  (Eq.trans (by rw [own_f2_32, if_neg h35]) hV)
    have s_24 : own_f2_24 p1  = own_f2 p1 → Steps p.tables e below (s₁.setTop (mkF m 24 #[.val (.int p1)] [])) (s₁.setFrames fs) := by
      intro  hV
      show Steps p.tables e below (s₁.setTop (mkF m 24 #[.val (.int p1)] [])) _
      refine XS.iloadN X0.here hx rfl (hb hby d2_24) rfl ?_
      show Steps p.tables e below (s₁.setTop (mkF m 25 #[.val (.int p1)] [(.int p1)])) _
      refine XS.bipush X0.here hx rfl (hb hby d2_25) ?_
      by_cases h27 : p1 = (95 : Int32)
      · show Steps p.tables e below (s₁.setTop (mkF m 27 #[.val (.int p1)] [(.int (95 : Int32)), (.int p1)])) _
        refine XS.icmpNo X0.here hx rfl (hb hby d2_27) rfl (teq h27).2 ?_
        show Steps p.tables e below (s₁.setTop (mkF m 30 #[.val (.int p1)] [])) _
        refine XS.iconst X0.here hx rfl (hb hby d2_30) ?_
        show Steps p.tables e below (s₁.setTop (mkF m 31 #[.val (.int p1)] [(.int (1 : Int32))])) _
        have he : (nar .boolean (1 : Int32)) = own_f2 p1 := Eq.trans (by rw [own_f2_24, if_pos h27]) hV
        rw [← he] at hr
        exact retN X0 hx (t := .boolean) Bd.returns (by simp) (hb hby d2_31) hr
      · show Steps p.tables e below (s₁.setTop (mkF m 27 #[.val (.int p1)] [(.int (95 : Int32)), (.int p1)])) _
        refine XS.icmpYes X0.here hx rfl (pc0 := 27) (pc' := 32) rfl (hb hby d2_27) rfl (feq h27).2 (by decide) (by decide) ?_
        exact s_32  (Eq.trans (by rw [own_f2_24, if_neg h27]) hV)
    have s_16 : own_f2_16 p1  = own_f2 p1 → Steps p.tables e below (s₁.setTop (mkF m 16 #[.val (.int p1)] [])) (s₁.setFrames fs) := by
      intro  hV
      show Steps p.tables e below (s₁.setTop (mkF m 16 #[.val (.int p1)] [])) _
      refine XS.iloadN X0.here hx rfl (hb hby d2_16) rfl ?_
      show Steps p.tables e below (s₁.setTop (mkF m 17 #[.val (.int p1)] [(.int p1)])) _
      refine XS.bipush X0.here hx rfl (hb hby d2_17) ?_
      by_cases h19 : p1 < (95 : Int32)
      · show Steps p.tables e below (s₁.setTop (mkF m 19 #[.val (.int p1)] [(.int (95 : Int32)), (.int p1)])) _
        refine XS.icmpNo X0.here hx rfl (hb hby d2_19) rfl (tlt h19).2.1 ?_
        show Steps p.tables e below (s₁.setTop (mkF m 22 #[.val (.int p1)] [])) _
        refine XS.iconst X0.here hx rfl (hb hby d2_22) ?_
        show Steps p.tables e below (s₁.setTop (mkF m 23 #[.val (.int p1)] [(.int (0 : Int32))])) _
        have he : (nar .boolean (0 : Int32)) = own_f2 p1 := Eq.trans (by rw [own_f2_16, if_pos h19]) hV
        rw [← he] at hr
        exact retN X0 hx (t := .boolean) Bd.returns (by simp) (hb hby d2_23) hr
      · show Steps p.tables e below (s₁.setTop (mkF m 19 #[.val (.int p1)] [(.int (95 : Int32)), (.int p1)])) _
        refine XS.icmpYes X0.here hx rfl (pc0 := 19) (pc' := 24) rfl (hb hby d2_19) rfl (flt h19).2.1 (by decide) (by decide) ?_
        exact s_24  (Eq.trans (by rw [own_f2_16, if_neg h19]) hV)
    have s_8 : own_f2_8 p1  = own_f2 p1 → Steps p.tables e below (s₁.setTop (mkF m 8 #[.val (.int p1)] [])) (s₁.setFrames fs) := by
      intro  hV
      show Steps p.tables e below (s₁.setTop (mkF m 8 #[.val (.int p1)] [])) _
      refine XS.iloadN X0.here hx rfl (hb hby d2_8) rfl ?_
      show Steps p.tables e below (s₁.setTop (mkF m 9 #[.val (.int p1)] [(.int p1)])) _
      refine XS.bipush X0.here hx rfl (hb hby d2_9) ?_
      by_cases h11 : (90 : Int32) < p1
      · show Steps p.tables e below (s₁.setTop (mkF m 11 #[.val (.int p1)] [(.int (90 : Int32)), (.int p1)])) _
        refine XS.icmpYes X0.here hx rfl (pc0 := 11) (pc' := 16) rfl (hb hby d2_11) rfl (tlt h11).2.2.1 (by decide) (by decide) ?_
        exact s_16  (Eq.trans (by rw [own_f2_8, if_pos h11]) hV)
      · show Steps p.tables e below (s₁.setTop (mkF m 11 #[.val (.int p1)] [(.int (90 : Int32)), (.int p1)])) _
        refine XS.icmpNo X0.here hx rfl (hb hby d2_11) rfl (flt h11).2.2.1 ?_
        show Steps p.tables e below (s₁.setTop (mkF m 14 #[.val (.int p1)] [])) _
        refine XS.iconst X0.here hx rfl (hb hby d2_14) ?_
        show Steps p.tables e below (s₁.setTop (mkF m 15 #[.val (.int p1)] [(.int (1 : Int32))])) _
        have he : (nar .boolean (1 : Int32)) = own_f2 p1 := Eq.trans (by rw [own_f2_8, if_neg h11]) hV
        rw [← he] at hr
        exact retN X0 hx (t := .boolean) Bd.returns (by simp) (hb hby d2_15) hr
    have s_0 : own_f2 p1  = own_f2 p1 → Steps p.tables e below (s₁.setTop (mkF m 0 #[.val (.int p1)] [])) (s₁.setFrames fs) := by
      intro  hV
      show Steps p.tables e below (s₁.setTop (mkF m 0 #[.val (.int p1)] [])) _
      refine XS.iloadN X0.here hx rfl (hb hby d2_0) rfl ?_
      show Steps p.tables e below (s₁.setTop (mkF m 1 #[.val (.int p1)] [(.int p1)])) _
      refine XS.bipush X0.here hx rfl (hb hby d2_1) ?_
      by_cases h3 : p1 < (65 : Int32)
      · show Steps p.tables e below (s₁.setTop (mkF m 3 #[.val (.int p1)] [(.int (65 : Int32)), (.int p1)])) _
        refine XS.icmpNo X0.here hx rfl (hb hby d2_3) rfl (tlt h3).2.1 ?_
        show Steps p.tables e below (s₁.setTop (mkF m 6 #[.val (.int p1)] [])) _
        refine XS.iconst X0.here hx rfl (hb hby d2_6) ?_
        show Steps p.tables e below (s₁.setTop (mkF m 7 #[.val (.int p1)] [(.int (0 : Int32))])) _
        have he : (nar .boolean (0 : Int32)) = own_f2 p1 := Eq.trans (by rw [own_f2, if_pos h3]) hV
        rw [← he] at hr
        exact retN X0 hx (t := .boolean) Bd.returns (by simp) (hb hby d2_7) hr
      · show Steps p.tables e below (s₁.setTop (mkF m 3 #[.val (.int p1)] [(.int (65 : Int32)), (.int p1)])) _
        refine XS.icmpYes X0.here hx rfl (pc0 := 3) (pc' := 8) rfl (hb hby d2_3) rfl (flt h3).2.1 (by decide) (by decide) ?_
        exact s_8  (Eq.trans (by rw [own_f2, if_neg h3]) hV)
    exact s_0 rfl
  · show Q2 Z p1 h0 n0 _ s₁.heap _
    rw [e0]
    exact ⟨rfl, N0, rfl⟩
theorem own_g195 (c : Int32) : own_f1_195 c = 0 := rfl
theorem own_g191 (c : Int32) : own_f1_191 c = 1 := rfl
def own_P179 (x : Int) : Prop := (65536 ≤ x ∧ x ≤ 983039) ∨ False
theorem own_g179 (c : Int32) : (own_P179 c.toInt → own_f1_179 c = 1) ∧ (¬ own_P179 c.toInt → own_f1_179 c = 0) := by
  unfold own_P179 own_f1_179
  simp only [Int32.lt_iff_toInt_lt, Int32.reduceToInt]
  refine ⟨fun q => ?_, fun q => ?_⟩
  · split
    · exact (fun q => q.elim) (q.resolve_left (by omega))
    · split
      · exact (fun q => q.elim) (q.resolve_left (by omega))
      · rfl
  · split
    · exact (fun _ => own_g195 c) fun k => q (Or.inr k)
    · split
      · exact (fun _ => own_g195 c) fun k => q (Or.inr k)
      · exact absurd (Or.inl ⟨by omega, by omega⟩) q
def own_P167 (x : Int) : Prop := (65008 ≤ x ∧ x ≤ 65533) ∨ own_P179 x
theorem own_g167 (c : Int32) : (own_P167 c.toInt → own_f1_167 c = 1) ∧ (¬ own_P167 c.toInt → own_f1_167 c = 0) := by
  unfold own_P167 own_f1_167
  simp only [Int32.lt_iff_toInt_lt, Int32.reduceToInt]
  refine ⟨fun q => ?_, fun q => ?_⟩
  · split
    · exact (own_g179 c).1 (q.resolve_left (by omega))
    · split
      · exact (own_g179 c).1 (q.resolve_left (by omega))
      · rfl
  · split
    · exact (own_g179 c).2 fun k => q (Or.inr k)
    · split
      · exact (own_g179 c).2 fun k => q (Or.inr k)
      · exact absurd (Or.inl ⟨by omega, by omega⟩) q
def own_P155 (x : Int) : Prop := (63744 ≤ x ∧ x ≤ 64975) ∨ own_P167 x
theorem own_g155 (c : Int32) : (own_P155 c.toInt → own_f1_155 c = 1) ∧ (¬ own_P155 c.toInt → own_f1_155 c = 0) := by
  unfold own_P155 own_f1_155
  simp only [Int32.lt_iff_toInt_lt, Int32.reduceToInt]
  refine ⟨fun q => ?_, fun q => ?_⟩
  · split
    · exact (own_g167 c).1 (q.resolve_left (by omega))
    · split
      · exact (own_g167 c).1 (q.resolve_left (by omega))
      · rfl
  · split
    · exact (own_g167 c).2 fun k => q (Or.inr k)
    · split
      · exact (own_g167 c).2 fun k => q (Or.inr k)
      · exact absurd (Or.inl ⟨by omega, by omega⟩) q
def own_P142 (x : Int) : Prop := (12289 ≤ x ∧ x ≤ 55295) ∨ own_P155 x
theorem own_g142 (c : Int32) : (own_P142 c.toInt → own_f1_142 c = 1) ∧ (¬ own_P142 c.toInt → own_f1_142 c = 0) := by
  unfold own_P142 own_f1_142
  simp only [Int32.lt_iff_toInt_lt, Int32.reduceToInt]
  refine ⟨fun q => ?_, fun q => ?_⟩
  · split
    · exact (own_g155 c).1 (q.resolve_left (by omega))
    · split
      · exact (own_g155 c).1 (q.resolve_left (by omega))
      · rfl
  · split
    · exact (own_g155 c).2 fun k => q (Or.inr k)
    · split
      · exact (own_g155 c).2 fun k => q (Or.inr k)
      · exact absurd (Or.inl ⟨by omega, by omega⟩) q
def own_P128 (x : Int) : Prop := (11264 ≤ x ∧ x ≤ 12271) ∨ own_P142 x
theorem own_g128 (c : Int32) : (own_P128 c.toInt → own_f1_128 c = 1) ∧ (¬ own_P128 c.toInt → own_f1_128 c = 0) := by
  unfold own_P128 own_f1_128
  simp only [Int32.lt_iff_toInt_lt, Int32.reduceToInt]
  refine ⟨fun q => ?_, fun q => ?_⟩
  · split
    · exact (own_g142 c).1 (q.resolve_left (by omega))
    · split
      · exact (own_g142 c).1 (q.resolve_left (by omega))
      · rfl
  · split
    · exact (own_g142 c).2 fun k => q (Or.inr k)
    · split
      · exact (own_g142 c).2 fun k => q (Or.inr k)
      · exact absurd (Or.inl ⟨by omega, by omega⟩) q
def own_P114 (x : Int) : Prop := (8304 ≤ x ∧ x ≤ 8591) ∨ own_P128 x
theorem own_g114 (c : Int32) : (own_P114 c.toInt → own_f1_114 c = 1) ∧ (¬ own_P114 c.toInt → own_f1_114 c = 0) := by
  unfold own_P114 own_f1_114
  simp only [Int32.lt_iff_toInt_lt, Int32.reduceToInt]
  refine ⟨fun q => ?_, fun q => ?_⟩
  · split
    · exact (own_g128 c).1 (q.resolve_left (by omega))
    · split
      · exact (own_g128 c).1 (q.resolve_left (by omega))
      · rfl
  · split
    · exact (own_g128 c).2 fun k => q (Or.inr k)
    · split
      · exact (own_g128 c).2 fun k => q (Or.inr k)
      · exact absurd (Or.inl ⟨by omega, by omega⟩) q
def own_P100 (x : Int) : Prop := (8204 ≤ x ∧ x ≤ 8205) ∨ own_P114 x
theorem own_g100 (c : Int32) : (own_P100 c.toInt → own_f1_100 c = 1) ∧ (¬ own_P100 c.toInt → own_f1_100 c = 0) := by
  unfold own_P100 own_f1_100
  simp only [Int32.lt_iff_toInt_lt, Int32.reduceToInt]
  refine ⟨fun q => ?_, fun q => ?_⟩
  · split
    · exact (own_g114 c).1 (q.resolve_left (by omega))
    · split
      · exact (own_g114 c).1 (q.resolve_left (by omega))
      · rfl
  · split
    · exact (own_g114 c).2 fun k => q (Or.inr k)
    · split
      · exact (own_g114 c).2 fun k => q (Or.inr k)
      · exact absurd (Or.inl ⟨by omega, by omega⟩) q
def own_P86 (x : Int) : Prop := (895 ≤ x ∧ x ≤ 8191) ∨ own_P100 x
theorem own_g86 (c : Int32) : (own_P86 c.toInt → own_f1_86 c = 1) ∧ (¬ own_P86 c.toInt → own_f1_86 c = 0) := by
  unfold own_P86 own_f1_86
  simp only [Int32.lt_iff_toInt_lt, Int32.reduceToInt]
  refine ⟨fun q => ?_, fun q => ?_⟩
  · split
    · exact (own_g100 c).1 (q.resolve_left (by omega))
    · split
      · exact (own_g100 c).1 (q.resolve_left (by omega))
      · rfl
  · split
    · exact (own_g100 c).2 fun k => q (Or.inr k)
    · split
      · exact (own_g100 c).2 fun k => q (Or.inr k)
      · exact absurd (Or.inl ⟨by omega, by omega⟩) q
def own_P72 (x : Int) : Prop := (880 ≤ x ∧ x ≤ 893) ∨ own_P86 x
theorem own_g72 (c : Int32) : (own_P72 c.toInt → own_f1_72 c = 1) ∧ (¬ own_P72 c.toInt → own_f1_72 c = 0) := by
  unfold own_P72 own_f1_72
  simp only [Int32.lt_iff_toInt_lt, Int32.reduceToInt]
  refine ⟨fun q => ?_, fun q => ?_⟩
  · split
    · exact (own_g86 c).1 (q.resolve_left (by omega))
    · split
      · exact (own_g86 c).1 (q.resolve_left (by omega))
      · rfl
  · split
    · exact (own_g86 c).2 fun k => q (Or.inr k)
    · split
      · exact (own_g86 c).2 fun k => q (Or.inr k)
      · exact absurd (Or.inl ⟨by omega, by omega⟩) q
def own_P58 (x : Int) : Prop := (248 ≤ x ∧ x ≤ 767) ∨ own_P72 x
theorem own_g58 (c : Int32) : (own_P58 c.toInt → own_f1_58 c = 1) ∧ (¬ own_P58 c.toInt → own_f1_58 c = 0) := by
  unfold own_P58 own_f1_58
  simp only [Int32.lt_iff_toInt_lt, Int32.reduceToInt]
  refine ⟨fun q => ?_, fun q => ?_⟩
  · split
    · exact (own_g72 c).1 (q.resolve_left (by omega))
    · split
      · exact (own_g72 c).1 (q.resolve_left (by omega))
      · rfl
  · split
    · exact (own_g72 c).2 fun k => q (Or.inr k)
    · split
      · exact (own_g72 c).2 fun k => q (Or.inr k)
      · exact absurd (Or.inl ⟨by omega, by omega⟩) q
def own_P44 (x : Int) : Prop := (216 ≤ x ∧ x ≤ 246) ∨ own_P58 x
theorem own_g44 (c : Int32) : (own_P44 c.toInt → own_f1_44 c = 1) ∧ (¬ own_P44 c.toInt → own_f1_44 c = 0) := by
  unfold own_P44 own_f1_44
  simp only [Int32.lt_iff_toInt_lt, Int32.reduceToInt]
  refine ⟨fun q => ?_, fun q => ?_⟩
  · split
    · exact (own_g58 c).1 (q.resolve_left (by omega))
    · split
      · exact (own_g58 c).1 (q.resolve_left (by omega))
      · rfl
  · split
    · exact (own_g58 c).2 fun k => q (Or.inr k)
    · split
      · exact (own_g58 c).2 fun k => q (Or.inr k)
      · exact absurd (Or.inl ⟨by omega, by omega⟩) q
def own_P24 (x : Int) : Prop := (95 ≤ x ∧ x ≤ 95) ∨ (192 ≤ x ∧ x ≤ 214) ∨ own_P44 x
theorem own_g24 (c : Int32) : (own_P24 c.toInt → own_f1_24 c = 1) ∧ (¬ own_P24 c.toInt → own_f1_24 c = 0) := by
  have e95 : (c = 95) = (c.toInt = 95) := propext ⟨fun q => by first | (rw [q]; done) | (rw [q]; rfl), fun q => Int32.toInt_inj.1 q⟩
  unfold own_P24 own_f1_24
  simp only [Int32.lt_iff_toInt_lt, e95, Int32.reduceToInt]
  refine ⟨fun q => ?_, fun q => ?_⟩
  · split
    · rfl
    · split
      · exact (own_g44 c).1 ((q.resolve_left (by omega)).resolve_left (by omega))
      · split
        · exact (own_g44 c).1 ((q.resolve_left (by omega)).resolve_left (by omega))
        · rfl
  · split
    · exact absurd (Or.inl ⟨by omega, by omega⟩) q
    · split
      · exact (own_g44 c).2 fun k => q (Or.inr (Or.inr k))
      · split
        · exact (own_g44 c).2 fun k => q (Or.inr (Or.inr k))
        · exact absurd (Or.inr (Or.inl ⟨by omega, by omega⟩)) q
def own_P12 (x : Int) : Prop := (65 ≤ x ∧ x ≤ 90) ∨ own_P24 x
theorem own_g12 (c : Int32) : (own_P12 c.toInt → own_f1_12 c = 1) ∧ (¬ own_P12 c.toInt → own_f1_12 c = 0) := by
  unfold own_P12 own_f1_12
  simp only [Int32.lt_iff_toInt_lt, Int32.reduceToInt]
  refine ⟨fun q => ?_, fun q => ?_⟩
  · split
    · exact (own_g24 c).1 (q.resolve_left (by omega))
    · split
      · exact (own_g24 c).1 (q.resolve_left (by omega))
      · rfl
  · split
    · exact (own_g24 c).2 fun k => q (Or.inr k)
    · split
      · exact (own_g24 c).2 fun k => q (Or.inr k)
      · exact absurd (Or.inl ⟨by omega, by omega⟩) q
def own_P0 (x : Int) : Prop := (97 ≤ x ∧ x ≤ 122) ∨ own_P12 x
theorem own_g0 (c : Int32) : (own_P0 c.toInt → own_f1 c = 1) ∧ (¬ own_P0 c.toInt → own_f1 c = 0) := by
  unfold own_P0 own_f1
  simp only [Int32.lt_iff_toInt_lt, Int32.reduceToInt]
  refine ⟨fun q => ?_, fun q => ?_⟩
  · split
    · exact (own_g12 c).1 (q.resolve_left (by omega))
    · split
      · exact (own_g12 c).1 (q.resolve_left (by omega))
      · rfl
  · split
    · exact (own_g12 c).2 fun k => q (Or.inr k)
    · split
      · exact (own_g12 c).2 fun k => q (Or.inr k)
      · exact absurd (Or.inl ⟨by omega, by omega⟩) q
theorem own_P0_iff (x : Int) : own_P0 x ↔ (97 ≤ x ∧ x ≤ 122) ∨ (65 ≤ x ∧ x ≤ 90) ∨ (95 ≤ x ∧ x ≤ 95) ∨ (192 ≤ x ∧ x ≤ 214) ∨ (216 ≤ x ∧ x ≤ 246) ∨ (248 ≤ x ∧ x ≤ 767) ∨ (880 ≤ x ∧ x ≤ 893) ∨ (895 ≤ x ∧ x ≤ 8191) ∨ (8204 ≤ x ∧ x ≤ 8205) ∨ (8304 ≤ x ∧ x ≤ 8591) ∨ (11264 ≤ x ∧ x ≤ 12271) ∨ (12289 ≤ x ∧ x ≤ 55295) ∨ (63744 ≤ x ∧ x ≤ 64975) ∨ (65008 ≤ x ∧ x ≤ 65533) ∨ (65536 ≤ x ∧ x ≤ 983039) := by
  simp only [own_P0, own_P12, own_P24, own_P44, own_P58, own_P72, own_P86, own_P100, own_P114, own_P128, own_P142, own_P155, own_P167, own_P179, or_false, or_assoc]
theorem own_no {c : Int32} (h : ¬ ((97 ≤ c.toInt ∧ c.toInt ≤ 122) ∨ (65 ≤ c.toInt ∧ c.toInt ≤ 90) ∨ (95 ≤ c.toInt ∧ c.toInt ≤ 95) ∨ (192 ≤ c.toInt ∧ c.toInt ≤ 214) ∨ (216 ≤ c.toInt ∧ c.toInt ≤ 246) ∨ (248 ≤ c.toInt ∧ c.toInt ≤ 767) ∨ (880 ≤ c.toInt ∧ c.toInt ≤ 893) ∨ (895 ≤ c.toInt ∧ c.toInt ≤ 8191) ∨ (8204 ≤ c.toInt ∧ c.toInt ≤ 8205) ∨ (8304 ≤ c.toInt ∧ c.toInt ≤ 8591) ∨ (11264 ≤ c.toInt ∧ c.toInt ≤ 12271) ∨ (12289 ≤ c.toInt ∧ c.toInt ≤ 55295) ∨ (63744 ≤ c.toInt ∧ c.toInt ≤ 64975) ∨ (65008 ≤ c.toInt ∧ c.toInt ≤ 65533) ∨ (65536 ≤ c.toInt ∧ c.toInt ≤ 983039))) : own_f1 c = 0 := (own_g0 c).2 fun q => h ((own_P0_iff _).mp q)
theorem own_yes {c : Int32} (h : (97 ≤ c.toInt ∧ c.toInt ≤ 122) ∨ (65 ≤ c.toInt ∧ c.toInt ≤ 90) ∨ (95 ≤ c.toInt ∧ c.toInt ≤ 95) ∨ (192 ≤ c.toInt ∧ c.toInt ≤ 214) ∨ (216 ≤ c.toInt ∧ c.toInt ≤ 246) ∨ (248 ≤ c.toInt ∧ c.toInt ≤ 767) ∨ (880 ≤ c.toInt ∧ c.toInt ≤ 893) ∨ (895 ≤ c.toInt ∧ c.toInt ≤ 8191) ∨ (8204 ≤ c.toInt ∧ c.toInt ≤ 8205) ∨ (8304 ≤ c.toInt ∧ c.toInt ≤ 8591) ∨ (11264 ≤ c.toInt ∧ c.toInt ≤ 12271) ∨ (12289 ≤ c.toInt ∧ c.toInt ≤ 55295) ∨ (63744 ≤ c.toInt ∧ c.toInt ≤ 64975) ∨ (65008 ≤ c.toInt ∧ c.toInt ≤ 65533) ∨ (65536 ≤ c.toInt ∧ c.toInt ≤ 983039)) : own_f1 c = 1 := (own_g0 c).1 ((own_P0_iff _).mpr h)
theorem own_lt (c n : Int32) (k : Int) (e : n.toInt = k) : (c < n → c.toInt < k) ∧ (¬ c < n → k ≤ c.toInt) := by
  rw [Int32.lt_iff_toInt_lt, e]; omega
theorem own_gt (c n : Int32) (k : Int) (e : n.toInt = k) : (n < c → k < c.toInt) ∧ (¬ n < c → c.toInt ≤ k) := by
  rw [Int32.lt_iff_toInt_lt, e]; omega
theorem own_eqn (c n : Int32) (k : Int) (e : n.toInt = k) : (c = n → c.toInt = k) ∧ (¬ c = n → c.toInt ≠ k) := by
  rw [← Int32.toInt_inj, e]; omega
theorem own_eq (c : Int32) : own_f1 c = own_f2 c := by
  unfold own_f2
  by_cases h : c < 65
  · have x0 := (own_lt c 65 65 rfl).1 h
    rw [if_pos h]
    exact own_no (by omega)
  have x0 := (own_lt c 65 65 rfl).2 h
  rw [if_neg h]
  clear h
  unfold own_f2_8
  by_cases h : 90 < c
  rotate_left
  · have x1 := (own_gt c 90 90 rfl).2 h
    rw [if_neg h]
    exact own_yes (Or.inr (Or.inl ⟨by omega, by omega⟩))
  have x1 := (own_gt c 90 90 rfl).1 h
  rw [if_pos h]
  clear h
  unfold own_f2_16
  by_cases h : c < 95
  · have x2 := (own_lt c 95 95 rfl).1 h
    rw [if_pos h]
    exact own_no (by omega)
  have x2 := (own_lt c 95 95 rfl).2 h
  rw [if_neg h]
  clear h
  unfold own_f2_24
  by_cases h : c = 95
  · have x3 := (own_eqn c 95 95 rfl).1 h
    rw [if_pos h]
    exact own_yes (Or.inr (Or.inr (Or.inl ⟨by omega, by omega⟩)))
  have x3 := (own_eqn c 95 95 rfl).2 h
  rw [if_neg h]
  clear h
  unfold own_f2_32
  by_cases h : c < 97
  · have x4 := (own_lt c 97 97 rfl).1 h
    rw [if_pos h]
    exact own_no (by omega)
  have x4 := (own_lt c 97 97 rfl).2 h
  rw [if_neg h]
  clear h
  unfold own_f2_40
  by_cases h : 122 < c
  rotate_left
  · have x5 := (own_gt c 122 122 rfl).2 h
    rw [if_neg h]
    exact own_yes (Or.inl ⟨by omega, by omega⟩)
  have x5 := (own_gt c 122 122 rfl).1 h
  rw [if_pos h]
  clear h
  unfold own_f2_48
  by_cases h : c < 192
  · have x6 := (own_lt c 192 192 rfl).1 h
    rw [if_pos h]
    exact own_no (by omega)
  have x6 := (own_lt c 192 192 rfl).2 h
  rw [if_neg h]
  clear h
  unfold own_f2_57
  by_cases h : 214 < c
  rotate_left
  · have x7 := (own_gt c 214 214 rfl).2 h
    rw [if_neg h]
    exact own_yes (Or.inr (Or.inr (Or.inr (Or.inl ⟨by omega, by omega⟩))))
  have x7 := (own_gt c 214 214 rfl).1 h
  rw [if_pos h]
  clear h
  unfold own_f2_66
  by_cases h : c = 215
  · have x8 := (own_eqn c 215 215 rfl).1 h
    rw [if_pos h]
    exact own_no (by omega)
  have x8 := (own_eqn c 215 215 rfl).2 h
  rw [if_neg h]
  clear h
  unfold own_f2_75
  by_cases h : 246 < c
  rotate_left
  · have x9 := (own_gt c 246 246 rfl).2 h
    rw [if_neg h]
    exact own_yes (Or.inr (Or.inr (Or.inr (Or.inr (Or.inl ⟨by omega, by omega⟩)))))
  have x9 := (own_gt c 246 246 rfl).1 h
  rw [if_pos h]
  clear h
  unfold own_f2_84
  by_cases h : c = 247
  · have x10 := (own_eqn c 247 247 rfl).1 h
    rw [if_pos h]
    exact own_no (by omega)
  have x10 := (own_eqn c 247 247 rfl).2 h
  rw [if_neg h]
  clear h
  unfold own_f2_93
  by_cases h : 767 < c
  rotate_left
  · have x11 := (own_gt c 767 767 rfl).2 h
    rw [if_neg h]
    exact own_yes (Or.inr (Or.inr (Or.inr (Or.inr (Or.inr (Or.inl ⟨by omega, by omega⟩))))))
  have x11 := (own_gt c 767 767 rfl).1 h
  rw [if_pos h]
  clear h
  unfold own_f2_102
  by_cases h : c < 880
  · have x12 := (own_lt c 880 880 rfl).1 h
    rw [if_pos h]
    exact own_no (by omega)
  have x12 := (own_lt c 880 880 rfl).2 h
  rw [if_neg h]
  clear h
  unfold own_f2_111
  by_cases h : 893 < c
  rotate_left
  · have x13 := (own_gt c 893 893 rfl).2 h
    rw [if_neg h]
    exact own_yes (Or.inr (Or.inr (Or.inr (Or.inr (Or.inr (Or.inr (Or.inl ⟨by omega, by omega⟩)))))))
  have x13 := (own_gt c 893 893 rfl).1 h
  rw [if_pos h]
  clear h
  unfold own_f2_120
  by_cases h : c = 894
  · have x14 := (own_eqn c 894 894 rfl).1 h
    rw [if_pos h]
    exact own_no (by omega)
  have x14 := (own_eqn c 894 894 rfl).2 h
  rw [if_neg h]
  clear h
  unfold own_f2_129
  by_cases h : 8191 < c
  rotate_left
  · have x15 := (own_gt c 8191 8191 rfl).2 h
    rw [if_neg h]
    exact own_yes (Or.inr (Or.inr (Or.inr (Or.inr (Or.inr (Or.inr (Or.inr (Or.inl ⟨by omega, by omega⟩))))))))
  have x15 := (own_gt c 8191 8191 rfl).1 h
  rw [if_pos h]
  clear h
  unfold own_f2_138
  by_cases h : c < 8204
  · have x16 := (own_lt c 8204 8204 rfl).1 h
    rw [if_pos h]
    exact own_no (by omega)
  have x16 := (own_lt c 8204 8204 rfl).2 h
  rw [if_neg h]
  clear h
  unfold own_f2_147
  by_cases h : 8205 < c
  rotate_left
  · have x17 := (own_gt c 8205 8205 rfl).2 h
    rw [if_neg h]
    exact own_yes (Or.inr (Or.inr (Or.inr (Or.inr (Or.inr (Or.inr (Or.inr (Or.inr (Or.inl ⟨by omega, by omega⟩)))))))))
  have x17 := (own_gt c 8205 8205 rfl).1 h
  rw [if_pos h]
  clear h
  unfold own_f2_156
  by_cases h : c < 8304
  · have x18 := (own_lt c 8304 8304 rfl).1 h
    rw [if_pos h]
    exact own_no (by omega)
  have x18 := (own_lt c 8304 8304 rfl).2 h
  rw [if_neg h]
  clear h
  unfold own_f2_165
  by_cases h : 8591 < c
  rotate_left
  · have x19 := (own_gt c 8591 8591 rfl).2 h
    rw [if_neg h]
    exact own_yes (Or.inr (Or.inr (Or.inr (Or.inr (Or.inr (Or.inr (Or.inr (Or.inr (Or.inr (Or.inl ⟨by omega, by omega⟩))))))))))
  have x19 := (own_gt c 8591 8591 rfl).1 h
  rw [if_pos h]
  clear h
  unfold own_f2_174
  by_cases h : c < 11264
  · have x20 := (own_lt c 11264 11264 rfl).1 h
    rw [if_pos h]
    exact own_no (by omega)
  have x20 := (own_lt c 11264 11264 rfl).2 h
  rw [if_neg h]
  clear h
  unfold own_f2_183
  by_cases h : 12271 < c
  rotate_left
  · have x21 := (own_gt c 12271 12271 rfl).2 h
    rw [if_neg h]
    exact own_yes (Or.inr (Or.inr (Or.inr (Or.inr (Or.inr (Or.inr (Or.inr (Or.inr (Or.inr (Or.inr (Or.inl ⟨by omega, by omega⟩)))))))))))
  have x21 := (own_gt c 12271 12271 rfl).1 h
  rw [if_pos h]
  clear h
  unfold own_f2_192
  by_cases h : c < 12289
  · have x22 := (own_lt c 12289 12289 rfl).1 h
    rw [if_pos h]
    exact own_no (by omega)
  have x22 := (own_lt c 12289 12289 rfl).2 h
  rw [if_neg h]
  clear h
  unfold own_f2_201
  by_cases h : 55295 < c
  rotate_left
  · have x23 := (own_gt c 55295 55295 rfl).2 h
    rw [if_neg h]
    exact own_yes (Or.inr (Or.inr (Or.inr (Or.inr (Or.inr (Or.inr (Or.inr (Or.inr (Or.inr (Or.inr (Or.inr (Or.inl ⟨by omega, by omega⟩))))))))))))
  have x23 := (own_gt c 55295 55295 rfl).1 h
  rw [if_pos h]
  clear h
  unfold own_f2_209
  by_cases h : c < 63744
  · have x24 := (own_lt c 63744 63744 rfl).1 h
    rw [if_pos h]
    exact own_no (by omega)
  have x24 := (own_lt c 63744 63744 rfl).2 h
  rw [if_neg h]
  clear h
  unfold own_f2_217
  by_cases h : 64975 < c
  rotate_left
  · have x25 := (own_gt c 64975 64975 rfl).2 h
    rw [if_neg h]
    exact own_yes (Or.inr (Or.inr (Or.inr (Or.inr (Or.inr (Or.inr (Or.inr (Or.inr (Or.inr (Or.inr (Or.inr (Or.inr (Or.inl ⟨by omega, by omega⟩)))))))))))))
  have x25 := (own_gt c 64975 64975 rfl).1 h
  rw [if_pos h]
  clear h
  unfold own_f2_225
  by_cases h : c < 65008
  · have x26 := (own_lt c 65008 65008 rfl).1 h
    rw [if_pos h]
    exact own_no (by omega)
  have x26 := (own_lt c 65008 65008 rfl).2 h
  rw [if_neg h]
  clear h
  unfold own_f2_233
  by_cases h : 65533 < c
  rotate_left
  · have x27 := (own_gt c 65533 65533 rfl).2 h
    rw [if_neg h]
    exact own_yes (Or.inr (Or.inr (Or.inr (Or.inr (Or.inr (Or.inr (Or.inr (Or.inr (Or.inr (Or.inr (Or.inr (Or.inr (Or.inr (Or.inl ⟨by omega, by omega⟩))))))))))))))
  have x27 := (own_gt c 65533 65533 rfl).1 h
  rw [if_pos h]
  clear h
  unfold own_f2_241
  by_cases h : c < 65536
  · have x28 := (own_lt c 65536 65536 rfl).1 h
    rw [if_pos h]
    exact own_no (by omega)
  have x28 := (own_lt c 65536 65536 rfl).2 h
  rw [if_neg h]
  clear h
  unfold own_f2_249
  by_cases h : 983039 < c
  rotate_left
  · have x29 := (own_gt c 983039 983039 rfl).2 h
    rw [if_neg h]
    exact own_yes (Or.inr (Or.inr (Or.inr (Or.inr (Or.inr (Or.inr (Or.inr (Or.inr (Or.inr (Or.inr (Or.inr (Or.inr (Or.inr (Or.inr (⟨by omega, by omega⟩)))))))))))))))
  have x29 := (own_gt c 983039 983039 rfl).1 h
  rw [if_pos h]
  clear h
  exact own_no (by omega)
theorem own_and (x m : Int32) (hm : 0 ≤ m.toInt) : 0 ≤ (x &&& m).toInt ∧ (x &&& m).toInt ≤ m.toInt := by
  have e : (x &&& m).toBitVec.toNat = x.toBitVec.toNat &&& m.toBitVec.toNat := by simp
  have h1 : (x &&& m).toBitVec.toNat ≤ m.toBitVec.toNat := by rw [e]; exact Nat.and_le_right
  have h2 := m.toBitVec.isLt
  rw [← Int32.toInt_toBitVec, BitVec.toInt_eq_toNat_cond] at hm ⊢
  rw [← Int32.toInt_toBitVec m, BitVec.toInt_eq_toNat_cond]
  generalize (x &&& m).toBitVec.toNat = a at *
  generalize m.toBitVec.toNat = b at *
  split at hm
  · split <;> omega
  · omega
theorem own_of (t : Int32) (n : Nat) (h0 : 0 ≤ t.toInt) (h1 : t.toInt < n) (hn : n ≤ 2 ^ 31) : ∃ k, k < n ∧ t = Int32.ofNat k ∧ t.toNatClampNeg = k := by
  refine ⟨t.toInt.toNat, by omega, ?_, ?_⟩
  · apply Int32.toInt_inj.1
    rw [Int32.toInt_ofNat_of_lt (by omega)]
    omega
  · rfl
theorem own_fits {q : Value} (h : fits .int q = true) : ∃ z, q = .int z := by
  cases q <;> first | exact ⟨_, rfl⟩ | (simp [fits] at h)
theorem own_idx (k : Int32) : ¬ (k &&& 2147483647) % 40 < 0 ∧ (k &&& 2147483647) % 40 < 40 := by
  have h := (own_and k 2147483647 (by decide)).1
  rw [Int32.lt_iff_toInt_lt, Int32.lt_iff_toInt_lt, Int32.toInt_mod]
  have e : (40 : Int32).toInt = 40 := by decide
  have e0 : (0 : Int32).toInt = 0 := by decide
  rw [e, e0]
  generalize (k &&& 2147483647).toInt = a at *
  rw [Int.tmod_eq_emod_of_nonneg h]
  omega
theorem pd_0 : parseMethodDescriptor "(I)Z" = some ⟨[.int], some .boolean⟩ := by decide +kernel
theorem ef_rm0 (m : MethodId) (x0 : Int32) (x1 : Int32) (x2 : Int32) (x3 : Int32) : entryFrame m #[(.int x0), (.int x1), (.int x2), (.int x3)] maxLocals = mkF m 0 #[.val (.int x0), .val (.int x1), .val (.int x2), .val (.int x3), .unset, .unset, .unset, .unset, .unset, .unset] [] := by first | (simp [entryFrame, mkF, argsToLocals, Value.category, maxLocals]; done) | rfl
def Q0 (Z : State) (p0 : Int32) (p1 : Int32) (p2 : Int32) (p3 : Int32) (h0 : Heap) (n0 : Nat) (v : Option Value) (h : Heap) (L : List Loc) : Prop := v = some (.int (1 : Int32)) ∧ Fr n0 L
set_option maxHeartbeats 40000000 in
theorem rm0 (l : Launch) (Z : State) (a0 : Array Value) (hw : ∀ d ∈ tables_1, d.before a0 Z = true) (ws : List Jvm.Cond) (p0 : Int32) (p1 : Int32) (p2 : Int32) (p3 : Int32) (h0 : Heap) (n0 : Nat) (Z0 : n0 ≤ h0.size) :
    MetFree l x (head1 (Jvm.Cond.code x code maxLocals ret :: ws) room_1) (fun a U => a = #[(.int p0), (.int p1), (.int p2), (.int p3)] ∧ Z.Warmed39 U.vm ∧ U.heap = h0) (fun _ _ _ _ _ => True) (fun _ U o U' => ∃ v L, o = .returned v ∧ Q0 Z p0 p1 p2 p3 h0 n0 v U'.heap L ∧ FrameEnd U o U' L room_1.cells room_1.slots) := by
  refine MetFree.of_bodySF (plainFor_of_name pn_1) hisR ?_
  intro p e s m args below meth c s₁ Bd hml0 hP hK
  obtain ⟨rfl, hZ, hh⟩ := hP
  have hx := Bd.exec
  have hby := Bd.bytes
  have hml : c.maxLocals = 10 := hml0
  have hown : s.vm.findClass "com/example/melampus/melampus/model/XmlNamesIsNameStartCharPinLaw" = some m.cls := findClass_of_methodNamed Bd.named
  have hnm := (name_of_methodNamed Bd.named Bd.method).1
  have X0 : Stand p l e room_1 s m #[(.int p0), (.int p1), (.int p2), (.int p3)] below meth c s₁ [] 0 0 := Stand.of_body Bd
  have e0 : s₁.heap = h0 := by rw [← hh, Bd.state]; rfl
  have N0 := Fr.nil n0
  have pre0 : ∀ tgt, Steps p.tables e below (s₁.setTop (mkF m 0 #[.val (.int p0), .val (.int p1), .val (.int p2), .val (.int p3), .unset, .unset, .unset, .unset, .unset, .unset] [])) tgt → Steps p.tables e below (s₁.setTop (entryFrame m #[(.int p0), (.int p1), (.int p2), (.int p3)] maxLocals)) tgt := fun tgt k => castTop (ef_rm0 m p0 p1 p2 p3) k
  obtain ⟨T1, h1, k1, X1, e1, E1, A1, st1⟩ := newP X0 hx hZ (hw _ (List.mem_of_getElem? (i := 0) rfl)) e0 (g := (mkF m 2 #[.val (.int p0), .val (.int p1), .val (.int p2), .val (.int p3), .unset, .unset, .unset, .unset, .unset, .unset] [(.int (40 : Int32))])) rfl (hb hby at_2) rfl (by decide) (cap := 40) (by decide) (by decide) (by decide) (by decide)
  obtain ⟨b1, g1⟩ : ∃ z, z = h0.size := ⟨_, rfl⟩
  rw [← g1] at A1 st1
  have gn_b1 : n0 ≤ b1 := Nat.le_trans Z0 (Nat.le_of_eq g1.symm)
  have zz2 : n0 ≤ h1.size := Nat.le_trans Z0 E1.1
  obtain ⟨vs1, vl1, f3⟩ : ∃ vs : List Value, vs.length = 40 ∧ Arv Z h1 b1 k1 .int (40 : Int32) vs (.int (0 : Int32)) := ⟨_, List.length_replicate, (Arv.new A1 (by decide)).pad (pad_rep [] (.int (0 : Int32)) 40)⟩
  obtain ⟨cl4, Ar4, q4, S4, N4, H4, G4⟩ := id f3
  have hin4 : ¬ ((0 : Int32) < 0 ∨ cl4.slots.size ≤ ((0 : Int32)).toNatClampNeg) := inb_of S4 ⟨by decide, by decide⟩
  obtain ⟨T5, h5, X5, e5, W5, st5⟩ := stI X1 hx hZ e1 Ar4 (j := (0 : Int32)) hin4 (g := (mkF m 8 #[.val (.int p0), .val (.int p1), .val (.int p2), .val (.int p3), .unset, .unset, .unset, .unset, .unset, .unset] [(.int (65 : Int32)), (.int (0 : Int32)), (.ref b1), (.ref b1)])) rfl rfl (hb hby at_8)
  obtain ⟨vs5, vl5, f6⟩ : ∃ vs : List Value, vs.length = 40 ∧ Arv Z h5 b1 k1 .int (40 : Int32) vs (.int (0 : Int32)) := ⟨_, (List.length_set ..).trans vl1, Arv.set Ar4 q4 S4 N4 H4 G4 rfl W5 0 rfl (by rw [vl1]; decide)⟩
  have zz7 : n0 ≤ h5.size := Nat.le_trans zz2 (Keep.of_wr W5).1
  have N8 := Fr.snoc X5 N0 gn_b1
  have pre9 : ∀ tgt, Steps p.tables e below (T5.setTop (mkF m 13 #[.val (.int p0), .val (.int p1), .val (.int p2), .val (.int p3), .unset, .unset, .unset, .unset, .unset, .unset] [(.int (90 : Int32)), (.int (1 : Int32)), (.ref b1), (.ref b1)])) tgt → Steps p.tables e below (s₁.setTop (entryFrame m #[(.int p0), (.int p1), (.int p2), (.int p3)] maxLocals)) tgt := fun tgt kt => pre0 _ (by
    show Steps p.tables e below (s₁.setTop (mkF m 0 #[.val (.int p0), .val (.int p1), .val (.int p2), .val (.int p3), .unset, .unset, .unset, .unset, .unset, .unset] [])) _
    refine XS.bipush X0.here hx rfl (hb hby at_0) ?_
    show Steps p.tables e below (s₁.setTop (mkF m 2 #[.val (.int p0), .val (.int p1), .val (.int p2), .val (.int p3), .unset, .unset, .unset, .unset, .unset, .unset] [(.int (40 : Int32))])) _
    refine st1 _ ?_
    show Steps p.tables e below (T1.setTop (mkF m 4 #[.val (.int p0), .val (.int p1), .val (.int p2), .val (.int p3), .unset, .unset, .unset, .unset, .unset, .unset] [(.ref b1)])) _
    refine XS.dup X1.here hx rfl (hb hby at_4) rfl rfl ?_
    show Steps p.tables e below (T1.setTop (mkF m 5 #[.val (.int p0), .val (.int p1), .val (.int p2), .val (.int p3), .unset, .unset, .unset, .unset, .unset, .unset] [(.ref b1), (.ref b1)])) _
    refine XS.iconst X1.here hx rfl (hb hby at_5) ?_
    show Steps p.tables e below (T1.setTop (mkF m 6 #[.val (.int p0), .val (.int p1), .val (.int p2), .val (.int p3), .unset, .unset, .unset, .unset, .unset, .unset] [(.int (0 : Int32)), (.ref b1), (.ref b1)])) _
    refine XS.bipush X1.here hx rfl (hb hby at_6) ?_
    show Steps p.tables e below (T1.setTop (mkF m 8 #[.val (.int p0), .val (.int p1), .val (.int p2), .val (.int p3), .unset, .unset, .unset, .unset, .unset, .unset] [(.int (65 : Int32)), (.int (0 : Int32)), (.ref b1), (.ref b1)])) _
    refine st5 _ ?_
    show Steps p.tables e below (T5.setTop (mkF m 9 #[.val (.int p0), .val (.int p1), .val (.int p2), .val (.int p3), .unset, .unset, .unset, .unset, .unset, .unset] [(.ref b1)])) _
    refine XS.dup X5.here hx rfl (hb hby at_9) rfl rfl ?_
    show Steps p.tables e below (T5.setTop (mkF m 10 #[.val (.int p0), .val (.int p1), .val (.int p2), .val (.int p3), .unset, .unset, .unset, .unset, .unset, .unset] [(.ref b1), (.ref b1)])) _
    refine XS.iconst X5.here hx rfl (hb hby at_10) ?_
    show Steps p.tables e below (T5.setTop (mkF m 11 #[.val (.int p0), .val (.int p1), .val (.int p2), .val (.int p3), .unset, .unset, .unset, .unset, .unset, .unset] [(.int (1 : Int32)), (.ref b1), (.ref b1)])) _
    refine XS.bipush X5.here hx rfl (hb hby at_11) ?_
    exact kt)
  obtain ⟨cl10, Ar10, q10, S10, N10, H10, G10⟩ := id f6
  have hin10 : ¬ ((1 : Int32) < 0 ∨ cl10.slots.size ≤ ((1 : Int32)).toNatClampNeg) := inb_of S10 ⟨by decide, by decide⟩
  obtain ⟨T11, h11, X11, e11, W11, st11⟩ := stI X5 hx hZ e5 Ar10 (j := (1 : Int32)) hin10 (g := (mkF m 13 #[.val (.int p0), .val (.int p1), .val (.int p2), .val (.int p3), .unset, .unset, .unset, .unset, .unset, .unset] [(.int (90 : Int32)), (.int (1 : Int32)), (.ref b1), (.ref b1)])) rfl rfl (hb hby at_13)
  obtain ⟨vs11, vl11, f12⟩ : ∃ vs : List Value, vs.length = 40 ∧ Arv Z h11 b1 k1 .int (40 : Int32) vs (.int (0 : Int32)) := ⟨_, (List.length_set ..).trans vl5, Arv.set Ar10 q10 S10 N10 H10 G10 rfl W11 1 rfl (by rw [vl5]; decide)⟩
  have zz13 : n0 ≤ h11.size := Nat.le_trans zz7 (Keep.of_wr W11).1
  have N14 := Fr.snoc X11 N8 gn_b1
  obtain ⟨cl15, Ar15, q15, S15, N15, H15, G15⟩ := id f12
  have hin15 : ¬ ((2 : Int32) < 0 ∨ cl15.slots.size ≤ ((2 : Int32)).toNatClampNeg) := inb_of S15 ⟨by decide, by decide⟩
  obtain ⟨T16, h16, X16, e16, W16, st16⟩ := stI X11 hx hZ e11 Ar15 (j := (2 : Int32)) hin15 (g := (mkF m 18 #[.val (.int p0), .val (.int p1), .val (.int p2), .val (.int p3), .unset, .unset, .unset, .unset, .unset, .unset] [(.int (95 : Int32)), (.int (2 : Int32)), (.ref b1), (.ref b1)])) rfl rfl (hb hby at_18)
  obtain ⟨vs16, vl16, f17⟩ : ∃ vs : List Value, vs.length = 40 ∧ Arv Z h16 b1 k1 .int (40 : Int32) vs (.int (0 : Int32)) := ⟨_, (List.length_set ..).trans vl11, Arv.set Ar15 q15 S15 N15 H15 G15 rfl W16 2 rfl (by rw [vl11]; decide)⟩
  have zz18 : n0 ≤ h16.size := Nat.le_trans zz13 (Keep.of_wr W16).1
  have N19 := Fr.snoc X16 N14 gn_b1
  obtain ⟨cl20, Ar20, q20, S20, N20, H20, G20⟩ := id f17
  have hin20 : ¬ ((3 : Int32) < 0 ∨ cl20.slots.size ≤ ((3 : Int32)).toNatClampNeg) := inb_of S20 ⟨by decide, by decide⟩
  obtain ⟨T21, h21, X21, e21, W21, st21⟩ := stI X16 hx hZ e16 Ar20 (j := (3 : Int32)) hin20 (g := (mkF m 23 #[.val (.int p0), .val (.int p1), .val (.int p2), .val (.int p3), .unset, .unset, .unset, .unset, .unset, .unset] [(.int (97 : Int32)), (.int (3 : Int32)), (.ref b1), (.ref b1)])) rfl rfl (hb hby at_23)
  obtain ⟨vs21, vl21, f22⟩ : ∃ vs : List Value, vs.length = 40 ∧ Arv Z h21 b1 k1 .int (40 : Int32) vs (.int (0 : Int32)) := ⟨_, (List.length_set ..).trans vl16, Arv.set Ar20 q20 S20 N20 H20 G20 rfl W21 3 rfl (by rw [vl16]; decide)⟩
  have zz23 : n0 ≤ h21.size := Nat.le_trans zz18 (Keep.of_wr W21).1
  have N24 := Fr.snoc X21 N19 gn_b1
  have pre25 : ∀ tgt, Steps p.tables e below (T21.setTop (mkF m 24 #[.val (.int p0), .val (.int p1), .val (.int p2), .val (.int p3), .unset, .unset, .unset, .unset, .unset, .unset] [(.ref b1)])) tgt → Steps p.tables e below (s₁.setTop (entryFrame m #[(.int p0), (.int p1), (.int p2), (.int p3)] maxLocals)) tgt := fun tgt kt => pre9 _ (by
    show Steps p.tables e below (T5.setTop (mkF m 13 #[.val (.int p0), .val (.int p1), .val (.int p2), .val (.int p3), .unset, .unset, .unset, .unset, .unset, .unset] [(.int (90 : Int32)), (.int (1 : Int32)), (.ref b1), (.ref b1)])) _
    refine st11 _ ?_
    show Steps p.tables e below (T11.setTop (mkF m 14 #[.val (.int p0), .val (.int p1), .val (.int p2), .val (.int p3), .unset, .unset, .unset, .unset, .unset, .unset] [(.ref b1)])) _
    refine XS.dup X11.here hx rfl (hb hby at_14) rfl rfl ?_
    show Steps p.tables e below (T11.setTop (mkF m 15 #[.val (.int p0), .val (.int p1), .val (.int p2), .val (.int p3), .unset, .unset, .unset, .unset, .unset, .unset] [(.ref b1), (.ref b1)])) _
    refine XS.iconst X11.here hx rfl (hb hby at_15) ?_
    show Steps p.tables e below (T11.setTop (mkF m 16 #[.val (.int p0), .val (.int p1), .val (.int p2), .val (.int p3), .unset, .unset, .unset, .unset, .unset, .unset] [(.int (2 : Int32)), (.ref b1), (.ref b1)])) _
    refine XS.bipush X11.here hx rfl (hb hby at_16) ?_
    show Steps p.tables e below (T11.setTop (mkF m 18 #[.val (.int p0), .val (.int p1), .val (.int p2), .val (.int p3), .unset, .unset, .unset, .unset, .unset, .unset] [(.int (95 : Int32)), (.int (2 : Int32)), (.ref b1), (.ref b1)])) _
    refine st16 _ ?_
    show Steps p.tables e below (T16.setTop (mkF m 19 #[.val (.int p0), .val (.int p1), .val (.int p2), .val (.int p3), .unset, .unset, .unset, .unset, .unset, .unset] [(.ref b1)])) _
    refine XS.dup X16.here hx rfl (hb hby at_19) rfl rfl ?_
    show Steps p.tables e below (T16.setTop (mkF m 20 #[.val (.int p0), .val (.int p1), .val (.int p2), .val (.int p3), .unset, .unset, .unset, .unset, .unset, .unset] [(.ref b1), (.ref b1)])) _
    refine XS.iconst X16.here hx rfl (hb hby at_20) ?_
    show Steps p.tables e below (T16.setTop (mkF m 21 #[.val (.int p0), .val (.int p1), .val (.int p2), .val (.int p3), .unset, .unset, .unset, .unset, .unset, .unset] [(.int (3 : Int32)), (.ref b1), (.ref b1)])) _
    refine XS.bipush X16.here hx rfl (hb hby at_21) ?_
    show Steps p.tables e below (T16.setTop (mkF m 23 #[.val (.int p0), .val (.int p1), .val (.int p2), .val (.int p3), .unset, .unset, .unset, .unset, .unset, .unset] [(.int (97 : Int32)), (.int (3 : Int32)), (.ref b1), (.ref b1)])) _
    refine st21 _ ?_
    exact kt)
  obtain ⟨cl26, Ar26, q26, S26, N26, H26, G26⟩ := id f22
  have hin26 : ¬ ((4 : Int32) < 0 ∨ cl26.slots.size ≤ ((4 : Int32)).toNatClampNeg) := inb_of S26 ⟨by decide, by decide⟩
  obtain ⟨T27, h27, X27, e27, W27, st27⟩ := stI X21 hx hZ e21 Ar26 (j := (4 : Int32)) hin26 (g := (mkF m 28 #[.val (.int p0), .val (.int p1), .val (.int p2), .val (.int p3), .unset, .unset, .unset, .unset, .unset, .unset] [(.int (122 : Int32)), (.int (4 : Int32)), (.ref b1), (.ref b1)])) rfl rfl (hb hby at_28)
  obtain ⟨vs27, vl27, f28⟩ : ∃ vs : List Value, vs.length = 40 ∧ Arv Z h27 b1 k1 .int (40 : Int32) vs (.int (0 : Int32)) := ⟨_, (List.length_set ..).trans vl21, Arv.set Ar26 q26 S26 N26 H26 G26 rfl W27 4 rfl (by rw [vl21]; decide)⟩
  have zz29 : n0 ≤ h27.size := Nat.le_trans zz23 (Keep.of_wr W27).1
  have N30 := Fr.snoc X27 N24 gn_b1
  obtain ⟨cl31, Ar31, q31, S31, N31, H31, G31⟩ := id f28
  have hin31 : ¬ ((5 : Int32) < 0 ∨ cl31.slots.size ≤ ((5 : Int32)).toNatClampNeg) := inb_of S31 ⟨by decide, by decide⟩
  obtain ⟨T32, h32, X32, e32, W32, st32⟩ := stI X27 hx hZ e27 Ar31 (j := (5 : Int32)) hin31 (g := (mkF m 34 #[.val (.int p0), .val (.int p1), .val (.int p2), .val (.int p3), .unset, .unset, .unset, .unset, .unset, .unset] [(.int (192 : Int32)), (.int (5 : Int32)), (.ref b1), (.ref b1)])) rfl rfl (hb hby at_34)
  obtain ⟨vs32, vl32, f33⟩ : ∃ vs : List Value, vs.length = 40 ∧ Arv Z h32 b1 k1 .int (40 : Int32) vs (.int (0 : Int32)) := ⟨_, (List.length_set ..).trans vl27, Arv.set Ar31 q31 S31 N31 H31 G31 rfl W32 5 rfl (by rw [vl27]; decide)⟩
  have zz34 : n0 ≤ h32.size := Nat.le_trans zz29 (Keep.of_wr W32).1
  have N35 := Fr.snoc X32 N30 gn_b1
  have pre36 : ∀ tgt, Steps p.tables e below (T32.setTop (mkF m 36 #[.val (.int p0), .val (.int p1), .val (.int p2), .val (.int p3), .unset, .unset, .unset, .unset, .unset, .unset] [(.ref b1), (.ref b1)])) tgt → Steps p.tables e below (s₁.setTop (entryFrame m #[(.int p0), (.int p1), (.int p2), (.int p3)] maxLocals)) tgt := fun tgt kt => pre25 _ (by
    show Steps p.tables e below (T21.setTop (mkF m 24 #[.val (.int p0), .val (.int p1), .val (.int p2), .val (.int p3), .unset, .unset, .unset, .unset, .unset, .unset] [(.ref b1)])) _
    refine XS.dup X21.here hx rfl (hb hby at_24) rfl rfl ?_
    show Steps p.tables e below (T21.setTop (mkF m 25 #[.val (.int p0), .val (.int p1), .val (.int p2), .val (.int p3), .unset, .unset, .unset, .unset, .unset, .unset] [(.ref b1), (.ref b1)])) _
    refine XS.iconst X21.here hx rfl (hb hby at_25) ?_
    show Steps p.tables e below (T21.setTop (mkF m 26 #[.val (.int p0), .val (.int p1), .val (.int p2), .val (.int p3), .unset, .unset, .unset, .unset, .unset, .unset] [(.int (4 : Int32)), (.ref b1), (.ref b1)])) _
    refine XS.bipush X21.here hx rfl (hb hby at_26) ?_
    show Steps p.tables e below (T21.setTop (mkF m 28 #[.val (.int p0), .val (.int p1), .val (.int p2), .val (.int p3), .unset, .unset, .unset, .unset, .unset, .unset] [(.int (122 : Int32)), (.int (4 : Int32)), (.ref b1), (.ref b1)])) _
    refine st27 _ ?_
    show Steps p.tables e below (T27.setTop (mkF m 29 #[.val (.int p0), .val (.int p1), .val (.int p2), .val (.int p3), .unset, .unset, .unset, .unset, .unset, .unset] [(.ref b1)])) _
    refine XS.dup X27.here hx rfl (hb hby at_29) rfl rfl ?_
    show Steps p.tables e below (T27.setTop (mkF m 30 #[.val (.int p0), .val (.int p1), .val (.int p2), .val (.int p3), .unset, .unset, .unset, .unset, .unset, .unset] [(.ref b1), (.ref b1)])) _
    refine XS.iconst X27.here hx rfl (hb hby at_30) ?_
    show Steps p.tables e below (T27.setTop (mkF m 31 #[.val (.int p0), .val (.int p1), .val (.int p2), .val (.int p3), .unset, .unset, .unset, .unset, .unset, .unset] [(.int (5 : Int32)), (.ref b1), (.ref b1)])) _
    refine XS.sipush X27.here hx rfl (hb hby at_31) ?_
    show Steps p.tables e below (T27.setTop (mkF m 34 #[.val (.int p0), .val (.int p1), .val (.int p2), .val (.int p3), .unset, .unset, .unset, .unset, .unset, .unset] [(.int (192 : Int32)), (.int (5 : Int32)), (.ref b1), (.ref b1)])) _
    refine st32 _ ?_
    show Steps p.tables e below (T32.setTop (mkF m 35 #[.val (.int p0), .val (.int p1), .val (.int p2), .val (.int p3), .unset, .unset, .unset, .unset, .unset, .unset] [(.ref b1)])) _
    refine XS.dup X32.here hx rfl (hb hby at_35) rfl rfl ?_
    exact kt)
  obtain ⟨cl37, Ar37, q37, S37, N37, H37, G37⟩ := id f33
  have hin37 : ¬ ((6 : Int32) < 0 ∨ cl37.slots.size ≤ ((6 : Int32)).toNatClampNeg) := inb_of S37 ⟨by decide, by decide⟩
  obtain ⟨T38, h38, X38, e38, W38, st38⟩ := stI X32 hx hZ e32 Ar37 (j := (6 : Int32)) hin37 (g := (mkF m 41 #[.val (.int p0), .val (.int p1), .val (.int p2), .val (.int p3), .unset, .unset, .unset, .unset, .unset, .unset] [(.int (214 : Int32)), (.int (6 : Int32)), (.ref b1), (.ref b1)])) rfl rfl (hb hby at_41)
  obtain ⟨vs38, vl38, f39⟩ : ∃ vs : List Value, vs.length = 40 ∧ Arv Z h38 b1 k1 .int (40 : Int32) vs (.int (0 : Int32)) := ⟨_, (List.length_set ..).trans vl32, Arv.set Ar37 q37 S37 N37 H37 G37 rfl W38 6 rfl (by rw [vl32]; decide)⟩
  have zz40 : n0 ≤ h38.size := Nat.le_trans zz34 (Keep.of_wr W38).1
  have N41 := Fr.snoc X38 N35 gn_b1
  obtain ⟨cl42, Ar42, q42, S42, N42, H42, G42⟩ := id f39
  have hin42 : ¬ ((7 : Int32) < 0 ∨ cl42.slots.size ≤ ((7 : Int32)).toNatClampNeg) := inb_of S42 ⟨by decide, by decide⟩
  obtain ⟨T43, h43, X43, e43, W43, st43⟩ := stI X38 hx hZ e38 Ar42 (j := (7 : Int32)) hin42 (g := (mkF m 48 #[.val (.int p0), .val (.int p1), .val (.int p2), .val (.int p3), .unset, .unset, .unset, .unset, .unset, .unset] [(.int (216 : Int32)), (.int (7 : Int32)), (.ref b1), (.ref b1)])) rfl rfl (hb hby at_48)
  obtain ⟨vs43, vl43, f44⟩ : ∃ vs : List Value, vs.length = 40 ∧ Arv Z h43 b1 k1 .int (40 : Int32) vs (.int (0 : Int32)) := ⟨_, (List.length_set ..).trans vl38, Arv.set Ar42 q42 S42 N42 H42 G42 rfl W43 7 rfl (by rw [vl38]; decide)⟩
  have zz45 : n0 ≤ h43.size := Nat.le_trans zz40 (Keep.of_wr W43).1
  have N46 := Fr.snoc X43 N41 gn_b1
  have pre47 : ∀ tgt, Steps p.tables e below (T43.setTop (mkF m 52 #[.val (.int p0), .val (.int p1), .val (.int p2), .val (.int p3), .unset, .unset, .unset, .unset, .unset, .unset] [(.int (8 : Int32)), (.ref b1), (.ref b1)])) tgt → Steps p.tables e below (s₁.setTop (entryFrame m #[(.int p0), (.int p1), (.int p2), (.int p3)] maxLocals)) tgt := fun tgt kt => pre36 _ (by
    show Steps p.tables e below (T32.setTop (mkF m 36 #[.val (.int p0), .val (.int p1), .val (.int p2), .val (.int p3), .unset, .unset, .unset, .unset, .unset, .unset] [(.ref b1), (.ref b1)])) _
    refine XS.bipush X32.here hx rfl (hb hby at_36) ?_
    show Steps p.tables e below (T32.setTop (mkF m 38 #[.val (.int p0), .val (.int p1), .val (.int p2), .val (.int p3), .unset, .unset, .unset, .unset, .unset, .unset] [(.int (6 : Int32)), (.ref b1), (.ref b1)])) _
    refine XS.sipush X32.here hx rfl (hb hby at_38) ?_
    show Steps p.tables e below (T32.setTop (mkF m 41 #[.val (.int p0), .val (.int p1), .val (.int p2), .val (.int p3), .unset, .unset, .unset, .unset, .unset, .unset] [(.int (214 : Int32)), (.int (6 : Int32)), (.ref b1), (.ref b1)])) _
    refine st38 _ ?_
    show Steps p.tables e below (T38.setTop (mkF m 42 #[.val (.int p0), .val (.int p1), .val (.int p2), .val (.int p3), .unset, .unset, .unset, .unset, .unset, .unset] [(.ref b1)])) _
    refine XS.dup X38.here hx rfl (hb hby at_42) rfl rfl ?_
    show Steps p.tables e below (T38.setTop (mkF m 43 #[.val (.int p0), .val (.int p1), .val (.int p2), .val (.int p3), .unset, .unset, .unset, .unset, .unset, .unset] [(.ref b1), (.ref b1)])) _
    refine XS.bipush X38.here hx rfl (hb hby at_43) ?_
    show Steps p.tables e below (T38.setTop (mkF m 45 #[.val (.int p0), .val (.int p1), .val (.int p2), .val (.int p3), .unset, .unset, .unset, .unset, .unset, .unset] [(.int (7 : Int32)), (.ref b1), (.ref b1)])) _
    refine XS.sipush X38.here hx rfl (hb hby at_45) ?_
    show Steps p.tables e below (T38.setTop (mkF m 48 #[.val (.int p0), .val (.int p1), .val (.int p2), .val (.int p3), .unset, .unset, .unset, .unset, .unset, .unset] [(.int (216 : Int32)), (.int (7 : Int32)), (.ref b1), (.ref b1)])) _
    refine st43 _ ?_
    show Steps p.tables e below (T43.setTop (mkF m 49 #[.val (.int p0), .val (.int p1), .val (.int p2), .val (.int p3), .unset, .unset, .unset, .unset, .unset, .unset] [(.ref b1)])) _
    refine XS.dup X43.here hx rfl (hb hby at_49) rfl rfl ?_
    show Steps p.tables e below (T43.setTop (mkF m 50 #[.val (.int p0), .val (.int p1), .val (.int p2), .val (.int p3), .unset, .unset, .unset, .unset, .unset, .unset] [(.ref b1), (.ref b1)])) _
    refine XS.bipush X43.here hx rfl (hb hby at_50) ?_
    exact kt)
  obtain ⟨cl48, Ar48, q48, S48, N48, H48, G48⟩ := id f44
  have hin48 : ¬ ((8 : Int32) < 0 ∨ cl48.slots.size ≤ ((8 : Int32)).toNatClampNeg) := inb_of S48 ⟨by decide, by decide⟩
  obtain ⟨T49, h49, X49, e49, W49, st49⟩ := stI X43 hx hZ e43 Ar48 (j := (8 : Int32)) hin48 (g := (mkF m 55 #[.val (.int p0), .val (.int p1), .val (.int p2), .val (.int p3), .unset, .unset, .unset, .unset, .unset, .unset] [(.int (246 : Int32)), (.int (8 : Int32)), (.ref b1), (.ref b1)])) rfl rfl (hb hby at_55)
  obtain ⟨vs49, vl49, f50⟩ : ∃ vs : List Value, vs.length = 40 ∧ Arv Z h49 b1 k1 .int (40 : Int32) vs (.int (0 : Int32)) := ⟨_, (List.length_set ..).trans vl43, Arv.set Ar48 q48 S48 N48 H48 G48 rfl W49 8 rfl (by rw [vl43]; decide)⟩
  have zz51 : n0 ≤ h49.size := Nat.le_trans zz45 (Keep.of_wr W49).1
  have N52 := Fr.snoc X49 N46 gn_b1
  obtain ⟨cl53, Ar53, q53, S53, N53, H53, G53⟩ := id f50
  have hin53 : ¬ ((9 : Int32) < 0 ∨ cl53.slots.size ≤ ((9 : Int32)).toNatClampNeg) := inb_of S53 ⟨by decide, by decide⟩
  obtain ⟨T54, h54, X54, e54, W54, st54⟩ := stI X49 hx hZ e49 Ar53 (j := (9 : Int32)) hin53 (g := (mkF m 62 #[.val (.int p0), .val (.int p1), .val (.int p2), .val (.int p3), .unset, .unset, .unset, .unset, .unset, .unset] [(.int (248 : Int32)), (.int (9 : Int32)), (.ref b1), (.ref b1)])) rfl rfl (hb hby at_62)
  obtain ⟨vs54, vl54, f55⟩ : ∃ vs : List Value, vs.length = 40 ∧ Arv Z h54 b1 k1 .int (40 : Int32) vs (.int (0 : Int32)) := ⟨_, (List.length_set ..).trans vl49, Arv.set Ar53 q53 S53 N53 H53 G53 rfl W54 9 rfl (by rw [vl49]; decide)⟩
  have zz56 : n0 ≤ h54.size := Nat.le_trans zz51 (Keep.of_wr W54).1
  have N57 := Fr.snoc X54 N52 gn_b1
  have pre58 : ∀ tgt, Steps p.tables e below (T54.setTop (mkF m 69 #[.val (.int p0), .val (.int p1), .val (.int p2), .val (.int p3), .unset, .unset, .unset, .unset, .unset, .unset] [(.int (767 : Int32)), (.int (10 : Int32)), (.ref b1), (.ref b1)])) tgt → Steps p.tables e below (s₁.setTop (entryFrame m #[(.int p0), (.int p1), (.int p2), (.int p3)] maxLocals)) tgt := fun tgt kt => pre47 _ (by
    show Steps p.tables e below (T43.setTop (mkF m 52 #[.val (.int p0), .val (.int p1), .val (.int p2), .val (.int p3), .unset, .unset, .unset, .unset, .unset, .unset] [(.int (8 : Int32)), (.ref b1), (.ref b1)])) _
    refine XS.sipush X43.here hx rfl (hb hby at_52) ?_
    show Steps p.tables e below (T43.setTop (mkF m 55 #[.val (.int p0), .val (.int p1), .val (.int p2), .val (.int p3), .unset, .unset, .unset, .unset, .unset, .unset] [(.int (246 : Int32)), (.int (8 : Int32)), (.ref b1), (.ref b1)])) _
    refine st49 _ ?_
    show Steps p.tables e below (T49.setTop (mkF m 56 #[.val (.int p0), .val (.int p1), .val (.int p2), .val (.int p3), .unset, .unset, .unset, .unset, .unset, .unset] [(.ref b1)])) _
    refine XS.dup X49.here hx rfl (hb hby at_56) rfl rfl ?_
    show Steps p.tables e below (T49.setTop (mkF m 57 #[.val (.int p0), .val (.int p1), .val (.int p2), .val (.int p3), .unset, .unset, .unset, .unset, .unset, .unset] [(.ref b1), (.ref b1)])) _
    refine XS.bipush X49.here hx rfl (hb hby at_57) ?_
    show Steps p.tables e below (T49.setTop (mkF m 59 #[.val (.int p0), .val (.int p1), .val (.int p2), .val (.int p3), .unset, .unset, .unset, .unset, .unset, .unset] [(.int (9 : Int32)), (.ref b1), (.ref b1)])) _
    refine XS.sipush X49.here hx rfl (hb hby at_59) ?_
    show Steps p.tables e below (T49.setTop (mkF m 62 #[.val (.int p0), .val (.int p1), .val (.int p2), .val (.int p3), .unset, .unset, .unset, .unset, .unset, .unset] [(.int (248 : Int32)), (.int (9 : Int32)), (.ref b1), (.ref b1)])) _
    refine st54 _ ?_
    show Steps p.tables e below (T54.setTop (mkF m 63 #[.val (.int p0), .val (.int p1), .val (.int p2), .val (.int p3), .unset, .unset, .unset, .unset, .unset, .unset] [(.ref b1)])) _
    refine XS.dup X54.here hx rfl (hb hby at_63) rfl rfl ?_
    show Steps p.tables e below (T54.setTop (mkF m 64 #[.val (.int p0), .val (.int p1), .val (.int p2), .val (.int p3), .unset, .unset, .unset, .unset, .unset, .unset] [(.ref b1), (.ref b1)])) _
    refine XS.bipush X54.here hx rfl (hb hby at_64) ?_
    show Steps p.tables e below (T54.setTop (mkF m 66 #[.val (.int p0), .val (.int p1), .val (.int p2), .val (.int p3), .unset, .unset, .unset, .unset, .unset, .unset] [(.int (10 : Int32)), (.ref b1), (.ref b1)])) _
    refine XS.sipush X54.here hx rfl (hb hby at_66) ?_
    exact kt)
  obtain ⟨cl59, Ar59, q59, S59, N59, H59, G59⟩ := id f55
  have hin59 : ¬ ((10 : Int32) < 0 ∨ cl59.slots.size ≤ ((10 : Int32)).toNatClampNeg) := inb_of S59 ⟨by decide, by decide⟩
  obtain ⟨T60, h60, X60, e60, W60, st60⟩ := stI X54 hx hZ e54 Ar59 (j := (10 : Int32)) hin59 (g := (mkF m 69 #[.val (.int p0), .val (.int p1), .val (.int p2), .val (.int p3), .unset, .unset, .unset, .unset, .unset, .unset] [(.int (767 : Int32)), (.int (10 : Int32)), (.ref b1), (.ref b1)])) rfl rfl (hb hby at_69)
  obtain ⟨vs60, vl60, f61⟩ : ∃ vs : List Value, vs.length = 40 ∧ Arv Z h60 b1 k1 .int (40 : Int32) vs (.int (0 : Int32)) := ⟨_, (List.length_set ..).trans vl54, Arv.set Ar59 q59 S59 N59 H59 G59 rfl W60 10 rfl (by rw [vl54]; decide)⟩
  have zz62 : n0 ≤ h60.size := Nat.le_trans zz56 (Keep.of_wr W60).1
  have N63 := Fr.snoc X60 N57 gn_b1
  obtain ⟨cl64, Ar64, q64, S64, N64, H64, G64⟩ := id f61
  have hin64 : ¬ ((11 : Int32) < 0 ∨ cl64.slots.size ≤ ((11 : Int32)).toNatClampNeg) := inb_of S64 ⟨by decide, by decide⟩
  obtain ⟨T65, h65, X65, e65, W65, st65⟩ := stI X60 hx hZ e60 Ar64 (j := (11 : Int32)) hin64 (g := (mkF m 76 #[.val (.int p0), .val (.int p1), .val (.int p2), .val (.int p3), .unset, .unset, .unset, .unset, .unset, .unset] [(.int (880 : Int32)), (.int (11 : Int32)), (.ref b1), (.ref b1)])) rfl rfl (hb hby at_76)
  obtain ⟨vs65, vl65, f66⟩ : ∃ vs : List Value, vs.length = 40 ∧ Arv Z h65 b1 k1 .int (40 : Int32) vs (.int (0 : Int32)) := ⟨_, (List.length_set ..).trans vl60, Arv.set Ar64 q64 S64 N64 H64 G64 rfl W65 11 rfl (by rw [vl60]; decide)⟩
  have zz67 : n0 ≤ h65.size := Nat.le_trans zz62 (Keep.of_wr W65).1
  have N68 := Fr.snoc X65 N63 gn_b1
  obtain ⟨cl69, Ar69, q69, S69, N69, H69, G69⟩ := id f66
  have hin69 : ¬ ((12 : Int32) < 0 ∨ cl69.slots.size ≤ ((12 : Int32)).toNatClampNeg) := inb_of S69 ⟨by decide, by decide⟩
  obtain ⟨T70, h70, X70, e70, W70, st70⟩ := stI X65 hx hZ e65 Ar69 (j := (12 : Int32)) hin69 (g := (mkF m 83 #[.val (.int p0), .val (.int p1), .val (.int p2), .val (.int p3), .unset, .unset, .unset, .unset, .unset, .unset] [(.int (893 : Int32)), (.int (12 : Int32)), (.ref b1), (.ref b1)])) rfl rfl (hb hby at_83)
  obtain ⟨vs70, vl70, f71⟩ : ∃ vs : List Value, vs.length = 40 ∧ Arv Z h70 b1 k1 .int (40 : Int32) vs (.int (0 : Int32)) := ⟨_, (List.length_set ..).trans vl65, Arv.set Ar69 q69 S69 N69 H69 G69 rfl W70 12 rfl (by rw [vl65]; decide)⟩
  have zz72 : n0 ≤ h70.size := Nat.le_trans zz67 (Keep.of_wr W70).1
  have N73 := Fr.snoc X70 N68 gn_b1
  have pre74 : ∀ tgt, Steps p.tables e below (T70.setTop (mkF m 84 #[.val (.int p0), .val (.int p1), .val (.int p2), .val (.int p3), .unset, .unset, .unset, .unset, .unset, .unset] [(.ref b1)])) tgt → Steps p.tables e below (s₁.setTop (entryFrame m #[(.int p0), (.int p1), (.int p2), (.int p3)] maxLocals)) tgt := fun tgt kt => pre58 _ (by
    show Steps p.tables e below (T54.setTop (mkF m 69 #[.val (.int p0), .val (.int p1), .val (.int p2), .val (.int p3), .unset, .unset, .unset, .unset, .unset, .unset] [(.int (767 : Int32)), (.int (10 : Int32)), (.ref b1), (.ref b1)])) _
    refine st60 _ ?_
    show Steps p.tables e below (T60.setTop (mkF m 70 #[.val (.int p0), .val (.int p1), .val (.int p2), .val (.int p3), .unset, .unset, .unset, .unset, .unset, .unset] [(.ref b1)])) _
    refine XS.dup X60.here hx rfl (hb hby at_70) rfl rfl ?_
    show Steps p.tables e below (T60.setTop (mkF m 71 #[.val (.int p0), .val (.int p1), .val (.int p2), .val (.int p3), .unset, .unset, .unset, .unset, .unset, .unset] [(.ref b1), (.ref b1)])) _
    refine XS.bipush X60.here hx rfl (hb hby at_71) ?_
    show Steps p.tables e below (T60.setTop (mkF m 73 #[.val (.int p0), .val (.int p1), .val (.int p2), .val (.int p3), .unset, .unset, .unset, .unset, .unset, .unset] [(.int (11 : Int32)), (.ref b1), (.ref b1)])) _
    refine XS.sipush X60.here hx rfl (hb hby at_73) ?_
    show Steps p.tables e below (T60.setTop (mkF m 76 #[.val (.int p0), .val (.int p1), .val (.int p2), .val (.int p3), .unset, .unset, .unset, .unset, .unset, .unset] [(.int (880 : Int32)), (.int (11 : Int32)), (.ref b1), (.ref b1)])) _
    refine st65 _ ?_
    show Steps p.tables e below (T65.setTop (mkF m 77 #[.val (.int p0), .val (.int p1), .val (.int p2), .val (.int p3), .unset, .unset, .unset, .unset, .unset, .unset] [(.ref b1)])) _
    refine XS.dup X65.here hx rfl (hb hby at_77) rfl rfl ?_
    show Steps p.tables e below (T65.setTop (mkF m 78 #[.val (.int p0), .val (.int p1), .val (.int p2), .val (.int p3), .unset, .unset, .unset, .unset, .unset, .unset] [(.ref b1), (.ref b1)])) _
    refine XS.bipush X65.here hx rfl (hb hby at_78) ?_
    show Steps p.tables e below (T65.setTop (mkF m 80 #[.val (.int p0), .val (.int p1), .val (.int p2), .val (.int p3), .unset, .unset, .unset, .unset, .unset, .unset] [(.int (12 : Int32)), (.ref b1), (.ref b1)])) _
    refine XS.sipush X65.here hx rfl (hb hby at_80) ?_
    show Steps p.tables e below (T65.setTop (mkF m 83 #[.val (.int p0), .val (.int p1), .val (.int p2), .val (.int p3), .unset, .unset, .unset, .unset, .unset, .unset] [(.int (893 : Int32)), (.int (12 : Int32)), (.ref b1), (.ref b1)])) _
    refine st70 _ ?_
    exact kt)
  obtain ⟨cl75, Ar75, q75, S75, N75, H75, G75⟩ := id f71
  have hin75 : ¬ ((13 : Int32) < 0 ∨ cl75.slots.size ≤ ((13 : Int32)).toNatClampNeg) := inb_of S75 ⟨by decide, by decide⟩
  obtain ⟨T76, h76, X76, e76, W76, st76⟩ := stI X70 hx hZ e70 Ar75 (j := (13 : Int32)) hin75 (g := (mkF m 90 #[.val (.int p0), .val (.int p1), .val (.int p2), .val (.int p3), .unset, .unset, .unset, .unset, .unset, .unset] [(.int (895 : Int32)), (.int (13 : Int32)), (.ref b1), (.ref b1)])) rfl rfl (hb hby at_90)
  obtain ⟨vs76, vl76, f77⟩ : ∃ vs : List Value, vs.length = 40 ∧ Arv Z h76 b1 k1 .int (40 : Int32) vs (.int (0 : Int32)) := ⟨_, (List.length_set ..).trans vl70, Arv.set Ar75 q75 S75 N75 H75 G75 rfl W76 13 rfl (by rw [vl70]; decide)⟩
  have zz78 : n0 ≤ h76.size := Nat.le_trans zz72 (Keep.of_wr W76).1
  have N79 := Fr.snoc X76 N73 gn_b1
  obtain ⟨cl80, Ar80, q80, S80, N80, H80, G80⟩ := id f77
  have hin80 : ¬ ((14 : Int32) < 0 ∨ cl80.slots.size ≤ ((14 : Int32)).toNatClampNeg) := inb_of S80 ⟨by decide, by decide⟩
  obtain ⟨T81, h81, X81, e81, W81, st81⟩ := stI X76 hx hZ e76 Ar80 (j := (14 : Int32)) hin80 (g := (mkF m 97 #[.val (.int p0), .val (.int p1), .val (.int p2), .val (.int p3), .unset, .unset, .unset, .unset, .unset, .unset] [(.int (8191 : Int32)), (.int (14 : Int32)), (.ref b1), (.ref b1)])) rfl rfl (hb hby at_97)
  obtain ⟨vs81, vl81, f82⟩ : ∃ vs : List Value, vs.length = 40 ∧ Arv Z h81 b1 k1 .int (40 : Int32) vs (.int (0 : Int32)) := ⟨_, (List.length_set ..).trans vl76, Arv.set Ar80 q80 S80 N80 H80 G80 rfl W81 14 rfl (by rw [vl76]; decide)⟩
  have zz83 : n0 ≤ h81.size := Nat.le_trans zz78 (Keep.of_wr W81).1
  have N84 := Fr.snoc X81 N79 gn_b1
  have pre85 : ∀ tgt, Steps p.tables e below (T81.setTop (mkF m 99 #[.val (.int p0), .val (.int p1), .val (.int p2), .val (.int p3), .unset, .unset, .unset, .unset, .unset, .unset] [(.ref b1), (.ref b1)])) tgt → Steps p.tables e below (s₁.setTop (entryFrame m #[(.int p0), (.int p1), (.int p2), (.int p3)] maxLocals)) tgt := fun tgt kt => pre74 _ (by
    show Steps p.tables e below (T70.setTop (mkF m 84 #[.val (.int p0), .val (.int p1), .val (.int p2), .val (.int p3), .unset, .unset, .unset, .unset, .unset, .unset] [(.ref b1)])) _
    refine XS.dup X70.here hx rfl (hb hby at_84) rfl rfl ?_
    show Steps p.tables e below (T70.setTop (mkF m 85 #[.val (.int p0), .val (.int p1), .val (.int p2), .val (.int p3), .unset, .unset, .unset, .unset, .unset, .unset] [(.ref b1), (.ref b1)])) _
    refine XS.bipush X70.here hx rfl (hb hby at_85) ?_
    show Steps p.tables e below (T70.setTop (mkF m 87 #[.val (.int p0), .val (.int p1), .val (.int p2), .val (.int p3), .unset, .unset, .unset, .unset, .unset, .unset] [(.int (13 : Int32)), (.ref b1), (.ref b1)])) _
    refine XS.sipush X70.here hx rfl (hb hby at_87) ?_
    show Steps p.tables e below (T70.setTop (mkF m 90 #[.val (.int p0), .val (.int p1), .val (.int p2), .val (.int p3), .unset, .unset, .unset, .unset, .unset, .unset] [(.int (895 : Int32)), (.int (13 : Int32)), (.ref b1), (.ref b1)])) _
    refine st76 _ ?_
    show Steps p.tables e below (T76.setTop (mkF m 91 #[.val (.int p0), .val (.int p1), .val (.int p2), .val (.int p3), .unset, .unset, .unset, .unset, .unset, .unset] [(.ref b1)])) _
    refine XS.dup X76.here hx rfl (hb hby at_91) rfl rfl ?_
    show Steps p.tables e below (T76.setTop (mkF m 92 #[.val (.int p0), .val (.int p1), .val (.int p2), .val (.int p3), .unset, .unset, .unset, .unset, .unset, .unset] [(.ref b1), (.ref b1)])) _
    refine XS.bipush X76.here hx rfl (hb hby at_92) ?_
    show Steps p.tables e below (T76.setTop (mkF m 94 #[.val (.int p0), .val (.int p1), .val (.int p2), .val (.int p3), .unset, .unset, .unset, .unset, .unset, .unset] [(.int (14 : Int32)), (.ref b1), (.ref b1)])) _
    refine XS.sipush X76.here hx rfl (hb hby at_94) ?_
    show Steps p.tables e below (T76.setTop (mkF m 97 #[.val (.int p0), .val (.int p1), .val (.int p2), .val (.int p3), .unset, .unset, .unset, .unset, .unset, .unset] [(.int (8191 : Int32)), (.int (14 : Int32)), (.ref b1), (.ref b1)])) _
    refine st81 _ ?_
    show Steps p.tables e below (T81.setTop (mkF m 98 #[.val (.int p0), .val (.int p1), .val (.int p2), .val (.int p3), .unset, .unset, .unset, .unset, .unset, .unset] [(.ref b1)])) _
    refine XS.dup X81.here hx rfl (hb hby at_98) rfl rfl ?_
    exact kt)
  obtain ⟨cl86, Ar86, q86, S86, N86, H86, G86⟩ := id f82
  have hin86 : ¬ ((15 : Int32) < 0 ∨ cl86.slots.size ≤ ((15 : Int32)).toNatClampNeg) := inb_of S86 ⟨by decide, by decide⟩
  obtain ⟨T87, h87, X87, e87, W87, st87⟩ := stI X81 hx hZ e81 Ar86 (j := (15 : Int32)) hin86 (g := (mkF m 104 #[.val (.int p0), .val (.int p1), .val (.int p2), .val (.int p3), .unset, .unset, .unset, .unset, .unset, .unset] [(.int (8204 : Int32)), (.int (15 : Int32)), (.ref b1), (.ref b1)])) rfl rfl (hb hby at_104)
  obtain ⟨vs87, vl87, f88⟩ : ∃ vs : List Value, vs.length = 40 ∧ Arv Z h87 b1 k1 .int (40 : Int32) vs (.int (0 : Int32)) := ⟨_, (List.length_set ..).trans vl81, Arv.set Ar86 q86 S86 N86 H86 G86 rfl W87 15 rfl (by rw [vl81]; decide)⟩
  have zz89 : n0 ≤ h87.size := Nat.le_trans zz83 (Keep.of_wr W87).1
  have N90 := Fr.snoc X87 N84 gn_b1
  obtain ⟨cl91, Ar91, q91, S91, N91, H91, G91⟩ := id f88
  have hin91 : ¬ ((16 : Int32) < 0 ∨ cl91.slots.size ≤ ((16 : Int32)).toNatClampNeg) := inb_of S91 ⟨by decide, by decide⟩
  obtain ⟨T92, h92, X92, e92, W92, st92⟩ := stI X87 hx hZ e87 Ar91 (j := (16 : Int32)) hin91 (g := (mkF m 111 #[.val (.int p0), .val (.int p1), .val (.int p2), .val (.int p3), .unset, .unset, .unset, .unset, .unset, .unset] [(.int (8205 : Int32)), (.int (16 : Int32)), (.ref b1), (.ref b1)])) rfl rfl (hb hby at_111)
  obtain ⟨vs92, vl92, f93⟩ : ∃ vs : List Value, vs.length = 40 ∧ Arv Z h92 b1 k1 .int (40 : Int32) vs (.int (0 : Int32)) := ⟨_, (List.length_set ..).trans vl87, Arv.set Ar91 q91 S91 N91 H91 G91 rfl W92 16 rfl (by rw [vl87]; decide)⟩
  have zz94 : n0 ≤ h92.size := Nat.le_trans zz89 (Keep.of_wr W92).1
  have N95 := Fr.snoc X92 N90 gn_b1
  have pre96 : ∀ tgt, Steps p.tables e below (T92.setTop (mkF m 115 #[.val (.int p0), .val (.int p1), .val (.int p2), .val (.int p3), .unset, .unset, .unset, .unset, .unset, .unset] [(.int (17 : Int32)), (.ref b1), (.ref b1)])) tgt → Steps p.tables e below (s₁.setTop (entryFrame m #[(.int p0), (.int p1), (.int p2), (.int p3)] maxLocals)) tgt := fun tgt kt => pre85 _ (by
    show Steps p.tables e below (T81.setTop (mkF m 99 #[.val (.int p0), .val (.int p1), .val (.int p2), .val (.int p3), .unset, .unset, .unset, .unset, .unset, .unset] [(.ref b1), (.ref b1)])) _
    refine XS.bipush X81.here hx rfl (hb hby at_99) ?_
    show Steps p.tables e below (T81.setTop (mkF m 101 #[.val (.int p0), .val (.int p1), .val (.int p2), .val (.int p3), .unset, .unset, .unset, .unset, .unset, .unset] [(.int (15 : Int32)), (.ref b1), (.ref b1)])) _
    refine XS.sipush X81.here hx rfl (hb hby at_101) ?_
    show Steps p.tables e below (T81.setTop (mkF m 104 #[.val (.int p0), .val (.int p1), .val (.int p2), .val (.int p3), .unset, .unset, .unset, .unset, .unset, .unset] [(.int (8204 : Int32)), (.int (15 : Int32)), (.ref b1), (.ref b1)])) _
    refine st87 _ ?_
    show Steps p.tables e below (T87.setTop (mkF m 105 #[.val (.int p0), .val (.int p1), .val (.int p2), .val (.int p3), .unset, .unset, .unset, .unset, .unset, .unset] [(.ref b1)])) _
    refine XS.dup X87.here hx rfl (hb hby at_105) rfl rfl ?_
    show Steps p.tables e below (T87.setTop (mkF m 106 #[.val (.int p0), .val (.int p1), .val (.int p2), .val (.int p3), .unset, .unset, .unset, .unset, .unset, .unset] [(.ref b1), (.ref b1)])) _
    refine XS.bipush X87.here hx rfl (hb hby at_106) ?_
    show Steps p.tables e below (T87.setTop (mkF m 108 #[.val (.int p0), .val (.int p1), .val (.int p2), .val (.int p3), .unset, .unset, .unset, .unset, .unset, .unset] [(.int (16 : Int32)), (.ref b1), (.ref b1)])) _
    refine XS.sipush X87.here hx rfl (hb hby at_108) ?_
    show Steps p.tables e below (T87.setTop (mkF m 111 #[.val (.int p0), .val (.int p1), .val (.int p2), .val (.int p3), .unset, .unset, .unset, .unset, .unset, .unset] [(.int (8205 : Int32)), (.int (16 : Int32)), (.ref b1), (.ref b1)])) _
    refine st92 _ ?_
    show Steps p.tables e below (T92.setTop (mkF m 112 #[.val (.int p0), .val (.int p1), .val (.int p2), .val (.int p3), .unset, .unset, .unset, .unset, .unset, .unset] [(.ref b1)])) _
    refine XS.dup X92.here hx rfl (hb hby at_112) rfl rfl ?_
    show Steps p.tables e below (T92.setTop (mkF m 113 #[.val (.int p0), .val (.int p1), .val (.int p2), .val (.int p3), .unset, .unset, .unset, .unset, .unset, .unset] [(.ref b1), (.ref b1)])) _
    refine XS.bipush X92.here hx rfl (hb hby at_113) ?_
    exact kt)
  obtain ⟨cl97, Ar97, q97, S97, N97, H97, G97⟩ := id f93
  have hin97 : ¬ ((17 : Int32) < 0 ∨ cl97.slots.size ≤ ((17 : Int32)).toNatClampNeg) := inb_of S97 ⟨by decide, by decide⟩
  obtain ⟨T98, h98, X98, e98, W98, st98⟩ := stI X92 hx hZ e92 Ar97 (j := (17 : Int32)) hin97 (g := (mkF m 118 #[.val (.int p0), .val (.int p1), .val (.int p2), .val (.int p3), .unset, .unset, .unset, .unset, .unset, .unset] [(.int (8304 : Int32)), (.int (17 : Int32)), (.ref b1), (.ref b1)])) rfl rfl (hb hby at_118)
  obtain ⟨vs98, vl98, f99⟩ : ∃ vs : List Value, vs.length = 40 ∧ Arv Z h98 b1 k1 .int (40 : Int32) vs (.int (0 : Int32)) := ⟨_, (List.length_set ..).trans vl92, Arv.set Ar97 q97 S97 N97 H97 G97 rfl W98 17 rfl (by rw [vl92]; decide)⟩
  have zz100 : n0 ≤ h98.size := Nat.le_trans zz94 (Keep.of_wr W98).1
  have N101 := Fr.snoc X98 N95 gn_b1
  obtain ⟨cl102, Ar102, q102, S102, N102, H102, G102⟩ := id f99
  have hin102 : ¬ ((18 : Int32) < 0 ∨ cl102.slots.size ≤ ((18 : Int32)).toNatClampNeg) := inb_of S102 ⟨by decide, by decide⟩
  obtain ⟨T103, h103, X103, e103, W103, st103⟩ := stI X98 hx hZ e98 Ar102 (j := (18 : Int32)) hin102 (g := (mkF m 125 #[.val (.int p0), .val (.int p1), .val (.int p2), .val (.int p3), .unset, .unset, .unset, .unset, .unset, .unset] [(.int (8591 : Int32)), (.int (18 : Int32)), (.ref b1), (.ref b1)])) rfl rfl (hb hby at_125)
  obtain ⟨vs103, vl103, f104⟩ : ∃ vs : List Value, vs.length = 40 ∧ Arv Z h103 b1 k1 .int (40 : Int32) vs (.int (0 : Int32)) := ⟨_, (List.length_set ..).trans vl98, Arv.set Ar102 q102 S102 N102 H102 G102 rfl W103 18 rfl (by rw [vl98]; decide)⟩
  have zz105 : n0 ≤ h103.size := Nat.le_trans zz100 (Keep.of_wr W103).1
  have N106 := Fr.snoc X103 N101 gn_b1
  have pre107 : ∀ tgt, Steps p.tables e below (T103.setTop (mkF m 132 #[.val (.int p0), .val (.int p1), .val (.int p2), .val (.int p3), .unset, .unset, .unset, .unset, .unset, .unset] [(.int (11264 : Int32)), (.int (19 : Int32)), (.ref b1), (.ref b1)])) tgt → Steps p.tables e below (s₁.setTop (entryFrame m #[(.int p0), (.int p1), (.int p2), (.int p3)] maxLocals)) tgt := fun tgt kt => pre96 _ (by
    show Steps p.tables e below (T92.setTop (mkF m 115 #[.val (.int p0), .val (.int p1), .val (.int p2), .val (.int p3), .unset, .unset, .unset, .unset, .unset, .unset] [(.int (17 : Int32)), (.ref b1), (.ref b1)])) _
    refine XS.sipush X92.here hx rfl (hb hby at_115) ?_
    show Steps p.tables e below (T92.setTop (mkF m 118 #[.val (.int p0), .val (.int p1), .val (.int p2), .val (.int p3), .unset, .unset, .unset, .unset, .unset, .unset] [(.int (8304 : Int32)), (.int (17 : Int32)), (.ref b1), (.ref b1)])) _
    refine st98 _ ?_
    show Steps p.tables e below (T98.setTop (mkF m 119 #[.val (.int p0), .val (.int p1), .val (.int p2), .val (.int p3), .unset, .unset, .unset, .unset, .unset, .unset] [(.ref b1)])) _
    refine XS.dup X98.here hx rfl (hb hby at_119) rfl rfl ?_
    show Steps p.tables e below (T98.setTop (mkF m 120 #[.val (.int p0), .val (.int p1), .val (.int p2), .val (.int p3), .unset, .unset, .unset, .unset, .unset, .unset] [(.ref b1), (.ref b1)])) _
    refine XS.bipush X98.here hx rfl (hb hby at_120) ?_
    show Steps p.tables e below (T98.setTop (mkF m 122 #[.val (.int p0), .val (.int p1), .val (.int p2), .val (.int p3), .unset, .unset, .unset, .unset, .unset, .unset] [(.int (18 : Int32)), (.ref b1), (.ref b1)])) _
    refine XS.sipush X98.here hx rfl (hb hby at_122) ?_
    show Steps p.tables e below (T98.setTop (mkF m 125 #[.val (.int p0), .val (.int p1), .val (.int p2), .val (.int p3), .unset, .unset, .unset, .unset, .unset, .unset] [(.int (8591 : Int32)), (.int (18 : Int32)), (.ref b1), (.ref b1)])) _
    refine st103 _ ?_
    show Steps p.tables e below (T103.setTop (mkF m 126 #[.val (.int p0), .val (.int p1), .val (.int p2), .val (.int p3), .unset, .unset, .unset, .unset, .unset, .unset] [(.ref b1)])) _
    refine XS.dup X103.here hx rfl (hb hby at_126) rfl rfl ?_
    show Steps p.tables e below (T103.setTop (mkF m 127 #[.val (.int p0), .val (.int p1), .val (.int p2), .val (.int p3), .unset, .unset, .unset, .unset, .unset, .unset] [(.ref b1), (.ref b1)])) _
    refine XS.bipush X103.here hx rfl (hb hby at_127) ?_
    show Steps p.tables e below (T103.setTop (mkF m 129 #[.val (.int p0), .val (.int p1), .val (.int p2), .val (.int p3), .unset, .unset, .unset, .unset, .unset, .unset] [(.int (19 : Int32)), (.ref b1), (.ref b1)])) _
    refine XS.sipush X103.here hx rfl (hb hby at_129) ?_
    exact kt)
  obtain ⟨cl108, Ar108, q108, S108, N108, H108, G108⟩ := id f104
  have hin108 : ¬ ((19 : Int32) < 0 ∨ cl108.slots.size ≤ ((19 : Int32)).toNatClampNeg) := inb_of S108 ⟨by decide, by decide⟩
  obtain ⟨T109, h109, X109, e109, W109, st109⟩ := stI X103 hx hZ e103 Ar108 (j := (19 : Int32)) hin108 (g := (mkF m 132 #[.val (.int p0), .val (.int p1), .val (.int p2), .val (.int p3), .unset, .unset, .unset, .unset, .unset, .unset] [(.int (11264 : Int32)), (.int (19 : Int32)), (.ref b1), (.ref b1)])) rfl rfl (hb hby at_132)
  obtain ⟨vs109, vl109, f110⟩ : ∃ vs : List Value, vs.length = 40 ∧ Arv Z h109 b1 k1 .int (40 : Int32) vs (.int (0 : Int32)) := ⟨_, (List.length_set ..).trans vl103, Arv.set Ar108 q108 S108 N108 H108 G108 rfl W109 19 rfl (by rw [vl103]; decide)⟩
  have zz111 : n0 ≤ h109.size := Nat.le_trans zz105 (Keep.of_wr W109).1
  have N112 := Fr.snoc X109 N106 gn_b1
  obtain ⟨cl113, Ar113, q113, S113, N113, H113, G113⟩ := id f110
  have hin113 : ¬ ((20 : Int32) < 0 ∨ cl113.slots.size ≤ ((20 : Int32)).toNatClampNeg) := inb_of S113 ⟨by decide, by decide⟩
  obtain ⟨T114, h114, X114, e114, W114, st114⟩ := stI X109 hx hZ e109 Ar113 (j := (20 : Int32)) hin113 (g := (mkF m 139 #[.val (.int p0), .val (.int p1), .val (.int p2), .val (.int p3), .unset, .unset, .unset, .unset, .unset, .unset] [(.int (12271 : Int32)), (.int (20 : Int32)), (.ref b1), (.ref b1)])) rfl rfl (hb hby at_139)
  obtain ⟨vs114, vl114, f115⟩ : ∃ vs : List Value, vs.length = 40 ∧ Arv Z h114 b1 k1 .int (40 : Int32) vs (.int (0 : Int32)) := ⟨_, (List.length_set ..).trans vl109, Arv.set Ar113 q113 S113 N113 H113 G113 rfl W114 20 rfl (by rw [vl109]; decide)⟩
  have zz116 : n0 ≤ h114.size := Nat.le_trans zz111 (Keep.of_wr W114).1
  have N117 := Fr.snoc X114 N112 gn_b1
  obtain ⟨cl118, Ar118, q118, S118, N118, H118, G118⟩ := id f115
  have hin118 : ¬ ((21 : Int32) < 0 ∨ cl118.slots.size ≤ ((21 : Int32)).toNatClampNeg) := inb_of S118 ⟨by decide, by decide⟩
  obtain ⟨T119, h119, X119, e119, W119, st119⟩ := stI X114 hx hZ e114 Ar118 (j := (21 : Int32)) hin118 (g := (mkF m 146 #[.val (.int p0), .val (.int p1), .val (.int p2), .val (.int p3), .unset, .unset, .unset, .unset, .unset, .unset] [(.int (12289 : Int32)), (.int (21 : Int32)), (.ref b1), (.ref b1)])) rfl rfl (hb hby at_146)
  obtain ⟨vs119, vl119, f120⟩ : ∃ vs : List Value, vs.length = 40 ∧ Arv Z h119 b1 k1 .int (40 : Int32) vs (.int (0 : Int32)) := ⟨_, (List.length_set ..).trans vl114, Arv.set Ar118 q118 S118 N118 H118 G118 rfl W119 21 rfl (by rw [vl114]; decide)⟩
  have zz121 : n0 ≤ h119.size := Nat.le_trans zz116 (Keep.of_wr W119).1
  have N122 := Fr.snoc X119 N117 gn_b1
  have pre123 : ∀ tgt, Steps p.tables e below (T119.setTop (mkF m 147 #[.val (.int p0), .val (.int p1), .val (.int p2), .val (.int p3), .unset, .unset, .unset, .unset, .unset, .unset] [(.ref b1)])) tgt → Steps p.tables e below (s₁.setTop (entryFrame m #[(.int p0), (.int p1), (.int p2), (.int p3)] maxLocals)) tgt := fun tgt kt => pre107 _ (by
    show Steps p.tables e below (T103.setTop (mkF m 132 #[.val (.int p0), .val (.int p1), .val (.int p2), .val (.int p3), .unset, .unset, .unset, .unset, .unset, .unset] [(.int (11264 : Int32)), (.int (19 : Int32)), (.ref b1), (.ref b1)])) _
    refine st109 _ ?_
    show Steps p.tables e below (T109.setTop (mkF m 133 #[.val (.int p0), .val (.int p1), .val (.int p2), .val (.int p3), .unset, .unset, .unset, .unset, .unset, .unset] [(.ref b1)])) _
    refine XS.dup X109.here hx rfl (hb hby at_133) rfl rfl ?_
    show Steps p.tables e below (T109.setTop (mkF m 134 #[.val (.int p0), .val (.int p1), .val (.int p2), .val (.int p3), .unset, .unset, .unset, .unset, .unset, .unset] [(.ref b1), (.ref b1)])) _
    refine XS.bipush X109.here hx rfl (hb hby at_134) ?_
    show Steps p.tables e below (T109.setTop (mkF m 136 #[.val (.int p0), .val (.int p1), .val (.int p2), .val (.int p3), .unset, .unset, .unset, .unset, .unset, .unset] [(.int (20 : Int32)), (.ref b1), (.ref b1)])) _
    refine XS.sipush X109.here hx rfl (hb hby at_136) ?_
    show Steps p.tables e below (T109.setTop (mkF m 139 #[.val (.int p0), .val (.int p1), .val (.int p2), .val (.int p3), .unset, .unset, .unset, .unset, .unset, .unset] [(.int (12271 : Int32)), (.int (20 : Int32)), (.ref b1), (.ref b1)])) _
    refine st114 _ ?_
    show Steps p.tables e below (T114.setTop (mkF m 140 #[.val (.int p0), .val (.int p1), .val (.int p2), .val (.int p3), .unset, .unset, .unset, .unset, .unset, .unset] [(.ref b1)])) _
    refine XS.dup X114.here hx rfl (hb hby at_140) rfl rfl ?_
    show Steps p.tables e below (T114.setTop (mkF m 141 #[.val (.int p0), .val (.int p1), .val (.int p2), .val (.int p3), .unset, .unset, .unset, .unset, .unset, .unset] [(.ref b1), (.ref b1)])) _
    refine XS.bipush X114.here hx rfl (hb hby at_141) ?_
    show Steps p.tables e below (T114.setTop (mkF m 143 #[.val (.int p0), .val (.int p1), .val (.int p2), .val (.int p3), .unset, .unset, .unset, .unset, .unset, .unset] [(.int (21 : Int32)), (.ref b1), (.ref b1)])) _
    refine XS.sipush X114.here hx rfl (hb hby at_143) ?_
    show Steps p.tables e below (T114.setTop (mkF m 146 #[.val (.int p0), .val (.int p1), .val (.int p2), .val (.int p3), .unset, .unset, .unset, .unset, .unset, .unset] [(.int (12289 : Int32)), (.int (21 : Int32)), (.ref b1), (.ref b1)])) _
    refine st119 _ ?_
    exact kt)
  obtain ⟨cl124, Ar124, q124, S124, N124, H124, G124⟩ := id f120
  have hin124 : ¬ ((22 : Int32) < 0 ∨ cl124.slots.size ≤ ((22 : Int32)).toNatClampNeg) := inb_of S124 ⟨by decide, by decide⟩
  obtain ⟨T125, h125, X125, e125, W125, st125⟩ := stI X119 hx hZ e119 Ar124 (j := (22 : Int32)) hin124 (g := (mkF m 152 #[.val (.int p0), .val (.int p1), .val (.int p2), .val (.int p3), .unset, .unset, .unset, .unset, .unset, .unset] [(.int (55295 : Int32)), (.int (22 : Int32)), (.ref b1), (.ref b1)])) rfl rfl (hb hby at_152)
  obtain ⟨vs125, vl125, f126⟩ : ∃ vs : List Value, vs.length = 40 ∧ Arv Z h125 b1 k1 .int (40 : Int32) vs (.int (0 : Int32)) := ⟨_, (List.length_set ..).trans vl119, Arv.set Ar124 q124 S124 N124 H124 G124 rfl W125 22 rfl (by rw [vl119]; decide)⟩
  have zz127 : n0 ≤ h125.size := Nat.le_trans zz121 (Keep.of_wr W125).1
  have N128 := Fr.snoc X125 N122 gn_b1
  obtain ⟨cl129, Ar129, q129, S129, N129, H129, G129⟩ := id f126
  have hin129 : ¬ ((23 : Int32) < 0 ∨ cl129.slots.size ≤ ((23 : Int32)).toNatClampNeg) := inb_of S129 ⟨by decide, by decide⟩
  obtain ⟨T130, h130, X130, e130, W130, st130⟩ := stI X125 hx hZ e125 Ar129 (j := (23 : Int32)) hin129 (g := (mkF m 158 #[.val (.int p0), .val (.int p1), .val (.int p2), .val (.int p3), .unset, .unset, .unset, .unset, .unset, .unset] [(.int (63744 : Int32)), (.int (23 : Int32)), (.ref b1), (.ref b1)])) rfl rfl (hb hby at_158)
  obtain ⟨vs130, vl130, f131⟩ : ∃ vs : List Value, vs.length = 40 ∧ Arv Z h130 b1 k1 .int (40 : Int32) vs (.int (0 : Int32)) := ⟨_, (List.length_set ..).trans vl125, Arv.set Ar129 q129 S129 N129 H129 G129 rfl W130 23 rfl (by rw [vl125]; decide)⟩
  have zz132 : n0 ≤ h130.size := Nat.le_trans zz127 (Keep.of_wr W130).1
  have N133 := Fr.snoc X130 N128 gn_b1
  have pre134 : ∀ tgt, Steps p.tables e below (T130.setTop (mkF m 160 #[.val (.int p0), .val (.int p1), .val (.int p2), .val (.int p3), .unset, .unset, .unset, .unset, .unset, .unset] [(.ref b1), (.ref b1)])) tgt → Steps p.tables e below (s₁.setTop (entryFrame m #[(.int p0), (.int p1), (.int p2), (.int p3)] maxLocals)) tgt := fun tgt kt => pre123 _ (by
    show Steps p.tables e below (T119.setTop (mkF m 147 #[.val (.int p0), .val (.int p1), .val (.int p2), .val (.int p3), .unset, .unset, .unset, .unset, .unset, .unset] [(.ref b1)])) _
    refine XS.dup X119.here hx rfl (hb hby at_147) rfl rfl ?_
    show Steps p.tables e below (T119.setTop (mkF m 148 #[.val (.int p0), .val (.int p1), .val (.int p2), .val (.int p3), .unset, .unset, .unset, .unset, .unset, .unset] [(.ref b1), (.ref b1)])) _
    refine XS.bipush X119.here hx rfl (hb hby at_148) ?_
    show Steps p.tables e below (T119.setTop (mkF m 150 #[.val (.int p0), .val (.int p1), .val (.int p2), .val (.int p3), .unset, .unset, .unset, .unset, .unset, .unset] [(.int (22 : Int32)), (.ref b1), (.ref b1)])) _
    refine X119.ldcInt hx hown (mvT hZ (hw _ (List.mem_of_getElem? (i := 1) rfl))) (g := (mkF m 150 #[.val (.int p0), .val (.int p1), .val (.int p2), .val (.int p3), .unset, .unset, .unset, .unset, .unset, .unset] [(.int (22 : Int32)), (.ref b1), (.ref b1)])) rfl (hb hby at_150) _ ?_
    show Steps p.tables e below (T119.setTop (mkF m 152 #[.val (.int p0), .val (.int p1), .val (.int p2), .val (.int p3), .unset, .unset, .unset, .unset, .unset, .unset] [(.int (55295 : Int32)), (.int (22 : Int32)), (.ref b1), (.ref b1)])) _
    refine st125 _ ?_
    show Steps p.tables e below (T125.setTop (mkF m 153 #[.val (.int p0), .val (.int p1), .val (.int p2), .val (.int p3), .unset, .unset, .unset, .unset, .unset, .unset] [(.ref b1)])) _
    refine XS.dup X125.here hx rfl (hb hby at_153) rfl rfl ?_
    show Steps p.tables e below (T125.setTop (mkF m 154 #[.val (.int p0), .val (.int p1), .val (.int p2), .val (.int p3), .unset, .unset, .unset, .unset, .unset, .unset] [(.ref b1), (.ref b1)])) _
    refine XS.bipush X125.here hx rfl (hb hby at_154) ?_
    show Steps p.tables e below (T125.setTop (mkF m 156 #[.val (.int p0), .val (.int p1), .val (.int p2), .val (.int p3), .unset, .unset, .unset, .unset, .unset, .unset] [(.int (23 : Int32)), (.ref b1), (.ref b1)])) _
    refine X125.ldcInt hx hown (mvT hZ (hw _ (List.mem_of_getElem? (i := 2) rfl))) (g := (mkF m 156 #[.val (.int p0), .val (.int p1), .val (.int p2), .val (.int p3), .unset, .unset, .unset, .unset, .unset, .unset] [(.int (23 : Int32)), (.ref b1), (.ref b1)])) rfl (hb hby at_156) _ ?_
    show Steps p.tables e below (T125.setTop (mkF m 158 #[.val (.int p0), .val (.int p1), .val (.int p2), .val (.int p3), .unset, .unset, .unset, .unset, .unset, .unset] [(.int (63744 : Int32)), (.int (23 : Int32)), (.ref b1), (.ref b1)])) _
    refine st130 _ ?_
    show Steps p.tables e below (T130.setTop (mkF m 159 #[.val (.int p0), .val (.int p1), .val (.int p2), .val (.int p3), .unset, .unset, .unset, .unset, .unset, .unset] [(.ref b1)])) _
    refine XS.dup X130.here hx rfl (hb hby at_159) rfl rfl ?_
    exact kt)
  obtain ⟨cl135, Ar135, q135, S135, N135, H135, G135⟩ := id f131
  have hin135 : ¬ ((24 : Int32) < 0 ∨ cl135.slots.size ≤ ((24 : Int32)).toNatClampNeg) := inb_of S135 ⟨by decide, by decide⟩
  obtain ⟨T136, h136, X136, e136, W136, st136⟩ := stI X130 hx hZ e130 Ar135 (j := (24 : Int32)) hin135 (g := (mkF m 164 #[.val (.int p0), .val (.int p1), .val (.int p2), .val (.int p3), .unset, .unset, .unset, .unset, .unset, .unset] [(.int (64975 : Int32)), (.int (24 : Int32)), (.ref b1), (.ref b1)])) rfl rfl (hb hby at_164)
  obtain ⟨vs136, vl136, f137⟩ : ∃ vs : List Value, vs.length = 40 ∧ Arv Z h136 b1 k1 .int (40 : Int32) vs (.int (0 : Int32)) := ⟨_, (List.length_set ..).trans vl130, Arv.set Ar135 q135 S135 N135 H135 G135 rfl W136 24 rfl (by rw [vl130]; decide)⟩
  have zz138 : n0 ≤ h136.size := Nat.le_trans zz132 (Keep.of_wr W136).1
  have N139 := Fr.snoc X136 N133 gn_b1
  obtain ⟨cl140, Ar140, q140, S140, N140, H140, G140⟩ := id f137
  have hin140 : ¬ ((25 : Int32) < 0 ∨ cl140.slots.size ≤ ((25 : Int32)).toNatClampNeg) := inb_of S140 ⟨by decide, by decide⟩
  obtain ⟨T141, h141, X141, e141, W141, st141⟩ := stI X136 hx hZ e136 Ar140 (j := (25 : Int32)) hin140 (g := (mkF m 170 #[.val (.int p0), .val (.int p1), .val (.int p2), .val (.int p3), .unset, .unset, .unset, .unset, .unset, .unset] [(.int (65008 : Int32)), (.int (25 : Int32)), (.ref b1), (.ref b1)])) rfl rfl (hb hby at_170)
  obtain ⟨vs141, vl141, f142⟩ : ∃ vs : List Value, vs.length = 40 ∧ Arv Z h141 b1 k1 .int (40 : Int32) vs (.int (0 : Int32)) := ⟨_, (List.length_set ..).trans vl136, Arv.set Ar140 q140 S140 N140 H140 G140 rfl W141 25 rfl (by rw [vl136]; decide)⟩
  have zz143 : n0 ≤ h141.size := Nat.le_trans zz138 (Keep.of_wr W141).1
  have N144 := Fr.snoc X141 N139 gn_b1
  have pre145 : ∀ tgt, Steps p.tables e below (T141.setTop (mkF m 174 #[.val (.int p0), .val (.int p1), .val (.int p2), .val (.int p3), .unset, .unset, .unset, .unset, .unset, .unset] [(.int (26 : Int32)), (.ref b1), (.ref b1)])) tgt → Steps p.tables e below (s₁.setTop (entryFrame m #[(.int p0), (.int p1), (.int p2), (.int p3)] maxLocals)) tgt := fun tgt kt => pre134 _ (by
    show Steps p.tables e below (T130.setTop (mkF m 160 #[.val (.int p0), .val (.int p1), .val (.int p2), .val (.int p3), .unset, .unset, .unset, .unset, .unset, .unset] [(.ref b1), (.ref b1)])) _
    refine XS.bipush X130.here hx rfl (hb hby at_160) ?_
    show Steps p.tables e below (T130.setTop (mkF m 162 #[.val (.int p0), .val (.int p1), .val (.int p2), .val (.int p3), .unset, .unset, .unset, .unset, .unset, .unset] [(.int (24 : Int32)), (.ref b1), (.ref b1)])) _
    refine X130.ldcInt hx hown (mvT hZ (hw _ (List.mem_of_getElem? (i := 3) rfl))) (g := (mkF m 162 #[.val (.int p0), .val (.int p1), .val (.int p2), .val (.int p3), .unset, .unset, .unset, .unset, .unset, .unset] [(.int (24 : Int32)), (.ref b1), (.ref b1)])) rfl (hb hby at_162) _ ?_
    show Steps p.tables e below (T130.setTop (mkF m 164 #[.val (.int p0), .val (.int p1), .val (.int p2), .val (.int p3), .unset, .unset, .unset, .unset, .unset, .unset] [(.int (64975 : Int32)), (.int (24 : Int32)), (.ref b1), (.ref b1)])) _
    refine st136 _ ?_
    show Steps p.tables e below (T136.setTop (mkF m 165 #[.val (.int p0), .val (.int p1), .val (.int p2), .val (.int p3), .unset, .unset, .unset, .unset, .unset, .unset] [(.ref b1)])) _
    refine XS.dup X136.here hx rfl (hb hby at_165) rfl rfl ?_
    show Steps p.tables e below (T136.setTop (mkF m 166 #[.val (.int p0), .val (.int p1), .val (.int p2), .val (.int p3), .unset, .unset, .unset, .unset, .unset, .unset] [(.ref b1), (.ref b1)])) _
    refine XS.bipush X136.here hx rfl (hb hby at_166) ?_
    show Steps p.tables e below (T136.setTop (mkF m 168 #[.val (.int p0), .val (.int p1), .val (.int p2), .val (.int p3), .unset, .unset, .unset, .unset, .unset, .unset] [(.int (25 : Int32)), (.ref b1), (.ref b1)])) _
    refine X136.ldcInt hx hown (mvT hZ (hw _ (List.mem_of_getElem? (i := 4) rfl))) (g := (mkF m 168 #[.val (.int p0), .val (.int p1), .val (.int p2), .val (.int p3), .unset, .unset, .unset, .unset, .unset, .unset] [(.int (25 : Int32)), (.ref b1), (.ref b1)])) rfl (hb hby at_168) _ ?_
    show Steps p.tables e below (T136.setTop (mkF m 170 #[.val (.int p0), .val (.int p1), .val (.int p2), .val (.int p3), .unset, .unset, .unset, .unset, .unset, .unset] [(.int (65008 : Int32)), (.int (25 : Int32)), (.ref b1), (.ref b1)])) _
    refine st141 _ ?_
    show Steps p.tables e below (T141.setTop (mkF m 171 #[.val (.int p0), .val (.int p1), .val (.int p2), .val (.int p3), .unset, .unset, .unset, .unset, .unset, .unset] [(.ref b1)])) _
    refine XS.dup X141.here hx rfl (hb hby at_171) rfl rfl ?_
    show Steps p.tables e below (T141.setTop (mkF m 172 #[.val (.int p0), .val (.int p1), .val (.int p2), .val (.int p3), .unset, .unset, .unset, .unset, .unset, .unset] [(.ref b1), (.ref b1)])) _
    refine XS.bipush X141.here hx rfl (hb hby at_172) ?_
    exact kt)
  obtain ⟨cl146, Ar146, q146, S146, N146, H146, G146⟩ := id f142
  have hin146 : ¬ ((26 : Int32) < 0 ∨ cl146.slots.size ≤ ((26 : Int32)).toNatClampNeg) := inb_of S146 ⟨by decide, by decide⟩
  obtain ⟨T147, h147, X147, e147, W147, st147⟩ := stI X141 hx hZ e141 Ar146 (j := (26 : Int32)) hin146 (g := (mkF m 176 #[.val (.int p0), .val (.int p1), .val (.int p2), .val (.int p3), .unset, .unset, .unset, .unset, .unset, .unset] [(.int (65533 : Int32)), (.int (26 : Int32)), (.ref b1), (.ref b1)])) rfl rfl (hb hby at_176)
  obtain ⟨vs147, vl147, f148⟩ : ∃ vs : List Value, vs.length = 40 ∧ Arv Z h147 b1 k1 .int (40 : Int32) vs (.int (0 : Int32)) := ⟨_, (List.length_set ..).trans vl141, Arv.set Ar146 q146 S146 N146 H146 G146 rfl W147 26 rfl (by rw [vl141]; decide)⟩
  have zz149 : n0 ≤ h147.size := Nat.le_trans zz143 (Keep.of_wr W147).1
  have N150 := Fr.snoc X147 N144 gn_b1
  obtain ⟨cl151, Ar151, q151, S151, N151, H151, G151⟩ := id f148
  have hin151 : ¬ ((27 : Int32) < 0 ∨ cl151.slots.size ≤ ((27 : Int32)).toNatClampNeg) := inb_of S151 ⟨by decide, by decide⟩
  obtain ⟨T152, h152, X152, e152, W152, st152⟩ := stI X147 hx hZ e147 Ar151 (j := (27 : Int32)) hin151 (g := (mkF m 182 #[.val (.int p0), .val (.int p1), .val (.int p2), .val (.int p3), .unset, .unset, .unset, .unset, .unset, .unset] [(.int (65536 : Int32)), (.int (27 : Int32)), (.ref b1), (.ref b1)])) rfl rfl (hb hby at_182)
  obtain ⟨vs152, vl152, f153⟩ : ∃ vs : List Value, vs.length = 40 ∧ Arv Z h152 b1 k1 .int (40 : Int32) vs (.int (0 : Int32)) := ⟨_, (List.length_set ..).trans vl147, Arv.set Ar151 q151 S151 N151 H151 G151 rfl W152 27 rfl (by rw [vl147]; decide)⟩
  have zz154 : n0 ≤ h152.size := Nat.le_trans zz149 (Keep.of_wr W152).1
  have N155 := Fr.snoc X152 N150 gn_b1
  have pre156 : ∀ tgt, Steps p.tables e below (T152.setTop (mkF m 188 #[.val (.int p0), .val (.int p1), .val (.int p2), .val (.int p3), .unset, .unset, .unset, .unset, .unset, .unset] [(.int (983039 : Int32)), (.int (28 : Int32)), (.ref b1), (.ref b1)])) tgt → Steps p.tables e below (s₁.setTop (entryFrame m #[(.int p0), (.int p1), (.int p2), (.int p3)] maxLocals)) tgt := fun tgt kt => pre145 _ (by
    show Steps p.tables e below (T141.setTop (mkF m 174 #[.val (.int p0), .val (.int p1), .val (.int p2), .val (.int p3), .unset, .unset, .unset, .unset, .unset, .unset] [(.int (26 : Int32)), (.ref b1), (.ref b1)])) _
    refine X141.ldcInt hx hown (mvT hZ (hw _ (List.mem_of_getElem? (i := 5) rfl))) (g := (mkF m 174 #[.val (.int p0), .val (.int p1), .val (.int p2), .val (.int p3), .unset, .unset, .unset, .unset, .unset, .unset] [(.int (26 : Int32)), (.ref b1), (.ref b1)])) rfl (hb hby at_174) _ ?_
    show Steps p.tables e below (T141.setTop (mkF m 176 #[.val (.int p0), .val (.int p1), .val (.int p2), .val (.int p3), .unset, .unset, .unset, .unset, .unset, .unset] [(.int (65533 : Int32)), (.int (26 : Int32)), (.ref b1), (.ref b1)])) _
    refine st147 _ ?_
    show Steps p.tables e below (T147.setTop (mkF m 177 #[.val (.int p0), .val (.int p1), .val (.int p2), .val (.int p3), .unset, .unset, .unset, .unset, .unset, .unset] [(.ref b1)])) _
    refine XS.dup X147.here hx rfl (hb hby at_177) rfl rfl ?_
    show Steps p.tables e below (T147.setTop (mkF m 178 #[.val (.int p0), .val (.int p1), .val (.int p2), .val (.int p3), .unset, .unset, .unset, .unset, .unset, .unset] [(.ref b1), (.ref b1)])) _
    refine XS.bipush X147.here hx rfl (hb hby at_178) ?_
    show Steps p.tables e below (T147.setTop (mkF m 180 #[.val (.int p0), .val (.int p1), .val (.int p2), .val (.int p3), .unset, .unset, .unset, .unset, .unset, .unset] [(.int (27 : Int32)), (.ref b1), (.ref b1)])) _
    refine X147.ldcInt hx hown (mvT hZ (hw _ (List.mem_of_getElem? (i := 6) rfl))) (g := (mkF m 180 #[.val (.int p0), .val (.int p1), .val (.int p2), .val (.int p3), .unset, .unset, .unset, .unset, .unset, .unset] [(.int (27 : Int32)), (.ref b1), (.ref b1)])) rfl (hb hby at_180) _ ?_
    show Steps p.tables e below (T147.setTop (mkF m 182 #[.val (.int p0), .val (.int p1), .val (.int p2), .val (.int p3), .unset, .unset, .unset, .unset, .unset, .unset] [(.int (65536 : Int32)), (.int (27 : Int32)), (.ref b1), (.ref b1)])) _
    refine st152 _ ?_
    show Steps p.tables e below (T152.setTop (mkF m 183 #[.val (.int p0), .val (.int p1), .val (.int p2), .val (.int p3), .unset, .unset, .unset, .unset, .unset, .unset] [(.ref b1)])) _
    refine XS.dup X152.here hx rfl (hb hby at_183) rfl rfl ?_
    show Steps p.tables e below (T152.setTop (mkF m 184 #[.val (.int p0), .val (.int p1), .val (.int p2), .val (.int p3), .unset, .unset, .unset, .unset, .unset, .unset] [(.ref b1), (.ref b1)])) _
    refine XS.bipush X152.here hx rfl (hb hby at_184) ?_
    show Steps p.tables e below (T152.setTop (mkF m 186 #[.val (.int p0), .val (.int p1), .val (.int p2), .val (.int p3), .unset, .unset, .unset, .unset, .unset, .unset] [(.int (28 : Int32)), (.ref b1), (.ref b1)])) _
    refine X152.ldcInt hx hown (mvT hZ (hw _ (List.mem_of_getElem? (i := 7) rfl))) (g := (mkF m 186 #[.val (.int p0), .val (.int p1), .val (.int p2), .val (.int p3), .unset, .unset, .unset, .unset, .unset, .unset] [(.int (28 : Int32)), (.ref b1), (.ref b1)])) rfl (hb hby at_186) _ ?_
    exact kt)
  obtain ⟨cl157, Ar157, q157, S157, N157, H157, G157⟩ := id f153
  have hin157 : ¬ ((28 : Int32) < 0 ∨ cl157.slots.size ≤ ((28 : Int32)).toNatClampNeg) := inb_of S157 ⟨by decide, by decide⟩
  obtain ⟨T158, h158, X158, e158, W158, st158⟩ := stI X152 hx hZ e152 Ar157 (j := (28 : Int32)) hin157 (g := (mkF m 188 #[.val (.int p0), .val (.int p1), .val (.int p2), .val (.int p3), .unset, .unset, .unset, .unset, .unset, .unset] [(.int (983039 : Int32)), (.int (28 : Int32)), (.ref b1), (.ref b1)])) rfl rfl (hb hby at_188)
  obtain ⟨vs158, vl158, f159⟩ : ∃ vs : List Value, vs.length = 40 ∧ Arv Z h158 b1 k1 .int (40 : Int32) vs (.int (0 : Int32)) := ⟨_, (List.length_set ..).trans vl152, Arv.set Ar157 q157 S157 N157 H157 G157 rfl W158 28 rfl (by rw [vl152]; decide)⟩
  have zz160 : n0 ≤ h158.size := Nat.le_trans zz154 (Keep.of_wr W158).1
  have N161 := Fr.snoc X158 N155 gn_b1
  obtain ⟨cl162, Ar162, q162, S162, N162, H162, G162⟩ := id f159
  have hin162 : ¬ ((29 : Int32) < 0 ∨ cl162.slots.size ≤ ((29 : Int32)).toNatClampNeg) := inb_of S162 ⟨by decide, by decide⟩
  obtain ⟨T163, h163, X163, e163, W163, st163⟩ := stI X158 hx hZ e158 Ar162 (j := (29 : Int32)) hin162 (g := (mkF m 194 #[.val (.int p0), .val (.int p1), .val (.int p2), .val (.int p3), .unset, .unset, .unset, .unset, .unset, .unset] [(.int (58 : Int32)), (.int (29 : Int32)), (.ref b1), (.ref b1)])) rfl rfl (hb hby at_194)
  obtain ⟨vs163, vl163, f164⟩ : ∃ vs : List Value, vs.length = 40 ∧ Arv Z h163 b1 k1 .int (40 : Int32) vs (.int (0 : Int32)) := ⟨_, (List.length_set ..).trans vl158, Arv.set Ar162 q162 S162 N162 H162 G162 rfl W163 29 rfl (by rw [vl158]; decide)⟩
  have zz165 : n0 ≤ h163.size := Nat.le_trans zz160 (Keep.of_wr W163).1
  have N166 := Fr.snoc X163 N161 gn_b1
  obtain ⟨cl167, Ar167, q167, S167, N167, H167, G167⟩ := id f164
  have hin167 : ¬ ((30 : Int32) < 0 ∨ cl167.slots.size ≤ ((30 : Int32)).toNatClampNeg) := inb_of S167 ⟨by decide, by decide⟩
  obtain ⟨T168, h168, X168, e168, W168, st168⟩ := stI X163 hx hZ e163 Ar167 (j := (30 : Int32)) hin167 (g := (mkF m 200 #[.val (.int p0), .val (.int p1), .val (.int p2), .val (.int p3), .unset, .unset, .unset, .unset, .unset, .unset] [(.int (45 : Int32)), (.int (30 : Int32)), (.ref b1), (.ref b1)])) rfl rfl (hb hby at_200)
  obtain ⟨vs168, vl168, f169⟩ : ∃ vs : List Value, vs.length = 40 ∧ Arv Z h168 b1 k1 .int (40 : Int32) vs (.int (0 : Int32)) := ⟨_, (List.length_set ..).trans vl163, Arv.set Ar167 q167 S167 N167 H167 G167 rfl W168 30 rfl (by rw [vl163]; decide)⟩
  have zz170 : n0 ≤ h168.size := Nat.le_trans zz165 (Keep.of_wr W168).1
  have N171 := Fr.snoc X168 N166 gn_b1
  have pre172 : ∀ tgt, Steps p.tables e below (T168.setTop (mkF m 201 #[.val (.int p0), .val (.int p1), .val (.int p2), .val (.int p3), .unset, .unset, .unset, .unset, .unset, .unset] [(.ref b1)])) tgt → Steps p.tables e below (s₁.setTop (entryFrame m #[(.int p0), (.int p1), (.int p2), (.int p3)] maxLocals)) tgt := fun tgt kt => pre156 _ (by
    show Steps p.tables e below (T152.setTop (mkF m 188 #[.val (.int p0), .val (.int p1), .val (.int p2), .val (.int p3), .unset, .unset, .unset, .unset, .unset, .unset] [(.int (983039 : Int32)), (.int (28 : Int32)), (.ref b1), (.ref b1)])) _
    refine st158 _ ?_
    show Steps p.tables e below (T158.setTop (mkF m 189 #[.val (.int p0), .val (.int p1), .val (.int p2), .val (.int p3), .unset, .unset, .unset, .unset, .unset, .unset] [(.ref b1)])) _
    refine XS.dup X158.here hx rfl (hb hby at_189) rfl rfl ?_
    show Steps p.tables e below (T158.setTop (mkF m 190 #[.val (.int p0), .val (.int p1), .val (.int p2), .val (.int p3), .unset, .unset, .unset, .unset, .unset, .unset] [(.ref b1), (.ref b1)])) _
    refine XS.bipush X158.here hx rfl (hb hby at_190) ?_
    show Steps p.tables e below (T158.setTop (mkF m 192 #[.val (.int p0), .val (.int p1), .val (.int p2), .val (.int p3), .unset, .unset, .unset, .unset, .unset, .unset] [(.int (29 : Int32)), (.ref b1), (.ref b1)])) _
    refine XS.bipush X158.here hx rfl (hb hby at_192) ?_
    show Steps p.tables e below (T158.setTop (mkF m 194 #[.val (.int p0), .val (.int p1), .val (.int p2), .val (.int p3), .unset, .unset, .unset, .unset, .unset, .unset] [(.int (58 : Int32)), (.int (29 : Int32)), (.ref b1), (.ref b1)])) _
    refine st163 _ ?_
    show Steps p.tables e below (T163.setTop (mkF m 195 #[.val (.int p0), .val (.int p1), .val (.int p2), .val (.int p3), .unset, .unset, .unset, .unset, .unset, .unset] [(.ref b1)])) _
    refine XS.dup X163.here hx rfl (hb hby at_195) rfl rfl ?_
    show Steps p.tables e below (T163.setTop (mkF m 196 #[.val (.int p0), .val (.int p1), .val (.int p2), .val (.int p3), .unset, .unset, .unset, .unset, .unset, .unset] [(.ref b1), (.ref b1)])) _
    refine XS.bipush X163.here hx rfl (hb hby at_196) ?_
    show Steps p.tables e below (T163.setTop (mkF m 198 #[.val (.int p0), .val (.int p1), .val (.int p2), .val (.int p3), .unset, .unset, .unset, .unset, .unset, .unset] [(.int (30 : Int32)), (.ref b1), (.ref b1)])) _
    refine XS.bipush X163.here hx rfl (hb hby at_198) ?_
    show Steps p.tables e below (T163.setTop (mkF m 200 #[.val (.int p0), .val (.int p1), .val (.int p2), .val (.int p3), .unset, .unset, .unset, .unset, .unset, .unset] [(.int (45 : Int32)), (.int (30 : Int32)), (.ref b1), (.ref b1)])) _
    refine st168 _ ?_
    exact kt)
  obtain ⟨cl173, Ar173, q173, S173, N173, H173, G173⟩ := id f169
  have hin173 : ¬ ((31 : Int32) < 0 ∨ cl173.slots.size ≤ ((31 : Int32)).toNatClampNeg) := inb_of S173 ⟨by decide, by decide⟩
  obtain ⟨T174, h174, X174, e174, W174, st174⟩ := stI X168 hx hZ e168 Ar173 (j := (31 : Int32)) hin173 (g := (mkF m 206 #[.val (.int p0), .val (.int p1), .val (.int p2), .val (.int p3), .unset, .unset, .unset, .unset, .unset, .unset] [(.int (46 : Int32)), (.int (31 : Int32)), (.ref b1), (.ref b1)])) rfl rfl (hb hby at_206)
  obtain ⟨vs174, vl174, f175⟩ : ∃ vs : List Value, vs.length = 40 ∧ Arv Z h174 b1 k1 .int (40 : Int32) vs (.int (0 : Int32)) := ⟨_, (List.length_set ..).trans vl168, Arv.set Ar173 q173 S173 N173 H173 G173 rfl W174 31 rfl (by rw [vl168]; decide)⟩
  have zz176 : n0 ≤ h174.size := Nat.le_trans zz170 (Keep.of_wr W174).1
  have N177 := Fr.snoc X174 N171 gn_b1
  obtain ⟨cl178, Ar178, q178, S178, N178, H178, G178⟩ := id f175
  have hin178 : ¬ ((32 : Int32) < 0 ∨ cl178.slots.size ≤ ((32 : Int32)).toNatClampNeg) := inb_of S178 ⟨by decide, by decide⟩
  obtain ⟨T179, h179, X179, e179, W179, st179⟩ := stI X174 hx hZ e174 Ar178 (j := (32 : Int32)) hin178 (g := (mkF m 212 #[.val (.int p0), .val (.int p1), .val (.int p2), .val (.int p3), .unset, .unset, .unset, .unset, .unset, .unset] [(.int (48 : Int32)), (.int (32 : Int32)), (.ref b1), (.ref b1)])) rfl rfl (hb hby at_212)
  obtain ⟨vs179, vl179, f180⟩ : ∃ vs : List Value, vs.length = 40 ∧ Arv Z h179 b1 k1 .int (40 : Int32) vs (.int (0 : Int32)) := ⟨_, (List.length_set ..).trans vl174, Arv.set Ar178 q178 S178 N178 H178 G178 rfl W179 32 rfl (by rw [vl174]; decide)⟩
  have zz181 : n0 ≤ h179.size := Nat.le_trans zz176 (Keep.of_wr W179).1
  have N182 := Fr.snoc X179 N177 gn_b1
  have pre183 : ∀ tgt, Steps p.tables e below (T179.setTop (mkF m 214 #[.val (.int p0), .val (.int p1), .val (.int p2), .val (.int p3), .unset, .unset, .unset, .unset, .unset, .unset] [(.ref b1), (.ref b1)])) tgt → Steps p.tables e below (s₁.setTop (entryFrame m #[(.int p0), (.int p1), (.int p2), (.int p3)] maxLocals)) tgt := fun tgt kt => pre172 _ (by
    show Steps p.tables e below (T168.setTop (mkF m 201 #[.val (.int p0), .val (.int p1), .val (.int p2), .val (.int p3), .unset, .unset, .unset, .unset, .unset, .unset] [(.ref b1)])) _
    refine XS.dup X168.here hx rfl (hb hby at_201) rfl rfl ?_
    show Steps p.tables e below (T168.setTop (mkF m 202 #[.val (.int p0), .val (.int p1), .val (.int p2), .val (.int p3), .unset, .unset, .unset, .unset, .unset, .unset] [(.ref b1), (.ref b1)])) _
    refine XS.bipush X168.here hx rfl (hb hby at_202) ?_
    show Steps p.tables e below (T168.setTop (mkF m 204 #[.val (.int p0), .val (.int p1), .val (.int p2), .val (.int p3), .unset, .unset, .unset, .unset, .unset, .unset] [(.int (31 : Int32)), (.ref b1), (.ref b1)])) _
    refine XS.bipush X168.here hx rfl (hb hby at_204) ?_
    show Steps p.tables e below (T168.setTop (mkF m 206 #[.val (.int p0), .val (.int p1), .val (.int p2), .val (.int p3), .unset, .unset, .unset, .unset, .unset, .unset] [(.int (46 : Int32)), (.int (31 : Int32)), (.ref b1), (.ref b1)])) _
    refine st174 _ ?_
    show Steps p.tables e below (T174.setTop (mkF m 207 #[.val (.int p0), .val (.int p1), .val (.int p2), .val (.int p3), .unset, .unset, .unset, .unset, .unset, .unset] [(.ref b1)])) _
    refine XS.dup X174.here hx rfl (hb hby at_207) rfl rfl ?_
    show Steps p.tables e below (T174.setTop (mkF m 208 #[.val (.int p0), .val (.int p1), .val (.int p2), .val (.int p3), .unset, .unset, .unset, .unset, .unset, .unset] [(.ref b1), (.ref b1)])) _
    refine XS.bipush X174.here hx rfl (hb hby at_208) ?_
    show Steps p.tables e below (T174.setTop (mkF m 210 #[.val (.int p0), .val (.int p1), .val (.int p2), .val (.int p3), .unset, .unset, .unset, .unset, .unset, .unset] [(.int (32 : Int32)), (.ref b1), (.ref b1)])) _
    refine XS.bipush X174.here hx rfl (hb hby at_210) ?_
    show Steps p.tables e below (T174.setTop (mkF m 212 #[.val (.int p0), .val (.int p1), .val (.int p2), .val (.int p3), .unset, .unset, .unset, .unset, .unset, .unset] [(.int (48 : Int32)), (.int (32 : Int32)), (.ref b1), (.ref b1)])) _
    refine st179 _ ?_
    show Steps p.tables e below (T179.setTop (mkF m 213 #[.val (.int p0), .val (.int p1), .val (.int p2), .val (.int p3), .unset, .unset, .unset, .unset, .unset, .unset] [(.ref b1)])) _
    refine XS.dup X179.here hx rfl (hb hby at_213) rfl rfl ?_
    exact kt)
  obtain ⟨cl184, Ar184, q184, S184, N184, H184, G184⟩ := id f180
  have hin184 : ¬ ((33 : Int32) < 0 ∨ cl184.slots.size ≤ ((33 : Int32)).toNatClampNeg) := inb_of S184 ⟨by decide, by decide⟩
  obtain ⟨T185, h185, X185, e185, W185, st185⟩ := stI X179 hx hZ e179 Ar184 (j := (33 : Int32)) hin184 (g := (mkF m 218 #[.val (.int p0), .val (.int p1), .val (.int p2), .val (.int p3), .unset, .unset, .unset, .unset, .unset, .unset] [(.int (57 : Int32)), (.int (33 : Int32)), (.ref b1), (.ref b1)])) rfl rfl (hb hby at_218)
  obtain ⟨vs185, vl185, f186⟩ : ∃ vs : List Value, vs.length = 40 ∧ Arv Z h185 b1 k1 .int (40 : Int32) vs (.int (0 : Int32)) := ⟨_, (List.length_set ..).trans vl179, Arv.set Ar184 q184 S184 N184 H184 G184 rfl W185 33 rfl (by rw [vl179]; decide)⟩
  have zz187 : n0 ≤ h185.size := Nat.le_trans zz181 (Keep.of_wr W185).1
  have N188 := Fr.snoc X185 N182 gn_b1
  obtain ⟨cl189, Ar189, q189, S189, N189, H189, G189⟩ := id f186
  have hin189 : ¬ ((34 : Int32) < 0 ∨ cl189.slots.size ≤ ((34 : Int32)).toNatClampNeg) := inb_of S189 ⟨by decide, by decide⟩
  obtain ⟨T190, h190, X190, e190, W190, st190⟩ := stI X185 hx hZ e185 Ar189 (j := (34 : Int32)) hin189 (g := (mkF m 225 #[.val (.int p0), .val (.int p1), .val (.int p2), .val (.int p3), .unset, .unset, .unset, .unset, .unset, .unset] [(.int (183 : Int32)), (.int (34 : Int32)), (.ref b1), (.ref b1)])) rfl rfl (hb hby at_225)
  obtain ⟨vs190, vl190, f191⟩ : ∃ vs : List Value, vs.length = 40 ∧ Arv Z h190 b1 k1 .int (40 : Int32) vs (.int (0 : Int32)) := ⟨_, (List.length_set ..).trans vl185, Arv.set Ar189 q189 S189 N189 H189 G189 rfl W190 34 rfl (by rw [vl185]; decide)⟩
  have zz192 : n0 ≤ h190.size := Nat.le_trans zz187 (Keep.of_wr W190).1
  have N193 := Fr.snoc X190 N188 gn_b1
  have pre194 : ∀ tgt, Steps p.tables e below (T190.setTop (mkF m 229 #[.val (.int p0), .val (.int p1), .val (.int p2), .val (.int p3), .unset, .unset, .unset, .unset, .unset, .unset] [(.int (35 : Int32)), (.ref b1), (.ref b1)])) tgt → Steps p.tables e below (s₁.setTop (entryFrame m #[(.int p0), (.int p1), (.int p2), (.int p3)] maxLocals)) tgt := fun tgt kt => pre183 _ (by
    show Steps p.tables e below (T179.setTop (mkF m 214 #[.val (.int p0), .val (.int p1), .val (.int p2), .val (.int p3), .unset, .unset, .unset, .unset, .unset, .unset] [(.ref b1), (.ref b1)])) _
    refine XS.bipush X179.here hx rfl (hb hby at_214) ?_
    show Steps p.tables e below (T179.setTop (mkF m 216 #[.val (.int p0), .val (.int p1), .val (.int p2), .val (.int p3), .unset, .unset, .unset, .unset, .unset, .unset] [(.int (33 : Int32)), (.ref b1), (.ref b1)])) _
    refine XS.bipush X179.here hx rfl (hb hby at_216) ?_
    show Steps p.tables e below (T179.setTop (mkF m 218 #[.val (.int p0), .val (.int p1), .val (.int p2), .val (.int p3), .unset, .unset, .unset, .unset, .unset, .unset] [(.int (57 : Int32)), (.int (33 : Int32)), (.ref b1), (.ref b1)])) _
    refine st185 _ ?_
    show Steps p.tables e below (T185.setTop (mkF m 219 #[.val (.int p0), .val (.int p1), .val (.int p2), .val (.int p3), .unset, .unset, .unset, .unset, .unset, .unset] [(.ref b1)])) _
    refine XS.dup X185.here hx rfl (hb hby at_219) rfl rfl ?_
    show Steps p.tables e below (T185.setTop (mkF m 220 #[.val (.int p0), .val (.int p1), .val (.int p2), .val (.int p3), .unset, .unset, .unset, .unset, .unset, .unset] [(.ref b1), (.ref b1)])) _
    refine XS.bipush X185.here hx rfl (hb hby at_220) ?_
    show Steps p.tables e below (T185.setTop (mkF m 222 #[.val (.int p0), .val (.int p1), .val (.int p2), .val (.int p3), .unset, .unset, .unset, .unset, .unset, .unset] [(.int (34 : Int32)), (.ref b1), (.ref b1)])) _
    refine XS.sipush X185.here hx rfl (hb hby at_222) ?_
    show Steps p.tables e below (T185.setTop (mkF m 225 #[.val (.int p0), .val (.int p1), .val (.int p2), .val (.int p3), .unset, .unset, .unset, .unset, .unset, .unset] [(.int (183 : Int32)), (.int (34 : Int32)), (.ref b1), (.ref b1)])) _
    refine st190 _ ?_
    show Steps p.tables e below (T190.setTop (mkF m 226 #[.val (.int p0), .val (.int p1), .val (.int p2), .val (.int p3), .unset, .unset, .unset, .unset, .unset, .unset] [(.ref b1)])) _
    refine XS.dup X190.here hx rfl (hb hby at_226) rfl rfl ?_
    show Steps p.tables e below (T190.setTop (mkF m 227 #[.val (.int p0), .val (.int p1), .val (.int p2), .val (.int p3), .unset, .unset, .unset, .unset, .unset, .unset] [(.ref b1), (.ref b1)])) _
    refine XS.bipush X190.here hx rfl (hb hby at_227) ?_
    exact kt)
  obtain ⟨cl195, Ar195, q195, S195, N195, H195, G195⟩ := id f191
  have hin195 : ¬ ((35 : Int32) < 0 ∨ cl195.slots.size ≤ ((35 : Int32)).toNatClampNeg) := inb_of S195 ⟨by decide, by decide⟩
  obtain ⟨T196, h196, X196, e196, W196, st196⟩ := stI X190 hx hZ e190 Ar195 (j := (35 : Int32)) hin195 (g := (mkF m 232 #[.val (.int p0), .val (.int p1), .val (.int p2), .val (.int p3), .unset, .unset, .unset, .unset, .unset, .unset] [(.int (768 : Int32)), (.int (35 : Int32)), (.ref b1), (.ref b1)])) rfl rfl (hb hby at_232)
  obtain ⟨vs196, vl196, f197⟩ : ∃ vs : List Value, vs.length = 40 ∧ Arv Z h196 b1 k1 .int (40 : Int32) vs (.int (0 : Int32)) := ⟨_, (List.length_set ..).trans vl190, Arv.set Ar195 q195 S195 N195 H195 G195 rfl W196 35 rfl (by rw [vl190]; decide)⟩
  have zz198 : n0 ≤ h196.size := Nat.le_trans zz192 (Keep.of_wr W196).1
  have N199 := Fr.snoc X196 N193 gn_b1
  obtain ⟨cl200, Ar200, q200, S200, N200, H200, G200⟩ := id f197
  have hin200 : ¬ ((36 : Int32) < 0 ∨ cl200.slots.size ≤ ((36 : Int32)).toNatClampNeg) := inb_of S200 ⟨by decide, by decide⟩
  obtain ⟨T201, h201, X201, e201, W201, st201⟩ := stI X196 hx hZ e196 Ar200 (j := (36 : Int32)) hin200 (g := (mkF m 239 #[.val (.int p0), .val (.int p1), .val (.int p2), .val (.int p3), .unset, .unset, .unset, .unset, .unset, .unset] [(.int (879 : Int32)), (.int (36 : Int32)), (.ref b1), (.ref b1)])) rfl rfl (hb hby at_239)
  obtain ⟨vs201, vl201, f202⟩ : ∃ vs : List Value, vs.length = 40 ∧ Arv Z h201 b1 k1 .int (40 : Int32) vs (.int (0 : Int32)) := ⟨_, (List.length_set ..).trans vl196, Arv.set Ar200 q200 S200 N200 H200 G200 rfl W201 36 rfl (by rw [vl196]; decide)⟩
  have zz203 : n0 ≤ h201.size := Nat.le_trans zz198 (Keep.of_wr W201).1
  have N204 := Fr.snoc X201 N199 gn_b1
  have pre205 : ∀ tgt, Steps p.tables e below (T201.setTop (mkF m 246 #[.val (.int p0), .val (.int p1), .val (.int p2), .val (.int p3), .unset, .unset, .unset, .unset, .unset, .unset] [(.int (8255 : Int32)), (.int (37 : Int32)), (.ref b1), (.ref b1)])) tgt → Steps p.tables e below (s₁.setTop (entryFrame m #[(.int p0), (.int p1), (.int p2), (.int p3)] maxLocals)) tgt := fun tgt kt => pre194 _ (by
    show Steps p.tables e below (T190.setTop (mkF m 229 #[.val (.int p0), .val (.int p1), .val (.int p2), .val (.int p3), .unset, .unset, .unset, .unset, .unset, .unset] [(.int (35 : Int32)), (.ref b1), (.ref b1)])) _
    refine XS.sipush X190.here hx rfl (hb hby at_229) ?_
    show Steps p.tables e below (T190.setTop (mkF m 232 #[.val (.int p0), .val (.int p1), .val (.int p2), .val (.int p3), .unset, .unset, .unset, .unset, .unset, .unset] [(.int (768 : Int32)), (.int (35 : Int32)), (.ref b1), (.ref b1)])) _
    refine st196 _ ?_
    show Steps p.tables e below (T196.setTop (mkF m 233 #[.val (.int p0), .val (.int p1), .val (.int p2), .val (.int p3), .unset, .unset, .unset, .unset, .unset, .unset] [(.ref b1)])) _
    refine XS.dup X196.here hx rfl (hb hby at_233) rfl rfl ?_
    show Steps p.tables e below (T196.setTop (mkF m 234 #[.val (.int p0), .val (.int p1), .val (.int p2), .val (.int p3), .unset, .unset, .unset, .unset, .unset, .unset] [(.ref b1), (.ref b1)])) _
    refine XS.bipush X196.here hx rfl (hb hby at_234) ?_
    show Steps p.tables e below (T196.setTop (mkF m 236 #[.val (.int p0), .val (.int p1), .val (.int p2), .val (.int p3), .unset, .unset, .unset, .unset, .unset, .unset] [(.int (36 : Int32)), (.ref b1), (.ref b1)])) _
    refine XS.sipush X196.here hx rfl (hb hby at_236) ?_
    show Steps p.tables e below (T196.setTop (mkF m 239 #[.val (.int p0), .val (.int p1), .val (.int p2), .val (.int p3), .unset, .unset, .unset, .unset, .unset, .unset] [(.int (879 : Int32)), (.int (36 : Int32)), (.ref b1), (.ref b1)])) _
    refine st201 _ ?_
    show Steps p.tables e below (T201.setTop (mkF m 240 #[.val (.int p0), .val (.int p1), .val (.int p2), .val (.int p3), .unset, .unset, .unset, .unset, .unset, .unset] [(.ref b1)])) _
    refine XS.dup X201.here hx rfl (hb hby at_240) rfl rfl ?_
    show Steps p.tables e below (T201.setTop (mkF m 241 #[.val (.int p0), .val (.int p1), .val (.int p2), .val (.int p3), .unset, .unset, .unset, .unset, .unset, .unset] [(.ref b1), (.ref b1)])) _
    refine XS.bipush X201.here hx rfl (hb hby at_241) ?_
    show Steps p.tables e below (T201.setTop (mkF m 243 #[.val (.int p0), .val (.int p1), .val (.int p2), .val (.int p3), .unset, .unset, .unset, .unset, .unset, .unset] [(.int (37 : Int32)), (.ref b1), (.ref b1)])) _
    refine XS.sipush X201.here hx rfl (hb hby at_243) ?_
    exact kt)
  obtain ⟨cl206, Ar206, q206, S206, N206, H206, G206⟩ := id f202
  have hin206 : ¬ ((37 : Int32) < 0 ∨ cl206.slots.size ≤ ((37 : Int32)).toNatClampNeg) := inb_of S206 ⟨by decide, by decide⟩
  obtain ⟨T207, h207, X207, e207, W207, st207⟩ := stI X201 hx hZ e201 Ar206 (j := (37 : Int32)) hin206 (g := (mkF m 246 #[.val (.int p0), .val (.int p1), .val (.int p2), .val (.int p3), .unset, .unset, .unset, .unset, .unset, .unset] [(.int (8255 : Int32)), (.int (37 : Int32)), (.ref b1), (.ref b1)])) rfl rfl (hb hby at_246)
  obtain ⟨vs207, vl207, f208⟩ : ∃ vs : List Value, vs.length = 40 ∧ Arv Z h207 b1 k1 .int (40 : Int32) vs (.int (0 : Int32)) := ⟨_, (List.length_set ..).trans vl201, Arv.set Ar206 q206 S206 N206 H206 G206 rfl W207 37 rfl (by rw [vl201]; decide)⟩
  have zz209 : n0 ≤ h207.size := Nat.le_trans zz203 (Keep.of_wr W207).1
  have N210 := Fr.snoc X207 N204 gn_b1
  obtain ⟨cl211, Ar211, q211, S211, N211, H211, G211⟩ := id f208
  have hin211 : ¬ ((38 : Int32) < 0 ∨ cl211.slots.size ≤ ((38 : Int32)).toNatClampNeg) := inb_of S211 ⟨by decide, by decide⟩
  obtain ⟨T212, h212, X212, e212, W212, st212⟩ := stI X207 hx hZ e207 Ar211 (j := (38 : Int32)) hin211 (g := (mkF m 251 #[.val (.int p0), .val (.int p1), .val (.int p2), .val (.int p3), .unset, .unset, .unset, .unset, .unset, .unset] [(.int (0 : Int32)), (.int (38 : Int32)), (.ref b1), (.ref b1)])) rfl rfl (hb hby at_251)
  obtain ⟨vs212, vl212, f213⟩ : ∃ vs : List Value, vs.length = 40 ∧ Arv Z h212 b1 k1 .int (40 : Int32) vs (.int (0 : Int32)) := ⟨_, (List.length_set ..).trans vl207, Arv.set Ar211 q211 S211 N211 H211 G211 rfl W212 38 rfl (by rw [vl207]; decide)⟩
  have zz214 : n0 ≤ h212.size := Nat.le_trans zz209 (Keep.of_wr W212).1
  have N215 := Fr.snoc X212 N210 gn_b1
  obtain ⟨cl216, Ar216, q216, S216, N216, H216, G216⟩ := id f213
  have hin216 : ¬ ((39 : Int32) < 0 ∨ cl216.slots.size ≤ ((39 : Int32)).toNatClampNeg) := inb_of S216 ⟨by decide, by decide⟩
  obtain ⟨T217, h217, X217, e217, W217, st217⟩ := stI X212 hx hZ e212 Ar216 (j := (39 : Int32)) hin216 (g := (mkF m 257 #[.val (.int p0), .val (.int p1), .val (.int p2), .val (.int p3), .unset, .unset, .unset, .unset, .unset, .unset] [(.int (1114111 : Int32)), (.int (39 : Int32)), (.ref b1), (.ref b1)])) rfl rfl (hb hby at_257)
  obtain ⟨vs217, vl217, f218⟩ : ∃ vs : List Value, vs.length = 40 ∧ Arv Z h217 b1 k1 .int (40 : Int32) vs (.int (0 : Int32)) := ⟨_, (List.length_set ..).trans vl212, Arv.set Ar216 q216 S216 N216 H216 G216 rfl W217 39 rfl (by rw [vl212]; decide)⟩
  have zz219 : n0 ≤ h217.size := Nat.le_trans zz214 (Keep.of_wr W217).1
  have N220 := Fr.snoc X217 N215 gn_b1
  have pre221 : ∀ tgt, Steps p.tables e below (T217.setTop (mkF m 258 #[.val (.int p0), .val (.int p1), .val (.int p2), .val (.int p3), .unset, .unset, .unset, .unset, .unset, .unset] [(.ref b1)])) tgt → Steps p.tables e below (s₁.setTop (entryFrame m #[(.int p0), (.int p1), (.int p2), (.int p3)] maxLocals)) tgt := fun tgt kt => pre205 _ (by
    show Steps p.tables e below (T201.setTop (mkF m 246 #[.val (.int p0), .val (.int p1), .val (.int p2), .val (.int p3), .unset, .unset, .unset, .unset, .unset, .unset] [(.int (8255 : Int32)), (.int (37 : Int32)), (.ref b1), (.ref b1)])) _
    refine st207 _ ?_
    show Steps p.tables e below (T207.setTop (mkF m 247 #[.val (.int p0), .val (.int p1), .val (.int p2), .val (.int p3), .unset, .unset, .unset, .unset, .unset, .unset] [(.ref b1)])) _
    refine XS.dup X207.here hx rfl (hb hby at_247) rfl rfl ?_
    show Steps p.tables e below (T207.setTop (mkF m 248 #[.val (.int p0), .val (.int p1), .val (.int p2), .val (.int p3), .unset, .unset, .unset, .unset, .unset, .unset] [(.ref b1), (.ref b1)])) _
    refine XS.bipush X207.here hx rfl (hb hby at_248) ?_
    show Steps p.tables e below (T207.setTop (mkF m 250 #[.val (.int p0), .val (.int p1), .val (.int p2), .val (.int p3), .unset, .unset, .unset, .unset, .unset, .unset] [(.int (38 : Int32)), (.ref b1), (.ref b1)])) _
    refine XS.iconst X207.here hx rfl (hb hby at_250) ?_
    show Steps p.tables e below (T207.setTop (mkF m 251 #[.val (.int p0), .val (.int p1), .val (.int p2), .val (.int p3), .unset, .unset, .unset, .unset, .unset, .unset] [(.int (0 : Int32)), (.int (38 : Int32)), (.ref b1), (.ref b1)])) _
    refine st212 _ ?_
    show Steps p.tables e below (T212.setTop (mkF m 252 #[.val (.int p0), .val (.int p1), .val (.int p2), .val (.int p3), .unset, .unset, .unset, .unset, .unset, .unset] [(.ref b1)])) _
    refine XS.dup X212.here hx rfl (hb hby at_252) rfl rfl ?_
    show Steps p.tables e below (T212.setTop (mkF m 253 #[.val (.int p0), .val (.int p1), .val (.int p2), .val (.int p3), .unset, .unset, .unset, .unset, .unset, .unset] [(.ref b1), (.ref b1)])) _
    refine XS.bipush X212.here hx rfl (hb hby at_253) ?_
    show Steps p.tables e below (T212.setTop (mkF m 255 #[.val (.int p0), .val (.int p1), .val (.int p2), .val (.int p3), .unset, .unset, .unset, .unset, .unset, .unset] [(.int (39 : Int32)), (.ref b1), (.ref b1)])) _
    refine X212.ldcInt hx hown (mvT hZ (hw _ (List.mem_of_getElem? (i := 8) rfl))) (g := (mkF m 255 #[.val (.int p0), .val (.int p1), .val (.int p2), .val (.int p3), .unset, .unset, .unset, .unset, .unset, .unset] [(.int (39 : Int32)), (.ref b1), (.ref b1)])) rfl (hb hby at_255) _ ?_
    show Steps p.tables e below (T212.setTop (mkF m 257 #[.val (.int p0), .val (.int p1), .val (.int p2), .val (.int p3), .unset, .unset, .unset, .unset, .unset, .unset] [(.int (1114111 : Int32)), (.int (39 : Int32)), (.ref b1), (.ref b1)])) _
    refine st217 _ ?_
    exact kt)
  have pre222 : ∀ tgt, Steps p.tables e below (T217.setTop (mkF m 260 #[.val (.int p0), .val (.int p1), .val (.int p2), .val (.int p3), .val (.ref b1), .unset, .unset, .unset, .unset, .unset] [])) tgt → Steps p.tables e below (s₁.setTop (entryFrame m #[(.int p0), (.int p1), (.int p2), (.int p3)] maxLocals)) tgt := fun tgt kt => pre221 _ (by
    show Steps p.tables e below (T217.setTop (mkF m 258 #[.val (.int p0), .val (.int p1), .val (.int p2), .val (.int p3), .unset, .unset, .unset, .unset, .unset, .unset] [(.ref b1)])) _
    refine XS.astore X217.here hx rfl (hb hby at_258) rfl rfl (l' := #[.val (.int p0), .val (.int p1), .val (.int p2), .val (.int p3), .val (.ref b1), .unset, .unset, .unset, .unset, .unset]) rfl ?_
    exact kt)
  obtain ⟨lc223, Xg223, Ng223⟩ : ∃ lc, Stand p l e room_1 s m #[(.int p0), (.int p1), (.int p2), (.int p3)] below meth c T217 lc 1 40 ∧ Fr n0 lc := ⟨_, X217, N220⟩
  obtain ⟨cl224, Ar224, -, S224, M224, H224, G224⟩ := f218
  have hi224 : ¬ (((p1 &&& (2147483647 : Int32)) % (40 : Int32)) < 0 ∨ cl224.slots.size ≤ (((p1 &&& (2147483647 : Int32)) % (40 : Int32))).toNatClampNeg) := inb_of S224 (own_idx p1)
  obtain ⟨zb, hzb⟩ := own_fits (G224 (((p1 &&& (2147483647 : Int32)) % (40 : Int32))).toNatClampNeg (Nat.lt_of_not_le fun q => hi224 (Or.inr q)))
  have ha224 : cl224.slots[(((p1 &&& (2147483647 : Int32)) % (40 : Int32))).toNatClampNeg]? = some (.int zb) := (H224 _ (Nat.lt_of_not_le fun q => hi224 (Or.inr q))).trans (congrArg some hzb)
  have pre225 : ∀ tgt, Steps p.tables e below (T217.setTop (mkF m 271 #[.val (.int p0), .val (.int p1), .val (.int p2), .val (.int p3), .val (.ref b1), .unset, .unset, .unset, .unset, .unset] [(.int zb)])) tgt → Steps p.tables e below (s₁.setTop (entryFrame m #[(.int p0), (.int p1), (.int p2), (.int p3)] maxLocals)) tgt := fun tgt kt => pre222 _ (by
    show Steps p.tables e below (T217.setTop (mkF m 260 #[.val (.int p0), .val (.int p1), .val (.int p2), .val (.int p3), .val (.ref b1), .unset, .unset, .unset, .unset, .unset] [])) _
    refine XS.aload Xg223.here hx rfl (hb hby at_260) rfl rfl ?_
    show Steps p.tables e below (T217.setTop (mkF m 262 #[.val (.int p0), .val (.int p1), .val (.int p2), .val (.int p3), .val (.ref b1), .unset, .unset, .unset, .unset, .unset] [(.ref b1)])) _
    refine XS.iloadN Xg223.here hx rfl (hb hby at_262) rfl ?_
    show Steps p.tables e below (T217.setTop (mkF m 263 #[.val (.int p0), .val (.int p1), .val (.int p2), .val (.int p3), .val (.ref b1), .unset, .unset, .unset, .unset, .unset] [(.int p1), (.ref b1)])) _
    refine Xg223.ldcInt hx hown (mvT hZ (hw _ (List.mem_of_getElem? (i := 9) rfl))) (g := (mkF m 263 #[.val (.int p0), .val (.int p1), .val (.int p2), .val (.int p3), .val (.ref b1), .unset, .unset, .unset, .unset, .unset] [(.int p1), (.ref b1)])) rfl (hb hby at_263) _ ?_
    show Steps p.tables e below (T217.setTop (mkF m 265 #[.val (.int p0), .val (.int p1), .val (.int p2), .val (.int p3), .val (.ref b1), .unset, .unset, .unset, .unset, .unset] [(.int (2147483647 : Int32)), (.int p1), (.ref b1)])) _
    refine XS.iand Xg223.here hx rfl (hb hby at_265) rfl ?_
    show Steps p.tables e below (T217.setTop (mkF m 266 #[.val (.int p0), .val (.int p1), .val (.int p2), .val (.int p3), .val (.ref b1), .unset, .unset, .unset, .unset, .unset] [(.int (p1 &&& (2147483647 : Int32))), (.ref b1)])) _
    refine XS.aload Xg223.here hx rfl (hb hby at_266) rfl rfl ?_
    show Steps p.tables e below (T217.setTop (mkF m 268 #[.val (.int p0), .val (.int p1), .val (.int p2), .val (.int p3), .val (.ref b1), .unset, .unset, .unset, .unset, .unset] [(.ref b1), (.int (p1 &&& (2147483647 : Int32))), (.ref b1)])) _
    refine Xg223.arraylength hx (by rw [e217]; exact Ar224.1) (State.isArrayOf_alike hZ.alike Ar224.2.1) (g := (mkF m 268 #[.val (.int p0), .val (.int p1), .val (.int p2), .val (.int p3), .val (.ref b1), .unset, .unset, .unset, .unset, .unset] [(.ref b1), (.int (p1 &&& (2147483647 : Int32))), (.ref b1)])) rfl rfl (hb hby at_268) _ ?_
    rw [len_of S224 M224]
    show Steps p.tables e below (T217.setTop (mkF m 269 #[.val (.int p0), .val (.int p1), .val (.int p2), .val (.int p3), .val (.ref b1), .unset, .unset, .unset, .unset, .unset] [(.int (40 : Int32)), (.int (p1 &&& (2147483647 : Int32))), (.ref b1)])) _
    refine iremM Xg223 hx rfl (hb hby at_269) rfl (by decide) ?_
    show Steps p.tables e below (T217.setTop (mkF m 270 #[.val (.int p0), .val (.int p1), .val (.int p2), .val (.int p3), .val (.ref b1), .unset, .unset, .unset, .unset, .unset] [(.int ((p1 &&& (2147483647 : Int32)) % (40 : Int32))), (.ref b1)])) _
    refine Xg223.iaload hx (j := ((p1 &&& (2147483647 : Int32)) % (40 : Int32))) (v := (.int zb)) (by rw [e217]; exact Ar224.1) (State.isArrayOf_alike hZ.alike Ar224.2.1) Ar224.2.2 hi224 ha224 (g := (mkF m 270 #[.val (.int p0), .val (.int p1), .val (.int p2), .val (.int p3), .val (.ref b1), .unset, .unset, .unset, .unset, .unset] [(.int ((p1 &&& (2147483647 : Int32)) % (40 : Int32))), (.ref b1)])) rfl rfl (hb hby at_270) _ ?_
    exact kt)
  have pre226 : ∀ tgt, Steps p.tables e below (T217.setTop (mkF m 282 #[.val (.int p0), .val (.int p1), .val (.int p2), .val (.int p3), .val (.ref b1), .val (.int ((zb + ((p2 &&& (2147483647 : Int32)) % (5 : Int32))) - (2 : Int32))), .unset, .unset, .unset, .unset] [])) tgt → Steps p.tables e below (s₁.setTop (entryFrame m #[(.int p0), (.int p1), (.int p2), (.int p3)] maxLocals)) tgt := fun tgt kt => pre225 _ (by
    show Steps p.tables e below (T217.setTop (mkF m 271 #[.val (.int p0), .val (.int p1), .val (.int p2), .val (.int p3), .val (.ref b1), .unset, .unset, .unset, .unset, .unset] [(.int zb)])) _
    refine XS.iloadN Xg223.here hx rfl (hb hby at_271) rfl ?_
    show Steps p.tables e below (T217.setTop (mkF m 272 #[.val (.int p0), .val (.int p1), .val (.int p2), .val (.int p3), .val (.ref b1), .unset, .unset, .unset, .unset, .unset] [(.int p2), (.int zb)])) _
    refine Xg223.ldcInt hx hown (mvT hZ (hw _ (List.mem_of_getElem? (i := 9) rfl))) (g := (mkF m 272 #[.val (.int p0), .val (.int p1), .val (.int p2), .val (.int p3), .val (.ref b1), .unset, .unset, .unset, .unset, .unset] [(.int p2), (.int zb)])) rfl (hb hby at_272) _ ?_
    show Steps p.tables e below (T217.setTop (mkF m 274 #[.val (.int p0), .val (.int p1), .val (.int p2), .val (.int p3), .val (.ref b1), .unset, .unset, .unset, .unset, .unset] [(.int (2147483647 : Int32)), (.int p2), (.int zb)])) _
    refine XS.iand Xg223.here hx rfl (hb hby at_274) rfl ?_
    show Steps p.tables e below (T217.setTop (mkF m 275 #[.val (.int p0), .val (.int p1), .val (.int p2), .val (.int p3), .val (.ref b1), .unset, .unset, .unset, .unset, .unset] [(.int (p2 &&& (2147483647 : Int32))), (.int zb)])) _
    refine XS.iconst Xg223.here hx rfl (hb hby at_275) ?_
    show Steps p.tables e below (T217.setTop (mkF m 276 #[.val (.int p0), .val (.int p1), .val (.int p2), .val (.int p3), .val (.ref b1), .unset, .unset, .unset, .unset, .unset] [(.int (5 : Int32)), (.int (p2 &&& (2147483647 : Int32))), (.int zb)])) _
    refine iremM Xg223 hx rfl (hb hby at_276) rfl (by decide) ?_
    show Steps p.tables e below (T217.setTop (mkF m 277 #[.val (.int p0), .val (.int p1), .val (.int p2), .val (.int p3), .val (.ref b1), .unset, .unset, .unset, .unset, .unset] [(.int ((p2 &&& (2147483647 : Int32)) % (5 : Int32))), (.int zb)])) _
    refine XS.iadd Xg223.here hx rfl (hb hby at_277) rfl ?_
    show Steps p.tables e below (T217.setTop (mkF m 278 #[.val (.int p0), .val (.int p1), .val (.int p2), .val (.int p3), .val (.ref b1), .unset, .unset, .unset, .unset, .unset] [(.int (zb + ((p2 &&& (2147483647 : Int32)) % (5 : Int32))))])) _
    refine XS.iconst Xg223.here hx rfl (hb hby at_278) ?_
    show Steps p.tables e below (T217.setTop (mkF m 279 #[.val (.int p0), .val (.int p1), .val (.int p2), .val (.int p3), .val (.ref b1), .unset, .unset, .unset, .unset, .unset] [(.int (2 : Int32)), (.int (zb + ((p2 &&& (2147483647 : Int32)) % (5 : Int32))))])) _
    refine XS.isub Xg223.here hx rfl (hb hby at_279) rfl ?_
    show Steps p.tables e below (T217.setTop (mkF m 280 #[.val (.int p0), .val (.int p1), .val (.int p2), .val (.int p3), .val (.ref b1), .unset, .unset, .unset, .unset, .unset] [(.int ((zb + ((p2 &&& (2147483647 : Int32)) % (5 : Int32))) - (2 : Int32)))])) _
    refine XS.istore Xg223.here hx rfl (hb hby at_280) rfl (l' := #[.val (.int p0), .val (.int p1), .val (.int p2), .val (.int p3), .val (.ref b1), .val (.int ((zb + ((p2 &&& (2147483647 : Int32)) % (5 : Int32))) - (2 : Int32))), .unset, .unset, .unset, .unset]) rfl ?_
    exact kt)
  obtain ⟨_, _, ⟨T227, L227, k227, n227⟩, -, X227, ⟨Lc227, hQ227, l227, y227, z227⟩, st227⟩ := Jvm.LawKit.callS Xg223 hx (y := (⟨"com/example/melampus/melampus/model/XmlNames", "isNameStartChar", "(I)Z"⟩ : MethodName)) hown (mvT hZ (hw _ (List.mem_of_getElem? (i := 11) rfl))) (mvT hZ (hw _ (List.mem_of_getElem? (i := 12) rfl))) (mvT hZ (hw _ (List.mem_of_getElem? (i := 13) rfl))) (mvT hZ (hw _ (List.mem_of_getElem? (i := 14) rfl))) (by decide) (backOf (W := 0) (rm1 l Z a0 hw [] p0  h217 n0 zz219 ) hZ (hw _ (List.mem_of_getElem? (i := 14) rfl)) (hw _ (List.mem_of_getElem? (i := 13) rfl)) (by decide) (by decide)) (g := (mkF m 292 #[.val (.int p0), .val (.int p1), .val (.int p2), .val (.int p3), .val (.ref b1), .val (.int ((zb + ((p2 &&& (2147483647 : Int32)) % (5 : Int32))) - (2 : Int32))), .val (.int ((p3 &&& (2147483647 : Int32)) % (1114112 : Int32))), .unset, .unset, .unset] [(.int p0)])) rfl (by rw [hml]; rfl) (argsL := [(.int p0)]) (rest := []) (lenOf pd_0 rfl) rfl (by show 2 * 0 + _ ≤ _; exact Nat.le_of_eq rfl) (hb hby at_292) (fun _ _ => ⟨rfl, e217, (by decide : 1 + 0 ≤ _), (by decide : 40 + 0 ≤ _)⟩)
  dsimp only [Pt.U, Pt.locs, Pt.cells, Pt.slots] at X227 l227 y227 z227 st227 hQ227
  subst l227 y227 z227
  obtain ⟨rfl, Nq227, e227⟩ := hQ227
  have N228 := Fr.app Ng223 Nq227
  have pre229 : ∀ tgt, Steps p.tables e below (T227.setTop (mkF m 296 #[.val (.int p0), .val (.int p1), .val (.int p2), .val (.int p3), .val (.ref b1), .val (.int ((zb + ((p2 &&& (2147483647 : Int32)) % (5 : Int32))) - (2 : Int32))), .val (.int ((p3 &&& (2147483647 : Int32)) % (1114112 : Int32))), .unset, .unset, .unset] [(.int p0), (.int (own_f1 p0))])) tgt → Steps p.tables e below (s₁.setTop (entryFrame m #[(.int p0), (.int p1), (.int p2), (.int p3)] maxLocals)) tgt := fun tgt kt => pre226 _ (by
    show Steps p.tables e below (T217.setTop (mkF m 282 #[.val (.int p0), .val (.int p1), .val (.int p2), .val (.int p3), .val (.ref b1), .val (.int ((zb + ((p2 &&& (2147483647 : Int32)) % (5 : Int32))) - (2 : Int32))), .unset, .unset, .unset, .unset] [])) _
    refine XS.iloadN Xg223.here hx rfl (hb hby at_282) rfl ?_
    show Steps p.tables e below (T217.setTop (mkF m 283 #[.val (.int p0), .val (.int p1), .val (.int p2), .val (.int p3), .val (.ref b1), .val (.int ((zb + ((p2 &&& (2147483647 : Int32)) % (5 : Int32))) - (2 : Int32))), .unset, .unset, .unset, .unset] [(.int p3)])) _
    refine Xg223.ldcInt hx hown (mvT hZ (hw _ (List.mem_of_getElem? (i := 9) rfl))) (g := (mkF m 283 #[.val (.int p0), .val (.int p1), .val (.int p2), .val (.int p3), .val (.ref b1), .val (.int ((zb + ((p2 &&& (2147483647 : Int32)) % (5 : Int32))) - (2 : Int32))), .unset, .unset, .unset, .unset] [(.int p3)])) rfl (hb hby at_283) _ ?_
    show Steps p.tables e below (T217.setTop (mkF m 285 #[.val (.int p0), .val (.int p1), .val (.int p2), .val (.int p3), .val (.ref b1), .val (.int ((zb + ((p2 &&& (2147483647 : Int32)) % (5 : Int32))) - (2 : Int32))), .unset, .unset, .unset, .unset] [(.int (2147483647 : Int32)), (.int p3)])) _
    refine XS.iand Xg223.here hx rfl (hb hby at_285) rfl ?_
    show Steps p.tables e below (T217.setTop (mkF m 286 #[.val (.int p0), .val (.int p1), .val (.int p2), .val (.int p3), .val (.ref b1), .val (.int ((zb + ((p2 &&& (2147483647 : Int32)) % (5 : Int32))) - (2 : Int32))), .unset, .unset, .unset, .unset] [(.int (p3 &&& (2147483647 : Int32)))])) _
    refine Xg223.ldcInt hx hown (mvT hZ (hw _ (List.mem_of_getElem? (i := 10) rfl))) (g := (mkF m 286 #[.val (.int p0), .val (.int p1), .val (.int p2), .val (.int p3), .val (.ref b1), .val (.int ((zb + ((p2 &&& (2147483647 : Int32)) % (5 : Int32))) - (2 : Int32))), .unset, .unset, .unset, .unset] [(.int (p3 &&& (2147483647 : Int32)))])) rfl (hb hby at_286) _ ?_
    show Steps p.tables e below (T217.setTop (mkF m 288 #[.val (.int p0), .val (.int p1), .val (.int p2), .val (.int p3), .val (.ref b1), .val (.int ((zb + ((p2 &&& (2147483647 : Int32)) % (5 : Int32))) - (2 : Int32))), .unset, .unset, .unset, .unset] [(.int (1114112 : Int32)), (.int (p3 &&& (2147483647 : Int32)))])) _
    refine iremM Xg223 hx rfl (hb hby at_288) rfl (by decide) ?_
    show Steps p.tables e below (T217.setTop (mkF m 289 #[.val (.int p0), .val (.int p1), .val (.int p2), .val (.int p3), .val (.ref b1), .val (.int ((zb + ((p2 &&& (2147483647 : Int32)) % (5 : Int32))) - (2 : Int32))), .unset, .unset, .unset, .unset] [(.int ((p3 &&& (2147483647 : Int32)) % (1114112 : Int32)))])) _
    refine XS.istore Xg223.here hx rfl (hb hby at_289) rfl (l' := #[.val (.int p0), .val (.int p1), .val (.int p2), .val (.int p3), .val (.ref b1), .val (.int ((zb + ((p2 &&& (2147483647 : Int32)) % (5 : Int32))) - (2 : Int32))), .val (.int ((p3 &&& (2147483647 : Int32)) % (1114112 : Int32))), .unset, .unset, .unset]) rfl ?_
    show Steps p.tables e below (T217.setTop (mkF m 291 #[.val (.int p0), .val (.int p1), .val (.int p2), .val (.int p3), .val (.ref b1), .val (.int ((zb + ((p2 &&& (2147483647 : Int32)) % (5 : Int32))) - (2 : Int32))), .val (.int ((p3 &&& (2147483647 : Int32)) % (1114112 : Int32))), .unset, .unset, .unset] [])) _
    refine XS.iloadN Xg223.here hx rfl (hb hby at_291) rfl ?_
    show Steps p.tables e below (T217.setTop (mkF m 292 #[.val (.int p0), .val (.int p1), .val (.int p2), .val (.int p3), .val (.ref b1), .val (.int ((zb + ((p2 &&& (2147483647 : Int32)) % (5 : Int32))) - (2 : Int32))), .val (.int ((p3 &&& (2147483647 : Int32)) % (1114112 : Int32))), .unset, .unset, .unset] [(.int p0)])) _
    refine st227 _ ?_
    show Steps p.tables e below (T227.setTop (mkF m 295 #[.val (.int p0), .val (.int p1), .val (.int p2), .val (.int p3), .val (.ref b1), .val (.int ((zb + ((p2 &&& (2147483647 : Int32)) % (5 : Int32))) - (2 : Int32))), .val (.int ((p3 &&& (2147483647 : Int32)) % (1114112 : Int32))), .unset, .unset, .unset] [(.int (own_f1 p0))])) _
    refine XS.iloadN X227.here hx rfl (hb hby at_295) rfl ?_
    exact kt)
  obtain ⟨_, _, ⟨T230, L230, k230, n230⟩, -, X230, ⟨Lc230, hQ230, l230, y230, z230⟩, st230⟩ := Jvm.LawKit.callS X227 hx (y := (⟨"com/example/melampus/melampus/model/XmlNamesIsNameStartCharPinLaw", "ref", "(I)Z"⟩ : MethodName)) hown (mvT hZ (hw _ (List.mem_of_getElem? (i := 18) rfl))) (mvT hZ (hw _ (List.mem_of_getElem? (i := 19) rfl))) (mvT hZ (hw _ (List.mem_of_getElem? (i := 20) rfl))) (mvT hZ (hw _ (List.mem_of_getElem? (i := 21) rfl))) (by decide) (backOf (W := 1) (rm2 l Z a0 hw [] p0  h217 n0 zz219 ) hZ (hw _ (List.mem_of_getElem? (i := 21) rfl)) (hw _ (List.mem_of_getElem? (i := 20) rfl)) (by decide) (by decide)) (g := (mkF m 296 #[.val (.int p0), .val (.int p1), .val (.int p2), .val (.int p3), .val (.ref b1), .val (.int ((zb + ((p2 &&& (2147483647 : Int32)) % (5 : Int32))) - (2 : Int32))), .val (.int ((p3 &&& (2147483647 : Int32)) % (1114112 : Int32))), .unset, .unset, .unset] [(.int p0), (.int (own_f1 p0))])) rfl (by rw [hml]; rfl) (argsL := [(.int p0)]) (rest := [(.int (own_f1 p0))]) (lenOf pd_0 rfl) rfl (by show 2 * 0 + _ ≤ _; exact Nat.le_of_eq rfl) (hb hby at_296) (fun _ _ => ⟨rfl, e227, (by decide : 1 + 0 ≤ _), (by decide : 40 + 0 ≤ _)⟩)
  dsimp only [Pt.U, Pt.locs, Pt.cells, Pt.slots] at X230 l230 y230 z230 st230 hQ230
  subst l230 y230 z230
  obtain ⟨rfl, Nq230, e230⟩ := hQ230
  have N231 := Fr.app N228 Nq230
  obtain ⟨_, _, ⟨T232, L232, k232, n232⟩, -, X232, ⟨Lc232, hQ232, l232, y232, z232⟩, st232⟩ := Jvm.LawKit.callS X230 hx (y := (⟨"com/example/melampus/melampus/model/XmlNames", "isNameStartChar", "(I)Z"⟩ : MethodName)) hown (mvT hZ (hw _ (List.mem_of_getElem? (i := 11) rfl))) (mvT hZ (hw _ (List.mem_of_getElem? (i := 12) rfl))) (mvT hZ (hw _ (List.mem_of_getElem? (i := 13) rfl))) (mvT hZ (hw _ (List.mem_of_getElem? (i := 14) rfl))) (by decide) (backOf (W := 0) (rm1 l Z a0 hw [] ((zb + ((p2 &&& (2147483647 : Int32)) % (5 : Int32))) - (2 : Int32))  h217 n0 zz219 ) hZ (hw _ (List.mem_of_getElem? (i := 14) rfl)) (hw _ (List.mem_of_getElem? (i := 13) rfl)) (by decide) (by decide)) (g := (mkF m 311 #[.val (.int p0), .val (.int p1), .val (.int p2), .val (.int p3), .val (.ref b1), .val (.int ((zb + ((p2 &&& (2147483647 : Int32)) % (5 : Int32))) - (2 : Int32))), .val (.int ((p3 &&& (2147483647 : Int32)) % (1114112 : Int32))), .val (.int (1 : Int32)), .unset, .unset] [(.int ((zb + ((p2 &&& (2147483647 : Int32)) % (5 : Int32))) - (2 : Int32)))])) rfl (by rw [hml]; rfl) (argsL := [(.int ((zb + ((p2 &&& (2147483647 : Int32)) % (5 : Int32))) - (2 : Int32)))]) (rest := []) (lenOf pd_0 rfl) rfl (by show 2 * 0 + _ ≤ _; exact Nat.le_of_eq rfl) (hb hby at_311) (fun _ _ => ⟨rfl, e230, (by decide : 1 + 0 ≤ _), (by decide : 40 + 0 ≤ _)⟩)
  dsimp only [Pt.U, Pt.locs, Pt.cells, Pt.slots] at X232 l232 y232 z232 st232 hQ232
  subst l232 y232 z232
  obtain ⟨rfl, Nq232, e232⟩ := hQ232
  have N233 := Fr.app N231 Nq232
  obtain ⟨_, _, ⟨T234, L234, k234, n234⟩, -, X234, ⟨Lc234, hQ234, l234, y234, z234⟩, st234⟩ := Jvm.LawKit.callS X232 hx (y := (⟨"com/example/melampus/melampus/model/XmlNamesIsNameStartCharPinLaw", "ref", "(I)Z"⟩ : MethodName)) hown (mvT hZ (hw _ (List.mem_of_getElem? (i := 18) rfl))) (mvT hZ (hw _ (List.mem_of_getElem? (i := 19) rfl))) (mvT hZ (hw _ (List.mem_of_getElem? (i := 20) rfl))) (mvT hZ (hw _ (List.mem_of_getElem? (i := 21) rfl))) (by decide) (backOf (W := 1) (rm2 l Z a0 hw [] ((zb + ((p2 &&& (2147483647 : Int32)) % (5 : Int32))) - (2 : Int32))  h217 n0 zz219 ) hZ (hw _ (List.mem_of_getElem? (i := 21) rfl)) (hw _ (List.mem_of_getElem? (i := 20) rfl)) (by decide) (by decide)) (g := (mkF m 316 #[.val (.int p0), .val (.int p1), .val (.int p2), .val (.int p3), .val (.ref b1), .val (.int ((zb + ((p2 &&& (2147483647 : Int32)) % (5 : Int32))) - (2 : Int32))), .val (.int ((p3 &&& (2147483647 : Int32)) % (1114112 : Int32))), .val (.int (1 : Int32)), .unset, .unset] [(.int ((zb + ((p2 &&& (2147483647 : Int32)) % (5 : Int32))) - (2 : Int32))), (.int (own_f1 ((zb + ((p2 &&& (2147483647 : Int32)) % (5 : Int32))) - (2 : Int32))))])) rfl (by rw [hml]; rfl) (argsL := [(.int ((zb + ((p2 &&& (2147483647 : Int32)) % (5 : Int32))) - (2 : Int32)))]) (rest := [(.int (own_f1 ((zb + ((p2 &&& (2147483647 : Int32)) % (5 : Int32))) - (2 : Int32))))]) (lenOf pd_0 rfl) rfl (by show 2 * 0 + _ ≤ _; exact Nat.le_of_eq rfl) (hb hby at_316) (fun _ _ => ⟨rfl, e232, (by decide : 1 + 0 ≤ _), (by decide : 40 + 0 ≤ _)⟩)
  dsimp only [Pt.U, Pt.locs, Pt.cells, Pt.slots] at X234 l234 y234 z234 st234 hQ234
  subst l234 y234 z234
  obtain ⟨rfl, Nq234, e234⟩ := hQ234
  have N235 := Fr.app N233 Nq234
  have pre236 : ∀ tgt, Steps p.tables e below (T234.setTop (mkF m 319 #[.val (.int p0), .val (.int p1), .val (.int p2), .val (.int p3), .val (.ref b1), .val (.int ((zb + ((p2 &&& (2147483647 : Int32)) % (5 : Int32))) - (2 : Int32))), .val (.int ((p3 &&& (2147483647 : Int32)) % (1114112 : Int32))), .val (.int (1 : Int32)), .unset, .unset] [(.int (own_f2 ((zb + ((p2 &&& (2147483647 : Int32)) % (5 : Int32))) - (2 : Int32)))), (.int (own_f1 ((zb + ((p2 &&& (2147483647 : Int32)) % (5 : Int32))) - (2 : Int32))))])) tgt → Steps p.tables e below (s₁.setTop (entryFrame m #[(.int p0), (.int p1), (.int p2), (.int p3)] maxLocals)) tgt := fun tgt kt => pre229 _ (by
    show Steps p.tables e below (T227.setTop (mkF m 296 #[.val (.int p0), .val (.int p1), .val (.int p2), .val (.int p3), .val (.ref b1), .val (.int ((zb + ((p2 &&& (2147483647 : Int32)) % (5 : Int32))) - (2 : Int32))), .val (.int ((p3 &&& (2147483647 : Int32)) % (1114112 : Int32))), .unset, .unset, .unset] [(.int p0), (.int (own_f1 p0))])) _
    refine st230 _ ?_
    show Steps p.tables e below (T230.setTop (mkF m 299 #[.val (.int p0), .val (.int p1), .val (.int p2), .val (.int p3), .val (.ref b1), .val (.int ((zb + ((p2 &&& (2147483647 : Int32)) % (5 : Int32))) - (2 : Int32))), .val (.int ((p3 &&& (2147483647 : Int32)) % (1114112 : Int32))), .unset, .unset, .unset] [(.int (own_f2 p0)), (.int (own_f1 p0))])) _
    refine XS.icmpNo X230.here hx rfl (hb hby at_299) rfl (teq (own_eq p0)).2 ?_
    show Steps p.tables e below (T230.setTop (mkF m 302 #[.val (.int p0), .val (.int p1), .val (.int p2), .val (.int p3), .val (.ref b1), .val (.int ((zb + ((p2 &&& (2147483647 : Int32)) % (5 : Int32))) - (2 : Int32))), .val (.int ((p3 &&& (2147483647 : Int32)) % (1114112 : Int32))), .unset, .unset, .unset] [])) _
    refine XS.iconst X230.here hx rfl (hb hby at_302) ?_
    show Steps p.tables e below (T230.setTop (mkF m 303 #[.val (.int p0), .val (.int p1), .val (.int p2), .val (.int p3), .val (.ref b1), .val (.int ((zb + ((p2 &&& (2147483647 : Int32)) % (5 : Int32))) - (2 : Int32))), .val (.int ((p3 &&& (2147483647 : Int32)) % (1114112 : Int32))), .unset, .unset, .unset] [(.int (1 : Int32))])) _
    refine XS.goto X230.here hx rfl (pc0 := 303) (pc' := 307) rfl (hb hby at_303) (by decide) (by decide) ?_
    show Steps p.tables e below (T230.setTop (mkF m 307 #[.val (.int p0), .val (.int p1), .val (.int p2), .val (.int p3), .val (.ref b1), .val (.int ((zb + ((p2 &&& (2147483647 : Int32)) % (5 : Int32))) - (2 : Int32))), .val (.int ((p3 &&& (2147483647 : Int32)) % (1114112 : Int32))), .unset, .unset, .unset] [(.int (1 : Int32))])) _
    refine XS.istore X230.here hx rfl (hb hby at_307) rfl (l' := #[.val (.int p0), .val (.int p1), .val (.int p2), .val (.int p3), .val (.ref b1), .val (.int ((zb + ((p2 &&& (2147483647 : Int32)) % (5 : Int32))) - (2 : Int32))), .val (.int ((p3 &&& (2147483647 : Int32)) % (1114112 : Int32))), .val (.int (1 : Int32)), .unset, .unset]) rfl ?_
    show Steps p.tables e below (T230.setTop (mkF m 309 #[.val (.int p0), .val (.int p1), .val (.int p2), .val (.int p3), .val (.ref b1), .val (.int ((zb + ((p2 &&& (2147483647 : Int32)) % (5 : Int32))) - (2 : Int32))), .val (.int ((p3 &&& (2147483647 : Int32)) % (1114112 : Int32))), .val (.int (1 : Int32)), .unset, .unset] [])) _
    refine XS.iload X230.here hx rfl (hb hby at_309) rfl ?_
    show Steps p.tables e below (T230.setTop (mkF m 311 #[.val (.int p0), .val (.int p1), .val (.int p2), .val (.int p3), .val (.ref b1), .val (.int ((zb + ((p2 &&& (2147483647 : Int32)) % (5 : Int32))) - (2 : Int32))), .val (.int ((p3 &&& (2147483647 : Int32)) % (1114112 : Int32))), .val (.int (1 : Int32)), .unset, .unset] [(.int ((zb + ((p2 &&& (2147483647 : Int32)) % (5 : Int32))) - (2 : Int32)))])) _
    refine st232 _ ?_
    show Steps p.tables e below (T232.setTop (mkF m 314 #[.val (.int p0), .val (.int p1), .val (.int p2), .val (.int p3), .val (.ref b1), .val (.int ((zb + ((p2 &&& (2147483647 : Int32)) % (5 : Int32))) - (2 : Int32))), .val (.int ((p3 &&& (2147483647 : Int32)) % (1114112 : Int32))), .val (.int (1 : Int32)), .unset, .unset] [(.int (own_f1 ((zb + ((p2 &&& (2147483647 : Int32)) % (5 : Int32))) - (2 : Int32))))])) _
    refine XS.iload X232.here hx rfl (hb hby at_314) rfl ?_
    show Steps p.tables e below (T232.setTop (mkF m 316 #[.val (.int p0), .val (.int p1), .val (.int p2), .val (.int p3), .val (.ref b1), .val (.int ((zb + ((p2 &&& (2147483647 : Int32)) % (5 : Int32))) - (2 : Int32))), .val (.int ((p3 &&& (2147483647 : Int32)) % (1114112 : Int32))), .val (.int (1 : Int32)), .unset, .unset] [(.int ((zb + ((p2 &&& (2147483647 : Int32)) % (5 : Int32))) - (2 : Int32))), (.int (own_f1 ((zb + ((p2 &&& (2147483647 : Int32)) % (5 : Int32))) - (2 : Int32))))])) _
    refine st234 _ ?_
    exact kt)
  obtain ⟨_, _, ⟨T237, L237, k237, n237⟩, -, X237, ⟨Lc237, hQ237, l237, y237, z237⟩, st237⟩ := Jvm.LawKit.callS X234 hx (y := (⟨"com/example/melampus/melampus/model/XmlNames", "isNameStartChar", "(I)Z"⟩ : MethodName)) hown (mvT hZ (hw _ (List.mem_of_getElem? (i := 11) rfl))) (mvT hZ (hw _ (List.mem_of_getElem? (i := 12) rfl))) (mvT hZ (hw _ (List.mem_of_getElem? (i := 13) rfl))) (mvT hZ (hw _ (List.mem_of_getElem? (i := 14) rfl))) (by decide) (backOf (W := 0) (rm1 l Z a0 hw [] ((p3 &&& (2147483647 : Int32)) % (1114112 : Int32))  h217 n0 zz219 ) hZ (hw _ (List.mem_of_getElem? (i := 14) rfl)) (hw _ (List.mem_of_getElem? (i := 13) rfl)) (by decide) (by decide)) (g := (mkF m 331 #[.val (.int p0), .val (.int p1), .val (.int p2), .val (.int p3), .val (.ref b1), .val (.int ((zb + ((p2 &&& (2147483647 : Int32)) % (5 : Int32))) - (2 : Int32))), .val (.int ((p3 &&& (2147483647 : Int32)) % (1114112 : Int32))), .val (.int (1 : Int32)), .val (.int (1 : Int32)), .unset] [(.int ((p3 &&& (2147483647 : Int32)) % (1114112 : Int32)))])) rfl (by rw [hml]; rfl) (argsL := [(.int ((p3 &&& (2147483647 : Int32)) % (1114112 : Int32)))]) (rest := []) (lenOf pd_0 rfl) rfl (by show 2 * 0 + _ ≤ _; exact Nat.le_of_eq rfl) (hb hby at_331) (fun _ _ => ⟨rfl, e234, (by decide : 1 + 0 ≤ _), (by decide : 40 + 0 ≤ _)⟩)
  dsimp only [Pt.U, Pt.locs, Pt.cells, Pt.slots] at X237 l237 y237 z237 st237 hQ237
  subst l237 y237 z237
  obtain ⟨rfl, Nq237, e237⟩ := hQ237
  have N238 := Fr.app N235 Nq237
  obtain ⟨_, _, ⟨T239, L239, k239, n239⟩, -, X239, ⟨Lc239, hQ239, l239, y239, z239⟩, st239⟩ := Jvm.LawKit.callS X237 hx (y := (⟨"com/example/melampus/melampus/model/XmlNamesIsNameStartCharPinLaw", "ref", "(I)Z"⟩ : MethodName)) hown (mvT hZ (hw _ (List.mem_of_getElem? (i := 18) rfl))) (mvT hZ (hw _ (List.mem_of_getElem? (i := 19) rfl))) (mvT hZ (hw _ (List.mem_of_getElem? (i := 20) rfl))) (mvT hZ (hw _ (List.mem_of_getElem? (i := 21) rfl))) (by decide) (backOf (W := 1) (rm2 l Z a0 hw [] ((p3 &&& (2147483647 : Int32)) % (1114112 : Int32))  h217 n0 zz219 ) hZ (hw _ (List.mem_of_getElem? (i := 21) rfl)) (hw _ (List.mem_of_getElem? (i := 20) rfl)) (by decide) (by decide)) (g := (mkF m 336 #[.val (.int p0), .val (.int p1), .val (.int p2), .val (.int p3), .val (.ref b1), .val (.int ((zb + ((p2 &&& (2147483647 : Int32)) % (5 : Int32))) - (2 : Int32))), .val (.int ((p3 &&& (2147483647 : Int32)) % (1114112 : Int32))), .val (.int (1 : Int32)), .val (.int (1 : Int32)), .unset] [(.int ((p3 &&& (2147483647 : Int32)) % (1114112 : Int32))), (.int (own_f1 ((p3 &&& (2147483647 : Int32)) % (1114112 : Int32))))])) rfl (by rw [hml]; rfl) (argsL := [(.int ((p3 &&& (2147483647 : Int32)) % (1114112 : Int32)))]) (rest := [(.int (own_f1 ((p3 &&& (2147483647 : Int32)) % (1114112 : Int32))))]) (lenOf pd_0 rfl) rfl (by show 2 * 0 + _ ≤ _; exact Nat.le_of_eq rfl) (hb hby at_336) (fun _ _ => ⟨rfl, e237, (by decide : 1 + 0 ≤ _), (by decide : 40 + 0 ≤ _)⟩)
  dsimp only [Pt.U, Pt.locs, Pt.cells, Pt.slots] at X239 l239 y239 z239 st239 hQ239
  subst l239 y239 z239
  obtain ⟨rfl, Nq239, e239⟩ := hQ239
  have N240 := Fr.app N238 Nq239
  have pre241 : ∀ tgt, Steps p.tables e below (T239.setTop (mkF m 342 #[.val (.int p0), .val (.int p1), .val (.int p2), .val (.int p3), .val (.ref b1), .val (.int ((zb + ((p2 &&& (2147483647 : Int32)) % (5 : Int32))) - (2 : Int32))), .val (.int ((p3 &&& (2147483647 : Int32)) % (1114112 : Int32))), .val (.int (1 : Int32)), .val (.int (1 : Int32)), .unset] [])) tgt → Steps p.tables e below (s₁.setTop (entryFrame m #[(.int p0), (.int p1), (.int p2), (.int p3)] maxLocals)) tgt := fun tgt kt => pre236 _ (by
    show Steps p.tables e below (T234.setTop (mkF m 319 #[.val (.int p0), .val (.int p1), .val (.int p2), .val (.int p3), .val (.ref b1), .val (.int ((zb + ((p2 &&& (2147483647 : Int32)) % (5 : Int32))) - (2 : Int32))), .val (.int ((p3 &&& (2147483647 : Int32)) % (1114112 : Int32))), .val (.int (1 : Int32)), .unset, .unset] [(.int (own_f2 ((zb + ((p2 &&& (2147483647 : Int32)) % (5 : Int32))) - (2 : Int32)))), (.int (own_f1 ((zb + ((p2 &&& (2147483647 : Int32)) % (5 : Int32))) - (2 : Int32))))])) _
    refine XS.icmpNo X234.here hx rfl (hb hby at_319) rfl (teq (own_eq ((zb + ((p2 &&& (2147483647 : Int32)) % (5 : Int32))) - (2 : Int32)))).2 ?_
    show Steps p.tables e below (T234.setTop (mkF m 322 #[.val (.int p0), .val (.int p1), .val (.int p2), .val (.int p3), .val (.ref b1), .val (.int ((zb + ((p2 &&& (2147483647 : Int32)) % (5 : Int32))) - (2 : Int32))), .val (.int ((p3 &&& (2147483647 : Int32)) % (1114112 : Int32))), .val (.int (1 : Int32)), .unset, .unset] [])) _
    refine XS.iconst X234.here hx rfl (hb hby at_322) ?_
    show Steps p.tables e below (T234.setTop (mkF m 323 #[.val (.int p0), .val (.int p1), .val (.int p2), .val (.int p3), .val (.ref b1), .val (.int ((zb + ((p2 &&& (2147483647 : Int32)) % (5 : Int32))) - (2 : Int32))), .val (.int ((p3 &&& (2147483647 : Int32)) % (1114112 : Int32))), .val (.int (1 : Int32)), .unset, .unset] [(.int (1 : Int32))])) _
    refine XS.goto X234.here hx rfl (pc0 := 323) (pc' := 327) rfl (hb hby at_323) (by decide) (by decide) ?_
    show Steps p.tables e below (T234.setTop (mkF m 327 #[.val (.int p0), .val (.int p1), .val (.int p2), .val (.int p3), .val (.ref b1), .val (.int ((zb + ((p2 &&& (2147483647 : Int32)) % (5 : Int32))) - (2 : Int32))), .val (.int ((p3 &&& (2147483647 : Int32)) % (1114112 : Int32))), .val (.int (1 : Int32)), .unset, .unset] [(.int (1 : Int32))])) _
    refine XS.istore X234.here hx rfl (hb hby at_327) rfl (l' := #[.val (.int p0), .val (.int p1), .val (.int p2), .val (.int p3), .val (.ref b1), .val (.int ((zb + ((p2 &&& (2147483647 : Int32)) % (5 : Int32))) - (2 : Int32))), .val (.int ((p3 &&& (2147483647 : Int32)) % (1114112 : Int32))), .val (.int (1 : Int32)), .val (.int (1 : Int32)), .unset]) rfl ?_
    show Steps p.tables e below (T234.setTop (mkF m 329 #[.val (.int p0), .val (.int p1), .val (.int p2), .val (.int p3), .val (.ref b1), .val (.int ((zb + ((p2 &&& (2147483647 : Int32)) % (5 : Int32))) - (2 : Int32))), .val (.int ((p3 &&& (2147483647 : Int32)) % (1114112 : Int32))), .val (.int (1 : Int32)), .val (.int (1 : Int32)), .unset] [])) _
    refine XS.iload X234.here hx rfl (hb hby at_329) rfl ?_
    show Steps p.tables e below (T234.setTop (mkF m 331 #[.val (.int p0), .val (.int p1), .val (.int p2), .val (.int p3), .val (.ref b1), .val (.int ((zb + ((p2 &&& (2147483647 : Int32)) % (5 : Int32))) - (2 : Int32))), .val (.int ((p3 &&& (2147483647 : Int32)) % (1114112 : Int32))), .val (.int (1 : Int32)), .val (.int (1 : Int32)), .unset] [(.int ((p3 &&& (2147483647 : Int32)) % (1114112 : Int32)))])) _
    refine st237 _ ?_
    show Steps p.tables e below (T237.setTop (mkF m 334 #[.val (.int p0), .val (.int p1), .val (.int p2), .val (.int p3), .val (.ref b1), .val (.int ((zb + ((p2 &&& (2147483647 : Int32)) % (5 : Int32))) - (2 : Int32))), .val (.int ((p3 &&& (2147483647 : Int32)) % (1114112 : Int32))), .val (.int (1 : Int32)), .val (.int (1 : Int32)), .unset] [(.int (own_f1 ((p3 &&& (2147483647 : Int32)) % (1114112 : Int32))))])) _
    refine XS.iload X237.here hx rfl (hb hby at_334) rfl ?_
    show Steps p.tables e below (T237.setTop (mkF m 336 #[.val (.int p0), .val (.int p1), .val (.int p2), .val (.int p3), .val (.ref b1), .val (.int ((zb + ((p2 &&& (2147483647 : Int32)) % (5 : Int32))) - (2 : Int32))), .val (.int ((p3 &&& (2147483647 : Int32)) % (1114112 : Int32))), .val (.int (1 : Int32)), .val (.int (1 : Int32)), .unset] [(.int ((p3 &&& (2147483647 : Int32)) % (1114112 : Int32))), (.int (own_f1 ((p3 &&& (2147483647 : Int32)) % (1114112 : Int32))))])) _
    refine st239 _ ?_
    show Steps p.tables e below (T239.setTop (mkF m 339 #[.val (.int p0), .val (.int p1), .val (.int p2), .val (.int p3), .val (.ref b1), .val (.int ((zb + ((p2 &&& (2147483647 : Int32)) % (5 : Int32))) - (2 : Int32))), .val (.int ((p3 &&& (2147483647 : Int32)) % (1114112 : Int32))), .val (.int (1 : Int32)), .val (.int (1 : Int32)), .unset] [(.int (own_f2 ((p3 &&& (2147483647 : Int32)) % (1114112 : Int32)))), (.int (own_f1 ((p3 &&& (2147483647 : Int32)) % (1114112 : Int32))))])) _
    refine XS.icmpNo X239.here hx rfl (hb hby at_339) rfl (teq (own_eq ((p3 &&& (2147483647 : Int32)) % (1114112 : Int32)))).2 ?_
    exact kt)
  have pre242 : ∀ tgt, Steps p.tables e below (T239.setTop (mkF m 364 #[.val (.int p0), .val (.int p1), .val (.int p2), .val (.int p3), .val (.ref b1), .val (.int ((zb + ((p2 &&& (2147483647 : Int32)) % (5 : Int32))) - (2 : Int32))), .val (.int ((p3 &&& (2147483647 : Int32)) % (1114112 : Int32))), .val (.int (1 : Int32)), .val (.int (1 : Int32)), .val (.int (1 : Int32))] [])) tgt → Steps p.tables e below (s₁.setTop (entryFrame m #[(.int p0), (.int p1), (.int p2), (.int p3)] maxLocals)) tgt := fun tgt kt => pre241 _ (by
    show Steps p.tables e below (T239.setTop (mkF m 342 #[.val (.int p0), .val (.int p1), .val (.int p2), .val (.int p3), .val (.ref b1), .val (.int ((zb + ((p2 &&& (2147483647 : Int32)) % (5 : Int32))) - (2 : Int32))), .val (.int ((p3 &&& (2147483647 : Int32)) % (1114112 : Int32))), .val (.int (1 : Int32)), .val (.int (1 : Int32)), .unset] [])) _
    refine XS.iconst X239.here hx rfl (hb hby at_342) ?_
    show Steps p.tables e below (T239.setTop (mkF m 343 #[.val (.int p0), .val (.int p1), .val (.int p2), .val (.int p3), .val (.ref b1), .val (.int ((zb + ((p2 &&& (2147483647 : Int32)) % (5 : Int32))) - (2 : Int32))), .val (.int ((p3 &&& (2147483647 : Int32)) % (1114112 : Int32))), .val (.int (1 : Int32)), .val (.int (1 : Int32)), .unset] [(.int (1 : Int32))])) _
    refine XS.goto X239.here hx rfl (pc0 := 343) (pc' := 347) rfl (hb hby at_343) (by decide) (by decide) ?_
    show Steps p.tables e below (T239.setTop (mkF m 347 #[.val (.int p0), .val (.int p1), .val (.int p2), .val (.int p3), .val (.ref b1), .val (.int ((zb + ((p2 &&& (2147483647 : Int32)) % (5 : Int32))) - (2 : Int32))), .val (.int ((p3 &&& (2147483647 : Int32)) % (1114112 : Int32))), .val (.int (1 : Int32)), .val (.int (1 : Int32)), .unset] [(.int (1 : Int32))])) _
    refine XS.istore X239.here hx rfl (hb hby at_347) rfl (l' := #[.val (.int p0), .val (.int p1), .val (.int p2), .val (.int p3), .val (.ref b1), .val (.int ((zb + ((p2 &&& (2147483647 : Int32)) % (5 : Int32))) - (2 : Int32))), .val (.int ((p3 &&& (2147483647 : Int32)) % (1114112 : Int32))), .val (.int (1 : Int32)), .val (.int (1 : Int32)), .val (.int (1 : Int32))]) rfl ?_
    show Steps p.tables e below (T239.setTop (mkF m 349 #[.val (.int p0), .val (.int p1), .val (.int p2), .val (.int p3), .val (.ref b1), .val (.int ((zb + ((p2 &&& (2147483647 : Int32)) % (5 : Int32))) - (2 : Int32))), .val (.int ((p3 &&& (2147483647 : Int32)) % (1114112 : Int32))), .val (.int (1 : Int32)), .val (.int (1 : Int32)), .val (.int (1 : Int32))] [])) _
    refine XS.iload X239.here hx rfl (hb hby at_349) rfl ?_
    show Steps p.tables e below (T239.setTop (mkF m 351 #[.val (.int p0), .val (.int p1), .val (.int p2), .val (.int p3), .val (.ref b1), .val (.int ((zb + ((p2 &&& (2147483647 : Int32)) % (5 : Int32))) - (2 : Int32))), .val (.int ((p3 &&& (2147483647 : Int32)) % (1114112 : Int32))), .val (.int (1 : Int32)), .val (.int (1 : Int32)), .val (.int (1 : Int32))] [(.int (1 : Int32))])) _
    refine XS.ifNo X239.here hx rfl (hb hby at_351) rfl ((if0 _ _).trans (feq (by decide : ¬ ((1 : Int32) = (0 : Int32)))).1) ?_
    show Steps p.tables e below (T239.setTop (mkF m 354 #[.val (.int p0), .val (.int p1), .val (.int p2), .val (.int p3), .val (.ref b1), .val (.int ((zb + ((p2 &&& (2147483647 : Int32)) % (5 : Int32))) - (2 : Int32))), .val (.int ((p3 &&& (2147483647 : Int32)) % (1114112 : Int32))), .val (.int (1 : Int32)), .val (.int (1 : Int32)), .val (.int (1 : Int32))] [])) _
    refine XS.iload X239.here hx rfl (hb hby at_354) rfl ?_
    show Steps p.tables e below (T239.setTop (mkF m 356 #[.val (.int p0), .val (.int p1), .val (.int p2), .val (.int p3), .val (.ref b1), .val (.int ((zb + ((p2 &&& (2147483647 : Int32)) % (5 : Int32))) - (2 : Int32))), .val (.int ((p3 &&& (2147483647 : Int32)) % (1114112 : Int32))), .val (.int (1 : Int32)), .val (.int (1 : Int32)), .val (.int (1 : Int32))] [(.int (1 : Int32))])) _
    refine XS.ifNo X239.here hx rfl (hb hby at_356) rfl ((if0 _ _).trans (feq (by decide : ¬ ((1 : Int32) = (0 : Int32)))).1) ?_
    show Steps p.tables e below (T239.setTop (mkF m 359 #[.val (.int p0), .val (.int p1), .val (.int p2), .val (.int p3), .val (.ref b1), .val (.int ((zb + ((p2 &&& (2147483647 : Int32)) % (5 : Int32))) - (2 : Int32))), .val (.int ((p3 &&& (2147483647 : Int32)) % (1114112 : Int32))), .val (.int (1 : Int32)), .val (.int (1 : Int32)), .val (.int (1 : Int32))] [])) _
    refine XS.iload X239.here hx rfl (hb hby at_359) rfl ?_
    show Steps p.tables e below (T239.setTop (mkF m 361 #[.val (.int p0), .val (.int p1), .val (.int p2), .val (.int p3), .val (.ref b1), .val (.int ((zb + ((p2 &&& (2147483647 : Int32)) % (5 : Int32))) - (2 : Int32))), .val (.int ((p3 &&& (2147483647 : Int32)) % (1114112 : Int32))), .val (.int (1 : Int32)), .val (.int (1 : Int32)), .val (.int (1 : Int32))] [(.int (1 : Int32))])) _
    refine XS.ifNo X239.here hx rfl (hb hby at_361) rfl ((if0 _ _).trans (feq (by decide : ¬ ((1 : Int32) = (0 : Int32)))).1) ?_
    exact kt)
  obtain ⟨fs, hr, hrun, hended, hW, hsame⟩ := X239.leave (v := some (.int (1 : Int32))) (fun h => by rw [Bd.returns] at h; cases h)
  refine ⟨_, _, pre242 _ ?_, hrun, hended, _, _, rfl, ?_, ⟨_, rfl⟩, hW, hsame.mono (by decide) (by decide)⟩
  · show Steps p.tables e below (T239.setTop (mkF m 364 #[.val (.int p0), .val (.int p1), .val (.int p2), .val (.int p3), .val (.ref b1), .val (.int ((zb + ((p2 &&& (2147483647 : Int32)) % (5 : Int32))) - (2 : Int32))), .val (.int ((p3 &&& (2147483647 : Int32)) % (1114112 : Int32))), .val (.int (1 : Int32)), .val (.int (1 : Int32)), .val (.int (1 : Int32))] [])) _
    refine XS.iconst X239.here hx rfl (hb hby at_364) ?_
    show Steps p.tables e below (T239.setTop (mkF m 365 #[.val (.int p0), .val (.int p1), .val (.int p2), .val (.int p3), .val (.ref b1), .val (.int ((zb + ((p2 &&& (2147483647 : Int32)) % (5 : Int32))) - (2 : Int32))), .val (.int ((p3 &&& (2147483647 : Int32)) % (1114112 : Int32))), .val (.int (1 : Int32)), .val (.int (1 : Int32)), .val (.int (1 : Int32))] [(.int (1 : Int32))])) _
    refine XS.goto X239.here hx rfl (pc0 := 365) (pc' := 369) rfl (hb hby at_365) (by decide) (by decide) ?_
    show Steps p.tables e below (T239.setTop (mkF m 369 #[.val (.int p0), .val (.int p1), .val (.int p2), .val (.int p3), .val (.ref b1), .val (.int ((zb + ((p2 &&& (2147483647 : Int32)) % (5 : Int32))) - (2 : Int32))), .val (.int ((p3 &&& (2147483647 : Int32)) % (1114112 : Int32))), .val (.int (1 : Int32)), .val (.int (1 : Int32)), .val (.int (1 : Int32))] [(.int (1 : Int32))])) _
    exact retN X239 hx (t := .boolean) Bd.returns (by simp) (hb hby at_369) hr
  · show Q0 Z p0 p1 p2 p3 h0 n0 _ T239.heap _
    rw [e239]
    exact ⟨rfl, N240⟩
set_option maxHeartbeats 40000000 in
theorem comes_1 {Post : Tables → Env → Array Value → State → Outcome → State → Prop} (hpost : ∀ tb e args s v u, (limb_1_1.after args s (.returned v) u = true ∧ limb_1_2.after args s (.returned v) u = true ∧ True) → FrameEnd s (.returned v) u (Jvm.fieldLocs frame_1_writes args s ++ Jvm.arrayLocs frame_1_arrays args s ++ Jvm.staticLocs frame_1_statics s) 16 192 → Post tb e args s (.returned v) u) :
    ArmFor flags0 classFile x code maxLocals ret World_1 tables_1 room_1 Calls_1 rest_1 Pre_1 Post := by
  intro l hfl _ _ p e ha hc hk s m args below hf hA hF happ hP
  obtain ⟨hcalls, hrest, hpre⟩ := hP
  obtain ⟨-, -, -, hnamed, -, -, -, hat⟩ := (Spec.applies_iff hf).mp happ
  obtain ⟨hg, hn⟩ := and_e (Cond.before_iff.mp (show (Jvm.Cond.and given_1 narrow_1).before args s = true from hpre))
  obtain ⟨g1, g2⟩ := and_e hg
  obtain ⟨g3, g4⟩ := and_e g2
  obtain ⟨g5, g6⟩ := and_e g4
  obtain ⟨g7, g8⟩ := and_e g6
  obtain ⟨w0, w1, w2, w3, rfl⟩ : ∃ w0 w1 w2 w3 : Value, args = #[w0, w1, w2, w3] := by
    have hs : args.size = 4 := by simpa [Cond.value, given_1] using g1
    obtain ⟨L⟩ := args
    match L, hs with
    | [w0, w1, w2, w3], _ => exact ⟨w0, w1, w2, w3, rfl⟩
  have hw := fun d (hd : d ∈ tables_1) => atoms_spec (ws := Jvm.Cond.code x code maxLocals ret :: tables_1) hat d (List.mem_cons_of_mem _ hd)
  have hfit : Fit s := fun {y c} hc i hi => by
    obtain ⟨ha, rfl⟩ := Array.getElem?_eq_some_iff.mp hc
    have q := List.all_eq_true.mp ((Array.all_eq_true_iff_forall_mem.mp hF) _ (Array.getElem_mem ha)) i (List.mem_range.mpr hi)
    simpa [Array.getElem?_eq_getElem hi] using q
  obtain ⟨i0, ei0⟩ := is_v g3
  obtain rfl : w0 = (.int i0) := Option.some.inj ei0
  obtain ⟨i1, ei1⟩ := is_v g5
  obtain rfl : w1 = (.int i1) := Option.some.inj ei1
  obtain ⟨i2, ei2⟩ := is_v g7
  obtain rfl : w2 = (.int i2) := Option.some.inj ei2
  obtain ⟨i3, ei3⟩ := is_v g8
  obtain rfl : w3 = (.int i3) := Option.some.inj ei3
  obtain ⟨n, o, h1, h2, h3, _, L, rfl, ⟨rfl, N⟩, hq⟩ := rm0 l s _ hw tables_1 i0 i1 i2 i3  s.heap s.heap.size (Nat.le_refl _)  p e ha hc hk s m _ below hf ((Spec.applies_iff_loose hf).mp happ).1 ⟨rfl, State.Warmed39.refl s, rfl⟩ trivial
  refine ⟨n, _, h1, h2, h3, hpost _ _ _ _ _ _ ⟨Cond.after_iff.mpr rfl, Cond.after_iff.mpr (eq_i res_at (Term.int_eval (1)) rfl), trivial⟩ ⟨hq.1, hq.2.1, (hq.2.2.sift fun y hy => Or.inr (N y hy)).mono (by decide) (by decide)⟩⟩
theorem main_1_1 : Claimed_1_1 := comes_1 fun _ _ _ _ _ _ h hF => ⟨h.1, hF⟩
theorem main_1_2 : Claimed_1_2 := comes_1 fun _ _ _ _ _ _ h hF => ⟨h.2.1, hF⟩
end Jvm.Pilot.@@N@@
namespace Jvm.Pilot.@@N@@
open Jvm Jvm.ClassFile Sem Op Lib Jvm.Free Jvm.Stand Jvm.Pilot.@@N@@.Jvm.D
/-! MADE BY PROGRAM (witnessworld.py) out of the Statement's table words and the real class files: 9 classes; the members and pool entries that the words name. The judged class is class 1, her method 2. -/
namespace start1
open Jvm.ClassFile
def u (s : String) : CpInfo := .utf8 (stringToUtf16 s)
/-- a pool by its gaps: so many unusable entries, then the entry; so many at the end -/
def gap : Nat → List CpInfo → List CpInfo
  | 0, r => r
  | n + 1, r => .unusable :: gap n r
def poolList (es : List (Nat × CpInfo)) (last : Nat) : List CpInfo := es.foldr (fun e r => gap e.1 (e.2 :: r)) (gap last [])
def pool (es : List (Nat × CpInfo)) (last : Nat) : Array CpInfo := ⟨poolList es last⟩
def fileOf (pool : Array CpInfo) (this : Nat) (attrs : Array Attribute := #[]) (ms : Array MethodInfo := #[]) (fl : Nat := 33) (sup : Nat := 0) (ifs : Array Nat := #[]) (fds : Array FieldInfo := #[]) : ClassFile where
  minorVersion := 0
  majorVersion := 65
  constantPool := pool
  accessFlags := fl
  thisClass := this
  superClass := sup
  interfaces := ifs
  fields := fds
  methods := ms
  attributes := attrs
def plain (name : String) (sup : Option ClassId) : Class where
  name := name
  kind := .ordinary
  loader := none
  accessFlags := 33
  super := sup
  interfaces := #[]
  cf := none
  fields := #[]
  methods := #[]
  instanceTypes := #[]
  staticTypes := #[]
  resolved := #[]
  callSites := []
  init := .initialized
  statics := none
  mirror := none

def pool0 : Array CpInfo := pool [(5, u "<init>"), (0, u "()V"), (1, .class_ 10), (1, u "java/lang/Object")] 113

def k0m0 : Method := { name := "<init>", desc := "()V", sig := { parameters := [], returnType := none }, accessFlags := 1, code := none }
/-- java/lang/Object -/
def k0 : Class := { plain "java/lang/Object" none with
  accessFlags := 33
  interfaces := #[]
  cf := some (fileOf pool0 8 #[] #[{ accessFlags := 1, nameIndex := 5, descriptorIndex := 6, attributes := #[] }] 33 0 #[] #[])
  fields := #[]
  methods := #[k0m0]
  instanceTypes := #[]
  staticTypes := #[]
  resolved := Array.replicate 124 none
  statics := none }

def pool1 : Array CpInfo := pool [(2, .class_ 4), (1, u "java/lang/Object"), (0, u "<init>"), (0, u "()V"), (0, .integer 55295), (0, .integer 63744), (0, .integer 64975), (0, .integer 65008), (0, .integer 65533), (0, .integer 65536), (0, .integer 983039), (0, .integer 1114111), (0, .integer 2147483647), (0, .integer 1114112), (0, .methodref 18 19), (0, .class_ 20), (0, .nameAndType 21 22), (0, u "com/example/melampus/melampus/model/XmlNames"), (0, u "isNameStartChar"), (0, u "(I)Z"), (0, .methodref 24 25), (0, .class_ 26), (0, .nameAndType 27 22), (0, u "com/example/melampus/melampus/model/XmlNamesIsNameStartCharPinLaw"), (0, u "ref"), (3, u "law"), (0, u "(IIII)Z")] 4

def k1m0 : Method := { name := "<init>", desc := "()V", sig := { parameters := [], returnType := none }, accessFlags := 2, code := none }
def k1c1 : Code := { maxStack := 2, maxLocals := 1, code := method_2_code, exceptionTable := #[], attributes := #[] }
def k1m1 : Method := { name := "ref", desc := "(I)Z", sig := { parameters := [.int], returnType := some .boolean }, accessFlags := 10, code := some k1c1 }
def k1c2 : Code := { maxStack := 4, maxLocals := 10, code := code, exceptionTable := #[], attributes := #[] }
def k1m2 : Method := { name := "law", desc := "(IIII)Z", sig := { parameters := [.int, .int, .int, .int], returnType := some .boolean }, accessFlags := 9, code := some k1c2 }
/-- com/example/melampus/melampus/model/XmlNamesIsNameStartCharPinLaw -/
def k1 : Class := { plain "com/example/melampus/melampus/model/XmlNamesIsNameStartCharPinLaw" (some 0) with
  accessFlags := 49
  interfaces := #[]
  cf := some (fileOf pool1 24 #[] #[{ accessFlags := 2, nameIndex := 5, descriptorIndex := 6, attributes := #[] }, { accessFlags := 10, nameIndex := 27, descriptorIndex := 22, attributes := #[] }, { accessFlags := 9, nameIndex := 31, descriptorIndex := 32, attributes := #[] }] 49 2 #[] #[])
  fields := #[]
  methods := #[k1m0, k1m1, k1m2]
  instanceTypes := #[]
  staticTypes := #[]
  resolved := Array.replicate 37 none
  statics := none }

def pool2 : Array CpInfo := pool [(2, .class_ 4), (1, u "java/lang/Object"), (0, u "<init>"), (0, u "()V"), (0, .integer 55295), (0, .integer 63744), (0, .integer 64975), (0, .integer 65008), (0, .integer 65533), (0, .integer 65536), (0, .integer 983039), (1, .class_ 17), (1, u "com/example/melampus/melampus/model/XmlNames"), (0, u "isNameStartChar"), (0, u "(I)Z")] 59

def k2m0 : Method := { name := "<init>", desc := "()V", sig := { parameters := [], returnType := none }, accessFlags := 2, code := none }
def k2c1 : Code := { maxStack := 2, maxLocals := 1, code := prog_92_method_2_code, exceptionTable := #[], attributes := #[] }
def k2m1 : Method := { name := "isNameStartChar", desc := "(I)Z", sig := { parameters := [.int], returnType := some .boolean }, accessFlags := 9, code := some k2c1 }
/-- com/example/melampus/melampus/model/XmlNames -/
def k2 : Class := { plain "com/example/melampus/melampus/model/XmlNames" (some 0) with
  accessFlags := 49
  interfaces := #[]
  cf := some (fileOf pool2 15 #[] #[{ accessFlags := 2, nameIndex := 5, descriptorIndex := 6, attributes := #[] }, { accessFlags := 9, nameIndex := 18, descriptorIndex := 19, attributes := #[] }] 49 2 #[] #[])
  fields := #[]
  methods := #[k2m0, k2m1]
  instanceTypes := #[]
  staticTypes := #[]
  resolved := Array.replicate 79 none
  statics := none }

def pool3 : Array CpInfo := pool [(1, u "java/lang/Cloneable"), (0, .class_ 1), (0, u "java/lang/Object"), (0, .class_ 3)] 3

/-- java/lang/Cloneable -/
def k3 : Class := { plain "java/lang/Cloneable" (some 0) with
  accessFlags := 1537
  interfaces := #[]
  cf := some (fileOf pool3 2 #[] #[] 1537 4 #[] #[])
  fields := #[]
  methods := #[]
  instanceTypes := #[]
  staticTypes := #[]
  resolved := Array.replicate 8 none
  statics := none }

def pool4 : Array CpInfo := pool [(1, u "java/io/Serializable"), (0, .class_ 1), (0, u "java/lang/Object"), (0, .class_ 3)] 3

/-- java/io/Serializable -/
def k4 : Class := { plain "java/io/Serializable" (some 0) with
  accessFlags := 1537
  interfaces := #[]
  cf := some (fileOf pool4 2 #[] #[] 1537 4 #[] #[])
  fields := #[]
  methods := #[]
  instanceTypes := #[]
  staticTypes := #[]
  resolved := Array.replicate 8 none
  statics := none }

/-- the primitive byte -/
def k5 : Class := { plain "byte" none with kind := .primitive 'B', accessFlags := 0x411 }
/-- [B -/
def k6 : Class := { plain "[B" (some 0) with kind := .array 5 .byte, interfaces := #[3, 4], accessFlags := 1041 }

/-- the primitive int -/
def k7 : Class := { plain "int" none with kind := .primitive 'I', accessFlags := 0x411 }
/-- [I -/
def k8 : Class := { plain "[I" (some 0) with kind := .array 7 .int, interfaces := #[3, 4], accessFlags := 1041 }

def heap : Heap := #[]
def classes : Array Class := #[k0, k1, k2, k3, k4, k5, k6, k7, k8]
def interned : List (Array UInt16 × Addr) := []
def slotsUsed : Nat := 0
def theMethod : MethodId := ⟨1, 2⟩
def args0 : Array Value := #[.int 65, .int 7, .int 3, .int 4]
def aboutOver (below : List Frame) : State where
  vm := { classes := classes, interned := interned.toArray }
  heap := heap
  slotsUsed := slotsUsed
  threads := #[{ frames := .invoking theMethod args0 :: below }]
def below0 : List Frame := [.native { method := ⟨0, 0⟩, args := #[] }]
def about1 : State := aboutOver below0
def p0 : Program := .bare "" "" ""
def e0 : Env := launch0.env 0 0 0
theorem w_frames : about1.frames = Frame.invoking theMethod args0 :: below0 := rfl
set_option maxRecDepth 65536 in
theorem w_args : argsFit about1.vm theMethod args0 = true := by decide +kernel
set_option maxRecDepth 65536 in
theorem w_heap : heapFits about1 = true := by decide +kernel
set_option maxRecDepth 65536 in
theorem w_runnable : about1.curStatus? = some .runnable := by decide +kernel
set_option maxRecDepth 65536 in
theorem w_alone : about1.alone = true := by decide +kernel
set_option maxRecDepth 65536 in
theorem w_named : about1.methodNamed? x = some theMethod := by decide +kernel
set_option maxRecDepth 65536 in
theorem w_hears : about1.hears theMethod below0 = true := by decide +kernel
set_option maxRecDepth 65536 in
theorem w_ripe : about1.ripe theMethod args0 below0 = true := by decide +kernel
theorem w_running : about1.status = .running := rfl
set_option maxRecDepth 65536 in
theorem w_room : about1.hasRoom e0.platform room_1 = true :=
  launch0.hasRoom_least _ room_1 (by decide +kernel) (by decide +kernel) (by decide +kernel) (by decide +kernel) (by decide +kernel) (by decide +kernel)
theorem allAtoms_all (ts : List Jvm.Cond) (a : Array Jvm.Value) (st : Jvm.State) : (allAtoms ts).before a st = ts.all (fun c => c.before a st) := by
  induction ts with
  | nil => rfl
  | cons c t ih =>
    show (Jvm.Cond.and c (allAtoms t)).before a st = _
    rw [Jvm.Cond.before_and, ih, List.all_cons]
def words1 : List Jvm.Cond := Jvm.Cond.code x code maxLocals ret :: tables_1
/-- a 'code' word, met by the world's own term for the bytes: nothing is compared byte by byte -/
theorem code_word {y : MethodName} {bytes : ByteArray} {mx : Nat} {rt : Option FieldType} {a : Array Value} {s : State} {m : MethodId} {meth : Method} {c : Code} (h1 : s.methodNamed? y = some m) (h2 : s.vm.method? m = some meth) (h3 : meth.code = some c) (h4 : c.code = bytes)
    (h5 : (c.maxLocals == mx && c.exceptionTable.isEmpty && decide (c.maxStack ≤ mostOperands) && decide (meth.sig.returnType = rt) && !meth.locks && decide (parseMethodDescriptor y.desc = some meth.sig)) = true) : (Jvm.Cond.code y bytes mx rt).before a s = true := by
  simp only [Bool.and_eq_true, beq_iff_eq, Bool.not_eq_true', decide_eq_true_eq] at h5
  obtain ⟨⟨⟨⟨⟨g1, g2⟩, g3⟩, g4⟩, g5⟩, g6⟩ := h5
  simp [Cond.before, Cond.holds, Cond.value, h1, h2, h3, h4, g1, g2, g3, g4, g5, g6]
def isCode : Jvm.Cond → Bool
  | .code _ _ _ _ => true
  | _ => false
theorem all_split {L : List Jvm.Cond} {P : Jvm.Cond → Bool} (h1 : L.all (fun c => isCode c || P c) = true) (h2 : ∀ c ∈ L.filter isCode, P c = true) : L.all P = true := by
  refine List.all_eq_true.mpr fun c hc => ?_
  have h := List.all_eq_true.mp h1 c hc
  rcases Bool.eq_false_or_eq_true (isCode c) with hi | hi
  · exact h2 c (List.mem_filter.mpr ⟨hc, hi⟩)
  · simpa [hi] using h
set_option maxRecDepth 65536 in
theorem w_c0 : (Jvm.Cond.code x code maxLocals ret).before args0 about1 = true := code_word (m := ⟨1, 2⟩) (meth := k1m2) (c := k1c2) (by decide +kernel) rfl rfl rfl (by decide +kernel)
set_option maxRecDepth 65536 in
theorem w_c1 : (Jvm.Cond.code ({ cls := "com/example/melampus/melampus/model/XmlNames", name := "isNameStartChar", desc := "(I)Z" } : Jvm.MethodName) prog_92_method_2_code (1 : Nat) (Option.some Jvm.ClassFile.FieldType.boolean)).before args0 about1 = true := code_word (m := ⟨2, 1⟩) (meth := k2m1) (c := k2c1) (by decide +kernel) rfl rfl rfl (by decide +kernel)
set_option maxRecDepth 65536 in
theorem w_c2 : (Jvm.Cond.code ({ cls := "com/example/melampus/melampus/model/XmlNamesIsNameStartCharPinLaw", name := "ref", desc := "(I)Z" } : Jvm.MethodName) method_2_code (1 : Nat) (Option.some Jvm.ClassFile.FieldType.boolean)).before args0 about1 = true := code_word (m := ⟨1, 1⟩) (meth := k1m1) (c := k1c1) (by decide +kernel) rfl rfl rfl (by decide +kernel)
def codes1 : List Jvm.Cond := [Jvm.Cond.code x code maxLocals ret, Jvm.Cond.code ({ cls := "com/example/melampus/melampus/model/XmlNames", name := "isNameStartChar", desc := "(I)Z" } : Jvm.MethodName) prog_92_method_2_code (1 : Nat) (Option.some Jvm.ClassFile.FieldType.boolean), Jvm.Cond.code ({ cls := "com/example/melampus/melampus/model/XmlNamesIsNameStartCharPinLaw", name := "ref", desc := "(I)Z" } : Jvm.MethodName) method_2_code (1 : Nat) (Option.some Jvm.ClassFile.FieldType.boolean)]
set_option maxRecDepth 65536 in
theorem codes_eq : words1.filter isCode = codes1 := rfl
theorem w_codes : ∀ c ∈ words1.filter isCode, c.before args0 about1 = true := by
  rw [codes_eq]
  intro c hc
  simp only [codes1, List.mem_cons, List.not_mem_nil, or_false] at hc
  rcases hc with rfl | rfl | rfl
  · exact w_c0
  · exact w_c1
  · exact w_c2
set_option maxRecDepth 65536 in
theorem w_t1 : (words1.take 24).all (fun c => isCode c || c.before args0 about1) = true := by decide +kernel
set_option maxRecDepth 65536 in
theorem w_t2 : (words1.drop 24).all (fun c => isCode c || c.before args0 about1) = true := by decide +kernel
theorem w_tables : (allAtoms (Jvm.Cond.code x code maxLocals ret :: tables_1)).before args0 about1 = true := by
  rw [allAtoms_all]
  show words1.all (fun c => c.before args0 about1) = true
  refine all_split ?_ w_codes
  rw [← List.take_append_drop 24 words1, List.all_append, w_t1, w_t2]
  rfl
set_option maxRecDepth 65536 in
theorem w_case : (Jvm.Cond.and given_1 narrow_1).before args0 about1 = true := by decide +kernel
theorem w_applies : (headSpec (Jvm.Cond.code x code maxLocals ret :: tables_1) room_1).applies x e0.platform about1 = true :=
  (Spec.applies_iff w_frames).mpr ⟨w_running, w_runnable, w_alone, w_named, w_hears, w_ripe, w_room, w_tables⟩
theorem atStart : AtStart classFile x code maxLocals ret World_1 tables_1 room_1 Calls_1 rest_1 Pre_1 launch0 p0 e0 about1 theMethod args0 below0 :=
  ⟨lists_1, trivial, launch0.admits_env _ _ _, launch0.least_env, fairChoices_fair.cas, fairChoices_fair.clock, w_frames, w_args, w_heap, w_applies, trivial, trivial, w_case⟩
end start1
theorem witness_1 : WitnessClaimed_1 := ⟨start1.p0, start1.e0, start1.about1, start1.theMethod, start1.args0, start1.below0, start1.atStart⟩
end Jvm.Pilot.@@N@@
