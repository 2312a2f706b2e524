import JvmDerived
import JvmDerived.Pilot.@@N@@Statement
import JvmDerived.Pilot.@@N@@Code
set_option linter.unusedVariables false
set_option linter.unusedSimpArgs false
set_option maxRecDepth 65536
namespace Jvm.RoadKit
open Sem ClassFile Op Lib Jvm.Stand Jvm.Free Jvm.LawKit
section New
variable {p : Program} {l : Launch} {e : Env} {R : Room} {s : State} {m : MethodId} {args : Array Value} {below : List Frame} {meth : Method} {c : Code} {T : State} {locs : List Loc} {cells slots : Nat}
theorem retI (X : Stand p l e R s m args below meth c T locs cells slots) (hx : p.tables.exec = Jvm.exec) {pc : Nat} {Ls : Array Slot} {z : Int32} {rest : List Value} (hret : meth.sig.returnType = some .int) (hd : decode c.code pc = .ok (.ireturn, 1)) {fs : List Frame}
    (hl : ∀ (f : JFrame) (acts : List Action), f.method = m → f.locked = none → f.entered = [] → (doReturn e (T.setTop f) acts (some (.int z))).1 = T.setFrames fs) : Steps p.tables e below (T.setTop (mkF m pc Ls (.int z :: rest))) (T.setFrames fs) := by
  have hm' : T.vm.method? m = some meth := X.method'
  have hn : narrow .int (.int z) = .int z := rfl
  show Steps p.tables e below (T.setTop { method := m, pc := pc, locals := Ls, stack := _ :: rest, locked := none }) _
  jvm_step X.here [X.here.top, hx, hd, hm', hret, hn]
  first | (intro acts; rw [hl _ acts rfl rfl rfl]) | rw [hl _ _ rfl rfl rfl]
  exact Steps.refl _
end New
end Jvm.RoadKit
namespace Jvm.Pilot.@@N@@
open Jvm Jvm.ClassFile Sem Op Lib Jvm.Free Jvm.Stand Jvm.LawKit Jvm.RoadKit Bundle Jvm.Pilot.@@N@@.Jvm.D
theorem own_eqint {args : Array Value} {first s : State} {o : Option Outcome} {idx : List Nat} {t : Term} {j : Int32} (h : (Cond.eq t (.int j)).value args first o s idx = some true) : t.eval args first o idx s = some (.int j) := by
  obtain ⟨x, y, h1, h2, k1, k2⟩ := cmp_v (Or.inl h)
  have e2 : Value.int j = y := Option.some.inj h2
  subst e2
  obtain ⟨z, rfl⟩ := k2
  have h3 : (Term.int j).eval args first o idx s = some (.int j) := rfl
  have : z = j := by simpa [Cond.value, h1, h3] using h
  rw [h1, this]
theorem own_neint {args : Array Value} {first s : State} {o : Option Outcome} {idx : List Nat} {t : Term} {i j : Int32} (e : t.eval args first o idx s = some (.int i)) (h : (Cond.not (Cond.eq t (.int j))).value args first o s idx = some true) : ¬ i = j := fun q => by
  have h1 := not_v h
  have h3 : (Term.int j).eval args first o idx s = some (.int j) := rfl
  subst q
  simp [Cond.value, e, h3] at h1
theorem own_ew {Z : State} {a0 : Array Value} (hw : ∀ d ∈ tables_1, d.before a0 Z = true) : EW Z a0 consts_1 := (EW.cons (own := "com/example/keyfold/keyfold/spec/Transform") (index := 123) (text := "a date") (hw _ (List.mem_of_getElem? (i := 52) rfl)) (by decide) (EW.cons (own := "com/example/keyfold/keyfold/spec/Transform") (index := 125) (text := "an integer") (hw _ (List.mem_of_getElem? (i := 19) rfl)) (by decide) (EW.cons (own := "com/example/keyfold/keyfold/spec/TransformGivesPinLaw") (index := 14) (text := "an integer") (hw _ (List.mem_of_getElem? (i := 4) rfl)) (by decide) (EW.cons (own := "com/example/keyfold/keyfold/spec/TransformGivesPinLaw") (index := 25) (text := "a date") (hw _ (List.mem_of_getElem? (i := 20) rfl)) (by decide) EW.nil))))
theorem own_ws {Z : State} {a0 : Array Value} (hw : ∀ d ∈ tables_1, d.before a0 Z = true) : ∀ a ∈ Bundle.stringAtoms, a.before a0 Z = true := by
  intro d hd
  simp only [Bundle.stringAtoms, List.mem_cons, List.not_mem_nil, or_false] at hd
  rcases hd with rfl | rfl | rfl | rfl | rfl | rfl | rfl
  · exact (hw _ (List.mem_of_getElem? (i := 5) rfl))
  · exact (hw _ (List.mem_of_getElem? (i := 6) rfl))
  · exact (hw _ (List.mem_of_getElem? (i := 7) rfl))
  · exact (hw _ (List.mem_of_getElem? (i := 8) rfl))
  · exact (hw _ (List.mem_of_getElem? (i := 9) rfl))
  · exact (hw _ (List.mem_of_getElem? (i := 10) rfl))
  · exact (hw _ (List.mem_of_getElem? (i := 11) rfl))
theorem own_arv_ne {Z : State} {h : Heap} {a b : Addr} {k k' : ClassId} {ty ty' : FieldType} {z z' : Int32} {vs vs' : List Value} {d d' : Value} (F : Arv Z h a k ty z vs d) (G : Arv Z h b k' ty' z' vs' d') (q : z ≠ z') : a ≠ b := fun e => by
  subst e
  obtain ⟨c, A, -, S, N, -⟩ := F
  obtain ⟨c', A', -, S', N', -⟩ := G
  cases A.1.symm.trans A'.1
  exact q ((len_of S N).symm.trans (len_of S' N'))
theorem d3_0 : decode jdk_43_method_13_code 0 = .ok (.aload_n 0, 1) := by decide +kernel
theorem d3_1 : decode jdk_43_method_13_code 1 = .ok (.arraylength, 1) := by decide +kernel
theorem d3_2 : decode jdk_43_method_13_code 2 = .ok (.aload_n 1, 1) := by decide +kernel
theorem d3_3 : decode jdk_43_method_13_code 3 = .ok (.arraylength, 1) := by decide +kernel
theorem d3_4 : decode jdk_43_method_13_code 4 = .ok (.if_icmp .ne 30, 3) := by decide +kernel
theorem d3_7 : decode jdk_43_method_13_code 7 = .ok (.iconst 0, 1) := by decide +kernel
theorem d3_8 : decode jdk_43_method_13_code 8 = .ok (.istore_n 2, 1) := by decide +kernel
theorem d3_9 : decode jdk_43_method_13_code 9 = .ok (.iload_n 2, 1) := by decide +kernel
theorem d3_10 : decode jdk_43_method_13_code 10 = .ok (.aload_n 0, 1) := by decide +kernel
theorem d3_11 : decode jdk_43_method_13_code 11 = .ok (.arraylength, 1) := by decide +kernel
theorem d3_12 : decode jdk_43_method_13_code 12 = .ok (.if_icmp .ge 20, 3) := by decide +kernel
theorem d3_15 : decode jdk_43_method_13_code 15 = .ok (.aload_n 0, 1) := by decide +kernel
theorem d3_16 : decode jdk_43_method_13_code 16 = .ok (.iload_n 2, 1) := by decide +kernel
theorem d3_17 : decode jdk_43_method_13_code 17 = .ok (.baload, 1) := by decide +kernel
theorem d3_18 : decode jdk_43_method_13_code 18 = .ok (.aload_n 1, 1) := by decide +kernel
theorem d3_19 : decode jdk_43_method_13_code 19 = .ok (.iload_n 2, 1) := by decide +kernel
theorem d3_20 : decode jdk_43_method_13_code 20 = .ok (.baload, 1) := by decide +kernel
theorem d3_21 : decode jdk_43_method_13_code 21 = .ok (.if_icmp .eq 5, 3) := by decide +kernel
theorem d3_26 : decode jdk_43_method_13_code 26 = .ok (.iinc 2 1, 3) := by decide +kernel
theorem d3_29 : decode jdk_43_method_13_code 29 = .ok (.goto (-20), 3) := by decide +kernel
theorem d3_32 : decode jdk_43_method_13_code 32 = .ok (.iconst 1, 1) := by decide +kernel
theorem d3_33 : decode jdk_43_method_13_code 33 = .ok (.ireturn, 1) := by decide +kernel
theorem pn_0 : plainName "java/lang/StringLatin1" = true := by first | (simp [plainName, overriddenIn]; done) | decide +kernel
theorem ef_rm3e10 (m : MethodId) (x0 : Addr) (x1 : Addr) : entryFrame m #[(.ref x0), (.ref x1)] 3 = mkF m 0 #[.val (.ref x0), .val (.ref x1), .unset] [] := by first | (simp [entryFrame, mkF, argsToLocals, Value.category]; done) | rfl
def Q3e10 (Z : State) (b1 : Addr) (b2 : Addr) (k1 k2 : ClassId) (v0 v1 v2 v3 v4 v5 v6 v7 v8 v9 : Int32) (h0 : Heap) (n0 : Nat) (v : Option Value) (h : Heap) (L : List Loc) : Prop := v = some (.int (1 : Int32)) ∧ Fr n0 L ∧ h = h0
set_option maxHeartbeats 40000000 in
theorem rm3e10 (l : Launch) (Z : State) (a0 : Array Value) (hw : ∀ d ∈ tables_1, d.before a0 Z = true) (ws : List Jvm.Cond) (b1 : Addr) (b2 : Addr) (k1 k2 : ClassId) (v0 v1 v2 v3 v4 v5 v6 v7 v8 v9 : Int32) (h0 : Heap) (n0 : Nat) (Z0 : n0 ≤ h0.size) (A1 : Arv Z h0 b1 k1 .byte (10 : Int32) [(.int v0), (.int v1), (.int v2), (.int v3), (.int v4), (.int v5), (.int v6), (.int v7), (.int v8), (.int v9)] (.int (0 : Int32))) (A2 : Arv Z h0 b2 k2 .byte (10 : Int32) [(.int v0), (.int v1), (.int v2), (.int v3), (.int v4), (.int v5), (.int v6), (.int v7), (.int v8), (.int v9)] (.int (0 : Int32))) :
    MetFree l (⟨"java/lang/StringLatin1", "equals", "([B[B)Z"⟩ : MethodName) (head1 (Jvm.Cond.code (⟨"java/lang/StringLatin1", "equals", "([B[B)Z"⟩ : MethodName) jdk_43_method_13_code 3 (some .boolean) :: ws) ({ frames := 0, cells := 0, slots := 0, locals := 0 } : Room)) (fun a U => a = #[(.ref b1), (.ref b2)] ∧ Z.Warmed39 U.vm ∧ U.heap = h0) (fun _ _ _ _ _ => True) (fun _ U o U' => ∃ v L, o = .returned v ∧ Q3e10 Z b1 b2 k1 k2 v0 v1 v2 v3 v4 v5 v6 v7 v8 v9 h0 n0 v U'.heap L ∧ FrameEnd U o U' L ({ frames := 0, cells := 0, slots := 0, locals := 0 } : Room).cells ({ frames := 0, cells := 0, slots := 0, locals := 0 } : Room).slots) := by
  refine MetFree.of_bodySF (plainFor_of_name pn_0) hisR ?_
  intro p e s m args below meth c s₁ Bd hml0 hP hK
  obtain ⟨rfl, hZ, hh⟩ := hP
  have hx := Bd.exec
  have hby := Bd.bytes
  have hml : c.maxLocals = 3 := hml0
  have hown : s.vm.findClass "java/lang/StringLatin1" = some m.cls := findClass_of_methodNamed Bd.named
  have hnm := (name_of_methodNamed Bd.named Bd.method).1
  have X0 : Stand p l e ({ frames := 0, cells := 0, slots := 0, locals := 0 } : Room) s m #[(.ref b1), (.ref b2)] below meth c s₁ [] 0 0 := Stand.of_body Bd
  have e0 : s₁.heap = h0 := by rw [← hh, Bd.state]; rfl
  have N0 := Fr.nil n0
  have pre0 : ∀ tgt, Steps p.tables e below (s₁.setTop (mkF m 0 #[.val (.ref b1), .val (.ref b2), .unset] [])) tgt → Steps p.tables e below (s₁.setTop (entryFrame m #[(.ref b1), (.ref b2)] 3)) tgt := fun tgt k => castTop (ef_rm3e10 m b1 b2) k
  obtain ⟨cl1, Ar1, -, S1, N1, -, -⟩ := id A1
  obtain ⟨cl2, Ar2, -, S2, N2, -, -⟩ := id A2
  obtain ⟨cl3, Ar3, -, S3, N3, -, -⟩ := id A1
  obtain ⟨cl4, Ar4, -, S4, -, H4, -⟩ := id A1
  have hin4 : ¬ ((0 : Int32) < 0 ∨ cl4.slots.size ≤ ((0 : Int32)).toNatClampNeg) := inb_of S4 ⟨by decide, by decide⟩
  have hat4 : cl4.slots[((0 : Int32)).toNatClampNeg]? = some (.int v0) := H4 0 (by rw [S4]; decide)
  obtain ⟨cl5, Ar5, -, S5, -, H5, -⟩ := id A2
  have hin5 : ¬ ((0 : Int32) < 0 ∨ cl5.slots.size ≤ ((0 : Int32)).toNatClampNeg) := inb_of S5 ⟨by decide, by decide⟩
  have hat5 : cl5.slots[((0 : Int32)).toNatClampNeg]? = some (.int v0) := H5 0 (by rw [S5]; decide)
  have pre6 : ∀ tgt, Steps p.tables e below (s₁.setTop (mkF m 29 #[.val (.ref b1), .val (.ref b2), .val (.int ((0 : Int32) + (1 : Int32)))] [])) tgt → Steps p.tables e below (s₁.setTop (entryFrame m #[(.ref b1), (.ref b2)] 3)) tgt := fun tgt kt => pre0 _ (by
    show Steps p.tables e below (s₁.setTop (mkF m 0 #[.val (.ref b1), .val (.ref b2), .unset] [])) _
    refine XS.aloadN X0.here hx rfl (hb hby d3_0) rfl rfl ?_
    show Steps p.tables e below (s₁.setTop (mkF m 1 #[.val (.ref b1), .val (.ref b2), .unset] [(.ref b1)])) _
    refine X0.arraylength hx (by rw [e0]; exact Ar1.1) (State.isArrayOf_alike hZ.alike Ar1.2.1) (g := (mkF m 1 #[.val (.ref b1), .val (.ref b2), .unset] [(.ref b1)])) rfl rfl (hb hby d3_1) _ ?_
    rw [len_of S1 N1]
    show Steps p.tables e below (s₁.setTop (mkF m 2 #[.val (.ref b1), .val (.ref b2), .unset] [(.int (10 : Int32))])) _
    refine XS.aloadN X0.here hx rfl (hb hby d3_2) rfl rfl ?_
    show Steps p.tables e below (s₁.setTop (mkF m 3 #[.val (.ref b1), .val (.ref b2), .unset] [(.ref b2), (.int (10 : Int32))])) _
    refine X0.arraylength hx (by rw [e0]; exact Ar2.1) (State.isArrayOf_alike hZ.alike Ar2.2.1) (g := (mkF m 3 #[.val (.ref b1), .val (.ref b2), .unset] [(.ref b2), (.int (10 : Int32))])) rfl rfl (hb hby d3_3) _ ?_
    rw [len_of S2 N2]
    show Steps p.tables e below (s₁.setTop (mkF m 4 #[.val (.ref b1), .val (.ref b2), .unset] [(.int (10 : Int32)), (.int (10 : Int32))])) _
    refine XS.icmpNo X0.here hx rfl (hb hby d3_4) rfl (teq (rfl : (10 : Int32) = (10 : Int32))).2 ?_
    show Steps p.tables e below (s₁.setTop (mkF m 7 #[.val (.ref b1), .val (.ref b2), .unset] [])) _
    refine XS.iconst X0.here hx rfl (hb hby d3_7) ?_
    show Steps p.tables e below (s₁.setTop (mkF m 8 #[.val (.ref b1), .val (.ref b2), .unset] [(.int (0 : Int32))])) _
    refine XS.istoreN X0.here hx rfl (hb hby d3_8) rfl (l' := #[.val (.ref b1), .val (.ref b2), .val (.int (0 : Int32))]) rfl ?_
    show Steps p.tables e below (s₁.setTop (mkF m 9 #[.val (.ref b1), .val (.ref b2), .val (.int (0 : Int32))] [])) _
    refine XS.iloadN X0.here hx rfl (hb hby d3_9) rfl ?_
    show Steps p.tables e below (s₁.setTop (mkF m 10 #[.val (.ref b1), .val (.ref b2), .val (.int (0 : Int32))] [(.int (0 : Int32))])) _
    refine XS.aloadN X0.here hx rfl (hb hby d3_10) rfl rfl ?_
    show Steps p.tables e below (s₁.setTop (mkF m 11 #[.val (.ref b1), .val (.ref b2), .val (.int (0 : Int32))] [(.ref b1), (.int (0 : Int32))])) _
    refine X0.arraylength hx (by rw [e0]; exact Ar3.1) (State.isArrayOf_alike hZ.alike Ar3.2.1) (g := (mkF m 11 #[.val (.ref b1), .val (.ref b2), .val (.int (0 : Int32))] [(.ref b1), (.int (0 : Int32))])) rfl rfl (hb hby d3_11) _ ?_
    rw [len_of S3 N3]
    show Steps p.tables e below (s₁.setTop (mkF m 12 #[.val (.ref b1), .val (.ref b2), .val (.int (0 : Int32))] [(.int (10 : Int32)), (.int (0 : Int32))])) _
    refine XS.icmpNo X0.here hx rfl (hb hby d3_12) rfl (tlt (by decide : (0 : Int32) < (10 : Int32))).2.1 ?_
    show Steps p.tables e below (s₁.setTop (mkF m 15 #[.val (.ref b1), .val (.ref b2), .val (.int (0 : Int32))] [])) _
    refine XS.aloadN X0.here hx rfl (hb hby d3_15) rfl rfl ?_
    show Steps p.tables e below (s₁.setTop (mkF m 16 #[.val (.ref b1), .val (.ref b2), .val (.int (0 : Int32))] [(.ref b1)])) _
    refine XS.iloadN X0.here hx rfl (hb hby d3_16) rfl ?_
    show Steps p.tables e below (s₁.setTop (mkF m 17 #[.val (.ref b1), .val (.ref b2), .val (.int (0 : Int32))] [(.int (0 : Int32)), (.ref b1)])) _
    refine X0.baloadBytes hx (j := (0 : Int32)) (v := (.int v0)) (by rw [e0]; exact Ar4.1) (State.isArrayOf_alike hZ.alike Ar4.2.1) Ar4.2.2 hin4 hat4 (g := (mkF m 17 #[.val (.ref b1), .val (.ref b2), .val (.int (0 : Int32))] [(.int (0 : Int32)), (.ref b1)])) rfl rfl (hb hby d3_17) _ ?_
    show Steps p.tables e below (s₁.setTop (mkF m 18 #[.val (.ref b1), .val (.ref b2), .val (.int (0 : Int32))] [(.int v0)])) _
    refine XS.aloadN X0.here hx rfl (hb hby d3_18) rfl rfl ?_
    show Steps p.tables e below (s₁.setTop (mkF m 19 #[.val (.ref b1), .val (.ref b2), .val (.int (0 : Int32))] [(.ref b2), (.int v0)])) _
    refine XS.iloadN X0.here hx rfl (hb hby d3_19) rfl ?_
    show Steps p.tables e below (s₁.setTop (mkF m 20 #[.val (.ref b1), .val (.ref b2), .val (.int (0 : Int32))] [(.int (0 : Int32)), (.ref b2), (.int v0)])) _
    refine X0.baloadBytes hx (j := (0 : Int32)) (v := (.int v0)) (by rw [e0]; exact Ar5.1) (State.isArrayOf_alike hZ.alike Ar5.2.1) Ar5.2.2 hin5 hat5 (g := (mkF m 20 #[.val (.ref b1), .val (.ref b2), .val (.int (0 : Int32))] [(.int (0 : Int32)), (.ref b2), (.int v0)])) rfl rfl (hb hby d3_20) _ ?_
    show Steps p.tables e below (s₁.setTop (mkF m 21 #[.val (.ref b1), .val (.ref b2), .val (.int (0 : Int32))] [(.int v0), (.int v0)])) _
    refine XS.icmpYes X0.here hx rfl (pc0 := 21) (pc' := 26) rfl (hb hby d3_21) rfl (teq (rfl : v0 = v0)).1 (by decide) (by decide) ?_
    show Steps p.tables e below (s₁.setTop (mkF m 26 #[.val (.ref b1), .val (.ref b2), .val (.int (0 : Int32))] [])) _
    refine XS.iinc X0.here hx rfl (hb hby d3_26) rfl (l' := #[.val (.ref b1), .val (.ref b2), .val (.int ((0 : Int32) + (1 : Int32)))]) rfl ?_
    exact kt)
  have rw7 : ((0 : Int32) + (1 : Int32)) = (1 : Int32) := rfl
  rw [rw7] at pre6
  obtain ⟨cl8, Ar8, -, S8, N8, -, -⟩ := id A1
  obtain ⟨cl9, Ar9, -, S9, -, H9, -⟩ := id A1
  have hin9 : ¬ ((1 : Int32) < 0 ∨ cl9.slots.size ≤ ((1 : Int32)).toNatClampNeg) := inb_of S9 ⟨by decide, by decide⟩
  have hat9 : cl9.slots[((1 : Int32)).toNatClampNeg]? = some (.int v1) := H9 1 (by rw [S9]; decide)
  obtain ⟨cl10, Ar10, -, S10, -, H10, -⟩ := id A2
  have hin10 : ¬ ((1 : Int32) < 0 ∨ cl10.slots.size ≤ ((1 : Int32)).toNatClampNeg) := inb_of S10 ⟨by decide, by decide⟩
  have hat10 : cl10.slots[((1 : Int32)).toNatClampNeg]? = some (.int v1) := H10 1 (by rw [S10]; decide)
  have pre11 : ∀ tgt, Steps p.tables e below (s₁.setTop (mkF m 29 #[.val (.ref b1), .val (.ref b2), .val (.int ((1 : Int32) + (1 : Int32)))] [])) tgt → Steps p.tables e below (s₁.setTop (entryFrame m #[(.ref b1), (.ref b2)] 3)) tgt := fun tgt kt => pre6 _ (by
    show Steps p.tables e below (s₁.setTop (mkF m 29 #[.val (.ref b1), .val (.ref b2), .val (.int (1 : Int32))] [])) _
    refine XS.goto X0.here hx rfl (pc0 := 29) (pc' := 9) rfl (hb hby d3_29) (by decide) (by decide) ?_
    show Steps p.tables e below (s₁.setTop (mkF m 9 #[.val (.ref b1), .val (.ref b2), .val (.int (1 : Int32))] [])) _
    refine XS.iloadN X0.here hx rfl (hb hby d3_9) rfl ?_
    show Steps p.tables e below (s₁.setTop (mkF m 10 #[.val (.ref b1), .val (.ref b2), .val (.int (1 : Int32))] [(.int (1 : Int32))])) _
    refine XS.aloadN X0.here hx rfl (hb hby d3_10) rfl rfl ?_
    show Steps p.tables e below (s₁.setTop (mkF m 11 #[.val (.ref b1), .val (.ref b2), .val (.int (1 : Int32))] [(.ref b1), (.int (1 : Int32))])) _
    refine X0.arraylength hx (by rw [e0]; exact Ar8.1) (State.isArrayOf_alike hZ.alike Ar8.2.1) (g := (mkF m 11 #[.val (.ref b1), .val (.ref b2), .val (.int (1 : Int32))] [(.ref b1), (.int (1 : Int32))])) rfl rfl (hb hby d3_11) _ ?_
    rw [len_of S8 N8]
    show Steps p.tables e below (s₁.setTop (mkF m 12 #[.val (.ref b1), .val (.ref b2), .val (.int (1 : Int32))] [(.int (10 : Int32)), (.int (1 : Int32))])) _
    refine XS.icmpNo X0.here hx rfl (hb hby d3_12) rfl (tlt (by decide : (1 : Int32) < (10 : Int32))).2.1 ?_
    show Steps p.tables e below (s₁.setTop (mkF m 15 #[.val (.ref b1), .val (.ref b2), .val (.int (1 : Int32))] [])) _
    refine XS.aloadN X0.here hx rfl (hb hby d3_15) rfl rfl ?_
    show Steps p.tables e below (s₁.setTop (mkF m 16 #[.val (.ref b1), .val (.ref b2), .val (.int (1 : Int32))] [(.ref b1)])) _
    refine XS.iloadN X0.here hx rfl (hb hby d3_16) rfl ?_
    show Steps p.tables e below (s₁.setTop (mkF m 17 #[.val (.ref b1), .val (.ref b2), .val (.int (1 : Int32))] [(.int (1 : Int32)), (.ref b1)])) _
    refine X0.baloadBytes hx (j := (1 : Int32)) (v := (.int v1)) (by rw [e0]; exact Ar9.1) (State.isArrayOf_alike hZ.alike Ar9.2.1) Ar9.2.2 hin9 hat9 (g := (mkF m 17 #[.val (.ref b1), .val (.ref b2), .val (.int (1 : Int32))] [(.int (1 : Int32)), (.ref b1)])) rfl rfl (hb hby d3_17) _ ?_
    show Steps p.tables e below (s₁.setTop (mkF m 18 #[.val (.ref b1), .val (.ref b2), .val (.int (1 : Int32))] [(.int v1)])) _
    refine XS.aloadN X0.here hx rfl (hb hby d3_18) rfl rfl ?_
    show Steps p.tables e below (s₁.setTop (mkF m 19 #[.val (.ref b1), .val (.ref b2), .val (.int (1 : Int32))] [(.ref b2), (.int v1)])) _
    refine XS.iloadN X0.here hx rfl (hb hby d3_19) rfl ?_
    show Steps p.tables e below (s₁.setTop (mkF m 20 #[.val (.ref b1), .val (.ref b2), .val (.int (1 : Int32))] [(.int (1 : Int32)), (.ref b2), (.int v1)])) _
    refine X0.baloadBytes hx (j := (1 : Int32)) (v := (.int v1)) (by rw [e0]; exact Ar10.1) (State.isArrayOf_alike hZ.alike Ar10.2.1) Ar10.2.2 hin10 hat10 (g := (mkF m 20 #[.val (.ref b1), .val (.ref b2), .val (.int (1 : Int32))] [(.int (1 : Int32)), (.ref b2), (.int v1)])) rfl rfl (hb hby d3_20) _ ?_
    show Steps p.tables e below (s₁.setTop (mkF m 21 #[.val (.ref b1), .val (.ref b2), .val (.int (1 : Int32))] [(.int v1), (.int v1)])) _
    refine XS.icmpYes X0.here hx rfl (pc0 := 21) (pc' := 26) rfl (hb hby d3_21) rfl (teq (rfl : v1 = v1)).1 (by decide) (by decide) ?_
    show Steps p.tables e below (s₁.setTop (mkF m 26 #[.val (.ref b1), .val (.ref b2), .val (.int (1 : Int32))] [])) _
    refine XS.iinc X0.here hx rfl (hb hby d3_26) rfl (l' := #[.val (.ref b1), .val (.ref b2), .val (.int ((1 : Int32) + (1 : Int32)))]) rfl ?_
    exact kt)
  have rw12 : ((1 : Int32) + (1 : Int32)) = (2 : Int32) := rfl
  rw [rw12] at pre11
  obtain ⟨cl13, Ar13, -, S13, N13, -, -⟩ := id A1
  obtain ⟨cl14, Ar14, -, S14, -, H14, -⟩ := id A1
  have hin14 : ¬ ((2 : Int32) < 0 ∨ cl14.slots.size ≤ ((2 : Int32)).toNatClampNeg) := inb_of S14 ⟨by decide, by decide⟩
  have hat14 : cl14.slots[((2 : Int32)).toNatClampNeg]? = some (.int v2) := H14 2 (by rw [S14]; decide)
  obtain ⟨cl15, Ar15, -, S15, -, H15, -⟩ := id A2
  have hin15 : ¬ ((2 : Int32) < 0 ∨ cl15.slots.size ≤ ((2 : Int32)).toNatClampNeg) := inb_of S15 ⟨by decide, by decide⟩
  have hat15 : cl15.slots[((2 : Int32)).toNatClampNeg]? = some (.int v2) := H15 2 (by rw [S15]; decide)
  have pre16 : ∀ tgt, Steps p.tables e below (s₁.setTop (mkF m 29 #[.val (.ref b1), .val (.ref b2), .val (.int ((2 : Int32) + (1 : Int32)))] [])) tgt → Steps p.tables e below (s₁.setTop (entryFrame m #[(.ref b1), (.ref b2)] 3)) tgt := fun tgt kt => pre11 _ (by
    show Steps p.tables e below (s₁.setTop (mkF m 29 #[.val (.ref b1), .val (.ref b2), .val (.int (2 : Int32))] [])) _
    refine XS.goto X0.here hx rfl (pc0 := 29) (pc' := 9) rfl (hb hby d3_29) (by decide) (by decide) ?_
    show Steps p.tables e below (s₁.setTop (mkF m 9 #[.val (.ref b1), .val (.ref b2), .val (.int (2 : Int32))] [])) _
    refine XS.iloadN X0.here hx rfl (hb hby d3_9) rfl ?_
    show Steps p.tables e below (s₁.setTop (mkF m 10 #[.val (.ref b1), .val (.ref b2), .val (.int (2 : Int32))] [(.int (2 : Int32))])) _
    refine XS.aloadN X0.here hx rfl (hb hby d3_10) rfl rfl ?_
    show Steps p.tables e below (s₁.setTop (mkF m 11 #[.val (.ref b1), .val (.ref b2), .val (.int (2 : Int32))] [(.ref b1), (.int (2 : Int32))])) _
    refine X0.arraylength hx (by rw [e0]; exact Ar13.1) (State.isArrayOf_alike hZ.alike Ar13.2.1) (g := (mkF m 11 #[.val (.ref b1), .val (.ref b2), .val (.int (2 : Int32))] [(.ref b1), (.int (2 : Int32))])) rfl rfl (hb hby d3_11) _ ?_
    rw [len_of S13 N13]
    show Steps p.tables e below (s₁.setTop (mkF m 12 #[.val (.ref b1), .val (.ref b2), .val (.int (2 : Int32))] [(.int (10 : Int32)), (.int (2 : Int32))])) _
    refine XS.icmpNo X0.here hx rfl (hb hby d3_12) rfl (tlt (by decide : (2 : Int32) < (10 : Int32))).2.1 ?_
    show Steps p.tables e below (s₁.setTop (mkF m 15 #[.val (.ref b1), .val (.ref b2), .val (.int (2 : Int32))] [])) _
    refine XS.aloadN X0.here hx rfl (hb hby d3_15) rfl rfl ?_
    show Steps p.tables e below (s₁.setTop (mkF m 16 #[.val (.ref b1), .val (.ref b2), .val (.int (2 : Int32))] [(.ref b1)])) _
    refine XS.iloadN X0.here hx rfl (hb hby d3_16) rfl ?_
    show Steps p.tables e below (s₁.setTop (mkF m 17 #[.val (.ref b1), .val (.ref b2), .val (.int (2 : Int32))] [(.int (2 : Int32)), (.ref b1)])) _
    refine X0.baloadBytes hx (j := (2 : Int32)) (v := (.int v2)) (by rw [e0]; exact Ar14.1) (State.isArrayOf_alike hZ.alike Ar14.2.1) Ar14.2.2 hin14 hat14 (g := (mkF m 17 #[.val (.ref b1), .val (.ref b2), .val (.int (2 : Int32))] [(.int (2 : Int32)), (.ref b1)])) rfl rfl (hb hby d3_17) _ ?_
    show Steps p.tables e below (s₁.setTop (mkF m 18 #[.val (.ref b1), .val (.ref b2), .val (.int (2 : Int32))] [(.int v2)])) _
    refine XS.aloadN X0.here hx rfl (hb hby d3_18) rfl rfl ?_
    show Steps p.tables e below (s₁.setTop (mkF m 19 #[.val (.ref b1), .val (.ref b2), .val (.int (2 : Int32))] [(.ref b2), (.int v2)])) _
    refine XS.iloadN X0.here hx rfl (hb hby d3_19) rfl ?_
    show Steps p.tables e below (s₁.setTop (mkF m 20 #[.val (.ref b1), .val (.ref b2), .val (.int (2 : Int32))] [(.int (2 : Int32)), (.ref b2), (.int v2)])) _
    refine X0.baloadBytes hx (j := (2 : Int32)) (v := (.int v2)) (by rw [e0]; exact Ar15.1) (State.isArrayOf_alike hZ.alike Ar15.2.1) Ar15.2.2 hin15 hat15 (g := (mkF m 20 #[.val (.ref b1), .val (.ref b2), .val (.int (2 : Int32))] [(.int (2 : Int32)), (.ref b2), (.int v2)])) rfl rfl (hb hby d3_20) _ ?_
    show Steps p.tables e below (s₁.setTop (mkF m 21 #[.val (.ref b1), .val (.ref b2), .val (.int (2 : Int32))] [(.int v2), (.int v2)])) _
    refine XS.icmpYes X0.here hx rfl (pc0 := 21) (pc' := 26) rfl (hb hby d3_21) rfl (teq (rfl : v2 = v2)).1 (by decide) (by decide) ?_
    show Steps p.tables e below (s₁.setTop (mkF m 26 #[.val (.ref b1), .val (.ref b2), .val (.int (2 : Int32))] [])) _
    refine XS.iinc X0.here hx rfl (hb hby d3_26) rfl (l' := #[.val (.ref b1), .val (.ref b2), .val (.int ((2 : Int32) + (1 : Int32)))]) rfl ?_
    exact kt)
  have rw17 : ((2 : Int32) + (1 : Int32)) = (3 : Int32) := rfl
  rw [rw17] at pre16
  obtain ⟨cl18, Ar18, -, S18, N18, -, -⟩ := id A1
  obtain ⟨cl19, Ar19, -, S19, -, H19, -⟩ := id A1
  have hin19 : ¬ ((3 : Int32) < 0 ∨ cl19.slots.size ≤ ((3 : Int32)).toNatClampNeg) := inb_of S19 ⟨by decide, by decide⟩
  have hat19 : cl19.slots[((3 : Int32)).toNatClampNeg]? = some (.int v3) := H19 3 (by rw [S19]; decide)
  obtain ⟨cl20, Ar20, -, S20, -, H20, -⟩ := id A2
  have hin20 : ¬ ((3 : Int32) < 0 ∨ cl20.slots.size ≤ ((3 : Int32)).toNatClampNeg) := inb_of S20 ⟨by decide, by decide⟩
  have hat20 : cl20.slots[((3 : Int32)).toNatClampNeg]? = some (.int v3) := H20 3 (by rw [S20]; decide)
  have pre21 : ∀ tgt, Steps p.tables e below (s₁.setTop (mkF m 29 #[.val (.ref b1), .val (.ref b2), .val (.int ((3 : Int32) + (1 : Int32)))] [])) tgt → Steps p.tables e below (s₁.setTop (entryFrame m #[(.ref b1), (.ref b2)] 3)) tgt := fun tgt kt => pre16 _ (by
    show Steps p.tables e below (s₁.setTop (mkF m 29 #[.val (.ref b1), .val (.ref b2), .val (.int (3 : Int32))] [])) _
    refine XS.goto X0.here hx rfl (pc0 := 29) (pc' := 9) rfl (hb hby d3_29) (by decide) (by decide) ?_
    show Steps p.tables e below (s₁.setTop (mkF m 9 #[.val (.ref b1), .val (.ref b2), .val (.int (3 : Int32))] [])) _
    refine XS.iloadN X0.here hx rfl (hb hby d3_9) rfl ?_
    show Steps p.tables e below (s₁.setTop (mkF m 10 #[.val (.ref b1), .val (.ref b2), .val (.int (3 : Int32))] [(.int (3 : Int32))])) _
    refine XS.aloadN X0.here hx rfl (hb hby d3_10) rfl rfl ?_
    show Steps p.tables e below (s₁.setTop (mkF m 11 #[.val (.ref b1), .val (.ref b2), .val (.int (3 : Int32))] [(.ref b1), (.int (3 : Int32))])) _
    refine X0.arraylength hx (by rw [e0]; exact Ar18.1) (State.isArrayOf_alike hZ.alike Ar18.2.1) (g := (mkF m 11 #[.val (.ref b1), .val (.ref b2), .val (.int (3 : Int32))] [(.ref b1), (.int (3 : Int32))])) rfl rfl (hb hby d3_11) _ ?_
    rw [len_of S18 N18]
    show Steps p.tables e below (s₁.setTop (mkF m 12 #[.val (.ref b1), .val (.ref b2), .val (.int (3 : Int32))] [(.int (10 : Int32)), (.int (3 : Int32))])) _
    refine XS.icmpNo X0.here hx rfl (hb hby d3_12) rfl (tlt (by decide : (3 : Int32) < (10 : Int32))).2.1 ?_
    show Steps p.tables e below (s₁.setTop (mkF m 15 #[.val (.ref b1), .val (.ref b2), .val (.int (3 : Int32))] [])) _
    refine XS.aloadN X0.here hx rfl (hb hby d3_15) rfl rfl ?_
    show Steps p.tables e below (s₁.setTop (mkF m 16 #[.val (.ref b1), .val (.ref b2), .val (.int (3 : Int32))] [(.ref b1)])) _
    refine XS.iloadN X0.here hx rfl (hb hby d3_16) rfl ?_
    show Steps p.tables e below (s₁.setTop (mkF m 17 #[.val (.ref b1), .val (.ref b2), .val (.int (3 : Int32))] [(.int (3 : Int32)), (.ref b1)])) _
    refine X0.baloadBytes hx (j := (3 : Int32)) (v := (.int v3)) (by rw [e0]; exact Ar19.1) (State.isArrayOf_alike hZ.alike Ar19.2.1) Ar19.2.2 hin19 hat19 (g := (mkF m 17 #[.val (.ref b1), .val (.ref b2), .val (.int (3 : Int32))] [(.int (3 : Int32)), (.ref b1)])) rfl rfl (hb hby d3_17) _ ?_
    show Steps p.tables e below (s₁.setTop (mkF m 18 #[.val (.ref b1), .val (.ref b2), .val (.int (3 : Int32))] [(.int v3)])) _
    refine XS.aloadN X0.here hx rfl (hb hby d3_18) rfl rfl ?_
    show Steps p.tables e below (s₁.setTop (mkF m 19 #[.val (.ref b1), .val (.ref b2), .val (.int (3 : Int32))] [(.ref b2), (.int v3)])) _
    refine XS.iloadN X0.here hx rfl (hb hby d3_19) rfl ?_
    show Steps p.tables e below (s₁.setTop (mkF m 20 #[.val (.ref b1), .val (.ref b2), .val (.int (3 : Int32))] [(.int (3 : Int32)), (.ref b2), (.int v3)])) _
    refine X0.baloadBytes hx (j := (3 : Int32)) (v := (.int v3)) (by rw [e0]; exact Ar20.1) (State.isArrayOf_alike hZ.alike Ar20.2.1) Ar20.2.2 hin20 hat20 (g := (mkF m 20 #[.val (.ref b1), .val (.ref b2), .val (.int (3 : Int32))] [(.int (3 : Int32)), (.ref b2), (.int v3)])) rfl rfl (hb hby d3_20) _ ?_
    show Steps p.tables e below (s₁.setTop (mkF m 21 #[.val (.ref b1), .val (.ref b2), .val (.int (3 : Int32))] [(.int v3), (.int v3)])) _
    refine XS.icmpYes X0.here hx rfl (pc0 := 21) (pc' := 26) rfl (hb hby d3_21) rfl (teq (rfl : v3 = v3)).1 (by decide) (by decide) ?_
    show Steps p.tables e below (s₁.setTop (mkF m 26 #[.val (.ref b1), .val (.ref b2), .val (.int (3 : Int32))] [])) _
    refine XS.iinc X0.here hx rfl (hb hby d3_26) rfl (l' := #[.val (.ref b1), .val (.ref b2), .val (.int ((3 : Int32) + (1 : Int32)))]) rfl ?_
    exact kt)
  have rw22 : ((3 : Int32) + (1 : Int32)) = (4 : Int32) := rfl
  rw [rw22] at pre21
  obtain ⟨cl23, Ar23, -, S23, N23, -, -⟩ := id A1
  obtain ⟨cl24, Ar24, -, S24, -, H24, -⟩ := id A1
  have hin24 : ¬ ((4 : Int32) < 0 ∨ cl24.slots.size ≤ ((4 : Int32)).toNatClampNeg) := inb_of S24 ⟨by decide, by decide⟩
  have hat24 : cl24.slots[((4 : Int32)).toNatClampNeg]? = some (.int v4) := H24 4 (by rw [S24]; decide)
  obtain ⟨cl25, Ar25, -, S25, -, H25, -⟩ := id A2
  have hin25 : ¬ ((4 : Int32) < 0 ∨ cl25.slots.size ≤ ((4 : Int32)).toNatClampNeg) := inb_of S25 ⟨by decide, by decide⟩
  have hat25 : cl25.slots[((4 : Int32)).toNatClampNeg]? = some (.int v4) := H25 4 (by rw [S25]; decide)
  have pre26 : ∀ tgt, Steps p.tables e below (s₁.setTop (mkF m 29 #[.val (.ref b1), .val (.ref b2), .val (.int ((4 : Int32) + (1 : Int32)))] [])) tgt → Steps p.tables e below (s₁.setTop (entryFrame m #[(.ref b1), (.ref b2)] 3)) tgt := fun tgt kt => pre21 _ (by
    show Steps p.tables e below (s₁.setTop (mkF m 29 #[.val (.ref b1), .val (.ref b2), .val (.int (4 : Int32))] [])) _
    refine XS.goto X0.here hx rfl (pc0 := 29) (pc' := 9) rfl (hb hby d3_29) (by decide) (by decide) ?_
    show Steps p.tables e below (s₁.setTop (mkF m 9 #[.val (.ref b1), .val (.ref b2), .val (.int (4 : Int32))] [])) _
    refine XS.iloadN X0.here hx rfl (hb hby d3_9) rfl ?_
    show Steps p.tables e below (s₁.setTop (mkF m 10 #[.val (.ref b1), .val (.ref b2), .val (.int (4 : Int32))] [(.int (4 : Int32))])) _
    refine XS.aloadN X0.here hx rfl (hb hby d3_10) rfl rfl ?_
    show Steps p.tables e below (s₁.setTop (mkF m 11 #[.val (.ref b1), .val (.ref b2), .val (.int (4 : Int32))] [(.ref b1), (.int (4 : Int32))])) _
    refine X0.arraylength hx (by rw [e0]; exact Ar23.1) (State.isArrayOf_alike hZ.alike Ar23.2.1) (g := (mkF m 11 #[.val (.ref b1), .val (.ref b2), .val (.int (4 : Int32))] [(.ref b1), (.int (4 : Int32))])) rfl rfl (hb hby d3_11) _ ?_
    rw [len_of S23 N23]
    show Steps p.tables e below (s₁.setTop (mkF m 12 #[.val (.ref b1), .val (.ref b2), .val (.int (4 : Int32))] [(.int (10 : Int32)), (.int (4 : Int32))])) _
    refine XS.icmpNo X0.here hx rfl (hb hby d3_12) rfl (tlt (by decide : (4 : Int32) < (10 : Int32))).2.1 ?_
    show Steps p.tables e below (s₁.setTop (mkF m 15 #[.val (.ref b1), .val (.ref b2), .val (.int (4 : Int32))] [])) _
    refine XS.aloadN X0.here hx rfl (hb hby d3_15) rfl rfl ?_
    show Steps p.tables e below (s₁.setTop (mkF m 16 #[.val (.ref b1), .val (.ref b2), .val (.int (4 : Int32))] [(.ref b1)])) _
    refine XS.iloadN X0.here hx rfl (hb hby d3_16) rfl ?_
    show Steps p.tables e below (s₁.setTop (mkF m 17 #[.val (.ref b1), .val (.ref b2), .val (.int (4 : Int32))] [(.int (4 : Int32)), (.ref b1)])) _
    refine X0.baloadBytes hx (j := (4 : Int32)) (v := (.int v4)) (by rw [e0]; exact Ar24.1) (State.isArrayOf_alike hZ.alike Ar24.2.1) Ar24.2.2 hin24 hat24 (g := (mkF m 17 #[.val (.ref b1), .val (.ref b2), .val (.int (4 : Int32))] [(.int (4 : Int32)), (.ref b1)])) rfl rfl (hb hby d3_17) _ ?_
    show Steps p.tables e below (s₁.setTop (mkF m 18 #[.val (.ref b1), .val (.ref b2), .val (.int (4 : Int32))] [(.int v4)])) _
    refine XS.aloadN X0.here hx rfl (hb hby d3_18) rfl rfl ?_
    show Steps p.tables e below (s₁.setTop (mkF m 19 #[.val (.ref b1), .val (.ref b2), .val (.int (4 : Int32))] [(.ref b2), (.int v4)])) _
    refine XS.iloadN X0.here hx rfl (hb hby d3_19) rfl ?_
    show Steps p.tables e below (s₁.setTop (mkF m 20 #[.val (.ref b1), .val (.ref b2), .val (.int (4 : Int32))] [(.int (4 : Int32)), (.ref b2), (.int v4)])) _
    refine X0.baloadBytes hx (j := (4 : Int32)) (v := (.int v4)) (by rw [e0]; exact Ar25.1) (State.isArrayOf_alike hZ.alike Ar25.2.1) Ar25.2.2 hin25 hat25 (g := (mkF m 20 #[.val (.ref b1), .val (.ref b2), .val (.int (4 : Int32))] [(.int (4 : Int32)), (.ref b2), (.int v4)])) rfl rfl (hb hby d3_20) _ ?_
    show Steps p.tables e below (s₁.setTop (mkF m 21 #[.val (.ref b1), .val (.ref b2), .val (.int (4 : Int32))] [(.int v4), (.int v4)])) _
    refine XS.icmpYes X0.here hx rfl (pc0 := 21) (pc' := 26) rfl (hb hby d3_21) rfl (teq (rfl : v4 = v4)).1 (by decide) (by decide) ?_
    show Steps p.tables e below (s₁.setTop (mkF m 26 #[.val (.ref b1), .val (.ref b2), .val (.int (4 : Int32))] [])) _
    refine XS.iinc X0.here hx rfl (hb hby d3_26) rfl (l' := #[.val (.ref b1), .val (.ref b2), .val (.int ((4 : Int32) + (1 : Int32)))]) rfl ?_
    exact kt)
  have rw27 : ((4 : Int32) + (1 : Int32)) = (5 : Int32) := rfl
  rw [rw27] at pre26
  obtain ⟨cl28, Ar28, -, S28, N28, -, -⟩ := id A1
  obtain ⟨cl29, Ar29, -, S29, -, H29, -⟩ := id A1
  have hin29 : ¬ ((5 : Int32) < 0 ∨ cl29.slots.size ≤ ((5 : Int32)).toNatClampNeg) := inb_of S29 ⟨by decide, by decide⟩
  have hat29 : cl29.slots[((5 : Int32)).toNatClampNeg]? = some (.int v5) := H29 5 (by rw [S29]; decide)
  obtain ⟨cl30, Ar30, -, S30, -, H30, -⟩ := id A2
  have hin30 : ¬ ((5 : Int32) < 0 ∨ cl30.slots.size ≤ ((5 : Int32)).toNatClampNeg) := inb_of S30 ⟨by decide, by decide⟩
  have hat30 : cl30.slots[((5 : Int32)).toNatClampNeg]? = some (.int v5) := H30 5 (by rw [S30]; decide)
  have pre31 : ∀ tgt, Steps p.tables e below (s₁.setTop (mkF m 29 #[.val (.ref b1), .val (.ref b2), .val (.int ((5 : Int32) + (1 : Int32)))] [])) tgt → Steps p.tables e below (s₁.setTop (entryFrame m #[(.ref b1), (.ref b2)] 3)) tgt := fun tgt kt => pre26 _ (by
    show Steps p.tables e below (s₁.setTop (mkF m 29 #[.val (.ref b1), .val (.ref b2), .val (.int (5 : Int32))] [])) _
    refine XS.goto X0.here hx rfl (pc0 := 29) (pc' := 9) rfl (hb hby d3_29) (by decide) (by decide) ?_
    show Steps p.tables e below (s₁.setTop (mkF m 9 #[.val (.ref b1), .val (.ref b2), .val (.int (5 : Int32))] [])) _
    refine XS.iloadN X0.here hx rfl (hb hby d3_9) rfl ?_
    show Steps p.tables e below (s₁.setTop (mkF m 10 #[.val (.ref b1), .val (.ref b2), .val (.int (5 : Int32))] [(.int (5 : Int32))])) _
    refine XS.aloadN X0.here hx rfl (hb hby d3_10) rfl rfl ?_
    show Steps p.tables e below (s₁.setTop (mkF m 11 #[.val (.ref b1), .val (.ref b2), .val (.int (5 : Int32))] [(.ref b1), (.int (5 : Int32))])) _
    refine X0.arraylength hx (by rw [e0]; exact Ar28.1) (State.isArrayOf_alike hZ.alike Ar28.2.1) (g := (mkF m 11 #[.val (.ref b1), .val (.ref b2), .val (.int (5 : Int32))] [(.ref b1), (.int (5 : Int32))])) rfl rfl (hb hby d3_11) _ ?_
    rw [len_of S28 N28]
    show Steps p.tables e below (s₁.setTop (mkF m 12 #[.val (.ref b1), .val (.ref b2), .val (.int (5 : Int32))] [(.int (10 : Int32)), (.int (5 : Int32))])) _
    refine XS.icmpNo X0.here hx rfl (hb hby d3_12) rfl (tlt (by decide : (5 : Int32) < (10 : Int32))).2.1 ?_
    show Steps p.tables e below (s₁.setTop (mkF m 15 #[.val (.ref b1), .val (.ref b2), .val (.int (5 : Int32))] [])) _
    refine XS.aloadN X0.here hx rfl (hb hby d3_15) rfl rfl ?_
    show Steps p.tables e below (s₁.setTop (mkF m 16 #[.val (.ref b1), .val (.ref b2), .val (.int (5 : Int32))] [(.ref b1)])) _
    refine XS.iloadN X0.here hx rfl (hb hby d3_16) rfl ?_
    show Steps p.tables e below (s₁.setTop (mkF m 17 #[.val (.ref b1), .val (.ref b2), .val (.int (5 : Int32))] [(.int (5 : Int32)), (.ref b1)])) _
    refine X0.baloadBytes hx (j := (5 : Int32)) (v := (.int v5)) (by rw [e0]; exact Ar29.1) (State.isArrayOf_alike hZ.alike Ar29.2.1) Ar29.2.2 hin29 hat29 (g := (mkF m 17 #[.val (.ref b1), .val (.ref b2), .val (.int (5 : Int32))] [(.int (5 : Int32)), (.ref b1)])) rfl rfl (hb hby d3_17) _ ?_
    show Steps p.tables e below (s₁.setTop (mkF m 18 #[.val (.ref b1), .val (.ref b2), .val (.int (5 : Int32))] [(.int v5)])) _
    refine XS.aloadN X0.here hx rfl (hb hby d3_18) rfl rfl ?_
    show Steps p.tables e below (s₁.setTop (mkF m 19 #[.val (.ref b1), .val (.ref b2), .val (.int (5 : Int32))] [(.ref b2), (.int v5)])) _
    refine XS.iloadN X0.here hx rfl (hb hby d3_19) rfl ?_
    show Steps p.tables e below (s₁.setTop (mkF m 20 #[.val (.ref b1), .val (.ref b2), .val (.int (5 : Int32))] [(.int (5 : Int32)), (.ref b2), (.int v5)])) _
    refine X0.baloadBytes hx (j := (5 : Int32)) (v := (.int v5)) (by rw [e0]; exact Ar30.1) (State.isArrayOf_alike hZ.alike Ar30.2.1) Ar30.2.2 hin30 hat30 (g := (mkF m 20 #[.val (.ref b1), .val (.ref b2), .val (.int (5 : Int32))] [(.int (5 : Int32)), (.ref b2), (.int v5)])) rfl rfl (hb hby d3_20) _ ?_
    show Steps p.tables e below (s₁.setTop (mkF m 21 #[.val (.ref b1), .val (.ref b2), .val (.int (5 : Int32))] [(.int v5), (.int v5)])) _
    refine XS.icmpYes X0.here hx rfl (pc0 := 21) (pc' := 26) rfl (hb hby d3_21) rfl (teq (rfl : v5 = v5)).1 (by decide) (by decide) ?_
    show Steps p.tables e below (s₁.setTop (mkF m 26 #[.val (.ref b1), .val (.ref b2), .val (.int (5 : Int32))] [])) _
    refine XS.iinc X0.here hx rfl (hb hby d3_26) rfl (l' := #[.val (.ref b1), .val (.ref b2), .val (.int ((5 : Int32) + (1 : Int32)))]) rfl ?_
    exact kt)
  have rw32 : ((5 : Int32) + (1 : Int32)) = (6 : Int32) := rfl
  rw [rw32] at pre31
  obtain ⟨cl33, Ar33, -, S33, N33, -, -⟩ := id A1
  obtain ⟨cl34, Ar34, -, S34, -, H34, -⟩ := id A1
  have hin34 : ¬ ((6 : Int32) < 0 ∨ cl34.slots.size ≤ ((6 : Int32)).toNatClampNeg) := inb_of S34 ⟨by decide, by decide⟩
  have hat34 : cl34.slots[((6 : Int32)).toNatClampNeg]? = some (.int v6) := H34 6 (by rw [S34]; decide)
  obtain ⟨cl35, Ar35, -, S35, -, H35, -⟩ := id A2
  have hin35 : ¬ ((6 : Int32) < 0 ∨ cl35.slots.size ≤ ((6 : Int32)).toNatClampNeg) := inb_of S35 ⟨by decide, by decide⟩
  have hat35 : cl35.slots[((6 : Int32)).toNatClampNeg]? = some (.int v6) := H35 6 (by rw [S35]; decide)
  have pre36 : ∀ tgt, Steps p.tables e below (s₁.setTop (mkF m 29 #[.val (.ref b1), .val (.ref b2), .val (.int ((6 : Int32) + (1 : Int32)))] [])) tgt → Steps p.tables e below (s₁.setTop (entryFrame m #[(.ref b1), (.ref b2)] 3)) tgt := fun tgt kt => pre31 _ (by
    show Steps p.tables e below (s₁.setTop (mkF m 29 #[.val (.ref b1), .val (.ref b2), .val (.int (6 : Int32))] [])) _
    refine XS.goto X0.here hx rfl (pc0 := 29) (pc' := 9) rfl (hb hby d3_29) (by decide) (by decide) ?_
    show Steps p.tables e below (s₁.setTop (mkF m 9 #[.val (.ref b1), .val (.ref b2), .val (.int (6 : Int32))] [])) _
    refine XS.iloadN X0.here hx rfl (hb hby d3_9) rfl ?_
    show Steps p.tables e below (s₁.setTop (mkF m 10 #[.val (.ref b1), .val (.ref b2), .val (.int (6 : Int32))] [(.int (6 : Int32))])) _
    refine XS.aloadN X0.here hx rfl (hb hby d3_10) rfl rfl ?_
    show Steps p.tables e below (s₁.setTop (mkF m 11 #[.val (.ref b1), .val (.ref b2), .val (.int (6 : Int32))] [(.ref b1), (.int (6 : Int32))])) _
    refine X0.arraylength hx (by rw [e0]; exact Ar33.1) (State.isArrayOf_alike hZ.alike Ar33.2.1) (g := (mkF m 11 #[.val (.ref b1), .val (.ref b2), .val (.int (6 : Int32))] [(.ref b1), (.int (6 : Int32))])) rfl rfl (hb hby d3_11) _ ?_
    rw [len_of S33 N33]
    show Steps p.tables e below (s₁.setTop (mkF m 12 #[.val (.ref b1), .val (.ref b2), .val (.int (6 : Int32))] [(.int (10 : Int32)), (.int (6 : Int32))])) _
    refine XS.icmpNo X0.here hx rfl (hb hby d3_12) rfl (tlt (by decide : (6 : Int32) < (10 : Int32))).2.1 ?_
    show Steps p.tables e below (s₁.setTop (mkF m 15 #[.val (.ref b1), .val (.ref b2), .val (.int (6 : Int32))] [])) _
    refine XS.aloadN X0.here hx rfl (hb hby d3_15) rfl rfl ?_
    show Steps p.tables e below (s₁.setTop (mkF m 16 #[.val (.ref b1), .val (.ref b2), .val (.int (6 : Int32))] [(.ref b1)])) _
    refine XS.iloadN X0.here hx rfl (hb hby d3_16) rfl ?_
    show Steps p.tables e below (s₁.setTop (mkF m 17 #[.val (.ref b1), .val (.ref b2), .val (.int (6 : Int32))] [(.int (6 : Int32)), (.ref b1)])) _
    refine X0.baloadBytes hx (j := (6 : Int32)) (v := (.int v6)) (by rw [e0]; exact Ar34.1) (State.isArrayOf_alike hZ.alike Ar34.2.1) Ar34.2.2 hin34 hat34 (g := (mkF m 17 #[.val (.ref b1), .val (.ref b2), .val (.int (6 : Int32))] [(.int (6 : Int32)), (.ref b1)])) rfl rfl (hb hby d3_17) _ ?_
    show Steps p.tables e below (s₁.setTop (mkF m 18 #[.val (.ref b1), .val (.ref b2), .val (.int (6 : Int32))] [(.int v6)])) _
    refine XS.aloadN X0.here hx rfl (hb hby d3_18) rfl rfl ?_
    show Steps p.tables e below (s₁.setTop (mkF m 19 #[.val (.ref b1), .val (.ref b2), .val (.int (6 : Int32))] [(.ref b2), (.int v6)])) _
    refine XS.iloadN X0.here hx rfl (hb hby d3_19) rfl ?_
    show Steps p.tables e below (s₁.setTop (mkF m 20 #[.val (.ref b1), .val (.ref b2), .val (.int (6 : Int32))] [(.int (6 : Int32)), (.ref b2), (.int v6)])) _
    refine X0.baloadBytes hx (j := (6 : Int32)) (v := (.int v6)) (by rw [e0]; exact Ar35.1) (State.isArrayOf_alike hZ.alike Ar35.2.1) Ar35.2.2 hin35 hat35 (g := (mkF m 20 #[.val (.ref b1), .val (.ref b2), .val (.int (6 : Int32))] [(.int (6 : Int32)), (.ref b2), (.int v6)])) rfl rfl (hb hby d3_20) _ ?_
    show Steps p.tables e below (s₁.setTop (mkF m 21 #[.val (.ref b1), .val (.ref b2), .val (.int (6 : Int32))] [(.int v6), (.int v6)])) _
    refine XS.icmpYes X0.here hx rfl (pc0 := 21) (pc' := 26) rfl (hb hby d3_21) rfl (teq (rfl : v6 = v6)).1 (by decide) (by decide) ?_
    show Steps p.tables e below (s₁.setTop (mkF m 26 #[.val (.ref b1), .val (.ref b2), .val (.int (6 : Int32))] [])) _
    refine XS.iinc X0.here hx rfl (hb hby d3_26) rfl (l' := #[.val (.ref b1), .val (.ref b2), .val (.int ((6 : Int32) + (1 : Int32)))]) rfl ?_
    exact kt)
  have rw37 : ((6 : Int32) + (1 : Int32)) = (7 : Int32) := rfl
  rw [rw37] at pre36
  obtain ⟨cl38, Ar38, -, S38, N38, -, -⟩ := id A1
  obtain ⟨cl39, Ar39, -, S39, -, H39, -⟩ := id A1
  have hin39 : ¬ ((7 : Int32) < 0 ∨ cl39.slots.size ≤ ((7 : Int32)).toNatClampNeg) := inb_of S39 ⟨by decide, by decide⟩
  have hat39 : cl39.slots[((7 : Int32)).toNatClampNeg]? = some (.int v7) := H39 7 (by rw [S39]; decide)
  obtain ⟨cl40, Ar40, -, S40, -, H40, -⟩ := id A2
  have hin40 : ¬ ((7 : Int32) < 0 ∨ cl40.slots.size ≤ ((7 : Int32)).toNatClampNeg) := inb_of S40 ⟨by decide, by decide⟩
  have hat40 : cl40.slots[((7 : Int32)).toNatClampNeg]? = some (.int v7) := H40 7 (by rw [S40]; decide)
  have pre41 : ∀ tgt, Steps p.tables e below (s₁.setTop (mkF m 29 #[.val (.ref b1), .val (.ref b2), .val (.int ((7 : Int32) + (1 : Int32)))] [])) tgt → Steps p.tables e below (s₁.setTop (entryFrame m #[(.ref b1), (.ref b2)] 3)) tgt := fun tgt kt => pre36 _ (by
    show Steps p.tables e below (s₁.setTop (mkF m 29 #[.val (.ref b1), .val (.ref b2), .val (.int (7 : Int32))] [])) _
    refine XS.goto X0.here hx rfl (pc0 := 29) (pc' := 9) rfl (hb hby d3_29) (by decide) (by decide) ?_
    show Steps p.tables e below (s₁.setTop (mkF m 9 #[.val (.ref b1), .val (.ref b2), .val (.int (7 : Int32))] [])) _
    refine XS.iloadN X0.here hx rfl (hb hby d3_9) rfl ?_
    show Steps p.tables e below (s₁.setTop (mkF m 10 #[.val (.ref b1), .val (.ref b2), .val (.int (7 : Int32))] [(.int (7 : Int32))])) _
    refine XS.aloadN X0.here hx rfl (hb hby d3_10) rfl rfl ?_
    show Steps p.tables e below (s₁.setTop (mkF m 11 #[.val (.ref b1), .val (.ref b2), .val (.int (7 : Int32))] [(.ref b1), (.int (7 : Int32))])) _
    refine X0.arraylength hx (by rw [e0]; exact Ar38.1) (State.isArrayOf_alike hZ.alike Ar38.2.1) (g := (mkF m 11 #[.val (.ref b1), .val (.ref b2), .val (.int (7 : Int32))] [(.ref b1), (.int (7 : Int32))])) rfl rfl (hb hby d3_11) _ ?_
    rw [len_of S38 N38]
    show Steps p.tables e below (s₁.setTop (mkF m 12 #[.val (.ref b1), .val (.ref b2), .val (.int (7 : Int32))] [(.int (10 : Int32)), (.int (7 : Int32))])) _
    refine XS.icmpNo X0.here hx rfl (hb hby d3_12) rfl (tlt (by decide : (7 : Int32) < (10 : Int32))).2.1 ?_
    show Steps p.tables e below (s₁.setTop (mkF m 15 #[.val (.ref b1), .val (.ref b2), .val (.int (7 : Int32))] [])) _
    refine XS.aloadN X0.here hx rfl (hb hby d3_15) rfl rfl ?_
    show Steps p.tables e below (s₁.setTop (mkF m 16 #[.val (.ref b1), .val (.ref b2), .val (.int (7 : Int32))] [(.ref b1)])) _
    refine XS.iloadN X0.here hx rfl (hb hby d3_16) rfl ?_
    show Steps p.tables e below (s₁.setTop (mkF m 17 #[.val (.ref b1), .val (.ref b2), .val (.int (7 : Int32))] [(.int (7 : Int32)), (.ref b1)])) _
    refine X0.baloadBytes hx (j := (7 : Int32)) (v := (.int v7)) (by rw [e0]; exact Ar39.1) (State.isArrayOf_alike hZ.alike Ar39.2.1) Ar39.2.2 hin39 hat39 (g := (mkF m 17 #[.val (.ref b1), .val (.ref b2), .val (.int (7 : Int32))] [(.int (7 : Int32)), (.ref b1)])) rfl rfl (hb hby d3_17) _ ?_
    show Steps p.tables e below (s₁.setTop (mkF m 18 #[.val (.ref b1), .val (.ref b2), .val (.int (7 : Int32))] [(.int v7)])) _
    refine XS.aloadN X0.here hx rfl (hb hby d3_18) rfl rfl ?_
    show Steps p.tables e below (s₁.setTop (mkF m 19 #[.val (.ref b1), .val (.ref b2), .val (.int (7 : Int32))] [(.ref b2), (.int v7)])) _
    refine XS.iloadN X0.here hx rfl (hb hby d3_19) rfl ?_
    show Steps p.tables e below (s₁.setTop (mkF m 20 #[.val (.ref b1), .val (.ref b2), .val (.int (7 : Int32))] [(.int (7 : Int32)), (.ref b2), (.int v7)])) _
    refine X0.baloadBytes hx (j := (7 : Int32)) (v := (.int v7)) (by rw [e0]; exact Ar40.1) (State.isArrayOf_alike hZ.alike Ar40.2.1) Ar40.2.2 hin40 hat40 (g := (mkF m 20 #[.val (.ref b1), .val (.ref b2), .val (.int (7 : Int32))] [(.int (7 : Int32)), (.ref b2), (.int v7)])) rfl rfl (hb hby d3_20) _ ?_
    show Steps p.tables e below (s₁.setTop (mkF m 21 #[.val (.ref b1), .val (.ref b2), .val (.int (7 : Int32))] [(.int v7), (.int v7)])) _
    refine XS.icmpYes X0.here hx rfl (pc0 := 21) (pc' := 26) rfl (hb hby d3_21) rfl (teq (rfl : v7 = v7)).1 (by decide) (by decide) ?_
    show Steps p.tables e below (s₁.setTop (mkF m 26 #[.val (.ref b1), .val (.ref b2), .val (.int (7 : Int32))] [])) _
    refine XS.iinc X0.here hx rfl (hb hby d3_26) rfl (l' := #[.val (.ref b1), .val (.ref b2), .val (.int ((7 : Int32) + (1 : Int32)))]) rfl ?_
    exact kt)
  have rw42 : ((7 : Int32) + (1 : Int32)) = (8 : Int32) := rfl
  rw [rw42] at pre41
  obtain ⟨cl43, Ar43, -, S43, N43, -, -⟩ := id A1
  obtain ⟨cl44, Ar44, -, S44, -, H44, -⟩ := id A1
  have hin44 : ¬ ((8 : Int32) < 0 ∨ cl44.slots.size ≤ ((8 : Int32)).toNatClampNeg) := inb_of S44 ⟨by decide, by decide⟩
  have hat44 : cl44.slots[((8 : Int32)).toNatClampNeg]? = some (.int v8) := H44 8 (by rw [S44]; decide)
  obtain ⟨cl45, Ar45, -, S45, -, H45, -⟩ := id A2
  have hin45 : ¬ ((8 : Int32) < 0 ∨ cl45.slots.size ≤ ((8 : Int32)).toNatClampNeg) := inb_of S45 ⟨by decide, by decide⟩
  have hat45 : cl45.slots[((8 : Int32)).toNatClampNeg]? = some (.int v8) := H45 8 (by rw [S45]; decide)
  have pre46 : ∀ tgt, Steps p.tables e below (s₁.setTop (mkF m 29 #[.val (.ref b1), .val (.ref b2), .val (.int ((8 : Int32) + (1 : Int32)))] [])) tgt → Steps p.tables e below (s₁.setTop (entryFrame m #[(.ref b1), (.ref b2)] 3)) tgt := fun tgt kt => pre41 _ (by
    show Steps p.tables e below (s₁.setTop (mkF m 29 #[.val (.ref b1), .val (.ref b2), .val (.int (8 : Int32))] [])) _
    refine XS.goto X0.here hx rfl (pc0 := 29) (pc' := 9) rfl (hb hby d3_29) (by decide) (by decide) ?_
    show Steps p.tables e below (s₁.setTop (mkF m 9 #[.val (.ref b1), .val (.ref b2), .val (.int (8 : Int32))] [])) _
    refine XS.iloadN X0.here hx rfl (hb hby d3_9) rfl ?_
    show Steps p.tables e below (s₁.setTop (mkF m 10 #[.val (.ref b1), .val (.ref b2), .val (.int (8 : Int32))] [(.int (8 : Int32))])) _
    refine XS.aloadN X0.here hx rfl (hb hby d3_10) rfl rfl ?_
    show Steps p.tables e below (s₁.setTop (mkF m 11 #[.val (.ref b1), .val (.ref b2), .val (.int (8 : Int32))] [(.ref b1), (.int (8 : Int32))])) _
    refine X0.arraylength hx (by rw [e0]; exact Ar43.1) (State.isArrayOf_alike hZ.alike Ar43.2.1) (g := (mkF m 11 #[.val (.ref b1), .val (.ref b2), .val (.int (8 : Int32))] [(.ref b1), (.int (8 : Int32))])) rfl rfl (hb hby d3_11) _ ?_
    rw [len_of S43 N43]
    show Steps p.tables e below (s₁.setTop (mkF m 12 #[.val (.ref b1), .val (.ref b2), .val (.int (8 : Int32))] [(.int (10 : Int32)), (.int (8 : Int32))])) _
    refine XS.icmpNo X0.here hx rfl (hb hby d3_12) rfl (tlt (by decide : (8 : Int32) < (10 : Int32))).2.1 ?_
    show Steps p.tables e below (s₁.setTop (mkF m 15 #[.val (.ref b1), .val (.ref b2), .val (.int (8 : Int32))] [])) _
    refine XS.aloadN X0.here hx rfl (hb hby d3_15) rfl rfl ?_
    show Steps p.tables e below (s₁.setTop (mkF m 16 #[.val (.ref b1), .val (.ref b2), .val (.int (8 : Int32))] [(.ref b1)])) _
    refine XS.iloadN X0.here hx rfl (hb hby d3_16) rfl ?_
    show Steps p.tables e below (s₁.setTop (mkF m 17 #[.val (.ref b1), .val (.ref b2), .val (.int (8 : Int32))] [(.int (8 : Int32)), (.ref b1)])) _
    refine X0.baloadBytes hx (j := (8 : Int32)) (v := (.int v8)) (by rw [e0]; exact Ar44.1) (State.isArrayOf_alike hZ.alike Ar44.2.1) Ar44.2.2 hin44 hat44 (g := (mkF m 17 #[.val (.ref b1), .val (.ref b2), .val (.int (8 : Int32))] [(.int (8 : Int32)), (.ref b1)])) rfl rfl (hb hby d3_17) _ ?_
    show Steps p.tables e below (s₁.setTop (mkF m 18 #[.val (.ref b1), .val (.ref b2), .val (.int (8 : Int32))] [(.int v8)])) _
    refine XS.aloadN X0.here hx rfl (hb hby d3_18) rfl rfl ?_
    show Steps p.tables e below (s₁.setTop (mkF m 19 #[.val (.ref b1), .val (.ref b2), .val (.int (8 : Int32))] [(.ref b2), (.int v8)])) _
    refine XS.iloadN X0.here hx rfl (hb hby d3_19) rfl ?_
    show Steps p.tables e below (s₁.setTop (mkF m 20 #[.val (.ref b1), .val (.ref b2), .val (.int (8 : Int32))] [(.int (8 : Int32)), (.ref b2), (.int v8)])) _
    refine X0.baloadBytes hx (j := (8 : Int32)) (v := (.int v8)) (by rw [e0]; exact Ar45.1) (State.isArrayOf_alike hZ.alike Ar45.2.1) Ar45.2.2 hin45 hat45 (g := (mkF m 20 #[.val (.ref b1), .val (.ref b2), .val (.int (8 : Int32))] [(.int (8 : Int32)), (.ref b2), (.int v8)])) rfl rfl (hb hby d3_20) _ ?_
    show Steps p.tables e below (s₁.setTop (mkF m 21 #[.val (.ref b1), .val (.ref b2), .val (.int (8 : Int32))] [(.int v8), (.int v8)])) _
    refine XS.icmpYes X0.here hx rfl (pc0 := 21) (pc' := 26) rfl (hb hby d3_21) rfl (teq (rfl : v8 = v8)).1 (by decide) (by decide) ?_
    show Steps p.tables e below (s₁.setTop (mkF m 26 #[.val (.ref b1), .val (.ref b2), .val (.int (8 : Int32))] [])) _
    refine XS.iinc X0.here hx rfl (hb hby d3_26) rfl (l' := #[.val (.ref b1), .val (.ref b2), .val (.int ((8 : Int32) + (1 : Int32)))]) rfl ?_
    exact kt)
  have rw47 : ((8 : Int32) + (1 : Int32)) = (9 : Int32) := rfl
  rw [rw47] at pre46
  obtain ⟨cl48, Ar48, -, S48, N48, -, -⟩ := id A1
  obtain ⟨cl49, Ar49, -, S49, -, H49, -⟩ := id A1
  have hin49 : ¬ ((9 : Int32) < 0 ∨ cl49.slots.size ≤ ((9 : Int32)).toNatClampNeg) := inb_of S49 ⟨by decide, by decide⟩
  have hat49 : cl49.slots[((9 : Int32)).toNatClampNeg]? = some (.int v9) := H49 9 (by rw [S49]; decide)
  obtain ⟨cl50, Ar50, -, S50, -, H50, -⟩ := id A2
  have hin50 : ¬ ((9 : Int32) < 0 ∨ cl50.slots.size ≤ ((9 : Int32)).toNatClampNeg) := inb_of S50 ⟨by decide, by decide⟩
  have hat50 : cl50.slots[((9 : Int32)).toNatClampNeg]? = some (.int v9) := H50 9 (by rw [S50]; decide)
  have pre51 : ∀ tgt, Steps p.tables e below (s₁.setTop (mkF m 29 #[.val (.ref b1), .val (.ref b2), .val (.int ((9 : Int32) + (1 : Int32)))] [])) tgt → Steps p.tables e below (s₁.setTop (entryFrame m #[(.ref b1), (.ref b2)] 3)) tgt := fun tgt kt => pre46 _ (by
    show Steps p.tables e below (s₁.setTop (mkF m 29 #[.val (.ref b1), .val (.ref b2), .val (.int (9 : Int32))] [])) _
    refine XS.goto X0.here hx rfl (pc0 := 29) (pc' := 9) rfl (hb hby d3_29) (by decide) (by decide) ?_
    show Steps p.tables e below (s₁.setTop (mkF m 9 #[.val (.ref b1), .val (.ref b2), .val (.int (9 : Int32))] [])) _
    refine XS.iloadN X0.here hx rfl (hb hby d3_9) rfl ?_
    show Steps p.tables e below (s₁.setTop (mkF m 10 #[.val (.ref b1), .val (.ref b2), .val (.int (9 : Int32))] [(.int (9 : Int32))])) _
    refine XS.aloadN X0.here hx rfl (hb hby d3_10) rfl rfl ?_
    show Steps p.tables e below (s₁.setTop (mkF m 11 #[.val (.ref b1), .val (.ref b2), .val (.int (9 : Int32))] [(.ref b1), (.int (9 : Int32))])) _
    refine X0.arraylength hx (by rw [e0]; exact Ar48.1) (State.isArrayOf_alike hZ.alike Ar48.2.1) (g := (mkF m 11 #[.val (.ref b1), .val (.ref b2), .val (.int (9 : Int32))] [(.ref b1), (.int (9 : Int32))])) rfl rfl (hb hby d3_11) _ ?_
    rw [len_of S48 N48]
    show Steps p.tables e below (s₁.setTop (mkF m 12 #[.val (.ref b1), .val (.ref b2), .val (.int (9 : Int32))] [(.int (10 : Int32)), (.int (9 : Int32))])) _
    refine XS.icmpNo X0.here hx rfl (hb hby d3_12) rfl (tlt (by decide : (9 : Int32) < (10 : Int32))).2.1 ?_
    show Steps p.tables e below (s₁.setTop (mkF m 15 #[.val (.ref b1), .val (.ref b2), .val (.int (9 : Int32))] [])) _
    refine XS.aloadN X0.here hx rfl (hb hby d3_15) rfl rfl ?_
    show Steps p.tables e below (s₁.setTop (mkF m 16 #[.val (.ref b1), .val (.ref b2), .val (.int (9 : Int32))] [(.ref b1)])) _
    refine XS.iloadN X0.here hx rfl (hb hby d3_16) rfl ?_
    show Steps p.tables e below (s₁.setTop (mkF m 17 #[.val (.ref b1), .val (.ref b2), .val (.int (9 : Int32))] [(.int (9 : Int32)), (.ref b1)])) _
    refine X0.baloadBytes hx (j := (9 : Int32)) (v := (.int v9)) (by rw [e0]; exact Ar49.1) (State.isArrayOf_alike hZ.alike Ar49.2.1) Ar49.2.2 hin49 hat49 (g := (mkF m 17 #[.val (.ref b1), .val (.ref b2), .val (.int (9 : Int32))] [(.int (9 : Int32)), (.ref b1)])) rfl rfl (hb hby d3_17) _ ?_
    show Steps p.tables e below (s₁.setTop (mkF m 18 #[.val (.ref b1), .val (.ref b2), .val (.int (9 : Int32))] [(.int v9)])) _
    refine XS.aloadN X0.here hx rfl (hb hby d3_18) rfl rfl ?_
    show Steps p.tables e below (s₁.setTop (mkF m 19 #[.val (.ref b1), .val (.ref b2), .val (.int (9 : Int32))] [(.ref b2), (.int v9)])) _
    refine XS.iloadN X0.here hx rfl (hb hby d3_19) rfl ?_
    show Steps p.tables e below (s₁.setTop (mkF m 20 #[.val (.ref b1), .val (.ref b2), .val (.int (9 : Int32))] [(.int (9 : Int32)), (.ref b2), (.int v9)])) _
    refine X0.baloadBytes hx (j := (9 : Int32)) (v := (.int v9)) (by rw [e0]; exact Ar50.1) (State.isArrayOf_alike hZ.alike Ar50.2.1) Ar50.2.2 hin50 hat50 (g := (mkF m 20 #[.val (.ref b1), .val (.ref b2), .val (.int (9 : Int32))] [(.int (9 : Int32)), (.ref b2), (.int v9)])) rfl rfl (hb hby d3_20) _ ?_
    show Steps p.tables e below (s₁.setTop (mkF m 21 #[.val (.ref b1), .val (.ref b2), .val (.int (9 : Int32))] [(.int v9), (.int v9)])) _
    refine XS.icmpYes X0.here hx rfl (pc0 := 21) (pc' := 26) rfl (hb hby d3_21) rfl (teq (rfl : v9 = v9)).1 (by decide) (by decide) ?_
    show Steps p.tables e below (s₁.setTop (mkF m 26 #[.val (.ref b1), .val (.ref b2), .val (.int (9 : Int32))] [])) _
    refine XS.iinc X0.here hx rfl (hb hby d3_26) rfl (l' := #[.val (.ref b1), .val (.ref b2), .val (.int ((9 : Int32) + (1 : Int32)))]) rfl ?_
    exact kt)
  have rw52 : ((9 : Int32) + (1 : Int32)) = (10 : Int32) := rfl
  rw [rw52] at pre51
  obtain ⟨cl53, Ar53, -, S53, N53, -, -⟩ := id A1
  obtain ⟨fs, hr, hrun, hended, hW, hsame⟩ := X0.leave (v := some (.int (1 : Int32))) (fun h => by rw [Bd.returns] at h; cases h)
  refine ⟨_, _, pre51 _ ?_, hrun, hended, _, _, rfl, ?_, ⟨_, rfl⟩, hW, hsame.mono (by decide) (by decide)⟩
  · show Steps p.tables e below (s₁.setTop (mkF m 29 #[.val (.ref b1), .val (.ref b2), .val (.int (10 : Int32))] [])) _
    refine XS.goto X0.here hx rfl (pc0 := 29) (pc' := 9) rfl (hb hby d3_29) (by decide) (by decide) ?_
    show Steps p.tables e below (s₁.setTop (mkF m 9 #[.val (.ref b1), .val (.ref b2), .val (.int (10 : Int32))] [])) _
    refine XS.iloadN X0.here hx rfl (hb hby d3_9) rfl ?_
    show Steps p.tables e below (s₁.setTop (mkF m 10 #[.val (.ref b1), .val (.ref b2), .val (.int (10 : Int32))] [(.int (10 : Int32))])) _
    refine XS.aloadN X0.here hx rfl (hb hby d3_10) rfl rfl ?_
    show Steps p.tables e below (s₁.setTop (mkF m 11 #[.val (.ref b1), .val (.ref b2), .val (.int (10 : Int32))] [(.ref b1), (.int (10 : Int32))])) _
    refine X0.arraylength hx (by rw [e0]; exact Ar53.1) (State.isArrayOf_alike hZ.alike Ar53.2.1) (g := (mkF m 11 #[.val (.ref b1), .val (.ref b2), .val (.int (10 : Int32))] [(.ref b1), (.int (10 : Int32))])) rfl rfl (hb hby d3_11) _ ?_
    rw [len_of S53 N53]
    show Steps p.tables e below (s₁.setTop (mkF m 12 #[.val (.ref b1), .val (.ref b2), .val (.int (10 : Int32))] [(.int (10 : Int32)), (.int (10 : Int32))])) _
    refine XS.icmpYes X0.here hx rfl (pc0 := 12) (pc' := 32) rfl (hb hby d3_12) rfl (flt (by decide : ¬ ((10 : Int32) < (10 : Int32)))).2.1 (by decide) (by decide) ?_
    show Steps p.tables e below (s₁.setTop (mkF m 32 #[.val (.ref b1), .val (.ref b2), .val (.int (10 : Int32))] [])) _
    refine XS.iconst X0.here hx rfl (hb hby d3_32) ?_
    show Steps p.tables e below (s₁.setTop (mkF m 33 #[.val (.ref b1), .val (.ref b2), .val (.int (10 : Int32))] [(.int (1 : Int32))])) _
    exact retN X0 hx (t := .boolean) Bd.returns (by simp) (hb hby d3_33) hr
  · show Q3e10 Z b1 b2 k1 k2 v0 v1 v2 v3 v4 v5 v6 v7 v8 v9 h0 n0 _ s₁.heap _
    rw [e0]
    exact ⟨rfl, N0, rfl⟩
theorem ef_rm3e6 (m : MethodId) (x0 : Addr) (x1 : Addr) : entryFrame m #[(.ref x0), (.ref x1)] 3 = mkF m 0 #[.val (.ref x0), .val (.ref x1), .unset] [] := by first | (simp [entryFrame, mkF, argsToLocals, Value.category]; done) | rfl
def Q3e6 (Z : State) (b1 : Addr) (b2 : Addr) (k1 k2 : ClassId) (v0 v1 v2 v3 v4 v5 : Int32) (h0 : Heap) (n0 : Nat) (v : Option Value) (h : Heap) (L : List Loc) : Prop := v = some (.int (1 : Int32)) ∧ Fr n0 L ∧ h = h0
set_option maxHeartbeats 40000000 in
theorem rm3e6 (l : Launch) (Z : State) (a0 : Array Value) (hw : ∀ d ∈ tables_1, d.before a0 Z = true) (ws : List Jvm.Cond) (b1 : Addr) (b2 : Addr) (k1 k2 : ClassId) (v0 v1 v2 v3 v4 v5 : Int32) (h0 : Heap) (n0 : Nat) (Z0 : n0 ≤ h0.size) (A1 : Arv Z h0 b1 k1 .byte (6 : Int32) [(.int v0), (.int v1), (.int v2), (.int v3), (.int v4), (.int v5)] (.int (0 : Int32))) (A2 : Arv Z h0 b2 k2 .byte (6 : Int32) [(.int v0), (.int v1), (.int v2), (.int v3), (.int v4), (.int v5)] (.int (0 : Int32))) :
    MetFree l (⟨"java/lang/StringLatin1", "equals", "([B[B)Z"⟩ : MethodName) (head1 (Jvm.Cond.code (⟨"java/lang/StringLatin1", "equals", "([B[B)Z"⟩ : MethodName) jdk_43_method_13_code 3 (some .boolean) :: ws) ({ frames := 0, cells := 0, slots := 0, locals := 0 } : Room)) (fun a U => a = #[(.ref b1), (.ref b2)] ∧ Z.Warmed39 U.vm ∧ U.heap = h0) (fun _ _ _ _ _ => True) (fun _ U o U' => ∃ v L, o = .returned v ∧ Q3e6 Z b1 b2 k1 k2 v0 v1 v2 v3 v4 v5 h0 n0 v U'.heap L ∧ FrameEnd U o U' L ({ frames := 0, cells := 0, slots := 0, locals := 0 } : Room).cells ({ frames := 0, cells := 0, slots := 0, locals := 0 } : Room).slots) := by
  refine MetFree.of_bodySF (plainFor_of_name pn_0) hisR ?_
  intro p e s m args below meth c s₁ Bd hml0 hP hK
  obtain ⟨rfl, hZ, hh⟩ := hP
  have hx := Bd.exec
  have hby := Bd.bytes
  have hml : c.maxLocals = 3 := hml0
  have hown : s.vm.findClass "java/lang/StringLatin1" = some m.cls := findClass_of_methodNamed Bd.named
  have hnm := (name_of_methodNamed Bd.named Bd.method).1
  have X0 : Stand p l e ({ frames := 0, cells := 0, slots := 0, locals := 0 } : Room) s m #[(.ref b1), (.ref b2)] below meth c s₁ [] 0 0 := Stand.of_body Bd
  have e0 : s₁.heap = h0 := by rw [← hh, Bd.state]; rfl
  have N0 := Fr.nil n0
  have pre0 : ∀ tgt, Steps p.tables e below (s₁.setTop (mkF m 0 #[.val (.ref b1), .val (.ref b2), .unset] [])) tgt → Steps p.tables e below (s₁.setTop (entryFrame m #[(.ref b1), (.ref b2)] 3)) tgt := fun tgt k => castTop (ef_rm3e6 m b1 b2) k
  obtain ⟨cl1, Ar1, -, S1, N1, -, -⟩ := id A1
  obtain ⟨cl2, Ar2, -, S2, N2, -, -⟩ := id A2
  obtain ⟨cl3, Ar3, -, S3, N3, -, -⟩ := id A1
  obtain ⟨cl4, Ar4, -, S4, -, H4, -⟩ := id A1
  have hin4 : ¬ ((0 : Int32) < 0 ∨ cl4.slots.size ≤ ((0 : Int32)).toNatClampNeg) := inb_of S4 ⟨by decide, by decide⟩
  have hat4 : cl4.slots[((0 : Int32)).toNatClampNeg]? = some (.int v0) := H4 0 (by rw [S4]; decide)
  obtain ⟨cl5, Ar5, -, S5, -, H5, -⟩ := id A2
  have hin5 : ¬ ((0 : Int32) < 0 ∨ cl5.slots.size ≤ ((0 : Int32)).toNatClampNeg) := inb_of S5 ⟨by decide, by decide⟩
  have hat5 : cl5.slots[((0 : Int32)).toNatClampNeg]? = some (.int v0) := H5 0 (by rw [S5]; decide)
  have pre6 : ∀ tgt, Steps p.tables e below (s₁.setTop (mkF m 29 #[.val (.ref b1), .val (.ref b2), .val (.int ((0 : Int32) + (1 : Int32)))] [])) tgt → Steps p.tables e below (s₁.setTop (entryFrame m #[(.ref b1), (.ref b2)] 3)) tgt := fun tgt kt => pre0 _ (by
    show Steps p.tables e below (s₁.setTop (mkF m 0 #[.val (.ref b1), .val (.ref b2), .unset] [])) _
    refine XS.aloadN X0.here hx rfl (hb hby d3_0) rfl rfl ?_
    show Steps p.tables e below (s₁.setTop (mkF m 1 #[.val (.ref b1), .val (.ref b2), .unset] [(.ref b1)])) _
    refine X0.arraylength hx (by rw [e0]; exact Ar1.1) (State.isArrayOf_alike hZ.alike Ar1.2.1) (g := (mkF m 1 #[.val (.ref b1), .val (.ref b2), .unset] [(.ref b1)])) rfl rfl (hb hby d3_1) _ ?_
    rw [len_of S1 N1]
    show Steps p.tables e below (s₁.setTop (mkF m 2 #[.val (.ref b1), .val (.ref b2), .unset] [(.int (6 : Int32))])) _
    refine XS.aloadN X0.here hx rfl (hb hby d3_2) rfl rfl ?_
    show Steps p.tables e below (s₁.setTop (mkF m 3 #[.val (.ref b1), .val (.ref b2), .unset] [(.ref b2), (.int (6 : Int32))])) _
    refine X0.arraylength hx (by rw [e0]; exact Ar2.1) (State.isArrayOf_alike hZ.alike Ar2.2.1) (g := (mkF m 3 #[.val (.ref b1), .val (.ref b2), .unset] [(.ref b2), (.int (6 : Int32))])) rfl rfl (hb hby d3_3) _ ?_
    rw [len_of S2 N2]
    show Steps p.tables e below (s₁.setTop (mkF m 4 #[.val (.ref b1), .val (.ref b2), .unset] [(.int (6 : Int32)), (.int (6 : Int32))])) _
    refine XS.icmpNo X0.here hx rfl (hb hby d3_4) rfl (teq (rfl : (6 : Int32) = (6 : Int32))).2 ?_
    show Steps p.tables e below (s₁.setTop (mkF m 7 #[.val (.ref b1), .val (.ref b2), .unset] [])) _
    refine XS.iconst X0.here hx rfl (hb hby d3_7) ?_
    show Steps p.tables e below (s₁.setTop (mkF m 8 #[.val (.ref b1), .val (.ref b2), .unset] [(.int (0 : Int32))])) _
    refine XS.istoreN X0.here hx rfl (hb hby d3_8) rfl (l' := #[.val (.ref b1), .val (.ref b2), .val (.int (0 : Int32))]) rfl ?_
    show Steps p.tables e below (s₁.setTop (mkF m 9 #[.val (.ref b1), .val (.ref b2), .val (.int (0 : Int32))] [])) _
    refine XS.iloadN X0.here hx rfl (hb hby d3_9) rfl ?_
    show Steps p.tables e below (s₁.setTop (mkF m 10 #[.val (.ref b1), .val (.ref b2), .val (.int (0 : Int32))] [(.int (0 : Int32))])) _
    refine XS.aloadN X0.here hx rfl (hb hby d3_10) rfl rfl ?_
    show Steps p.tables e below (s₁.setTop (mkF m 11 #[.val (.ref b1), .val (.ref b2), .val (.int (0 : Int32))] [(.ref b1), (.int (0 : Int32))])) _
    refine X0.arraylength hx (by rw [e0]; exact Ar3.1) (State.isArrayOf_alike hZ.alike Ar3.2.1) (g := (mkF m 11 #[.val (.ref b1), .val (.ref b2), .val (.int (0 : Int32))] [(.ref b1), (.int (0 : Int32))])) rfl rfl (hb hby d3_11) _ ?_
    rw [len_of S3 N3]
    show Steps p.tables e below (s₁.setTop (mkF m 12 #[.val (.ref b1), .val (.ref b2), .val (.int (0 : Int32))] [(.int (6 : Int32)), (.int (0 : Int32))])) _
    refine XS.icmpNo X0.here hx rfl (hb hby d3_12) rfl (tlt (by decide : (0 : Int32) < (6 : Int32))).2.1 ?_
    show Steps p.tables e below (s₁.setTop (mkF m 15 #[.val (.ref b1), .val (.ref b2), .val (.int (0 : Int32))] [])) _
    refine XS.aloadN X0.here hx rfl (hb hby d3_15) rfl rfl ?_
    show Steps p.tables e below (s₁.setTop (mkF m 16 #[.val (.ref b1), .val (.ref b2), .val (.int (0 : Int32))] [(.ref b1)])) _
    refine XS.iloadN X0.here hx rfl (hb hby d3_16) rfl ?_
    show Steps p.tables e below (s₁.setTop (mkF m 17 #[.val (.ref b1), .val (.ref b2), .val (.int (0 : Int32))] [(.int (0 : Int32)), (.ref b1)])) _
    refine X0.baloadBytes hx (j := (0 : Int32)) (v := (.int v0)) (by rw [e0]; exact Ar4.1) (State.isArrayOf_alike hZ.alike Ar4.2.1) Ar4.2.2 hin4 hat4 (g := (mkF m 17 #[.val (.ref b1), .val (.ref b2), .val (.int (0 : Int32))] [(.int (0 : Int32)), (.ref b1)])) rfl rfl (hb hby d3_17) _ ?_
    show Steps p.tables e below (s₁.setTop (mkF m 18 #[.val (.ref b1), .val (.ref b2), .val (.int (0 : Int32))] [(.int v0)])) _
    refine XS.aloadN X0.here hx rfl (hb hby d3_18) rfl rfl ?_
    show Steps p.tables e below (s₁.setTop (mkF m 19 #[.val (.ref b1), .val (.ref b2), .val (.int (0 : Int32))] [(.ref b2), (.int v0)])) _
    refine XS.iloadN X0.here hx rfl (hb hby d3_19) rfl ?_
    show Steps p.tables e below (s₁.setTop (mkF m 20 #[.val (.ref b1), .val (.ref b2), .val (.int (0 : Int32))] [(.int (0 : Int32)), (.ref b2), (.int v0)])) _
    refine X0.baloadBytes hx (j := (0 : Int32)) (v := (.int v0)) (by rw [e0]; exact Ar5.1) (State.isArrayOf_alike hZ.alike Ar5.2.1) Ar5.2.2 hin5 hat5 (g := (mkF m 20 #[.val (.ref b1), .val (.ref b2), .val (.int (0 : Int32))] [(.int (0 : Int32)), (.ref b2), (.int v0)])) rfl rfl (hb hby d3_20) _ ?_
    show Steps p.tables e below (s₁.setTop (mkF m 21 #[.val (.ref b1), .val (.ref b2), .val (.int (0 : Int32))] [(.int v0), (.int v0)])) _
    refine XS.icmpYes X0.here hx rfl (pc0 := 21) (pc' := 26) rfl (hb hby d3_21) rfl (teq (rfl : v0 = v0)).1 (by decide) (by decide) ?_
    show Steps p.tables e below (s₁.setTop (mkF m 26 #[.val (.ref b1), .val (.ref b2), .val (.int (0 : Int32))] [])) _
    refine XS.iinc X0.here hx rfl (hb hby d3_26) rfl (l' := #[.val (.ref b1), .val (.ref b2), .val (.int ((0 : Int32) + (1 : Int32)))]) rfl ?_
    exact kt)
  have rw7 : ((0 : Int32) + (1 : Int32)) = (1 : Int32) := rfl
  rw [rw7] at pre6
  obtain ⟨cl8, Ar8, -, S8, N8, -, -⟩ := id A1
  obtain ⟨cl9, Ar9, -, S9, -, H9, -⟩ := id A1
  have hin9 : ¬ ((1 : Int32) < 0 ∨ cl9.slots.size ≤ ((1 : Int32)).toNatClampNeg) := inb_of S9 ⟨by decide, by decide⟩
  have hat9 : cl9.slots[((1 : Int32)).toNatClampNeg]? = some (.int v1) := H9 1 (by rw [S9]; decide)
  obtain ⟨cl10, Ar10, -, S10, -, H10, -⟩ := id A2
  have hin10 : ¬ ((1 : Int32) < 0 ∨ cl10.slots.size ≤ ((1 : Int32)).toNatClampNeg) := inb_of S10 ⟨by decide, by decide⟩
  have hat10 : cl10.slots[((1 : Int32)).toNatClampNeg]? = some (.int v1) := H10 1 (by rw [S10]; decide)
  have pre11 : ∀ tgt, Steps p.tables e below (s₁.setTop (mkF m 29 #[.val (.ref b1), .val (.ref b2), .val (.int ((1 : Int32) + (1 : Int32)))] [])) tgt → Steps p.tables e below (s₁.setTop (entryFrame m #[(.ref b1), (.ref b2)] 3)) tgt := fun tgt kt => pre6 _ (by
    show Steps p.tables e below (s₁.setTop (mkF m 29 #[.val (.ref b1), .val (.ref b2), .val (.int (1 : Int32))] [])) _
    refine XS.goto X0.here hx rfl (pc0 := 29) (pc' := 9) rfl (hb hby d3_29) (by decide) (by decide) ?_
    show Steps p.tables e below (s₁.setTop (mkF m 9 #[.val (.ref b1), .val (.ref b2), .val (.int (1 : Int32))] [])) _
    refine XS.iloadN X0.here hx rfl (hb hby d3_9) rfl ?_
    show Steps p.tables e below (s₁.setTop (mkF m 10 #[.val (.ref b1), .val (.ref b2), .val (.int (1 : Int32))] [(.int (1 : Int32))])) _
    refine XS.aloadN X0.here hx rfl (hb hby d3_10) rfl rfl ?_
    show Steps p.tables e below (s₁.setTop (mkF m 11 #[.val (.ref b1), .val (.ref b2), .val (.int (1 : Int32))] [(.ref b1), (.int (1 : Int32))])) _
    refine X0.arraylength hx (by rw [e0]; exact Ar8.1) (State.isArrayOf_alike hZ.alike Ar8.2.1) (g := (mkF m 11 #[.val (.ref b1), .val (.ref b2), .val (.int (1 : Int32))] [(.ref b1), (.int (1 : Int32))])) rfl rfl (hb hby d3_11) _ ?_
    rw [len_of S8 N8]
    show Steps p.tables e below (s₁.setTop (mkF m 12 #[.val (.ref b1), .val (.ref b2), .val (.int (1 : Int32))] [(.int (6 : Int32)), (.int (1 : Int32))])) _
    refine XS.icmpNo X0.here hx rfl (hb hby d3_12) rfl (tlt (by decide : (1 : Int32) < (6 : Int32))).2.1 ?_
    show Steps p.tables e below (s₁.setTop (mkF m 15 #[.val (.ref b1), .val (.ref b2), .val (.int (1 : Int32))] [])) _
    refine XS.aloadN X0.here hx rfl (hb hby d3_15) rfl rfl ?_
    show Steps p.tables e below (s₁.setTop (mkF m 16 #[.val (.ref b1), .val (.ref b2), .val (.int (1 : Int32))] [(.ref b1)])) _
    refine XS.iloadN X0.here hx rfl (hb hby d3_16) rfl ?_
    show Steps p.tables e below (s₁.setTop (mkF m 17 #[.val (.ref b1), .val (.ref b2), .val (.int (1 : Int32))] [(.int (1 : Int32)), (.ref b1)])) _
    refine X0.baloadBytes hx (j := (1 : Int32)) (v := (.int v1)) (by rw [e0]; exact Ar9.1) (State.isArrayOf_alike hZ.alike Ar9.2.1) Ar9.2.2 hin9 hat9 (g := (mkF m 17 #[.val (.ref b1), .val (.ref b2), .val (.int (1 : Int32))] [(.int (1 : Int32)), (.ref b1)])) rfl rfl (hb hby d3_17) _ ?_
    show Steps p.tables e below (s₁.setTop (mkF m 18 #[.val (.ref b1), .val (.ref b2), .val (.int (1 : Int32))] [(.int v1)])) _
    refine XS.aloadN X0.here hx rfl (hb hby d3_18) rfl rfl ?_
    show Steps p.tables e below (s₁.setTop (mkF m 19 #[.val (.ref b1), .val (.ref b2), .val (.int (1 : Int32))] [(.ref b2), (.int v1)])) _
    refine XS.iloadN X0.here hx rfl (hb hby d3_19) rfl ?_
    show Steps p.tables e below (s₁.setTop (mkF m 20 #[.val (.ref b1), .val (.ref b2), .val (.int (1 : Int32))] [(.int (1 : Int32)), (.ref b2), (.int v1)])) _
    refine X0.baloadBytes hx (j := (1 : Int32)) (v := (.int v1)) (by rw [e0]; exact Ar10.1) (State.isArrayOf_alike hZ.alike Ar10.2.1) Ar10.2.2 hin10 hat10 (g := (mkF m 20 #[.val (.ref b1), .val (.ref b2), .val (.int (1 : Int32))] [(.int (1 : Int32)), (.ref b2), (.int v1)])) rfl rfl (hb hby d3_20) _ ?_
    show Steps p.tables e below (s₁.setTop (mkF m 21 #[.val (.ref b1), .val (.ref b2), .val (.int (1 : Int32))] [(.int v1), (.int v1)])) _
    refine XS.icmpYes X0.here hx rfl (pc0 := 21) (pc' := 26) rfl (hb hby d3_21) rfl (teq (rfl : v1 = v1)).1 (by decide) (by decide) ?_
    show Steps p.tables e below (s₁.setTop (mkF m 26 #[.val (.ref b1), .val (.ref b2), .val (.int (1 : Int32))] [])) _
    refine XS.iinc X0.here hx rfl (hb hby d3_26) rfl (l' := #[.val (.ref b1), .val (.ref b2), .val (.int ((1 : Int32) + (1 : Int32)))]) rfl ?_
    exact kt)
  have rw12 : ((1 : Int32) + (1 : Int32)) = (2 : Int32) := rfl
  rw [rw12] at pre11
  obtain ⟨cl13, Ar13, -, S13, N13, -, -⟩ := id A1
  obtain ⟨cl14, Ar14, -, S14, -, H14, -⟩ := id A1
  have hin14 : ¬ ((2 : Int32) < 0 ∨ cl14.slots.size ≤ ((2 : Int32)).toNatClampNeg) := inb_of S14 ⟨by decide, by decide⟩
  have hat14 : cl14.slots[((2 : Int32)).toNatClampNeg]? = some (.int v2) := H14 2 (by rw [S14]; decide)
  obtain ⟨cl15, Ar15, -, S15, -, H15, -⟩ := id A2
  have hin15 : ¬ ((2 : Int32) < 0 ∨ cl15.slots.size ≤ ((2 : Int32)).toNatClampNeg) := inb_of S15 ⟨by decide, by decide⟩
  have hat15 : cl15.slots[((2 : Int32)).toNatClampNeg]? = some (.int v2) := H15 2 (by rw [S15]; decide)
  have pre16 : ∀ tgt, Steps p.tables e below (s₁.setTop (mkF m 29 #[.val (.ref b1), .val (.ref b2), .val (.int ((2 : Int32) + (1 : Int32)))] [])) tgt → Steps p.tables e below (s₁.setTop (entryFrame m #[(.ref b1), (.ref b2)] 3)) tgt := fun tgt kt => pre11 _ (by
    show Steps p.tables e below (s₁.setTop (mkF m 29 #[.val (.ref b1), .val (.ref b2), .val (.int (2 : Int32))] [])) _
    refine XS.goto X0.here hx rfl (pc0 := 29) (pc' := 9) rfl (hb hby d3_29) (by decide) (by decide) ?_
    show Steps p.tables e below (s₁.setTop (mkF m 9 #[.val (.ref b1), .val (.ref b2), .val (.int (2 : Int32))] [])) _
    refine XS.iloadN X0.here hx rfl (hb hby d3_9) rfl ?_
    show Steps p.tables e below (s₁.setTop (mkF m 10 #[.val (.ref b1), .val (.ref b2), .val (.int (2 : Int32))] [(.int (2 : Int32))])) _
    refine XS.aloadN X0.here hx rfl (hb hby d3_10) rfl rfl ?_
    show Steps p.tables e below (s₁.setTop (mkF m 11 #[.val (.ref b1), .val (.ref b2), .val (.int (2 : Int32))] [(.ref b1), (.int (2 : Int32))])) _
    refine X0.arraylength hx (by rw [e0]; exact Ar13.1) (State.isArrayOf_alike hZ.alike Ar13.2.1) (g := (mkF m 11 #[.val (.ref b1), .val (.ref b2), .val (.int (2 : Int32))] [(.ref b1), (.int (2 : Int32))])) rfl rfl (hb hby d3_11) _ ?_
    rw [len_of S13 N13]
    show Steps p.tables e below (s₁.setTop (mkF m 12 #[.val (.ref b1), .val (.ref b2), .val (.int (2 : Int32))] [(.int (6 : Int32)), (.int (2 : Int32))])) _
    refine XS.icmpNo X0.here hx rfl (hb hby d3_12) rfl (tlt (by decide : (2 : Int32) < (6 : Int32))).2.1 ?_
    show Steps p.tables e below (s₁.setTop (mkF m 15 #[.val (.ref b1), .val (.ref b2), .val (.int (2 : Int32))] [])) _
    refine XS.aloadN X0.here hx rfl (hb hby d3_15) rfl rfl ?_
    show Steps p.tables e below (s₁.setTop (mkF m 16 #[.val (.ref b1), .val (.ref b2), .val (.int (2 : Int32))] [(.ref b1)])) _
    refine XS.iloadN X0.here hx rfl (hb hby d3_16) rfl ?_
    show Steps p.tables e below (s₁.setTop (mkF m 17 #[.val (.ref b1), .val (.ref b2), .val (.int (2 : Int32))] [(.int (2 : Int32)), (.ref b1)])) _
    refine X0.baloadBytes hx (j := (2 : Int32)) (v := (.int v2)) (by rw [e0]; exact Ar14.1) (State.isArrayOf_alike hZ.alike Ar14.2.1) Ar14.2.2 hin14 hat14 (g := (mkF m 17 #[.val (.ref b1), .val (.ref b2), .val (.int (2 : Int32))] [(.int (2 : Int32)), (.ref b1)])) rfl rfl (hb hby d3_17) _ ?_
    show Steps p.tables e below (s₁.setTop (mkF m 18 #[.val (.ref b1), .val (.ref b2), .val (.int (2 : Int32))] [(.int v2)])) _
    refine XS.aloadN X0.here hx rfl (hb hby d3_18) rfl rfl ?_
    show Steps p.tables e below (s₁.setTop (mkF m 19 #[.val (.ref b1), .val (.ref b2), .val (.int (2 : Int32))] [(.ref b2), (.int v2)])) _
    refine XS.iloadN X0.here hx rfl (hb hby d3_19) rfl ?_
    show Steps p.tables e below (s₁.setTop (mkF m 20 #[.val (.ref b1), .val (.ref b2), .val (.int (2 : Int32))] [(.int (2 : Int32)), (.ref b2), (.int v2)])) _
    refine X0.baloadBytes hx (j := (2 : Int32)) (v := (.int v2)) (by rw [e0]; exact Ar15.1) (State.isArrayOf_alike hZ.alike Ar15.2.1) Ar15.2.2 hin15 hat15 (g := (mkF m 20 #[.val (.ref b1), .val (.ref b2), .val (.int (2 : Int32))] [(.int (2 : Int32)), (.ref b2), (.int v2)])) rfl rfl (hb hby d3_20) _ ?_
    show Steps p.tables e below (s₁.setTop (mkF m 21 #[.val (.ref b1), .val (.ref b2), .val (.int (2 : Int32))] [(.int v2), (.int v2)])) _
    refine XS.icmpYes X0.here hx rfl (pc0 := 21) (pc' := 26) rfl (hb hby d3_21) rfl (teq (rfl : v2 = v2)).1 (by decide) (by decide) ?_
    show Steps p.tables e below (s₁.setTop (mkF m 26 #[.val (.ref b1), .val (.ref b2), .val (.int (2 : Int32))] [])) _
    refine XS.iinc X0.here hx rfl (hb hby d3_26) rfl (l' := #[.val (.ref b1), .val (.ref b2), .val (.int ((2 : Int32) + (1 : Int32)))]) rfl ?_
    exact kt)
  have rw17 : ((2 : Int32) + (1 : Int32)) = (3 : Int32) := rfl
  rw [rw17] at pre16
  obtain ⟨cl18, Ar18, -, S18, N18, -, -⟩ := id A1
  obtain ⟨cl19, Ar19, -, S19, -, H19, -⟩ := id A1
  have hin19 : ¬ ((3 : Int32) < 0 ∨ cl19.slots.size ≤ ((3 : Int32)).toNatClampNeg) := inb_of S19 ⟨by decide, by decide⟩
  have hat19 : cl19.slots[((3 : Int32)).toNatClampNeg]? = some (.int v3) := H19 3 (by rw [S19]; decide)
  obtain ⟨cl20, Ar20, -, S20, -, H20, -⟩ := id A2
  have hin20 : ¬ ((3 : Int32) < 0 ∨ cl20.slots.size ≤ ((3 : Int32)).toNatClampNeg) := inb_of S20 ⟨by decide, by decide⟩
  have hat20 : cl20.slots[((3 : Int32)).toNatClampNeg]? = some (.int v3) := H20 3 (by rw [S20]; decide)
  have pre21 : ∀ tgt, Steps p.tables e below (s₁.setTop (mkF m 29 #[.val (.ref b1), .val (.ref b2), .val (.int ((3 : Int32) + (1 : Int32)))] [])) tgt → Steps p.tables e below (s₁.setTop (entryFrame m #[(.ref b1), (.ref b2)] 3)) tgt := fun tgt kt => pre16 _ (by
    show Steps p.tables e below (s₁.setTop (mkF m 29 #[.val (.ref b1), .val (.ref b2), .val (.int (3 : Int32))] [])) _
    refine XS.goto X0.here hx rfl (pc0 := 29) (pc' := 9) rfl (hb hby d3_29) (by decide) (by decide) ?_
    show Steps p.tables e below (s₁.setTop (mkF m 9 #[.val (.ref b1), .val (.ref b2), .val (.int (3 : Int32))] [])) _
    refine XS.iloadN X0.here hx rfl (hb hby d3_9) rfl ?_
    show Steps p.tables e below (s₁.setTop (mkF m 10 #[.val (.ref b1), .val (.ref b2), .val (.int (3 : Int32))] [(.int (3 : Int32))])) _
    refine XS.aloadN X0.here hx rfl (hb hby d3_10) rfl rfl ?_
    show Steps p.tables e below (s₁.setTop (mkF m 11 #[.val (.ref b1), .val (.ref b2), .val (.int (3 : Int32))] [(.ref b1), (.int (3 : Int32))])) _
    refine X0.arraylength hx (by rw [e0]; exact Ar18.1) (State.isArrayOf_alike hZ.alike Ar18.2.1) (g := (mkF m 11 #[.val (.ref b1), .val (.ref b2), .val (.int (3 : Int32))] [(.ref b1), (.int (3 : Int32))])) rfl rfl (hb hby d3_11) _ ?_
    rw [len_of S18 N18]
    show Steps p.tables e below (s₁.setTop (mkF m 12 #[.val (.ref b1), .val (.ref b2), .val (.int (3 : Int32))] [(.int (6 : Int32)), (.int (3 : Int32))])) _
    refine XS.icmpNo X0.here hx rfl (hb hby d3_12) rfl (tlt (by decide : (3 : Int32) < (6 : Int32))).2.1 ?_
    show Steps p.tables e below (s₁.setTop (mkF m 15 #[.val (.ref b1), .val (.ref b2), .val (.int (3 : Int32))] [])) _
    refine XS.aloadN X0.here hx rfl (hb hby d3_15) rfl rfl ?_
    show Steps p.tables e below (s₁.setTop (mkF m 16 #[.val (.ref b1), .val (.ref b2), .val (.int (3 : Int32))] [(.ref b1)])) _
    refine XS.iloadN X0.here hx rfl (hb hby d3_16) rfl ?_
    show Steps p.tables e below (s₁.setTop (mkF m 17 #[.val (.ref b1), .val (.ref b2), .val (.int (3 : Int32))] [(.int (3 : Int32)), (.ref b1)])) _
    refine X0.baloadBytes hx (j := (3 : Int32)) (v := (.int v3)) (by rw [e0]; exact Ar19.1) (State.isArrayOf_alike hZ.alike Ar19.2.1) Ar19.2.2 hin19 hat19 (g := (mkF m 17 #[.val (.ref b1), .val (.ref b2), .val (.int (3 : Int32))] [(.int (3 : Int32)), (.ref b1)])) rfl rfl (hb hby d3_17) _ ?_
    show Steps p.tables e below (s₁.setTop (mkF m 18 #[.val (.ref b1), .val (.ref b2), .val (.int (3 : Int32))] [(.int v3)])) _
    refine XS.aloadN X0.here hx rfl (hb hby d3_18) rfl rfl ?_
    show Steps p.tables e below (s₁.setTop (mkF m 19 #[.val (.ref b1), .val (.ref b2), .val (.int (3 : Int32))] [(.ref b2), (.int v3)])) _
    refine XS.iloadN X0.here hx rfl (hb hby d3_19) rfl ?_
    show Steps p.tables e below (s₁.setTop (mkF m 20 #[.val (.ref b1), .val (.ref b2), .val (.int (3 : Int32))] [(.int (3 : Int32)), (.ref b2), (.int v3)])) _
    refine X0.baloadBytes hx (j := (3 : Int32)) (v := (.int v3)) (by rw [e0]; exact Ar20.1) (State.isArrayOf_alike hZ.alike Ar20.2.1) Ar20.2.2 hin20 hat20 (g := (mkF m 20 #[.val (.ref b1), .val (.ref b2), .val (.int (3 : Int32))] [(.int (3 : Int32)), (.ref b2), (.int v3)])) rfl rfl (hb hby d3_20) _ ?_
    show Steps p.tables e below (s₁.setTop (mkF m 21 #[.val (.ref b1), .val (.ref b2), .val (.int (3 : Int32))] [(.int v3), (.int v3)])) _
    refine XS.icmpYes X0.here hx rfl (pc0 := 21) (pc' := 26) rfl (hb hby d3_21) rfl (teq (rfl : v3 = v3)).1 (by decide) (by decide) ?_
    show Steps p.tables e below (s₁.setTop (mkF m 26 #[.val (.ref b1), .val (.ref b2), .val (.int (3 : Int32))] [])) _
    refine XS.iinc X0.here hx rfl (hb hby d3_26) rfl (l' := #[.val (.ref b1), .val (.ref b2), .val (.int ((3 : Int32) + (1 : Int32)))]) rfl ?_
    exact kt)
  have rw22 : ((3 : Int32) + (1 : Int32)) = (4 : Int32) := rfl
  rw [rw22] at pre21
  obtain ⟨cl23, Ar23, -, S23, N23, -, -⟩ := id A1
  obtain ⟨cl24, Ar24, -, S24, -, H24, -⟩ := id A1
  have hin24 : ¬ ((4 : Int32) < 0 ∨ cl24.slots.size ≤ ((4 : Int32)).toNatClampNeg) := inb_of S24 ⟨by decide, by decide⟩
  have hat24 : cl24.slots[((4 : Int32)).toNatClampNeg]? = some (.int v4) := H24 4 (by rw [S24]; decide)
  obtain ⟨cl25, Ar25, -, S25, -, H25, -⟩ := id A2
  have hin25 : ¬ ((4 : Int32) < 0 ∨ cl25.slots.size ≤ ((4 : Int32)).toNatClampNeg) := inb_of S25 ⟨by decide, by decide⟩
  have hat25 : cl25.slots[((4 : Int32)).toNatClampNeg]? = some (.int v4) := H25 4 (by rw [S25]; decide)
  have pre26 : ∀ tgt, Steps p.tables e below (s₁.setTop (mkF m 29 #[.val (.ref b1), .val (.ref b2), .val (.int ((4 : Int32) + (1 : Int32)))] [])) tgt → Steps p.tables e below (s₁.setTop (entryFrame m #[(.ref b1), (.ref b2)] 3)) tgt := fun tgt kt => pre21 _ (by
    show Steps p.tables e below (s₁.setTop (mkF m 29 #[.val (.ref b1), .val (.ref b2), .val (.int (4 : Int32))] [])) _
    refine XS.goto X0.here hx rfl (pc0 := 29) (pc' := 9) rfl (hb hby d3_29) (by decide) (by decide) ?_
    show Steps p.tables e below (s₁.setTop (mkF m 9 #[.val (.ref b1), .val (.ref b2), .val (.int (4 : Int32))] [])) _
    refine XS.iloadN X0.here hx rfl (hb hby d3_9) rfl ?_
    show Steps p.tables e below (s₁.setTop (mkF m 10 #[.val (.ref b1), .val (.ref b2), .val (.int (4 : Int32))] [(.int (4 : Int32))])) _
    refine XS.aloadN X0.here hx rfl (hb hby d3_10) rfl rfl ?_
    show Steps p.tables e below (s₁.setTop (mkF m 11 #[.val (.ref b1), .val (.ref b2), .val (.int (4 : Int32))] [(.ref b1), (.int (4 : Int32))])) _
    refine X0.arraylength hx (by rw [e0]; exact Ar23.1) (State.isArrayOf_alike hZ.alike Ar23.2.1) (g := (mkF m 11 #[.val (.ref b1), .val (.ref b2), .val (.int (4 : Int32))] [(.ref b1), (.int (4 : Int32))])) rfl rfl (hb hby d3_11) _ ?_
    rw [len_of S23 N23]
    show Steps p.tables e below (s₁.setTop (mkF m 12 #[.val (.ref b1), .val (.ref b2), .val (.int (4 : Int32))] [(.int (6 : Int32)), (.int (4 : Int32))])) _
    refine XS.icmpNo X0.here hx rfl (hb hby d3_12) rfl (tlt (by decide : (4 : Int32) < (6 : Int32))).2.1 ?_
    show Steps p.tables e below (s₁.setTop (mkF m 15 #[.val (.ref b1), .val (.ref b2), .val (.int (4 : Int32))] [])) _
    refine XS.aloadN X0.here hx rfl (hb hby d3_15) rfl rfl ?_
    show Steps p.tables e below (s₁.setTop (mkF m 16 #[.val (.ref b1), .val (.ref b2), .val (.int (4 : Int32))] [(.ref b1)])) _
    refine XS.iloadN X0.here hx rfl (hb hby d3_16) rfl ?_
    show Steps p.tables e below (s₁.setTop (mkF m 17 #[.val (.ref b1), .val (.ref b2), .val (.int (4 : Int32))] [(.int (4 : Int32)), (.ref b1)])) _
    refine X0.baloadBytes hx (j := (4 : Int32)) (v := (.int v4)) (by rw [e0]; exact Ar24.1) (State.isArrayOf_alike hZ.alike Ar24.2.1) Ar24.2.2 hin24 hat24 (g := (mkF m 17 #[.val (.ref b1), .val (.ref b2), .val (.int (4 : Int32))] [(.int (4 : Int32)), (.ref b1)])) rfl rfl (hb hby d3_17) _ ?_
    show Steps p.tables e below (s₁.setTop (mkF m 18 #[.val (.ref b1), .val (.ref b2), .val (.int (4 : Int32))] [(.int v4)])) _
    refine XS.aloadN X0.here hx rfl (hb hby d3_18) rfl rfl ?_
    show Steps p.tables e below (s₁.setTop (mkF m 19 #[.val (.ref b1), .val (.ref b2), .val (.int (4 : Int32))] [(.ref b2), (.int v4)])) _
    refine XS.iloadN X0.here hx rfl (hb hby d3_19) rfl ?_
    show Steps p.tables e below (s₁.setTop (mkF m 20 #[.val (.ref b1), .val (.ref b2), .val (.int (4 : Int32))] [(.int (4 : Int32)), (.ref b2), (.int v4)])) _
    refine X0.baloadBytes hx (j := (4 : Int32)) (v := (.int v4)) (by rw [e0]; exact Ar25.1) (State.isArrayOf_alike hZ.alike Ar25.2.1) Ar25.2.2 hin25 hat25 (g := (mkF m 20 #[.val (.ref b1), .val (.ref b2), .val (.int (4 : Int32))] [(.int (4 : Int32)), (.ref b2), (.int v4)])) rfl rfl (hb hby d3_20) _ ?_
    show Steps p.tables e below (s₁.setTop (mkF m 21 #[.val (.ref b1), .val (.ref b2), .val (.int (4 : Int32))] [(.int v4), (.int v4)])) _
    refine XS.icmpYes X0.here hx rfl (pc0 := 21) (pc' := 26) rfl (hb hby d3_21) rfl (teq (rfl : v4 = v4)).1 (by decide) (by decide) ?_
    show Steps p.tables e below (s₁.setTop (mkF m 26 #[.val (.ref b1), .val (.ref b2), .val (.int (4 : Int32))] [])) _
    refine XS.iinc X0.here hx rfl (hb hby d3_26) rfl (l' := #[.val (.ref b1), .val (.ref b2), .val (.int ((4 : Int32) + (1 : Int32)))]) rfl ?_
    exact kt)
  have rw27 : ((4 : Int32) + (1 : Int32)) = (5 : Int32) := rfl
  rw [rw27] at pre26
  obtain ⟨cl28, Ar28, -, S28, N28, -, -⟩ := id A1
  obtain ⟨cl29, Ar29, -, S29, -, H29, -⟩ := id A1
  have hin29 : ¬ ((5 : Int32) < 0 ∨ cl29.slots.size ≤ ((5 : Int32)).toNatClampNeg) := inb_of S29 ⟨by decide, by decide⟩
  have hat29 : cl29.slots[((5 : Int32)).toNatClampNeg]? = some (.int v5) := H29 5 (by rw [S29]; decide)
  obtain ⟨cl30, Ar30, -, S30, -, H30, -⟩ := id A2
  have hin30 : ¬ ((5 : Int32) < 0 ∨ cl30.slots.size ≤ ((5 : Int32)).toNatClampNeg) := inb_of S30 ⟨by decide, by decide⟩
  have hat30 : cl30.slots[((5 : Int32)).toNatClampNeg]? = some (.int v5) := H30 5 (by rw [S30]; decide)
  have pre31 : ∀ tgt, Steps p.tables e below (s₁.setTop (mkF m 29 #[.val (.ref b1), .val (.ref b2), .val (.int ((5 : Int32) + (1 : Int32)))] [])) tgt → Steps p.tables e below (s₁.setTop (entryFrame m #[(.ref b1), (.ref b2)] 3)) tgt := fun tgt kt => pre26 _ (by
    show Steps p.tables e below (s₁.setTop (mkF m 29 #[.val (.ref b1), .val (.ref b2), .val (.int (5 : Int32))] [])) _
    refine XS.goto X0.here hx rfl (pc0 := 29) (pc' := 9) rfl (hb hby d3_29) (by decide) (by decide) ?_
    show Steps p.tables e below (s₁.setTop (mkF m 9 #[.val (.ref b1), .val (.ref b2), .val (.int (5 : Int32))] [])) _
    refine XS.iloadN X0.here hx rfl (hb hby d3_9) rfl ?_
    show Steps p.tables e below (s₁.setTop (mkF m 10 #[.val (.ref b1), .val (.ref b2), .val (.int (5 : Int32))] [(.int (5 : Int32))])) _
    refine XS.aloadN X0.here hx rfl (hb hby d3_10) rfl rfl ?_
    show Steps p.tables e below (s₁.setTop (mkF m 11 #[.val (.ref b1), .val (.ref b2), .val (.int (5 : Int32))] [(.ref b1), (.int (5 : Int32))])) _
    refine X0.arraylength hx (by rw [e0]; exact Ar28.1) (State.isArrayOf_alike hZ.alike Ar28.2.1) (g := (mkF m 11 #[.val (.ref b1), .val (.ref b2), .val (.int (5 : Int32))] [(.ref b1), (.int (5 : Int32))])) rfl rfl (hb hby d3_11) _ ?_
    rw [len_of S28 N28]
    show Steps p.tables e below (s₁.setTop (mkF m 12 #[.val (.ref b1), .val (.ref b2), .val (.int (5 : Int32))] [(.int (6 : Int32)), (.int (5 : Int32))])) _
    refine XS.icmpNo X0.here hx rfl (hb hby d3_12) rfl (tlt (by decide : (5 : Int32) < (6 : Int32))).2.1 ?_
    show Steps p.tables e below (s₁.setTop (mkF m 15 #[.val (.ref b1), .val (.ref b2), .val (.int (5 : Int32))] [])) _
    refine XS.aloadN X0.here hx rfl (hb hby d3_15) rfl rfl ?_
    show Steps p.tables e below (s₁.setTop (mkF m 16 #[.val (.ref b1), .val (.ref b2), .val (.int (5 : Int32))] [(.ref b1)])) _
    refine XS.iloadN X0.here hx rfl (hb hby d3_16) rfl ?_
    show Steps p.tables e below (s₁.setTop (mkF m 17 #[.val (.ref b1), .val (.ref b2), .val (.int (5 : Int32))] [(.int (5 : Int32)), (.ref b1)])) _
    refine X0.baloadBytes hx (j := (5 : Int32)) (v := (.int v5)) (by rw [e0]; exact Ar29.1) (State.isArrayOf_alike hZ.alike Ar29.2.1) Ar29.2.2 hin29 hat29 (g := (mkF m 17 #[.val (.ref b1), .val (.ref b2), .val (.int (5 : Int32))] [(.int (5 : Int32)), (.ref b1)])) rfl rfl (hb hby d3_17) _ ?_
    show Steps p.tables e below (s₁.setTop (mkF m 18 #[.val (.ref b1), .val (.ref b2), .val (.int (5 : Int32))] [(.int v5)])) _
    refine XS.aloadN X0.here hx rfl (hb hby d3_18) rfl rfl ?_
    show Steps p.tables e below (s₁.setTop (mkF m 19 #[.val (.ref b1), .val (.ref b2), .val (.int (5 : Int32))] [(.ref b2), (.int v5)])) _
    refine XS.iloadN X0.here hx rfl (hb hby d3_19) rfl ?_
    show Steps p.tables e below (s₁.setTop (mkF m 20 #[.val (.ref b1), .val (.ref b2), .val (.int (5 : Int32))] [(.int (5 : Int32)), (.ref b2), (.int v5)])) _
    refine X0.baloadBytes hx (j := (5 : Int32)) (v := (.int v5)) (by rw [e0]; exact Ar30.1) (State.isArrayOf_alike hZ.alike Ar30.2.1) Ar30.2.2 hin30 hat30 (g := (mkF m 20 #[.val (.ref b1), .val (.ref b2), .val (.int (5 : Int32))] [(.int (5 : Int32)), (.ref b2), (.int v5)])) rfl rfl (hb hby d3_20) _ ?_
    show Steps p.tables e below (s₁.setTop (mkF m 21 #[.val (.ref b1), .val (.ref b2), .val (.int (5 : Int32))] [(.int v5), (.int v5)])) _
    refine XS.icmpYes X0.here hx rfl (pc0 := 21) (pc' := 26) rfl (hb hby d3_21) rfl (teq (rfl : v5 = v5)).1 (by decide) (by decide) ?_
    show Steps p.tables e below (s₁.setTop (mkF m 26 #[.val (.ref b1), .val (.ref b2), .val (.int (5 : Int32))] [])) _
    refine XS.iinc X0.here hx rfl (hb hby d3_26) rfl (l' := #[.val (.ref b1), .val (.ref b2), .val (.int ((5 : Int32) + (1 : Int32)))]) rfl ?_
    exact kt)
  have rw32 : ((5 : Int32) + (1 : Int32)) = (6 : Int32) := rfl
  rw [rw32] at pre31
  obtain ⟨cl33, Ar33, -, S33, N33, -, -⟩ := id A1
  obtain ⟨fs, hr, hrun, hended, hW, hsame⟩ := X0.leave (v := some (.int (1 : Int32))) (fun h => by rw [Bd.returns] at h; cases h)
  refine ⟨_, _, pre31 _ ?_, hrun, hended, _, _, rfl, ?_, ⟨_, rfl⟩, hW, hsame.mono (by decide) (by decide)⟩
  · show Steps p.tables e below (s₁.setTop (mkF m 29 #[.val (.ref b1), .val (.ref b2), .val (.int (6 : Int32))] [])) _
    refine XS.goto X0.here hx rfl (pc0 := 29) (pc' := 9) rfl (hb hby d3_29) (by decide) (by decide) ?_
    show Steps p.tables e below (s₁.setTop (mkF m 9 #[.val (.ref b1), .val (.ref b2), .val (.int (6 : Int32))] [])) _
    refine XS.iloadN X0.here hx rfl (hb hby d3_9) rfl ?_
    show Steps p.tables e below (s₁.setTop (mkF m 10 #[.val (.ref b1), .val (.ref b2), .val (.int (6 : Int32))] [(.int (6 : Int32))])) _
    refine XS.aloadN X0.here hx rfl (hb hby d3_10) rfl rfl ?_
    show Steps p.tables e below (s₁.setTop (mkF m 11 #[.val (.ref b1), .val (.ref b2), .val (.int (6 : Int32))] [(.ref b1), (.int (6 : Int32))])) _
    refine X0.arraylength hx (by rw [e0]; exact Ar33.1) (State.isArrayOf_alike hZ.alike Ar33.2.1) (g := (mkF m 11 #[.val (.ref b1), .val (.ref b2), .val (.int (6 : Int32))] [(.ref b1), (.int (6 : Int32))])) rfl rfl (hb hby d3_11) _ ?_
    rw [len_of S33 N33]
    show Steps p.tables e below (s₁.setTop (mkF m 12 #[.val (.ref b1), .val (.ref b2), .val (.int (6 : Int32))] [(.int (6 : Int32)), (.int (6 : Int32))])) _
    refine XS.icmpYes X0.here hx rfl (pc0 := 12) (pc' := 32) rfl (hb hby d3_12) rfl (flt (by decide : ¬ ((6 : Int32) < (6 : Int32)))).2.1 (by decide) (by decide) ?_
    show Steps p.tables e below (s₁.setTop (mkF m 32 #[.val (.ref b1), .val (.ref b2), .val (.int (6 : Int32))] [])) _
    refine XS.iconst X0.here hx rfl (hb hby d3_32) ?_
    show Steps p.tables e below (s₁.setTop (mkF m 33 #[.val (.ref b1), .val (.ref b2), .val (.int (6 : Int32))] [(.int (1 : Int32))])) _
    exact retN X0 hx (t := .boolean) Bd.returns (by simp) (hb hby d3_33) hr
  · show Q3e6 Z b1 b2 k1 k2 v0 v1 v2 v3 v4 v5 h0 n0 _ s₁.heap _
    rw [e0]
    exact ⟨rfl, N0, rfl⟩
theorem d3_34 : decode jdk_43_method_13_code 34 = .ok (.iconst 0, 1) := by decide +kernel
theorem d3_35 : decode jdk_43_method_13_code 35 = .ok (.ireturn, 1) := by decide +kernel
theorem ef_rm3d10_6 (m : MethodId) (x0 : Addr) (x1 : Addr) : entryFrame m #[(.ref x0), (.ref x1)] 3 = mkF m 0 #[.val (.ref x0), .val (.ref x1), .unset] [] := by first | (simp [entryFrame, mkF, argsToLocals, Value.category]; done) | rfl
def Q3d10_6 (Z : State) (b1 : Addr) (b2 : Addr) (k1 k2 : ClassId) (v0 v1 v2 v3 v4 v5 v6 v7 v8 v9 u0 u1 u2 u3 u4 u5 : Int32) (h0 : Heap) (n0 : Nat) (v : Option Value) (h : Heap) (L : List Loc) : Prop := v = some (.int (0 : Int32)) ∧ Fr n0 L ∧ h = h0
set_option maxHeartbeats 40000000 in
theorem rm3d10_6 (l : Launch) (Z : State) (a0 : Array Value) (hw : ∀ d ∈ tables_1, d.before a0 Z = true) (ws : List Jvm.Cond) (b1 : Addr) (b2 : Addr) (k1 k2 : ClassId) (v0 v1 v2 v3 v4 v5 v6 v7 v8 v9 u0 u1 u2 u3 u4 u5 : Int32) (h0 : Heap) (n0 : Nat) (Z0 : n0 ≤ h0.size) (A1 : Arv Z h0 b1 k1 .byte (10 : Int32) [(.int v0), (.int v1), (.int v2), (.int v3), (.int v4), (.int v5), (.int v6), (.int v7), (.int v8), (.int v9)] (.int (0 : Int32))) (A2 : Arv Z h0 b2 k2 .byte (6 : Int32) [(.int u0), (.int u1), (.int u2), (.int u3), (.int u4), (.int u5)] (.int (0 : Int32))) :
    MetFree l (⟨"java/lang/StringLatin1", "equals", "([B[B)Z"⟩ : MethodName) (head1 (Jvm.Cond.code (⟨"java/lang/StringLatin1", "equals", "([B[B)Z"⟩ : MethodName) jdk_43_method_13_code 3 (some .boolean) :: ws) ({ frames := 0, cells := 0, slots := 0, locals := 0 } : Room)) (fun a U => a = #[(.ref b1), (.ref b2)] ∧ Z.Warmed39 U.vm ∧ U.heap = h0) (fun _ _ _ _ _ => True) (fun _ U o U' => ∃ v L, o = .returned v ∧ Q3d10_6 Z b1 b2 k1 k2 v0 v1 v2 v3 v4 v5 v6 v7 v8 v9 u0 u1 u2 u3 u4 u5 h0 n0 v U'.heap L ∧ FrameEnd U o U' L ({ frames := 0, cells := 0, slots := 0, locals := 0 } : Room).cells ({ frames := 0, cells := 0, slots := 0, locals := 0 } : Room).slots) := by
  refine MetFree.of_bodySF (plainFor_of_name pn_0) hisR ?_
  intro p e s m args below meth c s₁ Bd hml0 hP hK
  obtain ⟨rfl, hZ, hh⟩ := hP
  have hx := Bd.exec
  have hby := Bd.bytes
  have hml : c.maxLocals = 3 := hml0
  have hown : s.vm.findClass "java/lang/StringLatin1" = some m.cls := findClass_of_methodNamed Bd.named
  have hnm := (name_of_methodNamed Bd.named Bd.method).1
  have X0 : Stand p l e ({ frames := 0, cells := 0, slots := 0, locals := 0 } : Room) s m #[(.ref b1), (.ref b2)] below meth c s₁ [] 0 0 := Stand.of_body Bd
  have e0 : s₁.heap = h0 := by rw [← hh, Bd.state]; rfl
  have N0 := Fr.nil n0
  have pre0 : ∀ tgt, Steps p.tables e below (s₁.setTop (mkF m 0 #[.val (.ref b1), .val (.ref b2), .unset] [])) tgt → Steps p.tables e below (s₁.setTop (entryFrame m #[(.ref b1), (.ref b2)] 3)) tgt := fun tgt k => castTop (ef_rm3d10_6 m b1 b2) k
  obtain ⟨cl1, Ar1, -, S1, N1, -, -⟩ := id A1
  obtain ⟨cl2, Ar2, -, S2, N2, -, -⟩ := id A2
  obtain ⟨fs, hr, hrun, hended, hW, hsame⟩ := X0.leave (v := some (.int (0 : Int32))) (fun h => by rw [Bd.returns] at h; cases h)
  refine ⟨_, _, pre0 _ ?_, hrun, hended, _, _, rfl, ?_, ⟨_, rfl⟩, hW, hsame.mono (by decide) (by decide)⟩
  · show Steps p.tables e below (s₁.setTop (mkF m 0 #[.val (.ref b1), .val (.ref b2), .unset] [])) _
    refine XS.aloadN X0.here hx rfl (hb hby d3_0) rfl rfl ?_
    show Steps p.tables e below (s₁.setTop (mkF m 1 #[.val (.ref b1), .val (.ref b2), .unset] [(.ref b1)])) _
    refine X0.arraylength hx (by rw [e0]; exact Ar1.1) (State.isArrayOf_alike hZ.alike Ar1.2.1) (g := (mkF m 1 #[.val (.ref b1), .val (.ref b2), .unset] [(.ref b1)])) rfl rfl (hb hby d3_1) _ ?_
    rw [len_of S1 N1]
    show Steps p.tables e below (s₁.setTop (mkF m 2 #[.val (.ref b1), .val (.ref b2), .unset] [(.int (10 : Int32))])) _
    refine XS.aloadN X0.here hx rfl (hb hby d3_2) rfl rfl ?_
    show Steps p.tables e below (s₁.setTop (mkF m 3 #[.val (.ref b1), .val (.ref b2), .unset] [(.ref b2), (.int (10 : Int32))])) _
    refine X0.arraylength hx (by rw [e0]; exact Ar2.1) (State.isArrayOf_alike hZ.alike Ar2.2.1) (g := (mkF m 3 #[.val (.ref b1), .val (.ref b2), .unset] [(.ref b2), (.int (10 : Int32))])) rfl rfl (hb hby d3_3) _ ?_
    rw [len_of S2 N2]
    show Steps p.tables e below (s₁.setTop (mkF m 4 #[.val (.ref b1), .val (.ref b2), .unset] [(.int (6 : Int32)), (.int (10 : Int32))])) _
    refine XS.icmpYes X0.here hx rfl (pc0 := 4) (pc' := 34) rfl (hb hby d3_4) rfl (feq (by decide : ¬ ((10 : Int32) = (6 : Int32)))).2 (by decide) (by decide) ?_
    show Steps p.tables e below (s₁.setTop (mkF m 34 #[.val (.ref b1), .val (.ref b2), .unset] [])) _
    refine XS.iconst X0.here hx rfl (hb hby d3_34) ?_
    show Steps p.tables e below (s₁.setTop (mkF m 35 #[.val (.ref b1), .val (.ref b2), .unset] [(.int (0 : Int32))])) _
    exact retN X0 hx (t := .boolean) Bd.returns (by simp) (hb hby d3_35) hr
  · show Q3d10_6 Z b1 b2 k1 k2 v0 v1 v2 v3 v4 v5 v6 v7 v8 v9 u0 u1 u2 u3 u4 u5 h0 n0 _ s₁.heap _
    rw [e0]
    exact ⟨rfl, N0, rfl⟩
theorem d2_0 : decode jdk_42_method_66_code 0 = .ok (.aload_n 0, 1) := by decide +kernel
theorem d2_1 : decode jdk_42_method_66_code 1 = .ok (.aload_n 1, 1) := by decide +kernel
theorem d2_2 : decode jdk_42_method_66_code 2 = .ok (.if_acmp .ne 5, 3) := by decide +kernel
theorem d2_5 : decode jdk_42_method_66_code 5 = .ok (.iconst 1, 1) := by decide +kernel
theorem d2_6 : decode jdk_42_method_66_code 6 = .ok (.ireturn, 1) := by decide +kernel
theorem d2_7 : decode jdk_42_method_66_code 7 = .ok (.aload_n 1, 1) := by decide +kernel
theorem d2_8 : decode jdk_42_method_66_code 8 = .ok (.instanceof 10, 3) := by decide +kernel
theorem d2_11 : decode jdk_42_method_66_code 11 = .ok (.ifCond .eq 43, 3) := by decide +kernel
theorem d2_14 : decode jdk_42_method_66_code 14 = .ok (.aload_n 1, 1) := by decide +kernel
theorem d2_15 : decode jdk_42_method_66_code 15 = .ok (.checkcast 10, 3) := by decide +kernel
theorem d2_18 : decode jdk_42_method_66_code 18 = .ok (.astore_n 2, 1) := by decide +kernel
theorem d2_19 : decode jdk_42_method_66_code 19 = .ok (.getstatic 38, 3) := by decide +kernel
theorem d2_22 : decode jdk_42_method_66_code 22 = .ok (.ifCond .eq 14, 3) := by decide +kernel
theorem d2_25 : decode jdk_42_method_66_code 25 = .ok (.aload_n 0, 1) := by decide +kernel
theorem d2_26 : decode jdk_42_method_66_code 26 = .ok (.getfield 15, 3) := by decide +kernel
theorem d2_29 : decode jdk_42_method_66_code 29 = .ok (.aload_n 2, 1) := by decide +kernel
theorem d2_30 : decode jdk_42_method_66_code 30 = .ok (.getfield 15, 3) := by decide +kernel
theorem d2_33 : decode jdk_42_method_66_code 33 = .ok (.if_icmp .ne 21, 3) := by decide +kernel
theorem d2_36 : decode jdk_42_method_66_code 36 = .ok (.aload_n 0, 1) := by decide +kernel
theorem d2_37 : decode jdk_42_method_66_code 37 = .ok (.getfield 9, 3) := by decide +kernel
theorem d2_40 : decode jdk_42_method_66_code 40 = .ok (.aload_n 2, 1) := by decide +kernel
theorem d2_41 : decode jdk_42_method_66_code 41 = .ok (.getfield 9, 3) := by decide +kernel
theorem d2_44 : decode jdk_42_method_66_code 44 = .ok (.invokestatic 541, 3) := by decide +kernel
theorem pd_0 : parseMethodDescriptor "([B[B)Z" = some ⟨[(.array .byte), (.array .byte)], some .boolean⟩ := by decide +kernel
theorem d2_47 : decode jdk_42_method_66_code 47 = .ok (.ifCond .eq 7, 3) := by decide +kernel
theorem d2_50 : decode jdk_42_method_66_code 50 = .ok (.iconst 1, 1) := by decide +kernel
theorem d2_51 : decode jdk_42_method_66_code 51 = .ok (.goto 4, 3) := by decide +kernel
theorem d2_55 : decode jdk_42_method_66_code 55 = .ok (.ireturn, 1) := by decide +kernel
theorem pn_1 : plainName "java/lang/String" = true := by first | (simp [plainName, overriddenIn]; done) | decide +kernel
theorem ef_rm2e10 (m : MethodId) (x0 : Addr) (x1 : Addr) : entryFrame m #[(.ref x0), (.ref x1)] 3 = mkF m 0 #[.val (.ref x0), .val (.ref x1), .unset] [] := by first | (simp [entryFrame, mkF, argsToLocals, Value.category]; done) | rfl
def Q2e10 (Z : State) (a1 : Addr) (a2 : Addr) (b1 b2 : Addr) (k1 k2 : ClassId) (cs v0 v1 v2 v3 v4 v5 v6 v7 v8 v9 : Int32) (h0 : Heap) (n0 : Nat) (v : Option Value) (h : Heap) (L : List Loc) : Prop := v = some (.int (1 : Int32)) ∧ Fr n0 L ∧ h = h0
set_option maxHeartbeats 40000000 in
theorem rm2e10 (l : Launch) (Z : State) (a0 : Array Value) (hw : ∀ d ∈ tables_1, d.before a0 Z = true) (ws : List Jvm.Cond) (a1 : Addr) (a2 : Addr) (b1 b2 : Addr) (k1 k2 : ClassId) (cs v0 v1 v2 v3 v4 v5 v6 v7 v8 v9 : Int32) (h0 : Heap) (n0 : Nat) (Z0 : n0 ≤ h0.size) (E2 : Exa Z h0 a2 "java/lang/String") (C1 : Fld Z h0 a1 "java/lang/String" "coder" "B" (.int (0 : Int32))) (V1 : Fld Z h0 a1 "java/lang/String" "value" "[B" (.ref b1)) (C2 : Fld Z h0 a2 "java/lang/String" "coder" "B" (.int (0 : Int32))) (V2 : Fld Z h0 a2 "java/lang/String" "value" "[B" (.ref b2)) (A1 : Arv Z h0 b1 k1 .byte (10 : Int32) [(.int v0), (.int v1), (.int v2), (.int v3), (.int v4), (.int v5), (.int v6), (.int v7), (.int v8), (.int v9)] (.int (0 : Int32))) (A2 : Arv Z h0 b2 k2 .byte (10 : Int32) [(.int v0), (.int v1), (.int v2), (.int v3), (.int v4), (.int v5), (.int v6), (.int v7), (.int v8), (.int v9)] (.int (0 : Int32))) (S0 : Sta Z h0 "java/lang/String" "COMPACT_STRINGS" "Z" (.int cs)) (hcs : ¬ cs = 0) :
    MetFree l (⟨"java/lang/String", "equals", "(Ljava/lang/Object;)Z"⟩ : MethodName) (head1 (Jvm.Cond.code (⟨"java/lang/String", "equals", "(Ljava/lang/Object;)Z"⟩ : MethodName) jdk_42_method_66_code 3 (some .boolean) :: ws) ({ frames := 1, cells := 0, slots := 0, locals := 14 } : Room)) (fun a U => a = #[(.ref a1), (.ref a2)] ∧ Z.Warmed39 U.vm ∧ U.heap = h0) (fun _ _ _ _ _ => True) (fun _ U o U' => ∃ v L, o = .returned v ∧ Q2e10 Z a1 a2 b1 b2 k1 k2 cs v0 v1 v2 v3 v4 v5 v6 v7 v8 v9 h0 n0 v U'.heap L ∧ FrameEnd U o U' L ({ frames := 1, cells := 0, slots := 0, locals := 14 } : Room).cells ({ frames := 1, cells := 0, slots := 0, locals := 14 } : Room).slots) := by
  refine MetFree.of_bodySF (plainFor_of_name pn_1) hisR ?_
  intro p e s m args below meth c s₁ Bd hml0 hP hK
  obtain ⟨rfl, hZ, hh⟩ := hP
  have hx := Bd.exec
  have hby := Bd.bytes
  have hml : c.maxLocals = 3 := hml0
  have hown : s.vm.findClass "java/lang/String" = some m.cls := findClass_of_methodNamed Bd.named
  have hnm := (name_of_methodNamed Bd.named Bd.method).1
  have X0 : Stand p l e ({ frames := 1, cells := 0, slots := 0, locals := 14 } : Room) s m #[(.ref a1), (.ref a2)] below meth c s₁ [] 0 0 := Stand.of_body Bd
  have e0 : s₁.heap = h0 := by rw [← hh, Bd.state]; rfl
  have N0 := Fr.nil n0
  have pre0 : ∀ tgt, Steps p.tables e below (s₁.setTop (mkF m 0 #[.val (.ref a1), .val (.ref a2), .unset] [])) tgt → Steps p.tables e below (s₁.setTop (entryFrame m #[(.ref a1), (.ref a2)] 3)) tgt := fun tgt k => castTop (ef_rm2e10 m a1 a2) k
  by_cases hE : a1 = a2
  · obtain ⟨fs, hr, hrun, hended, hW, hsame⟩ := X0.leave (v := some (.int (1 : Int32))) (fun h => by rw [Bd.returns] at h; cases h)
    refine ⟨_, _, pre0 _ ?_, hrun, hended, _, _, rfl, ?_, ⟨_, rfl⟩, hW, hsame.mono (by decide) (by decide)⟩
    · show Steps p.tables e below (s₁.setTop (mkF m 0 #[.val (.ref a1), .val (.ref a2), .unset] [])) _
      refine XS.aloadN X0.here hx rfl (hb hby d2_0) rfl rfl ?_
      show Steps p.tables e below (s₁.setTop (mkF m 1 #[.val (.ref a1), .val (.ref a2), .unset] [(.ref a1)])) _
      refine XS.aloadN X0.here hx rfl (hb hby d2_1) rfl rfl ?_
      show Steps p.tables e below (s₁.setTop (mkF m 2 #[.val (.ref a1), .val (.ref a2), .unset] [(.ref a2), (.ref a1)])) _
      refine Jvm.RoadKit.acmp (g := (mkF m 2 #[.val (.ref a1), .val (.ref a2), .unset] [(.ref a2), (.ref a1)])) X0 hx rfl rfl rfl (pc0 := 2) (pc' := 5) (same := true) rfl (hb hby d2_2) rfl (decide_eq_true (congrArg Value.ref hE)) (by decide) (by decide) ?_
      show Steps p.tables e below (s₁.setTop (mkF m 5 #[.val (.ref a1), .val (.ref a2), .unset] [])) _
      refine XS.iconst X0.here hx rfl (hb hby d2_5) ?_
      show Steps p.tables e below (s₁.setTop (mkF m 6 #[.val (.ref a1), .val (.ref a2), .unset] [(.int (1 : Int32))])) _
      exact retN X0 hx (t := .boolean) Bd.returns (by simp) (hb hby d2_6) hr
    · show Q2e10 Z a1 a2 b1 b2 k1 k2 cs v0 v1 v2 v3 v4 v5 v6 v7 v8 v9 h0 n0 _ s₁.heap _
      rw [e0]
      exact ⟨rfl, N0, rfl⟩
  · obtain ⟨T1, X1, e1, st1⟩ := instY X0 hx hZ hown (hw _ (List.mem_of_getElem? (i := 26) rfl)) e0 (Ins.self E2) (g := (mkF m 8 #[.val (.ref a1), .val (.ref a2), .unset] [(.ref a2)])) rfl rfl (hb hby d2_8)
    obtain ⟨T2, X2, e2, st2⟩ := castY X1 hx hZ hown (hw _ (List.mem_of_getElem? (i := 26) rfl)) e1 (Ins.self E2) (g := (mkF m 15 #[.val (.ref a1), .val (.ref a2), .unset] [(.ref a2)])) rfl rfl (hb hby d2_15)
    obtain ⟨T3, X3, e3, st3⟩ := getS2 X2 hx hZ hown (host := "") (Or.inl (hw _ (List.mem_of_getElem? (i := 28) rfl))) Via.refl e2 S0 (g := (mkF m 19 #[.val (.ref a1), .val (.ref a2), .val (.ref a2)] [])) rfl (hb hby d2_19)
    obtain ⟨T4, X4, e4, st4⟩ := getF X3 hx hZ hown (host := "") (Or.inl (hw _ (List.mem_of_getElem? (i := 29) rfl))) Via.refl e3 C1 (g := (mkF m 26 #[.val (.ref a1), .val (.ref a2), .val (.ref a2)] [(.ref a1)])) rfl rfl (hb hby d2_26)
    obtain ⟨T5, X5, e5, st5⟩ := getF X4 hx hZ hown (host := "") (Or.inl (hw _ (List.mem_of_getElem? (i := 29) rfl))) Via.refl e4 C2 (g := (mkF m 30 #[.val (.ref a1), .val (.ref a2), .val (.ref a2)] [(.ref a2), (.int (0 : Int32))])) rfl rfl (hb hby d2_30)
    obtain ⟨T6, X6, e6, st6⟩ := getF X5 hx hZ hown (host := "") (Or.inl (hw _ (List.mem_of_getElem? (i := 30) rfl))) Via.refl e5 V1 (g := (mkF m 37 #[.val (.ref a1), .val (.ref a2), .val (.ref a2)] [(.ref a1)])) rfl rfl (hb hby d2_37)
    obtain ⟨T7, X7, e7, st7⟩ := getF X6 hx hZ hown (host := "") (Or.inl (hw _ (List.mem_of_getElem? (i := 30) rfl))) Via.refl e6 V2 (g := (mkF m 41 #[.val (.ref a1), .val (.ref a2), .val (.ref a2)] [(.ref a2), (.ref b1)])) rfl rfl (hb hby d2_41)
    obtain ⟨_, _, ⟨T8, L8, k8, n8⟩, -, X8, ⟨Lc8, hQ8, l8, y8, z8⟩, st8⟩ := Jvm.LawKit.callS X7 hx (y := (⟨"java/lang/StringLatin1", "equals", "([B[B)Z"⟩ : MethodName)) hown (mvT hZ (hw _ (List.mem_of_getElem? (i := 31) rfl))) (mvT hZ (hw _ (List.mem_of_getElem? (i := 32) rfl))) (mvT hZ (hw _ (List.mem_of_getElem? (i := 33) rfl))) (mvT hZ (hw _ (List.mem_of_getElem? (i := 34) rfl))) (by decide) (backOf (W := 0) (rm3e10 l Z a0 hw [] b1 b2 k1 k2 v0 v1 v2 v3 v4 v5 v6 v7 v8 v9 h0 n0 Z0 A1 A2) hZ (hw _ (List.mem_of_getElem? (i := 34) rfl)) (hw _ (List.mem_of_getElem? (i := 33) rfl)) (by decide) (by decide)) (g := (mkF m 44 #[.val (.ref a1), .val (.ref a2), .val (.ref a2)] [(.ref b2), (.ref b1)])) rfl (by rw [hml]; rfl) (argsL := [(.ref b1), (.ref b2)]) (rest := []) (lenOf pd_0 rfl) rfl (by show 2 * 0 + _ ≤ _; exact Nat.le_of_eq rfl) (hb hby d2_44) (fun _ _ => ⟨rfl, e7, (by decide : 0 + 0 ≤ _), (by decide : 0 + 0 ≤ _)⟩)
    dsimp only [Pt.U, Pt.locs, Pt.cells, Pt.slots] at X8 l8 y8 z8 st8 hQ8
    subst l8 y8 z8
    obtain ⟨rfl, Nq8, e8⟩ := hQ8
    have N9 := Fr.app N0 Nq8
    obtain ⟨fs, hr, hrun, hended, hW, hsame⟩ := X8.leave (v := some (.int (1 : Int32))) (fun h => by rw [Bd.returns] at h; cases h)
    refine ⟨_, _, pre0 _ ?_, hrun, hended, _, _, rfl, ?_, ⟨_, rfl⟩, hW, hsame.mono (by decide) (by decide)⟩
    · show Steps p.tables e below (s₁.setTop (mkF m 0 #[.val (.ref a1), .val (.ref a2), .unset] [])) _
      refine XS.aloadN X0.here hx rfl (hb hby d2_0) rfl rfl ?_
      show Steps p.tables e below (s₁.setTop (mkF m 1 #[.val (.ref a1), .val (.ref a2), .unset] [(.ref a1)])) _
      refine XS.aloadN X0.here hx rfl (hb hby d2_1) rfl rfl ?_
      show Steps p.tables e below (s₁.setTop (mkF m 2 #[.val (.ref a1), .val (.ref a2), .unset] [(.ref a2), (.ref a1)])) _
      refine Jvm.RoadKit.acmp (g := (mkF m 2 #[.val (.ref a1), .val (.ref a2), .unset] [(.ref a2), (.ref a1)])) X0 hx rfl rfl rfl (pc0 := 2) (pc' := 7) (same := false) rfl (hb hby d2_2) rfl (decide_eq_false fun q => hE (Value.ref.inj q)) (by decide) (by decide) ?_
      show Steps p.tables e below (s₁.setTop (mkF m 7 #[.val (.ref a1), .val (.ref a2), .unset] [])) _
      refine XS.aloadN X0.here hx rfl (hb hby d2_7) rfl rfl ?_
      show Steps p.tables e below (s₁.setTop (mkF m 8 #[.val (.ref a1), .val (.ref a2), .unset] [(.ref a2)])) _
      refine st1 _ ?_
      show Steps p.tables e below (T1.setTop (mkF m 11 #[.val (.ref a1), .val (.ref a2), .unset] [(.int (1 : Int32))])) _
      refine XS.ifNo X1.here hx rfl (hb hby d2_11) rfl ((if0 _ _).trans (feq (by decide : ¬ ((1 : Int32) = (0 : Int32)))).1) ?_
      show Steps p.tables e below (T1.setTop (mkF m 14 #[.val (.ref a1), .val (.ref a2), .unset] [])) _
      refine XS.aloadN X1.here hx rfl (hb hby d2_14) rfl rfl ?_
      show Steps p.tables e below (T1.setTop (mkF m 15 #[.val (.ref a1), .val (.ref a2), .unset] [(.ref a2)])) _
      refine st2 _ ?_
      show Steps p.tables e below (T2.setTop (mkF m 18 #[.val (.ref a1), .val (.ref a2), .unset] [(.ref a2)])) _
      refine XS.astoreN X2.here hx rfl (hb hby d2_18) rfl rfl (l' := #[.val (.ref a1), .val (.ref a2), .val (.ref a2)]) rfl ?_
      show Steps p.tables e below (T2.setTop (mkF m 19 #[.val (.ref a1), .val (.ref a2), .val (.ref a2)] [])) _
      refine st3 _ ?_
      show Steps p.tables e below (T3.setTop (mkF m 22 #[.val (.ref a1), .val (.ref a2), .val (.ref a2)] [(.int cs)])) _
      refine XS.ifNo X3.here hx rfl (hb hby d2_22) rfl ((if0 _ _).trans (feq hcs).1) ?_
      show Steps p.tables e below (T3.setTop (mkF m 25 #[.val (.ref a1), .val (.ref a2), .val (.ref a2)] [])) _
      refine XS.aloadN X3.here hx rfl (hb hby d2_25) rfl rfl ?_
      show Steps p.tables e below (T3.setTop (mkF m 26 #[.val (.ref a1), .val (.ref a2), .val (.ref a2)] [(.ref a1)])) _
      refine st4 _ ?_
      show Steps p.tables e below (T4.setTop (mkF m 29 #[.val (.ref a1), .val (.ref a2), .val (.ref a2)] [(.int (0 : Int32))])) _
      refine XS.aloadN X4.here hx rfl (hb hby d2_29) rfl rfl ?_
      show Steps p.tables e below (T4.setTop (mkF m 30 #[.val (.ref a1), .val (.ref a2), .val (.ref a2)] [(.ref a2), (.int (0 : Int32))])) _
      refine st5 _ ?_
      show Steps p.tables e below (T5.setTop (mkF m 33 #[.val (.ref a1), .val (.ref a2), .val (.ref a2)] [(.int (0 : Int32)), (.int (0 : Int32))])) _
      refine XS.icmpNo X5.here hx rfl (hb hby d2_33) rfl (teq (rfl : (0 : Int32) = (0 : Int32))).2 ?_
      show Steps p.tables e below (T5.setTop (mkF m 36 #[.val (.ref a1), .val (.ref a2), .val (.ref a2)] [])) _
      refine XS.aloadN X5.here hx rfl (hb hby d2_36) rfl rfl ?_
      show Steps p.tables e below (T5.setTop (mkF m 37 #[.val (.ref a1), .val (.ref a2), .val (.ref a2)] [(.ref a1)])) _
      refine st6 _ ?_
      show Steps p.tables e below (T6.setTop (mkF m 40 #[.val (.ref a1), .val (.ref a2), .val (.ref a2)] [(.ref b1)])) _
      refine XS.aloadN X6.here hx rfl (hb hby d2_40) rfl rfl ?_
      show Steps p.tables e below (T6.setTop (mkF m 41 #[.val (.ref a1), .val (.ref a2), .val (.ref a2)] [(.ref a2), (.ref b1)])) _
      refine st7 _ ?_
      show Steps p.tables e below (T7.setTop (mkF m 44 #[.val (.ref a1), .val (.ref a2), .val (.ref a2)] [(.ref b2), (.ref b1)])) _
      refine st8 _ ?_
      show Steps p.tables e below (T8.setTop (mkF m 47 #[.val (.ref a1), .val (.ref a2), .val (.ref a2)] [(.int (1 : Int32))])) _
      refine XS.ifNo X8.here hx rfl (hb hby d2_47) rfl ((if0 _ _).trans (feq (by decide : ¬ ((1 : Int32) = (0 : Int32)))).1) ?_
      show Steps p.tables e below (T8.setTop (mkF m 50 #[.val (.ref a1), .val (.ref a2), .val (.ref a2)] [])) _
      refine XS.iconst X8.here hx rfl (hb hby d2_50) ?_
      show Steps p.tables e below (T8.setTop (mkF m 51 #[.val (.ref a1), .val (.ref a2), .val (.ref a2)] [(.int (1 : Int32))])) _
      refine XS.goto X8.here hx rfl (pc0 := 51) (pc' := 55) rfl (hb hby d2_51) (by decide) (by decide) ?_
      show Steps p.tables e below (T8.setTop (mkF m 55 #[.val (.ref a1), .val (.ref a2), .val (.ref a2)] [(.int (1 : Int32))])) _
      exact retN X8 hx (t := .boolean) Bd.returns (by simp) (hb hby d2_55) hr
    · show Q2e10 Z a1 a2 b1 b2 k1 k2 cs v0 v1 v2 v3 v4 v5 v6 v7 v8 v9 h0 n0 _ T8.heap _
      rw [e8]
      exact ⟨rfl, N9, rfl⟩
theorem ef_rm2e6 (m : MethodId) (x0 : Addr) (x1 : Addr) : entryFrame m #[(.ref x0), (.ref x1)] 3 = mkF m 0 #[.val (.ref x0), .val (.ref x1), .unset] [] := by first | (simp [entryFrame, mkF, argsToLocals, Value.category]; done) | rfl
def Q2e6 (Z : State) (a1 : Addr) (a2 : Addr) (b1 b2 : Addr) (k1 k2 : ClassId) (cs v0 v1 v2 v3 v4 v5 : Int32) (h0 : Heap) (n0 : Nat) (v : Option Value) (h : Heap) (L : List Loc) : Prop := v = some (.int (1 : Int32)) ∧ Fr n0 L ∧ h = h0
set_option maxHeartbeats 40000000 in
theorem rm2e6 (l : Launch) (Z : State) (a0 : Array Value) (hw : ∀ d ∈ tables_1, d.before a0 Z = true) (ws : List Jvm.Cond) (a1 : Addr) (a2 : Addr) (b1 b2 : Addr) (k1 k2 : ClassId) (cs v0 v1 v2 v3 v4 v5 : Int32) (h0 : Heap) (n0 : Nat) (Z0 : n0 ≤ h0.size) (E2 : Exa Z h0 a2 "java/lang/String") (C1 : Fld Z h0 a1 "java/lang/String" "coder" "B" (.int (0 : Int32))) (V1 : Fld Z h0 a1 "java/lang/String" "value" "[B" (.ref b1)) (C2 : Fld Z h0 a2 "java/lang/String" "coder" "B" (.int (0 : Int32))) (V2 : Fld Z h0 a2 "java/lang/String" "value" "[B" (.ref b2)) (A1 : Arv Z h0 b1 k1 .byte (6 : Int32) [(.int v0), (.int v1), (.int v2), (.int v3), (.int v4), (.int v5)] (.int (0 : Int32))) (A2 : Arv Z h0 b2 k2 .byte (6 : Int32) [(.int v0), (.int v1), (.int v2), (.int v3), (.int v4), (.int v5)] (.int (0 : Int32))) (S0 : Sta Z h0 "java/lang/String" "COMPACT_STRINGS" "Z" (.int cs)) (hcs : ¬ cs = 0) :
    MetFree l (⟨"java/lang/String", "equals", "(Ljava/lang/Object;)Z"⟩ : MethodName) (head1 (Jvm.Cond.code (⟨"java/lang/String", "equals", "(Ljava/lang/Object;)Z"⟩ : MethodName) jdk_42_method_66_code 3 (some .boolean) :: ws) ({ frames := 1, cells := 0, slots := 0, locals := 14 } : Room)) (fun a U => a = #[(.ref a1), (.ref a2)] ∧ Z.Warmed39 U.vm ∧ U.heap = h0) (fun _ _ _ _ _ => True) (fun _ U o U' => ∃ v L, o = .returned v ∧ Q2e6 Z a1 a2 b1 b2 k1 k2 cs v0 v1 v2 v3 v4 v5 h0 n0 v U'.heap L ∧ FrameEnd U o U' L ({ frames := 1, cells := 0, slots := 0, locals := 14 } : Room).cells ({ frames := 1, cells := 0, slots := 0, locals := 14 } : Room).slots) := by
  refine MetFree.of_bodySF (plainFor_of_name pn_1) hisR ?_
  intro p e s m args below meth c s₁ Bd hml0 hP hK
  obtain ⟨rfl, hZ, hh⟩ := hP
  have hx := Bd.exec
  have hby := Bd.bytes
  have hml : c.maxLocals = 3 := hml0
  have hown : s.vm.findClass "java/lang/String" = some m.cls := findClass_of_methodNamed Bd.named
  have hnm := (name_of_methodNamed Bd.named Bd.method).1
  have X0 : Stand p l e ({ frames := 1, cells := 0, slots := 0, locals := 14 } : Room) s m #[(.ref a1), (.ref a2)] below meth c s₁ [] 0 0 := Stand.of_body Bd
  have e0 : s₁.heap = h0 := by rw [← hh, Bd.state]; rfl
  have N0 := Fr.nil n0
  have pre0 : ∀ tgt, Steps p.tables e below (s₁.setTop (mkF m 0 #[.val (.ref a1), .val (.ref a2), .unset] [])) tgt → Steps p.tables e below (s₁.setTop (entryFrame m #[(.ref a1), (.ref a2)] 3)) tgt := fun tgt k => castTop (ef_rm2e6 m a1 a2) k
  by_cases hE : a1 = a2
  · obtain ⟨fs, hr, hrun, hended, hW, hsame⟩ := X0.leave (v := some (.int (1 : Int32))) (fun h => by rw [Bd.returns] at h; cases h)
    refine ⟨_, _, pre0 _ ?_, hrun, hended, _, _, rfl, ?_, ⟨_, rfl⟩, hW, hsame.mono (by decide) (by decide)⟩
    · show Steps p.tables e below (s₁.setTop (mkF m 0 #[.val (.ref a1), .val (.ref a2), .unset] [])) _
      refine XS.aloadN X0.here hx rfl (hb hby d2_0) rfl rfl ?_
      show Steps p.tables e below (s₁.setTop (mkF m 1 #[.val (.ref a1), .val (.ref a2), .unset] [(.ref a1)])) _
      refine XS.aloadN X0.here hx rfl (hb hby d2_1) rfl rfl ?_
      show Steps p.tables e below (s₁.setTop (mkF m 2 #[.val (.ref a1), .val (.ref a2), .unset] [(.ref a2), (.ref a1)])) _
      refine Jvm.RoadKit.acmp (g := (mkF m 2 #[.val (.ref a1), .val (.ref a2), .unset] [(.ref a2), (.ref a1)])) X0 hx rfl rfl rfl (pc0 := 2) (pc' := 5) (same := true) rfl (hb hby d2_2) rfl (decide_eq_true (congrArg Value.ref hE)) (by decide) (by decide) ?_
      show Steps p.tables e below (s₁.setTop (mkF m 5 #[.val (.ref a1), .val (.ref a2), .unset] [])) _
      refine XS.iconst X0.here hx rfl (hb hby d2_5) ?_
      show Steps p.tables e below (s₁.setTop (mkF m 6 #[.val (.ref a1), .val (.ref a2), .unset] [(.int (1 : Int32))])) _
      exact retN X0 hx (t := .boolean) Bd.returns (by simp) (hb hby d2_6) hr
    · show Q2e6 Z a1 a2 b1 b2 k1 k2 cs v0 v1 v2 v3 v4 v5 h0 n0 _ s₁.heap _
      rw [e0]
      exact ⟨rfl, N0, rfl⟩
  · obtain ⟨T1, X1, e1, st1⟩ := instY X0 hx hZ hown (hw _ (List.mem_of_getElem? (i := 26) rfl)) e0 (Ins.self E2) (g := (mkF m 8 #[.val (.ref a1), .val (.ref a2), .unset] [(.ref a2)])) rfl rfl (hb hby d2_8)
    obtain ⟨T2, X2, e2, st2⟩ := castY X1 hx hZ hown (hw _ (List.mem_of_getElem? (i := 26) rfl)) e1 (Ins.self E2) (g := (mkF m 15 #[.val (.ref a1), .val (.ref a2), .unset] [(.ref a2)])) rfl rfl (hb hby d2_15)
    obtain ⟨T3, X3, e3, st3⟩ := getS2 X2 hx hZ hown (host := "") (Or.inl (hw _ (List.mem_of_getElem? (i := 28) rfl))) Via.refl e2 S0 (g := (mkF m 19 #[.val (.ref a1), .val (.ref a2), .val (.ref a2)] [])) rfl (hb hby d2_19)
    obtain ⟨T4, X4, e4, st4⟩ := getF X3 hx hZ hown (host := "") (Or.inl (hw _ (List.mem_of_getElem? (i := 29) rfl))) Via.refl e3 C1 (g := (mkF m 26 #[.val (.ref a1), .val (.ref a2), .val (.ref a2)] [(.ref a1)])) rfl rfl (hb hby d2_26)
    obtain ⟨T5, X5, e5, st5⟩ := getF X4 hx hZ hown (host := "") (Or.inl (hw _ (List.mem_of_getElem? (i := 29) rfl))) Via.refl e4 C2 (g := (mkF m 30 #[.val (.ref a1), .val (.ref a2), .val (.ref a2)] [(.ref a2), (.int (0 : Int32))])) rfl rfl (hb hby d2_30)
    obtain ⟨T6, X6, e6, st6⟩ := getF X5 hx hZ hown (host := "") (Or.inl (hw _ (List.mem_of_getElem? (i := 30) rfl))) Via.refl e5 V1 (g := (mkF m 37 #[.val (.ref a1), .val (.ref a2), .val (.ref a2)] [(.ref a1)])) rfl rfl (hb hby d2_37)
    obtain ⟨T7, X7, e7, st7⟩ := getF X6 hx hZ hown (host := "") (Or.inl (hw _ (List.mem_of_getElem? (i := 30) rfl))) Via.refl e6 V2 (g := (mkF m 41 #[.val (.ref a1), .val (.ref a2), .val (.ref a2)] [(.ref a2), (.ref b1)])) rfl rfl (hb hby d2_41)
    obtain ⟨_, _, ⟨T8, L8, k8, n8⟩, -, X8, ⟨Lc8, hQ8, l8, y8, z8⟩, st8⟩ := Jvm.LawKit.callS X7 hx (y := (⟨"java/lang/StringLatin1", "equals", "([B[B)Z"⟩ : MethodName)) hown (mvT hZ (hw _ (List.mem_of_getElem? (i := 31) rfl))) (mvT hZ (hw _ (List.mem_of_getElem? (i := 32) rfl))) (mvT hZ (hw _ (List.mem_of_getElem? (i := 33) rfl))) (mvT hZ (hw _ (List.mem_of_getElem? (i := 34) rfl))) (by decide) (backOf (W := 0) (rm3e6 l Z a0 hw [] b1 b2 k1 k2 v0 v1 v2 v3 v4 v5 h0 n0 Z0 A1 A2) hZ (hw _ (List.mem_of_getElem? (i := 34) rfl)) (hw _ (List.mem_of_getElem? (i := 33) rfl)) (by decide) (by decide)) (g := (mkF m 44 #[.val (.ref a1), .val (.ref a2), .val (.ref a2)] [(.ref b2), (.ref b1)])) rfl (by rw [hml]; rfl) (argsL := [(.ref b1), (.ref b2)]) (rest := []) (lenOf pd_0 rfl) rfl (by show 2 * 0 + _ ≤ _; exact Nat.le_of_eq rfl) (hb hby d2_44) (fun _ _ => ⟨rfl, e7, (by decide : 0 + 0 ≤ _), (by decide : 0 + 0 ≤ _)⟩)
    dsimp only [Pt.U, Pt.locs, Pt.cells, Pt.slots] at X8 l8 y8 z8 st8 hQ8
    subst l8 y8 z8
    obtain ⟨rfl, Nq8, e8⟩ := hQ8
    have N9 := Fr.app N0 Nq8
    obtain ⟨fs, hr, hrun, hended, hW, hsame⟩ := X8.leave (v := some (.int (1 : Int32))) (fun h => by rw [Bd.returns] at h; cases h)
    refine ⟨_, _, pre0 _ ?_, hrun, hended, _, _, rfl, ?_, ⟨_, rfl⟩, hW, hsame.mono (by decide) (by decide)⟩
    · show Steps p.tables e below (s₁.setTop (mkF m 0 #[.val (.ref a1), .val (.ref a2), .unset] [])) _
      refine XS.aloadN X0.here hx rfl (hb hby d2_0) rfl rfl ?_
      show Steps p.tables e below (s₁.setTop (mkF m 1 #[.val (.ref a1), .val (.ref a2), .unset] [(.ref a1)])) _
      refine XS.aloadN X0.here hx rfl (hb hby d2_1) rfl rfl ?_
      show Steps p.tables e below (s₁.setTop (mkF m 2 #[.val (.ref a1), .val (.ref a2), .unset] [(.ref a2), (.ref a1)])) _
      refine Jvm.RoadKit.acmp (g := (mkF m 2 #[.val (.ref a1), .val (.ref a2), .unset] [(.ref a2), (.ref a1)])) X0 hx rfl rfl rfl (pc0 := 2) (pc' := 7) (same := false) rfl (hb hby d2_2) rfl (decide_eq_false fun q => hE (Value.ref.inj q)) (by decide) (by decide) ?_
      show Steps p.tables e below (s₁.setTop (mkF m 7 #[.val (.ref a1), .val (.ref a2), .unset] [])) _
      refine XS.aloadN X0.here hx rfl (hb hby d2_7) rfl rfl ?_
      show Steps p.tables e below (s₁.setTop (mkF m 8 #[.val (.ref a1), .val (.ref a2), .unset] [(.ref a2)])) _
      refine st1 _ ?_
      show Steps p.tables e below (T1.setTop (mkF m 11 #[.val (.ref a1), .val (.ref a2), .unset] [(.int (1 : Int32))])) _
      refine XS.ifNo X1.here hx rfl (hb hby d2_11) rfl ((if0 _ _).trans (feq (by decide : ¬ ((1 : Int32) = (0 : Int32)))).1) ?_
      show Steps p.tables e below (T1.setTop (mkF m 14 #[.val (.ref a1), .val (.ref a2), .unset] [])) _
      refine XS.aloadN X1.here hx rfl (hb hby d2_14) rfl rfl ?_
      show Steps p.tables e below (T1.setTop (mkF m 15 #[.val (.ref a1), .val (.ref a2), .unset] [(.ref a2)])) _
      refine st2 _ ?_
      show Steps p.tables e below (T2.setTop (mkF m 18 #[.val (.ref a1), .val (.ref a2), .unset] [(.ref a2)])) _
      refine XS.astoreN X2.here hx rfl (hb hby d2_18) rfl rfl (l' := #[.val (.ref a1), .val (.ref a2), .val (.ref a2)]) rfl ?_
      show Steps p.tables e below (T2.setTop (mkF m 19 #[.val (.ref a1), .val (.ref a2), .val (.ref a2)] [])) _
      refine st3 _ ?_
      show Steps p.tables e below (T3.setTop (mkF m 22 #[.val (.ref a1), .val (.ref a2), .val (.ref a2)] [(.int cs)])) _
      refine XS.ifNo X3.here hx rfl (hb hby d2_22) rfl ((if0 _ _).trans (feq hcs).1) ?_
      show Steps p.tables e below (T3.setTop (mkF m 25 #[.val (.ref a1), .val (.ref a2), .val (.ref a2)] [])) _
      refine XS.aloadN X3.here hx rfl (hb hby d2_25) rfl rfl ?_
      show Steps p.tables e below (T3.setTop (mkF m 26 #[.val (.ref a1), .val (.ref a2), .val (.ref a2)] [(.ref a1)])) _
      refine st4 _ ?_
      show Steps p.tables e below (T4.setTop (mkF m 29 #[.val (.ref a1), .val (.ref a2), .val (.ref a2)] [(.int (0 : Int32))])) _
      refine XS.aloadN X4.here hx rfl (hb hby d2_29) rfl rfl ?_
      show Steps p.tables e below (T4.setTop (mkF m 30 #[.val (.ref a1), .val (.ref a2), .val (.ref a2)] [(.ref a2), (.int (0 : Int32))])) _
      refine st5 _ ?_
      show Steps p.tables e below (T5.setTop (mkF m 33 #[.val (.ref a1), .val (.ref a2), .val (.ref a2)] [(.int (0 : Int32)), (.int (0 : Int32))])) _
      refine XS.icmpNo X5.here hx rfl (hb hby d2_33) rfl (teq (rfl : (0 : Int32) = (0 : Int32))).2 ?_
      show Steps p.tables e below (T5.setTop (mkF m 36 #[.val (.ref a1), .val (.ref a2), .val (.ref a2)] [])) _
      refine XS.aloadN X5.here hx rfl (hb hby d2_36) rfl rfl ?_
      show Steps p.tables e below (T5.setTop (mkF m 37 #[.val (.ref a1), .val (.ref a2), .val (.ref a2)] [(.ref a1)])) _
      refine st6 _ ?_
      show Steps p.tables e below (T6.setTop (mkF m 40 #[.val (.ref a1), .val (.ref a2), .val (.ref a2)] [(.ref b1)])) _
      refine XS.aloadN X6.here hx rfl (hb hby d2_40) rfl rfl ?_
      show Steps p.tables e below (T6.setTop (mkF m 41 #[.val (.ref a1), .val (.ref a2), .val (.ref a2)] [(.ref a2), (.ref b1)])) _
      refine st7 _ ?_
      show Steps p.tables e below (T7.setTop (mkF m 44 #[.val (.ref a1), .val (.ref a2), .val (.ref a2)] [(.ref b2), (.ref b1)])) _
      refine st8 _ ?_
      show Steps p.tables e below (T8.setTop (mkF m 47 #[.val (.ref a1), .val (.ref a2), .val (.ref a2)] [(.int (1 : Int32))])) _
      refine XS.ifNo X8.here hx rfl (hb hby d2_47) rfl ((if0 _ _).trans (feq (by decide : ¬ ((1 : Int32) = (0 : Int32)))).1) ?_
      show Steps p.tables e below (T8.setTop (mkF m 50 #[.val (.ref a1), .val (.ref a2), .val (.ref a2)] [])) _
      refine XS.iconst X8.here hx rfl (hb hby d2_50) ?_
      show Steps p.tables e below (T8.setTop (mkF m 51 #[.val (.ref a1), .val (.ref a2), .val (.ref a2)] [(.int (1 : Int32))])) _
      refine XS.goto X8.here hx rfl (pc0 := 51) (pc' := 55) rfl (hb hby d2_51) (by decide) (by decide) ?_
      show Steps p.tables e below (T8.setTop (mkF m 55 #[.val (.ref a1), .val (.ref a2), .val (.ref a2)] [(.int (1 : Int32))])) _
      exact retN X8 hx (t := .boolean) Bd.returns (by simp) (hb hby d2_55) hr
    · show Q2e6 Z a1 a2 b1 b2 k1 k2 cs v0 v1 v2 v3 v4 v5 h0 n0 _ T8.heap _
      rw [e8]
      exact ⟨rfl, N9, rfl⟩
theorem d2_54 : decode jdk_42_method_66_code 54 = .ok (.iconst 0, 1) := by decide +kernel
theorem ef_rm2d10_6 (m : MethodId) (x0 : Addr) (x1 : Addr) : entryFrame m #[(.ref x0), (.ref x1)] 3 = mkF m 0 #[.val (.ref x0), .val (.ref x1), .unset] [] := by first | (simp [entryFrame, mkF, argsToLocals, Value.category]; done) | rfl
def Q2d10_6 (Z : State) (a1 : Addr) (a2 : Addr) (b1 b2 : Addr) (k1 k2 : ClassId) (cs v0 v1 v2 v3 v4 v5 v6 v7 v8 v9 u0 u1 u2 u3 u4 u5 : Int32) (h0 : Heap) (n0 : Nat) (v : Option Value) (h : Heap) (L : List Loc) : Prop := v = some (.int (0 : Int32)) ∧ Fr n0 L ∧ h = h0
set_option maxHeartbeats 40000000 in
theorem rm2d10_6 (l : Launch) (Z : State) (a0 : Array Value) (hw : ∀ d ∈ tables_1, d.before a0 Z = true) (ws : List Jvm.Cond) (a1 : Addr) (a2 : Addr) (b1 b2 : Addr) (k1 k2 : ClassId) (cs v0 v1 v2 v3 v4 v5 v6 v7 v8 v9 u0 u1 u2 u3 u4 u5 : Int32) (h0 : Heap) (n0 : Nat) (Z0 : n0 ≤ h0.size) (E2 : Exa Z h0 a2 "java/lang/String") (C1 : Fld Z h0 a1 "java/lang/String" "coder" "B" (.int (0 : Int32))) (V1 : Fld Z h0 a1 "java/lang/String" "value" "[B" (.ref b1)) (C2 : Fld Z h0 a2 "java/lang/String" "coder" "B" (.int (0 : Int32))) (V2 : Fld Z h0 a2 "java/lang/String" "value" "[B" (.ref b2)) (A1 : Arv Z h0 b1 k1 .byte (10 : Int32) [(.int v0), (.int v1), (.int v2), (.int v3), (.int v4), (.int v5), (.int v6), (.int v7), (.int v8), (.int v9)] (.int (0 : Int32))) (A2 : Arv Z h0 b2 k2 .byte (6 : Int32) [(.int u0), (.int u1), (.int u2), (.int u3), (.int u4), (.int u5)] (.int (0 : Int32))) (S0 : Sta Z h0 "java/lang/String" "COMPACT_STRINGS" "Z" (.int cs)) (hcs : ¬ cs = 0) :
    MetFree l (⟨"java/lang/String", "equals", "(Ljava/lang/Object;)Z"⟩ : MethodName) (head1 (Jvm.Cond.code (⟨"java/lang/String", "equals", "(Ljava/lang/Object;)Z"⟩ : MethodName) jdk_42_method_66_code 3 (some .boolean) :: ws) ({ frames := 1, cells := 0, slots := 0, locals := 14 } : Room)) (fun a U => a = #[(.ref a1), (.ref a2)] ∧ Z.Warmed39 U.vm ∧ U.heap = h0) (fun _ _ _ _ _ => True) (fun _ U o U' => ∃ v L, o = .returned v ∧ Q2d10_6 Z a1 a2 b1 b2 k1 k2 cs v0 v1 v2 v3 v4 v5 v6 v7 v8 v9 u0 u1 u2 u3 u4 u5 h0 n0 v U'.heap L ∧ FrameEnd U o U' L ({ frames := 1, cells := 0, slots := 0, locals := 14 } : Room).cells ({ frames := 1, cells := 0, slots := 0, locals := 14 } : Room).slots) := by
  refine MetFree.of_bodySF (plainFor_of_name pn_1) hisR ?_
  intro p e s m args below meth c s₁ Bd hml0 hP hK
  obtain ⟨rfl, hZ, hh⟩ := hP
  have hx := Bd.exec
  have hby := Bd.bytes
  have hml : c.maxLocals = 3 := hml0
  have hown : s.vm.findClass "java/lang/String" = some m.cls := findClass_of_methodNamed Bd.named
  have hnm := (name_of_methodNamed Bd.named Bd.method).1
  have X0 : Stand p l e ({ frames := 1, cells := 0, slots := 0, locals := 14 } : Room) s m #[(.ref a1), (.ref a2)] below meth c s₁ [] 0 0 := Stand.of_body Bd
  have e0 : s₁.heap = h0 := by rw [← hh, Bd.state]; rfl
  have N0 := Fr.nil n0
  have pre0 : ∀ tgt, Steps p.tables e below (s₁.setTop (mkF m 0 #[.val (.ref a1), .val (.ref a2), .unset] [])) tgt → Steps p.tables e below (s₁.setTop (entryFrame m #[(.ref a1), (.ref a2)] 3)) tgt := fun tgt k => castTop (ef_rm2d10_6 m a1 a2) k
  have hE : a1 ≠ a2 := V1.ne V2 (fun q => own_arv_ne A1 A2 (by decide) (Value.ref.inj q))
  obtain ⟨T1, X1, e1, st1⟩ := instY X0 hx hZ hown (hw _ (List.mem_of_getElem? (i := 26) rfl)) e0 (Ins.self E2) (g := (mkF m 8 #[.val (.ref a1), .val (.ref a2), .unset] [(.ref a2)])) rfl rfl (hb hby d2_8)
  obtain ⟨T2, X2, e2, st2⟩ := castY X1 hx hZ hown (hw _ (List.mem_of_getElem? (i := 26) rfl)) e1 (Ins.self E2) (g := (mkF m 15 #[.val (.ref a1), .val (.ref a2), .unset] [(.ref a2)])) rfl rfl (hb hby d2_15)
  obtain ⟨T3, X3, e3, st3⟩ := getS2 X2 hx hZ hown (host := "") (Or.inl (hw _ (List.mem_of_getElem? (i := 28) rfl))) Via.refl e2 S0 (g := (mkF m 19 #[.val (.ref a1), .val (.ref a2), .val (.ref a2)] [])) rfl (hb hby d2_19)
  obtain ⟨T4, X4, e4, st4⟩ := getF X3 hx hZ hown (host := "") (Or.inl (hw _ (List.mem_of_getElem? (i := 29) rfl))) Via.refl e3 C1 (g := (mkF m 26 #[.val (.ref a1), .val (.ref a2), .val (.ref a2)] [(.ref a1)])) rfl rfl (hb hby d2_26)
  obtain ⟨T5, X5, e5, st5⟩ := getF X4 hx hZ hown (host := "") (Or.inl (hw _ (List.mem_of_getElem? (i := 29) rfl))) Via.refl e4 C2 (g := (mkF m 30 #[.val (.ref a1), .val (.ref a2), .val (.ref a2)] [(.ref a2), (.int (0 : Int32))])) rfl rfl (hb hby d2_30)
  obtain ⟨T6, X6, e6, st6⟩ := getF X5 hx hZ hown (host := "") (Or.inl (hw _ (List.mem_of_getElem? (i := 30) rfl))) Via.refl e5 V1 (g := (mkF m 37 #[.val (.ref a1), .val (.ref a2), .val (.ref a2)] [(.ref a1)])) rfl rfl (hb hby d2_37)
  obtain ⟨T7, X7, e7, st7⟩ := getF X6 hx hZ hown (host := "") (Or.inl (hw _ (List.mem_of_getElem? (i := 30) rfl))) Via.refl e6 V2 (g := (mkF m 41 #[.val (.ref a1), .val (.ref a2), .val (.ref a2)] [(.ref a2), (.ref b1)])) rfl rfl (hb hby d2_41)
  obtain ⟨_, _, ⟨T8, L8, k8, n8⟩, -, X8, ⟨Lc8, hQ8, l8, y8, z8⟩, st8⟩ := Jvm.LawKit.callS X7 hx (y := (⟨"java/lang/StringLatin1", "equals", "([B[B)Z"⟩ : MethodName)) hown (mvT hZ (hw _ (List.mem_of_getElem? (i := 31) rfl))) (mvT hZ (hw _ (List.mem_of_getElem? (i := 32) rfl))) (mvT hZ (hw _ (List.mem_of_getElem? (i := 33) rfl))) (mvT hZ (hw _ (List.mem_of_getElem? (i := 34) rfl))) (by decide) (backOf (W := 0) (rm3d10_6 l Z a0 hw [] b1 b2 k1 k2 v0 v1 v2 v3 v4 v5 v6 v7 v8 v9 u0 u1 u2 u3 u4 u5 h0 n0 Z0 A1 A2) hZ (hw _ (List.mem_of_getElem? (i := 34) rfl)) (hw _ (List.mem_of_getElem? (i := 33) rfl)) (by decide) (by decide)) (g := (mkF m 44 #[.val (.ref a1), .val (.ref a2), .val (.ref a2)] [(.ref b2), (.ref b1)])) rfl (by rw [hml]; rfl) (argsL := [(.ref b1), (.ref b2)]) (rest := []) (lenOf pd_0 rfl) rfl (by show 2 * 0 + _ ≤ _; exact Nat.le_of_eq rfl) (hb hby d2_44) (fun _ _ => ⟨rfl, e7, (by decide : 0 + 0 ≤ _), (by decide : 0 + 0 ≤ _)⟩)
  dsimp only [Pt.U, Pt.locs, Pt.cells, Pt.slots] at X8 l8 y8 z8 st8 hQ8
  subst l8 y8 z8
  obtain ⟨rfl, Nq8, e8⟩ := hQ8
  have N9 := Fr.app N0 Nq8
  obtain ⟨fs, hr, hrun, hended, hW, hsame⟩ := X8.leave (v := some (.int (0 : Int32))) (fun h => by rw [Bd.returns] at h; cases h)
  refine ⟨_, _, pre0 _ ?_, hrun, hended, _, _, rfl, ?_, ⟨_, rfl⟩, hW, hsame.mono (by decide) (by decide)⟩
  · show Steps p.tables e below (s₁.setTop (mkF m 0 #[.val (.ref a1), .val (.ref a2), .unset] [])) _
    refine XS.aloadN X0.here hx rfl (hb hby d2_0) rfl rfl ?_
    show Steps p.tables e below (s₁.setTop (mkF m 1 #[.val (.ref a1), .val (.ref a2), .unset] [(.ref a1)])) _
    refine XS.aloadN X0.here hx rfl (hb hby d2_1) rfl rfl ?_
    show Steps p.tables e below (s₁.setTop (mkF m 2 #[.val (.ref a1), .val (.ref a2), .unset] [(.ref a2), (.ref a1)])) _
    refine Jvm.RoadKit.acmp (g := (mkF m 2 #[.val (.ref a1), .val (.ref a2), .unset] [(.ref a2), (.ref a1)])) X0 hx rfl rfl rfl (pc0 := 2) (pc' := 7) (same := false) rfl (hb hby d2_2) rfl (decide_eq_false fun q => hE (Value.ref.inj q)) (by decide) (by decide) ?_
    show Steps p.tables e below (s₁.setTop (mkF m 7 #[.val (.ref a1), .val (.ref a2), .unset] [])) _
    refine XS.aloadN X0.here hx rfl (hb hby d2_7) rfl rfl ?_
    show Steps p.tables e below (s₁.setTop (mkF m 8 #[.val (.ref a1), .val (.ref a2), .unset] [(.ref a2)])) _
    refine st1 _ ?_
    show Steps p.tables e below (T1.setTop (mkF m 11 #[.val (.ref a1), .val (.ref a2), .unset] [(.int (1 : Int32))])) _
    refine XS.ifNo X1.here hx rfl (hb hby d2_11) rfl ((if0 _ _).trans (feq (by decide : ¬ ((1 : Int32) = (0 : Int32)))).1) ?_
    show Steps p.tables e below (T1.setTop (mkF m 14 #[.val (.ref a1), .val (.ref a2), .unset] [])) _
    refine XS.aloadN X1.here hx rfl (hb hby d2_14) rfl rfl ?_
    show Steps p.tables e below (T1.setTop (mkF m 15 #[.val (.ref a1), .val (.ref a2), .unset] [(.ref a2)])) _
    refine st2 _ ?_
    show Steps p.tables e below (T2.setTop (mkF m 18 #[.val (.ref a1), .val (.ref a2), .unset] [(.ref a2)])) _
    refine XS.astoreN X2.here hx rfl (hb hby d2_18) rfl rfl (l' := #[.val (.ref a1), .val (.ref a2), .val (.ref a2)]) rfl ?_
    show Steps p.tables e below (T2.setTop (mkF m 19 #[.val (.ref a1), .val (.ref a2), .val (.ref a2)] [])) _
    refine st3 _ ?_
    show Steps p.tables e below (T3.setTop (mkF m 22 #[.val (.ref a1), .val (.ref a2), .val (.ref a2)] [(.int cs)])) _
    refine XS.ifNo X3.here hx rfl (hb hby d2_22) rfl ((if0 _ _).trans (feq hcs).1) ?_
    show Steps p.tables e below (T3.setTop (mkF m 25 #[.val (.ref a1), .val (.ref a2), .val (.ref a2)] [])) _
    refine XS.aloadN X3.here hx rfl (hb hby d2_25) rfl rfl ?_
    show Steps p.tables e below (T3.setTop (mkF m 26 #[.val (.ref a1), .val (.ref a2), .val (.ref a2)] [(.ref a1)])) _
    refine st4 _ ?_
    show Steps p.tables e below (T4.setTop (mkF m 29 #[.val (.ref a1), .val (.ref a2), .val (.ref a2)] [(.int (0 : Int32))])) _
    refine XS.aloadN X4.here hx rfl (hb hby d2_29) rfl rfl ?_
    show Steps p.tables e below (T4.setTop (mkF m 30 #[.val (.ref a1), .val (.ref a2), .val (.ref a2)] [(.ref a2), (.int (0 : Int32))])) _
    refine st5 _ ?_
    show Steps p.tables e below (T5.setTop (mkF m 33 #[.val (.ref a1), .val (.ref a2), .val (.ref a2)] [(.int (0 : Int32)), (.int (0 : Int32))])) _
    refine XS.icmpNo X5.here hx rfl (hb hby d2_33) rfl (teq (rfl : (0 : Int32) = (0 : Int32))).2 ?_
    show Steps p.tables e below (T5.setTop (mkF m 36 #[.val (.ref a1), .val (.ref a2), .val (.ref a2)] [])) _
    refine XS.aloadN X5.here hx rfl (hb hby d2_36) rfl rfl ?_
    show Steps p.tables e below (T5.setTop (mkF m 37 #[.val (.ref a1), .val (.ref a2), .val (.ref a2)] [(.ref a1)])) _
    refine st6 _ ?_
    show Steps p.tables e below (T6.setTop (mkF m 40 #[.val (.ref a1), .val (.ref a2), .val (.ref a2)] [(.ref b1)])) _
    refine XS.aloadN X6.here hx rfl (hb hby d2_40) rfl rfl ?_
    show Steps p.tables e below (T6.setTop (mkF m 41 #[.val (.ref a1), .val (.ref a2), .val (.ref a2)] [(.ref a2), (.ref b1)])) _
    refine st7 _ ?_
    show Steps p.tables e below (T7.setTop (mkF m 44 #[.val (.ref a1), .val (.ref a2), .val (.ref a2)] [(.ref b2), (.ref b1)])) _
    refine st8 _ ?_
    show Steps p.tables e below (T8.setTop (mkF m 47 #[.val (.ref a1), .val (.ref a2), .val (.ref a2)] [(.int (0 : Int32))])) _
    refine XS.ifYes X8.here hx rfl (pc0 := 47) (pc' := 54) rfl (hb hby d2_47) rfl ((if0 _ _).trans (teq (rfl : (0 : Int32) = (0 : Int32))).1) (by decide) (by decide) ?_
    show Steps p.tables e below (T8.setTop (mkF m 54 #[.val (.ref a1), .val (.ref a2), .val (.ref a2)] [])) _
    refine XS.iconst X8.here hx rfl (hb hby d2_54) ?_
    show Steps p.tables e below (T8.setTop (mkF m 55 #[.val (.ref a1), .val (.ref a2), .val (.ref a2)] [(.int (0 : Int32))])) _
    exact retN X8 hx (t := .boolean) Bd.returns (by simp) (hb hby d2_55) hr
  · show Q2d10_6 Z a1 a2 b1 b2 k1 k2 cs v0 v1 v2 v3 v4 v5 v6 v7 v8 v9 u0 u1 u2 u3 u4 u5 h0 n0 _ T8.heap _
    rw [e8]
    exact ⟨rfl, N9, rfl⟩
theorem d5_0 : decode prog_63_method_8_code 0 = .ok (.aload_n 0, 1) := by decide +kernel
theorem d5_1 : decode prog_63_method_8_code 1 = .ok (.getfield 59, 3) := by decide +kernel
theorem d5_4 : decode prog_63_method_8_code 4 = .ok (.ifnull 7, 3) := by decide +kernel
theorem d5_11 : decode prog_63_method_8_code 11 = .ok (.iconst 0, 1) := by decide +kernel
theorem d5_12 : decode prog_63_method_8_code 12 = .ok (.ireturn, 1) := by decide +kernel
theorem pn_2 : plainName "com/example/keyfold/keyfold/spec/ColumnType" = true := by first | (simp [plainName, overriddenIn]; done) | decide +kernel
theorem ef_rm5 (m : MethodId) (x0 : Addr) : entryFrame m #[(.ref x0)] 1 = mkF m 0 #[.val (.ref x0)] [] := by first | (simp [entryFrame, mkF, argsToLocals, Value.category]; done) | rfl
def Q5 (Z : State) (a1 : Addr) (h0 : Heap) (n0 : Nat) (v : Option Value) (h : Heap) (L : List Loc) : Prop := v = some (.int (0 : Int32)) ∧ Fr n0 L ∧ h = h0
set_option maxHeartbeats 40000000 in
theorem rm5 (l : Launch) (Z : State) (a0 : Array Value) (hw : ∀ d ∈ tables_1, d.before a0 Z = true) (ws : List Jvm.Cond) (a1 : Addr) (h0 : Heap) (n0 : Nat) (Z0 : n0 ≤ h0.size) (F1 : Fld Z h0 a1 "com/example/keyfold/keyfold/spec/ColumnType" "min" "Ljava/math/BigInteger;" .null) :
    MetFree l (⟨"com/example/keyfold/keyfold/spec/ColumnType", "isInteger", "()Z"⟩ : MethodName) (head1 (Jvm.Cond.code (⟨"com/example/keyfold/keyfold/spec/ColumnType", "isInteger", "()Z"⟩ : MethodName) prog_63_method_8_code 1 (some .boolean) :: ws) ({ frames := 0, cells := 0, slots := 0, locals := 0 } : Room)) (fun a U => a = #[(.ref a1)] ∧ Z.Warmed39 U.vm ∧ U.heap = h0) (fun _ _ _ _ _ => True) (fun _ U o U' => ∃ v L, o = .returned v ∧ Q5 Z a1 h0 n0 v U'.heap L ∧ FrameEnd U o U' L ({ frames := 0, cells := 0, slots := 0, locals := 0 } : Room).cells ({ frames := 0, cells := 0, slots := 0, locals := 0 } : Room).slots) := by
  refine MetFree.of_bodySF (plainFor_of_name pn_2) hisR ?_
  intro p e s m args below meth c s₁ Bd hml0 hP hK
  obtain ⟨rfl, hZ, hh⟩ := hP
  have hx := Bd.exec
  have hby := Bd.bytes
  have hml : c.maxLocals = 1 := hml0
  have hown : s.vm.findClass "com/example/keyfold/keyfold/spec/ColumnType" = some m.cls := findClass_of_methodNamed Bd.named
  have hnm := (name_of_methodNamed Bd.named Bd.method).1
  have X0 : Stand p l e ({ frames := 0, cells := 0, slots := 0, locals := 0 } : Room) s m #[(.ref a1)] below meth c s₁ [] 0 0 := Stand.of_body Bd
  have e0 : s₁.heap = h0 := by rw [← hh, Bd.state]; rfl
  have N0 := Fr.nil n0
  have pre0 : ∀ tgt, Steps p.tables e below (s₁.setTop (mkF m 0 #[.val (.ref a1)] [])) tgt → Steps p.tables e below (s₁.setTop (entryFrame m #[(.ref a1)] 1)) tgt := fun tgt k => castTop (ef_rm5 m a1) k
  obtain ⟨T1, X1, e1, st1⟩ := getF X0 hx hZ hown (host := "") (Or.inl (hw _ (List.mem_of_getElem? (i := 48) rfl))) Via.refl e0 F1 (g := (mkF m 1 #[.val (.ref a1)] [(.ref a1)])) rfl rfl (hb hby d5_1)
  obtain ⟨fs, hr, hrun, hended, hW, hsame⟩ := X1.leave (v := some (.int (0 : Int32))) (fun h => by rw [Bd.returns] at h; cases h)
  refine ⟨_, _, pre0 _ ?_, hrun, hended, _, _, rfl, ?_, ⟨_, rfl⟩, hW, hsame.mono (by decide) (by decide)⟩
  · show Steps p.tables e below (s₁.setTop (mkF m 0 #[.val (.ref a1)] [])) _
    refine XS.aloadN X0.here hx rfl (hb hby d5_0) rfl rfl ?_
    show Steps p.tables e below (s₁.setTop (mkF m 1 #[.val (.ref a1)] [(.ref a1)])) _
    refine st1 _ ?_
    show Steps p.tables e below (T1.setTop (mkF m 4 #[.val (.ref a1)] [.null])) _
    refine XS.ifnullYes X1.here hx rfl (pc0 := 4) (pc' := 11) rfl (hb hby d5_4) rfl (by decide) (by decide) ?_
    show Steps p.tables e below (T1.setTop (mkF m 11 #[.val (.ref a1)] [])) _
    refine XS.iconst X1.here hx rfl (hb hby d5_11) ?_
    show Steps p.tables e below (T1.setTop (mkF m 12 #[.val (.ref a1)] [(.int (0 : Int32))])) _
    exact retN X1 hx (t := .boolean) Bd.returns (by simp) (hb hby d5_12) hr
  · show Q5 Z a1 h0 n0 _ T1.heap _
    rw [e1]
    exact ⟨rfl, N0, rfl⟩
theorem d4_0 : decode prog_91_method_5_code 0 = .ok (.aload_n 0, 1) := by decide +kernel
theorem d4_1 : decode prog_91_method_5_code 1 = .ok (.getfield 45, 3) := by decide +kernel
theorem d4_4 : decode prog_91_method_5_code 4 = .ok (.ifCond .eq 18, 3) := by decide +kernel
theorem d4_7 : decode prog_91_method_5_code 7 = .ok (.aload_n 1, 1) := by decide +kernel
theorem d4_8 : decode prog_91_method_5_code 8 = .ok (.getstatic 114, 3) := by decide +kernel
theorem d4_11 : decode prog_91_method_5_code 11 = .ok (.if_acmp .ne 7, 3) := by decide +kernel
theorem d4_14 : decode prog_91_method_5_code 14 = .ok (.iconst 1, 1) := by decide +kernel
theorem d4_15 : decode prog_91_method_5_code 15 = .ok (.goto 11, 3) := by decide +kernel
theorem d4_26 : decode prog_91_method_5_code 26 = .ok (.ireturn, 1) := by decide +kernel
theorem pn_3 : plainName "com/example/keyfold/keyfold/spec/Transform" = true := by first | (simp [plainName, overriddenIn]; done) | decide +kernel
theorem ef_rm4t (m : MethodId) (x0 : Addr) (x1 : Addr) : entryFrame m #[(.ref x0), (.ref x1)] 2 = mkF m 0 #[.val (.ref x0), .val (.ref x1)] [] := by first | (simp [entryFrame, mkF, argsToLocals, Value.category]; done) | rfl
def Q4t (Z : State) (a1 : Addr) (a2 : Addr) (h0 : Heap) (n0 : Nat) (v : Option Value) (h : Heap) (L : List Loc) : Prop := v = some (.int (1 : Int32)) ∧ Fr n0 L ∧ h = h0
set_option maxHeartbeats 40000000 in
theorem rm4t (l : Launch) (Z : State) (a0 : Array Value) (hw : ∀ d ∈ tables_1, d.before a0 Z = true) (ws : List Jvm.Cond) (a1 : Addr) (a2 : Addr) (h0 : Heap) (n0 : Nat) (Z0 : n0 ≤ h0.size) (F1 : Fld Z h0 a1 "com/example/keyfold/keyfold/spec/Transform" "truncates" "Z" (.int (1 : Int32))) (S1 : Sta Z h0 "com/example/keyfold/keyfold/spec/ColumnType" "DATE" "Lcom/example/keyfold/keyfold/spec/ColumnType;" (.ref a2)) :
    MetFree l (⟨"com/example/keyfold/keyfold/spec/Transform", "fits", "(Lcom/example/keyfold/keyfold/spec/ColumnType;)Z"⟩ : MethodName) (head1 (Jvm.Cond.code (⟨"com/example/keyfold/keyfold/spec/Transform", "fits", "(Lcom/example/keyfold/keyfold/spec/ColumnType;)Z"⟩ : MethodName) prog_91_method_5_code 2 (some .boolean) :: ws) ({ frames := 1, cells := 0, slots := 0, locals := 12 } : Room)) (fun a U => a = #[(.ref a1), (.ref a2)] ∧ Z.Warmed39 U.vm ∧ U.heap = h0) (fun _ _ _ _ _ => True) (fun _ U o U' => ∃ v L, o = .returned v ∧ Q4t Z a1 a2 h0 n0 v U'.heap L ∧ FrameEnd U o U' L ({ frames := 1, cells := 0, slots := 0, locals := 12 } : Room).cells ({ frames := 1, cells := 0, slots := 0, locals := 12 } : Room).slots) := by
  refine MetFree.of_bodySF (plainFor_of_name pn_3) hisR ?_
  intro p e s m args below meth c s₁ Bd hml0 hP hK
  obtain ⟨rfl, hZ, hh⟩ := hP
  have hx := Bd.exec
  have hby := Bd.bytes
  have hml : c.maxLocals = 2 := hml0
  have hown : s.vm.findClass "com/example/keyfold/keyfold/spec/Transform" = some m.cls := findClass_of_methodNamed Bd.named
  have hnm := (name_of_methodNamed Bd.named Bd.method).1
  have X0 : Stand p l e ({ frames := 1, cells := 0, slots := 0, locals := 12 } : Room) s m #[(.ref a1), (.ref a2)] below meth c s₁ [] 0 0 := Stand.of_body Bd
  have e0 : s₁.heap = h0 := by rw [← hh, Bd.state]; rfl
  have N0 := Fr.nil n0
  have pre0 : ∀ tgt, Steps p.tables e below (s₁.setTop (mkF m 0 #[.val (.ref a1), .val (.ref a2)] [])) tgt → Steps p.tables e below (s₁.setTop (entryFrame m #[(.ref a1), (.ref a2)] 2)) tgt := fun tgt k => castTop (ef_rm4t m a1 a2) k
  obtain ⟨T1, X1, e1, st1⟩ := getF X0 hx hZ hown (host := "") (Or.inl (hw _ (List.mem_of_getElem? (i := 17) rfl))) Via.refl e0 F1 (g := (mkF m 1 #[.val (.ref a1), .val (.ref a2)] [(.ref a1)])) rfl rfl (hb hby d4_1)
  obtain ⟨T2, X2, e2, st2⟩ := getS2 X1 hx hZ hown (host := "") (Or.inl (hw _ (List.mem_of_getElem? (i := 53) rfl))) Via.refl e1 S1 (g := (mkF m 8 #[.val (.ref a1), .val (.ref a2)] [(.ref a2)])) rfl (hb hby d4_8)
  obtain ⟨fs, hr, hrun, hended, hW, hsame⟩ := X2.leave (v := some (.int (1 : Int32))) (fun h => by rw [Bd.returns] at h; cases h)
  refine ⟨_, _, pre0 _ ?_, hrun, hended, _, _, rfl, ?_, ⟨_, rfl⟩, hW, hsame.mono (by decide) (by decide)⟩
  · show Steps p.tables e below (s₁.setTop (mkF m 0 #[.val (.ref a1), .val (.ref a2)] [])) _
    refine XS.aloadN X0.here hx rfl (hb hby d4_0) rfl rfl ?_
    show Steps p.tables e below (s₁.setTop (mkF m 1 #[.val (.ref a1), .val (.ref a2)] [(.ref a1)])) _
    refine st1 _ ?_
    show Steps p.tables e below (T1.setTop (mkF m 4 #[.val (.ref a1), .val (.ref a2)] [(.int (1 : Int32))])) _
    refine XS.ifNo X1.here hx rfl (hb hby d4_4) rfl ((if0 _ _).trans (feq (by decide : ¬ ((1 : Int32) = (0 : Int32)))).1) ?_
    show Steps p.tables e below (T1.setTop (mkF m 7 #[.val (.ref a1), .val (.ref a2)] [])) _
    refine XS.aloadN X1.here hx rfl (hb hby d4_7) rfl rfl ?_
    show Steps p.tables e below (T1.setTop (mkF m 8 #[.val (.ref a1), .val (.ref a2)] [(.ref a2)])) _
    refine st2 _ ?_
    show Steps p.tables e below (T2.setTop (mkF m 11 #[.val (.ref a1), .val (.ref a2)] [(.ref a2), (.ref a2)])) _
    refine Jvm.RoadKit.acmp (g := (mkF m 11 #[.val (.ref a1), .val (.ref a2)] [(.ref a2), (.ref a2)])) X2 hx rfl rfl rfl (pc0 := 11) (pc' := 14) (same := true) rfl (hb hby d4_11) rfl (decide_eq_true rfl) (by decide) (by decide) ?_
    show Steps p.tables e below (T2.setTop (mkF m 14 #[.val (.ref a1), .val (.ref a2)] [])) _
    refine XS.iconst X2.here hx rfl (hb hby d4_14) ?_
    show Steps p.tables e below (T2.setTop (mkF m 15 #[.val (.ref a1), .val (.ref a2)] [(.int (1 : Int32))])) _
    refine XS.goto X2.here hx rfl (pc0 := 15) (pc' := 26) rfl (hb hby d4_15) (by decide) (by decide) ?_
    show Steps p.tables e below (T2.setTop (mkF m 26 #[.val (.ref a1), .val (.ref a2)] [(.int (1 : Int32))])) _
    exact retN X2 hx (t := .boolean) Bd.returns (by simp) (hb hby d4_26) hr
  · show Q4t Z a1 a2 h0 n0 _ T2.heap _
    rw [e2]
    exact ⟨rfl, N0, rfl⟩
theorem d4_22 : decode prog_91_method_5_code 22 = .ok (.aload_n 1, 1) := by decide +kernel
theorem d4_23 : decode prog_91_method_5_code 23 = .ok (.invokevirtual 120, 3) := by decide +kernel
theorem pd_1 : parseMethodDescriptor "()Z" = some ⟨[], some .boolean⟩ := by decide +kernel
theorem ef_rm4f (m : MethodId) (x0 : Addr) (x1 : Addr) : entryFrame m #[(.ref x0), (.ref x1)] 2 = mkF m 0 #[.val (.ref x0), .val (.ref x1)] [] := by first | (simp [entryFrame, mkF, argsToLocals, Value.category]; done) | rfl
def Q4f (Z : State) (a1 : Addr) (a2 : Addr) (h0 : Heap) (n0 : Nat) (v : Option Value) (h : Heap) (L : List Loc) : Prop := v = some (.int (0 : Int32)) ∧ Fr n0 L ∧ h = h0
set_option maxHeartbeats 40000000 in
theorem rm4f (l : Launch) (Z : State) (a0 : Array Value) (hw : ∀ d ∈ tables_1, d.before a0 Z = true) (ws : List Jvm.Cond) (a1 : Addr) (a2 : Addr) (h0 : Heap) (n0 : Nat) (Z0 : n0 ≤ h0.size) (F1 : Fld Z h0 a1 "com/example/keyfold/keyfold/spec/Transform" "truncates" "Z" (.int (0 : Int32))) (E2 : Exa Z h0 a2 "com/example/keyfold/keyfold/spec/ColumnType") (F2 : Fld Z h0 a2 "com/example/keyfold/keyfold/spec/ColumnType" "min" "Ljava/math/BigInteger;" .null) :
    MetFree l (⟨"com/example/keyfold/keyfold/spec/Transform", "fits", "(Lcom/example/keyfold/keyfold/spec/ColumnType;)Z"⟩ : MethodName) (head1 (Jvm.Cond.code (⟨"com/example/keyfold/keyfold/spec/Transform", "fits", "(Lcom/example/keyfold/keyfold/spec/ColumnType;)Z"⟩ : MethodName) prog_91_method_5_code 2 (some .boolean) :: ws) ({ frames := 1, cells := 0, slots := 0, locals := 12 } : Room)) (fun a U => a = #[(.ref a1), (.ref a2)] ∧ Z.Warmed39 U.vm ∧ U.heap = h0) (fun _ _ _ _ _ => True) (fun _ U o U' => ∃ v L, o = .returned v ∧ Q4f Z a1 a2 h0 n0 v U'.heap L ∧ FrameEnd U o U' L ({ frames := 1, cells := 0, slots := 0, locals := 12 } : Room).cells ({ frames := 1, cells := 0, slots := 0, locals := 12 } : Room).slots) := by
  refine MetFree.of_bodySF (plainFor_of_name pn_3) hisR ?_
  intro p e s m args below meth c s₁ Bd hml0 hP hK
  obtain ⟨rfl, hZ, hh⟩ := hP
  have hx := Bd.exec
  have hby := Bd.bytes
  have hml : c.maxLocals = 2 := hml0
  have hown : s.vm.findClass "com/example/keyfold/keyfold/spec/Transform" = some m.cls := findClass_of_methodNamed Bd.named
  have hnm := (name_of_methodNamed Bd.named Bd.method).1
  have X0 : Stand p l e ({ frames := 1, cells := 0, slots := 0, locals := 12 } : Room) s m #[(.ref a1), (.ref a2)] below meth c s₁ [] 0 0 := Stand.of_body Bd
  have e0 : s₁.heap = h0 := by rw [← hh, Bd.state]; rfl
  have N0 := Fr.nil n0
  have pre0 : ∀ tgt, Steps p.tables e below (s₁.setTop (mkF m 0 #[.val (.ref a1), .val (.ref a2)] [])) tgt → Steps p.tables e below (s₁.setTop (entryFrame m #[(.ref a1), (.ref a2)] 2)) tgt := fun tgt k => castTop (ef_rm4f m a1 a2) k
  obtain ⟨T1, X1, e1, st1⟩ := getF X0 hx hZ hown (host := "") (Or.inl (hw _ (List.mem_of_getElem? (i := 17) rfl))) Via.refl e0 F1 (g := (mkF m 1 #[.val (.ref a1), .val (.ref a2)] [(.ref a1)])) rfl rfl (hb hby d4_1)
  obtain ⟨cq2, kq2, q2a, q2b, q2c⟩ := isOf hZ e1 E2
  obtain ⟨_, _, ⟨T2, L2, k2, n2⟩, -, X2, ⟨Lc2, hQ2, l2, y2, z2⟩, st2⟩ := X1.virtualBack hx (y := (⟨"com/example/keyfold/keyfold/spec/ColumnType", "isInteger", "()Z"⟩ : MethodName)) (z := (⟨"com/example/keyfold/keyfold/spec/ColumnType", "isInteger", "()Z"⟩ : MethodName)) hown (mvT hZ (hw _ (List.mem_of_getElem? (i := 43) rfl))) (mvT hZ (hw _ (List.mem_of_getElem? (i := 44) rfl))) (notFace_of_selects (args := #[]) (mvT hZ (hw _ (List.mem_of_getElem? (i := 46) rfl)))) (mvT hZ (hw _ (List.mem_of_getElem? (i := 46) rfl))) (mvT hZ (hw _ (List.mem_of_getElem? (i := 45) rfl))) (by decide) (backOf (W := 0) (rm5 l Z a0 hw [] a2  h0 n0 Z0 F2) hZ (hw _ (List.mem_of_getElem? (i := 47) rfl)) (hw _ (List.mem_of_getElem? (i := 36) rfl)) (by decide) (by decide)) q2a q2c (g := (mkF m 23 #[.val (.ref a1), .val (.ref a2)] [(.ref a2)])) rfl (by rw [hml]; rfl) (Steps.refl _) (argsL := []) (rest := []) (lenOf pd_1 rfl) rfl (by show 2 * 0 + _ ≤ _; exact Nat.le_of_eq rfl) (hb hby d4_23) (fun _ _ => ⟨rfl, e1, (by decide : 0 + 0 ≤ _), (by decide : 0 + 0 ≤ _)⟩)
  dsimp only [Pt.U, Pt.locs, Pt.cells, Pt.slots] at X2 l2 y2 z2 st2 hQ2
  subst l2 y2 z2
  obtain ⟨rfl, Nq2, e2⟩ := hQ2
  have N3 := Fr.app N0 Nq2
  obtain ⟨fs, hr, hrun, hended, hW, hsame⟩ := X2.leave (v := some (.int (0 : Int32))) (fun h => by rw [Bd.returns] at h; cases h)
  refine ⟨_, _, pre0 _ ?_, hrun, hended, _, _, rfl, ?_, ⟨_, rfl⟩, hW, hsame.mono (by decide) (by decide)⟩
  · show Steps p.tables e below (s₁.setTop (mkF m 0 #[.val (.ref a1), .val (.ref a2)] [])) _
    refine XS.aloadN X0.here hx rfl (hb hby d4_0) rfl rfl ?_
    show Steps p.tables e below (s₁.setTop (mkF m 1 #[.val (.ref a1), .val (.ref a2)] [(.ref a1)])) _
    refine st1 _ ?_
    show Steps p.tables e below (T1.setTop (mkF m 4 #[.val (.ref a1), .val (.ref a2)] [(.int (0 : Int32))])) _
    refine XS.ifYes X1.here hx rfl (pc0 := 4) (pc' := 22) rfl (hb hby d4_4) rfl ((if0 _ _).trans (teq (rfl : (0 : Int32) = (0 : Int32))).1) (by decide) (by decide) ?_
    show Steps p.tables e below (T1.setTop (mkF m 22 #[.val (.ref a1), .val (.ref a2)] [])) _
    refine XS.aloadN X1.here hx rfl (hb hby d4_22) rfl rfl ?_
    show Steps p.tables e below (T1.setTop (mkF m 23 #[.val (.ref a1), .val (.ref a2)] [(.ref a2)])) _
    refine st2.trans ?_
    show Steps p.tables e below (T2.setTop (mkF m 26 #[.val (.ref a1), .val (.ref a2)] [(.int (0 : Int32))])) _
    exact retN X2 hx (t := .boolean) Bd.returns (by simp) (hb hby d4_26) hr
  · show Q4f Z a1 a2 h0 n0 _ T2.heap _
    rw [e2]
    exact ⟨rfl, N3, rfl⟩
theorem d1_0 : decode prog_91_method_6_code 0 = .ok (.aload_n 0, 1) := by decide +kernel
theorem d1_1 : decode prog_91_method_6_code 1 = .ok (.getfield 45, 3) := by decide +kernel
theorem d1_4 : decode prog_91_method_6_code 4 = .ok (.ifCond .eq 8, 3) := by decide +kernel
theorem d1_12 : decode prog_91_method_6_code 12 = .ok (.ldc 125, 2) := by decide +kernel
theorem d1_14 : decode prog_91_method_6_code 14 = .ok (.areturn, 1) := by decide +kernel
theorem ef_rm1_0 (m : MethodId) (x0 : Addr) : entryFrame m #[(.ref x0)] 1 = mkF m 0 #[.val (.ref x0)] [] := by first | (simp [entryFrame, mkF, argsToLocals, Value.category]; done) | rfl
def Q1_0 (Z : State) (t1 : Addr) (h0 : Heap) (n0 : Nat) (v : Option Value) (h : Heap) (L : List Loc) : Prop := ∃ a b kb, v = some (.ref a) ∧ Fr n0 L ∧ Ext h0 h ∧ Exa Z h a "java/lang/String" ∧ Fld Z h a "java/lang/String" "coder" "B" (.int (0 : Int32)) ∧ Fld Z h a "java/lang/String" "value" "[B" (.ref b) ∧ Arv Z h b kb .byte (10 : Int32) [.int 97, .int 110, .int 32, .int 105, .int 110, .int 116, .int 101, .int 103, .int 101, .int 114] (.int (0 : Int32))
set_option maxHeartbeats 40000000 in
theorem rm1_0 (l : Launch) (Z : State) (a0 : Array Value) (hw : ∀ d ∈ tables_1, d.before a0 Z = true) (ws : List Jvm.Cond) (t1 : Addr) (h0 : Heap) (n0 : Nat) (Z0 : n0 ≤ h0.size) (F1 : Fld Z h0 t1 "com/example/keyfold/keyfold/spec/Transform" "truncates" "Z" (.int (0 : Int32))) :
    MetFree l (⟨"com/example/keyfold/keyfold/spec/Transform", "gives", "()Ljava/lang/String;"⟩ : MethodName) (head1 (Jvm.Cond.code (⟨"com/example/keyfold/keyfold/spec/Transform", "gives", "()Ljava/lang/String;"⟩ : MethodName) prog_91_method_6_code 1 (some (.object "java/lang/String")) :: ws) ({ frames := 0, cells := 2, slots := 44, locals := 0 } : Room)) (fun a U => a = #[(.ref t1)] ∧ Z.Warmed39 U.vm ∧ U.heap = h0 ∧ CHv Z consts_1 U.vm h0) (fun _ _ _ _ _ => True) (fun _ U o U' => ∃ v L, o = .returned v ∧ Q1_0 Z t1 h0 n0 v U'.heap L ∧ CHr Z consts_1 U.vm U.heap U'.vm U'.heap ∧ ReturnedEndW U o U' L ({ frames := 0, cells := 2, slots := 44, locals := 0 } : Room).cells ({ frames := 0, cells := 2, slots := 44, locals := 0 } : Room).slots) := by
  refine MetFree.of_bodySF (plainFor_of_name pn_3) hisR ?_
  intro p e s m args below meth c s₁ Bd hml0 hP hK
  obtain ⟨rfl, hZ, hh, hC0⟩ := hP
  have hx := Bd.exec
  have hby := Bd.bytes
  have hml : c.maxLocals = 1 := hml0
  have hown : s.vm.findClass "com/example/keyfold/keyfold/spec/Transform" = some m.cls := findClass_of_methodNamed Bd.named
  have hnm := (name_of_methodNamed Bd.named Bd.method).1
  have X0 : Stand p l e ({ frames := 0, cells := 2, slots := 44, locals := 0 } : Room) s m #[(.ref t1)] below meth c s₁ [] 0 0 := Stand.of_body Bd
  have e0 : s₁.heap = h0 := by rw [← hh, Bd.state]; rfl
  have N0 := Fr.nil n0
  have pre0 : ∀ tgt, Steps p.tables e below (s₁.setTop (mkF m 0 #[.val (.ref t1)] [])) tgt → Steps p.tables e below (s₁.setTop (entryFrame m #[(.ref t1)] 1)) tgt := fun tgt k => castTop (ef_rm1_0 m t1) k
  have X0 : Stand p l e ({ frames := 0, cells := 2, slots := 44, locals := 0 } : Room) (s.setVm s.vm) m #[(.ref t1)] below meth c s₁ [] 0 0 := X0
  have hZ : Z.Warmed39 (s.setVm s.vm).vm := hZ
  have hown : (s.setVm s.vm).vm.findClass "com/example/keyfold/keyfold/spec/Transform" = some m.cls := hown
  have hS : s.Since s.vm 0 := (State.WarmedH.refl s).since 0
  have hk : 0 ≤ h0.size := Nat.zero_le _
  have C0 : CHr Z consts_1 s.vm h0 s.vm h0 := CHr.refl hC0
  obtain ⟨T1, X1, e1, st1⟩ := getF X0 hx hZ hown (host := "") (Or.inl (hw _ (List.mem_of_getElem? (i := 17) rfl))) Via.refl e0 F1 (g := (mkF m 1 #[.val (.ref t1)] [(.ref t1)])) rfl rfl (hb hby d1_1)
  obtain ⟨sa2, T2, h2, ks2, sb2, kb2, X2, e2, E2, hS, hk, hZ, hown, xa2, xc2, xv2, xr2, -, -, CH2, -, sf2, st2⟩ := ldcCH (EL := consts_1) X1 hx hZ hown (hw _ (List.mem_of_getElem? (i := 19) rfl)) (own_ws hw) e1 hS hk (own_ew hw) (List.mem_of_getElem? (i := 1) rfl) C0.1 (vs := [.int 97, .int 110, .int 32, .int 105, .int 110, .int 116, .int 101, .int 103, .int 101, .int 114]) (z := (10 : Int32)) ⟨by decide, rfl⟩ (by decide) rfl (g := (mkF m 12 #[.val (.ref t1)] [])) rfl (hb hby d1_12) (n := 40) (by decide) (by decide) (by decide) (by decide)
  have f3 := F1.ext E2
  have zz4 : n0 ≤ h2.size := Nat.le_trans Z0 E2.1
  have CG5 := C0.trans CH2
  obtain ⟨fs, hr, hrun, hended, hv1, hv2, hv3, hv4⟩ := X2.leaveW hS (by rw [e2]; exact hk) (v := some (.ref sa2)) (fun h => by rw [Bd.returns] at h; cases h)
  refine ⟨_, _, pre0 _ ?_, hrun, hended, _, _, rfl, ?_, ?_, hv1, hv2, hv3, hv4.mono (by decide) (by decide)⟩
  · show Steps p.tables e below (s₁.setTop (mkF m 0 #[.val (.ref t1)] [])) _
    refine XS.aloadN X0.here hx rfl (hb hby d1_0) rfl rfl ?_
    show Steps p.tables e below (s₁.setTop (mkF m 1 #[.val (.ref t1)] [(.ref t1)])) _
    refine st1 _ ?_
    show Steps p.tables e below (T1.setTop (mkF m 4 #[.val (.ref t1)] [(.int (0 : Int32))])) _
    refine XS.ifYes X1.here hx rfl (pc0 := 4) (pc' := 12) rfl (hb hby d1_4) rfl ((if0 _ _).trans (teq (rfl : (0 : Int32) = (0 : Int32))).1) (by decide) (by decide) ?_
    show Steps p.tables e below (T1.setTop (mkF m 12 #[.val (.ref t1)] [])) _
    refine st2 _ ?_
    show Steps p.tables e below (T2.setTop (mkF m 14 #[.val (.ref t1)] [(.ref sa2)])) _
    exact retOut X2 hx Bd.returns rfl (Or.inr (Or.inr (Or.inr (Or.inr ⟨rfl, rfl, rfl⟩)))) (hb hby d1_14) hr
  · show Q1_0 Z t1 h0 n0 _ T2.heap _
    rw [e2]
    exact ⟨_, _, _, rfl, N0, E2, xa2, xc2, xv2, xr2⟩
  · show CHr Z consts_1 s.vm s.heap T2.vm T2.heap
    rw [hh, e2]
    exact CG5.trans (CHv.at X2 hZ (own_ew hw) CG5.1)
theorem d1_7 : decode prog_91_method_6_code 7 = .ok (.ldc 123, 2) := by decide +kernel
theorem d1_9 : decode prog_91_method_6_code 9 = .ok (.goto 5, 3) := by decide +kernel
theorem ef_rm1_1 (m : MethodId) (x0 : Addr) : entryFrame m #[(.ref x0)] 1 = mkF m 0 #[.val (.ref x0)] [] := by first | (simp [entryFrame, mkF, argsToLocals, Value.category]; done) | rfl
def Q1_1 (Z : State) (t1 : Addr) (h0 : Heap) (n0 : Nat) (v : Option Value) (h : Heap) (L : List Loc) : Prop := ∃ a b kb, v = some (.ref a) ∧ Fr n0 L ∧ Ext h0 h ∧ Exa Z h a "java/lang/String" ∧ Fld Z h a "java/lang/String" "coder" "B" (.int (0 : Int32)) ∧ Fld Z h a "java/lang/String" "value" "[B" (.ref b) ∧ Arv Z h b kb .byte (6 : Int32) [.int 97, .int 32, .int 100, .int 97, .int 116, .int 101] (.int (0 : Int32))
set_option maxHeartbeats 40000000 in
theorem rm1_1 (l : Launch) (Z : State) (a0 : Array Value) (hw : ∀ d ∈ tables_1, d.before a0 Z = true) (ws : List Jvm.Cond) (t1 : Addr) (h0 : Heap) (n0 : Nat) (Z0 : n0 ≤ h0.size) (F1 : Fld Z h0 t1 "com/example/keyfold/keyfold/spec/Transform" "truncates" "Z" (.int (1 : Int32))) :
    MetFree l (⟨"com/example/keyfold/keyfold/spec/Transform", "gives", "()Ljava/lang/String;"⟩ : MethodName) (head1 (Jvm.Cond.code (⟨"com/example/keyfold/keyfold/spec/Transform", "gives", "()Ljava/lang/String;"⟩ : MethodName) prog_91_method_6_code 1 (some (.object "java/lang/String")) :: ws) ({ frames := 0, cells := 2, slots := 44, locals := 0 } : Room)) (fun a U => a = #[(.ref t1)] ∧ Z.Warmed39 U.vm ∧ U.heap = h0 ∧ CHv Z consts_1 U.vm h0) (fun _ _ _ _ _ => True) (fun _ U o U' => ∃ v L, o = .returned v ∧ Q1_1 Z t1 h0 n0 v U'.heap L ∧ CHr Z consts_1 U.vm U.heap U'.vm U'.heap ∧ ReturnedEndW U o U' L ({ frames := 0, cells := 2, slots := 44, locals := 0 } : Room).cells ({ frames := 0, cells := 2, slots := 44, locals := 0 } : Room).slots) := by
  refine MetFree.of_bodySF (plainFor_of_name pn_3) hisR ?_
  intro p e s m args below meth c s₁ Bd hml0 hP hK
  obtain ⟨rfl, hZ, hh, hC0⟩ := hP
  have hx := Bd.exec
  have hby := Bd.bytes
  have hml : c.maxLocals = 1 := hml0
  have hown : s.vm.findClass "com/example/keyfold/keyfold/spec/Transform" = some m.cls := findClass_of_methodNamed Bd.named
  have hnm := (name_of_methodNamed Bd.named Bd.method).1
  have X0 : Stand p l e ({ frames := 0, cells := 2, slots := 44, locals := 0 } : Room) s m #[(.ref t1)] below meth c s₁ [] 0 0 := Stand.of_body Bd
  have e0 : s₁.heap = h0 := by rw [← hh, Bd.state]; rfl
  have N0 := Fr.nil n0
  have pre0 : ∀ tgt, Steps p.tables e below (s₁.setTop (mkF m 0 #[.val (.ref t1)] [])) tgt → Steps p.tables e below (s₁.setTop (entryFrame m #[(.ref t1)] 1)) tgt := fun tgt k => castTop (ef_rm1_1 m t1) k
  have X0 : Stand p l e ({ frames := 0, cells := 2, slots := 44, locals := 0 } : Room) (s.setVm s.vm) m #[(.ref t1)] below meth c s₁ [] 0 0 := X0
  have hZ : Z.Warmed39 (s.setVm s.vm).vm := hZ
  have hown : (s.setVm s.vm).vm.findClass "com/example/keyfold/keyfold/spec/Transform" = some m.cls := hown
  have hS : s.Since s.vm 0 := (State.WarmedH.refl s).since 0
  have hk : 0 ≤ h0.size := Nat.zero_le _
  have C0 : CHr Z consts_1 s.vm h0 s.vm h0 := CHr.refl hC0
  obtain ⟨T1, X1, e1, st1⟩ := getF X0 hx hZ hown (host := "") (Or.inl (hw _ (List.mem_of_getElem? (i := 17) rfl))) Via.refl e0 F1 (g := (mkF m 1 #[.val (.ref t1)] [(.ref t1)])) rfl rfl (hb hby d1_1)
  obtain ⟨sa2, T2, h2, ks2, sb2, kb2, X2, e2, E2, hS, hk, hZ, hown, xa2, xc2, xv2, xr2, -, -, CH2, -, sf2, st2⟩ := ldcCH (EL := consts_1) X1 hx hZ hown (hw _ (List.mem_of_getElem? (i := 52) rfl)) (own_ws hw) e1 hS hk (own_ew hw) (List.mem_of_getElem? (i := 0) rfl) C0.1 (vs := [.int 97, .int 32, .int 100, .int 97, .int 116, .int 101]) (z := (6 : Int32)) ⟨by decide, rfl⟩ (by decide) rfl (g := (mkF m 7 #[.val (.ref t1)] [])) rfl (hb hby d1_7) (n := 24) (by decide) (by decide) (by decide) (by decide)
  have f3 := F1.ext E2
  have zz4 : n0 ≤ h2.size := Nat.le_trans Z0 E2.1
  have CG5 := C0.trans CH2
  obtain ⟨fs, hr, hrun, hended, hv1, hv2, hv3, hv4⟩ := X2.leaveW hS (by rw [e2]; exact hk) (v := some (.ref sa2)) (fun h => by rw [Bd.returns] at h; cases h)
  refine ⟨_, _, pre0 _ ?_, hrun, hended, _, _, rfl, ?_, ?_, hv1, hv2, hv3, hv4.mono (by decide) (by decide)⟩
  · show Steps p.tables e below (s₁.setTop (mkF m 0 #[.val (.ref t1)] [])) _
    refine XS.aloadN X0.here hx rfl (hb hby d1_0) rfl rfl ?_
    show Steps p.tables e below (s₁.setTop (mkF m 1 #[.val (.ref t1)] [(.ref t1)])) _
    refine st1 _ ?_
    show Steps p.tables e below (T1.setTop (mkF m 4 #[.val (.ref t1)] [(.int (1 : Int32))])) _
    refine XS.ifNo X1.here hx rfl (hb hby d1_4) rfl ((if0 _ _).trans (feq (by decide : ¬ ((1 : Int32) = (0 : Int32)))).1) ?_
    show Steps p.tables e below (T1.setTop (mkF m 7 #[.val (.ref t1)] [])) _
    refine st2 _ ?_
    show Steps p.tables e below (T2.setTop (mkF m 9 #[.val (.ref t1)] [(.ref sa2)])) _
    refine XS.goto X2.here hx rfl (pc0 := 9) (pc' := 14) rfl (hb hby d1_9) (by decide) (by decide) ?_
    show Steps p.tables e below (T2.setTop (mkF m 14 #[.val (.ref t1)] [(.ref sa2)])) _
    exact retOut X2 hx Bd.returns rfl (Or.inr (Or.inr (Or.inr (Or.inr ⟨rfl, rfl, rfl⟩)))) (hb hby d1_14) hr
  · show Q1_1 Z t1 h0 n0 _ T2.heap _
    rw [e2]
    exact ⟨_, _, _, rfl, N0, E2, xa2, xc2, xv2, xr2⟩
  · show CHr Z consts_1 s.vm s.heap T2.vm T2.heap
    rw [hh, e2]
    exact CG5.trans (CHv.at X2 hZ (own_ew hw) CG5.1)
theorem pd_2 : parseMethodDescriptor "()Ljava/lang/String;" = some ⟨[], some (.object "java/lang/String")⟩ := by decide +kernel
theorem pd_3 : parseMethodDescriptor "(Ljava/lang/Object;)Z" = some ⟨[(.object "java/lang/Object")], some .boolean⟩ := by decide +kernel
theorem pd_4 : parseMethodDescriptor "(Lcom/example/keyfold/keyfold/spec/ColumnType;)Z" = some ⟨[(.object "com/example/keyfold/keyfold/spec/ColumnType")], some .boolean⟩ := by decide +kernel
theorem pn_4 : plainName "com/example/keyfold/keyfold/spec/TransformGivesPinLaw" = true := by first | (simp [plainName, overriddenIn]; done) | decide +kernel
theorem ef_rm0 (m : MethodId) (x0 : Int32) : entryFrame m #[(.int x0)] maxLocals = mkF m 0 #[.val (.int x0), .unset, .unset, .unset, .unset, .unset] [] := by first | (simp [entryFrame, mkF, argsToLocals, Value.category, maxLocals]; done) | rfl
def Q0 (Z : State) (p0 : Int32) (t0 t1 t2 t3 t4 t5 dt : Addr) (cs : Int32) (h0 : Heap) (n0 : Nat) (v : Option Value) (h : Heap) (L : List Loc) : Prop := v = some (.int (1 : Int32)) ∧ Fr n0 L
set_option maxHeartbeats 40000000 in
theorem rm0 (l : Launch) (Z : State) (a0 : Array Value) (hw : ∀ d ∈ tables_1, d.before a0 Z = true) (ws : List Jvm.Cond) (p0 : Int32) (t0 t1 t2 t3 t4 t5 dt : Addr) (cs : Int32) (h0 : Heap) (n0 : Nat) (Z0 : n0 ≤ h0.size) (Sx0 : Sta Z h0 "com/example/keyfold/keyfold/spec/Transform" "YEAR" "Lcom/example/keyfold/keyfold/spec/Transform;" (.ref t0)) (Ex0 : Exa Z h0 t0 "com/example/keyfold/keyfold/spec/Transform") (Fx0 : Fld Z h0 t0 "com/example/keyfold/keyfold/spec/Transform" "truncates" "Z" (.int (0 : Int32))) (Sx1 : Sta Z h0 "com/example/keyfold/keyfold/spec/Transform" "MONTH" "Lcom/example/keyfold/keyfold/spec/Transform;" (.ref t1)) (Ex1 : Exa Z h0 t1 "com/example/keyfold/keyfold/spec/Transform") (Fx1 : Fld Z h0 t1 "com/example/keyfold/keyfold/spec/Transform" "truncates" "Z" (.int (0 : Int32))) (Sx2 : Sta Z h0 "com/example/keyfold/keyfold/spec/Transform" "DAY" "Lcom/example/keyfold/keyfold/spec/Transform;" (.ref t2)) (Ex2 : Exa Z h0 t2 "com/example/keyfold/keyfold/spec/Transform") (Fx2 : Fld Z h0 t2 "com/example/keyfold/keyfold/spec/Transform" "truncates" "Z" (.int (0 : Int32))) (Sx3 : Sta Z h0 "com/example/keyfold/keyfold/spec/Transform" "TRUNC_YEAR" "Lcom/example/keyfold/keyfold/spec/Transform;" (.ref t3)) (Ex3 : Exa Z h0 t3 "com/example/keyfold/keyfold/spec/Transform") (Fx3 : Fld Z h0 t3 "com/example/keyfold/keyfold/spec/Transform" "truncates" "Z" (.int (1 : Int32))) (Sx4 : Sta Z h0 "com/example/keyfold/keyfold/spec/Transform" "TRUNC_MONTH" "Lcom/example/keyfold/keyfold/spec/Transform;" (.ref t4)) (Ex4 : Exa Z h0 t4 "com/example/keyfold/keyfold/spec/Transform") (Fx4 : Fld Z h0 t4 "com/example/keyfold/keyfold/spec/Transform" "truncates" "Z" (.int (1 : Int32))) (Sx5 : Sta Z h0 "com/example/keyfold/keyfold/spec/Transform" "TRUNC_DAY" "Lcom/example/keyfold/keyfold/spec/Transform;" (.ref t5)) (Ex5 : Exa Z h0 t5 "com/example/keyfold/keyfold/spec/Transform") (Fx5 : Fld Z h0 t5 "com/example/keyfold/keyfold/spec/Transform" "truncates" "Z" (.int (1 : Int32))) (Sd : Sta Z h0 "com/example/keyfold/keyfold/spec/ColumnType" "DATE" "Lcom/example/keyfold/keyfold/spec/ColumnType;" (.ref dt)) (Ed : Exa Z h0 dt "com/example/keyfold/keyfold/spec/ColumnType") (Fd : Fld Z h0 dt "com/example/keyfold/keyfold/spec/ColumnType" "min" "Ljava/math/BigInteger;" .null) (Sc : Sta Z h0 "java/lang/String" "COMPACT_STRINGS" "Z" (.int cs)) (hcs : ¬ cs = 0) :
    MetFree l x (head1 (Jvm.Cond.code x code maxLocals ret :: ws) room_1) (fun a U => a = #[(.int p0)] ∧ Z.Warmed39 U.vm ∧ U.heap = h0 ∧ CHv Z consts_1 U.vm h0) (fun _ _ _ _ _ => True) (fun _ U o U' => ∃ v L, o = .returned v ∧ Q0 Z p0 t0 t1 t2 t3 t4 t5 dt cs h0 n0 v U'.heap L ∧ CHr Z consts_1 U.vm U.heap U'.vm U'.heap ∧ ReturnedEndW U o U' L room_1.cells room_1.slots) := by
  refine MetFree.of_bodySF (plainFor_of_name pn_4) hisR ?_
  intro p e s m args below meth c s₁ Bd hml0 hP hK
  obtain ⟨rfl, hZ, hh, hC0⟩ := hP
  have hx := Bd.exec
  have hby := Bd.bytes
  have hml : c.maxLocals = 6 := hml0
  have hown : s.vm.findClass "com/example/keyfold/keyfold/spec/TransformGivesPinLaw" = some m.cls := findClass_of_methodNamed Bd.named
  have hnm := (name_of_methodNamed Bd.named Bd.method).1
  have X0 : Stand p l e room_1 s m #[(.int p0)] below meth c s₁ [] 0 0 := Stand.of_body Bd
  have e0 : s₁.heap = h0 := by rw [← hh, Bd.state]; rfl
  have N0 := Fr.nil n0
  have pre0 : ∀ tgt, Steps p.tables e below (s₁.setTop (mkF m 0 #[.val (.int p0), .unset, .unset, .unset, .unset, .unset] [])) tgt → Steps p.tables e below (s₁.setTop (entryFrame m #[(.int p0)] maxLocals)) tgt := fun tgt k => castTop (ef_rm0 m p0) k
  have X0 : Stand p l e room_1 (s.setVm s.vm) m #[(.int p0)] below meth c s₁ [] 0 0 := X0
  have hZ : Z.Warmed39 (s.setVm s.vm).vm := hZ
  have hown : (s.setVm s.vm).vm.findClass "com/example/keyfold/keyfold/spec/TransformGivesPinLaw" = some m.cls := hown
  have hS : s.Since s.vm 0 := (State.WarmedH.refl s).since 0
  have hk : 0 ≤ h0.size := Nat.zero_le _
  have C0 : CHr Z consts_1 s.vm h0 s.vm h0 := CHr.refl hC0
  have pre1 : ∀ tgt, Steps p.tables e below (s₁.setTop (mkF m 8 #[.val (.int p0), .val (.int ((p0 &&& (2147483647 : Int32)) % (6 : Int32))), .unset, .unset, .unset, .unset] [])) tgt → Steps p.tables e below (s₁.setTop (entryFrame m #[(.int p0)] maxLocals)) tgt := fun tgt kt => pre0 _ (by
    show Steps p.tables e below (s₁.setTop (mkF m 0 #[.val (.int p0), .unset, .unset, .unset, .unset, .unset] [])) _
    refine XS.iloadN X0.here hx rfl (hb hby at_0) rfl ?_
    show Steps p.tables e below (s₁.setTop (mkF m 1 #[.val (.int p0), .unset, .unset, .unset, .unset, .unset] [(.int p0)])) _
    refine X0.ldcInt hx hown (mvT hZ (hw _ (List.mem_of_getElem? (i := 0) rfl))) (g := (mkF m 1 #[.val (.int p0), .unset, .unset, .unset, .unset, .unset] [(.int p0)])) rfl (hb hby at_1) _ ?_
    show Steps p.tables e below (s₁.setTop (mkF m 3 #[.val (.int p0), .unset, .unset, .unset, .unset, .unset] [(.int (2147483647 : Int32)), (.int p0)])) _
    refine XS.iand X0.here hx rfl (hb hby at_3) rfl ?_
    show Steps p.tables e below (s₁.setTop (mkF m 4 #[.val (.int p0), .unset, .unset, .unset, .unset, .unset] [(.int (p0 &&& (2147483647 : Int32)))])) _
    refine XS.bipush X0.here hx rfl (hb hby at_4) ?_
    show Steps p.tables e below (s₁.setTop (mkF m 6 #[.val (.int p0), .unset, .unset, .unset, .unset, .unset] [(.int (6 : Int32)), (.int (p0 &&& (2147483647 : Int32)))])) _
    refine iremM X0 hx rfl (hb hby at_6) rfl (by decide) ?_
    show Steps p.tables e below (s₁.setTop (mkF m 7 #[.val (.int p0), .unset, .unset, .unset, .unset, .unset] [(.int ((p0 &&& (2147483647 : Int32)) % (6 : Int32)))])) _
    refine XS.istoreN X0.here hx rfl (hb hby at_7) rfl (l' := #[.val (.int p0), .val (.int ((p0 &&& (2147483647 : Int32)) % (6 : Int32))), .unset, .unset, .unset, .unset]) rfl ?_
    exact kt)
  obtain ⟨ix, hix⟩ : ∃ z, z = ((p0 &&& (2147483647 : Int32)) % (6 : Int32)) := ⟨_, rfl⟩
  rw [← hix] at pre1
  have pre2 : ∀ tgt, Steps p.tables e below (s₁.setTop (mkF m 9 #[.val (.int p0), .val (.int ix), .unset, .unset, .unset, .unset] [(.int ix)])) tgt → Steps p.tables e below (s₁.setTop (entryFrame m #[(.int p0)] maxLocals)) tgt := fun tgt kt => pre1 _ (by
    show Steps p.tables e below (s₁.setTop (mkF m 8 #[.val (.int p0), .val (.int ix), .unset, .unset, .unset, .unset] [])) _
    refine XS.iloadN X0.here hx rfl (hb hby at_8) rfl ?_
    exact kt)
  by_cases hc0 : ix = (0 : Int32)
  · have pre3 : ∀ tgt, Steps p.tables e below (s₁.setTop (mkF m 12 #[.val (.int p0), .val (.int ix), .unset, .unset, .unset, .unset] [])) tgt → Steps p.tables e below (s₁.setTop (entryFrame m #[(.int p0)] maxLocals)) tgt := fun tgt kt => pre2 _ (by
      show Steps p.tables e below (s₁.setTop (mkF m 9 #[.val (.int p0), .val (.int ix), .unset, .unset, .unset, .unset] [(.int ix)])) _
      refine XS.ifNo X0.here hx rfl (hb hby at_9) rfl ((if0 _ _).trans (teq hc0).2) ?_
      exact kt)
    obtain ⟨T4, X4, e4, st4⟩ := getS2 X0 hx hZ hown (host := "") (Or.inl (hw _ (List.mem_of_getElem? (i := 1) rfl))) Via.refl e0 Sx0 (g := (mkF m 12 #[.val (.int p0), .val (.int ix), .unset, .unset, .unset, .unset] [])) rfl (hb hby at_12)
    obtain ⟨sa5, T5, h5, ks5, sb5, kb5, X5, e5, E5, hS, hk, hZ, hown, xa5, xc5, xv5, xr5, -, -, CH5, -, sf5, st5⟩ := ldcCH (EL := consts_1) X4 hx hZ hown (hw _ (List.mem_of_getElem? (i := 4) rfl)) (own_ws hw) e4 hS hk (own_ew hw) (List.mem_of_getElem? (i := 2) rfl) C0.1 (vs := [.int 97, .int 110, .int 32, .int 105, .int 110, .int 116, .int 101, .int 103, .int 101, .int 114]) (z := (10 : Int32)) ⟨by decide, rfl⟩ (by decide) rfl (g := (mkF m 16 #[.val (.int p0), .val (.int ix), .val (.ref t0), .unset, .unset, .unset] [])) rfl (hb hby at_16) (n := 40) (by decide) (by decide) (by decide) (by decide)
    have f6 := Sx0.ext E5
    have f7 := Ex0.ext E5
    have f8 := Fx0.ext E5
    have f9 := Sd.ext E5
    have f10 := Ed.ext E5
    have f11 := Fd.ext E5
    have f12 := Sc.ext E5
    have zz13 : n0 ≤ h5.size := Nat.le_trans Z0 E5.1
    have CG14 := C0.trans CH5
    obtain ⟨cq15, kq15, q15a, q15b, q15c⟩ := isOf hZ e5 f7
    obtain ⟨_, _, ⟨T15, L15, k15, n15⟩, -, Xr15, hSr15, hgr15, ⟨Lc15, hQ15, l15, y15, z15, hCr15⟩, st15⟩ := X5.virtualBackS hx (y := (⟨"com/example/keyfold/keyfold/spec/Transform", "gives", "()Ljava/lang/String;"⟩ : MethodName)) (z := (⟨"com/example/keyfold/keyfold/spec/Transform", "gives", "()Ljava/lang/String;"⟩ : MethodName)) hown (mvT hZ (hw _ (List.mem_of_getElem? (i := 12) rfl))) (mvT hZ (hw _ (List.mem_of_getElem? (i := 13) rfl))) (notFace_of_selects (args := #[]) (mvT hZ (hw _ (List.mem_of_getElem? (i := 15) rfl)))) (mvT hZ (hw _ (List.mem_of_getElem? (i := 15) rfl))) (mvT hZ (hw _ (List.mem_of_getElem? (i := 14) rfl))) (by decide) (backOfSH (W := 0) (rm1_0 l Z a0 hw [] t0 h5 n0 zz13 f8) hZ (hw _ (List.mem_of_getElem? (i := 16) rfl)) (hw _ (List.mem_of_getElem? (i := 2) rfl)) (by decide) (by decide) (own_ew hw) CG14.1) q15a q15c (g := (mkF m 90 #[.val (.int p0), .val (.int ix), .val (.ref t0), .val (.ref sa5), .unset, .unset] [(.ref t0)])) rfl (by rw [hml]; rfl) (Steps.refl _) (argsL := []) (rest := []) (lenOf pd_2 rfl) rfl (by show 2 * 0 + _ ≤ _; exact Nat.le_of_eq rfl) (hb hby at_90) (fun _ _ => ⟨rfl, e5, (by decide : 2 + 2 ≤ _), (by decide : 44 + 44 ≤ _)⟩)
    dsimp only [Pt.U, Pt.locs, Pt.cells, Pt.slots] at Xr15 l15 y15 z15 st15 hQ15 hSr15 hgr15 hCr15
    subst l15 y15 z15
    obtain ⟨X15, hS, hZ, hown⟩ := rebS hS (by rw [e5]; exact hk) Xr15 hSr15 hgr15 hZ hown
    have hk := Nat.le_refl T15.heap.size
    have CG16 := CG14.trans hCr15
    obtain ⟨sa15, sb15, kb15, rfl, Nq15, E15, xa15, xc15, xv15, xr15⟩ := hQ15
    have f17 := f6.ext E15
    have f18 := f7.ext E15
    have f19 := f8.ext E15
    have f20 := f9.ext E15
    have f21 := f10.ext E15
    have f22 := f11.ext E15
    have f23 := f12.ext E15
    have f24 := xa5.ext E15
    have f25 := xc5.ext E15
    have f26 := xv5.ext E15
    have f27 := xr5.ext E15
    have zz28 : n0 ≤ T15.heap.size := Nat.le_trans zz13 E15.1
    have N29 := Fr.app N0 Nq15
    have pre30 : ∀ tgt, Steps p.tables e below (T15.setTop (mkF m 95 #[.val (.int p0), .val (.int ix), .val (.ref t0), .val (.ref sa5), .val (.ref sa15), .unset] [])) tgt → Steps p.tables e below (s₁.setTop (entryFrame m #[(.int p0)] maxLocals)) tgt := fun tgt kt => pre3 _ (by
      show Steps p.tables e below (s₁.setTop (mkF m 12 #[.val (.int p0), .val (.int ix), .unset, .unset, .unset, .unset] [])) _
      refine st4 _ ?_
      show Steps p.tables e below (T4.setTop (mkF m 15 #[.val (.int p0), .val (.int ix), .unset, .unset, .unset, .unset] [(.ref t0)])) _
      refine XS.astoreN X4.here hx rfl (hb hby at_15) rfl rfl (l' := #[.val (.int p0), .val (.int ix), .val (.ref t0), .unset, .unset, .unset]) rfl ?_
      show Steps p.tables e below (T4.setTop (mkF m 16 #[.val (.int p0), .val (.int ix), .val (.ref t0), .unset, .unset, .unset] [])) _
      refine st5 _ ?_
      show Steps p.tables e below (T5.setTop (mkF m 18 #[.val (.int p0), .val (.int ix), .val (.ref t0), .unset, .unset, .unset] [(.ref sa5)])) _
      refine XS.astoreN X5.here hx rfl (hb hby at_18) rfl rfl (l' := #[.val (.int p0), .val (.int ix), .val (.ref t0), .val (.ref sa5), .unset, .unset]) rfl ?_
      show Steps p.tables e below (T5.setTop (mkF m 19 #[.val (.int p0), .val (.int ix), .val (.ref t0), .val (.ref sa5), .unset, .unset] [])) _
      refine XS.goto X5.here hx rfl (pc0 := 19) (pc' := 89) rfl (hb hby at_19) (by decide) (by decide) ?_
      show Steps p.tables e below (T5.setTop (mkF m 89 #[.val (.int p0), .val (.int ix), .val (.ref t0), .val (.ref sa5), .unset, .unset] [])) _
      refine XS.aloadN X5.here hx rfl (hb hby at_89) rfl rfl ?_
      show Steps p.tables e below (T5.setTop (mkF m 90 #[.val (.int p0), .val (.int ix), .val (.ref t0), .val (.ref sa5), .unset, .unset] [(.ref t0)])) _
      refine st15.trans ?_
      show Steps p.tables e below (T15.setTop (mkF m 93 #[.val (.int p0), .val (.int ix), .val (.ref t0), .val (.ref sa5), .unset, .unset] [(.ref sa15)])) _
      refine XS.astore X15.here hx rfl (hb hby at_93) rfl rfl (l' := #[.val (.int p0), .val (.int ix), .val (.ref t0), .val (.ref sa5), .val (.ref sa15), .unset]) rfl ?_
      exact kt)
    obtain ⟨sa31, T31, h31, ks31, sb31, kb31, X31, e31, E31, hS, hk, hZ, hown, xa31, xc31, xv31, xr31, -, -, CH31, -, sf31, st31⟩ := ldcCH (EL := consts_1) X15 hx hZ hown (hw _ (List.mem_of_getElem? (i := 20) rfl)) (own_ws hw) rfl hS hk (own_ew hw) (List.mem_of_getElem? (i := 3) rfl) CG16.1 (vs := [.int 97, .int 32, .int 100, .int 97, .int 116, .int 101]) (z := (6 : Int32)) ⟨by decide, rfl⟩ (by decide) rfl (g := (mkF m 97 #[.val (.int p0), .val (.int ix), .val (.ref t0), .val (.ref sa5), .val (.ref sa15), .unset] [(.ref sa15)])) rfl (hb hby at_97) (n := 24) (by decide) (by decide) (by decide) (by decide)
    have f32 := f17.ext E31
    have f33 := f18.ext E31
    have f34 := f19.ext E31
    have f35 := f20.ext E31
    have f36 := f21.ext E31
    have f37 := f22.ext E31
    have f38 := f23.ext E31
    have f39 := f24.ext E31
    have f40 := f25.ext E31
    have f41 := f26.ext E31
    have f42 := f27.ext E31
    have f43 := xa15.ext E31
    have f44 := xc15.ext E31
    have f45 := xv15.ext E31
    have f46 := xr15.ext E31
    have zz47 : n0 ≤ h31.size := Nat.le_trans zz28 E31.1
    have CG48 := CG16.trans CH31
    obtain ⟨cq49, kq49, q49a, q49b, q49c⟩ := isOf hZ e31 f43
    obtain ⟨_, _, ⟨T49, L49, k49, n49⟩, -, X49, ⟨Lc49, hQ49, l49, y49, z49⟩, st49⟩ := X31.virtualBack hx (y := (⟨"java/lang/String", "equals", "(Ljava/lang/Object;)Z"⟩ : MethodName)) (z := (⟨"java/lang/String", "equals", "(Ljava/lang/Object;)Z"⟩ : MethodName)) hown (mvT hZ (hw _ (List.mem_of_getElem? (i := 21) rfl))) (mvT hZ (hw _ (List.mem_of_getElem? (i := 22) rfl))) (notFace_of_selects (args := #[]) (mvT hZ (hw _ (List.mem_of_getElem? (i := 24) rfl)))) (mvT hZ (hw _ (List.mem_of_getElem? (i := 24) rfl))) (mvT hZ (hw _ (List.mem_of_getElem? (i := 23) rfl))) (by decide) (backOf (W := 0) (rm2d10_6 l Z a0 hw [] sa15 sa31 sb15 sb31 kb15 kb31 cs (97 : Int32) (110 : Int32) (32 : Int32) (105 : Int32) (110 : Int32) (116 : Int32) (101 : Int32) (103 : Int32) (101 : Int32) (114 : Int32) (97 : Int32) (32 : Int32) (100 : Int32) (97 : Int32) (116 : Int32) (101 : Int32) h31 n0 zz47 xa31 f44 f45 xc31 xv31 f46 xr31 f38 hcs) hZ (hw _ (List.mem_of_getElem? (i := 25) rfl)) (hw _ (List.mem_of_getElem? (i := 5) rfl)) (by decide) (by decide)) q49a q49c (g := (mkF m 99 #[.val (.int p0), .val (.int ix), .val (.ref t0), .val (.ref sa5), .val (.ref sa15), .unset] [(.ref sa31), (.ref sa15)])) rfl (by rw [hml]; rfl) (Steps.refl _) (argsL := [(.ref sa31)]) (rest := []) (lenOf pd_3 rfl) rfl (by show 2 * 0 + _ ≤ _; exact Nat.le_of_eq rfl) (hb hby at_99) (fun _ _ => ⟨rfl, e31, (by decide : 6 + 0 ≤ _), (by decide : 116 + 0 ≤ _)⟩)
    dsimp only [Pt.U, Pt.locs, Pt.cells, Pt.slots] at X49 l49 y49 z49 st49 hQ49
    subst l49 y49 z49
    obtain ⟨rfl, Nq49, e49⟩ := hQ49
    have N50 := Fr.app N29 Nq49
    obtain ⟨cq51, kq51, q51a, q51b, q51c⟩ := isOf hZ e49 f43
    obtain ⟨_, _, ⟨T51, L51, k51, n51⟩, -, X51, ⟨Lc51, hQ51, l51, y51, z51⟩, st51⟩ := X49.virtualBack hx (y := (⟨"java/lang/String", "equals", "(Ljava/lang/Object;)Z"⟩ : MethodName)) (z := (⟨"java/lang/String", "equals", "(Ljava/lang/Object;)Z"⟩ : MethodName)) hown (mvT hZ (hw _ (List.mem_of_getElem? (i := 21) rfl))) (mvT hZ (hw _ (List.mem_of_getElem? (i := 22) rfl))) (notFace_of_selects (args := #[]) (mvT hZ (hw _ (List.mem_of_getElem? (i := 24) rfl)))) (mvT hZ (hw _ (List.mem_of_getElem? (i := 24) rfl))) (mvT hZ (hw _ (List.mem_of_getElem? (i := 23) rfl))) (by decide) (backOf (W := 0) (rm2e10 l Z a0 hw [] sa15 sa5 sb15 sb5 kb15 kb5 cs (97 : Int32) (110 : Int32) (32 : Int32) (105 : Int32) (110 : Int32) (116 : Int32) (101 : Int32) (103 : Int32) (101 : Int32) (114 : Int32) h31 n0 zz47 f39 f44 f45 f40 f41 f46 f42 f38 hcs) hZ (hw _ (List.mem_of_getElem? (i := 25) rfl)) (hw _ (List.mem_of_getElem? (i := 5) rfl)) (by decide) (by decide)) q51a q51c (g := (mkF m 107 #[.val (.int p0), .val (.int ix), .val (.ref t0), .val (.ref sa5), .val (.ref sa15), .val (.int (0 : Int32))] [(.ref sa5), (.ref sa15)])) rfl (by rw [hml]; rfl) (Steps.refl _) (argsL := [(.ref sa5)]) (rest := []) (lenOf pd_3 rfl) rfl (by show 2 * 0 + _ ≤ _; exact Nat.le_of_eq rfl) (hb hby at_107) (fun _ _ => ⟨rfl, e49, (by decide : 6 + 0 ≤ _), (by decide : 116 + 0 ≤ _)⟩)
    dsimp only [Pt.U, Pt.locs, Pt.cells, Pt.slots] at X51 l51 y51 z51 st51 hQ51
    subst l51 y51 z51
    obtain ⟨rfl, Nq51, e51⟩ := hQ51
    have N52 := Fr.app N50 Nq51
    have pre53 : ∀ tgt, Steps p.tables e below (T51.setTop (mkF m 113 #[.val (.int p0), .val (.int ix), .val (.ref t0), .val (.ref sa5), .val (.ref sa15), .val (.int (0 : Int32))] [])) tgt → Steps p.tables e below (s₁.setTop (entryFrame m #[(.int p0)] maxLocals)) tgt := fun tgt kt => pre30 _ (by
      show Steps p.tables e below (T15.setTop (mkF m 95 #[.val (.int p0), .val (.int ix), .val (.ref t0), .val (.ref sa5), .val (.ref sa15), .unset] [])) _
      refine XS.aload X15.here hx rfl (hb hby at_95) rfl rfl ?_
      show Steps p.tables e below (T15.setTop (mkF m 97 #[.val (.int p0), .val (.int ix), .val (.ref t0), .val (.ref sa5), .val (.ref sa15), .unset] [(.ref sa15)])) _
      refine st31 _ ?_
      show Steps p.tables e below (T31.setTop (mkF m 99 #[.val (.int p0), .val (.int ix), .val (.ref t0), .val (.ref sa5), .val (.ref sa15), .unset] [(.ref sa31), (.ref sa15)])) _
      refine st49.trans ?_
      show Steps p.tables e below (T49.setTop (mkF m 102 #[.val (.int p0), .val (.int ix), .val (.ref t0), .val (.ref sa5), .val (.ref sa15), .unset] [(.int (0 : Int32))])) _
      refine XS.istore X49.here hx rfl (hb hby at_102) rfl (l' := #[.val (.int p0), .val (.int ix), .val (.ref t0), .val (.ref sa5), .val (.ref sa15), .val (.int (0 : Int32))]) rfl ?_
      show Steps p.tables e below (T49.setTop (mkF m 104 #[.val (.int p0), .val (.int ix), .val (.ref t0), .val (.ref sa5), .val (.ref sa15), .val (.int (0 : Int32))] [])) _
      refine XS.aload X49.here hx rfl (hb hby at_104) rfl rfl ?_
      show Steps p.tables e below (T49.setTop (mkF m 106 #[.val (.int p0), .val (.int ix), .val (.ref t0), .val (.ref sa5), .val (.ref sa15), .val (.int (0 : Int32))] [(.ref sa15)])) _
      refine XS.aloadN X49.here hx rfl (hb hby at_106) rfl rfl ?_
      show Steps p.tables e below (T49.setTop (mkF m 107 #[.val (.int p0), .val (.int ix), .val (.ref t0), .val (.ref sa5), .val (.ref sa15), .val (.int (0 : Int32))] [(.ref sa5), (.ref sa15)])) _
      refine st51.trans ?_
      show Steps p.tables e below (T51.setTop (mkF m 110 #[.val (.int p0), .val (.int ix), .val (.ref t0), .val (.ref sa5), .val (.ref sa15), .val (.int (0 : Int32))] [(.int (1 : Int32))])) _
      refine XS.ifNo X51.here hx rfl (hb hby at_110) rfl ((if0 _ _).trans (feq (by decide : ¬ ((1 : Int32) = (0 : Int32)))).1) ?_
      exact kt)
    obtain ⟨T54, X54, e54, st54⟩ := getS2 X51 hx hZ hown (host := "") (Or.inl (hw _ (List.mem_of_getElem? (i := 35) rfl))) Via.refl e51 f35 (g := (mkF m 116 #[.val (.int p0), .val (.int ix), .val (.ref t0), .val (.ref sa5), .val (.ref sa15), .val (.int (0 : Int32))] [(.ref t0), (.int (0 : Int32))])) rfl (hb hby at_116)
    obtain ⟨cq55, kq55, q55a, q55b, q55c⟩ := isOf hZ e54 f33
    obtain ⟨_, _, ⟨T55, L55, k55, n55⟩, -, X55, ⟨Lc55, hQ55, l55, y55, z55⟩, st55⟩ := X54.virtualBack hx (y := (⟨"com/example/keyfold/keyfold/spec/Transform", "fits", "(Lcom/example/keyfold/keyfold/spec/ColumnType;)Z"⟩ : MethodName)) (z := (⟨"com/example/keyfold/keyfold/spec/Transform", "fits", "(Lcom/example/keyfold/keyfold/spec/ColumnType;)Z"⟩ : MethodName)) hown (mvT hZ (hw _ (List.mem_of_getElem? (i := 38) rfl))) (mvT hZ (hw _ (List.mem_of_getElem? (i := 39) rfl))) (notFace_of_selects (args := #[]) (mvT hZ (hw _ (List.mem_of_getElem? (i := 41) rfl)))) (mvT hZ (hw _ (List.mem_of_getElem? (i := 41) rfl))) (mvT hZ (hw _ (List.mem_of_getElem? (i := 40) rfl))) (by decide) (backOf (W := 1) (rm4f l Z a0 hw [] t0 dt h31 n0 zz47 f34 f36 f37) hZ (hw _ (List.mem_of_getElem? (i := 42) rfl)) (hw _ (List.mem_of_getElem? (i := 2) rfl)) (by decide) (by decide)) q55a q55c (g := (mkF m 119 #[.val (.int p0), .val (.int ix), .val (.ref t0), .val (.ref sa5), .val (.ref sa15), .val (.int (0 : Int32))] [(.ref dt), (.ref t0), (.int (0 : Int32))])) rfl (by rw [hml]; rfl) (Steps.refl _) (argsL := [(.ref dt)]) (rest := [(.int (0 : Int32))]) (lenOf pd_4 rfl) rfl (by show 2 * 0 + _ ≤ _; exact Nat.le_of_eq rfl) (hb hby at_119) (fun _ _ => ⟨rfl, e54, (by decide : 6 + 0 ≤ _), (by decide : 116 + 0 ≤ _)⟩)
    dsimp only [Pt.U, Pt.locs, Pt.cells, Pt.slots] at X55 l55 y55 z55 st55 hQ55
    subst l55 y55 z55
    obtain ⟨rfl, Nq55, e55⟩ := hQ55
    have N56 := Fr.app N52 Nq55
    obtain ⟨fs, hr, hrun, hended, hv1, hv2, hv3, hv4⟩ := X55.leaveW hS (by rw [e55]; exact hk) (v := some (.int (1 : Int32))) (fun h => by rw [Bd.returns] at h; cases h)
    refine ⟨_, _, pre53 _ ?_, hrun, hended, _, _, rfl, ?_, ?_, hv1, hv2, hv3, hv4.mono (by decide) (by decide)⟩
    · show Steps p.tables e below (T51.setTop (mkF m 113 #[.val (.int p0), .val (.int ix), .val (.ref t0), .val (.ref sa5), .val (.ref sa15), .val (.int (0 : Int32))] [])) _
      refine XS.iload X51.here hx rfl (hb hby at_113) rfl ?_
      show Steps p.tables e below (T51.setTop (mkF m 115 #[.val (.int p0), .val (.int ix), .val (.ref t0), .val (.ref sa5), .val (.ref sa15), .val (.int (0 : Int32))] [(.int (0 : Int32))])) _
      refine XS.aloadN X51.here hx rfl (hb hby at_115) rfl rfl ?_
      show Steps p.tables e below (T51.setTop (mkF m 116 #[.val (.int p0), .val (.int ix), .val (.ref t0), .val (.ref sa5), .val (.ref sa15), .val (.int (0 : Int32))] [(.ref t0), (.int (0 : Int32))])) _
      refine st54 _ ?_
      show Steps p.tables e below (T54.setTop (mkF m 119 #[.val (.int p0), .val (.int ix), .val (.ref t0), .val (.ref sa5), .val (.ref sa15), .val (.int (0 : Int32))] [(.ref dt), (.ref t0), (.int (0 : Int32))])) _
      refine st55.trans ?_
      show Steps p.tables e below (T55.setTop (mkF m 122 #[.val (.int p0), .val (.int ix), .val (.ref t0), .val (.ref sa5), .val (.ref sa15), .val (.int (0 : Int32))] [(.int (0 : Int32)), (.int (0 : Int32))])) _
      refine XS.icmpNo X55.here hx rfl (hb hby at_122) rfl (teq (rfl : (0 : Int32) = (0 : Int32))).2 ?_
      show Steps p.tables e below (T55.setTop (mkF m 125 #[.val (.int p0), .val (.int ix), .val (.ref t0), .val (.ref sa5), .val (.ref sa15), .val (.int (0 : Int32))] [])) _
      refine XS.iconst X55.here hx rfl (hb hby at_125) ?_
      show Steps p.tables e below (T55.setTop (mkF m 126 #[.val (.int p0), .val (.int ix), .val (.ref t0), .val (.ref sa5), .val (.ref sa15), .val (.int (0 : Int32))] [(.int (1 : Int32))])) _
      refine XS.goto X55.here hx rfl (pc0 := 126) (pc' := 130) rfl (hb hby at_126) (by decide) (by decide) ?_
      show Steps p.tables e below (T55.setTop (mkF m 130 #[.val (.int p0), .val (.int ix), .val (.ref t0), .val (.ref sa5), .val (.ref sa15), .val (.int (0 : Int32))] [(.int (1 : Int32))])) _
      exact retN X55 hx (t := .boolean) Bd.returns (by simp) (hb hby at_130) hr
    · show Q0 Z p0 t0 t1 t2 t3 t4 t5 dt cs h0 n0 _ T55.heap _
      rw [e55]
      exact ⟨rfl, N56⟩
    · show CHr Z consts_1 s.vm s.heap T55.vm T55.heap
      rw [hh, e55]
      exact CG48.trans (CHv.at X55 hZ (own_ew hw) CG48.1)
  · have pre57 : ∀ tgt, Steps p.tables e below (s₁.setTop (mkF m 24 #[.val (.int p0), .val (.int ix), .unset, .unset, .unset, .unset] [(.int (1 : Int32)), (.int ix)])) tgt → Steps p.tables e below (s₁.setTop (entryFrame m #[(.int p0)] maxLocals)) tgt := fun tgt kt => pre2 _ (by
      show Steps p.tables e below (s₁.setTop (mkF m 9 #[.val (.int p0), .val (.int ix), .unset, .unset, .unset, .unset] [(.int ix)])) _
      refine XS.ifYes X0.here hx rfl (pc0 := 9) (pc' := 22) rfl (hb hby at_9) rfl ((if0 _ _).trans (feq hc0).2) (by decide) (by decide) ?_
      show Steps p.tables e below (s₁.setTop (mkF m 22 #[.val (.int p0), .val (.int ix), .unset, .unset, .unset, .unset] [])) _
      refine XS.iloadN X0.here hx rfl (hb hby at_22) rfl ?_
      show Steps p.tables e below (s₁.setTop (mkF m 23 #[.val (.int p0), .val (.int ix), .unset, .unset, .unset, .unset] [(.int ix)])) _
      refine XS.iconst X0.here hx rfl (hb hby at_23) ?_
      exact kt)
    by_cases hc1 : ix = (1 : Int32)
    · have pre58 : ∀ tgt, Steps p.tables e below (s₁.setTop (mkF m 27 #[.val (.int p0), .val (.int ix), .unset, .unset, .unset, .unset] [])) tgt → Steps p.tables e below (s₁.setTop (entryFrame m #[(.int p0)] maxLocals)) tgt := fun tgt kt => pre57 _ (by
        show Steps p.tables e below (s₁.setTop (mkF m 24 #[.val (.int p0), .val (.int ix), .unset, .unset, .unset, .unset] [(.int (1 : Int32)), (.int ix)])) _
        refine XS.icmpNo X0.here hx rfl (hb hby at_24) rfl (teq hc1).2 ?_
        exact kt)
      obtain ⟨T59, X59, e59, st59⟩ := getS2 X0 hx hZ hown (host := "") (Or.inl (hw _ (List.mem_of_getElem? (i := 56) rfl))) Via.refl e0 Sx1 (g := (mkF m 27 #[.val (.int p0), .val (.int ix), .unset, .unset, .unset, .unset] [])) rfl (hb hby at_27)
      obtain ⟨sa60, T60, h60, ks60, sb60, kb60, X60, e60, E60, hS, hk, hZ, hown, xa60, xc60, xv60, xr60, -, -, CH60, -, sf60, st60⟩ := ldcCH (EL := consts_1) X59 hx hZ hown (hw _ (List.mem_of_getElem? (i := 4) rfl)) (own_ws hw) e59 hS hk (own_ew hw) (List.mem_of_getElem? (i := 2) rfl) C0.1 (vs := [.int 97, .int 110, .int 32, .int 105, .int 110, .int 116, .int 101, .int 103, .int 101, .int 114]) (z := (10 : Int32)) ⟨by decide, rfl⟩ (by decide) rfl (g := (mkF m 31 #[.val (.int p0), .val (.int ix), .val (.ref t1), .unset, .unset, .unset] [])) rfl (hb hby at_31) (n := 40) (by decide) (by decide) (by decide) (by decide)
      have f61 := Sx1.ext E60
      have f62 := Ex1.ext E60
      have f63 := Fx1.ext E60
      have f64 := Sd.ext E60
      have f65 := Ed.ext E60
      have f66 := Fd.ext E60
      have f67 := Sc.ext E60
      have zz68 : n0 ≤ h60.size := Nat.le_trans Z0 E60.1
      have CG69 := C0.trans CH60
      obtain ⟨cq70, kq70, q70a, q70b, q70c⟩ := isOf hZ e60 f62
      obtain ⟨_, _, ⟨T70, L70, k70, n70⟩, -, Xr70, hSr70, hgr70, ⟨Lc70, hQ70, l70, y70, z70, hCr70⟩, st70⟩ := X60.virtualBackS hx (y := (⟨"com/example/keyfold/keyfold/spec/Transform", "gives", "()Ljava/lang/String;"⟩ : MethodName)) (z := (⟨"com/example/keyfold/keyfold/spec/Transform", "gives", "()Ljava/lang/String;"⟩ : MethodName)) hown (mvT hZ (hw _ (List.mem_of_getElem? (i := 12) rfl))) (mvT hZ (hw _ (List.mem_of_getElem? (i := 13) rfl))) (notFace_of_selects (args := #[]) (mvT hZ (hw _ (List.mem_of_getElem? (i := 15) rfl)))) (mvT hZ (hw _ (List.mem_of_getElem? (i := 15) rfl))) (mvT hZ (hw _ (List.mem_of_getElem? (i := 14) rfl))) (by decide) (backOfSH (W := 0) (rm1_0 l Z a0 hw [] t1 h60 n0 zz68 f63) hZ (hw _ (List.mem_of_getElem? (i := 16) rfl)) (hw _ (List.mem_of_getElem? (i := 2) rfl)) (by decide) (by decide) (own_ew hw) CG69.1) q70a q70c (g := (mkF m 90 #[.val (.int p0), .val (.int ix), .val (.ref t1), .val (.ref sa60), .unset, .unset] [(.ref t1)])) rfl (by rw [hml]; rfl) (Steps.refl _) (argsL := []) (rest := []) (lenOf pd_2 rfl) rfl (by show 2 * 0 + _ ≤ _; exact Nat.le_of_eq rfl) (hb hby at_90) (fun _ _ => ⟨rfl, e60, (by decide : 2 + 2 ≤ _), (by decide : 44 + 44 ≤ _)⟩)
      dsimp only [Pt.U, Pt.locs, Pt.cells, Pt.slots] at Xr70 l70 y70 z70 st70 hQ70 hSr70 hgr70 hCr70
      subst l70 y70 z70
      obtain ⟨X70, hS, hZ, hown⟩ := rebS hS (by rw [e60]; exact hk) Xr70 hSr70 hgr70 hZ hown
      have hk := Nat.le_refl T70.heap.size
      have CG71 := CG69.trans hCr70
      obtain ⟨sa70, sb70, kb70, rfl, Nq70, E70, xa70, xc70, xv70, xr70⟩ := hQ70
      have f72 := f61.ext E70
      have f73 := f62.ext E70
      have f74 := f63.ext E70
      have f75 := f64.ext E70
      have f76 := f65.ext E70
      have f77 := f66.ext E70
      have f78 := f67.ext E70
      have f79 := xa60.ext E70
      have f80 := xc60.ext E70
      have f81 := xv60.ext E70
      have f82 := xr60.ext E70
      have zz83 : n0 ≤ T70.heap.size := Nat.le_trans zz68 E70.1
      have N84 := Fr.app N0 Nq70
      have pre85 : ∀ tgt, Steps p.tables e below (T70.setTop (mkF m 95 #[.val (.int p0), .val (.int ix), .val (.ref t1), .val (.ref sa60), .val (.ref sa70), .unset] [])) tgt → Steps p.tables e below (s₁.setTop (entryFrame m #[(.int p0)] maxLocals)) tgt := fun tgt kt => pre58 _ (by
        show Steps p.tables e below (s₁.setTop (mkF m 27 #[.val (.int p0), .val (.int ix), .unset, .unset, .unset, .unset] [])) _
        refine st59 _ ?_
        show Steps p.tables e below (T59.setTop (mkF m 30 #[.val (.int p0), .val (.int ix), .unset, .unset, .unset, .unset] [(.ref t1)])) _
        refine XS.astoreN X59.here hx rfl (hb hby at_30) rfl rfl (l' := #[.val (.int p0), .val (.int ix), .val (.ref t1), .unset, .unset, .unset]) rfl ?_
        show Steps p.tables e below (T59.setTop (mkF m 31 #[.val (.int p0), .val (.int ix), .val (.ref t1), .unset, .unset, .unset] [])) _
        refine st60 _ ?_
        show Steps p.tables e below (T60.setTop (mkF m 33 #[.val (.int p0), .val (.int ix), .val (.ref t1), .unset, .unset, .unset] [(.ref sa60)])) _
        refine XS.astoreN X60.here hx rfl (hb hby at_33) rfl rfl (l' := #[.val (.int p0), .val (.int ix), .val (.ref t1), .val (.ref sa60), .unset, .unset]) rfl ?_
        show Steps p.tables e below (T60.setTop (mkF m 34 #[.val (.int p0), .val (.int ix), .val (.ref t1), .val (.ref sa60), .unset, .unset] [])) _
        refine XS.goto X60.here hx rfl (pc0 := 34) (pc' := 89) rfl (hb hby at_34) (by decide) (by decide) ?_
        show Steps p.tables e below (T60.setTop (mkF m 89 #[.val (.int p0), .val (.int ix), .val (.ref t1), .val (.ref sa60), .unset, .unset] [])) _
        refine XS.aloadN X60.here hx rfl (hb hby at_89) rfl rfl ?_
        show Steps p.tables e below (T60.setTop (mkF m 90 #[.val (.int p0), .val (.int ix), .val (.ref t1), .val (.ref sa60), .unset, .unset] [(.ref t1)])) _
        refine st70.trans ?_
        show Steps p.tables e below (T70.setTop (mkF m 93 #[.val (.int p0), .val (.int ix), .val (.ref t1), .val (.ref sa60), .unset, .unset] [(.ref sa70)])) _
        refine XS.astore X70.here hx rfl (hb hby at_93) rfl rfl (l' := #[.val (.int p0), .val (.int ix), .val (.ref t1), .val (.ref sa60), .val (.ref sa70), .unset]) rfl ?_
        exact kt)
      obtain ⟨sa86, T86, h86, ks86, sb86, kb86, X86, e86, E86, hS, hk, hZ, hown, xa86, xc86, xv86, xr86, -, -, CH86, -, sf86, st86⟩ := ldcCH (EL := consts_1) X70 hx hZ hown (hw _ (List.mem_of_getElem? (i := 20) rfl)) (own_ws hw) rfl hS hk (own_ew hw) (List.mem_of_getElem? (i := 3) rfl) CG71.1 (vs := [.int 97, .int 32, .int 100, .int 97, .int 116, .int 101]) (z := (6 : Int32)) ⟨by decide, rfl⟩ (by decide) rfl (g := (mkF m 97 #[.val (.int p0), .val (.int ix), .val (.ref t1), .val (.ref sa60), .val (.ref sa70), .unset] [(.ref sa70)])) rfl (hb hby at_97) (n := 24) (by decide) (by decide) (by decide) (by decide)
      have f87 := f72.ext E86
      have f88 := f73.ext E86
      have f89 := f74.ext E86
      have f90 := f75.ext E86
      have f91 := f76.ext E86
      have f92 := f77.ext E86
      have f93 := f78.ext E86
      have f94 := f79.ext E86
      have f95 := f80.ext E86
      have f96 := f81.ext E86
      have f97 := f82.ext E86
      have f98 := xa70.ext E86
      have f99 := xc70.ext E86
      have f100 := xv70.ext E86
      have f101 := xr70.ext E86
      have zz102 : n0 ≤ h86.size := Nat.le_trans zz83 E86.1
      have CG103 := CG71.trans CH86
      obtain ⟨cq104, kq104, q104a, q104b, q104c⟩ := isOf hZ e86 f98
      obtain ⟨_, _, ⟨T104, L104, k104, n104⟩, -, X104, ⟨Lc104, hQ104, l104, y104, z104⟩, st104⟩ := X86.virtualBack hx (y := (⟨"java/lang/String", "equals", "(Ljava/lang/Object;)Z"⟩ : MethodName)) (z := (⟨"java/lang/String", "equals", "(Ljava/lang/Object;)Z"⟩ : MethodName)) hown (mvT hZ (hw _ (List.mem_of_getElem? (i := 21) rfl))) (mvT hZ (hw _ (List.mem_of_getElem? (i := 22) rfl))) (notFace_of_selects (args := #[]) (mvT hZ (hw _ (List.mem_of_getElem? (i := 24) rfl)))) (mvT hZ (hw _ (List.mem_of_getElem? (i := 24) rfl))) (mvT hZ (hw _ (List.mem_of_getElem? (i := 23) rfl))) (by decide) (backOf (W := 0) (rm2d10_6 l Z a0 hw [] sa70 sa86 sb70 sb86 kb70 kb86 cs (97 : Int32) (110 : Int32) (32 : Int32) (105 : Int32) (110 : Int32) (116 : Int32) (101 : Int32) (103 : Int32) (101 : Int32) (114 : Int32) (97 : Int32) (32 : Int32) (100 : Int32) (97 : Int32) (116 : Int32) (101 : Int32) h86 n0 zz102 xa86 f99 f100 xc86 xv86 f101 xr86 f93 hcs) hZ (hw _ (List.mem_of_getElem? (i := 25) rfl)) (hw _ (List.mem_of_getElem? (i := 5) rfl)) (by decide) (by decide)) q104a q104c (g := (mkF m 99 #[.val (.int p0), .val (.int ix), .val (.ref t1), .val (.ref sa60), .val (.ref sa70), .unset] [(.ref sa86), (.ref sa70)])) rfl (by rw [hml]; rfl) (Steps.refl _) (argsL := [(.ref sa86)]) (rest := []) (lenOf pd_3 rfl) rfl (by show 2 * 0 + _ ≤ _; exact Nat.le_of_eq rfl) (hb hby at_99) (fun _ _ => ⟨rfl, e86, (by decide : 6 + 0 ≤ _), (by decide : 116 + 0 ≤ _)⟩)
      dsimp only [Pt.U, Pt.locs, Pt.cells, Pt.slots] at X104 l104 y104 z104 st104 hQ104
      subst l104 y104 z104
      obtain ⟨rfl, Nq104, e104⟩ := hQ104
      have N105 := Fr.app N84 Nq104
      obtain ⟨cq106, kq106, q106a, q106b, q106c⟩ := isOf hZ e104 f98
      obtain ⟨_, _, ⟨T106, L106, k106, n106⟩, -, X106, ⟨Lc106, hQ106, l106, y106, z106⟩, st106⟩ := X104.virtualBack hx (y := (⟨"java/lang/String", "equals", "(Ljava/lang/Object;)Z"⟩ : MethodName)) (z := (⟨"java/lang/String", "equals", "(Ljava/lang/Object;)Z"⟩ : MethodName)) hown (mvT hZ (hw _ (List.mem_of_getElem? (i := 21) rfl))) (mvT hZ (hw _ (List.mem_of_getElem? (i := 22) rfl))) (notFace_of_selects (args := #[]) (mvT hZ (hw _ (List.mem_of_getElem? (i := 24) rfl)))) (mvT hZ (hw _ (List.mem_of_getElem? (i := 24) rfl))) (mvT hZ (hw _ (List.mem_of_getElem? (i := 23) rfl))) (by decide) (backOf (W := 0) (rm2e10 l Z a0 hw [] sa70 sa60 sb70 sb60 kb70 kb60 cs (97 : Int32) (110 : Int32) (32 : Int32) (105 : Int32) (110 : Int32) (116 : Int32) (101 : Int32) (103 : Int32) (101 : Int32) (114 : Int32) h86 n0 zz102 f94 f99 f100 f95 f96 f101 f97 f93 hcs) hZ (hw _ (List.mem_of_getElem? (i := 25) rfl)) (hw _ (List.mem_of_getElem? (i := 5) rfl)) (by decide) (by decide)) q106a q106c (g := (mkF m 107 #[.val (.int p0), .val (.int ix), .val (.ref t1), .val (.ref sa60), .val (.ref sa70), .val (.int (0 : Int32))] [(.ref sa60), (.ref sa70)])) rfl (by rw [hml]; rfl) (Steps.refl _) (argsL := [(.ref sa60)]) (rest := []) (lenOf pd_3 rfl) rfl (by show 2 * 0 + _ ≤ _; exact Nat.le_of_eq rfl) (hb hby at_107) (fun _ _ => ⟨rfl, e104, (by decide : 6 + 0 ≤ _), (by decide : 116 + 0 ≤ _)⟩)
      dsimp only [Pt.U, Pt.locs, Pt.cells, Pt.slots] at X106 l106 y106 z106 st106 hQ106
      subst l106 y106 z106
      obtain ⟨rfl, Nq106, e106⟩ := hQ106
      have N107 := Fr.app N105 Nq106
      have pre108 : ∀ tgt, Steps p.tables e below (T106.setTop (mkF m 113 #[.val (.int p0), .val (.int ix), .val (.ref t1), .val (.ref sa60), .val (.ref sa70), .val (.int (0 : Int32))] [])) tgt → Steps p.tables e below (s₁.setTop (entryFrame m #[(.int p0)] maxLocals)) tgt := fun tgt kt => pre85 _ (by
        show Steps p.tables e below (T70.setTop (mkF m 95 #[.val (.int p0), .val (.int ix), .val (.ref t1), .val (.ref sa60), .val (.ref sa70), .unset] [])) _
        refine XS.aload X70.here hx rfl (hb hby at_95) rfl rfl ?_
        show Steps p.tables e below (T70.setTop (mkF m 97 #[.val (.int p0), .val (.int ix), .val (.ref t1), .val (.ref sa60), .val (.ref sa70), .unset] [(.ref sa70)])) _
        refine st86 _ ?_
        show Steps p.tables e below (T86.setTop (mkF m 99 #[.val (.int p0), .val (.int ix), .val (.ref t1), .val (.ref sa60), .val (.ref sa70), .unset] [(.ref sa86), (.ref sa70)])) _
        refine st104.trans ?_
        show Steps p.tables e below (T104.setTop (mkF m 102 #[.val (.int p0), .val (.int ix), .val (.ref t1), .val (.ref sa60), .val (.ref sa70), .unset] [(.int (0 : Int32))])) _
        refine XS.istore X104.here hx rfl (hb hby at_102) rfl (l' := #[.val (.int p0), .val (.int ix), .val (.ref t1), .val (.ref sa60), .val (.ref sa70), .val (.int (0 : Int32))]) rfl ?_
        show Steps p.tables e below (T104.setTop (mkF m 104 #[.val (.int p0), .val (.int ix), .val (.ref t1), .val (.ref sa60), .val (.ref sa70), .val (.int (0 : Int32))] [])) _
        refine XS.aload X104.here hx rfl (hb hby at_104) rfl rfl ?_
        show Steps p.tables e below (T104.setTop (mkF m 106 #[.val (.int p0), .val (.int ix), .val (.ref t1), .val (.ref sa60), .val (.ref sa70), .val (.int (0 : Int32))] [(.ref sa70)])) _
        refine XS.aloadN X104.here hx rfl (hb hby at_106) rfl rfl ?_
        show Steps p.tables e below (T104.setTop (mkF m 107 #[.val (.int p0), .val (.int ix), .val (.ref t1), .val (.ref sa60), .val (.ref sa70), .val (.int (0 : Int32))] [(.ref sa60), (.ref sa70)])) _
        refine st106.trans ?_
        show Steps p.tables e below (T106.setTop (mkF m 110 #[.val (.int p0), .val (.int ix), .val (.ref t1), .val (.ref sa60), .val (.ref sa70), .val (.int (0 : Int32))] [(.int (1 : Int32))])) _
        refine XS.ifNo X106.here hx rfl (hb hby at_110) rfl ((if0 _ _).trans (feq (by decide : ¬ ((1 : Int32) = (0 : Int32)))).1) ?_
        exact kt)
      obtain ⟨T109, X109, e109, st109⟩ := getS2 X106 hx hZ hown (host := "") (Or.inl (hw _ (List.mem_of_getElem? (i := 35) rfl))) Via.refl e106 f90 (g := (mkF m 116 #[.val (.int p0), .val (.int ix), .val (.ref t1), .val (.ref sa60), .val (.ref sa70), .val (.int (0 : Int32))] [(.ref t1), (.int (0 : Int32))])) rfl (hb hby at_116)
      obtain ⟨cq110, kq110, q110a, q110b, q110c⟩ := isOf hZ e109 f88
      obtain ⟨_, _, ⟨T110, L110, k110, n110⟩, -, X110, ⟨Lc110, hQ110, l110, y110, z110⟩, st110⟩ := X109.virtualBack hx (y := (⟨"com/example/keyfold/keyfold/spec/Transform", "fits", "(Lcom/example/keyfold/keyfold/spec/ColumnType;)Z"⟩ : MethodName)) (z := (⟨"com/example/keyfold/keyfold/spec/Transform", "fits", "(Lcom/example/keyfold/keyfold/spec/ColumnType;)Z"⟩ : MethodName)) hown (mvT hZ (hw _ (List.mem_of_getElem? (i := 38) rfl))) (mvT hZ (hw _ (List.mem_of_getElem? (i := 39) rfl))) (notFace_of_selects (args := #[]) (mvT hZ (hw _ (List.mem_of_getElem? (i := 41) rfl)))) (mvT hZ (hw _ (List.mem_of_getElem? (i := 41) rfl))) (mvT hZ (hw _ (List.mem_of_getElem? (i := 40) rfl))) (by decide) (backOf (W := 1) (rm4f l Z a0 hw [] t1 dt h86 n0 zz102 f89 f91 f92) hZ (hw _ (List.mem_of_getElem? (i := 42) rfl)) (hw _ (List.mem_of_getElem? (i := 2) rfl)) (by decide) (by decide)) q110a q110c (g := (mkF m 119 #[.val (.int p0), .val (.int ix), .val (.ref t1), .val (.ref sa60), .val (.ref sa70), .val (.int (0 : Int32))] [(.ref dt), (.ref t1), (.int (0 : Int32))])) rfl (by rw [hml]; rfl) (Steps.refl _) (argsL := [(.ref dt)]) (rest := [(.int (0 : Int32))]) (lenOf pd_4 rfl) rfl (by show 2 * 0 + _ ≤ _; exact Nat.le_of_eq rfl) (hb hby at_119) (fun _ _ => ⟨rfl, e109, (by decide : 6 + 0 ≤ _), (by decide : 116 + 0 ≤ _)⟩)
      dsimp only [Pt.U, Pt.locs, Pt.cells, Pt.slots] at X110 l110 y110 z110 st110 hQ110
      subst l110 y110 z110
      obtain ⟨rfl, Nq110, e110⟩ := hQ110
      have N111 := Fr.app N107 Nq110
      obtain ⟨fs, hr, hrun, hended, hv1, hv2, hv3, hv4⟩ := X110.leaveW hS (by rw [e110]; exact hk) (v := some (.int (1 : Int32))) (fun h => by rw [Bd.returns] at h; cases h)
      refine ⟨_, _, pre108 _ ?_, hrun, hended, _, _, rfl, ?_, ?_, hv1, hv2, hv3, hv4.mono (by decide) (by decide)⟩
      · show Steps p.tables e below (T106.setTop (mkF m 113 #[.val (.int p0), .val (.int ix), .val (.ref t1), .val (.ref sa60), .val (.ref sa70), .val (.int (0 : Int32))] [])) _
        refine XS.iload X106.here hx rfl (hb hby at_113) rfl ?_
        show Steps p.tables e below (T106.setTop (mkF m 115 #[.val (.int p0), .val (.int ix), .val (.ref t1), .val (.ref sa60), .val (.ref sa70), .val (.int (0 : Int32))] [(.int (0 : Int32))])) _
        refine XS.aloadN X106.here hx rfl (hb hby at_115) rfl rfl ?_
        show Steps p.tables e below (T106.setTop (mkF m 116 #[.val (.int p0), .val (.int ix), .val (.ref t1), .val (.ref sa60), .val (.ref sa70), .val (.int (0 : Int32))] [(.ref t1), (.int (0 : Int32))])) _
        refine st109 _ ?_
        show Steps p.tables e below (T109.setTop (mkF m 119 #[.val (.int p0), .val (.int ix), .val (.ref t1), .val (.ref sa60), .val (.ref sa70), .val (.int (0 : Int32))] [(.ref dt), (.ref t1), (.int (0 : Int32))])) _
        refine st110.trans ?_
        show Steps p.tables e below (T110.setTop (mkF m 122 #[.val (.int p0), .val (.int ix), .val (.ref t1), .val (.ref sa60), .val (.ref sa70), .val (.int (0 : Int32))] [(.int (0 : Int32)), (.int (0 : Int32))])) _
        refine XS.icmpNo X110.here hx rfl (hb hby at_122) rfl (teq (rfl : (0 : Int32) = (0 : Int32))).2 ?_
        show Steps p.tables e below (T110.setTop (mkF m 125 #[.val (.int p0), .val (.int ix), .val (.ref t1), .val (.ref sa60), .val (.ref sa70), .val (.int (0 : Int32))] [])) _
        refine XS.iconst X110.here hx rfl (hb hby at_125) ?_
        show Steps p.tables e below (T110.setTop (mkF m 126 #[.val (.int p0), .val (.int ix), .val (.ref t1), .val (.ref sa60), .val (.ref sa70), .val (.int (0 : Int32))] [(.int (1 : Int32))])) _
        refine XS.goto X110.here hx rfl (pc0 := 126) (pc' := 130) rfl (hb hby at_126) (by decide) (by decide) ?_
        show Steps p.tables e below (T110.setTop (mkF m 130 #[.val (.int p0), .val (.int ix), .val (.ref t1), .val (.ref sa60), .val (.ref sa70), .val (.int (0 : Int32))] [(.int (1 : Int32))])) _
        exact retN X110 hx (t := .boolean) Bd.returns (by simp) (hb hby at_130) hr
      · show Q0 Z p0 t0 t1 t2 t3 t4 t5 dt cs h0 n0 _ T110.heap _
        rw [e110]
        exact ⟨rfl, N111⟩
      · show CHr Z consts_1 s.vm s.heap T110.vm T110.heap
        rw [hh, e110]
        exact CG103.trans (CHv.at X110 hZ (own_ew hw) CG103.1)
    · have pre112 : ∀ tgt, Steps p.tables e below (s₁.setTop (mkF m 39 #[.val (.int p0), .val (.int ix), .unset, .unset, .unset, .unset] [(.int (2 : Int32)), (.int ix)])) tgt → Steps p.tables e below (s₁.setTop (entryFrame m #[(.int p0)] maxLocals)) tgt := fun tgt kt => pre57 _ (by
        show Steps p.tables e below (s₁.setTop (mkF m 24 #[.val (.int p0), .val (.int ix), .unset, .unset, .unset, .unset] [(.int (1 : Int32)), (.int ix)])) _
        refine XS.icmpYes X0.here hx rfl (pc0 := 24) (pc' := 37) rfl (hb hby at_24) rfl (feq hc1).2 (by decide) (by decide) ?_
        show Steps p.tables e below (s₁.setTop (mkF m 37 #[.val (.int p0), .val (.int ix), .unset, .unset, .unset, .unset] [])) _
        refine XS.iloadN X0.here hx rfl (hb hby at_37) rfl ?_
        show Steps p.tables e below (s₁.setTop (mkF m 38 #[.val (.int p0), .val (.int ix), .unset, .unset, .unset, .unset] [(.int ix)])) _
        refine XS.iconst X0.here hx rfl (hb hby at_38) ?_
        exact kt)
      by_cases hc2 : ix = (2 : Int32)
      · have pre113 : ∀ tgt, Steps p.tables e below (s₁.setTop (mkF m 42 #[.val (.int p0), .val (.int ix), .unset, .unset, .unset, .unset] [])) tgt → Steps p.tables e below (s₁.setTop (entryFrame m #[(.int p0)] maxLocals)) tgt := fun tgt kt => pre112 _ (by
          show Steps p.tables e below (s₁.setTop (mkF m 39 #[.val (.int p0), .val (.int ix), .unset, .unset, .unset, .unset] [(.int (2 : Int32)), (.int ix)])) _
          refine XS.icmpNo X0.here hx rfl (hb hby at_39) rfl (teq hc2).2 ?_
          exact kt)
        obtain ⟨T114, X114, e114, st114⟩ := getS2 X0 hx hZ hown (host := "") (Or.inl (hw _ (List.mem_of_getElem? (i := 54) rfl))) Via.refl e0 Sx2 (g := (mkF m 42 #[.val (.int p0), .val (.int ix), .unset, .unset, .unset, .unset] [])) rfl (hb hby at_42)
        obtain ⟨sa115, T115, h115, ks115, sb115, kb115, X115, e115, E115, hS, hk, hZ, hown, xa115, xc115, xv115, xr115, -, -, CH115, -, sf115, st115⟩ := ldcCH (EL := consts_1) X114 hx hZ hown (hw _ (List.mem_of_getElem? (i := 4) rfl)) (own_ws hw) e114 hS hk (own_ew hw) (List.mem_of_getElem? (i := 2) rfl) C0.1 (vs := [.int 97, .int 110, .int 32, .int 105, .int 110, .int 116, .int 101, .int 103, .int 101, .int 114]) (z := (10 : Int32)) ⟨by decide, rfl⟩ (by decide) rfl (g := (mkF m 46 #[.val (.int p0), .val (.int ix), .val (.ref t2), .unset, .unset, .unset] [])) rfl (hb hby at_46) (n := 40) (by decide) (by decide) (by decide) (by decide)
        have f116 := Sx2.ext E115
        have f117 := Ex2.ext E115
        have f118 := Fx2.ext E115
        have f119 := Sd.ext E115
        have f120 := Ed.ext E115
        have f121 := Fd.ext E115
        have f122 := Sc.ext E115
        have zz123 : n0 ≤ h115.size := Nat.le_trans Z0 E115.1
        have CG124 := C0.trans CH115
        obtain ⟨cq125, kq125, q125a, q125b, q125c⟩ := isOf hZ e115 f117
        obtain ⟨_, _, ⟨T125, L125, k125, n125⟩, -, Xr125, hSr125, hgr125, ⟨Lc125, hQ125, l125, y125, z125, hCr125⟩, st125⟩ := X115.virtualBackS hx (y := (⟨"com/example/keyfold/keyfold/spec/Transform", "gives", "()Ljava/lang/String;"⟩ : MethodName)) (z := (⟨"com/example/keyfold/keyfold/spec/Transform", "gives", "()Ljava/lang/String;"⟩ : MethodName)) hown (mvT hZ (hw _ (List.mem_of_getElem? (i := 12) rfl))) (mvT hZ (hw _ (List.mem_of_getElem? (i := 13) rfl))) (notFace_of_selects (args := #[]) (mvT hZ (hw _ (List.mem_of_getElem? (i := 15) rfl)))) (mvT hZ (hw _ (List.mem_of_getElem? (i := 15) rfl))) (mvT hZ (hw _ (List.mem_of_getElem? (i := 14) rfl))) (by decide) (backOfSH (W := 0) (rm1_0 l Z a0 hw [] t2 h115 n0 zz123 f118) hZ (hw _ (List.mem_of_getElem? (i := 16) rfl)) (hw _ (List.mem_of_getElem? (i := 2) rfl)) (by decide) (by decide) (own_ew hw) CG124.1) q125a q125c (g := (mkF m 90 #[.val (.int p0), .val (.int ix), .val (.ref t2), .val (.ref sa115), .unset, .unset] [(.ref t2)])) rfl (by rw [hml]; rfl) (Steps.refl _) (argsL := []) (rest := []) (lenOf pd_2 rfl) rfl (by show 2 * 0 + _ ≤ _; exact Nat.le_of_eq rfl) (hb hby at_90) (fun _ _ => ⟨rfl, e115, (by decide : 2 + 2 ≤ _), (by decide : 44 + 44 ≤ _)⟩)
        dsimp only [Pt.U, Pt.locs, Pt.cells, Pt.slots] at Xr125 l125 y125 z125 st125 hQ125 hSr125 hgr125 hCr125
        subst l125 y125 z125
        obtain ⟨X125, hS, hZ, hown⟩ := rebS hS (by rw [e115]; exact hk) Xr125 hSr125 hgr125 hZ hown
        have hk := Nat.le_refl T125.heap.size
        have CG126 := CG124.trans hCr125
        obtain ⟨sa125, sb125, kb125, rfl, Nq125, E125, xa125, xc125, xv125, xr125⟩ := hQ125
        have f127 := f116.ext E125
        have f128 := f117.ext E125
        have f129 := f118.ext E125
        have f130 := f119.ext E125
        have f131 := f120.ext E125
        have f132 := f121.ext E125
        have f133 := f122.ext E125
        have f134 := xa115.ext E125
        have f135 := xc115.ext E125
        have f136 := xv115.ext E125
        have f137 := xr115.ext E125
        have zz138 : n0 ≤ T125.heap.size := Nat.le_trans zz123 E125.1
        have N139 := Fr.app N0 Nq125
        have pre140 : ∀ tgt, Steps p.tables e below (T125.setTop (mkF m 95 #[.val (.int p0), .val (.int ix), .val (.ref t2), .val (.ref sa115), .val (.ref sa125), .unset] [])) tgt → Steps p.tables e below (s₁.setTop (entryFrame m #[(.int p0)] maxLocals)) tgt := fun tgt kt => pre113 _ (by
          show Steps p.tables e below (s₁.setTop (mkF m 42 #[.val (.int p0), .val (.int ix), .unset, .unset, .unset, .unset] [])) _
          refine st114 _ ?_
          show Steps p.tables e below (T114.setTop (mkF m 45 #[.val (.int p0), .val (.int ix), .unset, .unset, .unset, .unset] [(.ref t2)])) _
          refine XS.astoreN X114.here hx rfl (hb hby at_45) rfl rfl (l' := #[.val (.int p0), .val (.int ix), .val (.ref t2), .unset, .unset, .unset]) rfl ?_
          show Steps p.tables e below (T114.setTop (mkF m 46 #[.val (.int p0), .val (.int ix), .val (.ref t2), .unset, .unset, .unset] [])) _
          refine st115 _ ?_
          show Steps p.tables e below (T115.setTop (mkF m 48 #[.val (.int p0), .val (.int ix), .val (.ref t2), .unset, .unset, .unset] [(.ref sa115)])) _
          refine XS.astoreN X115.here hx rfl (hb hby at_48) rfl rfl (l' := #[.val (.int p0), .val (.int ix), .val (.ref t2), .val (.ref sa115), .unset, .unset]) rfl ?_
          show Steps p.tables e below (T115.setTop (mkF m 49 #[.val (.int p0), .val (.int ix), .val (.ref t2), .val (.ref sa115), .unset, .unset] [])) _
          refine XS.goto X115.here hx rfl (pc0 := 49) (pc' := 89) rfl (hb hby at_49) (by decide) (by decide) ?_
          show Steps p.tables e below (T115.setTop (mkF m 89 #[.val (.int p0), .val (.int ix), .val (.ref t2), .val (.ref sa115), .unset, .unset] [])) _
          refine XS.aloadN X115.here hx rfl (hb hby at_89) rfl rfl ?_
          show Steps p.tables e below (T115.setTop (mkF m 90 #[.val (.int p0), .val (.int ix), .val (.ref t2), .val (.ref sa115), .unset, .unset] [(.ref t2)])) _
          refine st125.trans ?_
          show Steps p.tables e below (T125.setTop (mkF m 93 #[.val (.int p0), .val (.int ix), .val (.ref t2), .val (.ref sa115), .unset, .unset] [(.ref sa125)])) _
          refine XS.astore X125.here hx rfl (hb hby at_93) rfl rfl (l' := #[.val (.int p0), .val (.int ix), .val (.ref t2), .val (.ref sa115), .val (.ref sa125), .unset]) rfl ?_
          exact kt)
        obtain ⟨sa141, T141, h141, ks141, sb141, kb141, X141, e141, E141, hS, hk, hZ, hown, xa141, xc141, xv141, xr141, -, -, CH141, -, sf141, st141⟩ := ldcCH (EL := consts_1) X125 hx hZ hown (hw _ (List.mem_of_getElem? (i := 20) rfl)) (own_ws hw) rfl hS hk (own_ew hw) (List.mem_of_getElem? (i := 3) rfl) CG126.1 (vs := [.int 97, .int 32, .int 100, .int 97, .int 116, .int 101]) (z := (6 : Int32)) ⟨by decide, rfl⟩ (by decide) rfl (g := (mkF m 97 #[.val (.int p0), .val (.int ix), .val (.ref t2), .val (.ref sa115), .val (.ref sa125), .unset] [(.ref sa125)])) rfl (hb hby at_97) (n := 24) (by decide) (by decide) (by decide) (by decide)
        have f142 := f127.ext E141
        have f143 := f128.ext E141
        have f144 := f129.ext E141
        have f145 := f130.ext E141
        have f146 := f131.ext E141
        have f147 := f132.ext E141
        have f148 := f133.ext E141
        have f149 := f134.ext E141
        have f150 := f135.ext E141
        have f151 := f136.ext E141
        have f152 := f137.ext E141
        have f153 := xa125.ext E141
        have f154 := xc125.ext E141
        have f155 := xv125.ext E141
        have f156 := xr125.ext E141
        have zz157 : n0 ≤ h141.size := Nat.le_trans zz138 E141.1
        have CG158 := CG126.trans CH141
        obtain ⟨cq159, kq159, q159a, q159b, q159c⟩ := isOf hZ e141 f153
        obtain ⟨_, _, ⟨T159, L159, k159, n159⟩, -, X159, ⟨Lc159, hQ159, l159, y159, z159⟩, st159⟩ := X141.virtualBack hx (y := (⟨"java/lang/String", "equals", "(Ljava/lang/Object;)Z"⟩ : MethodName)) (z := (⟨"java/lang/String", "equals", "(Ljava/lang/Object;)Z"⟩ : MethodName)) hown (mvT hZ (hw _ (List.mem_of_getElem? (i := 21) rfl))) (mvT hZ (hw _ (List.mem_of_getElem? (i := 22) rfl))) (notFace_of_selects (args := #[]) (mvT hZ (hw _ (List.mem_of_getElem? (i := 24) rfl)))) (mvT hZ (hw _ (List.mem_of_getElem? (i := 24) rfl))) (mvT hZ (hw _ (List.mem_of_getElem? (i := 23) rfl))) (by decide) (backOf (W := 0) (rm2d10_6 l Z a0 hw [] sa125 sa141 sb125 sb141 kb125 kb141 cs (97 : Int32) (110 : Int32) (32 : Int32) (105 : Int32) (110 : Int32) (116 : Int32) (101 : Int32) (103 : Int32) (101 : Int32) (114 : Int32) (97 : Int32) (32 : Int32) (100 : Int32) (97 : Int32) (116 : Int32) (101 : Int32) h141 n0 zz157 xa141 f154 f155 xc141 xv141 f156 xr141 f148 hcs) hZ (hw _ (List.mem_of_getElem? (i := 25) rfl)) (hw _ (List.mem_of_getElem? (i := 5) rfl)) (by decide) (by decide)) q159a q159c (g := (mkF m 99 #[.val (.int p0), .val (.int ix), .val (.ref t2), .val (.ref sa115), .val (.ref sa125), .unset] [(.ref sa141), (.ref sa125)])) rfl (by rw [hml]; rfl) (Steps.refl _) (argsL := [(.ref sa141)]) (rest := []) (lenOf pd_3 rfl) rfl (by show 2 * 0 + _ ≤ _; exact Nat.le_of_eq rfl) (hb hby at_99) (fun _ _ => ⟨rfl, e141, (by decide : 6 + 0 ≤ _), (by decide : 116 + 0 ≤ _)⟩)
        dsimp only [Pt.U, Pt.locs, Pt.cells, Pt.slots] at X159 l159 y159 z159 st159 hQ159
        subst l159 y159 z159
        obtain ⟨rfl, Nq159, e159⟩ := hQ159
        have N160 := Fr.app N139 Nq159
        obtain ⟨cq161, kq161, q161a, q161b, q161c⟩ := isOf hZ e159 f153
        obtain ⟨_, _, ⟨T161, L161, k161, n161⟩, -, X161, ⟨Lc161, hQ161, l161, y161, z161⟩, st161⟩ := X159.virtualBack hx (y := (⟨"java/lang/String", "equals", "(Ljava/lang/Object;)Z"⟩ : MethodName)) (z := (⟨"java/lang/String", "equals", "(Ljava/lang/Object;)Z"⟩ : MethodName)) hown (mvT hZ (hw _ (List.mem_of_getElem? (i := 21) rfl))) (mvT hZ (hw _ (List.mem_of_getElem? (i := 22) rfl))) (notFace_of_selects (args := #[]) (mvT hZ (hw _ (List.mem_of_getElem? (i := 24) rfl)))) (mvT hZ (hw _ (List.mem_of_getElem? (i := 24) rfl))) (mvT hZ (hw _ (List.mem_of_getElem? (i := 23) rfl))) (by decide) (backOf (W := 0) (rm2e10 l Z a0 hw [] sa125 sa115 sb125 sb115 kb125 kb115 cs (97 : Int32) (110 : Int32) (32 : Int32) (105 : Int32) (110 : Int32) (116 : Int32) (101 : Int32) (103 : Int32) (101 : Int32) (114 : Int32) h141 n0 zz157 f149 f154 f155 f150 f151 f156 f152 f148 hcs) hZ (hw _ (List.mem_of_getElem? (i := 25) rfl)) (hw _ (List.mem_of_getElem? (i := 5) rfl)) (by decide) (by decide)) q161a q161c (g := (mkF m 107 #[.val (.int p0), .val (.int ix), .val (.ref t2), .val (.ref sa115), .val (.ref sa125), .val (.int (0 : Int32))] [(.ref sa115), (.ref sa125)])) rfl (by rw [hml]; rfl) (Steps.refl _) (argsL := [(.ref sa115)]) (rest := []) (lenOf pd_3 rfl) rfl (by show 2 * 0 + _ ≤ _; exact Nat.le_of_eq rfl) (hb hby at_107) (fun _ _ => ⟨rfl, e159, (by decide : 6 + 0 ≤ _), (by decide : 116 + 0 ≤ _)⟩)
        dsimp only [Pt.U, Pt.locs, Pt.cells, Pt.slots] at X161 l161 y161 z161 st161 hQ161
        subst l161 y161 z161
        obtain ⟨rfl, Nq161, e161⟩ := hQ161
        have N162 := Fr.app N160 Nq161
        have pre163 : ∀ tgt, Steps p.tables e below (T161.setTop (mkF m 113 #[.val (.int p0), .val (.int ix), .val (.ref t2), .val (.ref sa115), .val (.ref sa125), .val (.int (0 : Int32))] [])) tgt → Steps p.tables e below (s₁.setTop (entryFrame m #[(.int p0)] maxLocals)) tgt := fun tgt kt => pre140 _ (by
          show Steps p.tables e below (T125.setTop (mkF m 95 #[.val (.int p0), .val (.int ix), .val (.ref t2), .val (.ref sa115), .val (.ref sa125), .unset] [])) _
          refine XS.aload X125.here hx rfl (hb hby at_95) rfl rfl ?_
          show Steps p.tables e below (T125.setTop (mkF m 97 #[.val (.int p0), .val (.int ix), .val (.ref t2), .val (.ref sa115), .val (.ref sa125), .unset] [(.ref sa125)])) _
          refine st141 _ ?_
          show Steps p.tables e below (T141.setTop (mkF m 99 #[.val (.int p0), .val (.int ix), .val (.ref t2), .val (.ref sa115), .val (.ref sa125), .unset] [(.ref sa141), (.ref sa125)])) _
          refine st159.trans ?_
          show Steps p.tables e below (T159.setTop (mkF m 102 #[.val (.int p0), .val (.int ix), .val (.ref t2), .val (.ref sa115), .val (.ref sa125), .unset] [(.int (0 : Int32))])) _
          refine XS.istore X159.here hx rfl (hb hby at_102) rfl (l' := #[.val (.int p0), .val (.int ix), .val (.ref t2), .val (.ref sa115), .val (.ref sa125), .val (.int (0 : Int32))]) rfl ?_
          show Steps p.tables e below (T159.setTop (mkF m 104 #[.val (.int p0), .val (.int ix), .val (.ref t2), .val (.ref sa115), .val (.ref sa125), .val (.int (0 : Int32))] [])) _
          refine XS.aload X159.here hx rfl (hb hby at_104) rfl rfl ?_
          show Steps p.tables e below (T159.setTop (mkF m 106 #[.val (.int p0), .val (.int ix), .val (.ref t2), .val (.ref sa115), .val (.ref sa125), .val (.int (0 : Int32))] [(.ref sa125)])) _
          refine XS.aloadN X159.here hx rfl (hb hby at_106) rfl rfl ?_
          show Steps p.tables e below (T159.setTop (mkF m 107 #[.val (.int p0), .val (.int ix), .val (.ref t2), .val (.ref sa115), .val (.ref sa125), .val (.int (0 : Int32))] [(.ref sa115), (.ref sa125)])) _
          refine st161.trans ?_
          show Steps p.tables e below (T161.setTop (mkF m 110 #[.val (.int p0), .val (.int ix), .val (.ref t2), .val (.ref sa115), .val (.ref sa125), .val (.int (0 : Int32))] [(.int (1 : Int32))])) _
          refine XS.ifNo X161.here hx rfl (hb hby at_110) rfl ((if0 _ _).trans (feq (by decide : ¬ ((1 : Int32) = (0 : Int32)))).1) ?_
          exact kt)
        obtain ⟨T164, X164, e164, st164⟩ := getS2 X161 hx hZ hown (host := "") (Or.inl (hw _ (List.mem_of_getElem? (i := 35) rfl))) Via.refl e161 f145 (g := (mkF m 116 #[.val (.int p0), .val (.int ix), .val (.ref t2), .val (.ref sa115), .val (.ref sa125), .val (.int (0 : Int32))] [(.ref t2), (.int (0 : Int32))])) rfl (hb hby at_116)
        obtain ⟨cq165, kq165, q165a, q165b, q165c⟩ := isOf hZ e164 f143
        obtain ⟨_, _, ⟨T165, L165, k165, n165⟩, -, X165, ⟨Lc165, hQ165, l165, y165, z165⟩, st165⟩ := X164.virtualBack hx (y := (⟨"com/example/keyfold/keyfold/spec/Transform", "fits", "(Lcom/example/keyfold/keyfold/spec/ColumnType;)Z"⟩ : MethodName)) (z := (⟨"com/example/keyfold/keyfold/spec/Transform", "fits", "(Lcom/example/keyfold/keyfold/spec/ColumnType;)Z"⟩ : MethodName)) hown (mvT hZ (hw _ (List.mem_of_getElem? (i := 38) rfl))) (mvT hZ (hw _ (List.mem_of_getElem? (i := 39) rfl))) (notFace_of_selects (args := #[]) (mvT hZ (hw _ (List.mem_of_getElem? (i := 41) rfl)))) (mvT hZ (hw _ (List.mem_of_getElem? (i := 41) rfl))) (mvT hZ (hw _ (List.mem_of_getElem? (i := 40) rfl))) (by decide) (backOf (W := 1) (rm4f l Z a0 hw [] t2 dt h141 n0 zz157 f144 f146 f147) hZ (hw _ (List.mem_of_getElem? (i := 42) rfl)) (hw _ (List.mem_of_getElem? (i := 2) rfl)) (by decide) (by decide)) q165a q165c (g := (mkF m 119 #[.val (.int p0), .val (.int ix), .val (.ref t2), .val (.ref sa115), .val (.ref sa125), .val (.int (0 : Int32))] [(.ref dt), (.ref t2), (.int (0 : Int32))])) rfl (by rw [hml]; rfl) (Steps.refl _) (argsL := [(.ref dt)]) (rest := [(.int (0 : Int32))]) (lenOf pd_4 rfl) rfl (by show 2 * 0 + _ ≤ _; exact Nat.le_of_eq rfl) (hb hby at_119) (fun _ _ => ⟨rfl, e164, (by decide : 6 + 0 ≤ _), (by decide : 116 + 0 ≤ _)⟩)
        dsimp only [Pt.U, Pt.locs, Pt.cells, Pt.slots] at X165 l165 y165 z165 st165 hQ165
        subst l165 y165 z165
        obtain ⟨rfl, Nq165, e165⟩ := hQ165
        have N166 := Fr.app N162 Nq165
        obtain ⟨fs, hr, hrun, hended, hv1, hv2, hv3, hv4⟩ := X165.leaveW hS (by rw [e165]; exact hk) (v := some (.int (1 : Int32))) (fun h => by rw [Bd.returns] at h; cases h)
        refine ⟨_, _, pre163 _ ?_, hrun, hended, _, _, rfl, ?_, ?_, hv1, hv2, hv3, hv4.mono (by decide) (by decide)⟩
        · show Steps p.tables e below (T161.setTop (mkF m 113 #[.val (.int p0), .val (.int ix), .val (.ref t2), .val (.ref sa115), .val (.ref sa125), .val (.int (0 : Int32))] [])) _
          refine XS.iload X161.here hx rfl (hb hby at_113) rfl ?_
          show Steps p.tables e below (T161.setTop (mkF m 115 #[.val (.int p0), .val (.int ix), .val (.ref t2), .val (.ref sa115), .val (.ref sa125), .val (.int (0 : Int32))] [(.int (0 : Int32))])) _
          refine XS.aloadN X161.here hx rfl (hb hby at_115) rfl rfl ?_
          show Steps p.tables e below (T161.setTop (mkF m 116 #[.val (.int p0), .val (.int ix), .val (.ref t2), .val (.ref sa115), .val (.ref sa125), .val (.int (0 : Int32))] [(.ref t2), (.int (0 : Int32))])) _
          refine st164 _ ?_
          show Steps p.tables e below (T164.setTop (mkF m 119 #[.val (.int p0), .val (.int ix), .val (.ref t2), .val (.ref sa115), .val (.ref sa125), .val (.int (0 : Int32))] [(.ref dt), (.ref t2), (.int (0 : Int32))])) _
          refine st165.trans ?_
          show Steps p.tables e below (T165.setTop (mkF m 122 #[.val (.int p0), .val (.int ix), .val (.ref t2), .val (.ref sa115), .val (.ref sa125), .val (.int (0 : Int32))] [(.int (0 : Int32)), (.int (0 : Int32))])) _
          refine XS.icmpNo X165.here hx rfl (hb hby at_122) rfl (teq (rfl : (0 : Int32) = (0 : Int32))).2 ?_
          show Steps p.tables e below (T165.setTop (mkF m 125 #[.val (.int p0), .val (.int ix), .val (.ref t2), .val (.ref sa115), .val (.ref sa125), .val (.int (0 : Int32))] [])) _
          refine XS.iconst X165.here hx rfl (hb hby at_125) ?_
          show Steps p.tables e below (T165.setTop (mkF m 126 #[.val (.int p0), .val (.int ix), .val (.ref t2), .val (.ref sa115), .val (.ref sa125), .val (.int (0 : Int32))] [(.int (1 : Int32))])) _
          refine XS.goto X165.here hx rfl (pc0 := 126) (pc' := 130) rfl (hb hby at_126) (by decide) (by decide) ?_
          show Steps p.tables e below (T165.setTop (mkF m 130 #[.val (.int p0), .val (.int ix), .val (.ref t2), .val (.ref sa115), .val (.ref sa125), .val (.int (0 : Int32))] [(.int (1 : Int32))])) _
          exact retN X165 hx (t := .boolean) Bd.returns (by simp) (hb hby at_130) hr
        · show Q0 Z p0 t0 t1 t2 t3 t4 t5 dt cs h0 n0 _ T165.heap _
          rw [e165]
          exact ⟨rfl, N166⟩
        · show CHr Z consts_1 s.vm s.heap T165.vm T165.heap
          rw [hh, e165]
          exact CG158.trans (CHv.at X165 hZ (own_ew hw) CG158.1)
      · have pre167 : ∀ tgt, Steps p.tables e below (s₁.setTop (mkF m 54 #[.val (.int p0), .val (.int ix), .unset, .unset, .unset, .unset] [(.int (3 : Int32)), (.int ix)])) tgt → Steps p.tables e below (s₁.setTop (entryFrame m #[(.int p0)] maxLocals)) tgt := fun tgt kt => pre112 _ (by
          show Steps p.tables e below (s₁.setTop (mkF m 39 #[.val (.int p0), .val (.int ix), .unset, .unset, .unset, .unset] [(.int (2 : Int32)), (.int ix)])) _
          refine XS.icmpYes X0.here hx rfl (pc0 := 39) (pc' := 52) rfl (hb hby at_39) rfl (feq hc2).2 (by decide) (by decide) ?_
          show Steps p.tables e below (s₁.setTop (mkF m 52 #[.val (.int p0), .val (.int ix), .unset, .unset, .unset, .unset] [])) _
          refine XS.iloadN X0.here hx rfl (hb hby at_52) rfl ?_
          show Steps p.tables e below (s₁.setTop (mkF m 53 #[.val (.int p0), .val (.int ix), .unset, .unset, .unset, .unset] [(.int ix)])) _
          refine XS.iconst X0.here hx rfl (hb hby at_53) ?_
          exact kt)
        by_cases hc3 : ix = (3 : Int32)
        · have pre168 : ∀ tgt, Steps p.tables e below (s₁.setTop (mkF m 57 #[.val (.int p0), .val (.int ix), .unset, .unset, .unset, .unset] [])) tgt → Steps p.tables e below (s₁.setTop (entryFrame m #[(.int p0)] maxLocals)) tgt := fun tgt kt => pre167 _ (by
            show Steps p.tables e below (s₁.setTop (mkF m 54 #[.val (.int p0), .val (.int ix), .unset, .unset, .unset, .unset] [(.int (3 : Int32)), (.int ix)])) _
            refine XS.icmpNo X0.here hx rfl (hb hby at_54) rfl (teq hc3).2 ?_
            exact kt)
          obtain ⟨T169, X169, e169, st169⟩ := getS2 X0 hx hZ hown (host := "") (Or.inl (hw _ (List.mem_of_getElem? (i := 50) rfl))) Via.refl e0 Sx3 (g := (mkF m 57 #[.val (.int p0), .val (.int ix), .unset, .unset, .unset, .unset] [])) rfl (hb hby at_57)
          obtain ⟨sa170, T170, h170, ks170, sb170, kb170, X170, e170, E170, hS, hk, hZ, hown, xa170, xc170, xv170, xr170, -, -, CH170, -, sf170, st170⟩ := ldcCH (EL := consts_1) X169 hx hZ hown (hw _ (List.mem_of_getElem? (i := 20) rfl)) (own_ws hw) e169 hS hk (own_ew hw) (List.mem_of_getElem? (i := 3) rfl) C0.1 (vs := [.int 97, .int 32, .int 100, .int 97, .int 116, .int 101]) (z := (6 : Int32)) ⟨by decide, rfl⟩ (by decide) rfl (g := (mkF m 61 #[.val (.int p0), .val (.int ix), .val (.ref t3), .unset, .unset, .unset] [])) rfl (hb hby at_61) (n := 24) (by decide) (by decide) (by decide) (by decide)
          have f171 := Sx3.ext E170
          have f172 := Ex3.ext E170
          have f173 := Fx3.ext E170
          have f174 := Sd.ext E170
          have f175 := Ed.ext E170
          have f176 := Fd.ext E170
          have f177 := Sc.ext E170
          have zz178 : n0 ≤ h170.size := Nat.le_trans Z0 E170.1
          have CG179 := C0.trans CH170
          obtain ⟨cq180, kq180, q180a, q180b, q180c⟩ := isOf hZ e170 f172
          obtain ⟨_, _, ⟨T180, L180, k180, n180⟩, -, Xr180, hSr180, hgr180, ⟨Lc180, hQ180, l180, y180, z180, hCr180⟩, st180⟩ := X170.virtualBackS hx (y := (⟨"com/example/keyfold/keyfold/spec/Transform", "gives", "()Ljava/lang/String;"⟩ : MethodName)) (z := (⟨"com/example/keyfold/keyfold/spec/Transform", "gives", "()Ljava/lang/String;"⟩ : MethodName)) hown (mvT hZ (hw _ (List.mem_of_getElem? (i := 12) rfl))) (mvT hZ (hw _ (List.mem_of_getElem? (i := 13) rfl))) (notFace_of_selects (args := #[]) (mvT hZ (hw _ (List.mem_of_getElem? (i := 15) rfl)))) (mvT hZ (hw _ (List.mem_of_getElem? (i := 15) rfl))) (mvT hZ (hw _ (List.mem_of_getElem? (i := 14) rfl))) (by decide) (backOfSH (W := 0) (rm1_1 l Z a0 hw [] t3 h170 n0 zz178 f173) hZ (hw _ (List.mem_of_getElem? (i := 16) rfl)) (hw _ (List.mem_of_getElem? (i := 2) rfl)) (by decide) (by decide) (own_ew hw) CG179.1) q180a q180c (g := (mkF m 90 #[.val (.int p0), .val (.int ix), .val (.ref t3), .val (.ref sa170), .unset, .unset] [(.ref t3)])) rfl (by rw [hml]; rfl) (Steps.refl _) (argsL := []) (rest := []) (lenOf pd_2 rfl) rfl (by show 2 * 0 + _ ≤ _; exact Nat.le_of_eq rfl) (hb hby at_90) (fun _ _ => ⟨rfl, e170, (by decide : 2 + 2 ≤ _), (by decide : 28 + 44 ≤ _)⟩)
          dsimp only [Pt.U, Pt.locs, Pt.cells, Pt.slots] at Xr180 l180 y180 z180 st180 hQ180 hSr180 hgr180 hCr180
          subst l180 y180 z180
          obtain ⟨X180, hS, hZ, hown⟩ := rebS hS (by rw [e170]; exact hk) Xr180 hSr180 hgr180 hZ hown
          have hk := Nat.le_refl T180.heap.size
          have CG181 := CG179.trans hCr180
          obtain ⟨sa180, sb180, kb180, rfl, Nq180, E180, xa180, xc180, xv180, xr180⟩ := hQ180
          have f182 := f171.ext E180
          have f183 := f172.ext E180
          have f184 := f173.ext E180
          have f185 := f174.ext E180
          have f186 := f175.ext E180
          have f187 := f176.ext E180
          have f188 := f177.ext E180
          have f189 := xa170.ext E180
          have f190 := xc170.ext E180
          have f191 := xv170.ext E180
          have f192 := xr170.ext E180
          have zz193 : n0 ≤ T180.heap.size := Nat.le_trans zz178 E180.1
          have N194 := Fr.app N0 Nq180
          have pre195 : ∀ tgt, Steps p.tables e below (T180.setTop (mkF m 95 #[.val (.int p0), .val (.int ix), .val (.ref t3), .val (.ref sa170), .val (.ref sa180), .unset] [])) tgt → Steps p.tables e below (s₁.setTop (entryFrame m #[(.int p0)] maxLocals)) tgt := fun tgt kt => pre168 _ (by
            show Steps p.tables e below (s₁.setTop (mkF m 57 #[.val (.int p0), .val (.int ix), .unset, .unset, .unset, .unset] [])) _
            refine st169 _ ?_
            show Steps p.tables e below (T169.setTop (mkF m 60 #[.val (.int p0), .val (.int ix), .unset, .unset, .unset, .unset] [(.ref t3)])) _
            refine XS.astoreN X169.here hx rfl (hb hby at_60) rfl rfl (l' := #[.val (.int p0), .val (.int ix), .val (.ref t3), .unset, .unset, .unset]) rfl ?_
            show Steps p.tables e below (T169.setTop (mkF m 61 #[.val (.int p0), .val (.int ix), .val (.ref t3), .unset, .unset, .unset] [])) _
            refine st170 _ ?_
            show Steps p.tables e below (T170.setTop (mkF m 63 #[.val (.int p0), .val (.int ix), .val (.ref t3), .unset, .unset, .unset] [(.ref sa170)])) _
            refine XS.astoreN X170.here hx rfl (hb hby at_63) rfl rfl (l' := #[.val (.int p0), .val (.int ix), .val (.ref t3), .val (.ref sa170), .unset, .unset]) rfl ?_
            show Steps p.tables e below (T170.setTop (mkF m 64 #[.val (.int p0), .val (.int ix), .val (.ref t3), .val (.ref sa170), .unset, .unset] [])) _
            refine XS.goto X170.here hx rfl (pc0 := 64) (pc' := 89) rfl (hb hby at_64) (by decide) (by decide) ?_
            show Steps p.tables e below (T170.setTop (mkF m 89 #[.val (.int p0), .val (.int ix), .val (.ref t3), .val (.ref sa170), .unset, .unset] [])) _
            refine XS.aloadN X170.here hx rfl (hb hby at_89) rfl rfl ?_
            show Steps p.tables e below (T170.setTop (mkF m 90 #[.val (.int p0), .val (.int ix), .val (.ref t3), .val (.ref sa170), .unset, .unset] [(.ref t3)])) _
            refine st180.trans ?_
            show Steps p.tables e below (T180.setTop (mkF m 93 #[.val (.int p0), .val (.int ix), .val (.ref t3), .val (.ref sa170), .unset, .unset] [(.ref sa180)])) _
            refine XS.astore X180.here hx rfl (hb hby at_93) rfl rfl (l' := #[.val (.int p0), .val (.int ix), .val (.ref t3), .val (.ref sa170), .val (.ref sa180), .unset]) rfl ?_
            exact kt)
          obtain ⟨sa196, T196, h196, ks196, sb196, kb196, X196, e196, E196, hS, hk, hZ, hown, xa196, xc196, xv196, xr196, -, -, CH196, -, sf196, st196⟩ := ldcCH (EL := consts_1) X180 hx hZ hown (hw _ (List.mem_of_getElem? (i := 20) rfl)) (own_ws hw) rfl hS hk (own_ew hw) (List.mem_of_getElem? (i := 3) rfl) CG181.1 (vs := [.int 97, .int 32, .int 100, .int 97, .int 116, .int 101]) (z := (6 : Int32)) ⟨by decide, rfl⟩ (by decide) rfl (g := (mkF m 97 #[.val (.int p0), .val (.int ix), .val (.ref t3), .val (.ref sa170), .val (.ref sa180), .unset] [(.ref sa180)])) rfl (hb hby at_97) (n := 24) (by decide) (by decide) (by decide) (by decide)
          have f197 := f182.ext E196
          have f198 := f183.ext E196
          have f199 := f184.ext E196
          have f200 := f185.ext E196
          have f201 := f186.ext E196
          have f202 := f187.ext E196
          have f203 := f188.ext E196
          have f204 := f189.ext E196
          have f205 := f190.ext E196
          have f206 := f191.ext E196
          have f207 := f192.ext E196
          have f208 := xa180.ext E196
          have f209 := xc180.ext E196
          have f210 := xv180.ext E196
          have f211 := xr180.ext E196
          have zz212 : n0 ≤ h196.size := Nat.le_trans zz193 E196.1
          have CG213 := CG181.trans CH196
          obtain ⟨cq214, kq214, q214a, q214b, q214c⟩ := isOf hZ e196 f208
          obtain ⟨_, _, ⟨T214, L214, k214, n214⟩, -, X214, ⟨Lc214, hQ214, l214, y214, z214⟩, st214⟩ := X196.virtualBack hx (y := (⟨"java/lang/String", "equals", "(Ljava/lang/Object;)Z"⟩ : MethodName)) (z := (⟨"java/lang/String", "equals", "(Ljava/lang/Object;)Z"⟩ : MethodName)) hown (mvT hZ (hw _ (List.mem_of_getElem? (i := 21) rfl))) (mvT hZ (hw _ (List.mem_of_getElem? (i := 22) rfl))) (notFace_of_selects (args := #[]) (mvT hZ (hw _ (List.mem_of_getElem? (i := 24) rfl)))) (mvT hZ (hw _ (List.mem_of_getElem? (i := 24) rfl))) (mvT hZ (hw _ (List.mem_of_getElem? (i := 23) rfl))) (by decide) (backOf (W := 0) (rm2e6 l Z a0 hw [] sa180 sa196 sb180 sb196 kb180 kb196 cs (97 : Int32) (32 : Int32) (100 : Int32) (97 : Int32) (116 : Int32) (101 : Int32) h196 n0 zz212 xa196 f209 f210 xc196 xv196 f211 xr196 f203 hcs) hZ (hw _ (List.mem_of_getElem? (i := 25) rfl)) (hw _ (List.mem_of_getElem? (i := 5) rfl)) (by decide) (by decide)) q214a q214c (g := (mkF m 99 #[.val (.int p0), .val (.int ix), .val (.ref t3), .val (.ref sa170), .val (.ref sa180), .unset] [(.ref sa196), (.ref sa180)])) rfl (by rw [hml]; rfl) (Steps.refl _) (argsL := [(.ref sa196)]) (rest := []) (lenOf pd_3 rfl) rfl (by show 2 * 0 + _ ≤ _; exact Nat.le_of_eq rfl) (hb hby at_99) (fun _ _ => ⟨rfl, e196, (by decide : 6 + 0 ≤ _), (by decide : 100 + 0 ≤ _)⟩)
          dsimp only [Pt.U, Pt.locs, Pt.cells, Pt.slots] at X214 l214 y214 z214 st214 hQ214
          subst l214 y214 z214
          obtain ⟨rfl, Nq214, e214⟩ := hQ214
          have N215 := Fr.app N194 Nq214
          obtain ⟨cq216, kq216, q216a, q216b, q216c⟩ := isOf hZ e214 f208
          obtain ⟨_, _, ⟨T216, L216, k216, n216⟩, -, X216, ⟨Lc216, hQ216, l216, y216, z216⟩, st216⟩ := X214.virtualBack hx (y := (⟨"java/lang/String", "equals", "(Ljava/lang/Object;)Z"⟩ : MethodName)) (z := (⟨"java/lang/String", "equals", "(Ljava/lang/Object;)Z"⟩ : MethodName)) hown (mvT hZ (hw _ (List.mem_of_getElem? (i := 21) rfl))) (mvT hZ (hw _ (List.mem_of_getElem? (i := 22) rfl))) (notFace_of_selects (args := #[]) (mvT hZ (hw _ (List.mem_of_getElem? (i := 24) rfl)))) (mvT hZ (hw _ (List.mem_of_getElem? (i := 24) rfl))) (mvT hZ (hw _ (List.mem_of_getElem? (i := 23) rfl))) (by decide) (backOf (W := 0) (rm2e6 l Z a0 hw [] sa180 sa170 sb180 sb170 kb180 kb170 cs (97 : Int32) (32 : Int32) (100 : Int32) (97 : Int32) (116 : Int32) (101 : Int32) h196 n0 zz212 f204 f209 f210 f205 f206 f211 f207 f203 hcs) hZ (hw _ (List.mem_of_getElem? (i := 25) rfl)) (hw _ (List.mem_of_getElem? (i := 5) rfl)) (by decide) (by decide)) q216a q216c (g := (mkF m 107 #[.val (.int p0), .val (.int ix), .val (.ref t3), .val (.ref sa170), .val (.ref sa180), .val (.int (1 : Int32))] [(.ref sa170), (.ref sa180)])) rfl (by rw [hml]; rfl) (Steps.refl _) (argsL := [(.ref sa170)]) (rest := []) (lenOf pd_3 rfl) rfl (by show 2 * 0 + _ ≤ _; exact Nat.le_of_eq rfl) (hb hby at_107) (fun _ _ => ⟨rfl, e214, (by decide : 6 + 0 ≤ _), (by decide : 100 + 0 ≤ _)⟩)
          dsimp only [Pt.U, Pt.locs, Pt.cells, Pt.slots] at X216 l216 y216 z216 st216 hQ216
          subst l216 y216 z216
          obtain ⟨rfl, Nq216, e216⟩ := hQ216
          have N217 := Fr.app N215 Nq216
          have pre218 : ∀ tgt, Steps p.tables e below (T216.setTop (mkF m 113 #[.val (.int p0), .val (.int ix), .val (.ref t3), .val (.ref sa170), .val (.ref sa180), .val (.int (1 : Int32))] [])) tgt → Steps p.tables e below (s₁.setTop (entryFrame m #[(.int p0)] maxLocals)) tgt := fun tgt kt => pre195 _ (by
            show Steps p.tables e below (T180.setTop (mkF m 95 #[.val (.int p0), .val (.int ix), .val (.ref t3), .val (.ref sa170), .val (.ref sa180), .unset] [])) _
            refine XS.aload X180.here hx rfl (hb hby at_95) rfl rfl ?_
            show Steps p.tables e below (T180.setTop (mkF m 97 #[.val (.int p0), .val (.int ix), .val (.ref t3), .val (.ref sa170), .val (.ref sa180), .unset] [(.ref sa180)])) _
            refine st196 _ ?_
            show Steps p.tables e below (T196.setTop (mkF m 99 #[.val (.int p0), .val (.int ix), .val (.ref t3), .val (.ref sa170), .val (.ref sa180), .unset] [(.ref sa196), (.ref sa180)])) _
            refine st214.trans ?_
            show Steps p.tables e below (T214.setTop (mkF m 102 #[.val (.int p0), .val (.int ix), .val (.ref t3), .val (.ref sa170), .val (.ref sa180), .unset] [(.int (1 : Int32))])) _
            refine XS.istore X214.here hx rfl (hb hby at_102) rfl (l' := #[.val (.int p0), .val (.int ix), .val (.ref t3), .val (.ref sa170), .val (.ref sa180), .val (.int (1 : Int32))]) rfl ?_
            show Steps p.tables e below (T214.setTop (mkF m 104 #[.val (.int p0), .val (.int ix), .val (.ref t3), .val (.ref sa170), .val (.ref sa180), .val (.int (1 : Int32))] [])) _
            refine XS.aload X214.here hx rfl (hb hby at_104) rfl rfl ?_
            show Steps p.tables e below (T214.setTop (mkF m 106 #[.val (.int p0), .val (.int ix), .val (.ref t3), .val (.ref sa170), .val (.ref sa180), .val (.int (1 : Int32))] [(.ref sa180)])) _
            refine XS.aloadN X214.here hx rfl (hb hby at_106) rfl rfl ?_
            show Steps p.tables e below (T214.setTop (mkF m 107 #[.val (.int p0), .val (.int ix), .val (.ref t3), .val (.ref sa170), .val (.ref sa180), .val (.int (1 : Int32))] [(.ref sa170), (.ref sa180)])) _
            refine st216.trans ?_
            show Steps p.tables e below (T216.setTop (mkF m 110 #[.val (.int p0), .val (.int ix), .val (.ref t3), .val (.ref sa170), .val (.ref sa180), .val (.int (1 : Int32))] [(.int (1 : Int32))])) _
            refine XS.ifNo X216.here hx rfl (hb hby at_110) rfl ((if0 _ _).trans (feq (by decide : ¬ ((1 : Int32) = (0 : Int32)))).1) ?_
            exact kt)
          obtain ⟨T219, X219, e219, st219⟩ := getS2 X216 hx hZ hown (host := "") (Or.inl (hw _ (List.mem_of_getElem? (i := 35) rfl))) Via.refl e216 f200 (g := (mkF m 116 #[.val (.int p0), .val (.int ix), .val (.ref t3), .val (.ref sa170), .val (.ref sa180), .val (.int (1 : Int32))] [(.ref t3), (.int (1 : Int32))])) rfl (hb hby at_116)
          obtain ⟨cq220, kq220, q220a, q220b, q220c⟩ := isOf hZ e219 f198
          obtain ⟨_, _, ⟨T220, L220, k220, n220⟩, -, X220, ⟨Lc220, hQ220, l220, y220, z220⟩, st220⟩ := X219.virtualBack hx (y := (⟨"com/example/keyfold/keyfold/spec/Transform", "fits", "(Lcom/example/keyfold/keyfold/spec/ColumnType;)Z"⟩ : MethodName)) (z := (⟨"com/example/keyfold/keyfold/spec/Transform", "fits", "(Lcom/example/keyfold/keyfold/spec/ColumnType;)Z"⟩ : MethodName)) hown (mvT hZ (hw _ (List.mem_of_getElem? (i := 38) rfl))) (mvT hZ (hw _ (List.mem_of_getElem? (i := 39) rfl))) (notFace_of_selects (args := #[]) (mvT hZ (hw _ (List.mem_of_getElem? (i := 41) rfl)))) (mvT hZ (hw _ (List.mem_of_getElem? (i := 41) rfl))) (mvT hZ (hw _ (List.mem_of_getElem? (i := 40) rfl))) (by decide) (backOf (W := 1) (rm4t l Z a0 hw [] t3 dt h196 n0 zz212 f199 f200) hZ (hw _ (List.mem_of_getElem? (i := 42) rfl)) (hw _ (List.mem_of_getElem? (i := 2) rfl)) (by decide) (by decide)) q220a q220c (g := (mkF m 119 #[.val (.int p0), .val (.int ix), .val (.ref t3), .val (.ref sa170), .val (.ref sa180), .val (.int (1 : Int32))] [(.ref dt), (.ref t3), (.int (1 : Int32))])) rfl (by rw [hml]; rfl) (Steps.refl _) (argsL := [(.ref dt)]) (rest := [(.int (1 : Int32))]) (lenOf pd_4 rfl) rfl (by show 2 * 0 + _ ≤ _; exact Nat.le_of_eq rfl) (hb hby at_119) (fun _ _ => ⟨rfl, e219, (by decide : 6 + 0 ≤ _), (by decide : 100 + 0 ≤ _)⟩)
          dsimp only [Pt.U, Pt.locs, Pt.cells, Pt.slots] at X220 l220 y220 z220 st220 hQ220
          subst l220 y220 z220
          obtain ⟨rfl, Nq220, e220⟩ := hQ220
          have N221 := Fr.app N217 Nq220
          obtain ⟨fs, hr, hrun, hended, hv1, hv2, hv3, hv4⟩ := X220.leaveW hS (by rw [e220]; exact hk) (v := some (.int (1 : Int32))) (fun h => by rw [Bd.returns] at h; cases h)
          refine ⟨_, _, pre218 _ ?_, hrun, hended, _, _, rfl, ?_, ?_, hv1, hv2, hv3, hv4.mono (by decide) (by decide)⟩
          · show Steps p.tables e below (T216.setTop (mkF m 113 #[.val (.int p0), .val (.int ix), .val (.ref t3), .val (.ref sa170), .val (.ref sa180), .val (.int (1 : Int32))] [])) _
            refine XS.iload X216.here hx rfl (hb hby at_113) rfl ?_
            show Steps p.tables e below (T216.setTop (mkF m 115 #[.val (.int p0), .val (.int ix), .val (.ref t3), .val (.ref sa170), .val (.ref sa180), .val (.int (1 : Int32))] [(.int (1 : Int32))])) _
            refine XS.aloadN X216.here hx rfl (hb hby at_115) rfl rfl ?_
            show Steps p.tables e below (T216.setTop (mkF m 116 #[.val (.int p0), .val (.int ix), .val (.ref t3), .val (.ref sa170), .val (.ref sa180), .val (.int (1 : Int32))] [(.ref t3), (.int (1 : Int32))])) _
            refine st219 _ ?_
            show Steps p.tables e below (T219.setTop (mkF m 119 #[.val (.int p0), .val (.int ix), .val (.ref t3), .val (.ref sa170), .val (.ref sa180), .val (.int (1 : Int32))] [(.ref dt), (.ref t3), (.int (1 : Int32))])) _
            refine st220.trans ?_
            show Steps p.tables e below (T220.setTop (mkF m 122 #[.val (.int p0), .val (.int ix), .val (.ref t3), .val (.ref sa170), .val (.ref sa180), .val (.int (1 : Int32))] [(.int (1 : Int32)), (.int (1 : Int32))])) _
            refine XS.icmpNo X220.here hx rfl (hb hby at_122) rfl (teq (rfl : (1 : Int32) = (1 : Int32))).2 ?_
            show Steps p.tables e below (T220.setTop (mkF m 125 #[.val (.int p0), .val (.int ix), .val (.ref t3), .val (.ref sa170), .val (.ref sa180), .val (.int (1 : Int32))] [])) _
            refine XS.iconst X220.here hx rfl (hb hby at_125) ?_
            show Steps p.tables e below (T220.setTop (mkF m 126 #[.val (.int p0), .val (.int ix), .val (.ref t3), .val (.ref sa170), .val (.ref sa180), .val (.int (1 : Int32))] [(.int (1 : Int32))])) _
            refine XS.goto X220.here hx rfl (pc0 := 126) (pc' := 130) rfl (hb hby at_126) (by decide) (by decide) ?_
            show Steps p.tables e below (T220.setTop (mkF m 130 #[.val (.int p0), .val (.int ix), .val (.ref t3), .val (.ref sa170), .val (.ref sa180), .val (.int (1 : Int32))] [(.int (1 : Int32))])) _
            exact retN X220 hx (t := .boolean) Bd.returns (by simp) (hb hby at_130) hr
          · show Q0 Z p0 t0 t1 t2 t3 t4 t5 dt cs h0 n0 _ T220.heap _
            rw [e220]
            exact ⟨rfl, N221⟩
          · show CHr Z consts_1 s.vm s.heap T220.vm T220.heap
            rw [hh, e220]
            exact CG213.trans (CHv.at X220 hZ (own_ew hw) CG213.1)
        · have pre222 : ∀ tgt, Steps p.tables e below (s₁.setTop (mkF m 69 #[.val (.int p0), .val (.int ix), .unset, .unset, .unset, .unset] [(.int (4 : Int32)), (.int ix)])) tgt → Steps p.tables e below (s₁.setTop (entryFrame m #[(.int p0)] maxLocals)) tgt := fun tgt kt => pre167 _ (by
            show Steps p.tables e below (s₁.setTop (mkF m 54 #[.val (.int p0), .val (.int ix), .unset, .unset, .unset, .unset] [(.int (3 : Int32)), (.int ix)])) _
            refine XS.icmpYes X0.here hx rfl (pc0 := 54) (pc' := 67) rfl (hb hby at_54) rfl (feq hc3).2 (by decide) (by decide) ?_
            show Steps p.tables e below (s₁.setTop (mkF m 67 #[.val (.int p0), .val (.int ix), .unset, .unset, .unset, .unset] [])) _
            refine XS.iloadN X0.here hx rfl (hb hby at_67) rfl ?_
            show Steps p.tables e below (s₁.setTop (mkF m 68 #[.val (.int p0), .val (.int ix), .unset, .unset, .unset, .unset] [(.int ix)])) _
            refine XS.iconst X0.here hx rfl (hb hby at_68) ?_
            exact kt)
          by_cases hc4 : ix = (4 : Int32)
          · have pre223 : ∀ tgt, Steps p.tables e below (s₁.setTop (mkF m 72 #[.val (.int p0), .val (.int ix), .unset, .unset, .unset, .unset] [])) tgt → Steps p.tables e below (s₁.setTop (entryFrame m #[(.int p0)] maxLocals)) tgt := fun tgt kt => pre222 _ (by
              show Steps p.tables e below (s₁.setTop (mkF m 69 #[.val (.int p0), .val (.int ix), .unset, .unset, .unset, .unset] [(.int (4 : Int32)), (.int ix)])) _
              refine XS.icmpNo X0.here hx rfl (hb hby at_69) rfl (teq hc4).2 ?_
              exact kt)
            obtain ⟨T224, X224, e224, st224⟩ := getS2 X0 hx hZ hown (host := "") (Or.inl (hw _ (List.mem_of_getElem? (i := 60) rfl))) Via.refl e0 Sx4 (g := (mkF m 72 #[.val (.int p0), .val (.int ix), .unset, .unset, .unset, .unset] [])) rfl (hb hby at_72)
            obtain ⟨sa225, T225, h225, ks225, sb225, kb225, X225, e225, E225, hS, hk, hZ, hown, xa225, xc225, xv225, xr225, -, -, CH225, -, sf225, st225⟩ := ldcCH (EL := consts_1) X224 hx hZ hown (hw _ (List.mem_of_getElem? (i := 20) rfl)) (own_ws hw) e224 hS hk (own_ew hw) (List.mem_of_getElem? (i := 3) rfl) C0.1 (vs := [.int 97, .int 32, .int 100, .int 97, .int 116, .int 101]) (z := (6 : Int32)) ⟨by decide, rfl⟩ (by decide) rfl (g := (mkF m 76 #[.val (.int p0), .val (.int ix), .val (.ref t4), .unset, .unset, .unset] [])) rfl (hb hby at_76) (n := 24) (by decide) (by decide) (by decide) (by decide)
            have f226 := Sx4.ext E225
            have f227 := Ex4.ext E225
            have f228 := Fx4.ext E225
            have f229 := Sd.ext E225
            have f230 := Ed.ext E225
            have f231 := Fd.ext E225
            have f232 := Sc.ext E225
            have zz233 : n0 ≤ h225.size := Nat.le_trans Z0 E225.1
            have CG234 := C0.trans CH225
            obtain ⟨cq235, kq235, q235a, q235b, q235c⟩ := isOf hZ e225 f227
            obtain ⟨_, _, ⟨T235, L235, k235, n235⟩, -, Xr235, hSr235, hgr235, ⟨Lc235, hQ235, l235, y235, z235, hCr235⟩, st235⟩ := X225.virtualBackS hx (y := (⟨"com/example/keyfold/keyfold/spec/Transform", "gives", "()Ljava/lang/String;"⟩ : MethodName)) (z := (⟨"com/example/keyfold/keyfold/spec/Transform", "gives", "()Ljava/lang/String;"⟩ : MethodName)) hown (mvT hZ (hw _ (List.mem_of_getElem? (i := 12) rfl))) (mvT hZ (hw _ (List.mem_of_getElem? (i := 13) rfl))) (notFace_of_selects (args := #[]) (mvT hZ (hw _ (List.mem_of_getElem? (i := 15) rfl)))) (mvT hZ (hw _ (List.mem_of_getElem? (i := 15) rfl))) (mvT hZ (hw _ (List.mem_of_getElem? (i := 14) rfl))) (by decide) (backOfSH (W := 0) (rm1_1 l Z a0 hw [] t4 h225 n0 zz233 f228) hZ (hw _ (List.mem_of_getElem? (i := 16) rfl)) (hw _ (List.mem_of_getElem? (i := 2) rfl)) (by decide) (by decide) (own_ew hw) CG234.1) q235a q235c (g := (mkF m 90 #[.val (.int p0), .val (.int ix), .val (.ref t4), .val (.ref sa225), .unset, .unset] [(.ref t4)])) rfl (by rw [hml]; rfl) (Steps.refl _) (argsL := []) (rest := []) (lenOf pd_2 rfl) rfl (by show 2 * 0 + _ ≤ _; exact Nat.le_of_eq rfl) (hb hby at_90) (fun _ _ => ⟨rfl, e225, (by decide : 2 + 2 ≤ _), (by decide : 28 + 44 ≤ _)⟩)
            dsimp only [Pt.U, Pt.locs, Pt.cells, Pt.slots] at Xr235 l235 y235 z235 st235 hQ235 hSr235 hgr235 hCr235
            subst l235 y235 z235
            obtain ⟨X235, hS, hZ, hown⟩ := rebS hS (by rw [e225]; exact hk) Xr235 hSr235 hgr235 hZ hown
            have hk := Nat.le_refl T235.heap.size
            have CG236 := CG234.trans hCr235
            obtain ⟨sa235, sb235, kb235, rfl, Nq235, E235, xa235, xc235, xv235, xr235⟩ := hQ235
            have f237 := f226.ext E235
            have f238 := f227.ext E235
            have f239 := f228.ext E235
            have f240 := f229.ext E235
            have f241 := f230.ext E235
            have f242 := f231.ext E235
            have f243 := f232.ext E235
            have f244 := xa225.ext E235
            have f245 := xc225.ext E235
            have f246 := xv225.ext E235
            have f247 := xr225.ext E235
            have zz248 : n0 ≤ T235.heap.size := Nat.le_trans zz233 E235.1
            have N249 := Fr.app N0 Nq235
            have pre250 : ∀ tgt, Steps p.tables e below (T235.setTop (mkF m 95 #[.val (.int p0), .val (.int ix), .val (.ref t4), .val (.ref sa225), .val (.ref sa235), .unset] [])) tgt → Steps p.tables e below (s₁.setTop (entryFrame m #[(.int p0)] maxLocals)) tgt := fun tgt kt => pre223 _ (by
              show Steps p.tables e below (s₁.setTop (mkF m 72 #[.val (.int p0), .val (.int ix), .unset, .unset, .unset, .unset] [])) _
              refine st224 _ ?_
              show Steps p.tables e below (T224.setTop (mkF m 75 #[.val (.int p0), .val (.int ix), .unset, .unset, .unset, .unset] [(.ref t4)])) _
              refine XS.astoreN X224.here hx rfl (hb hby at_75) rfl rfl (l' := #[.val (.int p0), .val (.int ix), .val (.ref t4), .unset, .unset, .unset]) rfl ?_
              show Steps p.tables e below (T224.setTop (mkF m 76 #[.val (.int p0), .val (.int ix), .val (.ref t4), .unset, .unset, .unset] [])) _
              refine st225 _ ?_
              show Steps p.tables e below (T225.setTop (mkF m 78 #[.val (.int p0), .val (.int ix), .val (.ref t4), .unset, .unset, .unset] [(.ref sa225)])) _
              refine XS.astoreN X225.here hx rfl (hb hby at_78) rfl rfl (l' := #[.val (.int p0), .val (.int ix), .val (.ref t4), .val (.ref sa225), .unset, .unset]) rfl ?_
              show Steps p.tables e below (T225.setTop (mkF m 79 #[.val (.int p0), .val (.int ix), .val (.ref t4), .val (.ref sa225), .unset, .unset] [])) _
              refine XS.goto X225.here hx rfl (pc0 := 79) (pc' := 89) rfl (hb hby at_79) (by decide) (by decide) ?_
              show Steps p.tables e below (T225.setTop (mkF m 89 #[.val (.int p0), .val (.int ix), .val (.ref t4), .val (.ref sa225), .unset, .unset] [])) _
              refine XS.aloadN X225.here hx rfl (hb hby at_89) rfl rfl ?_
              show Steps p.tables e below (T225.setTop (mkF m 90 #[.val (.int p0), .val (.int ix), .val (.ref t4), .val (.ref sa225), .unset, .unset] [(.ref t4)])) _
              refine st235.trans ?_
              show Steps p.tables e below (T235.setTop (mkF m 93 #[.val (.int p0), .val (.int ix), .val (.ref t4), .val (.ref sa225), .unset, .unset] [(.ref sa235)])) _
              refine XS.astore X235.here hx rfl (hb hby at_93) rfl rfl (l' := #[.val (.int p0), .val (.int ix), .val (.ref t4), .val (.ref sa225), .val (.ref sa235), .unset]) rfl ?_
              exact kt)
            obtain ⟨sa251, T251, h251, ks251, sb251, kb251, X251, e251, E251, hS, hk, hZ, hown, xa251, xc251, xv251, xr251, -, -, CH251, -, sf251, st251⟩ := ldcCH (EL := consts_1) X235 hx hZ hown (hw _ (List.mem_of_getElem? (i := 20) rfl)) (own_ws hw) rfl hS hk (own_ew hw) (List.mem_of_getElem? (i := 3) rfl) CG236.1 (vs := [.int 97, .int 32, .int 100, .int 97, .int 116, .int 101]) (z := (6 : Int32)) ⟨by decide, rfl⟩ (by decide) rfl (g := (mkF m 97 #[.val (.int p0), .val (.int ix), .val (.ref t4), .val (.ref sa225), .val (.ref sa235), .unset] [(.ref sa235)])) rfl (hb hby at_97) (n := 24) (by decide) (by decide) (by decide) (by decide)
            have f252 := f237.ext E251
            have f253 := f238.ext E251
            have f254 := f239.ext E251
            have f255 := f240.ext E251
            have f256 := f241.ext E251
            have f257 := f242.ext E251
            have f258 := f243.ext E251
            have f259 := f244.ext E251
            have f260 := f245.ext E251
            have f261 := f246.ext E251
            have f262 := f247.ext E251
            have f263 := xa235.ext E251
            have f264 := xc235.ext E251
            have f265 := xv235.ext E251
            have f266 := xr235.ext E251
            have zz267 : n0 ≤ h251.size := Nat.le_trans zz248 E251.1
            have CG268 := CG236.trans CH251
            obtain ⟨cq269, kq269, q269a, q269b, q269c⟩ := isOf hZ e251 f263
            obtain ⟨_, _, ⟨T269, L269, k269, n269⟩, -, X269, ⟨Lc269, hQ269, l269, y269, z269⟩, st269⟩ := X251.virtualBack hx (y := (⟨"java/lang/String", "equals", "(Ljava/lang/Object;)Z"⟩ : MethodName)) (z := (⟨"java/lang/String", "equals", "(Ljava/lang/Object;)Z"⟩ : MethodName)) hown (mvT hZ (hw _ (List.mem_of_getElem? (i := 21) rfl))) (mvT hZ (hw _ (List.mem_of_getElem? (i := 22) rfl))) (notFace_of_selects (args := #[]) (mvT hZ (hw _ (List.mem_of_getElem? (i := 24) rfl)))) (mvT hZ (hw _ (List.mem_of_getElem? (i := 24) rfl))) (mvT hZ (hw _ (List.mem_of_getElem? (i := 23) rfl))) (by decide) (backOf (W := 0) (rm2e6 l Z a0 hw [] sa235 sa251 sb235 sb251 kb235 kb251 cs (97 : Int32) (32 : Int32) (100 : Int32) (97 : Int32) (116 : Int32) (101 : Int32) h251 n0 zz267 xa251 f264 f265 xc251 xv251 f266 xr251 f258 hcs) hZ (hw _ (List.mem_of_getElem? (i := 25) rfl)) (hw _ (List.mem_of_getElem? (i := 5) rfl)) (by decide) (by decide)) q269a q269c (g := (mkF m 99 #[.val (.int p0), .val (.int ix), .val (.ref t4), .val (.ref sa225), .val (.ref sa235), .unset] [(.ref sa251), (.ref sa235)])) rfl (by rw [hml]; rfl) (Steps.refl _) (argsL := [(.ref sa251)]) (rest := []) (lenOf pd_3 rfl) rfl (by show 2 * 0 + _ ≤ _; exact Nat.le_of_eq rfl) (hb hby at_99) (fun _ _ => ⟨rfl, e251, (by decide : 6 + 0 ≤ _), (by decide : 100 + 0 ≤ _)⟩)
            dsimp only [Pt.U, Pt.locs, Pt.cells, Pt.slots] at X269 l269 y269 z269 st269 hQ269
            subst l269 y269 z269
            obtain ⟨rfl, Nq269, e269⟩ := hQ269
            have N270 := Fr.app N249 Nq269
            obtain ⟨cq271, kq271, q271a, q271b, q271c⟩ := isOf hZ e269 f263
            obtain ⟨_, _, ⟨T271, L271, k271, n271⟩, -, X271, ⟨Lc271, hQ271, l271, y271, z271⟩, st271⟩ := X269.virtualBack hx (y := (⟨"java/lang/String", "equals", "(Ljava/lang/Object;)Z"⟩ : MethodName)) (z := (⟨"java/lang/String", "equals", "(Ljava/lang/Object;)Z"⟩ : MethodName)) hown (mvT hZ (hw _ (List.mem_of_getElem? (i := 21) rfl))) (mvT hZ (hw _ (List.mem_of_getElem? (i := 22) rfl))) (notFace_of_selects (args := #[]) (mvT hZ (hw _ (List.mem_of_getElem? (i := 24) rfl)))) (mvT hZ (hw _ (List.mem_of_getElem? (i := 24) rfl))) (mvT hZ (hw _ (List.mem_of_getElem? (i := 23) rfl))) (by decide) (backOf (W := 0) (rm2e6 l Z a0 hw [] sa235 sa225 sb235 sb225 kb235 kb225 cs (97 : Int32) (32 : Int32) (100 : Int32) (97 : Int32) (116 : Int32) (101 : Int32) h251 n0 zz267 f259 f264 f265 f260 f261 f266 f262 f258 hcs) hZ (hw _ (List.mem_of_getElem? (i := 25) rfl)) (hw _ (List.mem_of_getElem? (i := 5) rfl)) (by decide) (by decide)) q271a q271c (g := (mkF m 107 #[.val (.int p0), .val (.int ix), .val (.ref t4), .val (.ref sa225), .val (.ref sa235), .val (.int (1 : Int32))] [(.ref sa225), (.ref sa235)])) rfl (by rw [hml]; rfl) (Steps.refl _) (argsL := [(.ref sa225)]) (rest := []) (lenOf pd_3 rfl) rfl (by show 2 * 0 + _ ≤ _; exact Nat.le_of_eq rfl) (hb hby at_107) (fun _ _ => ⟨rfl, e269, (by decide : 6 + 0 ≤ _), (by decide : 100 + 0 ≤ _)⟩)
            dsimp only [Pt.U, Pt.locs, Pt.cells, Pt.slots] at X271 l271 y271 z271 st271 hQ271
            subst l271 y271 z271
            obtain ⟨rfl, Nq271, e271⟩ := hQ271
            have N272 := Fr.app N270 Nq271
            have pre273 : ∀ tgt, Steps p.tables e below (T271.setTop (mkF m 113 #[.val (.int p0), .val (.int ix), .val (.ref t4), .val (.ref sa225), .val (.ref sa235), .val (.int (1 : Int32))] [])) tgt → Steps p.tables e below (s₁.setTop (entryFrame m #[(.int p0)] maxLocals)) tgt := fun tgt kt => pre250 _ (by
              show Steps p.tables e below (T235.setTop (mkF m 95 #[.val (.int p0), .val (.int ix), .val (.ref t4), .val (.ref sa225), .val (.ref sa235), .unset] [])) _
              refine XS.aload X235.here hx rfl (hb hby at_95) rfl rfl ?_
              show Steps p.tables e below (T235.setTop (mkF m 97 #[.val (.int p0), .val (.int ix), .val (.ref t4), .val (.ref sa225), .val (.ref sa235), .unset] [(.ref sa235)])) _
              refine st251 _ ?_
              show Steps p.tables e below (T251.setTop (mkF m 99 #[.val (.int p0), .val (.int ix), .val (.ref t4), .val (.ref sa225), .val (.ref sa235), .unset] [(.ref sa251), (.ref sa235)])) _
              refine st269.trans ?_
              show Steps p.tables e below (T269.setTop (mkF m 102 #[.val (.int p0), .val (.int ix), .val (.ref t4), .val (.ref sa225), .val (.ref sa235), .unset] [(.int (1 : Int32))])) _
              refine XS.istore X269.here hx rfl (hb hby at_102) rfl (l' := #[.val (.int p0), .val (.int ix), .val (.ref t4), .val (.ref sa225), .val (.ref sa235), .val (.int (1 : Int32))]) rfl ?_
              show Steps p.tables e below (T269.setTop (mkF m 104 #[.val (.int p0), .val (.int ix), .val (.ref t4), .val (.ref sa225), .val (.ref sa235), .val (.int (1 : Int32))] [])) _
              refine XS.aload X269.here hx rfl (hb hby at_104) rfl rfl ?_
              show Steps p.tables e below (T269.setTop (mkF m 106 #[.val (.int p0), .val (.int ix), .val (.ref t4), .val (.ref sa225), .val (.ref sa235), .val (.int (1 : Int32))] [(.ref sa235)])) _
              refine XS.aloadN X269.here hx rfl (hb hby at_106) rfl rfl ?_
              show Steps p.tables e below (T269.setTop (mkF m 107 #[.val (.int p0), .val (.int ix), .val (.ref t4), .val (.ref sa225), .val (.ref sa235), .val (.int (1 : Int32))] [(.ref sa225), (.ref sa235)])) _
              refine st271.trans ?_
              show Steps p.tables e below (T271.setTop (mkF m 110 #[.val (.int p0), .val (.int ix), .val (.ref t4), .val (.ref sa225), .val (.ref sa235), .val (.int (1 : Int32))] [(.int (1 : Int32))])) _
              refine XS.ifNo X271.here hx rfl (hb hby at_110) rfl ((if0 _ _).trans (feq (by decide : ¬ ((1 : Int32) = (0 : Int32)))).1) ?_
              exact kt)
            obtain ⟨T274, X274, e274, st274⟩ := getS2 X271 hx hZ hown (host := "") (Or.inl (hw _ (List.mem_of_getElem? (i := 35) rfl))) Via.refl e271 f255 (g := (mkF m 116 #[.val (.int p0), .val (.int ix), .val (.ref t4), .val (.ref sa225), .val (.ref sa235), .val (.int (1 : Int32))] [(.ref t4), (.int (1 : Int32))])) rfl (hb hby at_116)
            obtain ⟨cq275, kq275, q275a, q275b, q275c⟩ := isOf hZ e274 f253
            obtain ⟨_, _, ⟨T275, L275, k275, n275⟩, -, X275, ⟨Lc275, hQ275, l275, y275, z275⟩, st275⟩ := X274.virtualBack hx (y := (⟨"com/example/keyfold/keyfold/spec/Transform", "fits", "(Lcom/example/keyfold/keyfold/spec/ColumnType;)Z"⟩ : MethodName)) (z := (⟨"com/example/keyfold/keyfold/spec/Transform", "fits", "(Lcom/example/keyfold/keyfold/spec/ColumnType;)Z"⟩ : MethodName)) hown (mvT hZ (hw _ (List.mem_of_getElem? (i := 38) rfl))) (mvT hZ (hw _ (List.mem_of_getElem? (i := 39) rfl))) (notFace_of_selects (args := #[]) (mvT hZ (hw _ (List.mem_of_getElem? (i := 41) rfl)))) (mvT hZ (hw _ (List.mem_of_getElem? (i := 41) rfl))) (mvT hZ (hw _ (List.mem_of_getElem? (i := 40) rfl))) (by decide) (backOf (W := 1) (rm4t l Z a0 hw [] t4 dt h251 n0 zz267 f254 f255) hZ (hw _ (List.mem_of_getElem? (i := 42) rfl)) (hw _ (List.mem_of_getElem? (i := 2) rfl)) (by decide) (by decide)) q275a q275c (g := (mkF m 119 #[.val (.int p0), .val (.int ix), .val (.ref t4), .val (.ref sa225), .val (.ref sa235), .val (.int (1 : Int32))] [(.ref dt), (.ref t4), (.int (1 : Int32))])) rfl (by rw [hml]; rfl) (Steps.refl _) (argsL := [(.ref dt)]) (rest := [(.int (1 : Int32))]) (lenOf pd_4 rfl) rfl (by show 2 * 0 + _ ≤ _; exact Nat.le_of_eq rfl) (hb hby at_119) (fun _ _ => ⟨rfl, e274, (by decide : 6 + 0 ≤ _), (by decide : 100 + 0 ≤ _)⟩)
            dsimp only [Pt.U, Pt.locs, Pt.cells, Pt.slots] at X275 l275 y275 z275 st275 hQ275
            subst l275 y275 z275
            obtain ⟨rfl, Nq275, e275⟩ := hQ275
            have N276 := Fr.app N272 Nq275
            obtain ⟨fs, hr, hrun, hended, hv1, hv2, hv3, hv4⟩ := X275.leaveW hS (by rw [e275]; exact hk) (v := some (.int (1 : Int32))) (fun h => by rw [Bd.returns] at h; cases h)
            refine ⟨_, _, pre273 _ ?_, hrun, hended, _, _, rfl, ?_, ?_, hv1, hv2, hv3, hv4.mono (by decide) (by decide)⟩
            · show Steps p.tables e below (T271.setTop (mkF m 113 #[.val (.int p0), .val (.int ix), .val (.ref t4), .val (.ref sa225), .val (.ref sa235), .val (.int (1 : Int32))] [])) _
              refine XS.iload X271.here hx rfl (hb hby at_113) rfl ?_
              show Steps p.tables e below (T271.setTop (mkF m 115 #[.val (.int p0), .val (.int ix), .val (.ref t4), .val (.ref sa225), .val (.ref sa235), .val (.int (1 : Int32))] [(.int (1 : Int32))])) _
              refine XS.aloadN X271.here hx rfl (hb hby at_115) rfl rfl ?_
              show Steps p.tables e below (T271.setTop (mkF m 116 #[.val (.int p0), .val (.int ix), .val (.ref t4), .val (.ref sa225), .val (.ref sa235), .val (.int (1 : Int32))] [(.ref t4), (.int (1 : Int32))])) _
              refine st274 _ ?_
              show Steps p.tables e below (T274.setTop (mkF m 119 #[.val (.int p0), .val (.int ix), .val (.ref t4), .val (.ref sa225), .val (.ref sa235), .val (.int (1 : Int32))] [(.ref dt), (.ref t4), (.int (1 : Int32))])) _
              refine st275.trans ?_
              show Steps p.tables e below (T275.setTop (mkF m 122 #[.val (.int p0), .val (.int ix), .val (.ref t4), .val (.ref sa225), .val (.ref sa235), .val (.int (1 : Int32))] [(.int (1 : Int32)), (.int (1 : Int32))])) _
              refine XS.icmpNo X275.here hx rfl (hb hby at_122) rfl (teq (rfl : (1 : Int32) = (1 : Int32))).2 ?_
              show Steps p.tables e below (T275.setTop (mkF m 125 #[.val (.int p0), .val (.int ix), .val (.ref t4), .val (.ref sa225), .val (.ref sa235), .val (.int (1 : Int32))] [])) _
              refine XS.iconst X275.here hx rfl (hb hby at_125) ?_
              show Steps p.tables e below (T275.setTop (mkF m 126 #[.val (.int p0), .val (.int ix), .val (.ref t4), .val (.ref sa225), .val (.ref sa235), .val (.int (1 : Int32))] [(.int (1 : Int32))])) _
              refine XS.goto X275.here hx rfl (pc0 := 126) (pc' := 130) rfl (hb hby at_126) (by decide) (by decide) ?_
              show Steps p.tables e below (T275.setTop (mkF m 130 #[.val (.int p0), .val (.int ix), .val (.ref t4), .val (.ref sa225), .val (.ref sa235), .val (.int (1 : Int32))] [(.int (1 : Int32))])) _
              exact retN X275 hx (t := .boolean) Bd.returns (by simp) (hb hby at_130) hr
            · show Q0 Z p0 t0 t1 t2 t3 t4 t5 dt cs h0 n0 _ T275.heap _
              rw [e275]
              exact ⟨rfl, N276⟩
            · show CHr Z consts_1 s.vm s.heap T275.vm T275.heap
              rw [hh, e275]
              exact CG268.trans (CHv.at X275 hZ (own_ew hw) CG268.1)
          · have pre277 : ∀ tgt, Steps p.tables e below (s₁.setTop (mkF m 82 #[.val (.int p0), .val (.int ix), .unset, .unset, .unset, .unset] [])) tgt → Steps p.tables e below (s₁.setTop (entryFrame m #[(.int p0)] maxLocals)) tgt := fun tgt kt => pre222 _ (by
              show Steps p.tables e below (s₁.setTop (mkF m 69 #[.val (.int p0), .val (.int ix), .unset, .unset, .unset, .unset] [(.int (4 : Int32)), (.int ix)])) _
              refine XS.icmpYes X0.here hx rfl (pc0 := 69) (pc' := 82) rfl (hb hby at_69) rfl (feq hc4).2 (by decide) (by decide) ?_
              exact kt)
            obtain ⟨T278, X278, e278, st278⟩ := getS2 X0 hx hZ hown (host := "") (Or.inl (hw _ (List.mem_of_getElem? (i := 58) rfl))) Via.refl e0 Sx5 (g := (mkF m 82 #[.val (.int p0), .val (.int ix), .unset, .unset, .unset, .unset] [])) rfl (hb hby at_82)
            obtain ⟨sa279, T279, h279, ks279, sb279, kb279, X279, e279, E279, hS, hk, hZ, hown, xa279, xc279, xv279, xr279, -, -, CH279, -, sf279, st279⟩ := ldcCH (EL := consts_1) X278 hx hZ hown (hw _ (List.mem_of_getElem? (i := 20) rfl)) (own_ws hw) e278 hS hk (own_ew hw) (List.mem_of_getElem? (i := 3) rfl) C0.1 (vs := [.int 97, .int 32, .int 100, .int 97, .int 116, .int 101]) (z := (6 : Int32)) ⟨by decide, rfl⟩ (by decide) rfl (g := (mkF m 86 #[.val (.int p0), .val (.int ix), .val (.ref t5), .unset, .unset, .unset] [])) rfl (hb hby at_86) (n := 24) (by decide) (by decide) (by decide) (by decide)
            have f280 := Sx5.ext E279
            have f281 := Ex5.ext E279
            have f282 := Fx5.ext E279
            have f283 := Sd.ext E279
            have f284 := Ed.ext E279
            have f285 := Fd.ext E279
            have f286 := Sc.ext E279
            have zz287 : n0 ≤ h279.size := Nat.le_trans Z0 E279.1
            have CG288 := C0.trans CH279
            obtain ⟨cq289, kq289, q289a, q289b, q289c⟩ := isOf hZ e279 f281
            obtain ⟨_, _, ⟨T289, L289, k289, n289⟩, -, Xr289, hSr289, hgr289, ⟨Lc289, hQ289, l289, y289, z289, hCr289⟩, st289⟩ := X279.virtualBackS hx (y := (⟨"com/example/keyfold/keyfold/spec/Transform", "gives", "()Ljava/lang/String;"⟩ : MethodName)) (z := (⟨"com/example/keyfold/keyfold/spec/Transform", "gives", "()Ljava/lang/String;"⟩ : MethodName)) hown (mvT hZ (hw _ (List.mem_of_getElem? (i := 12) rfl))) (mvT hZ (hw _ (List.mem_of_getElem? (i := 13) rfl))) (notFace_of_selects (args := #[]) (mvT hZ (hw _ (List.mem_of_getElem? (i := 15) rfl)))) (mvT hZ (hw _ (List.mem_of_getElem? (i := 15) rfl))) (mvT hZ (hw _ (List.mem_of_getElem? (i := 14) rfl))) (by decide) (backOfSH (W := 0) (rm1_1 l Z a0 hw [] t5 h279 n0 zz287 f282) hZ (hw _ (List.mem_of_getElem? (i := 16) rfl)) (hw _ (List.mem_of_getElem? (i := 2) rfl)) (by decide) (by decide) (own_ew hw) CG288.1) q289a q289c (g := (mkF m 90 #[.val (.int p0), .val (.int ix), .val (.ref t5), .val (.ref sa279), .unset, .unset] [(.ref t5)])) rfl (by rw [hml]; rfl) (Steps.refl _) (argsL := []) (rest := []) (lenOf pd_2 rfl) rfl (by show 2 * 0 + _ ≤ _; exact Nat.le_of_eq rfl) (hb hby at_90) (fun _ _ => ⟨rfl, e279, (by decide : 2 + 2 ≤ _), (by decide : 28 + 44 ≤ _)⟩)
            dsimp only [Pt.U, Pt.locs, Pt.cells, Pt.slots] at Xr289 l289 y289 z289 st289 hQ289 hSr289 hgr289 hCr289
            subst l289 y289 z289
            obtain ⟨X289, hS, hZ, hown⟩ := rebS hS (by rw [e279]; exact hk) Xr289 hSr289 hgr289 hZ hown
            have hk := Nat.le_refl T289.heap.size
            have CG290 := CG288.trans hCr289
            obtain ⟨sa289, sb289, kb289, rfl, Nq289, E289, xa289, xc289, xv289, xr289⟩ := hQ289
            have f291 := f280.ext E289
            have f292 := f281.ext E289
            have f293 := f282.ext E289
            have f294 := f283.ext E289
            have f295 := f284.ext E289
            have f296 := f285.ext E289
            have f297 := f286.ext E289
            have f298 := xa279.ext E289
            have f299 := xc279.ext E289
            have f300 := xv279.ext E289
            have f301 := xr279.ext E289
            have zz302 : n0 ≤ T289.heap.size := Nat.le_trans zz287 E289.1
            have N303 := Fr.app N0 Nq289
            have pre304 : ∀ tgt, Steps p.tables e below (T289.setTop (mkF m 97 #[.val (.int p0), .val (.int ix), .val (.ref t5), .val (.ref sa279), .val (.ref sa289), .unset] [(.ref sa289)])) tgt → Steps p.tables e below (s₁.setTop (entryFrame m #[(.int p0)] maxLocals)) tgt := fun tgt kt => pre277 _ (by
              show Steps p.tables e below (s₁.setTop (mkF m 82 #[.val (.int p0), .val (.int ix), .unset, .unset, .unset, .unset] [])) _
              refine st278 _ ?_
              show Steps p.tables e below (T278.setTop (mkF m 85 #[.val (.int p0), .val (.int ix), .unset, .unset, .unset, .unset] [(.ref t5)])) _
              refine XS.astoreN X278.here hx rfl (hb hby at_85) rfl rfl (l' := #[.val (.int p0), .val (.int ix), .val (.ref t5), .unset, .unset, .unset]) rfl ?_
              show Steps p.tables e below (T278.setTop (mkF m 86 #[.val (.int p0), .val (.int ix), .val (.ref t5), .unset, .unset, .unset] [])) _
              refine st279 _ ?_
              show Steps p.tables e below (T279.setTop (mkF m 88 #[.val (.int p0), .val (.int ix), .val (.ref t5), .unset, .unset, .unset] [(.ref sa279)])) _
              refine XS.astoreN X279.here hx rfl (hb hby at_88) rfl rfl (l' := #[.val (.int p0), .val (.int ix), .val (.ref t5), .val (.ref sa279), .unset, .unset]) rfl ?_
              show Steps p.tables e below (T279.setTop (mkF m 89 #[.val (.int p0), .val (.int ix), .val (.ref t5), .val (.ref sa279), .unset, .unset] [])) _
              refine XS.aloadN X279.here hx rfl (hb hby at_89) rfl rfl ?_
              show Steps p.tables e below (T279.setTop (mkF m 90 #[.val (.int p0), .val (.int ix), .val (.ref t5), .val (.ref sa279), .unset, .unset] [(.ref t5)])) _
              refine st289.trans ?_
              show Steps p.tables e below (T289.setTop (mkF m 93 #[.val (.int p0), .val (.int ix), .val (.ref t5), .val (.ref sa279), .unset, .unset] [(.ref sa289)])) _
              refine XS.astore X289.here hx rfl (hb hby at_93) rfl rfl (l' := #[.val (.int p0), .val (.int ix), .val (.ref t5), .val (.ref sa279), .val (.ref sa289), .unset]) rfl ?_
              show Steps p.tables e below (T289.setTop (mkF m 95 #[.val (.int p0), .val (.int ix), .val (.ref t5), .val (.ref sa279), .val (.ref sa289), .unset] [])) _
              refine XS.aload X289.here hx rfl (hb hby at_95) rfl rfl ?_
              exact kt)
            obtain ⟨sa305, T305, h305, ks305, sb305, kb305, X305, e305, E305, hS, hk, hZ, hown, xa305, xc305, xv305, xr305, -, -, CH305, -, sf305, st305⟩ := ldcCH (EL := consts_1) X289 hx hZ hown (hw _ (List.mem_of_getElem? (i := 20) rfl)) (own_ws hw) rfl hS hk (own_ew hw) (List.mem_of_getElem? (i := 3) rfl) CG290.1 (vs := [.int 97, .int 32, .int 100, .int 97, .int 116, .int 101]) (z := (6 : Int32)) ⟨by decide, rfl⟩ (by decide) rfl (g := (mkF m 97 #[.val (.int p0), .val (.int ix), .val (.ref t5), .val (.ref sa279), .val (.ref sa289), .unset] [(.ref sa289)])) rfl (hb hby at_97) (n := 24) (by decide) (by decide) (by decide) (by decide)
            have f306 := f291.ext E305
            have f307 := f292.ext E305
            have f308 := f293.ext E305
            have f309 := f294.ext E305
            have f310 := f295.ext E305
            have f311 := f296.ext E305
            have f312 := f297.ext E305
            have f313 := f298.ext E305
            have f314 := f299.ext E305
            have f315 := f300.ext E305
            have f316 := f301.ext E305
            have f317 := xa289.ext E305
            have f318 := xc289.ext E305
            have f319 := xv289.ext E305
            have f320 := xr289.ext E305
            have zz321 : n0 ≤ h305.size := Nat.le_trans zz302 E305.1
            have CG322 := CG290.trans CH305
            obtain ⟨cq323, kq323, q323a, q323b, q323c⟩ := isOf hZ e305 f317
            obtain ⟨_, _, ⟨T323, L323, k323, n323⟩, -, X323, ⟨Lc323, hQ323, l323, y323, z323⟩, st323⟩ := X305.virtualBack hx (y := (⟨"java/lang/String", "equals", "(Ljava/lang/Object;)Z"⟩ : MethodName)) (z := (⟨"java/lang/String", "equals", "(Ljava/lang/Object;)Z"⟩ : MethodName)) hown (mvT hZ (hw _ (List.mem_of_getElem? (i := 21) rfl))) (mvT hZ (hw _ (List.mem_of_getElem? (i := 22) rfl))) (notFace_of_selects (args := #[]) (mvT hZ (hw _ (List.mem_of_getElem? (i := 24) rfl)))) (mvT hZ (hw _ (List.mem_of_getElem? (i := 24) rfl))) (mvT hZ (hw _ (List.mem_of_getElem? (i := 23) rfl))) (by decide) (backOf (W := 0) (rm2e6 l Z a0 hw [] sa289 sa305 sb289 sb305 kb289 kb305 cs (97 : Int32) (32 : Int32) (100 : Int32) (97 : Int32) (116 : Int32) (101 : Int32) h305 n0 zz321 xa305 f318 f319 xc305 xv305 f320 xr305 f312 hcs) hZ (hw _ (List.mem_of_getElem? (i := 25) rfl)) (hw _ (List.mem_of_getElem? (i := 5) rfl)) (by decide) (by decide)) q323a q323c (g := (mkF m 99 #[.val (.int p0), .val (.int ix), .val (.ref t5), .val (.ref sa279), .val (.ref sa289), .unset] [(.ref sa305), (.ref sa289)])) rfl (by rw [hml]; rfl) (Steps.refl _) (argsL := [(.ref sa305)]) (rest := []) (lenOf pd_3 rfl) rfl (by show 2 * 0 + _ ≤ _; exact Nat.le_of_eq rfl) (hb hby at_99) (fun _ _ => ⟨rfl, e305, (by decide : 6 + 0 ≤ _), (by decide : 100 + 0 ≤ _)⟩)
            dsimp only [Pt.U, Pt.locs, Pt.cells, Pt.slots] at X323 l323 y323 z323 st323 hQ323
            subst l323 y323 z323
            obtain ⟨rfl, Nq323, e323⟩ := hQ323
            have N324 := Fr.app N303 Nq323
            obtain ⟨cq325, kq325, q325a, q325b, q325c⟩ := isOf hZ e323 f317
            obtain ⟨_, _, ⟨T325, L325, k325, n325⟩, -, X325, ⟨Lc325, hQ325, l325, y325, z325⟩, st325⟩ := X323.virtualBack hx (y := (⟨"java/lang/String", "equals", "(Ljava/lang/Object;)Z"⟩ : MethodName)) (z := (⟨"java/lang/String", "equals", "(Ljava/lang/Object;)Z"⟩ : MethodName)) hown (mvT hZ (hw _ (List.mem_of_getElem? (i := 21) rfl))) (mvT hZ (hw _ (List.mem_of_getElem? (i := 22) rfl))) (notFace_of_selects (args := #[]) (mvT hZ (hw _ (List.mem_of_getElem? (i := 24) rfl)))) (mvT hZ (hw _ (List.mem_of_getElem? (i := 24) rfl))) (mvT hZ (hw _ (List.mem_of_getElem? (i := 23) rfl))) (by decide) (backOf (W := 0) (rm2e6 l Z a0 hw [] sa289 sa279 sb289 sb279 kb289 kb279 cs (97 : Int32) (32 : Int32) (100 : Int32) (97 : Int32) (116 : Int32) (101 : Int32) h305 n0 zz321 f313 f318 f319 f314 f315 f320 f316 f312 hcs) hZ (hw _ (List.mem_of_getElem? (i := 25) rfl)) (hw _ (List.mem_of_getElem? (i := 5) rfl)) (by decide) (by decide)) q325a q325c (g := (mkF m 107 #[.val (.int p0), .val (.int ix), .val (.ref t5), .val (.ref sa279), .val (.ref sa289), .val (.int (1 : Int32))] [(.ref sa279), (.ref sa289)])) rfl (by rw [hml]; rfl) (Steps.refl _) (argsL := [(.ref sa279)]) (rest := []) (lenOf pd_3 rfl) rfl (by show 2 * 0 + _ ≤ _; exact Nat.le_of_eq rfl) (hb hby at_107) (fun _ _ => ⟨rfl, e323, (by decide : 6 + 0 ≤ _), (by decide : 100 + 0 ≤ _)⟩)
            dsimp only [Pt.U, Pt.locs, Pt.cells, Pt.slots] at X325 l325 y325 z325 st325 hQ325
            subst l325 y325 z325
            obtain ⟨rfl, Nq325, e325⟩ := hQ325
            have N326 := Fr.app N324 Nq325
            have pre327 : ∀ tgt, Steps p.tables e below (T325.setTop (mkF m 115 #[.val (.int p0), .val (.int ix), .val (.ref t5), .val (.ref sa279), .val (.ref sa289), .val (.int (1 : Int32))] [(.int (1 : Int32))])) tgt → Steps p.tables e below (s₁.setTop (entryFrame m #[(.int p0)] maxLocals)) tgt := fun tgt kt => pre304 _ (by
              show Steps p.tables e below (T289.setTop (mkF m 97 #[.val (.int p0), .val (.int ix), .val (.ref t5), .val (.ref sa279), .val (.ref sa289), .unset] [(.ref sa289)])) _
              refine st305 _ ?_
              show Steps p.tables e below (T305.setTop (mkF m 99 #[.val (.int p0), .val (.int ix), .val (.ref t5), .val (.ref sa279), .val (.ref sa289), .unset] [(.ref sa305), (.ref sa289)])) _
              refine st323.trans ?_
              show Steps p.tables e below (T323.setTop (mkF m 102 #[.val (.int p0), .val (.int ix), .val (.ref t5), .val (.ref sa279), .val (.ref sa289), .unset] [(.int (1 : Int32))])) _
              refine XS.istore X323.here hx rfl (hb hby at_102) rfl (l' := #[.val (.int p0), .val (.int ix), .val (.ref t5), .val (.ref sa279), .val (.ref sa289), .val (.int (1 : Int32))]) rfl ?_
              show Steps p.tables e below (T323.setTop (mkF m 104 #[.val (.int p0), .val (.int ix), .val (.ref t5), .val (.ref sa279), .val (.ref sa289), .val (.int (1 : Int32))] [])) _
              refine XS.aload X323.here hx rfl (hb hby at_104) rfl rfl ?_
              show Steps p.tables e below (T323.setTop (mkF m 106 #[.val (.int p0), .val (.int ix), .val (.ref t5), .val (.ref sa279), .val (.ref sa289), .val (.int (1 : Int32))] [(.ref sa289)])) _
              refine XS.aloadN X323.here hx rfl (hb hby at_106) rfl rfl ?_
              show Steps p.tables e below (T323.setTop (mkF m 107 #[.val (.int p0), .val (.int ix), .val (.ref t5), .val (.ref sa279), .val (.ref sa289), .val (.int (1 : Int32))] [(.ref sa279), (.ref sa289)])) _
              refine st325.trans ?_
              show Steps p.tables e below (T325.setTop (mkF m 110 #[.val (.int p0), .val (.int ix), .val (.ref t5), .val (.ref sa279), .val (.ref sa289), .val (.int (1 : Int32))] [(.int (1 : Int32))])) _
              refine XS.ifNo X325.here hx rfl (hb hby at_110) rfl ((if0 _ _).trans (feq (by decide : ¬ ((1 : Int32) = (0 : Int32)))).1) ?_
              show Steps p.tables e below (T325.setTop (mkF m 113 #[.val (.int p0), .val (.int ix), .val (.ref t5), .val (.ref sa279), .val (.ref sa289), .val (.int (1 : Int32))] [])) _
              refine XS.iload X325.here hx rfl (hb hby at_113) rfl ?_
              exact kt)
            obtain ⟨T328, X328, e328, st328⟩ := getS2 X325 hx hZ hown (host := "") (Or.inl (hw _ (List.mem_of_getElem? (i := 35) rfl))) Via.refl e325 f309 (g := (mkF m 116 #[.val (.int p0), .val (.int ix), .val (.ref t5), .val (.ref sa279), .val (.ref sa289), .val (.int (1 : Int32))] [(.ref t5), (.int (1 : Int32))])) rfl (hb hby at_116)
            obtain ⟨cq329, kq329, q329a, q329b, q329c⟩ := isOf hZ e328 f307
            obtain ⟨_, _, ⟨T329, L329, k329, n329⟩, -, X329, ⟨Lc329, hQ329, l329, y329, z329⟩, st329⟩ := X328.virtualBack hx (y := (⟨"com/example/keyfold/keyfold/spec/Transform", "fits", "(Lcom/example/keyfold/keyfold/spec/ColumnType;)Z"⟩ : MethodName)) (z := (⟨"com/example/keyfold/keyfold/spec/Transform", "fits", "(Lcom/example/keyfold/keyfold/spec/ColumnType;)Z"⟩ : MethodName)) hown (mvT hZ (hw _ (List.mem_of_getElem? (i := 38) rfl))) (mvT hZ (hw _ (List.mem_of_getElem? (i := 39) rfl))) (notFace_of_selects (args := #[]) (mvT hZ (hw _ (List.mem_of_getElem? (i := 41) rfl)))) (mvT hZ (hw _ (List.mem_of_getElem? (i := 41) rfl))) (mvT hZ (hw _ (List.mem_of_getElem? (i := 40) rfl))) (by decide) (backOf (W := 1) (rm4t l Z a0 hw [] t5 dt h305 n0 zz321 f308 f309) hZ (hw _ (List.mem_of_getElem? (i := 42) rfl)) (hw _ (List.mem_of_getElem? (i := 2) rfl)) (by decide) (by decide)) q329a q329c (g := (mkF m 119 #[.val (.int p0), .val (.int ix), .val (.ref t5), .val (.ref sa279), .val (.ref sa289), .val (.int (1 : Int32))] [(.ref dt), (.ref t5), (.int (1 : Int32))])) rfl (by rw [hml]; rfl) (Steps.refl _) (argsL := [(.ref dt)]) (rest := [(.int (1 : Int32))]) (lenOf pd_4 rfl) rfl (by show 2 * 0 + _ ≤ _; exact Nat.le_of_eq rfl) (hb hby at_119) (fun _ _ => ⟨rfl, e328, (by decide : 6 + 0 ≤ _), (by decide : 100 + 0 ≤ _)⟩)
            dsimp only [Pt.U, Pt.locs, Pt.cells, Pt.slots] at X329 l329 y329 z329 st329 hQ329
            subst l329 y329 z329
            obtain ⟨rfl, Nq329, e329⟩ := hQ329
            have N330 := Fr.app N326 Nq329
            obtain ⟨fs, hr, hrun, hended, hv1, hv2, hv3, hv4⟩ := X329.leaveW hS (by rw [e329]; exact hk) (v := some (.int (1 : Int32))) (fun h => by rw [Bd.returns] at h; cases h)
            refine ⟨_, _, pre327 _ ?_, hrun, hended, _, _, rfl, ?_, ?_, hv1, hv2, hv3, hv4.mono (by decide) (by decide)⟩
            · show Steps p.tables e below (T325.setTop (mkF m 115 #[.val (.int p0), .val (.int ix), .val (.ref t5), .val (.ref sa279), .val (.ref sa289), .val (.int (1 : Int32))] [(.int (1 : Int32))])) _
              refine XS.aloadN X325.here hx rfl (hb hby at_115) rfl rfl ?_
              show Steps p.tables e below (T325.setTop (mkF m 116 #[.val (.int p0), .val (.int ix), .val (.ref t5), .val (.ref sa279), .val (.ref sa289), .val (.int (1 : Int32))] [(.ref t5), (.int (1 : Int32))])) _
              refine st328 _ ?_
              show Steps p.tables e below (T328.setTop (mkF m 119 #[.val (.int p0), .val (.int ix), .val (.ref t5), .val (.ref sa279), .val (.ref sa289), .val (.int (1 : Int32))] [(.ref dt), (.ref t5), (.int (1 : Int32))])) _
              refine st329.trans ?_
              show Steps p.tables e below (T329.setTop (mkF m 122 #[.val (.int p0), .val (.int ix), .val (.ref t5), .val (.ref sa279), .val (.ref sa289), .val (.int (1 : Int32))] [(.int (1 : Int32)), (.int (1 : Int32))])) _
              refine XS.icmpNo X329.here hx rfl (hb hby at_122) rfl (teq (rfl : (1 : Int32) = (1 : Int32))).2 ?_
              show Steps p.tables e below (T329.setTop (mkF m 125 #[.val (.int p0), .val (.int ix), .val (.ref t5), .val (.ref sa279), .val (.ref sa289), .val (.int (1 : Int32))] [])) _
              refine XS.iconst X329.here hx rfl (hb hby at_125) ?_
              show Steps p.tables e below (T329.setTop (mkF m 126 #[.val (.int p0), .val (.int ix), .val (.ref t5), .val (.ref sa279), .val (.ref sa289), .val (.int (1 : Int32))] [(.int (1 : Int32))])) _
              refine XS.goto X329.here hx rfl (pc0 := 126) (pc' := 130) rfl (hb hby at_126) (by decide) (by decide) ?_
              show Steps p.tables e below (T329.setTop (mkF m 130 #[.val (.int p0), .val (.int ix), .val (.ref t5), .val (.ref sa279), .val (.ref sa289), .val (.int (1 : Int32))] [(.int (1 : Int32))])) _
              exact retN X329 hx (t := .boolean) Bd.returns (by simp) (hb hby at_130) hr
            · show Q0 Z p0 t0 t1 t2 t3 t4 t5 dt cs h0 n0 _ T329.heap _
              rw [e329]
              exact ⟨rfl, N330⟩
            · show CHr Z consts_1 s.vm s.heap T329.vm T329.heap
              rw [hh, e329]
              exact CG322.trans (CHv.at X329 hZ (own_ew hw) CG322.1)
set_option maxHeartbeats 40000000 in
theorem comes_1 {Post : Tables → Env → Array Value → State → Outcome → State → Prop} (hpost : ∀ tb e args s v u, (limb_1_1.after args s (.returned v) u = true ∧ limb_1_2.after args s (.returned v) u = true ∧ True) → FramedW s (.returned v) u (Jvm.fieldLocs frame_1_writes args s ++ Jvm.arrayLocs frame_1_arrays args s ++ Jvm.staticLocs frame_1_statics s) 8 4160 → Post tb e args s (.returned v) u) :
    ArmFor flags0 classFile x code maxLocals ret World_1 tables_1 room_1 Calls_1 rest_1 Pre_1 Post := by
  intro l hfl _ _ p e ha hc hk s m args below hf hA hF happ hP
  obtain ⟨hcalls, hrest, hpre⟩ := hP
  obtain ⟨-, -, -, hnamed, -, -, -, hat⟩ := (Spec.applies_iff hf).mp happ
  obtain ⟨hg, hn⟩ := and_e (Cond.before_iff.mp (show (Jvm.Cond.and given_1 narrow_1).before args s = true from hpre))
  obtain ⟨g1, g2⟩ := and_e hg
  obtain ⟨w0, rfl⟩ : ∃ w0 : Value, args = #[w0] := by
    have hs : args.size = 1 := by simpa [Cond.value, given_1] using g1
    obtain ⟨L⟩ := args
    match L, hs with
    | [w0], _ => exact ⟨w0, rfl⟩
  have hw := fun d (hd : d ∈ tables_1) => atoms_spec (ws := Jvm.Cond.code x code maxLocals ret :: tables_1) hat d (List.mem_cons_of_mem _ hd)
  have hfit : Fit s := fun {y c} hc i hi => by
    obtain ⟨ha, rfl⟩ := Array.getElem?_eq_some_iff.mp hc
    have q := List.all_eq_true.mp ((Array.all_eq_true_iff_forall_mem.mp hF) _ (Array.getElem_mem ha)) i (List.mem_range.mpr hi)
    simpa [Array.getElem?_eq_getElem hi] using q
  obtain ⟨hsets, hown0⟩ := atoms_of _ (rest_1_c_eq ▸ (show rest_1_c.before _ s = true from hrest))
  have hr0 := Cond.before_iff.mp hown0
  obtain ⟨i0, ei0⟩ := is_v g2
  obtain rfl : w0 = (.int i0) := Option.some.inj ei0
  obtain ⟨k1a, k1b⟩ := and_e hn
  obtain ⟨k2a, k2b⟩ := and_e k1b
  obtain ⟨k3a, k3b⟩ := and_e k2b
  obtain ⟨k4a, k4b⟩ := and_e k3b
  obtain ⟨k5a, k5b⟩ := and_e k4b
  obtain ⟨k6a, k6b⟩ := and_e k5b
  obtain ⟨k7a, k7b⟩ := and_e k6b
  obtain ⟨k8a, k8b⟩ := and_e k7b
  obtain ⟨k9a, k9b⟩ := and_e k8b
  obtain ⟨k10a, k10b⟩ := and_e k9b
  obtain ⟨k11a, k11b⟩ := and_e k10b
  obtain ⟨k12a, k12b⟩ := and_e k11b
  obtain ⟨k13a, k13b⟩ := and_e k12b
  obtain ⟨t0, ev0⟩ := exa_v k1a
  have X0 := Exa.start ev0 k1a
  have S0 := Sta.start ev0 (Or.inr ⟨(hw _ (List.mem_of_getElem? (i := 2) rfl)), (hw _ (List.mem_of_getElem? (i := 3) rfl))⟩)
  have F0 := Fld.start ((fld_at ev0).symm.trans (own_eqint k2a))
  obtain ⟨t1, ev1⟩ := exa_v k9a
  have X1 := Exa.start ev1 k9a
  have S1 := Sta.start ev1 (Or.inr ⟨(hw _ (List.mem_of_getElem? (i := 2) rfl)), (hw _ (List.mem_of_getElem? (i := 57) rfl))⟩)
  have F1 := Fld.start ((fld_at ev1).symm.trans (own_eqint k10a))
  obtain ⟨t2, ev2⟩ := exa_v k7a
  have X2 := Exa.start ev2 k7a
  have S2 := Sta.start ev2 (Or.inr ⟨(hw _ (List.mem_of_getElem? (i := 2) rfl)), (hw _ (List.mem_of_getElem? (i := 55) rfl))⟩)
  have F2 := Fld.start ((fld_at ev2).symm.trans (own_eqint k8a))
  obtain ⟨t3, ev3⟩ := exa_v k5a
  have X3 := Exa.start ev3 k5a
  have S3 := Sta.start ev3 (Or.inr ⟨(hw _ (List.mem_of_getElem? (i := 2) rfl)), (hw _ (List.mem_of_getElem? (i := 51) rfl))⟩)
  have F3 := Fld.start ((fld_at ev3).symm.trans (own_eqint k6a))
  obtain ⟨t4, ev4⟩ := exa_v k13a
  have X4 := Exa.start ev4 k13a
  have S4 := Sta.start ev4 (Or.inr ⟨(hw _ (List.mem_of_getElem? (i := 2) rfl)), (hw _ (List.mem_of_getElem? (i := 61) rfl))⟩)
  have F4 := Fld.start ((fld_at ev4).symm.trans (own_eqint k13b))
  obtain ⟨t5, ev5⟩ := exa_v k11a
  have X5 := Exa.start ev5 k11a
  have S5 := Sta.start ev5 (Or.inr ⟨(hw _ (List.mem_of_getElem? (i := 2) rfl)), (hw _ (List.mem_of_getElem? (i := 59) rfl))⟩)
  have F5 := Fld.start ((fld_at ev5).symm.trans (own_eqint k12a))
  obtain ⟨dt, evd⟩ := exa_v k3a
  have Xd := Exa.start evd k3a
  have Sd := Sta.start evd (Or.inr ⟨(hw _ (List.mem_of_getElem? (i := 36) rfl)), (hw _ (List.mem_of_getElem? (i := 37) rfl))⟩)
  have Fd := Fld.start ((fld_at evd).symm.trans (null_v k4a))
  obtain ⟨cs, ecs⟩ := is_v (Cond.before_iff.mp (hsets _ (List.mem_of_getElem? (i := 1) rfl)))
  have Sc := Sta.start ecs (Or.inl (hsets _ (List.mem_of_getElem? (i := 0) rfl)))
  have hcs := own_neint ecs (Cond.before_iff.mp (hsets _ (List.mem_of_getElem? (i := 2) rfl)))
  have hCH : CHv s consts_1 s.vm s.heap := CHv.start (own_ew hw) (fun q hq => hcalls.1 q hq) (hsets _ (List.mem_of_getElem? (i := 2) rfl)) (own_ws hw _ (List.mem_of_getElem? (i := 2) rfl)) (own_ws hw _ (List.mem_of_getElem? (i := 1) rfl))
  obtain ⟨n, o, h1, h2, h3, _, L, rfl, ⟨rfl, N⟩, -, hq⟩ := rm0 l s _ hw tables_1 i0 t0 t1 t2 t3 t4 t5 dt cs s.heap s.heap.size (Nat.le_refl _) S0 X0 F0 S1 X1 F1 S2 X2 F2 S3 X3 F3 S4 X4 F4 S5 X5 F5 Sd Xd Fd Sc hcs p e ha hc hk s m _ below hf ((Spec.applies_iff_loose hf).mp happ).1 ⟨rfl, State.Warmed39.refl s, rfl, hCH⟩ trivial
  refine ⟨n, _, h1, h2, h3, hpost _ _ _ _ _ _ ⟨Cond.after_iff.mpr rfl, Cond.after_iff.mpr (eq_i res_at (Term.int_eval (1)) rfl), trivial⟩ ⟨hq.1, hq.2.1, hq.2.2.1, (hq.2.2.2.sift fun y hy => Or.inr (N y hy)).mono (by decide) (by decide)⟩⟩
theorem main_1_1 : Claimed_1_1 := comes_1 fun _ _ _ _ _ _ h hF => ⟨h.1, hF⟩
theorem main_1_2 : Claimed_1_2 := comes_1 fun _ _ _ _ _ _ h hF => ⟨h.2.1, hF⟩
end Jvm.Pilot.@@N@@
namespace Jvm.Pilot.@@N@@
open Jvm Jvm.ClassFile Sem Op Lib Jvm.Free Jvm.Stand Jvm.Pilot.@@N@@.Jvm.D
/-! MADE BY PROGRAM (witnessworld.py) out of the Statement's table words and the real class files: 17 classes; the members and pool entries that the words name. The judged class is class 1, her method 1. -/
namespace start1
open Jvm.ClassFile
def u (s : String) : CpInfo := .utf8 (stringToUtf16 s)
/-- a pool by its gaps: so many unusable entries, then the entry; so many at the end -/
def gap : Nat → List CpInfo → List CpInfo
  | 0, r => r
  | n + 1, r => .unusable :: gap n r
def poolList (es : List (Nat × CpInfo)) (last : Nat) : List CpInfo := es.foldr (fun e r => gap e.1 (e.2 :: r)) (gap last [])
def pool (es : List (Nat × CpInfo)) (last : Nat) : Array CpInfo := ⟨poolList es last⟩
def fileOf (pool : Array CpInfo) (this : Nat) (attrs : Array Attribute := #[]) (ms : Array MethodInfo := #[]) (fl : Nat := 33) (sup : Nat := 0) (ifs : Array Nat := #[]) (fds : Array FieldInfo := #[]) : ClassFile where
  minorVersion := 0
  majorVersion := 65
  constantPool := pool
  accessFlags := fl
  thisClass := this
  superClass := sup
  interfaces := ifs
  fields := fds
  methods := ms
  attributes := attrs
def plain (name : String) (sup : Option ClassId) : Class where
  name := name
  kind := .ordinary
  loader := none
  accessFlags := 33
  super := sup
  interfaces := #[]
  cf := none
  fields := #[]
  methods := #[]
  instanceTypes := #[]
  staticTypes := #[]
  resolved := #[]
  callSites := []
  init := .initialized
  statics := none
  mirror := none

def pool0 : Array CpInfo := pool [(5, u "<init>"), (0, u "()V"), (1, .class_ 10), (1, u "java/lang/Object")] 113

def k0m0 : Method := { name := "<init>", desc := "()V", sig := { parameters := [], returnType := none }, accessFlags := 1, code := none }
/-- java/lang/Object -/
def k0 : Class := { plain "java/lang/Object" none with
  accessFlags := 33
  interfaces := #[]
  cf := some (fileOf pool0 8 #[] #[{ accessFlags := 1, nameIndex := 5, descriptorIndex := 6, attributes := #[] }] 33 0 #[] #[])
  fields := #[]
  methods := #[k0m0]
  instanceTypes := #[]
  staticTypes := #[]
  resolved := Array.replicate 124 none
  statics := none }

def pool1 : Array CpInfo := pool [(2, .class_ 4), (1, u "java/lang/Object"), (0, u "<init>"), (0, u "()V"), (0, .integer 2147483647), (0, .fieldref 9 10), (0, .class_ 11), (0, .nameAndType 12 13), (0, u "com/example/keyfold/keyfold/spec/Transform"), (0, u "YEAR"), (0, u "Lcom/example/keyfold/keyfold/spec/Transform;"), (0, .string 15), (0, u "an integer"), (0, .fieldref 9 17), (0, .nameAndType 18 13), (0, u "MONTH"), (0, .fieldref 9 20), (0, .nameAndType 21 13), (0, u "DAY"), (0, .fieldref 9 23), (0, .nameAndType 24 13), (0, u "TRUNC_YEAR"), (0, .string 26), (0, u "a date"), (0, .fieldref 9 28), (0, .nameAndType 29 13), (0, u "TRUNC_MONTH"), (0, .fieldref 9 31), (0, .nameAndType 32 13), (0, u "TRUNC_DAY"), (0, .methodref 9 34), (0, .nameAndType 35 36), (0, u "gives"), (0, u "()Ljava/lang/String;"), (0, .methodref 38 39), (0, .class_ 40), (0, .nameAndType 41 42), (0, u "java/lang/String"), (0, u "equals"), (0, u "(Ljava/lang/Object;)Z"), (0, .fieldref 44 45), (0, .class_ 46), (0, .nameAndType 47 48), (0, u "com/example/keyfold/keyfold/spec/ColumnType"), (0, u "DATE"), (0, u "Lcom/example/keyfold/keyfold/spec/ColumnType;"), (0, .methodref 9 50), (0, .nameAndType 51 52), (0, u "fits"), (0, u "(Lcom/example/keyfold/keyfold/spec/ColumnType;)Z"), (0, .class_ 54), (0, u "com/example/keyfold/keyfold/spec/TransformGivesPinLaw"), (2, u "law"), (0, u "(I)Z")] 3

def k1m0 : Method := { name := "<init>", desc := "()V", sig := { parameters := [], returnType := none }, accessFlags := 2, code := none }
def k1c1 : Code := { maxStack := 3, maxLocals := 6, code := code, exceptionTable := #[], attributes := #[] }
def k1m1 : Method := { name := "law", desc := "(I)Z", sig := { parameters := [.int], returnType := some .boolean }, accessFlags := 9, code := some k1c1 }
/-- com/example/keyfold/keyfold/spec/TransformGivesPinLaw -/
def k1 : Class := { plain "com/example/keyfold/keyfold/spec/TransformGivesPinLaw" (some 0) with
  accessFlags := 49
  interfaces := #[]
  cf := some (fileOf pool1 53 #[] #[{ accessFlags := 2, nameIndex := 5, descriptorIndex := 6, attributes := #[] }, { accessFlags := 9, nameIndex := 57, descriptorIndex := 58, attributes := #[] }] 49 2 #[] #[])
  fields := #[]
  methods := #[k1m0, k1m1]
  instanceTypes := #[]
  staticTypes := #[]
  resolved := Array.replicate 62 none
  statics := none }

def pool2 : Array CpInfo := pool [(1, .class_ 2), (0, u "java/lang/constant/Constable"), (0, .class_ 4), (0, u "java/lang/Object")] 6

/-- java/lang/constant/Constable -/
def k2 : Class := { plain "java/lang/constant/Constable" (some 0) with
  accessFlags := 1537
  interfaces := #[]
  cf := some (fileOf pool2 1 #[] #[] 1537 3 #[] #[])
  fields := #[]
  methods := #[]
  instanceTypes := #[]
  staticTypes := #[]
  resolved := Array.replicate 11 none
  statics := none }

def pool3 : Array CpInfo := pool [(1, .class_ 2), (0, u "java/lang/Comparable"), (0, .class_ 4), (0, u "java/lang/Object")] 7

/-- java/lang/Comparable -/
def k3 : Class := { plain "java/lang/Comparable" (some 0) with
  accessFlags := 1537
  interfaces := #[]
  cf := some (fileOf pool3 1 #[] #[] 1537 3 #[] #[])
  fields := #[]
  methods := #[]
  instanceTypes := #[]
  staticTypes := #[]
  resolved := Array.replicate 12 none
  statics := none }

def pool4 : Array CpInfo := pool [(1, .class_ 2), (0, u "java/io/Serializable"), (0, .class_ 4), (0, u "java/lang/Object")] 2

/-- java/io/Serializable -/
def k4 : Class := { plain "java/io/Serializable" (some 0) with
  accessFlags := 1537
  interfaces := #[]
  cf := some (fileOf pool4 1 #[] #[] 1537 3 #[] #[])
  fields := #[]
  methods := #[]
  instanceTypes := #[]
  staticTypes := #[]
  resolved := Array.replicate 7 none
  statics := none }

def pool5 : Array CpInfo := pool [(2, .class_ 4), (1, u "java/lang/Enum"), (0, u "name"), (0, u "Ljava/lang/String;"), (2, u "ordinal"), (0, u "I"), (1, .class_ 14), (1, u "java/lang/Object"), (4, u "hash"), (86, .class_ 108), (1, u "java/lang/Enum$EnumDesc"), (2, .class_ 112), (0, u "java/lang/constant/Constable"), (0, .class_ 114), (0, u "java/lang/Comparable"), (0, .class_ 116), (0, u "java/io/Serializable")] 87

/-- java/lang/Enum -/
def k5 : Class := { plain "java/lang/Enum" (some 0) with
  accessFlags := 1057
  interfaces := #[2, 3, 4]
  cf := some (fileOf pool5 2 #[.nestMembers #[106]] #[] 1057 12 #[111, 113, 115] #[{ accessFlags := 18, nameIndex := 5, descriptorIndex := 6, attributes := #[] }, { accessFlags := 18, nameIndex := 9, descriptorIndex := 10, attributes := #[] }, { accessFlags := 2, nameIndex := 19, descriptorIndex := 10, attributes := #[] }])
  fields := #[{ name := "name", type := (.object "java/lang/String"), accessFlags := 18, slot := 0, constantValue := 0 }, { name := "ordinal", type := .int, accessFlags := 18, slot := 1, constantValue := 0 }, { name := "hash", type := .int, accessFlags := 2, slot := 2, constantValue := 0 }]
  methods := #[]
  instanceTypes := #[(.object "java/lang/String"), .int, .int]
  staticTypes := #[]
  resolved := Array.replicate 204 none
  statics := none }

def pool6 : Array CpInfo := pool [(1, .class_ 2), (0, u "com/example/keyfold/keyfold/spec/Transform"), (2, u "YEAR"), (0, u "Lcom/example/keyfold/keyfold/spec/Transform;"), (2, u "MONTH"), (2, u "DAY"), (2, u "TRUNC_YEAR"), (2, u "TRUNC_MONTH"), (2, u "TRUNC_DAY"), (2, u "$VALUES"), (0, u "[Lcom/example/keyfold/keyfold/spec/Transform;"), (6, .class_ 34), (1, u "java/lang/Enum"), (8, u "unit"), (0, u "Ljava/lang/String;"), (0, .fieldref 1 46), (0, .nameAndType 47 48), (0, u "truncates"), (0, u "Z"), (2, u "CALL"), (0, u "Ljava/util/regex/Pattern;"), (17, u "()Z"), (2, u "UNIT_FIRST"), (32, .class_ 107), (0, u "com/example/keyfold/keyfold/spec/Transform$Call"), (6, .fieldref 115 116), (0, .class_ 117), (0, .nameAndType 118 119), (0, u "com/example/keyfold/keyfold/spec/ColumnType"), (0, u "DATE"), (0, u "Lcom/example/keyfold/keyfold/spec/ColumnType;"), (0, .methodref 115 121), (0, .nameAndType 122 70), (0, u "isInteger"), (0, .string 124), (0, u "a date"), (0, .string 126), (0, u "an integer"), (65, u "INT_MIN"), (0, u "Ljava/math/BigInteger;"), (6, u "INT_MAX"), (111, u "DATE_TRUNC"), (11, u "fits"), (0, u "(Lcom/example/keyfold/keyfold/spec/ColumnType;)Z"), (0, u "gives"), (0, u "()Ljava/lang/String;")] 60

def k6c0 : Code := { maxStack := 2, maxLocals := 2, code := prog_91_method_5_code, exceptionTable := #[], attributes := #[] }
def k6m0 : Method := { name := "fits", desc := "(Lcom/example/keyfold/keyfold/spec/ColumnType;)Z", sig := { parameters := [(.object "com/example/keyfold/keyfold/spec/ColumnType")], returnType := some .boolean }, accessFlags := 1, code := some k6c0 }
def k6c1 : Code := { maxStack := 1, maxLocals := 1, code := prog_91_method_6_code, exceptionTable := #[], attributes := #[] }
def k6m1 : Method := { name := "gives", desc := "()Ljava/lang/String;", sig := { parameters := [], returnType := some (.object "java/lang/String") }, accessFlags := 1, code := some k6c1 }
/-- com/example/keyfold/keyfold/spec/Transform -/
def k6 : Class := { plain "com/example/keyfold/keyfold/spec/Transform" (some 5) with
  accessFlags := 16433
  interfaces := #[]
  cf := some (fileOf pool6 1 #[.nestMembers #[106]] #[{ accessFlags := 1, nameIndex := 324, descriptorIndex := 325, attributes := #[] }, { accessFlags := 1, nameIndex := 326, descriptorIndex := 327, attributes := #[] }] 16433 32 #[] #[{ accessFlags := 16409, nameIndex := 5, descriptorIndex := 6, attributes := #[] }, { accessFlags := 16409, nameIndex := 9, descriptorIndex := 6, attributes := #[] }, { accessFlags := 16409, nameIndex := 12, descriptorIndex := 6, attributes := #[] }, { accessFlags := 16409, nameIndex := 15, descriptorIndex := 6, attributes := #[] }, { accessFlags := 16409, nameIndex := 18, descriptorIndex := 6, attributes := #[] }, { accessFlags := 16409, nameIndex := 21, descriptorIndex := 6, attributes := #[] }, { accessFlags := 26, nameIndex := 312, descriptorIndex := 44, attributes := #[] }, { accessFlags := 26, nameIndex := 51, descriptorIndex := 52, attributes := #[] }, { accessFlags := 26, nameIndex := 73, descriptorIndex := 52, attributes := #[] }, { accessFlags := 26, nameIndex := 192, descriptorIndex := 193, attributes := #[] }, { accessFlags := 26, nameIndex := 200, descriptorIndex := 193, attributes := #[] }, { accessFlags := 18, nameIndex := 43, descriptorIndex := 44, attributes := #[] }, { accessFlags := 18, nameIndex := 47, descriptorIndex := 48, attributes := #[] }, { accessFlags := 4122, nameIndex := 24, descriptorIndex := 25, attributes := #[] }])
  fields := #[{ name := "YEAR", type := (.object "com/example/keyfold/keyfold/spec/Transform"), accessFlags := 16409, slot := 0, constantValue := 0 }, { name := "MONTH", type := (.object "com/example/keyfold/keyfold/spec/Transform"), accessFlags := 16409, slot := 1, constantValue := 0 }, { name := "DAY", type := (.object "com/example/keyfold/keyfold/spec/Transform"), accessFlags := 16409, slot := 2, constantValue := 0 }, { name := "TRUNC_YEAR", type := (.object "com/example/keyfold/keyfold/spec/Transform"), accessFlags := 16409, slot := 3, constantValue := 0 }, { name := "TRUNC_MONTH", type := (.object "com/example/keyfold/keyfold/spec/Transform"), accessFlags := 16409, slot := 4, constantValue := 0 }, { name := "TRUNC_DAY", type := (.object "com/example/keyfold/keyfold/spec/Transform"), accessFlags := 16409, slot := 5, constantValue := 0 }, { name := "DATE_TRUNC", type := (.object "java/lang/String"), accessFlags := 26, slot := 6, constantValue := 0 }, { name := "CALL", type := (.object "java/util/regex/Pattern"), accessFlags := 26, slot := 7, constantValue := 0 }, { name := "UNIT_FIRST", type := (.object "java/util/regex/Pattern"), accessFlags := 26, slot := 8, constantValue := 0 }, { name := "INT_MIN", type := (.object "java/math/BigInteger"), accessFlags := 26, slot := 9, constantValue := 0 }, { name := "INT_MAX", type := (.object "java/math/BigInteger"), accessFlags := 26, slot := 10, constantValue := 0 }, { name := "unit", type := (.object "java/lang/String"), accessFlags := 18, slot := 3, constantValue := 0 }, { name := "truncates", type := .boolean, accessFlags := 18, slot := 4, constantValue := 0 }, { name := "$VALUES", type := (.array (.object "com/example/keyfold/keyfold/spec/Transform")), accessFlags := 4122, slot := 11, constantValue := 0 }]
  methods := #[k6m0, k6m1]
  instanceTypes := #[(.object "java/lang/String"), .int, .int, (.object "java/lang/String"), .boolean]
  staticTypes := #[(.object "com/example/keyfold/keyfold/spec/Transform"), (.object "com/example/keyfold/keyfold/spec/Transform"), (.object "com/example/keyfold/keyfold/spec/Transform"), (.object "com/example/keyfold/keyfold/spec/Transform"), (.object "com/example/keyfold/keyfold/spec/Transform"), (.object "com/example/keyfold/keyfold/spec/Transform"), (.object "java/lang/String"), (.object "java/util/regex/Pattern"), (.object "java/util/regex/Pattern"), (.object "java/math/BigInteger"), (.object "java/math/BigInteger"), (.array (.object "com/example/keyfold/keyfold/spec/Transform"))]
  resolved := Array.replicate 388 none
  statics := some 0 }

def pool7 : Array CpInfo := pool [(2, .class_ 4), (1, u "java/lang/CharSequence"), (42, .class_ 48), (0, u "java/lang/CharSequence$1CodePointIterator"), (10, .class_ 60), (0, u "java/lang/CharSequence$1CharIterator"), (5, .class_ 67), (0, u "java/lang/Object")] 63

/-- java/lang/CharSequence -/
def k7 : Class := { plain "java/lang/CharSequence" (some 0) with
  accessFlags := 1537
  interfaces := #[]
  cf := some (fileOf pool7 2 #[.nestMembers #[47, 59]] #[] 1537 66 #[] #[])
  fields := #[]
  methods := #[]
  instanceTypes := #[]
  staticTypes := #[]
  resolved := Array.replicate 131 none
  statics := none }

def pool8 : Array CpInfo := pool [(1, .class_ 2), (0, u "java/lang/constant/ConstantDesc"), (0, .class_ 4), (0, u "java/lang/Object")] 32

/-- java/lang/constant/ConstantDesc -/
def k8 : Class := { plain "java/lang/constant/ConstantDesc" (some 0) with
  accessFlags := 1537
  interfaces := #[]
  cf := some (fileOf pool8 1 #[] #[] 1537 3 #[] #[])
  fields := #[]
  methods := #[]
  instanceTypes := #[]
  staticTypes := #[]
  resolved := Array.replicate 37 none
  statics := none }

def pool9 : Array CpInfo := pool [(2, .class_ 4), (1, u "java/lang/Object"), (0, u "<init>"), (0, u "()V"), (2, .fieldref 10 11), (0, .class_ 12), (0, .nameAndType 13 14), (0, u "java/lang/String"), (0, u "value"), (0, u "[B"), (0, .fieldref 10 16), (0, .nameAndType 17 18), (0, u "coder"), (0, u "B"), (2, u "hash"), (0, u "I"), (2, u "hashIsZero"), (0, u "Z"), (11, .fieldref 10 39), (0, .nameAndType 40 26), (0, u "COMPACT_STRINGS"), (66, .class_ 109), (1, u "java/lang/StringLatin1"), (431, .methodref 107 542), (0, .nameAndType 543 544), (0, u "equals"), (0, u "([B[B)Z"), (28, u "(Ljava/lang/Object;)Z"), (1, .class_ 576), (0, u "java/lang/CharSequence"), (22, u "CASE_INSENSITIVE_ORDER"), (0, u "Ljava/util/Comparator;"), (500, u "serialPersistentFields"), (0, u "[Ljava/io/ObjectStreamField;"), (0, .class_ 1104), (0, u "java/lang/String$CaseInsensitiveComparator"), (1, .class_ 1107), (0, u "java/io/Serializable"), (0, .class_ 1109), (0, u "java/lang/Comparable"), (0, .class_ 1111), (0, u "java/lang/constant/Constable"), (0, .class_ 1113), (0, u "java/lang/constant/ConstantDesc"), (2, u "serialVersionUID"), (0, u "J"), (3, u "REPL"), (0, u "C"), (2, u "LATIN1"), (1, u "UTF16")] 323

def k9m0 : Method := { name := "<init>", desc := "()V", sig := { parameters := [], returnType := none }, accessFlags := 1, code := none }
def k9c1 : Code := { maxStack := 2, maxLocals := 3, code := jdk_42_method_66_code, exceptionTable := #[], attributes := #[] }
def k9m1 : Method := { name := "equals", desc := "(Ljava/lang/Object;)Z", sig := { parameters := [(.object "java/lang/Object")], returnType := some .boolean }, accessFlags := 1, code := some k9c1 }
/-- java/lang/String -/
def k9 : Class := { plain "java/lang/String" (some 0) with
  accessFlags := 49
  interfaces := #[4, 3, 7, 2, 8]
  cf := some (fileOf pool9 10 #[.nestMembers #[1103]] #[{ accessFlags := 1, nameIndex := 5, descriptorIndex := 6, attributes := #[] }, { accessFlags := 1, nameIndex := 543, descriptorIndex := 573, attributes := #[] }] 49 2 #[1106, 1108, 575, 1110, 1112] #[{ accessFlags := 18, nameIndex := 13, descriptorIndex := 14, attributes := #[] }, { accessFlags := 18, nameIndex := 17, descriptorIndex := 18, attributes := #[] }, { accessFlags := 2, nameIndex := 21, descriptorIndex := 22, attributes := #[] }, { accessFlags := 2, nameIndex := 25, descriptorIndex := 26, attributes := #[] }, { accessFlags := 26, nameIndex := 1116, descriptorIndex := 1117, attributes := #[] }, { accessFlags := 24, nameIndex := 40, descriptorIndex := 26, attributes := #[] }, { accessFlags := 26, nameIndex := 1101, descriptorIndex := 1102, attributes := #[] }, { accessFlags := 26, nameIndex := 1121, descriptorIndex := 1122, attributes := #[] }, { accessFlags := 25, nameIndex := 599, descriptorIndex := 600, attributes := #[] }, { accessFlags := 24, nameIndex := 1125, descriptorIndex := 18, attributes := #[] }, { accessFlags := 24, nameIndex := 1127, descriptorIndex := 18, attributes := #[] }])
  fields := #[{ name := "value", type := (.array .byte), accessFlags := 18, slot := 0, constantValue := 0 }, { name := "coder", type := .byte, accessFlags := 18, slot := 1, constantValue := 0 }, { name := "hash", type := .int, accessFlags := 2, slot := 2, constantValue := 0 }, { name := "hashIsZero", type := .boolean, accessFlags := 2, slot := 3, constantValue := 0 }, { name := "serialVersionUID", type := .long, accessFlags := 26, slot := 0, constantValue := 0 }, { name := "COMPACT_STRINGS", type := .boolean, accessFlags := 24, slot := 1, constantValue := 0 }, { name := "serialPersistentFields", type := (.array (.object "java/io/ObjectStreamField")), accessFlags := 26, slot := 2, constantValue := 0 }, { name := "REPL", type := .char, accessFlags := 26, slot := 3, constantValue := 0 }, { name := "CASE_INSENSITIVE_ORDER", type := (.object "java/util/Comparator"), accessFlags := 25, slot := 4, constantValue := 0 }, { name := "LATIN1", type := .byte, accessFlags := 24, slot := 5, constantValue := 0 }, { name := "UTF16", type := .byte, accessFlags := 24, slot := 6, constantValue := 0 }]
  methods := #[k9m0, k9m1]
  instanceTypes := #[(.array .byte), .byte, .int, .boolean]
  staticTypes := #[.long, .boolean, (.array (.object "java/io/ObjectStreamField")), .char, (.object "java/util/Comparator"), .byte, .byte]
  resolved := Array.replicate 1451 none
  statics := some 1 }

def pool10 : Array CpInfo := pool [(4, .class_ 6), (1, u "java/lang/Object"), (0, u "<init>"), (0, u "()V"), (5, .class_ 16), (1, u "java/lang/StringLatin1"), (104, u "$assertionsDisabled"), (0, u "Z"), (98, .class_ 223), (1, u "java/lang/StringLatin1$LinesSpliterator"), (57, u "equals"), (0, u "([B[B)Z"), (107, .class_ 391), (0, u "java/lang/StringLatin1$CharsSpliterator")] 3

def k10m0 : Method := { name := "<init>", desc := "()V", sig := { parameters := [], returnType := none }, accessFlags := 0, code := none }
def k10c1 : Code := { maxStack := 3, maxLocals := 3, code := jdk_43_method_13_code, exceptionTable := #[], attributes := #[] }
def k10m1 : Method := { name := "equals", desc := "([B[B)Z", sig := { parameters := [(.array .byte), (.array .byte)], returnType := some .boolean }, accessFlags := 9, code := some k10c1 }
/-- java/lang/StringLatin1 -/
def k10 : Class := { plain "java/lang/StringLatin1" (some 0) with
  accessFlags := 48
  interfaces := #[]
  cf := some (fileOf pool10 14 #[.nestMembers #[390, 221]] #[{ accessFlags := 0, nameIndex := 7, descriptorIndex := 8, attributes := #[] }, { accessFlags := 9, nameIndex := 281, descriptorIndex := 282, attributes := #[] }] 48 4 #[] #[{ accessFlags := 4120, nameIndex := 121, descriptorIndex := 122, attributes := #[] }])
  fields := #[{ name := "$assertionsDisabled", type := .boolean, accessFlags := 4120, slot := 0, constantValue := 0 }]
  methods := #[k10m0, k10m1]
  instanceTypes := #[]
  staticTypes := #[.boolean]
  resolved := Array.replicate 395 none
  statics := none }

def pool11 : Array CpInfo := pool [(1, .class_ 2), (0, u "com/example/keyfold/keyfold/spec/ColumnType"), (2, u "STRING"), (0, u "Lcom/example/keyfold/keyfold/spec/ColumnType;"), (2, u "INT16"), (2, u "INT32"), (2, u "INT64"), (2, u "UINT16"), (2, u "UINT32"), (2, u "UINT64"), (2, u "DOUBLE"), (2, u "DATE"), (2, u "$VALUES"), (0, u "[Lcom/example/keyfold/keyfold/spec/ColumnType;"), (6, .class_ 43), (1, u "java/lang/Enum"), (8, u "specName"), (0, u "Ljava/lang/String;"), (5, .fieldref 1 60), (0, .nameAndType 61 62), (0, u "min"), (0, u "Ljava/math/BigInteger;"), (2, u "max"), (22, u "isInteger"), (0, u "()Z"), (45, u "INTEGER"), (0, u "Ljava/util/regex/Pattern;"), (30, u "DECIMAL"), (93, u "FIRST_DATE"), (0, u "Ljava/time/LocalDate;"), (2, u "LAST_DATE")] 50

def k11c0 : Code := { maxStack := 1, maxLocals := 1, code := prog_63_method_8_code, exceptionTable := #[], attributes := #[] }
def k11m0 : Method := { name := "isInteger", desc := "()Z", sig := { parameters := [], returnType := some .boolean }, accessFlags := 1, code := some k11c0 }
/-- com/example/keyfold/keyfold/spec/ColumnType -/
def k11 : Class := { plain "com/example/keyfold/keyfold/spec/ColumnType" (some 5) with
  accessFlags := 16433
  interfaces := #[]
  cf := some (fileOf pool11 1 #[] #[{ accessFlags := 1, nameIndex := 88, descriptorIndex := 89, attributes := #[] }] 16433 41 #[] #[{ accessFlags := 16409, nameIndex := 5, descriptorIndex := 6, attributes := #[] }, { accessFlags := 16409, nameIndex := 9, descriptorIndex := 6, attributes := #[] }, { accessFlags := 16409, nameIndex := 12, descriptorIndex := 6, attributes := #[] }, { accessFlags := 16409, nameIndex := 15, descriptorIndex := 6, attributes := #[] }, { accessFlags := 16409, nameIndex := 18, descriptorIndex := 6, attributes := #[] }, { accessFlags := 16409, nameIndex := 21, descriptorIndex := 6, attributes := #[] }, { accessFlags := 16409, nameIndex := 24, descriptorIndex := 6, attributes := #[] }, { accessFlags := 16409, nameIndex := 27, descriptorIndex := 6, attributes := #[] }, { accessFlags := 16409, nameIndex := 30, descriptorIndex := 6, attributes := #[] }, { accessFlags := 25, nameIndex := 261, descriptorIndex := 262, attributes := #[] }, { accessFlags := 25, nameIndex := 265, descriptorIndex := 262, attributes := #[] }, { accessFlags := 26, nameIndex := 135, descriptorIndex := 136, attributes := #[] }, { accessFlags := 26, nameIndex := 167, descriptorIndex := 136, attributes := #[] }, { accessFlags := 18, nameIndex := 52, descriptorIndex := 53, attributes := #[] }, { accessFlags := 18, nameIndex := 61, descriptorIndex := 62, attributes := #[] }, { accessFlags := 18, nameIndex := 65, descriptorIndex := 62, attributes := #[] }, { accessFlags := 4122, nameIndex := 33, descriptorIndex := 34, attributes := #[] }])
  fields := #[{ name := "STRING", type := (.object "com/example/keyfold/keyfold/spec/ColumnType"), accessFlags := 16409, slot := 0, constantValue := 0 }, { name := "INT16", type := (.object "com/example/keyfold/keyfold/spec/ColumnType"), accessFlags := 16409, slot := 1, constantValue := 0 }, { name := "INT32", type := (.object "com/example/keyfold/keyfold/spec/ColumnType"), accessFlags := 16409, slot := 2, constantValue := 0 }, { name := "INT64", type := (.object "com/example/keyfold/keyfold/spec/ColumnType"), accessFlags := 16409, slot := 3, constantValue := 0 }, { name := "UINT16", type := (.object "com/example/keyfold/keyfold/spec/ColumnType"), accessFlags := 16409, slot := 4, constantValue := 0 }, { name := "UINT32", type := (.object "com/example/keyfold/keyfold/spec/ColumnType"), accessFlags := 16409, slot := 5, constantValue := 0 }, { name := "UINT64", type := (.object "com/example/keyfold/keyfold/spec/ColumnType"), accessFlags := 16409, slot := 6, constantValue := 0 }, { name := "DOUBLE", type := (.object "com/example/keyfold/keyfold/spec/ColumnType"), accessFlags := 16409, slot := 7, constantValue := 0 }, { name := "DATE", type := (.object "com/example/keyfold/keyfold/spec/ColumnType"), accessFlags := 16409, slot := 8, constantValue := 0 }, { name := "FIRST_DATE", type := (.object "java/time/LocalDate"), accessFlags := 25, slot := 9, constantValue := 0 }, { name := "LAST_DATE", type := (.object "java/time/LocalDate"), accessFlags := 25, slot := 10, constantValue := 0 }, { name := "INTEGER", type := (.object "java/util/regex/Pattern"), accessFlags := 26, slot := 11, constantValue := 0 }, { name := "DECIMAL", type := (.object "java/util/regex/Pattern"), accessFlags := 26, slot := 12, constantValue := 0 }, { name := "specName", type := (.object "java/lang/String"), accessFlags := 18, slot := 3, constantValue := 0 }, { name := "min", type := (.object "java/math/BigInteger"), accessFlags := 18, slot := 4, constantValue := 0 }, { name := "max", type := (.object "java/math/BigInteger"), accessFlags := 18, slot := 5, constantValue := 0 }, { name := "$VALUES", type := (.array (.object "com/example/keyfold/keyfold/spec/ColumnType")), accessFlags := 4122, slot := 13, constantValue := 0 }]
  methods := #[k11m0]
  instanceTypes := #[(.object "java/lang/String"), .int, .int, (.object "java/lang/String"), (.object "java/math/BigInteger"), (.object "java/math/BigInteger")]
  staticTypes := #[(.object "com/example/keyfold/keyfold/spec/ColumnType"), (.object "com/example/keyfold/keyfold/spec/ColumnType"), (.object "com/example/keyfold/keyfold/spec/ColumnType"), (.object "com/example/keyfold/keyfold/spec/ColumnType"), (.object "com/example/keyfold/keyfold/spec/ColumnType"), (.object "com/example/keyfold/keyfold/spec/ColumnType"), (.object "com/example/keyfold/keyfold/spec/ColumnType"), (.object "com/example/keyfold/keyfold/spec/ColumnType"), (.object "com/example/keyfold/keyfold/spec/ColumnType"), (.object "java/time/LocalDate"), (.object "java/time/LocalDate"), (.object "java/util/regex/Pattern"), (.object "java/util/regex/Pattern"), (.array (.object "com/example/keyfold/keyfold/spec/ColumnType"))]
  resolved := Array.replicate 316 none
  statics := some 2 }

def pool12 : Array CpInfo := pool [(2, .class_ 4), (1, u "java/lang/Object"), (0, u "<init>"), (0, u "()V"), (17, .class_ 26), (1, u "jdk/internal/util/Preconditions"), (28, .class_ 56), (0, u "jdk/internal/util/Preconditions$4"), (57, .class_ 115), (0, u "jdk/internal/util/Preconditions$1"), (7, u "SIOOBE_FORMATTER"), (0, u "Ljava/util/function/BiFunction;"), (0, .class_ 126), (0, u "jdk/internal/util/Preconditions$2"), (3, u "AIOOBE_FORMATTER"), (0, .class_ 132), (0, u "jdk/internal/util/Preconditions$3"), (3, u "IOOBE_FORMATTER")] 57

def k12m0 : Method := { name := "<init>", desc := "()V", sig := { parameters := [], returnType := none }, accessFlags := 1, code := none }
/-- jdk/internal/util/Preconditions -/
def k12 : Class := { plain "jdk/internal/util/Preconditions" (some 0) with
  accessFlags := 33
  interfaces := #[]
  cf := some (fileOf pool12 24 #[.nestMembers #[55, 131, 125, 114]] #[{ accessFlags := 1, nameIndex := 5, descriptorIndex := 6, attributes := #[] }] 33 2 #[] #[{ accessFlags := 25, nameIndex := 123, descriptorIndex := 124, attributes := #[] }, { accessFlags := 25, nameIndex := 130, descriptorIndex := 124, attributes := #[] }, { accessFlags := 25, nameIndex := 136, descriptorIndex := 124, attributes := #[] }])
  fields := #[{ name := "SIOOBE_FORMATTER", type := (.object "java/util/function/BiFunction"), accessFlags := 25, slot := 0, constantValue := 0 }, { name := "AIOOBE_FORMATTER", type := (.object "java/util/function/BiFunction"), accessFlags := 25, slot := 1, constantValue := 0 }, { name := "IOOBE_FORMATTER", type := (.object "java/util/function/BiFunction"), accessFlags := 25, slot := 2, constantValue := 0 }]
  methods := #[k12m0]
  instanceTypes := #[]
  staticTypes := #[(.object "java/util/function/BiFunction"), (.object "java/util/function/BiFunction"), (.object "java/util/function/BiFunction")]
  resolved := Array.replicate 194 none
  statics := some 3 }

def pool13 : Array CpInfo := pool [(9, u "<init>"), (6, .class_ 18), (1, u "java/lang/Object"), (0, u "()V"), (1, .class_ 23), (1, u "jdk/internal/util/ArraysSupport"), (0, u "LOG2_ARRAY_LONG_INDEX_SCALE"), (0, u "I"), (2, u "U"), (0, u "Ljdk/internal/misc/Unsafe;"), (8, u "BIG_ENDIAN"), (0, u "Z"), (8, u "LOG2_BYTE_BIT_SIZE"), (4, u "LOG2_ARRAY_INT_INDEX_SCALE"), (54, u "JLA"), (0, u "Ljdk/internal/access/JavaLangAccess;"), (11, u "LOG2_ARRAY_BOOLEAN_INDEX_SCALE"), (9, u "LOG2_ARRAY_BYTE_INDEX_SCALE"), (5, u "LOG2_ARRAY_CHAR_INDEX_SCALE"), (5, u "LOG2_ARRAY_SHORT_INDEX_SCALE"), (18, u "LOG2_ARRAY_FLOAT_INDEX_SCALE"), (24, u "LOG2_ARRAY_DOUBLE_INDEX_SCALE"), (89, u "T_BOOLEAN"), (2, u "T_CHAR"), (1, u "T_FLOAT"), (1, u "T_DOUBLE"), (1, u "T_BYTE"), (1, u "T_SHORT"), (1, u "T_INT"), (1, u "T_LONG"), (1, u "SOFT_MAX_ARRAY_LENGTH")] 83

def k13m0 : Method := { name := "<init>", desc := "()V", sig := { parameters := [], returnType := none }, accessFlags := 2, code := none }
/-- jdk/internal/util/ArraysSupport -/
def k13 : Class := { plain "jdk/internal/util/ArraysSupport" (some 0) with
  accessFlags := 33
  interfaces := #[]
  cf := some (fileOf pool13 21 #[] #[{ accessFlags := 2, nameIndex := 9, descriptorIndex := 19, attributes := #[] }] 33 16 #[] #[{ accessFlags := 24, nameIndex := 28, descriptorIndex := 29, attributes := #[] }, { accessFlags := 26, nameIndex := 38, descriptorIndex := 39, attributes := #[] }, { accessFlags := 25, nameIndex := 121, descriptorIndex := 25, attributes := #[] }, { accessFlags := 25, nameIndex := 131, descriptorIndex := 25, attributes := #[] }, { accessFlags := 25, nameIndex := 137, descriptorIndex := 25, attributes := #[] }, { accessFlags := 25, nameIndex := 143, descriptorIndex := 25, attributes := #[] }, { accessFlags := 25, nameIndex := 53, descriptorIndex := 25, attributes := #[] }, { accessFlags := 25, nameIndex := 24, descriptorIndex := 25, attributes := #[] }, { accessFlags := 25, nameIndex := 162, descriptorIndex := 25, attributes := #[] }, { accessFlags := 25, nameIndex := 187, descriptorIndex := 25, attributes := #[] }, { accessFlags := 26, nameIndex := 48, descriptorIndex := 25, attributes := #[] }, { accessFlags := 25, nameIndex := 277, descriptorIndex := 25, attributes := #[] }, { accessFlags := 25, nameIndex := 280, descriptorIndex := 25, attributes := #[] }, { accessFlags := 25, nameIndex := 282, descriptorIndex := 25, attributes := #[] }, { accessFlags := 25, nameIndex := 284, descriptorIndex := 25, attributes := #[] }, { accessFlags := 25, nameIndex := 286, descriptorIndex := 25, attributes := #[] }, { accessFlags := 25, nameIndex := 288, descriptorIndex := 25, attributes := #[] }, { accessFlags := 25, nameIndex := 290, descriptorIndex := 25, attributes := #[] }, { accessFlags := 25, nameIndex := 292, descriptorIndex := 25, attributes := #[] }, { accessFlags := 26, nameIndex := 108, descriptorIndex := 109, attributes := #[] }, { accessFlags := 25, nameIndex := 294, descriptorIndex := 25, attributes := #[] }])
  fields := #[{ name := "U", type := (.object "jdk/internal/misc/Unsafe"), accessFlags := 24, slot := 0, constantValue := 0 }, { name := "BIG_ENDIAN", type := .boolean, accessFlags := 26, slot := 1, constantValue := 0 }, { name := "LOG2_ARRAY_BOOLEAN_INDEX_SCALE", type := .int, accessFlags := 25, slot := 2, constantValue := 0 }, { name := "LOG2_ARRAY_BYTE_INDEX_SCALE", type := .int, accessFlags := 25, slot := 3, constantValue := 0 }, { name := "LOG2_ARRAY_CHAR_INDEX_SCALE", type := .int, accessFlags := 25, slot := 4, constantValue := 0 }, { name := "LOG2_ARRAY_SHORT_INDEX_SCALE", type := .int, accessFlags := 25, slot := 5, constantValue := 0 }, { name := "LOG2_ARRAY_INT_INDEX_SCALE", type := .int, accessFlags := 25, slot := 6, constantValue := 0 }, { name := "LOG2_ARRAY_LONG_INDEX_SCALE", type := .int, accessFlags := 25, slot := 7, constantValue := 0 }, { name := "LOG2_ARRAY_FLOAT_INDEX_SCALE", type := .int, accessFlags := 25, slot := 8, constantValue := 0 }, { name := "LOG2_ARRAY_DOUBLE_INDEX_SCALE", type := .int, accessFlags := 25, slot := 9, constantValue := 0 }, { name := "LOG2_BYTE_BIT_SIZE", type := .int, accessFlags := 26, slot := 10, constantValue := 0 }, { name := "T_BOOLEAN", type := .int, accessFlags := 25, slot := 11, constantValue := 0 }, { name := "T_CHAR", type := .int, accessFlags := 25, slot := 12, constantValue := 0 }, { name := "T_FLOAT", type := .int, accessFlags := 25, slot := 13, constantValue := 0 }, { name := "T_DOUBLE", type := .int, accessFlags := 25, slot := 14, constantValue := 0 }, { name := "T_BYTE", type := .int, accessFlags := 25, slot := 15, constantValue := 0 }, { name := "T_SHORT", type := .int, accessFlags := 25, slot := 16, constantValue := 0 }, { name := "T_INT", type := .int, accessFlags := 25, slot := 17, constantValue := 0 }, { name := "T_LONG", type := .int, accessFlags := 25, slot := 18, constantValue := 0 }, { name := "JLA", type := (.object "jdk/internal/access/JavaLangAccess"), accessFlags := 26, slot := 19, constantValue := 0 }, { name := "SOFT_MAX_ARRAY_LENGTH", type := .int, accessFlags := 25, slot := 20, constantValue := 0 }]
  methods := #[k13m0]
  instanceTypes := #[]
  staticTypes := #[(.object "jdk/internal/misc/Unsafe"), .boolean, .int, .int, .int, .int, .int, .int, .int, .int, .int, .int, .int, .int, .int, .int, .int, .int, .int, (.object "jdk/internal/access/JavaLangAccess"), .int]
  resolved := Array.replicate 378 none
  statics := none }

def pool14 : Array CpInfo := pool [(1, u "java/lang/Cloneable"), (0, .class_ 1), (0, u "java/lang/Object"), (0, .class_ 3)] 3

/-- java/lang/Cloneable -/
def k14 : Class := { plain "java/lang/Cloneable" (some 0) with
  accessFlags := 1537
  interfaces := #[]
  cf := some (fileOf pool14 2 #[] #[] 1537 4 #[] #[])
  fields := #[]
  methods := #[]
  instanceTypes := #[]
  staticTypes := #[]
  resolved := Array.replicate 8 none
  statics := none }

/-- the primitive byte -/
def k15 : Class := { plain "byte" none with kind := .primitive 'B', accessFlags := 0x411 }
/-- [B -/
def k16 : Class := { plain "[B" (some 0) with kind := .array 15 .byte, interfaces := #[14, 4], accessFlags := 1041 }

def heap : Heap := #[{ cls := 6, slots := #[.ref 4, .ref 5, .ref 6, .ref 7, .ref 8, .ref 9, .null, .null, .null, .null, .null, .null], vm := .statics 6 },
  { cls := 9, slots := #[.long 0, .int 1, .null, .int 0, .null, .int 0, .int 0], vm := .statics 9 },
  { cls := 11, slots := #[.null, .null, .null, .null, .null, .null, .null, .null, .ref 10, .null, .null, .null, .null, .null], vm := .statics 11 },
  { cls := 12, slots := #[.null, .null, .null], vm := .statics 12 },
  { cls := 6, slots := #[.null, .int 0, .int 0, .null, .int 0], vm := .none },
  { cls := 6, slots := #[.null, .int 1, .int 0, .null, .int 0], vm := .none },
  { cls := 6, slots := #[.null, .int 2, .int 0, .null, .int 0], vm := .none },
  { cls := 6, slots := #[.null, .int 3, .int 0, .null, .int 1], vm := .none },
  { cls := 6, slots := #[.null, .int 4, .int 0, .null, .int 1], vm := .none },
  { cls := 6, slots := #[.null, .int 5, .int 0, .null, .int 1], vm := .none },
  { cls := 11, slots := #[.null, .int 8, .int 0, .null, .null, .null], vm := .none }]
def classes : Array Class := #[k0, k1, k2, k3, k4, k5, k6, k7, k8, k9, k10, k11, k12, k13, k14, k15, k16]
def interned : List (Array UInt16 × Addr) := []
def slotsUsed : Nat := 72
def theMethod : MethodId := ⟨1, 1⟩
def args0 : Array Value := #[.int 6]
def aboutOver (below : List Frame) : State where
  vm := { classes := classes, interned := interned.toArray }
  heap := heap
  slotsUsed := slotsUsed
  threads := #[{ frames := .invoking theMethod args0 :: below }]
def below0 : List Frame := [.native { method := ⟨0, 0⟩, args := #[] }]
def about1 : State := aboutOver below0
def p0 : Program := .bare "" "" ""
def e0 : Env := launch0.env 0 0 0
theorem w_frames : about1.frames = Frame.invoking theMethod args0 :: below0 := rfl
set_option maxRecDepth 65536 in
theorem w_args : argsFit about1.vm theMethod args0 = true := by decide +kernel
set_option maxRecDepth 65536 in
theorem w_heap : heapFits about1 = true := by decide +kernel
set_option maxRecDepth 65536 in
theorem w_runnable : about1.curStatus? = some .runnable := by decide +kernel
set_option maxRecDepth 65536 in
theorem w_alone : about1.alone = true := by decide +kernel
set_option maxRecDepth 65536 in
theorem w_named : about1.methodNamed? x = some theMethod := by decide +kernel
set_option maxRecDepth 65536 in
theorem w_hears : about1.hears theMethod below0 = true := by decide +kernel
set_option maxRecDepth 65536 in
theorem w_ripe : about1.ripe theMethod args0 below0 = true := by decide +kernel
theorem w_running : about1.status = .running := rfl
set_option maxRecDepth 65536 in
theorem w_room : about1.hasRoom e0.platform room_1 = true :=
  launch0.hasRoom_least _ room_1 (by decide +kernel) (by decide +kernel) (by decide +kernel) (by decide +kernel) (by decide +kernel) (by decide +kernel)
theorem allAtoms_all (ts : List Jvm.Cond) (a : Array Jvm.Value) (st : Jvm.State) : (allAtoms ts).before a st = ts.all (fun c => c.before a st) := by
  induction ts with
  | nil => rfl
  | cons c t ih =>
    show (Jvm.Cond.and c (allAtoms t)).before a st = _
    rw [Jvm.Cond.before_and, ih, List.all_cons]
def words1 : List Jvm.Cond := Jvm.Cond.code x code maxLocals ret :: tables_1
/-- a 'code' word, met by the world's own term for the bytes: nothing is compared byte by byte -/
theorem code_word {y : MethodName} {bytes : ByteArray} {mx : Nat} {rt : Option FieldType} {a : Array Value} {s : State} {m : MethodId} {meth : Method} {c : Code} (h1 : s.methodNamed? y = some m) (h2 : s.vm.method? m = some meth) (h3 : meth.code = some c) (h4 : c.code = bytes)
    (h5 : (c.maxLocals == mx && c.exceptionTable.isEmpty && decide (c.maxStack ≤ mostOperands) && decide (meth.sig.returnType = rt) && !meth.locks && decide (parseMethodDescriptor y.desc = some meth.sig)) = true) : (Jvm.Cond.code y bytes mx rt).before a s = true := by
  simp only [Bool.and_eq_true, beq_iff_eq, Bool.not_eq_true', decide_eq_true_eq] at h5
  obtain ⟨⟨⟨⟨⟨g1, g2⟩, g3⟩, g4⟩, g5⟩, g6⟩ := h5
  simp [Cond.before, Cond.holds, Cond.value, h1, h2, h3, h4, g1, g2, g3, g4, g5, g6]
def isCode : Jvm.Cond → Bool
  | .code _ _ _ _ => true
  | _ => false
theorem all_split {L : List Jvm.Cond} {P : Jvm.Cond → Bool} (h1 : L.all (fun c => isCode c || P c) = true) (h2 : ∀ c ∈ L.filter isCode, P c = true) : L.all P = true := by
  refine List.all_eq_true.mpr fun c hc => ?_
  have h := List.all_eq_true.mp h1 c hc
  rcases Bool.eq_false_or_eq_true (isCode c) with hi | hi
  · exact h2 c (List.mem_filter.mpr ⟨hc, hi⟩)
  · simpa [hi] using h
set_option maxRecDepth 65536 in
theorem w_c0 : (Jvm.Cond.code x code maxLocals ret).before args0 about1 = true := code_word (m := ⟨1, 1⟩) (meth := k1m1) (c := k1c1) (by decide +kernel) rfl rfl rfl (by decide +kernel)
set_option maxRecDepth 65536 in
theorem w_c1 : (Jvm.Cond.code ({ cls := "com/example/keyfold/keyfold/spec/Transform", name := "gives", desc := "()Ljava/lang/String;" } : Jvm.MethodName) prog_91_method_6_code (1 : Nat) (Option.some (Jvm.ClassFile.FieldType.object "java/lang/String"))).before args0 about1 = true := code_word (m := ⟨6, 1⟩) (meth := k6m1) (c := k6c1) (by decide +kernel) rfl rfl rfl (by decide +kernel)
set_option maxRecDepth 65536 in
theorem w_c2 : (Jvm.Cond.code ({ cls := "java/lang/String", name := "equals", desc := "(Ljava/lang/Object;)Z" } : Jvm.MethodName) jdk_42_method_66_code (3 : Nat) (Option.some Jvm.ClassFile.FieldType.boolean)).before args0 about1 = true := code_word (m := ⟨9, 1⟩) (meth := k9m1) (c := k9c1) (by decide +kernel) rfl rfl rfl (by decide +kernel)
set_option maxRecDepth 65536 in
theorem w_c3 : (Jvm.Cond.code ({ cls := "java/lang/StringLatin1", name := "equals", desc := "([B[B)Z" } : Jvm.MethodName) jdk_43_method_13_code (3 : Nat) (Option.some Jvm.ClassFile.FieldType.boolean)).before args0 about1 = true := code_word (m := ⟨10, 1⟩) (meth := k10m1) (c := k10c1) (by decide +kernel) rfl rfl rfl (by decide +kernel)
set_option maxRecDepth 65536 in
theorem w_c4 : (Jvm.Cond.code ({ cls := "com/example/keyfold/keyfold/spec/Transform", name := "fits", desc := "(Lcom/example/keyfold/keyfold/spec/ColumnType;)Z" } : Jvm.MethodName) prog_91_method_5_code (2 : Nat) (Option.some Jvm.ClassFile.FieldType.boolean)).before args0 about1 = true := code_word (m := ⟨6, 0⟩) (meth := k6m0) (c := k6c0) (by decide +kernel) rfl rfl rfl (by decide +kernel)
set_option maxRecDepth 65536 in
theorem w_c5 : (Jvm.Cond.code ({ cls := "com/example/keyfold/keyfold/spec/ColumnType", name := "isInteger", desc := "()Z" } : Jvm.MethodName) prog_63_method_8_code (1 : Nat) (Option.some Jvm.ClassFile.FieldType.boolean)).before args0 about1 = true := code_word (m := ⟨11, 0⟩) (meth := k11m0) (c := k11c0) (by decide +kernel) rfl rfl rfl (by decide +kernel)
def codes1 : List Jvm.Cond := [Jvm.Cond.code x code maxLocals ret, Jvm.Cond.code ({ cls := "com/example/keyfold/keyfold/spec/Transform", name := "gives", desc := "()Ljava/lang/String;" } : Jvm.MethodName) prog_91_method_6_code (1 : Nat) (Option.some (Jvm.ClassFile.FieldType.object "java/lang/String")), Jvm.Cond.code ({ cls := "java/lang/String", name := "equals", desc := "(Ljava/lang/Object;)Z" } : Jvm.MethodName) jdk_42_method_66_code (3 : Nat) (Option.some Jvm.ClassFile.FieldType.boolean), Jvm.Cond.code ({ cls := "java/lang/StringLatin1", name := "equals", desc := "([B[B)Z" } : Jvm.MethodName) jdk_43_method_13_code (3 : Nat) (Option.some Jvm.ClassFile.FieldType.boolean), Jvm.Cond.code ({ cls := "com/example/keyfold/keyfold/spec/Transform", name := "fits", desc := "(Lcom/example/keyfold/keyfold/spec/ColumnType;)Z" } : Jvm.MethodName) prog_91_method_5_code (2 : Nat) (Option.some Jvm.ClassFile.FieldType.boolean), Jvm.Cond.code ({ cls := "com/example/keyfold/keyfold/spec/ColumnType", name := "isInteger", desc := "()Z" } : Jvm.MethodName) prog_63_method_8_code (1 : Nat) (Option.some Jvm.ClassFile.FieldType.boolean)]
set_option maxRecDepth 65536 in
theorem codes_eq : words1.filter isCode = codes1 := rfl
theorem w_codes : ∀ c ∈ words1.filter isCode, c.before args0 about1 = true := by
  rw [codes_eq]
  intro c hc
  simp only [codes1, List.mem_cons, List.not_mem_nil, or_false] at hc
  rcases hc with rfl | rfl | rfl | rfl | rfl | rfl
  · exact w_c0
  · exact w_c1
  · exact w_c2
  · exact w_c3
  · exact w_c4
  · exact w_c5
set_option maxRecDepth 65536 in
theorem w_t1 : (words1.take 24).all (fun c => isCode c || c.before args0 about1) = true := by decide +kernel
set_option maxRecDepth 65536 in
theorem w_t2 : ((words1.drop 24).take 24).all (fun c => isCode c || c.before args0 about1) = true := by decide +kernel
set_option maxRecDepth 65536 in
theorem w_t3 : ((words1.drop 24).drop 24).all (fun c => isCode c || c.before args0 about1) = true := by decide +kernel
theorem w_tables : (allAtoms (Jvm.Cond.code x code maxLocals ret :: tables_1)).before args0 about1 = true := by
  rw [allAtoms_all]
  show words1.all (fun c => c.before args0 about1) = true
  refine all_split ?_ w_codes
  rw [← List.take_append_drop 24 words1, List.all_append, w_t1, ← List.take_append_drop 24 (words1.drop 24), List.all_append, w_t2, w_t3]
  rfl
set_option maxRecDepth 65536 in
theorem w_rest : rest_1_c.before args0 about1 = true := by decide +kernel
set_option maxRecDepth 65536 in
theorem w_case : (Jvm.Cond.and given_1 narrow_1).before args0 about1 = true := by decide +kernel
set_option maxRecDepth 65536 in
theorem w_consts : constsHeld consts_1 about1 := Jvm.Lit.constsHeldB_iff.mp (by decide +kernel)
theorem w_applies : (headSpec (Jvm.Cond.code x code maxLocals ret :: tables_1) room_1).applies x e0.platform about1 = true :=
  (Spec.applies_iff w_frames).mpr ⟨w_running, w_runnable, w_alone, w_named, w_hears, w_ripe, w_room, w_tables⟩
theorem atStart : AtStart classFile x code maxLocals ret World_1 tables_1 room_1 Calls_1 rest_1 Pre_1 launch0 p0 e0 about1 theMethod args0 below0 :=
  ⟨lists_1, trivial, launch0.admits_env _ _ _, launch0.least_env, fairChoices_fair.cas, fairChoices_fair.clock, w_frames, w_args, w_heap, w_applies, ⟨w_consts, trivial⟩, w_rest, w_case⟩
end start1
theorem witness_1 : WitnessClaimed_1 := ⟨start1.p0, start1.e0, start1.about1, start1.theMethod, start1.args0, start1.below0, start1.atStart⟩
end Jvm.Pilot.@@N@@
