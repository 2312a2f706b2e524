import JvmDerived
import JvmDerived.Pilot.@@N@@Statement
import JvmDerived.Pilot.@@N@@Code
set_option linter.unusedVariables false
set_option linter.unusedSimpArgs false
set_option maxRecDepth 65536
namespace Jvm.RoadKit
open Sem ClassFile Op Lib Jvm.Stand Jvm.Free Jvm.LawKit
section New
variable {p : Program} {l : Launch} {e : Env} {R : Room} {s : State} {m : MethodId} {args : Array Value} {below : List Frame} {meth : Method} {c : Code} {T : State} {locs : List Loc} {cells slots : Nat}
theorem retI (X : Stand p l e R s m args below meth c T locs cells slots) (hx : p.tables.exec = Jvm.exec) {pc : Nat} {Ls : Array Slot} {z : Int32} {rest : List Value} (hret : meth.sig.returnType = some .int) (hd : decode c.code pc = .ok (.ireturn, 1)) {fs : List Frame}
    (hl : ∀ (f : JFrame) (acts : List Action), f.method = m → f.locked = none → f.entered = [] → (doReturn e (T.setTop f) acts (some (.int z))).1 = T.setFrames fs) : Steps p.tables e below (T.setTop (mkF m pc Ls (.int z :: rest))) (T.setFrames fs) := by
  have hm' : T.vm.method? m = some meth := X.method'
  have hn : narrow .int (.int z) = .int z := rfl
  show Steps p.tables e below (T.setTop { method := m, pc := pc, locals := Ls, stack := _ :: rest, locked := none }) _
  jvm_step X.here [X.here.top, hx, hd, hm', hret, hn]
  first | (intro acts; rw [hl _ acts rfl rfl rfl]) | rw [hl _ _ rfl rfl rfl]
  exact Steps.refl _
end New
end Jvm.RoadKit
namespace Jvm.Pilot.@@N@@
open Jvm Jvm.ClassFile Sem Op Lib Jvm.Free Jvm.Stand Jvm.LawKit Jvm.RoadKit Bundle Jvm.Pilot.@@N@@.Jvm.D
def own_cache (Z : State) (h : Heap) (ca : Addr) : Prop := ∃ cl : Cell, Arr Z h ca cl (.object "java/lang/Long") ∧ cl.slots.size = 256 ∧ ∀ k, k < 256 → ∃ b, cl.slots[k]? = some (.ref b) ∧ Exa Z h b "java/lang/Long"
theorem own_cache_keep {Z : State} {h h' : Heap} {ca : Addr} (F : own_cache Z h ca) (K : Keep h h' []) : own_cache Z h' ca := by
  obtain ⟨cl, A, s, H⟩ := F
  refine ⟨cl, ⟨K.2.1 _ _ A.1 (fun q => nomatch q), A.2⟩, s, fun k hk => ?_⟩
  obtain ⟨b, h1, h2⟩ := H k hk
  exact ⟨b, h1, h2.keep K⟩
theorem own_sta_keep0 {Z : State} {h h' : Heap} {C n d : String} {v : Value} (F : Sta Z h C n d v) (K : Keep h h' []) : Sta Z h' C n d v := by
  obtain ⟨cf, i, k, f, st, cell, h1, h2, h3, h4, h5, r⟩ := F
  exact ⟨cf, i, k, f, st, cell, h1, h2, h3, h4, K.2.1 _ _ h5 (fun q => nomatch q), r⟩
theorem own_exa_at {Z : State} {args : Array Value} {idx : List Nat} {t : Term} {a : Addr} {C : String} (ev : t.eval args Z none idx Z = some (.ref a)) (hx : (Cond.exactly t C).value args Z none Z idx = some true) : Exa Z Z.heap a C := by
  have e : (Term.arg 0).eval #[.ref a] Z none [] Z = some (.ref a) := rfl
  refine Exa.start (args := #[.ref a]) (t := .arg 0) e ?_
  simp only [Cond.value, ev] at hx
  simp only [Cond.value, e]
  exact hx
theorem own_eqint {args : Array Value} {first s : State} {o : Option Outcome} {idx : List Nat} {t : Term} {j : Int32} (h : (Cond.eq t (.int j)).value args first o s idx = some true) : t.eval args first o idx s = some (.int j) := by
  obtain ⟨x, y, h1, h2, k1, k2⟩ := cmp_v (Or.inl h)
  have e2 : Value.int j = y := Option.some.inj h2
  subst e2
  obtain ⟨z, rfl⟩ := k2
  have h3 : (Term.int j).eval args first o idx s = some (.int j) := rfl
  have : z = j := by simpa [Cond.value, h1, h3] using h
  rw [h1, this]
theorem own_len {args : Array Value} {first s : State} {o : Option Outcome} {idx : List Nat} {t : Term} {j : Int32} {a : Addr} {cl : Cell} (he : t.eval args first o idx s = some (.ref a)) (ha : s.arrayAt? a = some cl) (h : (Term.length t).eval args first o idx s = some (.int j)) : cl.slots.size < 2 ^ 31 ∧ cl.slots.size.toInt32 = j := by
  by_cases hl : cl.slots.size < 2 ^ 31
  · exact ⟨hl, Value.int.inj (Option.some.inj ((len_f he ha hl).symm.trans h))⟩
  · have h2 : (Term.length t).eval args first o idx s = none := by simp [Term.eval, he, ha, hl]
    rw [h2] at h
    cases h
theorem own_idx {k : Nat} (h : k < 256) : (Nat.toInt32 k).toNatClampNeg = k ∧ ¬ Nat.toInt32 k < 0 := by
  have e : (Nat.toInt32 k).toInt = k := len_toInt (by omega)
  refine ⟨by simp only [Int32.toNatClampNeg, e]; rfl, ?_⟩
  rw [Int32.lt_iff_toInt_lt, e]
  have e0 : (0 : Int32).toInt = 0 := by decide
  omega
theorem own_cache_start {Z : State} {args : Array Value} {ca : Addr} {D : Cond} (ev : (Term.static "java/lang/Long$LongCache" "cache" "[Ljava/lang/Long;").eval args Z none [] Z = some (.ref ca))
    (h1 : (Cond.arrayOf (Term.static "java/lang/Long$LongCache" "cache" "[Ljava/lang/Long;") (.object "java/lang/Long")).value args Z none Z [] = some true)
    (h2 : (Cond.eq (Term.length (Term.static "java/lang/Long$LongCache" "cache" "[Ljava/lang/Long;")) (.int 256)).value args Z none Z [] = some true)
    (h3 : (Cond.all (Term.static "java/lang/Long$LongCache" "cache" "[Ljava/lang/Long;") (.and (.exactly (.elem (.static "java/lang/Long$LongCache" "cache" "[Ljava/lang/Long;") (.index 0)) "java/lang/Long") D)).value args Z none Z [] = some true) : own_cache Z Z.heap ca := by
  obtain ⟨cl, A⟩ := Arr.start ev h1
  have at0 : Z.arrayAt? ca = some cl := Arr.fin (State.Warmed39.refl Z).alike A
  obtain ⟨lt, le⟩ := own_len ev at0 (own_eqint h2)
  have sz : cl.slots.size = 256 := by
    have q := congrArg Int32.toInt le
    rw [len_toInt lt] at q
    have e : (256 : Int32).toInt = 256 := by decide
    omega
  refine ⟨cl, A, sz, fun k hk => ?_⟩
  have H := (and_e (Cond.all_elim ev at0 h3 k (by omega))).1
  obtain ⟨b, eb⟩ := exa_v H
  have ev' : (Term.static "java/lang/Long$LongCache" "cache" "[Ljava/lang/Long;").eval args Z none [k] Z = some (.ref ca) := by simpa [Term.eval] using ev
  have ei : (Term.index 0).eval args Z none [k] Z = some (.int (Nat.toInt32 k)) := rfl
  have eq := elem_f ev' ei at0 (own_idx hk).2
  rw [(own_idx hk).1] at eq
  exact ⟨b, eq.symm.trans eb, own_exa_at eb H⟩
theorem own_notlong {Z : State} {a0 : Array Value} {K : String} {n : Nat} (w1 : (Cond.superclass "java/lang/Long" "java/lang/Number").before a0 Z = true) (w2 : (Cond.superclass "java/lang/Number" "java/lang/Object").before a0 Z = true) (w3 : (Cond.noSuperclass "java/lang/Object").before a0 Z = true) (wi : (Cond.instantiable K n).before a0 Z = true) (n1 : "java/lang/Long" ≠ K) (n2 : "java/lang/Number" ≠ K) (n3 : "java/lang/Object" ≠ K) :
    ∃ c t, Z.vm.findClass "java/lang/Long" = some c ∧ Z.vm.findClass K = some t ∧ Z.vm.assignable c t = false := by
  obtain ⟨t, kt, g1, g2, g5, g7, -⟩ := Cond.instantiable_spec wi
  have r3 : NS Z "java/lang/Object" K := by
    obtain ⟨c, k, h1, h2, h3, -, -⟩ := Cond.noSuperclass_spec w3
    have ne := ids_ne h1 g1 n3
    refine ⟨c, t, h1, g1, fun fuel => ?_⟩
    cases fuel with
    | zero => rfl
    | succ f => simp [Vm.isSubclassAux, ne, h2, h3]
  obtain ⟨c, t', h0, g0, n3'⟩ := NS.step w1 (NS.step w2 r3 n2) n1
  cases g1.symm.trans g0
  obtain ⟨p, k, kp, h1, h2, h3, h4, h5, -, h7⟩ := Cond.superclass_spec h0 w1
  have ne := ids_ne h0 g1 n1
  simp only [Bool.or_eq_false_iff] at g7
  refine ⟨c, t, h0, g1, ?_⟩
  show Z.vm.assignableAux (255 + 1) c t = false
  simp [Vm.assignableAux, ne, h2, g2, h5, g5, g7.1, Vm.isSubclass, n3']
theorem own_lc3 (x y : Int64) : (lcmpW x y < 0 ↔ x.toInt < y.toInt) ∧ (0 < lcmpW x y ↔ y.toInt < x.toInt) ∧ (lcmpW x y = 0 ↔ x = y) := by
  unfold lcmpW
  refine ⟨?_, ?_, ?_⟩ <;> (repeat' split) <;> simp_all [Int64.lt_iff_toInt_lt, ← Int64.toInt_inj] <;> omega
theorem own_slot {x : Int64} (h1 : ¬ lcmpW x (-128) < 0) (h2 : ¬ 0 < lcmpW x 127) : ¬ (x.toInt32 + 128) < 0 ∧ (x.toInt32 + 128).toNatClampNeg < 256 := by
  rw [(own_lc3 _ _).1] at h1
  rw [(own_lc3 _ _).2.1] at h2
  have e1 : (-128 : Int64).toInt = -128 := by decide
  have e2 : (127 : Int64).toInt = 127 := by decide
  have e3 : x.toInt32.toInt = x.toInt := by
    rw [Int64.toInt_toInt32, Int.bmod_def]
    split <;> omega
  have e4 : (x.toInt32 + 128).toInt = x.toInt + 128 := by
    rw [Int32.toInt_add, Int.bmod_def, e3]
    have e5 : (128 : Int32).toInt = 128 := by decide
    rw [e5]
    split <;> omega
  have e0 : (0 : Int32).toInt = 0 := by decide
  refine ⟨by rw [Int32.lt_iff_toInt_lt, e4]; omega, ?_⟩
  simp only [Int32.toNatClampNeg, e4]
  omega
theorem own_sta_keep {Z : State} {h h' : Heap} {a : Addr} {C n d K : String} {v : Value} (F : Sta Z h C n d v) (E : Exa Z h a K) (Kp : Keep h h' [a]) : Sta Z h' C n d v := by
  obtain ⟨cf, i, k, f, st, cell, h1, h2, h3, h4, h5, h6, h7⟩ := F
  obtain ⟨cell', k', e1, -, -, e4, -⟩ := E
  have ne : st ≠ a := fun q => by
    subst q
    cases h5.symm.trans e1
    rw [h6] at e4
    cases e4
  exact ⟨cf, i, k, f, st, cell, h1, h2, h3, h4, Kp.2.1 _ _ h5 (by simpa using ne), h6, h7⟩
theorem own_and (x m : Int32) (hm : 0 ≤ m.toInt) : 0 ≤ (x &&& m).toInt ∧ (x &&& m).toInt ≤ m.toInt := by
  have e : (x &&& m).toBitVec.toNat = x.toBitVec.toNat &&& m.toBitVec.toNat := by simp
  have h1 : (x &&& m).toBitVec.toNat ≤ m.toBitVec.toNat := by rw [e]; exact Nat.and_le_right
  have h2 := m.toBitVec.isLt
  rw [← Int32.toInt_toBitVec, BitVec.toInt_eq_toNat_cond] at hm ⊢
  rw [← Int32.toInt_toBitVec m, BitVec.toInt_eq_toNat_cond]
  generalize (x &&& m).toBitVec.toNat = a at *
  generalize m.toBitVec.toNat = b at *
  split at hm
  · split <;> omega
  · omega
theorem own_of (t : Int32) (n : Nat) (h0 : 0 ≤ t.toInt) (h1 : t.toInt < n) (hn : n ≤ 2 ^ 31) : ∃ k, k < n ∧ t = Int32.ofNat k ∧ t.toNatClampNeg = k := by
  refine ⟨t.toInt.toNat, by omega, ?_, ?_⟩
  · apply Int32.toInt_inj.1
    rw [Int32.toInt_ofNat_of_lt (by omega)]
    omega
  · rfl
def own_eq2 (i1 i2 : Int64) (e1 e2 : Int32) : Int32 := if lcmpW i1 i2 = 0 then (if e1 = e2 then 1 else 0) else 0
def own_ok (i : Int64) (e : Int32) : Prop := (i = -1 ∧ e = -1) ∨ (0 ≤ i.toInt ∧ 0 ≤ e.toInt ∧ e.toInt ≤ 32767)
theorem own_s16 {z : Int32} (h0 : -32768 ≤ z.toInt) (h1 : z.toInt ≤ 32767) : z.toInt16.toInt32 = z := by
  apply Int32.toInt_inj.1
  rw [Int16.toInt_toInt32, Int32.toInt_toInt16, Int.bmod_def]
  split <;> omega
theorem own_nar {i : Int64} {e : Int32} (h : own_ok i e) : nar .short e = e := by
  rcases h with ⟨-, rfl⟩ | ⟨-, h1, h2⟩
  · decide
  · exact own_s16 (by omega) h2
theorem own_okE : own_ok (-1) (-1) := Or.inl ⟨rfl, rfl⟩
theorem own_and64 (x : Int64) : 0 ≤ (x &&& 9223372036854775807).toInt := by
  have e : (x &&& 9223372036854775807).toBitVec.toNat = x.toBitVec.toNat &&& 9223372036854775807 := by simp
  have h1 : (x &&& 9223372036854775807).toBitVec.toNat ≤ 9223372036854775807 := by rw [e]; exact Nat.and_le_right
  rw [← Int64.toInt_toBitVec, BitVec.toInt_eq_toNat_cond]
  generalize (x &&& 9223372036854775807).toBitVec.toNat = a at *
  split <;> omega
theorem own_and15 (x : Int32) : 0 ≤ (x &&& 32767).toInt16.toInt32.toInt ∧ (x &&& 32767).toInt16.toInt32.toInt ≤ 32767 := by
  have h := own_and x 32767 (by decide)
  have e : (32767 : Int32).toInt = 32767 := by decide
  rw [own_s16 (by omega) (by omega)]
  omega
theorem own_okM {i : Int64} {e : Int32} (h1 : 0 ≤ i.toInt) (h2 : 0 ≤ e.toInt ∧ e.toInt ≤ 32767) : own_ok i e := Or.inr ⟨h1, h2⟩
theorem own_x1 {i : Int64} (h : 0 ≤ i.toInt) : ¬ lcmpW i (-1) = 0 := by
  rw [(own_lc3 _ _).2.2]
  intro q
  rw [q] at h
  exact absurd h (by decide)
theorem own_x2 {i : Int64} (h : 0 ≤ i.toInt) : ¬ lcmpW i 0 < 0 := by
  rw [(own_lc3 _ _).1]
  have e : (0 : Int64).toInt = 0 := by decide
  omega
theorem own_x3 {e : Int32} (h : 0 ≤ e.toInt) : ¬ e < 0 := by
  rw [Int32.lt_iff_toInt_lt]
  have q : (0 : Int32).toInt = 0 := by decide
  omega
theorem own_q1 {i1 i2 : Int64} {e1 e2 : Int32} (h1 : own_ok i1 e1) (h2 : own_ok i2 e2) : own_eq2 i1 i2 (nar .short e1) (nar .short e2) = own_eq2 i1 i2 e1 e2 := by rw [own_nar h1, own_nar h2]
theorem own_q2 {i1 i2 : Int64} {e1 e2 : Int32} (h1 : own_ok i1 e1) (h2 : own_ok i2 e2) : own_eq2 i2 i1 (nar .short e2) (nar .short e1) = own_eq2 i1 i2 e1 e2 := by
  rw [own_nar h1, own_nar h2]
  simp only [own_eq2, (own_lc3 _ _).2.2, eq_comm]
theorem own_q3 (i : Int64) (e : Int32) : ¬ own_eq2 i i e e = 0 := by
  simp only [own_eq2, (own_lc3 _ _).2.2, if_true]
  decide
theorem d6_0 : decode jdk_18_method_1_code 0 = .ok (.aload_n 0, 1) := by decide +kernel
theorem d6_1 : decode jdk_18_method_1_code 1 = .ok (.invokespecial 1, 3) := by decide +kernel
theorem d6_4 : decode jdk_18_method_1_code 4 = .ok (.return_, 1) := by decide +kernel
theorem pn_0 : plainName "java/lang/Number" = true := by first | (simp [plainName, overriddenIn]; done) | decide +kernel
theorem ef_rm6 (m : MethodId) (x0 : Addr) : entryFrame m #[(.ref x0)] 1 = mkF m 0 #[.val (.ref x0)] [] := by first | (simp [entryFrame, mkF, argsToLocals, Value.category]; done) | rfl
def Q6 (Z : State) (a1 : Addr) (h0 : Heap) (n0 : Nat) (v : Option Value) (h : Heap) (L : List Loc) : Prop := v = none ∧ Fr n0 L ∧ h = h0
set_option maxHeartbeats 40000000 in
theorem rm6 (l : Launch) (Z : State) (a0 : Array Value) (hw : ∀ d ∈ tables_1, d.before a0 Z = true) (ws : List Jvm.Cond) (a1 : Addr) (h0 : Heap) (n0 : Nat) (Z0 : n0 ≤ h0.size) :
    MetFree l (⟨"java/lang/Number", "<init>", "()V"⟩ : MethodName) (head1 (Jvm.Cond.code (⟨"java/lang/Number", "<init>", "()V"⟩ : MethodName) jdk_18_method_1_code 1 none :: ws) ({ frames := 1, cells := 0, slots := 0, locals := 12 } : Room)) (fun a U => a = #[(.ref a1)] ∧ Z.Warmed39 U.vm ∧ U.heap = h0) (fun _ _ _ _ _ => True) (fun _ U o U' => ∃ v L, o = .returned v ∧ Q6 Z a1 h0 n0 v U'.heap L ∧ FrameEnd U o U' L ({ frames := 1, cells := 0, slots := 0, locals := 12 } : Room).cells ({ frames := 1, cells := 0, slots := 0, locals := 12 } : Room).slots) := by
  refine MetFree.of_bodySF (plainFor_of_name pn_0) hisR ?_
  intro p e s m args below meth c s₁ Bd hml0 hP hK
  obtain ⟨rfl, hZ, hh⟩ := hP
  have hx := Bd.exec
  have hby := Bd.bytes
  have hml : c.maxLocals = 1 := hml0
  have hown : s.vm.findClass "java/lang/Number" = some m.cls := findClass_of_methodNamed Bd.named
  have hnm := (name_of_methodNamed Bd.named Bd.method).1
  have X0 : Stand p l e ({ frames := 1, cells := 0, slots := 0, locals := 12 } : Room) s m #[(.ref a1)] below meth c s₁ [] 0 0 := Stand.of_body Bd
  have e0 : s₁.heap = h0 := by rw [← hh, Bd.state]; rfl
  have N0 := Fr.nil n0
  have pre0 : ∀ tgt, Steps p.tables e below (s₁.setTop (mkF m 0 #[.val (.ref a1)] [])) tgt → Steps p.tables e below (s₁.setTop (entryFrame m #[(.ref a1)] 1)) tgt := fun tgt k => castTop (ef_rm6 m a1) k
  obtain ⟨T1, X1, e1, st1⟩ := initO X0 hx hZ hown (hw _ (List.mem_of_getElem? (i := 46) rfl)) (hw _ (List.mem_of_getElem? (i := 9) rfl)) (hw _ (List.mem_of_getElem? (i := 10) rfl)) e0 (g := (mkF m 1 #[.val (.ref a1)] [(.ref a1)])) rfl (by rw [hml]; rfl) rfl (hb hby d6_1) (by decide) (W := 0) (by show 2 * 0 + _ ≤ _; exact Nat.le_of_eq rfl) (by decide)
  obtain ⟨fs, hr, hrun, hended, hW, hsame⟩ := X1.leave (v := none) (fun _ => rfl)
  refine ⟨_, _, pre0 _ ?_, hrun, hended, _, _, rfl, ?_, ⟨_, rfl⟩, hW, hsame.mono (by decide) (by decide)⟩
  · show Steps p.tables e below (s₁.setTop (mkF m 0 #[.val (.ref a1)] [])) _
    refine XS.aloadN X0.here hx rfl (hb hby d6_0) rfl rfl ?_
    show Steps p.tables e below (s₁.setTop (mkF m 1 #[.val (.ref a1)] [(.ref a1)])) _
    refine st1 _ ?_
    show Steps p.tables e below (T1.setTop (mkF m 4 #[.val (.ref a1)] [])) _
    exact X1.returnOut hx Bd.returns (hb hby d6_4) hr
  · show Q6 Z a1 h0 n0 _ T1.heap _
    rw [e1]
    exact ⟨rfl, N0, rfl⟩
theorem d5_0 : decode jdk_35_method_26_code 0 = .ok (.aload_n 0, 1) := by decide +kernel
theorem d5_1 : decode jdk_35_method_26_code 1 = .ok (.invokespecial 270, 3) := by decide +kernel
theorem pd_0 : parseMethodDescriptor "()V" = some ⟨[], none⟩ := by decide +kernel
theorem d5_4 : decode jdk_35_method_26_code 4 = .ok (.aload_n 0, 1) := by decide +kernel
theorem d5_5 : decode jdk_35_method_26_code 5 = .ok (.lload_n 1, 1) := by decide +kernel
theorem d5_6 : decode jdk_35_method_26_code 6 = .ok (.putfield 273, 3) := by decide +kernel
theorem d5_9 : decode jdk_35_method_26_code 9 = .ok (.return_, 1) := by decide +kernel
theorem pn_1 : plainName "java/lang/Long" = true := by first | (simp [plainName, overriddenIn]; done) | decide +kernel
theorem ef_rm5 (m : MethodId) (x0 : Addr) (x1 : Int64) : entryFrame m #[(.ref x0), (.long x1)] 3 = mkF m 0 #[.val (.ref x0), .val (.long x1), .second] [] := by first | (simp [entryFrame, mkF, argsToLocals, Value.category]; done) | rfl
def Q5 (Z : State) (a1 : Addr) (q1 : Int64) (h0 : Heap) (n0 : Nat) (v : Option Value) (h : Heap) (L : List Loc) : Prop := v = none ∧ Fr n0 L ∧ Keep h0 h [a1] ∧ Exa Z h a1 "java/lang/Long" ∧ Fld Z h a1 "java/lang/Long" "value" "J" (.long q1)
set_option maxHeartbeats 40000000 in
theorem rm5 (l : Launch) (Z : State) (a0 : Array Value) (hw : ∀ d ∈ tables_1, d.before a0 Z = true) (ws : List Jvm.Cond) (a1 : Addr) (q1 : Int64) (h0 : Heap) (n0 : Nat) (Z0 : n0 ≤ h0.size) (E1 : Exa Z h0 a1 "java/lang/Long") (gn_a1 : n0 ≤ a1) (F_value : Fld Z h0 a1 "java/lang/Long" "value" "J" (.long (0 : Int64))) :
    MetFree l (⟨"java/lang/Long", "<init>", "(J)V"⟩ : MethodName) (head1 (Jvm.Cond.code (⟨"java/lang/Long", "<init>", "(J)V"⟩ : MethodName) jdk_35_method_26_code 3 none :: ws) ({ frames := 2, cells := 0, slots := 0, locals := 24 } : Room)) (fun a U => a = #[(.ref a1), (.long q1)] ∧ Z.Warmed39 U.vm ∧ U.heap = h0) (fun _ _ _ _ _ => True) (fun _ U o U' => ∃ v L, o = .returned v ∧ Q5 Z a1 q1 h0 n0 v U'.heap L ∧ FrameEnd U o U' L ({ frames := 2, cells := 0, slots := 0, locals := 24 } : Room).cells ({ frames := 2, cells := 0, slots := 0, locals := 24 } : Room).slots) := by
  refine MetFree.of_bodySF (plainFor_of_name pn_1) hisR ?_
  intro p e s m args below meth c s₁ Bd hml0 hP hK
  obtain ⟨rfl, hZ, hh⟩ := hP
  have hx := Bd.exec
  have hby := Bd.bytes
  have hml : c.maxLocals = 3 := hml0
  have hown : s.vm.findClass "java/lang/Long" = some m.cls := findClass_of_methodNamed Bd.named
  have hnm := (name_of_methodNamed Bd.named Bd.method).1
  have X0 : Stand p l e ({ frames := 2, cells := 0, slots := 0, locals := 24 } : Room) s m #[(.ref a1), (.long q1)] below meth c s₁ [] 0 0 := Stand.of_body Bd
  have e0 : s₁.heap = h0 := by rw [← hh, Bd.state]; rfl
  have N0 := Fr.nil n0
  have pre0 : ∀ tgt, Steps p.tables e below (s₁.setTop (mkF m 0 #[.val (.ref a1), .val (.long q1), .second] [])) tgt → Steps p.tables e below (s₁.setTop (entryFrame m #[(.ref a1), (.long q1)] 3)) tgt := fun tgt k => castTop (ef_rm5 m a1 q1) k
  obtain ⟨_, _, ⟨T1, L1, k1, n1⟩, -, X1, ⟨Lc1, hQ1, l1, y1, z1⟩, st1⟩ := X0.specialBack hx (y := (⟨"java/lang/Number", "<init>", "()V"⟩ : MethodName)) rfl hown (mvT hZ (hw _ (List.mem_of_getElem? (i := 40) rfl))) (mvT hZ (hw _ (List.mem_of_getElem? (i := 41) rfl))) (mvT hZ (hw _ (List.mem_of_getElem? (i := 45) rfl))) (by decide) (backOf (W := 0) (rm6 l Z a0 hw [] a1  h0 n0 Z0 ) hZ (hw _ (List.mem_of_getElem? (i := 45) rfl)) (hw _ (List.mem_of_getElem? (i := 44) rfl)) (by decide) (by decide)) (g := (mkF m 1 #[.val (.ref a1), .val (.long q1), .second] [(.ref a1)])) rfl (by rw [hml]; rfl) (Steps.refl _) (a := a1) (argsL := []) (rest := []) (lenOf pd_0 rfl) rfl (by show 2 * 0 + _ ≤ _; exact Nat.le_of_eq rfl) (hb hby d5_1) (fun _ _ => ⟨rfl, e0, (by decide : 0 + 0 ≤ _), (by decide : 0 + 0 ≤ _)⟩)
  dsimp only [Pt.U, Pt.locs, Pt.cells, Pt.slots] at X1 l1 y1 z1 st1 hQ1
  subst l1 y1 z1
  obtain ⟨rfl, Nq1, e1⟩ := hQ1
  have N2 := Fr.app N0 Nq1
  obtain ⟨T3, h3, X3, e3, W3, st3⟩ := putF X1 hx hZ hown (host := "") (Or.inl (hw _ (List.mem_of_getElem? (i := 47) rfl))) Via.refl e1 F_value E1 (Or.inr ⟨(hw _ (List.mem_of_getElem? (i := 48) rfl)), rfl, hnm⟩) (hw _ (List.mem_of_getElem? (i := 35) rfl)) (ty := .long) (by decide) rfl rfl (g := (mkF m 6 #[.val (.ref a1), .val (.long q1), .second] [(.long q1), (.ref a1)])) rfl rfl (hb hby d5_6)
  have f4 := F_value.same W3
  have f5 := E1.wr W3
  have zz6 : n0 ≤ h3.size := Nat.le_trans Z0 (Keep.of_wr W3).1
  have N7 := Fr.snoc X3 N2 gn_a1
  have K8 : Keep h0 h3 [a1] := (Keep.refl h0 [a1]).wr W3 (Or.inl (List.mem_of_getElem? (i := 0) rfl))
  obtain ⟨fs, hr, hrun, hended, hW, hsame⟩ := X3.leave (v := none) (fun _ => rfl)
  refine ⟨_, _, pre0 _ ?_, hrun, hended, _, _, rfl, ?_, ⟨_, rfl⟩, hW, hsame.mono (by decide) (by decide)⟩
  · show Steps p.tables e below (s₁.setTop (mkF m 0 #[.val (.ref a1), .val (.long q1), .second] [])) _
    refine XS.aloadN X0.here hx rfl (hb hby d5_0) rfl rfl ?_
    show Steps p.tables e below (s₁.setTop (mkF m 1 #[.val (.ref a1), .val (.long q1), .second] [(.ref a1)])) _
    refine st1.trans ?_
    show Steps p.tables e below (T1.setTop (mkF m 4 #[.val (.ref a1), .val (.long q1), .second] [])) _
    refine XS.aloadN X1.here hx rfl (hb hby d5_4) rfl rfl ?_
    show Steps p.tables e below (T1.setTop (mkF m 5 #[.val (.ref a1), .val (.long q1), .second] [(.ref a1)])) _
    refine XS.lloadN X1.here hx rfl (hb hby d5_5) rfl ?_
    show Steps p.tables e below (T1.setTop (mkF m 6 #[.val (.ref a1), .val (.long q1), .second] [(.long q1), (.ref a1)])) _
    refine st3 _ ?_
    show Steps p.tables e below (T3.setTop (mkF m 9 #[.val (.ref a1), .val (.long q1), .second] [])) _
    exact X3.returnOut hx Bd.returns (hb hby d5_9) hr
  · show Q5 Z a1 q1 h0 n0 _ T3.heap _
    rw [e3]
    exact ⟨rfl, N7, K8, f5, f4⟩
theorem d3_0 : decode jdk_35_method_24_code 0 = .ok (.sipush 128, 3) := by decide +kernel
theorem d3_3 : decode jdk_35_method_24_code 3 = .ok (.istore_n 2, 1) := by decide +kernel
theorem d3_4 : decode jdk_35_method_24_code 4 = .ok (.lload_n 0, 1) := by decide +kernel
theorem d3_5 : decode jdk_35_method_24_code 5 = .ok (.ldc2_w 230, 3) := by decide +kernel
theorem d3_8 : decode jdk_35_method_24_code 8 = .ok (.lcmp, 1) := by decide +kernel
theorem d3_9 : decode jdk_35_method_24_code 9 = .ok (.ifCond .lt 22, 3) := by decide +kernel
theorem d3_12 : decode jdk_35_method_24_code 12 = .ok (.lload_n 0, 1) := by decide +kernel
theorem d3_13 : decode jdk_35_method_24_code 13 = .ok (.ldc2_w 232, 3) := by decide +kernel
theorem d3_16 : decode jdk_35_method_24_code 16 = .ok (.lcmp, 1) := by decide +kernel
theorem d3_17 : decode jdk_35_method_24_code 17 = .ok (.ifCond .gt 14, 3) := by decide +kernel
theorem d3_31 : decode jdk_35_method_24_code 31 = .ok (.new 1, 3) := by decide +kernel
theorem d3_34 : decode jdk_35_method_24_code 34 = .ok (.dup, 1) := by decide +kernel
theorem d3_35 : decode jdk_35_method_24_code 35 = .ok (.lload_n 0, 1) := by decide +kernel
theorem d3_36 : decode jdk_35_method_24_code 36 = .ok (.invokespecial 240, 3) := by decide +kernel
theorem pd_1 : parseMethodDescriptor "(J)V" = some ⟨[.long], none⟩ := by decide +kernel
theorem d3_39 : decode jdk_35_method_24_code 39 = .ok (.areturn, 1) := by decide +kernel
theorem d3_20 : decode jdk_35_method_24_code 20 = .ok (.getstatic 234, 3) := by decide +kernel
theorem d3_23 : decode jdk_35_method_24_code 23 = .ok (.lload_n 0, 1) := by decide +kernel
theorem d3_24 : decode jdk_35_method_24_code 24 = .ok (.l2i, 1) := by decide +kernel
theorem d3_25 : decode jdk_35_method_24_code 25 = .ok (.sipush 128, 3) := by decide +kernel
theorem d3_28 : decode jdk_35_method_24_code 28 = .ok (.iadd, 1) := by decide +kernel
theorem d3_29 : decode jdk_35_method_24_code 29 = .ok (.aaload, 1) := by decide +kernel
theorem d3_30 : decode jdk_35_method_24_code 30 = .ok (.areturn, 1) := by decide +kernel
theorem ef_rm3 (m : MethodId) (x0 : Int64) : entryFrame m #[(.long x0)] 3 = mkF m 0 #[.val (.long x0), .second, .unset] [] := by first | (simp [entryFrame, mkF, argsToLocals, Value.category]; done) | rfl
def Q3 (Z : State) (q1 : Int64) (ca : Addr) (h0 : Heap) (n0 : Nat) (v : Option Value) (h : Heap) (L : List Loc) : Prop := ∃ b, v = some (.ref b) ∧ Fr n0 L ∧ Keep h0 h [] ∧ Exa Z h b "java/lang/Long"
set_option maxHeartbeats 40000000 in
theorem rm3 (l : Launch) (Z : State) (a0 : Array Value) (hw : ∀ d ∈ tables_1, d.before a0 Z = true) (ws : List Jvm.Cond) (q1 : Int64) (ca : Addr) (h0 : Heap) (n0 : Nat) (Z0 : n0 ≤ h0.size) (S0 : Sta Z h0 "java/lang/Long$LongCache" "cache" "[Ljava/lang/Long;" (.ref ca)) (CC : own_cache Z h0 ca) :
    MetFree l (⟨"java/lang/Long", "valueOf", "(J)Ljava/lang/Long;"⟩ : MethodName) (head1 (Jvm.Cond.code (⟨"java/lang/Long", "valueOf", "(J)Ljava/lang/Long;"⟩ : MethodName) jdk_35_method_24_code 3 (some (.object "java/lang/Long")) :: ws) ({ frames := 3, cells := 1, slots := 1, locals := 39 } : Room)) (fun a U => a = #[(.long q1)] ∧ Z.Warmed39 U.vm ∧ U.heap = h0) (fun _ _ _ _ _ => True) (fun _ U o U' => ∃ v L, o = .returned v ∧ Q3 Z q1 ca h0 n0 v U'.heap L ∧ FrameEnd U o U' L ({ frames := 3, cells := 1, slots := 1, locals := 39 } : Room).cells ({ frames := 3, cells := 1, slots := 1, locals := 39 } : Room).slots) := by
  refine MetFree.of_bodySF (plainFor_of_name pn_1) hisR ?_
  intro p e s m args below meth c s₁ Bd hml0 hP hK
  obtain ⟨rfl, hZ, hh⟩ := hP
  have hx := Bd.exec
  have hby := Bd.bytes
  have hml : c.maxLocals = 3 := hml0
  have hown : s.vm.findClass "java/lang/Long" = some m.cls := findClass_of_methodNamed Bd.named
  have hnm := (name_of_methodNamed Bd.named Bd.method).1
  have X0 : Stand p l e ({ frames := 3, cells := 1, slots := 1, locals := 39 } : Room) s m #[(.long q1)] below meth c s₁ [] 0 0 := Stand.of_body Bd
  have e0 : s₁.heap = h0 := by rw [← hh, Bd.state]; rfl
  have N0 := Fr.nil n0
  have pre0 : ∀ tgt, Steps p.tables e below (s₁.setTop (mkF m 0 #[.val (.long q1), .second, .unset] [])) tgt → Steps p.tables e below (s₁.setTop (entryFrame m #[(.long q1)] 3)) tgt := fun tgt k => castTop (ef_rm3 m q1) k
  have pre1 : ∀ tgt, Steps p.tables e below (s₁.setTop (mkF m 9 #[.val (.long q1), .second, .val (.int (128 : Int32))] [(.int (lcmpW q1 (-128 : Int64)))])) tgt → Steps p.tables e below (s₁.setTop (entryFrame m #[(.long q1)] 3)) tgt := fun tgt kt => pre0 _ (by
    show Steps p.tables e below (s₁.setTop (mkF m 0 #[.val (.long q1), .second, .unset] [])) _
    refine XS.sipush X0.here hx rfl (hb hby d3_0) ?_
    show Steps p.tables e below (s₁.setTop (mkF m 3 #[.val (.long q1), .second, .unset] [(.int (128 : Int32))])) _
    refine XS.istoreN X0.here hx rfl (hb hby d3_3) rfl (l' := #[.val (.long q1), .second, .val (.int (128 : Int32))]) rfl ?_
    show Steps p.tables e below (s₁.setTop (mkF m 4 #[.val (.long q1), .second, .val (.int (128 : Int32))] [])) _
    refine XS.lloadN X0.here hx rfl (hb hby d3_4) rfl ?_
    show Steps p.tables e below (s₁.setTop (mkF m 5 #[.val (.long q1), .second, .val (.int (128 : Int32))] [(.long q1)])) _
    refine X0.ldc2Long hx hown (mvT hZ (hw _ (List.mem_of_getElem? (i := 20) rfl))) (g := (mkF m 5 #[.val (.long q1), .second, .val (.int (128 : Int32))] [(.long q1)])) rfl (hb hby d3_5) _ ?_
    show Steps p.tables e below (s₁.setTop (mkF m 8 #[.val (.long q1), .second, .val (.int (128 : Int32))] [(.long (-128 : Int64)), (.long q1)])) _
    refine XS.lcmp X0.here hx rfl (hb hby d3_8) rfl ?_
    exact kt)
  by_cases hA : (lcmpW q1 (-128 : Int64)) < (0 : Int32)
  · obtain ⟨T3, h3, X3, e3, E3, A3, D3, -, st3⟩ := newO X0 hx hZ hown (hw _ (List.mem_of_getElem? (i := 34) rfl)) (hw _ (List.mem_of_getElem? (i := 35) rfl)) (hw _ (List.mem_of_getElem? (i := 18) rfl)) e0 (g := (mkF m 31 #[.val (.long q1), .second, .val (.int (128 : Int32))] [])) rfl (hb hby d3_31) (by decide) (by decide)
    obtain ⟨b3, g3⟩ : ∃ z, z = h0.size := ⟨_, rfl⟩
    rw [← g3] at A3 D3 st3
    have f4 := S0.ext E3
    have gn_b3 : n0 ≤ b3 := Nat.le_trans Z0 (Nat.le_of_eq g3.symm)
    have zz5 : n0 ≤ h3.size := Nat.le_trans Z0 E3.1
    have sz_b3 : h0.size ≤ b3 := Nat.le_trans (Keep.refl h0 []).1 (Nat.le_of_eq g3.symm)
    have K6 : Keep h0 h3 [] := (Keep.refl h0 []).ext E3
    have f7 : Fld Z h3 b3 "java/lang/Long" "value" "J" (.long (0 : Int64)) := D3 (Or.inr (hw _ (List.mem_of_getElem? (i := 48) rfl))) (ty := .long) (by decide)
    obtain ⟨_, _, ⟨T8, L8, k8, n8⟩, -, X8, ⟨Lc8, hQ8, l8, y8, z8⟩, st8⟩ := X3.specialBack hx (y := (⟨"java/lang/Long", "<init>", "(J)V"⟩ : MethodName)) rfl hown (mvT hZ (hw _ (List.mem_of_getElem? (i := 36) rfl))) (mvT hZ (hw _ (List.mem_of_getElem? (i := 37) rfl))) (mvT hZ (hw _ (List.mem_of_getElem? (i := 39) rfl))) (by decide) (backOf (W := 1) (rm5 l Z a0 hw [] b3 q1 h3 n0 zz5 A3 gn_b3 f7 ) hZ (hw _ (List.mem_of_getElem? (i := 39) rfl)) (hw _ (List.mem_of_getElem? (i := 18) rfl)) (by decide) (by decide)) (g := (mkF m 36 #[.val (.long q1), .second, .val (.int (128 : Int32))] [(.long q1), (.ref b3), (.ref b3)])) rfl (by rw [hml]; rfl) (Steps.refl _) (a := b3) (argsL := [(.long q1)]) (rest := [(.ref b3)]) (lenOf pd_1 rfl) rfl (by show 2 * 0 + _ ≤ _; exact Nat.le_of_eq rfl) (hb hby d3_36) (fun _ _ => ⟨rfl, e3, (by decide : 1 + 0 ≤ _), (by decide : 1 + 0 ≤ _)⟩)
    dsimp only [Pt.U, Pt.locs, Pt.cells, Pt.slots] at X8 l8 y8 z8 st8 hQ8
    subst l8 y8 z8
    obtain ⟨rfl, Nq8, K8, f10, f9⟩ := hQ8
    have f11 := own_sta_keep f4 A3 K8
    have zz12 : n0 ≤ T8.heap.size := Nat.le_trans zz5 K8.1
    have K13 : Keep h0 T8.heap [] := Keep.trans K6 K8 (fun x hx => Or.inr (List.mem_singleton.mp hx ▸ sz_b3))
    have N14 := Fr.app N0 Nq8
    obtain ⟨fs, hr, hrun, hended, hW, hsame⟩ := X8.leave (v := some (.ref b3)) (fun h => by rw [Bd.returns] at h; cases h)
    refine ⟨_, _, pre1 _ ?_, hrun, hended, _, _, rfl, ?_, ⟨_, rfl⟩, hW, hsame.mono (by decide) (by decide)⟩
    · show Steps p.tables e below (s₁.setTop (mkF m 9 #[.val (.long q1), .second, .val (.int (128 : Int32))] [(.int (lcmpW q1 (-128 : Int64)))])) _
      refine XS.ifYes X0.here hx rfl (pc0 := 9) (pc' := 31) rfl (hb hby d3_9) rfl ((if0 _ _).trans (tlt hA).1) (by decide) (by decide) ?_
      show Steps p.tables e below (s₁.setTop (mkF m 31 #[.val (.long q1), .second, .val (.int (128 : Int32))] [])) _
      refine st3 _ ?_
      show Steps p.tables e below (T3.setTop (mkF m 34 #[.val (.long q1), .second, .val (.int (128 : Int32))] [(.ref b3)])) _
      refine XS.dup X3.here hx rfl (hb hby d3_34) rfl rfl ?_
      show Steps p.tables e below (T3.setTop (mkF m 35 #[.val (.long q1), .second, .val (.int (128 : Int32))] [(.ref b3), (.ref b3)])) _
      refine XS.lloadN X3.here hx rfl (hb hby d3_35) rfl ?_
      show Steps p.tables e below (T3.setTop (mkF m 36 #[.val (.long q1), .second, .val (.int (128 : Int32))] [(.long q1), (.ref b3), (.ref b3)])) _
      refine st8.trans ?_
      show Steps p.tables e below (T8.setTop (mkF m 39 #[.val (.long q1), .second, .val (.int (128 : Int32))] [(.ref b3)])) _
      exact retOut X8 hx Bd.returns rfl (Or.inr (Or.inr (Or.inr (Or.inr ⟨rfl, rfl, rfl⟩)))) (hb hby d3_39) hr
    · show Q3 Z q1 ca h0 n0 _ T8.heap _
      exact ⟨_, rfl, N14, K13, f10⟩
  · have pre2 : ∀ tgt, Steps p.tables e below (s₁.setTop (mkF m 17 #[.val (.long q1), .second, .val (.int (128 : Int32))] [(.int (lcmpW q1 (127 : Int64)))])) tgt → Steps p.tables e below (s₁.setTop (entryFrame m #[(.long q1)] 3)) tgt := fun tgt kt => pre1 _ (by
      show Steps p.tables e below (s₁.setTop (mkF m 9 #[.val (.long q1), .second, .val (.int (128 : Int32))] [(.int (lcmpW q1 (-128 : Int64)))])) _
      refine XS.ifNo X0.here hx rfl (hb hby d3_9) rfl ((if0 _ _).trans (flt hA).1) ?_
      show Steps p.tables e below (s₁.setTop (mkF m 12 #[.val (.long q1), .second, .val (.int (128 : Int32))] [])) _
      refine XS.lloadN X0.here hx rfl (hb hby d3_12) rfl ?_
      show Steps p.tables e below (s₁.setTop (mkF m 13 #[.val (.long q1), .second, .val (.int (128 : Int32))] [(.long q1)])) _
      refine X0.ldc2Long hx hown (mvT hZ (hw _ (List.mem_of_getElem? (i := 21) rfl))) (g := (mkF m 13 #[.val (.long q1), .second, .val (.int (128 : Int32))] [(.long q1)])) rfl (hb hby d3_13) _ ?_
      show Steps p.tables e below (s₁.setTop (mkF m 16 #[.val (.long q1), .second, .val (.int (128 : Int32))] [(.long (127 : Int64)), (.long q1)])) _
      refine XS.lcmp X0.here hx rfl (hb hby d3_16) rfl ?_
      exact kt)
    by_cases hB : (0 : Int32) < (lcmpW q1 (127 : Int64))
    · obtain ⟨T15, h15, X15, e15, E15, A15, D15, -, st15⟩ := newO X0 hx hZ hown (hw _ (List.mem_of_getElem? (i := 34) rfl)) (hw _ (List.mem_of_getElem? (i := 35) rfl)) (hw _ (List.mem_of_getElem? (i := 18) rfl)) e0 (g := (mkF m 31 #[.val (.long q1), .second, .val (.int (128 : Int32))] [])) rfl (hb hby d3_31) (by decide) (by decide)
      obtain ⟨b15, g15⟩ : ∃ z, z = h0.size := ⟨_, rfl⟩
      rw [← g15] at A15 D15 st15
      have f16 := S0.ext E15
      have gn_b15 : n0 ≤ b15 := Nat.le_trans Z0 (Nat.le_of_eq g15.symm)
      have zz17 : n0 ≤ h15.size := Nat.le_trans Z0 E15.1
      have sz_b15 : h0.size ≤ b15 := Nat.le_trans (Keep.refl h0 []).1 (Nat.le_of_eq g15.symm)
      have K18 : Keep h0 h15 [] := (Keep.refl h0 []).ext E15
      have f19 : Fld Z h15 b15 "java/lang/Long" "value" "J" (.long (0 : Int64)) := D15 (Or.inr (hw _ (List.mem_of_getElem? (i := 48) rfl))) (ty := .long) (by decide)
      obtain ⟨_, _, ⟨T20, L20, k20, n20⟩, -, X20, ⟨Lc20, hQ20, l20, y20, z20⟩, st20⟩ := X15.specialBack hx (y := (⟨"java/lang/Long", "<init>", "(J)V"⟩ : MethodName)) rfl hown (mvT hZ (hw _ (List.mem_of_getElem? (i := 36) rfl))) (mvT hZ (hw _ (List.mem_of_getElem? (i := 37) rfl))) (mvT hZ (hw _ (List.mem_of_getElem? (i := 39) rfl))) (by decide) (backOf (W := 1) (rm5 l Z a0 hw [] b15 q1 h15 n0 zz17 A15 gn_b15 f19 ) hZ (hw _ (List.mem_of_getElem? (i := 39) rfl)) (hw _ (List.mem_of_getElem? (i := 18) rfl)) (by decide) (by decide)) (g := (mkF m 36 #[.val (.long q1), .second, .val (.int (128 : Int32))] [(.long q1), (.ref b15), (.ref b15)])) rfl (by rw [hml]; rfl) (Steps.refl _) (a := b15) (argsL := [(.long q1)]) (rest := [(.ref b15)]) (lenOf pd_1 rfl) rfl (by show 2 * 0 + _ ≤ _; exact Nat.le_of_eq rfl) (hb hby d3_36) (fun _ _ => ⟨rfl, e15, (by decide : 1 + 0 ≤ _), (by decide : 1 + 0 ≤ _)⟩)
      dsimp only [Pt.U, Pt.locs, Pt.cells, Pt.slots] at X20 l20 y20 z20 st20 hQ20
      subst l20 y20 z20
      obtain ⟨rfl, Nq20, K20, f22, f21⟩ := hQ20
      have f23 := own_sta_keep f16 A15 K20
      have zz24 : n0 ≤ T20.heap.size := Nat.le_trans zz17 K20.1
      have K25 : Keep h0 T20.heap [] := Keep.trans K18 K20 (fun x hx => Or.inr (List.mem_singleton.mp hx ▸ sz_b15))
      have N26 := Fr.app N0 Nq20
      obtain ⟨fs, hr, hrun, hended, hW, hsame⟩ := X20.leave (v := some (.ref b15)) (fun h => by rw [Bd.returns] at h; cases h)
      refine ⟨_, _, pre2 _ ?_, hrun, hended, _, _, rfl, ?_, ⟨_, rfl⟩, hW, hsame.mono (by decide) (by decide)⟩
      · show Steps p.tables e below (s₁.setTop (mkF m 17 #[.val (.long q1), .second, .val (.int (128 : Int32))] [(.int (lcmpW q1 (127 : Int64)))])) _
        refine XS.ifYes X0.here hx rfl (pc0 := 17) (pc' := 31) rfl (hb hby d3_17) rfl ((if0 _ _).trans (tlt hB).2.2.1) (by decide) (by decide) ?_
        show Steps p.tables e below (s₁.setTop (mkF m 31 #[.val (.long q1), .second, .val (.int (128 : Int32))] [])) _
        refine st15 _ ?_
        show Steps p.tables e below (T15.setTop (mkF m 34 #[.val (.long q1), .second, .val (.int (128 : Int32))] [(.ref b15)])) _
        refine XS.dup X15.here hx rfl (hb hby d3_34) rfl rfl ?_
        show Steps p.tables e below (T15.setTop (mkF m 35 #[.val (.long q1), .second, .val (.int (128 : Int32))] [(.ref b15), (.ref b15)])) _
        refine XS.lloadN X15.here hx rfl (hb hby d3_35) rfl ?_
        show Steps p.tables e below (T15.setTop (mkF m 36 #[.val (.long q1), .second, .val (.int (128 : Int32))] [(.long q1), (.ref b15), (.ref b15)])) _
        refine st20.trans ?_
        show Steps p.tables e below (T20.setTop (mkF m 39 #[.val (.long q1), .second, .val (.int (128 : Int32))] [(.ref b15)])) _
        exact retOut X20 hx Bd.returns rfl (Or.inr (Or.inr (Or.inr (Or.inr ⟨rfl, rfl, rfl⟩)))) (hb hby d3_39) hr
      · show Q3 Z q1 ca h0 n0 _ T20.heap _
        exact ⟨_, rfl, N26, K25, f22⟩
    · obtain ⟨T27, X27, e27, st27⟩ := getS2 X0 hx hZ hown (host := "") (Or.inl (hw _ (List.mem_of_getElem? (i := 22) rfl))) Via.refl e0 S0 (g := (mkF m 20 #[.val (.long q1), .second, .val (.int (128 : Int32))] [])) rfl (hb hby d3_20)
      obtain ⟨cl, Ar, sz, HH⟩ := CC
      have hs := own_slot hA hB
      obtain ⟨eb, hat, hE⟩ := HH _ hs.2
      have hin : ¬ (((q1.toInt32) + (128 : Int32)) < 0 ∨ cl.slots.size ≤ (((q1.toInt32) + (128 : Int32))).toNatClampNeg) := fun q => q.elim hs.1 (fun r => absurd hs.2 (by rw [← sz]; exact Nat.not_lt.mpr r))
      obtain ⟨fs, hr, hrun, hended, hW, hsame⟩ := X27.leave (v := some (.ref eb)) (fun h => by rw [Bd.returns] at h; cases h)
      refine ⟨_, _, pre2 _ ?_, hrun, hended, _, _, rfl, ?_, ⟨_, rfl⟩, hW, hsame.mono (by decide) (by decide)⟩
      · show Steps p.tables e below (s₁.setTop (mkF m 17 #[.val (.long q1), .second, .val (.int (128 : Int32))] [(.int (lcmpW q1 (127 : Int64)))])) _
        refine XS.ifNo X0.here hx rfl (hb hby d3_17) rfl ((if0 _ _).trans (flt hB).2.2.1) ?_
        show Steps p.tables e below (s₁.setTop (mkF m 20 #[.val (.long q1), .second, .val (.int (128 : Int32))] [])) _
        refine st27 _ ?_
        show Steps p.tables e below (T27.setTop (mkF m 23 #[.val (.long q1), .second, .val (.int (128 : Int32))] [(.ref ca)])) _
        refine XS.lloadN X27.here hx rfl (hb hby d3_23) rfl ?_
        show Steps p.tables e below (T27.setTop (mkF m 24 #[.val (.long q1), .second, .val (.int (128 : Int32))] [(.long q1), (.ref ca)])) _
        refine XS.l2i X27.here hx rfl (hb hby d3_24) rfl ?_
        show Steps p.tables e below (T27.setTop (mkF m 25 #[.val (.long q1), .second, .val (.int (128 : Int32))] [(.int (q1.toInt32)), (.ref ca)])) _
        refine XS.sipush X27.here hx rfl (hb hby d3_25) ?_
        show Steps p.tables e below (T27.setTop (mkF m 28 #[.val (.long q1), .second, .val (.int (128 : Int32))] [(.int (128 : Int32)), (.int (q1.toInt32)), (.ref ca)])) _
        refine XS.iadd X27.here hx rfl (hb hby d3_28) rfl ?_
        show Steps p.tables e below (T27.setTop (mkF m 29 #[.val (.long q1), .second, .val (.int (128 : Int32))] [(.int ((q1.toInt32) + (128 : Int32))), (.ref ca)])) _
        refine X27.aaload hx (j := ((q1.toInt32) + (128 : Int32))) (v := (.ref eb)) (by rw [e27]; exact Ar.1) (State.isArrayOf_alike hZ.alike Ar.2.1) rfl Ar.2.2 hin hat (g := (mkF m 29 #[.val (.long q1), .second, .val (.int (128 : Int32))] [(.int ((q1.toInt32) + (128 : Int32))), (.ref ca)])) rfl rfl (hb hby d3_29) _ ?_
        show Steps p.tables e below (T27.setTop (mkF m 30 #[.val (.long q1), .second, .val (.int (128 : Int32))] [(.ref eb)])) _
        exact retOut X27 hx Bd.returns rfl (Or.inr (Or.inr (Or.inr (Or.inr ⟨rfl, rfl, rfl⟩)))) (hb hby d3_30) hr
      · show Q3 Z q1 ca h0 n0 _ T27.heap _
        rw [e27]
        exact ⟨_, rfl, N0, (Keep.refl h0 []), hE⟩
theorem d1_0 : decode prog_7_method_2_code 0 = .ok (.aload_n 0, 1) := by decide +kernel
theorem d1_1 : decode prog_7_method_2_code 1 = .ok (.invokespecial 9, 3) := by decide +kernel
theorem d1_4 : decode prog_7_method_2_code 4 = .ok (.lload_n 1, 1) := by decide +kernel
theorem d1_5 : decode prog_7_method_2_code 5 = .ok (.ldc2_w 3, 3) := by decide +kernel
theorem d1_8 : decode prog_7_method_2_code 8 = .ok (.lcmp, 1) := by decide +kernel
theorem d1_9 : decode prog_7_method_2_code 9 = .ok (.ifCond .ne 12, 3) := by decide +kernel
theorem d1_12 : decode prog_7_method_2_code 12 = .ok (.iload_n 3, 1) := by decide +kernel
theorem d1_13 : decode prog_7_method_2_code 13 = .ok (.iconst (-1), 1) := by decide +kernel
theorem d1_14 : decode prog_7_method_2_code 14 = .ok (.if_icmp .ne 7, 3) := by decide +kernel
theorem d1_17 : decode prog_7_method_2_code 17 = .ok (.iconst 1, 1) := by decide +kernel
theorem d1_18 : decode prog_7_method_2_code 18 = .ok (.goto 4, 3) := by decide +kernel
theorem d1_22 : decode prog_7_method_2_code 22 = .ok (.istore 4, 2) := by decide +kernel
theorem d1_24 : decode prog_7_method_2_code 24 = .ok (.iload 4, 2) := by decide +kernel
theorem d1_26 : decode prog_7_method_2_code 26 = .ok (.ifCond .ne 28, 3) := by decide +kernel
theorem d1_54 : decode prog_7_method_2_code 54 = .ok (.aload_n 0, 1) := by decide +kernel
theorem d1_55 : decode prog_7_method_2_code 55 = .ok (.lload_n 1, 1) := by decide +kernel
theorem d1_56 : decode prog_7_method_2_code 56 = .ok (.putfield 23, 3) := by decide +kernel
theorem d1_59 : decode prog_7_method_2_code 59 = .ok (.aload_n 0, 1) := by decide +kernel
theorem d1_60 : decode prog_7_method_2_code 60 = .ok (.iload_n 3, 1) := by decide +kernel
theorem d1_61 : decode prog_7_method_2_code 61 = .ok (.putfield 27, 3) := by decide +kernel
theorem d1_64 : decode prog_7_method_2_code 64 = .ok (.return_, 1) := by decide +kernel
theorem d1_21 : decode prog_7_method_2_code 21 = .ok (.iconst 0, 1) := by decide +kernel
theorem d1_29 : decode prog_7_method_2_code 29 = .ok (.lload_n 1, 1) := by decide +kernel
theorem d1_30 : decode prog_7_method_2_code 30 = .ok (.lconst 0, 1) := by decide +kernel
theorem d1_31 : decode prog_7_method_2_code 31 = .ok (.lcmp, 1) := by decide +kernel
theorem d1_32 : decode prog_7_method_2_code 32 = .ok (.ifCond .lt 7, 3) := by decide +kernel
theorem d1_35 : decode prog_7_method_2_code 35 = .ok (.iload_n 3, 1) := by decide +kernel
theorem d1_36 : decode prog_7_method_2_code 36 = .ok (.ifCond .ge 18, 3) := by decide +kernel
theorem pn_2 : plainName "com/example/tidy_commit/tidycommit/client/PreparedTxnState" = true := by first | (simp [plainName, overriddenIn]; done) | decide +kernel
theorem ef_rm1 (m : MethodId) (x0 : Addr) (x1 : Int64) (x2 : Int32) : entryFrame m #[(.ref x0), (.long x1), (.int x2)] 5 = mkF m 0 #[.val (.ref x0), .val (.long x1), .second, .val (.int x2), .unset] [] := by first | (simp [entryFrame, mkF, argsToLocals, Value.category]; done) | rfl
def Q1 (Z : State) (a1 : Addr) (q1 : Int64) (p1 : Int32) (h0 : Heap) (n0 : Nat) (v : Option Value) (h : Heap) (L : List Loc) : Prop := v = none ∧ Fr n0 L ∧ Keep h0 h [a1] ∧ Exa Z h a1 "com/example/tidy_commit/tidycommit/client/PreparedTxnState" ∧ Fld Z h a1 "com/example/tidy_commit/tidycommit/client/PreparedTxnState" "producerId" "J" (.long q1) ∧ Fld Z h a1 "com/example/tidy_commit/tidycommit/client/PreparedTxnState" "epoch" "S" (.int (nar .short p1))
set_option maxHeartbeats 40000000 in
theorem rm1 (l : Launch) (Z : State) (a0 : Array Value) (hw : ∀ d ∈ tables_1, d.before a0 Z = true) (ws : List Jvm.Cond) (a1 : Addr) (q1 : Int64) (p1 : Int32) (h0 : Heap) (n0 : Nat) (Z0 : n0 ≤ h0.size) (E1 : Exa Z h0 a1 "com/example/tidy_commit/tidycommit/client/PreparedTxnState") (gn_a1 : n0 ≤ a1) (F_producerId : Fld Z h0 a1 "com/example/tidy_commit/tidycommit/client/PreparedTxnState" "producerId" "J" (.long (0 : Int64))) (F_epoch : Fld Z h0 a1 "com/example/tidy_commit/tidycommit/client/PreparedTxnState" "epoch" "S" (.int (0 : Int32))) (ho : own_ok q1 p1) :
    MetFree l (⟨"com/example/tidy_commit/tidycommit/client/PreparedTxnState", "<init>", "(JS)V"⟩ : MethodName) (head1 (Jvm.Cond.code (⟨"com/example/tidy_commit/tidycommit/client/PreparedTxnState", "<init>", "(JS)V"⟩ : MethodName) prog_7_method_2_code 5 none :: ws) ({ frames := 1, cells := 0, slots := 0, locals := 12 } : Room)) (fun a U => a = #[(.ref a1), (.long q1), (.int p1)] ∧ Z.Warmed39 U.vm ∧ U.heap = h0) (fun _ _ _ _ _ => True) (fun _ U o U' => ∃ v L, o = .returned v ∧ Q1 Z a1 q1 p1 h0 n0 v U'.heap L ∧ FrameEnd U o U' L ({ frames := 1, cells := 0, slots := 0, locals := 12 } : Room).cells ({ frames := 1, cells := 0, slots := 0, locals := 12 } : Room).slots) := by
  refine MetFree.of_bodySF (plainFor_of_name pn_2) hisR ?_
  intro p e s m args below meth c s₁ Bd hml0 hP hK
  obtain ⟨rfl, hZ, hh⟩ := hP
  have hx := Bd.exec
  have hby := Bd.bytes
  have hml : c.maxLocals = 5 := hml0
  have hown : s.vm.findClass "com/example/tidy_commit/tidycommit/client/PreparedTxnState" = some m.cls := findClass_of_methodNamed Bd.named
  have hnm := (name_of_methodNamed Bd.named Bd.method).1
  have X0 : Stand p l e ({ frames := 1, cells := 0, slots := 0, locals := 12 } : Room) s m #[(.ref a1), (.long q1), (.int p1)] below meth c s₁ [] 0 0 := Stand.of_body Bd
  have e0 : s₁.heap = h0 := by rw [← hh, Bd.state]; rfl
  have N0 := Fr.nil n0
  have pre0 : ∀ tgt, Steps p.tables e below (s₁.setTop (mkF m 0 #[.val (.ref a1), .val (.long q1), .second, .val (.int p1), .unset] [])) tgt → Steps p.tables e below (s₁.setTop (entryFrame m #[(.ref a1), (.long q1), (.int p1)] 5)) tgt := fun tgt k => castTop (ef_rm1 m a1 q1 p1) k
  rcases ho with ⟨ho1, ho2⟩ | ⟨ho1, ho2, ho3⟩
  · obtain ⟨T1, X1, e1, st1⟩ := initO X0 hx hZ hown (hw _ (List.mem_of_getElem? (i := 8) rfl)) (hw _ (List.mem_of_getElem? (i := 9) rfl)) (hw _ (List.mem_of_getElem? (i := 10) rfl)) e0 (g := (mkF m 1 #[.val (.ref a1), .val (.long q1), .second, .val (.int p1), .unset] [(.ref a1)])) rfl (by rw [hml]; rfl) rfl (hb hby d1_1) (by decide) (W := 0) (by show 2 * 0 + _ ≤ _; exact Nat.le_of_eq rfl) (by decide)
    obtain ⟨T2, h2, X2, e2, W2, st2⟩ := putF X1 hx hZ hown (host := "") (Or.inl (hw _ (List.mem_of_getElem? (i := 12) rfl))) Via.refl e1 F_producerId E1 (Or.inr ⟨(hw _ (List.mem_of_getElem? (i := 13) rfl)), rfl, hnm⟩) (hw _ (List.mem_of_getElem? (i := 3) rfl)) (ty := .long) (by decide) rfl rfl (g := (mkF m 56 #[.val (.ref a1), .val (.long q1), .second, .val (.int p1), .val (.int (1 : Int32))] [(.long q1), (.ref a1)])) rfl rfl (hb hby d1_56)
    have f3 := F_producerId.same W2
    have f4 := E1.wr W2
    have f5 := F_epoch.other W2 (Or.inr (slot_ne (Or.inr (hw _ (List.mem_of_getElem? (i := 15) rfl))) (Or.inr (hw _ (List.mem_of_getElem? (i := 13) rfl))) (by decide) (t := .short) (t' := .long) (by decide) (by decide)))
    have zz6 : n0 ≤ h2.size := Nat.le_trans Z0 (Keep.of_wr W2).1
    have N7 := Fr.snoc X2 N0 gn_a1
    have K8 : Keep h0 h2 [a1] := (Keep.refl h0 [a1]).wr W2 (Or.inl (List.mem_of_getElem? (i := 0) rfl))
    obtain ⟨T9, h9, X9, e9, W9, st9⟩ := putFN X2 hx hZ hown (hw _ (List.mem_of_getElem? (i := 14) rfl)) Via.refl e2 f5 f4 (Or.inr ⟨(hw _ (List.mem_of_getElem? (i := 15) rfl)), rfl, hnm⟩) (hw _ (List.mem_of_getElem? (i := 3) rfl)) (ty := .short) (v' := (.int (nar .short p1))) (by decide) rfl (fits_nar_short _) (g := (mkF m 61 #[.val (.ref a1), .val (.long q1), .second, .val (.int p1), .val (.int (1 : Int32))] [(.int p1), (.ref a1)])) rfl rfl (hb hby d1_61)
    have f10 := f5.same W9
    have f11 := f4.wr W9
    have f12 := f3.other W9 (Or.inr (slot_ne (Or.inr (hw _ (List.mem_of_getElem? (i := 13) rfl))) (Or.inr (hw _ (List.mem_of_getElem? (i := 15) rfl))) (by decide) (t := .long) (t' := .short) (by decide) (by decide)))
    have zz13 : n0 ≤ h9.size := Nat.le_trans zz6 (Keep.of_wr W9).1
    have N14 := Fr.snoc X9 N7 gn_a1
    have K15 : Keep h0 h9 [a1] := K8.wr W9 (Or.inl (List.mem_of_getElem? (i := 0) rfl))
    obtain ⟨fs, hr, hrun, hended, hW, hsame⟩ := X9.leave (v := none) (fun _ => rfl)
    refine ⟨_, _, pre0 _ ?_, hrun, hended, _, _, rfl, ?_, ⟨_, rfl⟩, hW, hsame.mono (by decide) (by decide)⟩
    · show Steps p.tables e below (s₁.setTop (mkF m 0 #[.val (.ref a1), .val (.long q1), .second, .val (.int p1), .unset] [])) _
      refine XS.aloadN X0.here hx rfl (hb hby d1_0) rfl rfl ?_
      show Steps p.tables e below (s₁.setTop (mkF m 1 #[.val (.ref a1), .val (.long q1), .second, .val (.int p1), .unset] [(.ref a1)])) _
      refine st1 _ ?_
      show Steps p.tables e below (T1.setTop (mkF m 4 #[.val (.ref a1), .val (.long q1), .second, .val (.int p1), .unset] [])) _
      refine XS.lloadN X1.here hx rfl (hb hby d1_4) rfl ?_
      show Steps p.tables e below (T1.setTop (mkF m 5 #[.val (.ref a1), .val (.long q1), .second, .val (.int p1), .unset] [(.long q1)])) _
      refine X1.ldc2Long hx hown (mvT hZ (hw _ (List.mem_of_getElem? (i := 11) rfl))) (g := (mkF m 5 #[.val (.ref a1), .val (.long q1), .second, .val (.int p1), .unset] [(.long q1)])) rfl (hb hby d1_5) _ ?_
      show Steps p.tables e below (T1.setTop (mkF m 8 #[.val (.ref a1), .val (.long q1), .second, .val (.int p1), .unset] [(.long (-1 : Int64)), (.long q1)])) _
      refine XS.lcmp X1.here hx rfl (hb hby d1_8) rfl ?_
      show Steps p.tables e below (T1.setTop (mkF m 9 #[.val (.ref a1), .val (.long q1), .second, .val (.int p1), .unset] [(.int (lcmpW q1 (-1 : Int64)))])) _
      refine XS.ifNo X1.here hx rfl (hb hby d1_9) rfl ((if0 _ _).trans (teq ((own_lc3 _ _).2.2.mpr ho1)).2) ?_
      show Steps p.tables e below (T1.setTop (mkF m 12 #[.val (.ref a1), .val (.long q1), .second, .val (.int p1), .unset] [])) _
      refine XS.iloadN X1.here hx rfl (hb hby d1_12) rfl ?_
      show Steps p.tables e below (T1.setTop (mkF m 13 #[.val (.ref a1), .val (.long q1), .second, .val (.int p1), .unset] [(.int p1)])) _
      refine XS.iconst X1.here hx rfl (hb hby d1_13) ?_
      show Steps p.tables e below (T1.setTop (mkF m 14 #[.val (.ref a1), .val (.long q1), .second, .val (.int p1), .unset] [(.int (-1 : Int32)), (.int p1)])) _
      refine XS.icmpNo X1.here hx rfl (hb hby d1_14) rfl (teq ho2).2 ?_
      show Steps p.tables e below (T1.setTop (mkF m 17 #[.val (.ref a1), .val (.long q1), .second, .val (.int p1), .unset] [])) _
      refine XS.iconst X1.here hx rfl (hb hby d1_17) ?_
      show Steps p.tables e below (T1.setTop (mkF m 18 #[.val (.ref a1), .val (.long q1), .second, .val (.int p1), .unset] [(.int (1 : Int32))])) _
      refine XS.goto X1.here hx rfl (pc0 := 18) (pc' := 22) rfl (hb hby d1_18) (by decide) (by decide) ?_
      show Steps p.tables e below (T1.setTop (mkF m 22 #[.val (.ref a1), .val (.long q1), .second, .val (.int p1), .unset] [(.int (1 : Int32))])) _
      refine XS.istore X1.here hx rfl (hb hby d1_22) rfl (l' := #[.val (.ref a1), .val (.long q1), .second, .val (.int p1), .val (.int (1 : Int32))]) rfl ?_
      show Steps p.tables e below (T1.setTop (mkF m 24 #[.val (.ref a1), .val (.long q1), .second, .val (.int p1), .val (.int (1 : Int32))] [])) _
      refine XS.iload X1.here hx rfl (hb hby d1_24) rfl ?_
      show Steps p.tables e below (T1.setTop (mkF m 26 #[.val (.ref a1), .val (.long q1), .second, .val (.int p1), .val (.int (1 : Int32))] [(.int (1 : Int32))])) _
      refine XS.ifYes X1.here hx rfl (pc0 := 26) (pc' := 54) rfl (hb hby d1_26) rfl ((if0 _ _).trans (feq (by decide : ¬ ((1 : Int32) = (0 : Int32)))).2) (by decide) (by decide) ?_
      show Steps p.tables e below (T1.setTop (mkF m 54 #[.val (.ref a1), .val (.long q1), .second, .val (.int p1), .val (.int (1 : Int32))] [])) _
      refine XS.aloadN X1.here hx rfl (hb hby d1_54) rfl rfl ?_
      show Steps p.tables e below (T1.setTop (mkF m 55 #[.val (.ref a1), .val (.long q1), .second, .val (.int p1), .val (.int (1 : Int32))] [(.ref a1)])) _
      refine XS.lloadN X1.here hx rfl (hb hby d1_55) rfl ?_
      show Steps p.tables e below (T1.setTop (mkF m 56 #[.val (.ref a1), .val (.long q1), .second, .val (.int p1), .val (.int (1 : Int32))] [(.long q1), (.ref a1)])) _
      refine st2 _ ?_
      show Steps p.tables e below (T2.setTop (mkF m 59 #[.val (.ref a1), .val (.long q1), .second, .val (.int p1), .val (.int (1 : Int32))] [])) _
      refine XS.aloadN X2.here hx rfl (hb hby d1_59) rfl rfl ?_
      show Steps p.tables e below (T2.setTop (mkF m 60 #[.val (.ref a1), .val (.long q1), .second, .val (.int p1), .val (.int (1 : Int32))] [(.ref a1)])) _
      refine XS.iloadN X2.here hx rfl (hb hby d1_60) rfl ?_
      show Steps p.tables e below (T2.setTop (mkF m 61 #[.val (.ref a1), .val (.long q1), .second, .val (.int p1), .val (.int (1 : Int32))] [(.int p1), (.ref a1)])) _
      refine st9 _ ?_
      show Steps p.tables e below (T9.setTop (mkF m 64 #[.val (.ref a1), .val (.long q1), .second, .val (.int p1), .val (.int (1 : Int32))] [])) _
      exact X9.returnOut hx Bd.returns (hb hby d1_64) hr
    · show Q1 Z a1 q1 p1 h0 n0 _ T9.heap _
      rw [e9]
      exact ⟨rfl, N14, K15, f11, f12, f10⟩
  · obtain ⟨T16, X16, e16, st16⟩ := initO X0 hx hZ hown (hw _ (List.mem_of_getElem? (i := 8) rfl)) (hw _ (List.mem_of_getElem? (i := 9) rfl)) (hw _ (List.mem_of_getElem? (i := 10) rfl)) e0 (g := (mkF m 1 #[.val (.ref a1), .val (.long q1), .second, .val (.int p1), .unset] [(.ref a1)])) rfl (by rw [hml]; rfl) rfl (hb hby d1_1) (by decide) (W := 0) (by show 2 * 0 + _ ≤ _; exact Nat.le_of_eq rfl) (by decide)
    obtain ⟨T17, h17, X17, e17, W17, st17⟩ := putF X16 hx hZ hown (host := "") (Or.inl (hw _ (List.mem_of_getElem? (i := 12) rfl))) Via.refl e16 F_producerId E1 (Or.inr ⟨(hw _ (List.mem_of_getElem? (i := 13) rfl)), rfl, hnm⟩) (hw _ (List.mem_of_getElem? (i := 3) rfl)) (ty := .long) (by decide) rfl rfl (g := (mkF m 56 #[.val (.ref a1), .val (.long q1), .second, .val (.int p1), .val (.int (0 : Int32))] [(.long q1), (.ref a1)])) rfl rfl (hb hby d1_56)
    have f18 := F_producerId.same W17
    have f19 := E1.wr W17
    have f20 := F_epoch.other W17 (Or.inr (slot_ne (Or.inr (hw _ (List.mem_of_getElem? (i := 15) rfl))) (Or.inr (hw _ (List.mem_of_getElem? (i := 13) rfl))) (by decide) (t := .short) (t' := .long) (by decide) (by decide)))
    have zz21 : n0 ≤ h17.size := Nat.le_trans Z0 (Keep.of_wr W17).1
    have N22 := Fr.snoc X17 N0 gn_a1
    have K23 : Keep h0 h17 [a1] := (Keep.refl h0 [a1]).wr W17 (Or.inl (List.mem_of_getElem? (i := 0) rfl))
    obtain ⟨T24, h24, X24, e24, W24, st24⟩ := putFN X17 hx hZ hown (hw _ (List.mem_of_getElem? (i := 14) rfl)) Via.refl e17 f20 f19 (Or.inr ⟨(hw _ (List.mem_of_getElem? (i := 15) rfl)), rfl, hnm⟩) (hw _ (List.mem_of_getElem? (i := 3) rfl)) (ty := .short) (v' := (.int (nar .short p1))) (by decide) rfl (fits_nar_short _) (g := (mkF m 61 #[.val (.ref a1), .val (.long q1), .second, .val (.int p1), .val (.int (0 : Int32))] [(.int p1), (.ref a1)])) rfl rfl (hb hby d1_61)
    have f25 := f20.same W24
    have f26 := f19.wr W24
    have f27 := f18.other W24 (Or.inr (slot_ne (Or.inr (hw _ (List.mem_of_getElem? (i := 13) rfl))) (Or.inr (hw _ (List.mem_of_getElem? (i := 15) rfl))) (by decide) (t := .long) (t' := .short) (by decide) (by decide)))
    have zz28 : n0 ≤ h24.size := Nat.le_trans zz21 (Keep.of_wr W24).1
    have N29 := Fr.snoc X24 N22 gn_a1
    have K30 : Keep h0 h24 [a1] := K23.wr W24 (Or.inl (List.mem_of_getElem? (i := 0) rfl))
    obtain ⟨fs, hr, hrun, hended, hW, hsame⟩ := X24.leave (v := none) (fun _ => rfl)
    refine ⟨_, _, pre0 _ ?_, hrun, hended, _, _, rfl, ?_, ⟨_, rfl⟩, hW, hsame.mono (by decide) (by decide)⟩
    · show Steps p.tables e below (s₁.setTop (mkF m 0 #[.val (.ref a1), .val (.long q1), .second, .val (.int p1), .unset] [])) _
      refine XS.aloadN X0.here hx rfl (hb hby d1_0) rfl rfl ?_
      show Steps p.tables e below (s₁.setTop (mkF m 1 #[.val (.ref a1), .val (.long q1), .second, .val (.int p1), .unset] [(.ref a1)])) _
      refine st16 _ ?_
      show Steps p.tables e below (T16.setTop (mkF m 4 #[.val (.ref a1), .val (.long q1), .second, .val (.int p1), .unset] [])) _
      refine XS.lloadN X16.here hx rfl (hb hby d1_4) rfl ?_
      show Steps p.tables e below (T16.setTop (mkF m 5 #[.val (.ref a1), .val (.long q1), .second, .val (.int p1), .unset] [(.long q1)])) _
      refine X16.ldc2Long hx hown (mvT hZ (hw _ (List.mem_of_getElem? (i := 11) rfl))) (g := (mkF m 5 #[.val (.ref a1), .val (.long q1), .second, .val (.int p1), .unset] [(.long q1)])) rfl (hb hby d1_5) _ ?_
      show Steps p.tables e below (T16.setTop (mkF m 8 #[.val (.ref a1), .val (.long q1), .second, .val (.int p1), .unset] [(.long (-1 : Int64)), (.long q1)])) _
      refine XS.lcmp X16.here hx rfl (hb hby d1_8) rfl ?_
      show Steps p.tables e below (T16.setTop (mkF m 9 #[.val (.ref a1), .val (.long q1), .second, .val (.int p1), .unset] [(.int (lcmpW q1 (-1 : Int64)))])) _
      refine XS.ifYes X16.here hx rfl (pc0 := 9) (pc' := 21) rfl (hb hby d1_9) rfl ((if0 _ _).trans (feq (own_x1 ho1)).2) (by decide) (by decide) ?_
      show Steps p.tables e below (T16.setTop (mkF m 21 #[.val (.ref a1), .val (.long q1), .second, .val (.int p1), .unset] [])) _
      refine XS.iconst X16.here hx rfl (hb hby d1_21) ?_
      show Steps p.tables e below (T16.setTop (mkF m 22 #[.val (.ref a1), .val (.long q1), .second, .val (.int p1), .unset] [(.int (0 : Int32))])) _
      refine XS.istore X16.here hx rfl (hb hby d1_22) rfl (l' := #[.val (.ref a1), .val (.long q1), .second, .val (.int p1), .val (.int (0 : Int32))]) rfl ?_
      show Steps p.tables e below (T16.setTop (mkF m 24 #[.val (.ref a1), .val (.long q1), .second, .val (.int p1), .val (.int (0 : Int32))] [])) _
      refine XS.iload X16.here hx rfl (hb hby d1_24) rfl ?_
      show Steps p.tables e below (T16.setTop (mkF m 26 #[.val (.ref a1), .val (.long q1), .second, .val (.int p1), .val (.int (0 : Int32))] [(.int (0 : Int32))])) _
      refine XS.ifNo X16.here hx rfl (hb hby d1_26) rfl ((if0 _ _).trans (teq (rfl : (0 : Int32) = (0 : Int32))).2) ?_
      show Steps p.tables e below (T16.setTop (mkF m 29 #[.val (.ref a1), .val (.long q1), .second, .val (.int p1), .val (.int (0 : Int32))] [])) _
      refine XS.lloadN X16.here hx rfl (hb hby d1_29) rfl ?_
      show Steps p.tables e below (T16.setTop (mkF m 30 #[.val (.ref a1), .val (.long q1), .second, .val (.int p1), .val (.int (0 : Int32))] [(.long q1)])) _
      refine XS.lconst X16.here hx rfl (hb hby d1_30) ?_
      show Steps p.tables e below (T16.setTop (mkF m 31 #[.val (.ref a1), .val (.long q1), .second, .val (.int p1), .val (.int (0 : Int32))] [(.long (0 : Int64)), (.long q1)])) _
      refine XS.lcmp X16.here hx rfl (hb hby d1_31) rfl ?_
      show Steps p.tables e below (T16.setTop (mkF m 32 #[.val (.ref a1), .val (.long q1), .second, .val (.int p1), .val (.int (0 : Int32))] [(.int (lcmpW q1 (0 : Int64)))])) _
      refine XS.ifNo X16.here hx rfl (hb hby d1_32) rfl ((if0 _ _).trans (flt (own_x2 ho1)).1) ?_
      show Steps p.tables e below (T16.setTop (mkF m 35 #[.val (.ref a1), .val (.long q1), .second, .val (.int p1), .val (.int (0 : Int32))] [])) _
      refine XS.iloadN X16.here hx rfl (hb hby d1_35) rfl ?_
      show Steps p.tables e below (T16.setTop (mkF m 36 #[.val (.ref a1), .val (.long q1), .second, .val (.int p1), .val (.int (0 : Int32))] [(.int p1)])) _
      refine XS.ifYes X16.here hx rfl (pc0 := 36) (pc' := 54) rfl (hb hby d1_36) rfl ((if0 _ _).trans (flt (own_x3 ho2)).2.1) (by decide) (by decide) ?_
      show Steps p.tables e below (T16.setTop (mkF m 54 #[.val (.ref a1), .val (.long q1), .second, .val (.int p1), .val (.int (0 : Int32))] [])) _
      refine XS.aloadN X16.here hx rfl (hb hby d1_54) rfl rfl ?_
      show Steps p.tables e below (T16.setTop (mkF m 55 #[.val (.ref a1), .val (.long q1), .second, .val (.int p1), .val (.int (0 : Int32))] [(.ref a1)])) _
      refine XS.lloadN X16.here hx rfl (hb hby d1_55) rfl ?_
      show Steps p.tables e below (T16.setTop (mkF m 56 #[.val (.ref a1), .val (.long q1), .second, .val (.int p1), .val (.int (0 : Int32))] [(.long q1), (.ref a1)])) _
      refine st17 _ ?_
      show Steps p.tables e below (T17.setTop (mkF m 59 #[.val (.ref a1), .val (.long q1), .second, .val (.int p1), .val (.int (0 : Int32))] [])) _
      refine XS.aloadN X17.here hx rfl (hb hby d1_59) rfl rfl ?_
      show Steps p.tables e below (T17.setTop (mkF m 60 #[.val (.ref a1), .val (.long q1), .second, .val (.int p1), .val (.int (0 : Int32))] [(.ref a1)])) _
      refine XS.iloadN X17.here hx rfl (hb hby d1_60) rfl ?_
      show Steps p.tables e below (T17.setTop (mkF m 61 #[.val (.ref a1), .val (.long q1), .second, .val (.int p1), .val (.int (0 : Int32))] [(.int p1), (.ref a1)])) _
      refine st24 _ ?_
      show Steps p.tables e below (T24.setTop (mkF m 64 #[.val (.ref a1), .val (.long q1), .second, .val (.int p1), .val (.int (0 : Int32))] [])) _
      exact X24.returnOut hx Bd.returns (hb hby d1_64) hr
    · show Q1 Z a1 q1 p1 h0 n0 _ T24.heap _
      rw [e24]
      exact ⟨rfl, N29, K30, f26, f27, f25⟩
theorem d4_0 : decode prog_7_method_6_code 0 = .ok (.aload_n 1, 1) := by decide +kernel
theorem d4_1 : decode prog_7_method_6_code 1 = .ok (.instanceof 1, 3) := by decide +kernel
theorem d4_4 : decode prog_7_method_6_code 4 = .ok (.ifCond .eq 35, 3) := by decide +kernel
theorem d4_7 : decode prog_7_method_6_code 7 = .ok (.aload_n 1, 1) := by decide +kernel
theorem d4_8 : decode prog_7_method_6_code 8 = .ok (.checkcast 1, 3) := by decide +kernel
theorem d4_11 : decode prog_7_method_6_code 11 = .ok (.astore_n 2, 1) := by decide +kernel
theorem d4_12 : decode prog_7_method_6_code 12 = .ok (.aload_n 0, 1) := by decide +kernel
theorem d4_13 : decode prog_7_method_6_code 13 = .ok (.getfield 23, 3) := by decide +kernel
theorem d4_16 : decode prog_7_method_6_code 16 = .ok (.aload_n 2, 1) := by decide +kernel
theorem d4_17 : decode prog_7_method_6_code 17 = .ok (.getfield 23, 3) := by decide +kernel
theorem d4_20 : decode prog_7_method_6_code 20 = .ok (.lcmp, 1) := by decide +kernel
theorem d4_21 : decode prog_7_method_6_code 21 = .ok (.ifCond .ne 18, 3) := by decide +kernel
theorem d4_24 : decode prog_7_method_6_code 24 = .ok (.aload_n 0, 1) := by decide +kernel
theorem d4_25 : decode prog_7_method_6_code 25 = .ok (.getfield 27, 3) := by decide +kernel
theorem d4_28 : decode prog_7_method_6_code 28 = .ok (.aload_n 2, 1) := by decide +kernel
theorem d4_29 : decode prog_7_method_6_code 29 = .ok (.getfield 27, 3) := by decide +kernel
theorem d4_32 : decode prog_7_method_6_code 32 = .ok (.if_icmp .ne 7, 3) := by decide +kernel
theorem d4_35 : decode prog_7_method_6_code 35 = .ok (.iconst 1, 1) := by decide +kernel
theorem d4_36 : decode prog_7_method_6_code 36 = .ok (.goto 4, 3) := by decide +kernel
theorem d4_40 : decode prog_7_method_6_code 40 = .ok (.ireturn, 1) := by decide +kernel
theorem d4_39 : decode prog_7_method_6_code 39 = .ok (.iconst 0, 1) := by decide +kernel
theorem ef_rm4 (m : MethodId) (x0 : Addr) (x1 : Addr) : entryFrame m #[(.ref x0), (.ref x1)] 3 = mkF m 0 #[.val (.ref x0), .val (.ref x1), .unset] [] := by first | (simp [entryFrame, mkF, argsToLocals, Value.category]; done) | rfl
def Q4 (Z : State) (a1 : Addr) (a2 : Addr) (u0 v0 : Int64) (u1 v1 : Int32) (h0 : Heap) (n0 : Nat) (v : Option Value) (h : Heap) (L : List Loc) : Prop := v = some (.int (own_eq2 u0 v0 u1 v1)) ∧ Fr n0 L ∧ h = h0
set_option maxHeartbeats 40000000 in
theorem rm4 (l : Launch) (Z : State) (a0 : Array Value) (hw : ∀ d ∈ tables_1, d.before a0 Z = true) (ws : List Jvm.Cond) (a1 : Addr) (a2 : Addr) (u0 v0 : Int64) (u1 v1 : Int32) (h0 : Heap) (n0 : Nat) (Z0 : n0 ≤ h0.size) (E2 : Exa Z h0 a2 "com/example/tidy_commit/tidycommit/client/PreparedTxnState") (F0 : Fld Z h0 a1 "com/example/tidy_commit/tidycommit/client/PreparedTxnState" "producerId" "J" (.long u0)) (G0 : Fld Z h0 a2 "com/example/tidy_commit/tidycommit/client/PreparedTxnState" "producerId" "J" (.long v0)) (F1 : Fld Z h0 a1 "com/example/tidy_commit/tidycommit/client/PreparedTxnState" "epoch" "S" (.int u1)) (G1 : Fld Z h0 a2 "com/example/tidy_commit/tidycommit/client/PreparedTxnState" "epoch" "S" (.int v1)) :
    MetFree l (⟨"com/example/tidy_commit/tidycommit/client/PreparedTxnState", "equals", "(Ljava/lang/Object;)Z"⟩ : MethodName) (head1 (Jvm.Cond.code (⟨"com/example/tidy_commit/tidycommit/client/PreparedTxnState", "equals", "(Ljava/lang/Object;)Z"⟩ : MethodName) prog_7_method_6_code 3 (some .boolean) :: ws) ({ frames := 0, cells := 0, slots := 0, locals := 0 } : Room)) (fun a U => a = #[(.ref a1), (.ref a2)] ∧ Z.Warmed39 U.vm ∧ U.heap = h0) (fun _ _ _ _ _ => True) (fun _ U o U' => ∃ v L, o = .returned v ∧ Q4 Z a1 a2 u0 v0 u1 v1 h0 n0 v U'.heap L ∧ FrameEnd U o U' L ({ frames := 0, cells := 0, slots := 0, locals := 0 } : Room).cells ({ frames := 0, cells := 0, slots := 0, locals := 0 } : Room).slots) := by
  refine MetFree.of_bodySF (plainFor_of_name pn_2) hisR ?_
  intro p e s m args below meth c s₁ Bd hml0 hP hK
  obtain ⟨rfl, hZ, hh⟩ := hP
  have hx := Bd.exec
  have hby := Bd.bytes
  have hml : c.maxLocals = 3 := hml0
  have hown : s.vm.findClass "com/example/tidy_commit/tidycommit/client/PreparedTxnState" = some m.cls := findClass_of_methodNamed Bd.named
  have hnm := (name_of_methodNamed Bd.named Bd.method).1
  have X0 : Stand p l e ({ frames := 0, cells := 0, slots := 0, locals := 0 } : Room) s m #[(.ref a1), (.ref a2)] below meth c s₁ [] 0 0 := Stand.of_body Bd
  have e0 : s₁.heap = h0 := by rw [← hh, Bd.state]; rfl
  have N0 := Fr.nil n0
  have pre0 : ∀ tgt, Steps p.tables e below (s₁.setTop (mkF m 0 #[.val (.ref a1), .val (.ref a2), .unset] [])) tgt → Steps p.tables e below (s₁.setTop (entryFrame m #[(.ref a1), (.ref a2)] 3)) tgt := fun tgt k => castTop (ef_rm4 m a1 a2) k
  obtain ⟨T1, X1, e1, st1⟩ := instY X0 hx hZ hown (hw _ (List.mem_of_getElem? (i := 29) rfl)) e0 (Ins.self E2) (g := (mkF m 1 #[.val (.ref a1), .val (.ref a2), .unset] [(.ref a2)])) rfl rfl (hb hby d4_1)
  obtain ⟨T2, X2, e2, st2⟩ := castY X1 hx hZ hown (hw _ (List.mem_of_getElem? (i := 29) rfl)) e1 (Ins.self E2) (g := (mkF m 8 #[.val (.ref a1), .val (.ref a2), .unset] [(.ref a2)])) rfl rfl (hb hby d4_8)
  obtain ⟨T3, X3, e3, st3⟩ := getF X2 hx hZ hown (host := "") (Or.inl (hw _ (List.mem_of_getElem? (i := 12) rfl))) Via.refl e2 F0 (g := (mkF m 13 #[.val (.ref a1), .val (.ref a2), .val (.ref a2)] [(.ref a1)])) rfl rfl (hb hby d4_13)
  obtain ⟨T4, X4, e4, st4⟩ := getF X3 hx hZ hown (host := "") (Or.inl (hw _ (List.mem_of_getElem? (i := 12) rfl))) Via.refl e3 G0 (g := (mkF m 17 #[.val (.ref a1), .val (.ref a2), .val (.ref a2)] [(.ref a2), (.long u0)])) rfl rfl (hb hby d4_17)
  have pre5 : ∀ tgt, Steps p.tables e below (T4.setTop (mkF m 21 #[.val (.ref a1), .val (.ref a2), .val (.ref a2)] [(.int (lcmpW u0 v0))])) tgt → Steps p.tables e below (s₁.setTop (entryFrame m #[(.ref a1), (.ref a2)] 3)) tgt := fun tgt kt => pre0 _ (by
    show Steps p.tables e below (s₁.setTop (mkF m 0 #[.val (.ref a1), .val (.ref a2), .unset] [])) _
    refine XS.aloadN X0.here hx rfl (hb hby d4_0) rfl rfl ?_
    show Steps p.tables e below (s₁.setTop (mkF m 1 #[.val (.ref a1), .val (.ref a2), .unset] [(.ref a2)])) _
    refine st1 _ ?_
    show Steps p.tables e below (T1.setTop (mkF m 4 #[.val (.ref a1), .val (.ref a2), .unset] [(.int (1 : Int32))])) _
    refine XS.ifNo X1.here hx rfl (hb hby d4_4) rfl ((if0 _ _).trans (feq (by decide : ¬ ((1 : Int32) = (0 : Int32)))).1) ?_
    show Steps p.tables e below (T1.setTop (mkF m 7 #[.val (.ref a1), .val (.ref a2), .unset] [])) _
    refine XS.aloadN X1.here hx rfl (hb hby d4_7) rfl rfl ?_
    show Steps p.tables e below (T1.setTop (mkF m 8 #[.val (.ref a1), .val (.ref a2), .unset] [(.ref a2)])) _
    refine st2 _ ?_
    show Steps p.tables e below (T2.setTop (mkF m 11 #[.val (.ref a1), .val (.ref a2), .unset] [(.ref a2)])) _
    refine XS.astoreN X2.here hx rfl (hb hby d4_11) rfl rfl (l' := #[.val (.ref a1), .val (.ref a2), .val (.ref a2)]) rfl ?_
    show Steps p.tables e below (T2.setTop (mkF m 12 #[.val (.ref a1), .val (.ref a2), .val (.ref a2)] [])) _
    refine XS.aloadN X2.here hx rfl (hb hby d4_12) rfl rfl ?_
    show Steps p.tables e below (T2.setTop (mkF m 13 #[.val (.ref a1), .val (.ref a2), .val (.ref a2)] [(.ref a1)])) _
    refine st3 _ ?_
    show Steps p.tables e below (T3.setTop (mkF m 16 #[.val (.ref a1), .val (.ref a2), .val (.ref a2)] [(.long u0)])) _
    refine XS.aloadN X3.here hx rfl (hb hby d4_16) rfl rfl ?_
    show Steps p.tables e below (T3.setTop (mkF m 17 #[.val (.ref a1), .val (.ref a2), .val (.ref a2)] [(.ref a2), (.long u0)])) _
    refine st4 _ ?_
    show Steps p.tables e below (T4.setTop (mkF m 20 #[.val (.ref a1), .val (.ref a2), .val (.ref a2)] [(.long v0), (.long u0)])) _
    refine XS.lcmp X4.here hx rfl (hb hby d4_20) rfl ?_
    exact kt)
  by_cases h21 : (lcmpW u0 v0) = (0 : Int32)
  · obtain ⟨T6, X6, e6, st6⟩ := getF X4 hx hZ hown (host := "") (Or.inl (hw _ (List.mem_of_getElem? (i := 14) rfl))) Via.refl e4 F1 (g := (mkF m 25 #[.val (.ref a1), .val (.ref a2), .val (.ref a2)] [(.ref a1)])) rfl rfl (hb hby d4_25)
    obtain ⟨T7, X7, e7, st7⟩ := getF X6 hx hZ hown (host := "") (Or.inl (hw _ (List.mem_of_getElem? (i := 14) rfl))) Via.refl e6 G1 (g := (mkF m 29 #[.val (.ref a1), .val (.ref a2), .val (.ref a2)] [(.ref a2), (.int u1)])) rfl rfl (hb hby d4_29)
    have pre8 : ∀ tgt, Steps p.tables e below (T7.setTop (mkF m 32 #[.val (.ref a1), .val (.ref a2), .val (.ref a2)] [(.int v1), (.int u1)])) tgt → Steps p.tables e below (s₁.setTop (entryFrame m #[(.ref a1), (.ref a2)] 3)) tgt := fun tgt kt => pre5 _ (by
      show Steps p.tables e below (T4.setTop (mkF m 21 #[.val (.ref a1), .val (.ref a2), .val (.ref a2)] [(.int (lcmpW u0 v0))])) _
      refine XS.ifNo X4.here hx rfl (hb hby d4_21) rfl ((if0 _ _).trans (teq h21).2) ?_
      show Steps p.tables e below (T4.setTop (mkF m 24 #[.val (.ref a1), .val (.ref a2), .val (.ref a2)] [])) _
      refine XS.aloadN X4.here hx rfl (hb hby d4_24) rfl rfl ?_
      show Steps p.tables e below (T4.setTop (mkF m 25 #[.val (.ref a1), .val (.ref a2), .val (.ref a2)] [(.ref a1)])) _
      refine st6 _ ?_
      show Steps p.tables e below (T6.setTop (mkF m 28 #[.val (.ref a1), .val (.ref a2), .val (.ref a2)] [(.int u1)])) _
      refine XS.aloadN X6.here hx rfl (hb hby d4_28) rfl rfl ?_
      show Steps p.tables e below (T6.setTop (mkF m 29 #[.val (.ref a1), .val (.ref a2), .val (.ref a2)] [(.ref a2), (.int u1)])) _
      refine st7 _ ?_
      exact kt)
    by_cases h32 : u1 = v1
    · obtain ⟨fs, hr, hrun, hended, hW, hsame⟩ := X7.leave (v := some (.int (1 : Int32))) (fun h => by rw [Bd.returns] at h; cases h)
      refine ⟨_, _, pre8 _ ?_, hrun, hended, _, _, rfl, ?_, ⟨_, rfl⟩, hW, hsame.mono (by decide) (by decide)⟩
      · show Steps p.tables e below (T7.setTop (mkF m 32 #[.val (.ref a1), .val (.ref a2), .val (.ref a2)] [(.int v1), (.int u1)])) _
        refine XS.icmpNo X7.here hx rfl (hb hby d4_32) rfl (teq h32).2 ?_
        show Steps p.tables e below (T7.setTop (mkF m 35 #[.val (.ref a1), .val (.ref a2), .val (.ref a2)] [])) _
        refine XS.iconst X7.here hx rfl (hb hby d4_35) ?_
        show Steps p.tables e below (T7.setTop (mkF m 36 #[.val (.ref a1), .val (.ref a2), .val (.ref a2)] [(.int (1 : Int32))])) _
        refine XS.goto X7.here hx rfl (pc0 := 36) (pc' := 40) rfl (hb hby d4_36) (by decide) (by decide) ?_
        show Steps p.tables e below (T7.setTop (mkF m 40 #[.val (.ref a1), .val (.ref a2), .val (.ref a2)] [(.int (1 : Int32))])) _
        exact retN X7 hx (t := .boolean) Bd.returns (by simp) (hb hby d4_40) hr
      · show Q4 Z a1 a2 u0 v0 u1 v1 h0 n0 _ T7.heap _
        rw [e7]
        exact ⟨by first | (rw [own_eq2, if_pos h21, if_pos h32]; done) | (rw [own_eq2, if_pos h21, if_pos h32]; rfl), N0, rfl⟩
    · obtain ⟨fs, hr, hrun, hended, hW, hsame⟩ := X7.leave (v := some (.int (0 : Int32))) (fun h => by rw [Bd.returns] at h; cases h)
      refine ⟨_, _, pre8 _ ?_, hrun, hended, _, _, rfl, ?_, ⟨_, rfl⟩, hW, hsame.mono (by decide) (by decide)⟩
      · show Steps p.tables e below (T7.setTop (mkF m 32 #[.val (.ref a1), .val (.ref a2), .val (.ref a2)] [(.int v1), (.int u1)])) _
        refine XS.icmpYes X7.here hx rfl (pc0 := 32) (pc' := 39) rfl (hb hby d4_32) rfl (feq h32).2 (by decide) (by decide) ?_
        show Steps p.tables e below (T7.setTop (mkF m 39 #[.val (.ref a1), .val (.ref a2), .val (.ref a2)] [])) _
        refine XS.iconst X7.here hx rfl (hb hby d4_39) ?_
        show Steps p.tables e below (T7.setTop (mkF m 40 #[.val (.ref a1), .val (.ref a2), .val (.ref a2)] [(.int (0 : Int32))])) _
        exact retN X7 hx (t := .boolean) Bd.returns (by simp) (hb hby d4_40) hr
      · show Q4 Z a1 a2 u0 v0 u1 v1 h0 n0 _ T7.heap _
        rw [e7]
        exact ⟨by first | (rw [own_eq2, if_pos h21, if_neg h32]; done) | (rw [own_eq2, if_pos h21, if_neg h32]; rfl), N0, rfl⟩
  · obtain ⟨fs, hr, hrun, hended, hW, hsame⟩ := X4.leave (v := some (.int (0 : Int32))) (fun h => by rw [Bd.returns] at h; cases h)
    refine ⟨_, _, pre5 _ ?_, hrun, hended, _, _, rfl, ?_, ⟨_, rfl⟩, hW, hsame.mono (by decide) (by decide)⟩
    · show Steps p.tables e below (T4.setTop (mkF m 21 #[.val (.ref a1), .val (.ref a2), .val (.ref a2)] [(.int (lcmpW u0 v0))])) _
      refine XS.ifYes X4.here hx rfl (pc0 := 21) (pc' := 39) rfl (hb hby d4_21) rfl ((if0 _ _).trans (feq h21).2) (by decide) (by decide) ?_
      show Steps p.tables e below (T4.setTop (mkF m 39 #[.val (.ref a1), .val (.ref a2), .val (.ref a2)] [])) _
      refine XS.iconst X4.here hx rfl (hb hby d4_39) ?_
      show Steps p.tables e below (T4.setTop (mkF m 40 #[.val (.ref a1), .val (.ref a2), .val (.ref a2)] [(.int (0 : Int32))])) _
      exact retN X4 hx (t := .boolean) Bd.returns (by simp) (hb hby d4_40) hr
    · show Q4 Z a1 a2 u0 v0 u1 v1 h0 n0 _ T4.heap _
      rw [e4]
      exact ⟨by first | (rw [own_eq2, if_neg h21]; done) | (rw [own_eq2, if_neg h21]; rfl), N0, rfl⟩
theorem ef_rm4n (m : MethodId) (x0 : Addr) : entryFrame m #[(.ref x0), .null] 3 = mkF m 0 #[.val (.ref x0), .val .null, .unset] [] := by first | (simp [entryFrame, mkF, argsToLocals, Value.category]; done) | rfl
def Q4n (Z : State) (a1 : Addr) (h0 : Heap) (n0 : Nat) (v : Option Value) (h : Heap) (L : List Loc) : Prop := v = some (.int (0 : Int32)) ∧ Fr n0 L ∧ h = h0
set_option maxHeartbeats 40000000 in
theorem rm4n (l : Launch) (Z : State) (a0 : Array Value) (hw : ∀ d ∈ tables_1, d.before a0 Z = true) (ws : List Jvm.Cond) (a1 : Addr) (h0 : Heap) (n0 : Nat) (Z0 : n0 ≤ h0.size) :
    MetFree l (⟨"com/example/tidy_commit/tidycommit/client/PreparedTxnState", "equals", "(Ljava/lang/Object;)Z"⟩ : MethodName) (head1 (Jvm.Cond.code (⟨"com/example/tidy_commit/tidycommit/client/PreparedTxnState", "equals", "(Ljava/lang/Object;)Z"⟩ : MethodName) prog_7_method_6_code 3 (some .boolean) :: ws) ({ frames := 0, cells := 0, slots := 0, locals := 0 } : Room)) (fun a U => a = #[(.ref a1), .null] ∧ Z.Warmed39 U.vm ∧ U.heap = h0) (fun _ _ _ _ _ => True) (fun _ U o U' => ∃ v L, o = .returned v ∧ Q4n Z a1 h0 n0 v U'.heap L ∧ FrameEnd U o U' L ({ frames := 0, cells := 0, slots := 0, locals := 0 } : Room).cells ({ frames := 0, cells := 0, slots := 0, locals := 0 } : Room).slots) := by
  refine MetFree.of_bodySF (plainFor_of_name pn_2) hisR ?_
  intro p e s m args below meth c s₁ Bd hml0 hP hK
  obtain ⟨rfl, hZ, hh⟩ := hP
  have hx := Bd.exec
  have hby := Bd.bytes
  have hml : c.maxLocals = 3 := hml0
  have hown : s.vm.findClass "com/example/tidy_commit/tidycommit/client/PreparedTxnState" = some m.cls := findClass_of_methodNamed Bd.named
  have hnm := (name_of_methodNamed Bd.named Bd.method).1
  have X0 : Stand p l e ({ frames := 0, cells := 0, slots := 0, locals := 0 } : Room) s m #[(.ref a1), .null] below meth c s₁ [] 0 0 := Stand.of_body Bd
  have e0 : s₁.heap = h0 := by rw [← hh, Bd.state]; rfl
  have N0 := Fr.nil n0
  have pre0 : ∀ tgt, Steps p.tables e below (s₁.setTop (mkF m 0 #[.val (.ref a1), .val .null, .unset] [])) tgt → Steps p.tables e below (s₁.setTop (entryFrame m #[(.ref a1), .null] 3)) tgt := fun tgt k => castTop (ef_rm4n m a1) k
  obtain ⟨fs, hr, hrun, hended, hW, hsame⟩ := X0.leave (v := some (.int (0 : Int32))) (fun h => by rw [Bd.returns] at h; cases h)
  refine ⟨_, _, pre0 _ ?_, hrun, hended, _, _, rfl, ?_, ⟨_, rfl⟩, hW, hsame.mono (by decide) (by decide)⟩
  · show Steps p.tables e below (s₁.setTop (mkF m 0 #[.val (.ref a1), .val .null, .unset] [])) _
    refine XS.aloadN X0.here hx rfl (hb hby d4_0) rfl rfl ?_
    show Steps p.tables e below (s₁.setTop (mkF m 1 #[.val (.ref a1), .val .null, .unset] [.null])) _
    refine X0.instanceofNull hx (g := (mkF m 1 #[.val (.ref a1), .val .null, .unset] [.null])) rfl rfl (hb hby d4_1) _ ?_
    show Steps p.tables e below (s₁.setTop (mkF m 4 #[.val (.ref a1), .val .null, .unset] [(.int (0 : Int32))])) _
    refine XS.ifYes X0.here hx rfl (pc0 := 4) (pc' := 39) rfl (hb hby d4_4) rfl ((if0 _ _).trans (teq (rfl : (0 : Int32) = (0 : Int32))).1) (by decide) (by decide) ?_
    show Steps p.tables e below (s₁.setTop (mkF m 39 #[.val (.ref a1), .val .null, .unset] [])) _
    refine XS.iconst X0.here hx rfl (hb hby d4_39) ?_
    show Steps p.tables e below (s₁.setTop (mkF m 40 #[.val (.ref a1), .val .null, .unset] [(.int (0 : Int32))])) _
    exact retN X0 hx (t := .boolean) Bd.returns (by simp) (hb hby d4_40) hr
  · show Q4n Z a1 h0 n0 _ s₁.heap _
    rw [e0]
    exact ⟨rfl, N0, rfl⟩
theorem ef_rm4L (m : MethodId) (x0 : Addr) (x1 : Addr) : entryFrame m #[(.ref x0), (.ref x1)] 3 = mkF m 0 #[.val (.ref x0), .val (.ref x1), .unset] [] := by first | (simp [entryFrame, mkF, argsToLocals, Value.category]; done) | rfl
def Q4L (Z : State) (a1 : Addr) (a2 : Addr) (h0 : Heap) (n0 : Nat) (v : Option Value) (h : Heap) (L : List Loc) : Prop := v = some (.int (0 : Int32)) ∧ Fr n0 L ∧ h = h0
set_option maxHeartbeats 40000000 in
theorem rm4L (l : Launch) (Z : State) (a0 : Array Value) (hw : ∀ d ∈ tables_1, d.before a0 Z = true) (ws : List Jvm.Cond) (a1 : Addr) (a2 : Addr) (h0 : Heap) (n0 : Nat) (Z0 : n0 ≤ h0.size) (E2 : Exa Z h0 a2 "java/lang/Long") :
    MetFree l (⟨"com/example/tidy_commit/tidycommit/client/PreparedTxnState", "equals", "(Ljava/lang/Object;)Z"⟩ : MethodName) (head1 (Jvm.Cond.code (⟨"com/example/tidy_commit/tidycommit/client/PreparedTxnState", "equals", "(Ljava/lang/Object;)Z"⟩ : MethodName) prog_7_method_6_code 3 (some .boolean) :: ws) ({ frames := 0, cells := 0, slots := 0, locals := 0 } : Room)) (fun a U => a = #[(.ref a1), (.ref a2)] ∧ Z.Warmed39 U.vm ∧ U.heap = h0) (fun _ _ _ _ _ => True) (fun _ U o U' => ∃ v L, o = .returned v ∧ Q4L Z a1 a2 h0 n0 v U'.heap L ∧ FrameEnd U o U' L ({ frames := 0, cells := 0, slots := 0, locals := 0 } : Room).cells ({ frames := 0, cells := 0, slots := 0, locals := 0 } : Room).slots) := by
  refine MetFree.of_bodySF (plainFor_of_name pn_2) hisR ?_
  intro p e s m args below meth c s₁ Bd hml0 hP hK
  obtain ⟨rfl, hZ, hh⟩ := hP
  have hx := Bd.exec
  have hby := Bd.bytes
  have hml : c.maxLocals = 3 := hml0
  have hown : s.vm.findClass "com/example/tidy_commit/tidycommit/client/PreparedTxnState" = some m.cls := findClass_of_methodNamed Bd.named
  have hnm := (name_of_methodNamed Bd.named Bd.method).1
  have X0 : Stand p l e ({ frames := 0, cells := 0, slots := 0, locals := 0 } : Room) s m #[(.ref a1), (.ref a2)] below meth c s₁ [] 0 0 := Stand.of_body Bd
  have e0 : s₁.heap = h0 := by rw [← hh, Bd.state]; rfl
  have N0 := Fr.nil n0
  have pre0 : ∀ tgt, Steps p.tables e below (s₁.setTop (mkF m 0 #[.val (.ref a1), .val (.ref a2), .unset] [])) tgt → Steps p.tables e below (s₁.setTop (entryFrame m #[(.ref a1), (.ref a2)] 3)) tgt := fun tgt k => castTop (ef_rm4L m a1 a2) k
  have hno := own_notlong (K := "com/example/tidy_commit/tidycommit/client/PreparedTxnState") (n := 2) (hw _ (List.mem_of_getElem? (i := 31) rfl)) (hw _ (List.mem_of_getElem? (i := 32) rfl)) (hw _ (List.mem_of_getElem? (i := 33) rfl)) (hw _ (List.mem_of_getElem? (i := 3) rfl)) (by decide) (by decide) (by decide)
  obtain ⟨T1, X1, e1, st1⟩ := instNo X0 hx hZ hown (hw _ (List.mem_of_getElem? (i := 29) rfl)) e0 E2 hno (g := (mkF m 1 #[.val (.ref a1), .val (.ref a2), .unset] [(.ref a2)])) rfl rfl (hb hby d4_1)
  obtain ⟨fs, hr, hrun, hended, hW, hsame⟩ := X1.leave (v := some (.int (0 : Int32))) (fun h => by rw [Bd.returns] at h; cases h)
  refine ⟨_, _, pre0 _ ?_, hrun, hended, _, _, rfl, ?_, ⟨_, rfl⟩, hW, hsame.mono (by decide) (by decide)⟩
  · show Steps p.tables e below (s₁.setTop (mkF m 0 #[.val (.ref a1), .val (.ref a2), .unset] [])) _
    refine XS.aloadN X0.here hx rfl (hb hby d4_0) rfl rfl ?_
    show Steps p.tables e below (s₁.setTop (mkF m 1 #[.val (.ref a1), .val (.ref a2), .unset] [(.ref a2)])) _
    refine st1 _ ?_
    show Steps p.tables e below (T1.setTop (mkF m 4 #[.val (.ref a1), .val (.ref a2), .unset] [(.int (0 : Int32))])) _
    refine XS.ifYes X1.here hx rfl (pc0 := 4) (pc' := 39) rfl (hb hby d4_4) rfl ((if0 _ _).trans (teq (rfl : (0 : Int32) = (0 : Int32))).1) (by decide) (by decide) ?_
    show Steps p.tables e below (T1.setTop (mkF m 39 #[.val (.ref a1), .val (.ref a2), .unset] [])) _
    refine XS.iconst X1.here hx rfl (hb hby d4_39) ?_
    show Steps p.tables e below (T1.setTop (mkF m 40 #[.val (.ref a1), .val (.ref a2), .unset] [(.int (0 : Int32))])) _
    exact retN X1 hx (t := .boolean) Bd.returns (by simp) (hb hby d4_40) hr
  · show Q4L Z a1 a2 h0 n0 _ T1.heap _
    rw [e1]
    exact ⟨rfl, N0, rfl⟩
theorem pd_2 : parseMethodDescriptor "(JS)V" = some ⟨[.long, .short], none⟩ := by decide +kernel
theorem pd_3 : parseMethodDescriptor "(J)Ljava/lang/Long;" = some ⟨[.long], some (.object "java/lang/Long")⟩ := by decide +kernel
theorem pd_4 : parseMethodDescriptor "(Ljava/lang/Object;)Z" = some ⟨[(.object "java/lang/Object")], some .boolean⟩ := by decide +kernel
theorem pn_3 : plainName "com/example/tidy_commit/tidycommit/client/PreparedTxnStateEqualsPinLaw" = true := by first | (simp [plainName, overriddenIn]; done) | decide +kernel
theorem ef_rm0 (m : MethodId) (x0 : Int64) (x1 : Int32) (x2 : Int64) (x3 : Int32) (x4 : Int32) : entryFrame m #[(.long x0), (.int x1), (.long x2), (.int x3), (.int x4)] maxLocals = mkF m 0 #[.val (.long x0), .second, .val (.int x1), .val (.long x2), .second, .val (.int x3), .val (.int x4), .unset, .unset, .unset, .unset, .unset, .unset, .unset, .unset, .unset, .unset, .unset, .unset, .unset, .unset] [] := by first | (simp [entryFrame, mkF, argsToLocals, Value.category, maxLocals]; done) | rfl
def Q0 (Z : State) (p0 : Int64) (p1 : Int32) (p2 : Int64) (p3 : Int32) (p4 : Int32) (ca : Addr) (h0 : Heap) (n0 : Nat) (v : Option Value) (h : Heap) (L : List Loc) : Prop := v = some (.int (1 : Int32)) ∧ Fr n0 L
set_option maxHeartbeats 40000000 in
theorem rm0 (l : Launch) (Z : State) (a0 : Array Value) (hw : ∀ d ∈ tables_1, d.before a0 Z = true) (ws : List Jvm.Cond) (p0 : Int64) (p1 : Int32) (p2 : Int64) (p3 : Int32) (p4 : Int32) (ca : Addr) (h0 : Heap) (n0 : Nat) (Z0 : n0 ≤ h0.size) (S0 : Sta Z h0 "java/lang/Long$LongCache" "cache" "[Ljava/lang/Long;" (.ref ca)) (CC : own_cache Z h0 ca) :
    MetFree l x (head1 (Jvm.Cond.code x code maxLocals ret :: ws) room_1) (fun a U => a = #[(.long p0), (.int p1), (.long p2), (.int p3), (.int p4)] ∧ Z.Warmed39 U.vm ∧ U.heap = h0) (fun _ _ _ _ _ => True) (fun _ U o U' => ∃ v L, o = .returned v ∧ Q0 Z p0 p1 p2 p3 p4 ca h0 n0 v U'.heap L ∧ FrameEnd U o U' L room_1.cells room_1.slots) := by
  refine MetFree.of_bodySF (plainFor_of_name pn_3) hisR ?_
  intro p e s m args below meth c s₁ Bd hml0 hP hK
  obtain ⟨rfl, hZ, hh⟩ := hP
  have hx := Bd.exec
  have hby := Bd.bytes
  have hml : c.maxLocals = 21 := hml0
  have hown : s.vm.findClass "com/example/tidy_commit/tidycommit/client/PreparedTxnStateEqualsPinLaw" = some m.cls := findClass_of_methodNamed Bd.named
  have hnm := (name_of_methodNamed Bd.named Bd.method).1
  have X0 : Stand p l e room_1 s m #[(.long p0), (.int p1), (.long p2), (.int p3), (.int p4)] below meth c s₁ [] 0 0 := Stand.of_body Bd
  have e0 : s₁.heap = h0 := by rw [← hh, Bd.state]; rfl
  have N0 := Fr.nil n0
  have pre0 : ∀ tgt, Steps p.tables e below (s₁.setTop (mkF m 0 #[.val (.long p0), .second, .val (.int p1), .val (.long p2), .second, .val (.int p3), .val (.int p4), .unset, .unset, .unset, .unset, .unset, .unset, .unset, .unset, .unset, .unset, .unset, .unset, .unset, .unset] [])) tgt → Steps p.tables e below (s₁.setTop (entryFrame m #[(.long p0), (.int p1), (.long p2), (.int p3), (.int p4)] maxLocals)) tgt := fun tgt k => castTop (ef_rm0 m p0 p1 p2 p3 p4) k
  have pre1 : ∀ tgt, Steps p.tables e below (s₁.setTop (mkF m 4 #[.val (.long p0), .second, .val (.int p1), .val (.long p2), .second, .val (.int p3), .val (.int p4), .unset, .unset, .unset, .unset, .unset, .unset, .unset, .unset, .unset, .unset, .unset, .unset, .unset, .unset] [(.int (p4 &&& (1 : Int32)))])) tgt → Steps p.tables e below (s₁.setTop (entryFrame m #[(.long p0), (.int p1), (.long p2), (.int p3), (.int p4)] maxLocals)) tgt := fun tgt kt => pre0 _ (by
    show Steps p.tables e below (s₁.setTop (mkF m 0 #[.val (.long p0), .second, .val (.int p1), .val (.long p2), .second, .val (.int p3), .val (.int p4), .unset, .unset, .unset, .unset, .unset, .unset, .unset, .unset, .unset, .unset, .unset, .unset, .unset, .unset] [])) _
    refine XS.iload X0.here hx rfl (hb hby at_0) rfl ?_
    show Steps p.tables e below (s₁.setTop (mkF m 2 #[.val (.long p0), .second, .val (.int p1), .val (.long p2), .second, .val (.int p3), .val (.int p4), .unset, .unset, .unset, .unset, .unset, .unset, .unset, .unset, .unset, .unset, .unset, .unset, .unset, .unset] [(.int p4)])) _
    refine XS.iconst X0.here hx rfl (hb hby at_2) ?_
    show Steps p.tables e below (s₁.setTop (mkF m 3 #[.val (.long p0), .second, .val (.int p1), .val (.long p2), .second, .val (.int p3), .val (.int p4), .unset, .unset, .unset, .unset, .unset, .unset, .unset, .unset, .unset, .unset, .unset, .unset, .unset, .unset] [(.int (1 : Int32)), (.int p4)])) _
    refine XS.iand X0.here hx rfl (hb hby at_3) rfl ?_
    exact kt)
  obtain ⟨z7, pre3⟩ : ∃ (z7 : Int32), ∀ tgt, Steps p.tables e below (s₁.setTop (mkF m 14 #[.val (.long p0), .second, .val (.int p1), .val (.long p2), .second, .val (.int p3), .val (.int p4), .val (.int z7), .unset, .unset, .unset, .unset, .unset, .unset, .unset, .unset, .unset, .unset, .unset, .unset, .unset] [])) tgt → Steps p.tables e below (s₁.setTop (entryFrame m #[(.long p0), (.int p1), (.long p2), (.int p3), (.int p4)] maxLocals)) tgt := by
    by_cases hc2 : (p4 &&& (1 : Int32)) = (0 : Int32)
    · exact ⟨(0 : Int32), fun tgt kt => pre1 _ (by
        show Steps p.tables e below (s₁.setTop (mkF m 4 #[.val (.long p0), .second, .val (.int p1), .val (.long p2), .second, .val (.int p3), .val (.int p4), .unset, .unset, .unset, .unset, .unset, .unset, .unset, .unset, .unset, .unset, .unset, .unset, .unset, .unset] [(.int (p4 &&& (1 : Int32)))])) _
        refine XS.ifYes X0.here hx rfl (pc0 := 4) (pc' := 11) rfl (hb hby at_4) rfl ((if0 _ _).trans (teq hc2).1) (by decide) (by decide) ?_
        show Steps p.tables e below (s₁.setTop (mkF m 11 #[.val (.long p0), .second, .val (.int p1), .val (.long p2), .second, .val (.int p3), .val (.int p4), .unset, .unset, .unset, .unset, .unset, .unset, .unset, .unset, .unset, .unset, .unset, .unset, .unset, .unset] [])) _
        refine XS.iconst X0.here hx rfl (hb hby at_11) ?_
        show Steps p.tables e below (s₁.setTop (mkF m 12 #[.val (.long p0), .second, .val (.int p1), .val (.long p2), .second, .val (.int p3), .val (.int p4), .unset, .unset, .unset, .unset, .unset, .unset, .unset, .unset, .unset, .unset, .unset, .unset, .unset, .unset] [(.int (0 : Int32))])) _
        refine XS.istore X0.here hx rfl (hb hby at_12) rfl (l' := #[.val (.long p0), .second, .val (.int p1), .val (.long p2), .second, .val (.int p3), .val (.int p4), .val (.int (0 : Int32)), .unset, .unset, .unset, .unset, .unset, .unset, .unset, .unset, .unset, .unset, .unset, .unset, .unset]) rfl ?_
        exact kt)⟩
    · exact ⟨(1 : Int32), fun tgt kt => pre1 _ (by
        show Steps p.tables e below (s₁.setTop (mkF m 4 #[.val (.long p0), .second, .val (.int p1), .val (.long p2), .second, .val (.int p3), .val (.int p4), .unset, .unset, .unset, .unset, .unset, .unset, .unset, .unset, .unset, .unset, .unset, .unset, .unset, .unset] [(.int (p4 &&& (1 : Int32)))])) _
        refine XS.ifNo X0.here hx rfl (hb hby at_4) rfl ((if0 _ _).trans (feq hc2).1) ?_
        show Steps p.tables e below (s₁.setTop (mkF m 7 #[.val (.long p0), .second, .val (.int p1), .val (.long p2), .second, .val (.int p3), .val (.int p4), .unset, .unset, .unset, .unset, .unset, .unset, .unset, .unset, .unset, .unset, .unset, .unset, .unset, .unset] [])) _
        refine XS.iconst X0.here hx rfl (hb hby at_7) ?_
        show Steps p.tables e below (s₁.setTop (mkF m 8 #[.val (.long p0), .second, .val (.int p1), .val (.long p2), .second, .val (.int p3), .val (.int p4), .unset, .unset, .unset, .unset, .unset, .unset, .unset, .unset, .unset, .unset, .unset, .unset, .unset, .unset] [(.int (1 : Int32))])) _
        refine XS.goto X0.here hx rfl (pc0 := 8) (pc' := 12) rfl (hb hby at_8) (by decide) (by decide) ?_
        show Steps p.tables e below (s₁.setTop (mkF m 12 #[.val (.long p0), .second, .val (.int p1), .val (.long p2), .second, .val (.int p3), .val (.int p4), .unset, .unset, .unset, .unset, .unset, .unset, .unset, .unset, .unset, .unset, .unset, .unset, .unset, .unset] [(.int (1 : Int32))])) _
        refine XS.istore X0.here hx rfl (hb hby at_12) rfl (l' := #[.val (.long p0), .second, .val (.int p1), .val (.long p2), .second, .val (.int p3), .val (.int p4), .val (.int (1 : Int32)), .unset, .unset, .unset, .unset, .unset, .unset, .unset, .unset, .unset, .unset, .unset, .unset, .unset]) rfl ?_
        exact kt)⟩
  have pre5 : ∀ tgt, Steps p.tables e below (s₁.setTop (mkF m 18 #[.val (.long p0), .second, .val (.int p1), .val (.long p2), .second, .val (.int p3), .val (.int p4), .val (.int z7), .unset, .unset, .unset, .unset, .unset, .unset, .unset, .unset, .unset, .unset, .unset, .unset, .unset] [(.int (p4 &&& (2 : Int32)))])) tgt → Steps p.tables e below (s₁.setTop (entryFrame m #[(.long p0), (.int p1), (.long p2), (.int p3), (.int p4)] maxLocals)) tgt := fun tgt kt => pre3 _ (by
    show Steps p.tables e below (s₁.setTop (mkF m 14 #[.val (.long p0), .second, .val (.int p1), .val (.long p2), .second, .val (.int p3), .val (.int p4), .val (.int z7), .unset, .unset, .unset, .unset, .unset, .unset, .unset, .unset, .unset, .unset, .unset, .unset, .unset] [])) _
    refine XS.iload X0.here hx rfl (hb hby at_14) rfl ?_
    show Steps p.tables e below (s₁.setTop (mkF m 16 #[.val (.long p0), .second, .val (.int p1), .val (.long p2), .second, .val (.int p3), .val (.int p4), .val (.int z7), .unset, .unset, .unset, .unset, .unset, .unset, .unset, .unset, .unset, .unset, .unset, .unset, .unset] [(.int p4)])) _
    refine XS.iconst X0.here hx rfl (hb hby at_16) ?_
    show Steps p.tables e below (s₁.setTop (mkF m 17 #[.val (.long p0), .second, .val (.int p1), .val (.long p2), .second, .val (.int p3), .val (.int p4), .val (.int z7), .unset, .unset, .unset, .unset, .unset, .unset, .unset, .unset, .unset, .unset, .unset, .unset, .unset] [(.int (2 : Int32)), (.int p4)])) _
    refine XS.iand X0.here hx rfl (hb hby at_17) rfl ?_
    exact kt)
  obtain ⟨z8, pre7⟩ : ∃ (z8 : Int32), ∀ tgt, Steps p.tables e below (s₁.setTop (mkF m 28 #[.val (.long p0), .second, .val (.int p1), .val (.long p2), .second, .val (.int p3), .val (.int p4), .val (.int z7), .val (.int z8), .unset, .unset, .unset, .unset, .unset, .unset, .unset, .unset, .unset, .unset, .unset, .unset] [])) tgt → Steps p.tables e below (s₁.setTop (entryFrame m #[(.long p0), (.int p1), (.long p2), (.int p3), (.int p4)] maxLocals)) tgt := by
    by_cases hc6 : (p4 &&& (2 : Int32)) = (0 : Int32)
    · exact ⟨(0 : Int32), fun tgt kt => pre5 _ (by
        show Steps p.tables e below (s₁.setTop (mkF m 18 #[.val (.long p0), .second, .val (.int p1), .val (.long p2), .second, .val (.int p3), .val (.int p4), .val (.int z7), .unset, .unset, .unset, .unset, .unset, .unset, .unset, .unset, .unset, .unset, .unset, .unset, .unset] [(.int (p4 &&& (2 : Int32)))])) _
        refine XS.ifYes X0.here hx rfl (pc0 := 18) (pc' := 25) rfl (hb hby at_18) rfl ((if0 _ _).trans (teq hc6).1) (by decide) (by decide) ?_
        show Steps p.tables e below (s₁.setTop (mkF m 25 #[.val (.long p0), .second, .val (.int p1), .val (.long p2), .second, .val (.int p3), .val (.int p4), .val (.int z7), .unset, .unset, .unset, .unset, .unset, .unset, .unset, .unset, .unset, .unset, .unset, .unset, .unset] [])) _
        refine XS.iconst X0.here hx rfl (hb hby at_25) ?_
        show Steps p.tables e below (s₁.setTop (mkF m 26 #[.val (.long p0), .second, .val (.int p1), .val (.long p2), .second, .val (.int p3), .val (.int p4), .val (.int z7), .unset, .unset, .unset, .unset, .unset, .unset, .unset, .unset, .unset, .unset, .unset, .unset, .unset] [(.int (0 : Int32))])) _
        refine XS.istore X0.here hx rfl (hb hby at_26) rfl (l' := #[.val (.long p0), .second, .val (.int p1), .val (.long p2), .second, .val (.int p3), .val (.int p4), .val (.int z7), .val (.int (0 : Int32)), .unset, .unset, .unset, .unset, .unset, .unset, .unset, .unset, .unset, .unset, .unset, .unset]) rfl ?_
        exact kt)⟩
    · exact ⟨(1 : Int32), fun tgt kt => pre5 _ (by
        show Steps p.tables e below (s₁.setTop (mkF m 18 #[.val (.long p0), .second, .val (.int p1), .val (.long p2), .second, .val (.int p3), .val (.int p4), .val (.int z7), .unset, .unset, .unset, .unset, .unset, .unset, .unset, .unset, .unset, .unset, .unset, .unset, .unset] [(.int (p4 &&& (2 : Int32)))])) _
        refine XS.ifNo X0.here hx rfl (hb hby at_18) rfl ((if0 _ _).trans (feq hc6).1) ?_
        show Steps p.tables e below (s₁.setTop (mkF m 21 #[.val (.long p0), .second, .val (.int p1), .val (.long p2), .second, .val (.int p3), .val (.int p4), .val (.int z7), .unset, .unset, .unset, .unset, .unset, .unset, .unset, .unset, .unset, .unset, .unset, .unset, .unset] [])) _
        refine XS.iconst X0.here hx rfl (hb hby at_21) ?_
        show Steps p.tables e below (s₁.setTop (mkF m 22 #[.val (.long p0), .second, .val (.int p1), .val (.long p2), .second, .val (.int p3), .val (.int p4), .val (.int z7), .unset, .unset, .unset, .unset, .unset, .unset, .unset, .unset, .unset, .unset, .unset, .unset, .unset] [(.int (1 : Int32))])) _
        refine XS.goto X0.here hx rfl (pc0 := 22) (pc' := 26) rfl (hb hby at_22) (by decide) (by decide) ?_
        show Steps p.tables e below (s₁.setTop (mkF m 26 #[.val (.long p0), .second, .val (.int p1), .val (.long p2), .second, .val (.int p3), .val (.int p4), .val (.int z7), .unset, .unset, .unset, .unset, .unset, .unset, .unset, .unset, .unset, .unset, .unset, .unset, .unset] [(.int (1 : Int32))])) _
        refine XS.istore X0.here hx rfl (hb hby at_26) rfl (l' := #[.val (.long p0), .second, .val (.int p1), .val (.long p2), .second, .val (.int p3), .val (.int p4), .val (.int z7), .val (.int (1 : Int32)), .unset, .unset, .unset, .unset, .unset, .unset, .unset, .unset, .unset, .unset, .unset, .unset]) rfl ?_
        exact kt)⟩
  have pre9 : ∀ tgt, Steps p.tables e below (s₁.setTop (mkF m 32 #[.val (.long p0), .second, .val (.int p1), .val (.long p2), .second, .val (.int p3), .val (.int p4), .val (.int z7), .val (.int z8), .unset, .unset, .unset, .unset, .unset, .unset, .unset, .unset, .unset, .unset, .unset, .unset] [(.int (p4 &&& (4 : Int32)))])) tgt → Steps p.tables e below (s₁.setTop (entryFrame m #[(.long p0), (.int p1), (.long p2), (.int p3), (.int p4)] maxLocals)) tgt := fun tgt kt => pre7 _ (by
    show Steps p.tables e below (s₁.setTop (mkF m 28 #[.val (.long p0), .second, .val (.int p1), .val (.long p2), .second, .val (.int p3), .val (.int p4), .val (.int z7), .val (.int z8), .unset, .unset, .unset, .unset, .unset, .unset, .unset, .unset, .unset, .unset, .unset, .unset] [])) _
    refine XS.iload X0.here hx rfl (hb hby at_28) rfl ?_
    show Steps p.tables e below (s₁.setTop (mkF m 30 #[.val (.long p0), .second, .val (.int p1), .val (.long p2), .second, .val (.int p3), .val (.int p4), .val (.int z7), .val (.int z8), .unset, .unset, .unset, .unset, .unset, .unset, .unset, .unset, .unset, .unset, .unset, .unset] [(.int p4)])) _
    refine XS.iconst X0.here hx rfl (hb hby at_30) ?_
    show Steps p.tables e below (s₁.setTop (mkF m 31 #[.val (.long p0), .second, .val (.int p1), .val (.long p2), .second, .val (.int p3), .val (.int p4), .val (.int z7), .val (.int z8), .unset, .unset, .unset, .unset, .unset, .unset, .unset, .unset, .unset, .unset, .unset, .unset] [(.int (4 : Int32)), (.int p4)])) _
    refine XS.iand X0.here hx rfl (hb hby at_31) rfl ?_
    exact kt)
  obtain ⟨z9, pre11⟩ : ∃ (z9 : Int32), ∀ tgt, Steps p.tables e below (s₁.setTop (mkF m 42 #[.val (.long p0), .second, .val (.int p1), .val (.long p2), .second, .val (.int p3), .val (.int p4), .val (.int z7), .val (.int z8), .val (.int z9), .unset, .unset, .unset, .unset, .unset, .unset, .unset, .unset, .unset, .unset, .unset] [])) tgt → Steps p.tables e below (s₁.setTop (entryFrame m #[(.long p0), (.int p1), (.long p2), (.int p3), (.int p4)] maxLocals)) tgt := by
    by_cases hc10 : (p4 &&& (4 : Int32)) = (0 : Int32)
    · exact ⟨(0 : Int32), fun tgt kt => pre9 _ (by
        show Steps p.tables e below (s₁.setTop (mkF m 32 #[.val (.long p0), .second, .val (.int p1), .val (.long p2), .second, .val (.int p3), .val (.int p4), .val (.int z7), .val (.int z8), .unset, .unset, .unset, .unset, .unset, .unset, .unset, .unset, .unset, .unset, .unset, .unset] [(.int (p4 &&& (4 : Int32)))])) _
        refine XS.ifYes X0.here hx rfl (pc0 := 32) (pc' := 39) rfl (hb hby at_32) rfl ((if0 _ _).trans (teq hc10).1) (by decide) (by decide) ?_
        show Steps p.tables e below (s₁.setTop (mkF m 39 #[.val (.long p0), .second, .val (.int p1), .val (.long p2), .second, .val (.int p3), .val (.int p4), .val (.int z7), .val (.int z8), .unset, .unset, .unset, .unset, .unset, .unset, .unset, .unset, .unset, .unset, .unset, .unset] [])) _
        refine XS.iconst X0.here hx rfl (hb hby at_39) ?_
        show Steps p.tables e below (s₁.setTop (mkF m 40 #[.val (.long p0), .second, .val (.int p1), .val (.long p2), .second, .val (.int p3), .val (.int p4), .val (.int z7), .val (.int z8), .unset, .unset, .unset, .unset, .unset, .unset, .unset, .unset, .unset, .unset, .unset, .unset] [(.int (0 : Int32))])) _
        refine XS.istore X0.here hx rfl (hb hby at_40) rfl (l' := #[.val (.long p0), .second, .val (.int p1), .val (.long p2), .second, .val (.int p3), .val (.int p4), .val (.int z7), .val (.int z8), .val (.int (0 : Int32)), .unset, .unset, .unset, .unset, .unset, .unset, .unset, .unset, .unset, .unset, .unset]) rfl ?_
        exact kt)⟩
    · exact ⟨(1 : Int32), fun tgt kt => pre9 _ (by
        show Steps p.tables e below (s₁.setTop (mkF m 32 #[.val (.long p0), .second, .val (.int p1), .val (.long p2), .second, .val (.int p3), .val (.int p4), .val (.int z7), .val (.int z8), .unset, .unset, .unset, .unset, .unset, .unset, .unset, .unset, .unset, .unset, .unset, .unset] [(.int (p4 &&& (4 : Int32)))])) _
        refine XS.ifNo X0.here hx rfl (hb hby at_32) rfl ((if0 _ _).trans (feq hc10).1) ?_
        show Steps p.tables e below (s₁.setTop (mkF m 35 #[.val (.long p0), .second, .val (.int p1), .val (.long p2), .second, .val (.int p3), .val (.int p4), .val (.int z7), .val (.int z8), .unset, .unset, .unset, .unset, .unset, .unset, .unset, .unset, .unset, .unset, .unset, .unset] [])) _
        refine XS.iconst X0.here hx rfl (hb hby at_35) ?_
        show Steps p.tables e below (s₁.setTop (mkF m 36 #[.val (.long p0), .second, .val (.int p1), .val (.long p2), .second, .val (.int p3), .val (.int p4), .val (.int z7), .val (.int z8), .unset, .unset, .unset, .unset, .unset, .unset, .unset, .unset, .unset, .unset, .unset, .unset] [(.int (1 : Int32))])) _
        refine XS.goto X0.here hx rfl (pc0 := 36) (pc' := 40) rfl (hb hby at_36) (by decide) (by decide) ?_
        show Steps p.tables e below (s₁.setTop (mkF m 40 #[.val (.long p0), .second, .val (.int p1), .val (.long p2), .second, .val (.int p3), .val (.int p4), .val (.int z7), .val (.int z8), .unset, .unset, .unset, .unset, .unset, .unset, .unset, .unset, .unset, .unset, .unset, .unset] [(.int (1 : Int32))])) _
        refine XS.istore X0.here hx rfl (hb hby at_40) rfl (l' := #[.val (.long p0), .second, .val (.int p1), .val (.long p2), .second, .val (.int p3), .val (.int p4), .val (.int z7), .val (.int z8), .val (.int (1 : Int32)), .unset, .unset, .unset, .unset, .unset, .unset, .unset, .unset, .unset, .unset, .unset]) rfl ?_
        exact kt)⟩
  have pre13 : ∀ tgt, Steps p.tables e below (s₁.setTop (mkF m 47 #[.val (.long p0), .second, .val (.int p1), .val (.long p2), .second, .val (.int p3), .val (.int p4), .val (.int z7), .val (.int z8), .val (.int z9), .unset, .unset, .unset, .unset, .unset, .unset, .unset, .unset, .unset, .unset, .unset] [(.int (p4 &&& (8 : Int32)))])) tgt → Steps p.tables e below (s₁.setTop (entryFrame m #[(.long p0), (.int p1), (.long p2), (.int p3), (.int p4)] maxLocals)) tgt := fun tgt kt => pre11 _ (by
    show Steps p.tables e below (s₁.setTop (mkF m 42 #[.val (.long p0), .second, .val (.int p1), .val (.long p2), .second, .val (.int p3), .val (.int p4), .val (.int z7), .val (.int z8), .val (.int z9), .unset, .unset, .unset, .unset, .unset, .unset, .unset, .unset, .unset, .unset, .unset] [])) _
    refine XS.iload X0.here hx rfl (hb hby at_42) rfl ?_
    show Steps p.tables e below (s₁.setTop (mkF m 44 #[.val (.long p0), .second, .val (.int p1), .val (.long p2), .second, .val (.int p3), .val (.int p4), .val (.int z7), .val (.int z8), .val (.int z9), .unset, .unset, .unset, .unset, .unset, .unset, .unset, .unset, .unset, .unset, .unset] [(.int p4)])) _
    refine XS.bipush X0.here hx rfl (hb hby at_44) ?_
    show Steps p.tables e below (s₁.setTop (mkF m 46 #[.val (.long p0), .second, .val (.int p1), .val (.long p2), .second, .val (.int p3), .val (.int p4), .val (.int z7), .val (.int z8), .val (.int z9), .unset, .unset, .unset, .unset, .unset, .unset, .unset, .unset, .unset, .unset, .unset] [(.int (8 : Int32)), (.int p4)])) _
    refine XS.iand X0.here hx rfl (hb hby at_46) rfl ?_
    exact kt)
  obtain ⟨z10, pre15⟩ : ∃ (z10 : Int32), ∀ tgt, Steps p.tables e below (s₁.setTop (mkF m 57 #[.val (.long p0), .second, .val (.int p1), .val (.long p2), .second, .val (.int p3), .val (.int p4), .val (.int z7), .val (.int z8), .val (.int z9), .val (.int z10), .unset, .unset, .unset, .unset, .unset, .unset, .unset, .unset, .unset, .unset] [])) tgt → Steps p.tables e below (s₁.setTop (entryFrame m #[(.long p0), (.int p1), (.long p2), (.int p3), (.int p4)] maxLocals)) tgt := by
    by_cases hc14 : (p4 &&& (8 : Int32)) = (0 : Int32)
    · exact ⟨(0 : Int32), fun tgt kt => pre13 _ (by
        show Steps p.tables e below (s₁.setTop (mkF m 47 #[.val (.long p0), .second, .val (.int p1), .val (.long p2), .second, .val (.int p3), .val (.int p4), .val (.int z7), .val (.int z8), .val (.int z9), .unset, .unset, .unset, .unset, .unset, .unset, .unset, .unset, .unset, .unset, .unset] [(.int (p4 &&& (8 : Int32)))])) _
        refine XS.ifYes X0.here hx rfl (pc0 := 47) (pc' := 54) rfl (hb hby at_47) rfl ((if0 _ _).trans (teq hc14).1) (by decide) (by decide) ?_
        show Steps p.tables e below (s₁.setTop (mkF m 54 #[.val (.long p0), .second, .val (.int p1), .val (.long p2), .second, .val (.int p3), .val (.int p4), .val (.int z7), .val (.int z8), .val (.int z9), .unset, .unset, .unset, .unset, .unset, .unset, .unset, .unset, .unset, .unset, .unset] [])) _
        refine XS.iconst X0.here hx rfl (hb hby at_54) ?_
        show Steps p.tables e below (s₁.setTop (mkF m 55 #[.val (.long p0), .second, .val (.int p1), .val (.long p2), .second, .val (.int p3), .val (.int p4), .val (.int z7), .val (.int z8), .val (.int z9), .unset, .unset, .unset, .unset, .unset, .unset, .unset, .unset, .unset, .unset, .unset] [(.int (0 : Int32))])) _
        refine XS.istore X0.here hx rfl (hb hby at_55) rfl (l' := #[.val (.long p0), .second, .val (.int p1), .val (.long p2), .second, .val (.int p3), .val (.int p4), .val (.int z7), .val (.int z8), .val (.int z9), .val (.int (0 : Int32)), .unset, .unset, .unset, .unset, .unset, .unset, .unset, .unset, .unset, .unset]) rfl ?_
        exact kt)⟩
    · exact ⟨(1 : Int32), fun tgt kt => pre13 _ (by
        show Steps p.tables e below (s₁.setTop (mkF m 47 #[.val (.long p0), .second, .val (.int p1), .val (.long p2), .second, .val (.int p3), .val (.int p4), .val (.int z7), .val (.int z8), .val (.int z9), .unset, .unset, .unset, .unset, .unset, .unset, .unset, .unset, .unset, .unset, .unset] [(.int (p4 &&& (8 : Int32)))])) _
        refine XS.ifNo X0.here hx rfl (hb hby at_47) rfl ((if0 _ _).trans (feq hc14).1) ?_
        show Steps p.tables e below (s₁.setTop (mkF m 50 #[.val (.long p0), .second, .val (.int p1), .val (.long p2), .second, .val (.int p3), .val (.int p4), .val (.int z7), .val (.int z8), .val (.int z9), .unset, .unset, .unset, .unset, .unset, .unset, .unset, .unset, .unset, .unset, .unset] [])) _
        refine XS.iconst X0.here hx rfl (hb hby at_50) ?_
        show Steps p.tables e below (s₁.setTop (mkF m 51 #[.val (.long p0), .second, .val (.int p1), .val (.long p2), .second, .val (.int p3), .val (.int p4), .val (.int z7), .val (.int z8), .val (.int z9), .unset, .unset, .unset, .unset, .unset, .unset, .unset, .unset, .unset, .unset, .unset] [(.int (1 : Int32))])) _
        refine XS.goto X0.here hx rfl (pc0 := 51) (pc' := 55) rfl (hb hby at_51) (by decide) (by decide) ?_
        show Steps p.tables e below (s₁.setTop (mkF m 55 #[.val (.long p0), .second, .val (.int p1), .val (.long p2), .second, .val (.int p3), .val (.int p4), .val (.int z7), .val (.int z8), .val (.int z9), .unset, .unset, .unset, .unset, .unset, .unset, .unset, .unset, .unset, .unset, .unset] [(.int (1 : Int32))])) _
        refine XS.istore X0.here hx rfl (hb hby at_55) rfl (l' := #[.val (.long p0), .second, .val (.int p1), .val (.long p2), .second, .val (.int p3), .val (.int p4), .val (.int z7), .val (.int z8), .val (.int z9), .val (.int (1 : Int32)), .unset, .unset, .unset, .unset, .unset, .unset, .unset, .unset, .unset, .unset]) rfl ?_
        exact kt)⟩
  have pre17 : ∀ tgt, Steps p.tables e below (s₁.setTop (mkF m 59 #[.val (.long p0), .second, .val (.int p1), .val (.long p2), .second, .val (.int p3), .val (.int p4), .val (.int z7), .val (.int z8), .val (.int z9), .val (.int z10), .unset, .unset, .unset, .unset, .unset, .unset, .unset, .unset, .unset, .unset] [(.int z7)])) tgt → Steps p.tables e below (s₁.setTop (entryFrame m #[(.long p0), (.int p1), (.long p2), (.int p3), (.int p4)] maxLocals)) tgt := fun tgt kt => pre15 _ (by
    show Steps p.tables e below (s₁.setTop (mkF m 57 #[.val (.long p0), .second, .val (.int p1), .val (.long p2), .second, .val (.int p3), .val (.int p4), .val (.int z7), .val (.int z8), .val (.int z9), .val (.int z10), .unset, .unset, .unset, .unset, .unset, .unset, .unset, .unset, .unset, .unset] [])) _
    refine XS.iload X0.here hx rfl (hb hby at_57) rfl ?_
    exact kt)
  obtain ⟨i1, e1, i2, e2, hm19, pre18⟩ : ∃ (i1 : Int64) (e1 : Int32) (i2 : Int64) (e2 : Int32), (own_ok i1 e1 ∧ own_ok i2 e2) ∧ ∀ tgt, Steps p.tables e below (s₁.setTop (mkF m 154 #[.val (.long p0), .second, .val (.int p1), .val (.long p2), .second, .val (.int p3), .val (.int p4), .val (.int z7), .val (.int z8), .val (.int z9), .val (.int z10), .val (.long i1), .second, .val (.int e1), .val (.long i2), .second, .val (.int e2), .unset, .unset, .unset, .unset] [])) tgt → Steps p.tables e below (s₁.setTop (entryFrame m #[(.long p0), (.int p1), (.long p2), (.int p3), (.int p4)] maxLocals)) tgt := by
    by_cases hz7 : z7 = (0 : Int32)
    · by_cases hz8 : z8 = (0 : Int32)
      · by_cases hz9 : z9 = (0 : Int32)
        · by_cases hz10 : z10 = (0 : Int32)
          · exact ⟨(p0 &&& (9223372036854775807 : Int64)), ((p1 &&& (32767 : Int32)).toInt16.toInt32), (p2 &&& (9223372036854775807 : Int64)), ((p3 &&& (32767 : Int32)).toInt16.toInt32), ⟨(own_okM (own_and64 _) (own_and15 _)), (own_okM (own_and64 _) (own_and15 _))⟩, fun tgt kt => pre17 _ (by
              show Steps p.tables e below (s₁.setTop (mkF m 59 #[.val (.long p0), .second, .val (.int p1), .val (.long p2), .second, .val (.int p3), .val (.int p4), .val (.int z7), .val (.int z8), .val (.int z9), .val (.int z10), .unset, .unset, .unset, .unset, .unset, .unset, .unset, .unset, .unset, .unset] [(.int z7)])) _
              refine XS.ifYes X0.here hx rfl (pc0 := 59) (pc' := 68) rfl (hb hby at_59) rfl ((if0 _ _).trans (teq hz7).1) (by decide) (by decide) ?_
              show Steps p.tables e below (s₁.setTop (mkF m 68 #[.val (.long p0), .second, .val (.int p1), .val (.long p2), .second, .val (.int p3), .val (.int p4), .val (.int z7), .val (.int z8), .val (.int z9), .val (.int z10), .unset, .unset, .unset, .unset, .unset, .unset, .unset, .unset, .unset, .unset] [])) _
              refine XS.lloadN X0.here hx rfl (hb hby at_68) rfl ?_
              show Steps p.tables e below (s₁.setTop (mkF m 69 #[.val (.long p0), .second, .val (.int p1), .val (.long p2), .second, .val (.int p3), .val (.int p4), .val (.int z7), .val (.int z8), .val (.int z9), .val (.int z10), .unset, .unset, .unset, .unset, .unset, .unset, .unset, .unset, .unset, .unset] [(.long p0)])) _
              refine X0.ldc2Long hx hown (mvT hZ (hw _ (List.mem_of_getElem? (i := 0) rfl))) (g := (mkF m 69 #[.val (.long p0), .second, .val (.int p1), .val (.long p2), .second, .val (.int p3), .val (.int p4), .val (.int z7), .val (.int z8), .val (.int z9), .val (.int z10), .unset, .unset, .unset, .unset, .unset, .unset, .unset, .unset, .unset, .unset] [(.long p0)])) rfl (hb hby at_69) _ ?_
              show Steps p.tables e below (s₁.setTop (mkF m 72 #[.val (.long p0), .second, .val (.int p1), .val (.long p2), .second, .val (.int p3), .val (.int p4), .val (.int z7), .val (.int z8), .val (.int z9), .val (.int z10), .unset, .unset, .unset, .unset, .unset, .unset, .unset, .unset, .unset, .unset] [(.long (9223372036854775807 : Int64)), (.long p0)])) _
              refine XS.land X0.here hx rfl (hb hby at_72) rfl ?_
              show Steps p.tables e below (s₁.setTop (mkF m 73 #[.val (.long p0), .second, .val (.int p1), .val (.long p2), .second, .val (.int p3), .val (.int p4), .val (.int z7), .val (.int z8), .val (.int z9), .val (.int z10), .unset, .unset, .unset, .unset, .unset, .unset, .unset, .unset, .unset, .unset] [(.long (p0 &&& (9223372036854775807 : Int64)))])) _
              refine XS.lstore X0.here hx rfl (hb hby at_73) rfl (l' := #[.val (.long p0), .second, .val (.int p1), .val (.long p2), .second, .val (.int p3), .val (.int p4), .val (.int z7), .val (.int z8), .val (.int z9), .val (.int z10), .val (.long (p0 &&& (9223372036854775807 : Int64))), .second, .unset, .unset, .unset, .unset, .unset, .unset, .unset, .unset]) rfl ?_
              show Steps p.tables e below (s₁.setTop (mkF m 75 #[.val (.long p0), .second, .val (.int p1), .val (.long p2), .second, .val (.int p3), .val (.int p4), .val (.int z7), .val (.int z8), .val (.int z9), .val (.int z10), .val (.long (p0 &&& (9223372036854775807 : Int64))), .second, .unset, .unset, .unset, .unset, .unset, .unset, .unset, .unset] [])) _
              refine XS.iload X0.here hx rfl (hb hby at_75) rfl ?_
              show Steps p.tables e below (s₁.setTop (mkF m 77 #[.val (.long p0), .second, .val (.int p1), .val (.long p2), .second, .val (.int p3), .val (.int p4), .val (.int z7), .val (.int z8), .val (.int z9), .val (.int z10), .val (.long (p0 &&& (9223372036854775807 : Int64))), .second, .unset, .unset, .unset, .unset, .unset, .unset, .unset, .unset] [(.int z7)])) _
              refine XS.ifYes X0.here hx rfl (pc0 := 77) (pc' := 84) rfl (hb hby at_77) rfl ((if0 _ _).trans (teq hz7).1) (by decide) (by decide) ?_
              show Steps p.tables e below (s₁.setTop (mkF m 84 #[.val (.long p0), .second, .val (.int p1), .val (.long p2), .second, .val (.int p3), .val (.int p4), .val (.int z7), .val (.int z8), .val (.int z9), .val (.int z10), .val (.long (p0 &&& (9223372036854775807 : Int64))), .second, .unset, .unset, .unset, .unset, .unset, .unset, .unset, .unset] [])) _
              refine XS.iloadN X0.here hx rfl (hb hby at_84) rfl ?_
              show Steps p.tables e below (s₁.setTop (mkF m 85 #[.val (.long p0), .second, .val (.int p1), .val (.long p2), .second, .val (.int p3), .val (.int p4), .val (.int z7), .val (.int z8), .val (.int z9), .val (.int z10), .val (.long (p0 &&& (9223372036854775807 : Int64))), .second, .unset, .unset, .unset, .unset, .unset, .unset, .unset, .unset] [(.int p1)])) _
              refine XS.sipush X0.here hx rfl (hb hby at_85) ?_
              show Steps p.tables e below (s₁.setTop (mkF m 88 #[.val (.long p0), .second, .val (.int p1), .val (.long p2), .second, .val (.int p3), .val (.int p4), .val (.int z7), .val (.int z8), .val (.int z9), .val (.int z10), .val (.long (p0 &&& (9223372036854775807 : Int64))), .second, .unset, .unset, .unset, .unset, .unset, .unset, .unset, .unset] [(.int (32767 : Int32)), (.int p1)])) _
              refine XS.iand X0.here hx rfl (hb hby at_88) rfl ?_
              show Steps p.tables e below (s₁.setTop (mkF m 89 #[.val (.long p0), .second, .val (.int p1), .val (.long p2), .second, .val (.int p3), .val (.int p4), .val (.int z7), .val (.int z8), .val (.int z9), .val (.int z10), .val (.long (p0 &&& (9223372036854775807 : Int64))), .second, .unset, .unset, .unset, .unset, .unset, .unset, .unset, .unset] [(.int (p1 &&& (32767 : Int32)))])) _
              refine XS.i2s X0.here hx rfl (hb hby at_89) rfl ?_
              show Steps p.tables e below (s₁.setTop (mkF m 90 #[.val (.long p0), .second, .val (.int p1), .val (.long p2), .second, .val (.int p3), .val (.int p4), .val (.int z7), .val (.int z8), .val (.int z9), .val (.int z10), .val (.long (p0 &&& (9223372036854775807 : Int64))), .second, .unset, .unset, .unset, .unset, .unset, .unset, .unset, .unset] [(.int ((p1 &&& (32767 : Int32)).toInt16.toInt32))])) _
              refine XS.istore X0.here hx rfl (hb hby at_90) rfl (l' := #[.val (.long p0), .second, .val (.int p1), .val (.long p2), .second, .val (.int p3), .val (.int p4), .val (.int z7), .val (.int z8), .val (.int z9), .val (.int z10), .val (.long (p0 &&& (9223372036854775807 : Int64))), .second, .val (.int ((p1 &&& (32767 : Int32)).toInt16.toInt32)), .unset, .unset, .unset, .unset, .unset, .unset, .unset]) rfl ?_
              show Steps p.tables e below (s₁.setTop (mkF m 92 #[.val (.long p0), .second, .val (.int p1), .val (.long p2), .second, .val (.int p3), .val (.int p4), .val (.int z7), .val (.int z8), .val (.int z9), .val (.int z10), .val (.long (p0 &&& (9223372036854775807 : Int64))), .second, .val (.int ((p1 &&& (32767 : Int32)).toInt16.toInt32)), .unset, .unset, .unset, .unset, .unset, .unset, .unset] [])) _
              refine XS.iload X0.here hx rfl (hb hby at_92) rfl ?_
              show Steps p.tables e below (s₁.setTop (mkF m 94 #[.val (.long p0), .second, .val (.int p1), .val (.long p2), .second, .val (.int p3), .val (.int p4), .val (.int z7), .val (.int z8), .val (.int z9), .val (.int z10), .val (.long (p0 &&& (9223372036854775807 : Int64))), .second, .val (.int ((p1 &&& (32767 : Int32)).toInt16.toInt32)), .unset, .unset, .unset, .unset, .unset, .unset, .unset] [(.int z8)])) _
              refine XS.ifYes X0.here hx rfl (pc0 := 94) (pc' := 108) rfl (hb hby at_94) rfl ((if0 _ _).trans (teq hz8).1) (by decide) (by decide) ?_
              show Steps p.tables e below (s₁.setTop (mkF m 108 #[.val (.long p0), .second, .val (.int p1), .val (.long p2), .second, .val (.int p3), .val (.int p4), .val (.int z7), .val (.int z8), .val (.int z9), .val (.int z10), .val (.long (p0 &&& (9223372036854775807 : Int64))), .second, .val (.int ((p1 &&& (32767 : Int32)).toInt16.toInt32)), .unset, .unset, .unset, .unset, .unset, .unset, .unset] [])) _
              refine XS.iload X0.here hx rfl (hb hby at_108) rfl ?_
              show Steps p.tables e below (s₁.setTop (mkF m 110 #[.val (.long p0), .second, .val (.int p1), .val (.long p2), .second, .val (.int p3), .val (.int p4), .val (.int z7), .val (.int z8), .val (.int z9), .val (.int z10), .val (.long (p0 &&& (9223372036854775807 : Int64))), .second, .val (.int ((p1 &&& (32767 : Int32)).toInt16.toInt32)), .unset, .unset, .unset, .unset, .unset, .unset, .unset] [(.int z9)])) _
              refine XS.ifYes X0.here hx rfl (pc0 := 110) (pc' := 123) rfl (hb hby at_110) rfl ((if0 _ _).trans (teq hz9).1) (by decide) (by decide) ?_
              show Steps p.tables e below (s₁.setTop (mkF m 123 #[.val (.long p0), .second, .val (.int p1), .val (.long p2), .second, .val (.int p3), .val (.int p4), .val (.int z7), .val (.int z8), .val (.int z9), .val (.int z10), .val (.long (p0 &&& (9223372036854775807 : Int64))), .second, .val (.int ((p1 &&& (32767 : Int32)).toInt16.toInt32)), .unset, .unset, .unset, .unset, .unset, .unset, .unset] [])) _
              refine XS.lloadN X0.here hx rfl (hb hby at_123) rfl ?_
              show Steps p.tables e below (s₁.setTop (mkF m 124 #[.val (.long p0), .second, .val (.int p1), .val (.long p2), .second, .val (.int p3), .val (.int p4), .val (.int z7), .val (.int z8), .val (.int z9), .val (.int z10), .val (.long (p0 &&& (9223372036854775807 : Int64))), .second, .val (.int ((p1 &&& (32767 : Int32)).toInt16.toInt32)), .unset, .unset, .unset, .unset, .unset, .unset, .unset] [(.long p2)])) _
              refine X0.ldc2Long hx hown (mvT hZ (hw _ (List.mem_of_getElem? (i := 0) rfl))) (g := (mkF m 124 #[.val (.long p0), .second, .val (.int p1), .val (.long p2), .second, .val (.int p3), .val (.int p4), .val (.int z7), .val (.int z8), .val (.int z9), .val (.int z10), .val (.long (p0 &&& (9223372036854775807 : Int64))), .second, .val (.int ((p1 &&& (32767 : Int32)).toInt16.toInt32)), .unset, .unset, .unset, .unset, .unset, .unset, .unset] [(.long p2)])) rfl (hb hby at_124) _ ?_
              show Steps p.tables e below (s₁.setTop (mkF m 127 #[.val (.long p0), .second, .val (.int p1), .val (.long p2), .second, .val (.int p3), .val (.int p4), .val (.int z7), .val (.int z8), .val (.int z9), .val (.int z10), .val (.long (p0 &&& (9223372036854775807 : Int64))), .second, .val (.int ((p1 &&& (32767 : Int32)).toInt16.toInt32)), .unset, .unset, .unset, .unset, .unset, .unset, .unset] [(.long (9223372036854775807 : Int64)), (.long p2)])) _
              refine XS.land X0.here hx rfl (hb hby at_127) rfl ?_
              show Steps p.tables e below (s₁.setTop (mkF m 128 #[.val (.long p0), .second, .val (.int p1), .val (.long p2), .second, .val (.int p3), .val (.int p4), .val (.int z7), .val (.int z8), .val (.int z9), .val (.int z10), .val (.long (p0 &&& (9223372036854775807 : Int64))), .second, .val (.int ((p1 &&& (32767 : Int32)).toInt16.toInt32)), .unset, .unset, .unset, .unset, .unset, .unset, .unset] [(.long (p2 &&& (9223372036854775807 : Int64)))])) _
              refine XS.lstore X0.here hx rfl (hb hby at_128) rfl (l' := #[.val (.long p0), .second, .val (.int p1), .val (.long p2), .second, .val (.int p3), .val (.int p4), .val (.int z7), .val (.int z8), .val (.int z9), .val (.int z10), .val (.long (p0 &&& (9223372036854775807 : Int64))), .second, .val (.int ((p1 &&& (32767 : Int32)).toInt16.toInt32)), .val (.long (p2 &&& (9223372036854775807 : Int64))), .second, .unset, .unset, .unset, .unset, .unset]) rfl ?_
              show Steps p.tables e below (s₁.setTop (mkF m 130 #[.val (.long p0), .second, .val (.int p1), .val (.long p2), .second, .val (.int p3), .val (.int p4), .val (.int z7), .val (.int z8), .val (.int z9), .val (.int z10), .val (.long (p0 &&& (9223372036854775807 : Int64))), .second, .val (.int ((p1 &&& (32767 : Int32)).toInt16.toInt32)), .val (.long (p2 &&& (9223372036854775807 : Int64))), .second, .unset, .unset, .unset, .unset, .unset] [])) _
              refine XS.iload X0.here hx rfl (hb hby at_130) rfl ?_
              show Steps p.tables e below (s₁.setTop (mkF m 132 #[.val (.long p0), .second, .val (.int p1), .val (.long p2), .second, .val (.int p3), .val (.int p4), .val (.int z7), .val (.int z8), .val (.int z9), .val (.int z10), .val (.long (p0 &&& (9223372036854775807 : Int64))), .second, .val (.int ((p1 &&& (32767 : Int32)).toInt16.toInt32)), .val (.long (p2 &&& (9223372036854775807 : Int64))), .second, .unset, .unset, .unset, .unset, .unset] [(.int z10)])) _
              refine XS.ifYes X0.here hx rfl (pc0 := 132) (pc' := 145) rfl (hb hby at_132) rfl ((if0 _ _).trans (teq hz10).1) (by decide) (by decide) ?_
              show Steps p.tables e below (s₁.setTop (mkF m 145 #[.val (.long p0), .second, .val (.int p1), .val (.long p2), .second, .val (.int p3), .val (.int p4), .val (.int z7), .val (.int z8), .val (.int z9), .val (.int z10), .val (.long (p0 &&& (9223372036854775807 : Int64))), .second, .val (.int ((p1 &&& (32767 : Int32)).toInt16.toInt32)), .val (.long (p2 &&& (9223372036854775807 : Int64))), .second, .unset, .unset, .unset, .unset, .unset] [])) _
              refine XS.iload X0.here hx rfl (hb hby at_145) rfl ?_
              show Steps p.tables e below (s₁.setTop (mkF m 147 #[.val (.long p0), .second, .val (.int p1), .val (.long p2), .second, .val (.int p3), .val (.int p4), .val (.int z7), .val (.int z8), .val (.int z9), .val (.int z10), .val (.long (p0 &&& (9223372036854775807 : Int64))), .second, .val (.int ((p1 &&& (32767 : Int32)).toInt16.toInt32)), .val (.long (p2 &&& (9223372036854775807 : Int64))), .second, .unset, .unset, .unset, .unset, .unset] [(.int p3)])) _
              refine XS.sipush X0.here hx rfl (hb hby at_147) ?_
              show Steps p.tables e below (s₁.setTop (mkF m 150 #[.val (.long p0), .second, .val (.int p1), .val (.long p2), .second, .val (.int p3), .val (.int p4), .val (.int z7), .val (.int z8), .val (.int z9), .val (.int z10), .val (.long (p0 &&& (9223372036854775807 : Int64))), .second, .val (.int ((p1 &&& (32767 : Int32)).toInt16.toInt32)), .val (.long (p2 &&& (9223372036854775807 : Int64))), .second, .unset, .unset, .unset, .unset, .unset] [(.int (32767 : Int32)), (.int p3)])) _
              refine XS.iand X0.here hx rfl (hb hby at_150) rfl ?_
              show Steps p.tables e below (s₁.setTop (mkF m 151 #[.val (.long p0), .second, .val (.int p1), .val (.long p2), .second, .val (.int p3), .val (.int p4), .val (.int z7), .val (.int z8), .val (.int z9), .val (.int z10), .val (.long (p0 &&& (9223372036854775807 : Int64))), .second, .val (.int ((p1 &&& (32767 : Int32)).toInt16.toInt32)), .val (.long (p2 &&& (9223372036854775807 : Int64))), .second, .unset, .unset, .unset, .unset, .unset] [(.int (p3 &&& (32767 : Int32)))])) _
              refine XS.i2s X0.here hx rfl (hb hby at_151) rfl ?_
              show Steps p.tables e below (s₁.setTop (mkF m 152 #[.val (.long p0), .second, .val (.int p1), .val (.long p2), .second, .val (.int p3), .val (.int p4), .val (.int z7), .val (.int z8), .val (.int z9), .val (.int z10), .val (.long (p0 &&& (9223372036854775807 : Int64))), .second, .val (.int ((p1 &&& (32767 : Int32)).toInt16.toInt32)), .val (.long (p2 &&& (9223372036854775807 : Int64))), .second, .unset, .unset, .unset, .unset, .unset] [(.int ((p3 &&& (32767 : Int32)).toInt16.toInt32))])) _
              refine XS.istore X0.here hx rfl (hb hby at_152) rfl (l' := #[.val (.long p0), .second, .val (.int p1), .val (.long p2), .second, .val (.int p3), .val (.int p4), .val (.int z7), .val (.int z8), .val (.int z9), .val (.int z10), .val (.long (p0 &&& (9223372036854775807 : Int64))), .second, .val (.int ((p1 &&& (32767 : Int32)).toInt16.toInt32)), .val (.long (p2 &&& (9223372036854775807 : Int64))), .second, .val (.int ((p3 &&& (32767 : Int32)).toInt16.toInt32)), .unset, .unset, .unset, .unset]) rfl ?_
              exact kt)⟩
          · exact ⟨(p0 &&& (9223372036854775807 : Int64)), ((p1 &&& (32767 : Int32)).toInt16.toInt32), (p2 &&& (9223372036854775807 : Int64)), ((p1 &&& (32767 : Int32)).toInt16.toInt32), ⟨(own_okM (own_and64 _) (own_and15 _)), (own_okM (own_and64 _) (own_and15 _))⟩, fun tgt kt => pre17 _ (by
              show Steps p.tables e below (s₁.setTop (mkF m 59 #[.val (.long p0), .second, .val (.int p1), .val (.long p2), .second, .val (.int p3), .val (.int p4), .val (.int z7), .val (.int z8), .val (.int z9), .val (.int z10), .unset, .unset, .unset, .unset, .unset, .unset, .unset, .unset, .unset, .unset] [(.int z7)])) _
              refine XS.ifYes X0.here hx rfl (pc0 := 59) (pc' := 68) rfl (hb hby at_59) rfl ((if0 _ _).trans (teq hz7).1) (by decide) (by decide) ?_
              show Steps p.tables e below (s₁.setTop (mkF m 68 #[.val (.long p0), .second, .val (.int p1), .val (.long p2), .second, .val (.int p3), .val (.int p4), .val (.int z7), .val (.int z8), .val (.int z9), .val (.int z10), .unset, .unset, .unset, .unset, .unset, .unset, .unset, .unset, .unset, .unset] [])) _
              refine XS.lloadN X0.here hx rfl (hb hby at_68) rfl ?_
              show Steps p.tables e below (s₁.setTop (mkF m 69 #[.val (.long p0), .second, .val (.int p1), .val (.long p2), .second, .val (.int p3), .val (.int p4), .val (.int z7), .val (.int z8), .val (.int z9), .val (.int z10), .unset, .unset, .unset, .unset, .unset, .unset, .unset, .unset, .unset, .unset] [(.long p0)])) _
              refine X0.ldc2Long hx hown (mvT hZ (hw _ (List.mem_of_getElem? (i := 0) rfl))) (g := (mkF m 69 #[.val (.long p0), .second, .val (.int p1), .val (.long p2), .second, .val (.int p3), .val (.int p4), .val (.int z7), .val (.int z8), .val (.int z9), .val (.int z10), .unset, .unset, .unset, .unset, .unset, .unset, .unset, .unset, .unset, .unset] [(.long p0)])) rfl (hb hby at_69) _ ?_
              show Steps p.tables e below (s₁.setTop (mkF m 72 #[.val (.long p0), .second, .val (.int p1), .val (.long p2), .second, .val (.int p3), .val (.int p4), .val (.int z7), .val (.int z8), .val (.int z9), .val (.int z10), .unset, .unset, .unset, .unset, .unset, .unset, .unset, .unset, .unset, .unset] [(.long (9223372036854775807 : Int64)), (.long p0)])) _
              refine XS.land X0.here hx rfl (hb hby at_72) rfl ?_
              show Steps p.tables e below (s₁.setTop (mkF m 73 #[.val (.long p0), .second, .val (.int p1), .val (.long p2), .second, .val (.int p3), .val (.int p4), .val (.int z7), .val (.int z8), .val (.int z9), .val (.int z10), .unset, .unset, .unset, .unset, .unset, .unset, .unset, .unset, .unset, .unset] [(.long (p0 &&& (9223372036854775807 : Int64)))])) _
              refine XS.lstore X0.here hx rfl (hb hby at_73) rfl (l' := #[.val (.long p0), .second, .val (.int p1), .val (.long p2), .second, .val (.int p3), .val (.int p4), .val (.int z7), .val (.int z8), .val (.int z9), .val (.int z10), .val (.long (p0 &&& (9223372036854775807 : Int64))), .second, .unset, .unset, .unset, .unset, .unset, .unset, .unset, .unset]) rfl ?_
              show Steps p.tables e below (s₁.setTop (mkF m 75 #[.val (.long p0), .second, .val (.int p1), .val (.long p2), .second, .val (.int p3), .val (.int p4), .val (.int z7), .val (.int z8), .val (.int z9), .val (.int z10), .val (.long (p0 &&& (9223372036854775807 : Int64))), .second, .unset, .unset, .unset, .unset, .unset, .unset, .unset, .unset] [])) _
              refine XS.iload X0.here hx rfl (hb hby at_75) rfl ?_
              show Steps p.tables e below (s₁.setTop (mkF m 77 #[.val (.long p0), .second, .val (.int p1), .val (.long p2), .second, .val (.int p3), .val (.int p4), .val (.int z7), .val (.int z8), .val (.int z9), .val (.int z10), .val (.long (p0 &&& (9223372036854775807 : Int64))), .second, .unset, .unset, .unset, .unset, .unset, .unset, .unset, .unset] [(.int z7)])) _
              refine XS.ifYes X0.here hx rfl (pc0 := 77) (pc' := 84) rfl (hb hby at_77) rfl ((if0 _ _).trans (teq hz7).1) (by decide) (by decide) ?_
              show Steps p.tables e below (s₁.setTop (mkF m 84 #[.val (.long p0), .second, .val (.int p1), .val (.long p2), .second, .val (.int p3), .val (.int p4), .val (.int z7), .val (.int z8), .val (.int z9), .val (.int z10), .val (.long (p0 &&& (9223372036854775807 : Int64))), .second, .unset, .unset, .unset, .unset, .unset, .unset, .unset, .unset] [])) _
              refine XS.iloadN X0.here hx rfl (hb hby at_84) rfl ?_
              show Steps p.tables e below (s₁.setTop (mkF m 85 #[.val (.long p0), .second, .val (.int p1), .val (.long p2), .second, .val (.int p3), .val (.int p4), .val (.int z7), .val (.int z8), .val (.int z9), .val (.int z10), .val (.long (p0 &&& (9223372036854775807 : Int64))), .second, .unset, .unset, .unset, .unset, .unset, .unset, .unset, .unset] [(.int p1)])) _
              refine XS.sipush X0.here hx rfl (hb hby at_85) ?_
              show Steps p.tables e below (s₁.setTop (mkF m 88 #[.val (.long p0), .second, .val (.int p1), .val (.long p2), .second, .val (.int p3), .val (.int p4), .val (.int z7), .val (.int z8), .val (.int z9), .val (.int z10), .val (.long (p0 &&& (9223372036854775807 : Int64))), .second, .unset, .unset, .unset, .unset, .unset, .unset, .unset, .unset] [(.int (32767 : Int32)), (.int p1)])) _
              refine XS.iand X0.here hx rfl (hb hby at_88) rfl ?_
              show Steps p.tables e below (s₁.setTop (mkF m 89 #[.val (.long p0), .second, .val (.int p1), .val (.long p2), .second, .val (.int p3), .val (.int p4), .val (.int z7), .val (.int z8), .val (.int z9), .val (.int z10), .val (.long (p0 &&& (9223372036854775807 : Int64))), .second, .unset, .unset, .unset, .unset, .unset, .unset, .unset, .unset] [(.int (p1 &&& (32767 : Int32)))])) _
              refine XS.i2s X0.here hx rfl (hb hby at_89) rfl ?_
              show Steps p.tables e below (s₁.setTop (mkF m 90 #[.val (.long p0), .second, .val (.int p1), .val (.long p2), .second, .val (.int p3), .val (.int p4), .val (.int z7), .val (.int z8), .val (.int z9), .val (.int z10), .val (.long (p0 &&& (9223372036854775807 : Int64))), .second, .unset, .unset, .unset, .unset, .unset, .unset, .unset, .unset] [(.int ((p1 &&& (32767 : Int32)).toInt16.toInt32))])) _
              refine XS.istore X0.here hx rfl (hb hby at_90) rfl (l' := #[.val (.long p0), .second, .val (.int p1), .val (.long p2), .second, .val (.int p3), .val (.int p4), .val (.int z7), .val (.int z8), .val (.int z9), .val (.int z10), .val (.long (p0 &&& (9223372036854775807 : Int64))), .second, .val (.int ((p1 &&& (32767 : Int32)).toInt16.toInt32)), .unset, .unset, .unset, .unset, .unset, .unset, .unset]) rfl ?_
              show Steps p.tables e below (s₁.setTop (mkF m 92 #[.val (.long p0), .second, .val (.int p1), .val (.long p2), .second, .val (.int p3), .val (.int p4), .val (.int z7), .val (.int z8), .val (.int z9), .val (.int z10), .val (.long (p0 &&& (9223372036854775807 : Int64))), .second, .val (.int ((p1 &&& (32767 : Int32)).toInt16.toInt32)), .unset, .unset, .unset, .unset, .unset, .unset, .unset] [])) _
              refine XS.iload X0.here hx rfl (hb hby at_92) rfl ?_
              show Steps p.tables e below (s₁.setTop (mkF m 94 #[.val (.long p0), .second, .val (.int p1), .val (.long p2), .second, .val (.int p3), .val (.int p4), .val (.int z7), .val (.int z8), .val (.int z9), .val (.int z10), .val (.long (p0 &&& (9223372036854775807 : Int64))), .second, .val (.int ((p1 &&& (32767 : Int32)).toInt16.toInt32)), .unset, .unset, .unset, .unset, .unset, .unset, .unset] [(.int z8)])) _
              refine XS.ifYes X0.here hx rfl (pc0 := 94) (pc' := 108) rfl (hb hby at_94) rfl ((if0 _ _).trans (teq hz8).1) (by decide) (by decide) ?_
              show Steps p.tables e below (s₁.setTop (mkF m 108 #[.val (.long p0), .second, .val (.int p1), .val (.long p2), .second, .val (.int p3), .val (.int p4), .val (.int z7), .val (.int z8), .val (.int z9), .val (.int z10), .val (.long (p0 &&& (9223372036854775807 : Int64))), .second, .val (.int ((p1 &&& (32767 : Int32)).toInt16.toInt32)), .unset, .unset, .unset, .unset, .unset, .unset, .unset] [])) _
              refine XS.iload X0.here hx rfl (hb hby at_108) rfl ?_
              show Steps p.tables e below (s₁.setTop (mkF m 110 #[.val (.long p0), .second, .val (.int p1), .val (.long p2), .second, .val (.int p3), .val (.int p4), .val (.int z7), .val (.int z8), .val (.int z9), .val (.int z10), .val (.long (p0 &&& (9223372036854775807 : Int64))), .second, .val (.int ((p1 &&& (32767 : Int32)).toInt16.toInt32)), .unset, .unset, .unset, .unset, .unset, .unset, .unset] [(.int z9)])) _
              refine XS.ifYes X0.here hx rfl (pc0 := 110) (pc' := 123) rfl (hb hby at_110) rfl ((if0 _ _).trans (teq hz9).1) (by decide) (by decide) ?_
              show Steps p.tables e below (s₁.setTop (mkF m 123 #[.val (.long p0), .second, .val (.int p1), .val (.long p2), .second, .val (.int p3), .val (.int p4), .val (.int z7), .val (.int z8), .val (.int z9), .val (.int z10), .val (.long (p0 &&& (9223372036854775807 : Int64))), .second, .val (.int ((p1 &&& (32767 : Int32)).toInt16.toInt32)), .unset, .unset, .unset, .unset, .unset, .unset, .unset] [])) _
              refine XS.lloadN X0.here hx rfl (hb hby at_123) rfl ?_
              show Steps p.tables e below (s₁.setTop (mkF m 124 #[.val (.long p0), .second, .val (.int p1), .val (.long p2), .second, .val (.int p3), .val (.int p4), .val (.int z7), .val (.int z8), .val (.int z9), .val (.int z10), .val (.long (p0 &&& (9223372036854775807 : Int64))), .second, .val (.int ((p1 &&& (32767 : Int32)).toInt16.toInt32)), .unset, .unset, .unset, .unset, .unset, .unset, .unset] [(.long p2)])) _
              refine X0.ldc2Long hx hown (mvT hZ (hw _ (List.mem_of_getElem? (i := 0) rfl))) (g := (mkF m 124 #[.val (.long p0), .second, .val (.int p1), .val (.long p2), .second, .val (.int p3), .val (.int p4), .val (.int z7), .val (.int z8), .val (.int z9), .val (.int z10), .val (.long (p0 &&& (9223372036854775807 : Int64))), .second, .val (.int ((p1 &&& (32767 : Int32)).toInt16.toInt32)), .unset, .unset, .unset, .unset, .unset, .unset, .unset] [(.long p2)])) rfl (hb hby at_124) _ ?_
              show Steps p.tables e below (s₁.setTop (mkF m 127 #[.val (.long p0), .second, .val (.int p1), .val (.long p2), .second, .val (.int p3), .val (.int p4), .val (.int z7), .val (.int z8), .val (.int z9), .val (.int z10), .val (.long (p0 &&& (9223372036854775807 : Int64))), .second, .val (.int ((p1 &&& (32767 : Int32)).toInt16.toInt32)), .unset, .unset, .unset, .unset, .unset, .unset, .unset] [(.long (9223372036854775807 : Int64)), (.long p2)])) _
              refine XS.land X0.here hx rfl (hb hby at_127) rfl ?_
              show Steps p.tables e below (s₁.setTop (mkF m 128 #[.val (.long p0), .second, .val (.int p1), .val (.long p2), .second, .val (.int p3), .val (.int p4), .val (.int z7), .val (.int z8), .val (.int z9), .val (.int z10), .val (.long (p0 &&& (9223372036854775807 : Int64))), .second, .val (.int ((p1 &&& (32767 : Int32)).toInt16.toInt32)), .unset, .unset, .unset, .unset, .unset, .unset, .unset] [(.long (p2 &&& (9223372036854775807 : Int64)))])) _
              refine XS.lstore X0.here hx rfl (hb hby at_128) rfl (l' := #[.val (.long p0), .second, .val (.int p1), .val (.long p2), .second, .val (.int p3), .val (.int p4), .val (.int z7), .val (.int z8), .val (.int z9), .val (.int z10), .val (.long (p0 &&& (9223372036854775807 : Int64))), .second, .val (.int ((p1 &&& (32767 : Int32)).toInt16.toInt32)), .val (.long (p2 &&& (9223372036854775807 : Int64))), .second, .unset, .unset, .unset, .unset, .unset]) rfl ?_
              show Steps p.tables e below (s₁.setTop (mkF m 130 #[.val (.long p0), .second, .val (.int p1), .val (.long p2), .second, .val (.int p3), .val (.int p4), .val (.int z7), .val (.int z8), .val (.int z9), .val (.int z10), .val (.long (p0 &&& (9223372036854775807 : Int64))), .second, .val (.int ((p1 &&& (32767 : Int32)).toInt16.toInt32)), .val (.long (p2 &&& (9223372036854775807 : Int64))), .second, .unset, .unset, .unset, .unset, .unset] [])) _
              refine XS.iload X0.here hx rfl (hb hby at_130) rfl ?_
              show Steps p.tables e below (s₁.setTop (mkF m 132 #[.val (.long p0), .second, .val (.int p1), .val (.long p2), .second, .val (.int p3), .val (.int p4), .val (.int z7), .val (.int z8), .val (.int z9), .val (.int z10), .val (.long (p0 &&& (9223372036854775807 : Int64))), .second, .val (.int ((p1 &&& (32767 : Int32)).toInt16.toInt32)), .val (.long (p2 &&& (9223372036854775807 : Int64))), .second, .unset, .unset, .unset, .unset, .unset] [(.int z10)])) _
              refine XS.ifNo X0.here hx rfl (hb hby at_132) rfl ((if0 _ _).trans (feq hz10).1) ?_
              show Steps p.tables e below (s₁.setTop (mkF m 135 #[.val (.long p0), .second, .val (.int p1), .val (.long p2), .second, .val (.int p3), .val (.int p4), .val (.int z7), .val (.int z8), .val (.int z9), .val (.int z10), .val (.long (p0 &&& (9223372036854775807 : Int64))), .second, .val (.int ((p1 &&& (32767 : Int32)).toInt16.toInt32)), .val (.long (p2 &&& (9223372036854775807 : Int64))), .second, .unset, .unset, .unset, .unset, .unset] [])) _
              refine XS.iload X0.here hx rfl (hb hby at_135) rfl ?_
              show Steps p.tables e below (s₁.setTop (mkF m 137 #[.val (.long p0), .second, .val (.int p1), .val (.long p2), .second, .val (.int p3), .val (.int p4), .val (.int z7), .val (.int z8), .val (.int z9), .val (.int z10), .val (.long (p0 &&& (9223372036854775807 : Int64))), .second, .val (.int ((p1 &&& (32767 : Int32)).toInt16.toInt32)), .val (.long (p2 &&& (9223372036854775807 : Int64))), .second, .unset, .unset, .unset, .unset, .unset] [(.int z7)])) _
              refine XS.ifNo X0.here hx rfl (hb hby at_137) rfl ((if0 _ _).trans (teq hz7).2) ?_
              show Steps p.tables e below (s₁.setTop (mkF m 140 #[.val (.long p0), .second, .val (.int p1), .val (.long p2), .second, .val (.int p3), .val (.int p4), .val (.int z7), .val (.int z8), .val (.int z9), .val (.int z10), .val (.long (p0 &&& (9223372036854775807 : Int64))), .second, .val (.int ((p1 &&& (32767 : Int32)).toInt16.toInt32)), .val (.long (p2 &&& (9223372036854775807 : Int64))), .second, .unset, .unset, .unset, .unset, .unset] [])) _
              refine XS.iload X0.here hx rfl (hb hby at_140) rfl ?_
              show Steps p.tables e below (s₁.setTop (mkF m 142 #[.val (.long p0), .second, .val (.int p1), .val (.long p2), .second, .val (.int p3), .val (.int p4), .val (.int z7), .val (.int z8), .val (.int z9), .val (.int z10), .val (.long (p0 &&& (9223372036854775807 : Int64))), .second, .val (.int ((p1 &&& (32767 : Int32)).toInt16.toInt32)), .val (.long (p2 &&& (9223372036854775807 : Int64))), .second, .unset, .unset, .unset, .unset, .unset] [(.int ((p1 &&& (32767 : Int32)).toInt16.toInt32))])) _
              refine XS.goto X0.here hx rfl (pc0 := 142) (pc' := 152) rfl (hb hby at_142) (by decide) (by decide) ?_
              show Steps p.tables e below (s₁.setTop (mkF m 152 #[.val (.long p0), .second, .val (.int p1), .val (.long p2), .second, .val (.int p3), .val (.int p4), .val (.int z7), .val (.int z8), .val (.int z9), .val (.int z10), .val (.long (p0 &&& (9223372036854775807 : Int64))), .second, .val (.int ((p1 &&& (32767 : Int32)).toInt16.toInt32)), .val (.long (p2 &&& (9223372036854775807 : Int64))), .second, .unset, .unset, .unset, .unset, .unset] [(.int ((p1 &&& (32767 : Int32)).toInt16.toInt32))])) _
              refine XS.istore X0.here hx rfl (hb hby at_152) rfl (l' := #[.val (.long p0), .second, .val (.int p1), .val (.long p2), .second, .val (.int p3), .val (.int p4), .val (.int z7), .val (.int z8), .val (.int z9), .val (.int z10), .val (.long (p0 &&& (9223372036854775807 : Int64))), .second, .val (.int ((p1 &&& (32767 : Int32)).toInt16.toInt32)), .val (.long (p2 &&& (9223372036854775807 : Int64))), .second, .val (.int ((p1 &&& (32767 : Int32)).toInt16.toInt32)), .unset, .unset, .unset, .unset]) rfl ?_
              exact kt)⟩
        · by_cases hz10 : z10 = (0 : Int32)
          · exact ⟨(p0 &&& (9223372036854775807 : Int64)), ((p1 &&& (32767 : Int32)).toInt16.toInt32), (p0 &&& (9223372036854775807 : Int64)), ((p3 &&& (32767 : Int32)).toInt16.toInt32), ⟨(own_okM (own_and64 _) (own_and15 _)), (own_okM (own_and64 _) (own_and15 _))⟩, fun tgt kt => pre17 _ (by
              show Steps p.tables e below (s₁.setTop (mkF m 59 #[.val (.long p0), .second, .val (.int p1), .val (.long p2), .second, .val (.int p3), .val (.int p4), .val (.int z7), .val (.int z8), .val (.int z9), .val (.int z10), .unset, .unset, .unset, .unset, .unset, .unset, .unset, .unset, .unset, .unset] [(.int z7)])) _
              refine XS.ifYes X0.here hx rfl (pc0 := 59) (pc' := 68) rfl (hb hby at_59) rfl ((if0 _ _).trans (teq hz7).1) (by decide) (by decide) ?_
              show Steps p.tables e below (s₁.setTop (mkF m 68 #[.val (.long p0), .second, .val (.int p1), .val (.long p2), .second, .val (.int p3), .val (.int p4), .val (.int z7), .val (.int z8), .val (.int z9), .val (.int z10), .unset, .unset, .unset, .unset, .unset, .unset, .unset, .unset, .unset, .unset] [])) _
              refine XS.lloadN X0.here hx rfl (hb hby at_68) rfl ?_
              show Steps p.tables e below (s₁.setTop (mkF m 69 #[.val (.long p0), .second, .val (.int p1), .val (.long p2), .second, .val (.int p3), .val (.int p4), .val (.int z7), .val (.int z8), .val (.int z9), .val (.int z10), .unset, .unset, .unset, .unset, .unset, .unset, .unset, .unset, .unset, .unset] [(.long p0)])) _
              refine X0.ldc2Long hx hown (mvT hZ (hw _ (List.mem_of_getElem? (i := 0) rfl))) (g := (mkF m 69 #[.val (.long p0), .second, .val (.int p1), .val (.long p2), .second, .val (.int p3), .val (.int p4), .val (.int z7), .val (.int z8), .val (.int z9), .val (.int z10), .unset, .unset, .unset, .unset, .unset, .unset, .unset, .unset, .unset, .unset] [(.long p0)])) rfl (hb hby at_69) _ ?_
              show Steps p.tables e below (s₁.setTop (mkF m 72 #[.val (.long p0), .second, .val (.int p1), .val (.long p2), .second, .val (.int p3), .val (.int p4), .val (.int z7), .val (.int z8), .val (.int z9), .val (.int z10), .unset, .unset, .unset, .unset, .unset, .unset, .unset, .unset, .unset, .unset] [(.long (9223372036854775807 : Int64)), (.long p0)])) _
              refine XS.land X0.here hx rfl (hb hby at_72) rfl ?_
              show Steps p.tables e below (s₁.setTop (mkF m 73 #[.val (.long p0), .second, .val (.int p1), .val (.long p2), .second, .val (.int p3), .val (.int p4), .val (.int z7), .val (.int z8), .val (.int z9), .val (.int z10), .unset, .unset, .unset, .unset, .unset, .unset, .unset, .unset, .unset, .unset] [(.long (p0 &&& (9223372036854775807 : Int64)))])) _
              refine XS.lstore X0.here hx rfl (hb hby at_73) rfl (l' := #[.val (.long p0), .second, .val (.int p1), .val (.long p2), .second, .val (.int p3), .val (.int p4), .val (.int z7), .val (.int z8), .val (.int z9), .val (.int z10), .val (.long (p0 &&& (9223372036854775807 : Int64))), .second, .unset, .unset, .unset, .unset, .unset, .unset, .unset, .unset]) rfl ?_
              show Steps p.tables e below (s₁.setTop (mkF m 75 #[.val (.long p0), .second, .val (.int p1), .val (.long p2), .second, .val (.int p3), .val (.int p4), .val (.int z7), .val (.int z8), .val (.int z9), .val (.int z10), .val (.long (p0 &&& (9223372036854775807 : Int64))), .second, .unset, .unset, .unset, .unset, .unset, .unset, .unset, .unset] [])) _
              refine XS.iload X0.here hx rfl (hb hby at_75) rfl ?_
              show Steps p.tables e below (s₁.setTop (mkF m 77 #[.val (.long p0), .second, .val (.int p1), .val (.long p2), .second, .val (.int p3), .val (.int p4), .val (.int z7), .val (.int z8), .val (.int z9), .val (.int z10), .val (.long (p0 &&& (9223372036854775807 : Int64))), .second, .unset, .unset, .unset, .unset, .unset, .unset, .unset, .unset] [(.int z7)])) _
              refine XS.ifYes X0.here hx rfl (pc0 := 77) (pc' := 84) rfl (hb hby at_77) rfl ((if0 _ _).trans (teq hz7).1) (by decide) (by decide) ?_
              show Steps p.tables e below (s₁.setTop (mkF m 84 #[.val (.long p0), .second, .val (.int p1), .val (.long p2), .second, .val (.int p3), .val (.int p4), .val (.int z7), .val (.int z8), .val (.int z9), .val (.int z10), .val (.long (p0 &&& (9223372036854775807 : Int64))), .second, .unset, .unset, .unset, .unset, .unset, .unset, .unset, .unset] [])) _
              refine XS.iloadN X0.here hx rfl (hb hby at_84) rfl ?_
              show Steps p.tables e below (s₁.setTop (mkF m 85 #[.val (.long p0), .second, .val (.int p1), .val (.long p2), .second, .val (.int p3), .val (.int p4), .val (.int z7), .val (.int z8), .val (.int z9), .val (.int z10), .val (.long (p0 &&& (9223372036854775807 : Int64))), .second, .unset, .unset, .unset, .unset, .unset, .unset, .unset, .unset] [(.int p1)])) _
              refine XS.sipush X0.here hx rfl (hb hby at_85) ?_
              show Steps p.tables e below (s₁.setTop (mkF m 88 #[.val (.long p0), .second, .val (.int p1), .val (.long p2), .second, .val (.int p3), .val (.int p4), .val (.int z7), .val (.int z8), .val (.int z9), .val (.int z10), .val (.long (p0 &&& (9223372036854775807 : Int64))), .second, .unset, .unset, .unset, .unset, .unset, .unset, .unset, .unset] [(.int (32767 : Int32)), (.int p1)])) _
              refine XS.iand X0.here hx rfl (hb hby at_88) rfl ?_
              show Steps p.tables e below (s₁.setTop (mkF m 89 #[.val (.long p0), .second, .val (.int p1), .val (.long p2), .second, .val (.int p3), .val (.int p4), .val (.int z7), .val (.int z8), .val (.int z9), .val (.int z10), .val (.long (p0 &&& (9223372036854775807 : Int64))), .second, .unset, .unset, .unset, .unset, .unset, .unset, .unset, .unset] [(.int (p1 &&& (32767 : Int32)))])) _
              refine XS.i2s X0.here hx rfl (hb hby at_89) rfl ?_
              show Steps p.tables e below (s₁.setTop (mkF m 90 #[.val (.long p0), .second, .val (.int p1), .val (.long p2), .second, .val (.int p3), .val (.int p4), .val (.int z7), .val (.int z8), .val (.int z9), .val (.int z10), .val (.long (p0 &&& (9223372036854775807 : Int64))), .second, .unset, .unset, .unset, .unset, .unset, .unset, .unset, .unset] [(.int ((p1 &&& (32767 : Int32)).toInt16.toInt32))])) _
              refine XS.istore X0.here hx rfl (hb hby at_90) rfl (l' := #[.val (.long p0), .second, .val (.int p1), .val (.long p2), .second, .val (.int p3), .val (.int p4), .val (.int z7), .val (.int z8), .val (.int z9), .val (.int z10), .val (.long (p0 &&& (9223372036854775807 : Int64))), .second, .val (.int ((p1 &&& (32767 : Int32)).toInt16.toInt32)), .unset, .unset, .unset, .unset, .unset, .unset, .unset]) rfl ?_
              show Steps p.tables e below (s₁.setTop (mkF m 92 #[.val (.long p0), .second, .val (.int p1), .val (.long p2), .second, .val (.int p3), .val (.int p4), .val (.int z7), .val (.int z8), .val (.int z9), .val (.int z10), .val (.long (p0 &&& (9223372036854775807 : Int64))), .second, .val (.int ((p1 &&& (32767 : Int32)).toInt16.toInt32)), .unset, .unset, .unset, .unset, .unset, .unset, .unset] [])) _
              refine XS.iload X0.here hx rfl (hb hby at_92) rfl ?_
              show Steps p.tables e below (s₁.setTop (mkF m 94 #[.val (.long p0), .second, .val (.int p1), .val (.long p2), .second, .val (.int p3), .val (.int p4), .val (.int z7), .val (.int z8), .val (.int z9), .val (.int z10), .val (.long (p0 &&& (9223372036854775807 : Int64))), .second, .val (.int ((p1 &&& (32767 : Int32)).toInt16.toInt32)), .unset, .unset, .unset, .unset, .unset, .unset, .unset] [(.int z8)])) _
              refine XS.ifYes X0.here hx rfl (pc0 := 94) (pc' := 108) rfl (hb hby at_94) rfl ((if0 _ _).trans (teq hz8).1) (by decide) (by decide) ?_
              show Steps p.tables e below (s₁.setTop (mkF m 108 #[.val (.long p0), .second, .val (.int p1), .val (.long p2), .second, .val (.int p3), .val (.int p4), .val (.int z7), .val (.int z8), .val (.int z9), .val (.int z10), .val (.long (p0 &&& (9223372036854775807 : Int64))), .second, .val (.int ((p1 &&& (32767 : Int32)).toInt16.toInt32)), .unset, .unset, .unset, .unset, .unset, .unset, .unset] [])) _
              refine XS.iload X0.here hx rfl (hb hby at_108) rfl ?_
              show Steps p.tables e below (s₁.setTop (mkF m 110 #[.val (.long p0), .second, .val (.int p1), .val (.long p2), .second, .val (.int p3), .val (.int p4), .val (.int z7), .val (.int z8), .val (.int z9), .val (.int z10), .val (.long (p0 &&& (9223372036854775807 : Int64))), .second, .val (.int ((p1 &&& (32767 : Int32)).toInt16.toInt32)), .unset, .unset, .unset, .unset, .unset, .unset, .unset] [(.int z9)])) _
              refine XS.ifNo X0.here hx rfl (hb hby at_110) rfl ((if0 _ _).trans (feq hz9).1) ?_
              show Steps p.tables e below (s₁.setTop (mkF m 113 #[.val (.long p0), .second, .val (.int p1), .val (.long p2), .second, .val (.int p3), .val (.int p4), .val (.int z7), .val (.int z8), .val (.int z9), .val (.int z10), .val (.long (p0 &&& (9223372036854775807 : Int64))), .second, .val (.int ((p1 &&& (32767 : Int32)).toInt16.toInt32)), .unset, .unset, .unset, .unset, .unset, .unset, .unset] [])) _
              refine XS.iload X0.here hx rfl (hb hby at_113) rfl ?_
              show Steps p.tables e below (s₁.setTop (mkF m 115 #[.val (.long p0), .second, .val (.int p1), .val (.long p2), .second, .val (.int p3), .val (.int p4), .val (.int z7), .val (.int z8), .val (.int z9), .val (.int z10), .val (.long (p0 &&& (9223372036854775807 : Int64))), .second, .val (.int ((p1 &&& (32767 : Int32)).toInt16.toInt32)), .unset, .unset, .unset, .unset, .unset, .unset, .unset] [(.int z7)])) _
              refine XS.ifNo X0.here hx rfl (hb hby at_115) rfl ((if0 _ _).trans (teq hz7).2) ?_
              show Steps p.tables e below (s₁.setTop (mkF m 118 #[.val (.long p0), .second, .val (.int p1), .val (.long p2), .second, .val (.int p3), .val (.int p4), .val (.int z7), .val (.int z8), .val (.int z9), .val (.int z10), .val (.long (p0 &&& (9223372036854775807 : Int64))), .second, .val (.int ((p1 &&& (32767 : Int32)).toInt16.toInt32)), .unset, .unset, .unset, .unset, .unset, .unset, .unset] [])) _
              refine XS.lload X0.here hx rfl (hb hby at_118) rfl ?_
              show Steps p.tables e below (s₁.setTop (mkF m 120 #[.val (.long p0), .second, .val (.int p1), .val (.long p2), .second, .val (.int p3), .val (.int p4), .val (.int z7), .val (.int z8), .val (.int z9), .val (.int z10), .val (.long (p0 &&& (9223372036854775807 : Int64))), .second, .val (.int ((p1 &&& (32767 : Int32)).toInt16.toInt32)), .unset, .unset, .unset, .unset, .unset, .unset, .unset] [(.long (p0 &&& (9223372036854775807 : Int64)))])) _
              refine XS.goto X0.here hx rfl (pc0 := 120) (pc' := 128) rfl (hb hby at_120) (by decide) (by decide) ?_
              show Steps p.tables e below (s₁.setTop (mkF m 128 #[.val (.long p0), .second, .val (.int p1), .val (.long p2), .second, .val (.int p3), .val (.int p4), .val (.int z7), .val (.int z8), .val (.int z9), .val (.int z10), .val (.long (p0 &&& (9223372036854775807 : Int64))), .second, .val (.int ((p1 &&& (32767 : Int32)).toInt16.toInt32)), .unset, .unset, .unset, .unset, .unset, .unset, .unset] [(.long (p0 &&& (9223372036854775807 : Int64)))])) _
              refine XS.lstore X0.here hx rfl (hb hby at_128) rfl (l' := #[.val (.long p0), .second, .val (.int p1), .val (.long p2), .second, .val (.int p3), .val (.int p4), .val (.int z7), .val (.int z8), .val (.int z9), .val (.int z10), .val (.long (p0 &&& (9223372036854775807 : Int64))), .second, .val (.int ((p1 &&& (32767 : Int32)).toInt16.toInt32)), .val (.long (p0 &&& (9223372036854775807 : Int64))), .second, .unset, .unset, .unset, .unset, .unset]) rfl ?_
              show Steps p.tables e below (s₁.setTop (mkF m 130 #[.val (.long p0), .second, .val (.int p1), .val (.long p2), .second, .val (.int p3), .val (.int p4), .val (.int z7), .val (.int z8), .val (.int z9), .val (.int z10), .val (.long (p0 &&& (9223372036854775807 : Int64))), .second, .val (.int ((p1 &&& (32767 : Int32)).toInt16.toInt32)), .val (.long (p0 &&& (9223372036854775807 : Int64))), .second, .unset, .unset, .unset, .unset, .unset] [])) _
              refine XS.iload X0.here hx rfl (hb hby at_130) rfl ?_
              show Steps p.tables e below (s₁.setTop (mkF m 132 #[.val (.long p0), .second, .val (.int p1), .val (.long p2), .second, .val (.int p3), .val (.int p4), .val (.int z7), .val (.int z8), .val (.int z9), .val (.int z10), .val (.long (p0 &&& (9223372036854775807 : Int64))), .second, .val (.int ((p1 &&& (32767 : Int32)).toInt16.toInt32)), .val (.long (p0 &&& (9223372036854775807 : Int64))), .second, .unset, .unset, .unset, .unset, .unset] [(.int z10)])) _
              refine XS.ifYes X0.here hx rfl (pc0 := 132) (pc' := 145) rfl (hb hby at_132) rfl ((if0 _ _).trans (teq hz10).1) (by decide) (by decide) ?_
              show Steps p.tables e below (s₁.setTop (mkF m 145 #[.val (.long p0), .second, .val (.int p1), .val (.long p2), .second, .val (.int p3), .val (.int p4), .val (.int z7), .val (.int z8), .val (.int z9), .val (.int z10), .val (.long (p0 &&& (9223372036854775807 : Int64))), .second, .val (.int ((p1 &&& (32767 : Int32)).toInt16.toInt32)), .val (.long (p0 &&& (9223372036854775807 : Int64))), .second, .unset, .unset, .unset, .unset, .unset] [])) _
              refine XS.iload X0.here hx rfl (hb hby at_145) rfl ?_
              show Steps p.tables e below (s₁.setTop (mkF m 147 #[.val (.long p0), .second, .val (.int p1), .val (.long p2), .second, .val (.int p3), .val (.int p4), .val (.int z7), .val (.int z8), .val (.int z9), .val (.int z10), .val (.long (p0 &&& (9223372036854775807 : Int64))), .second, .val (.int ((p1 &&& (32767 : Int32)).toInt16.toInt32)), .val (.long (p0 &&& (9223372036854775807 : Int64))), .second, .unset, .unset, .unset, .unset, .unset] [(.int p3)])) _
              refine XS.sipush X0.here hx rfl (hb hby at_147) ?_
              show Steps p.tables e below (s₁.setTop (mkF m 150 #[.val (.long p0), .second, .val (.int p1), .val (.long p2), .second, .val (.int p3), .val (.int p4), .val (.int z7), .val (.int z8), .val (.int z9), .val (.int z10), .val (.long (p0 &&& (9223372036854775807 : Int64))), .second, .val (.int ((p1 &&& (32767 : Int32)).toInt16.toInt32)), .val (.long (p0 &&& (9223372036854775807 : Int64))), .second, .unset, .unset, .unset, .unset, .unset] [(.int (32767 : Int32)), (.int p3)])) _
              refine XS.iand X0.here hx rfl (hb hby at_150) rfl ?_
              show Steps p.tables e below (s₁.setTop (mkF m 151 #[.val (.long p0), .second, .val (.int p1), .val (.long p2), .second, .val (.int p3), .val (.int p4), .val (.int z7), .val (.int z8), .val (.int z9), .val (.int z10), .val (.long (p0 &&& (9223372036854775807 : Int64))), .second, .val (.int ((p1 &&& (32767 : Int32)).toInt16.toInt32)), .val (.long (p0 &&& (9223372036854775807 : Int64))), .second, .unset, .unset, .unset, .unset, .unset] [(.int (p3 &&& (32767 : Int32)))])) _
              refine XS.i2s X0.here hx rfl (hb hby at_151) rfl ?_
              show Steps p.tables e below (s₁.setTop (mkF m 152 #[.val (.long p0), .second, .val (.int p1), .val (.long p2), .second, .val (.int p3), .val (.int p4), .val (.int z7), .val (.int z8), .val (.int z9), .val (.int z10), .val (.long (p0 &&& (9223372036854775807 : Int64))), .second, .val (.int ((p1 &&& (32767 : Int32)).toInt16.toInt32)), .val (.long (p0 &&& (9223372036854775807 : Int64))), .second, .unset, .unset, .unset, .unset, .unset] [(.int ((p3 &&& (32767 : Int32)).toInt16.toInt32))])) _
              refine XS.istore X0.here hx rfl (hb hby at_152) rfl (l' := #[.val (.long p0), .second, .val (.int p1), .val (.long p2), .second, .val (.int p3), .val (.int p4), .val (.int z7), .val (.int z8), .val (.int z9), .val (.int z10), .val (.long (p0 &&& (9223372036854775807 : Int64))), .second, .val (.int ((p1 &&& (32767 : Int32)).toInt16.toInt32)), .val (.long (p0 &&& (9223372036854775807 : Int64))), .second, .val (.int ((p3 &&& (32767 : Int32)).toInt16.toInt32)), .unset, .unset, .unset, .unset]) rfl ?_
              exact kt)⟩
          · exact ⟨(p0 &&& (9223372036854775807 : Int64)), ((p1 &&& (32767 : Int32)).toInt16.toInt32), (p0 &&& (9223372036854775807 : Int64)), ((p1 &&& (32767 : Int32)).toInt16.toInt32), ⟨(own_okM (own_and64 _) (own_and15 _)), (own_okM (own_and64 _) (own_and15 _))⟩, fun tgt kt => pre17 _ (by
              show Steps p.tables e below (s₁.setTop (mkF m 59 #[.val (.long p0), .second, .val (.int p1), .val (.long p2), .second, .val (.int p3), .val (.int p4), .val (.int z7), .val (.int z8), .val (.int z9), .val (.int z10), .unset, .unset, .unset, .unset, .unset, .unset, .unset, .unset, .unset, .unset] [(.int z7)])) _
              refine XS.ifYes X0.here hx rfl (pc0 := 59) (pc' := 68) rfl (hb hby at_59) rfl ((if0 _ _).trans (teq hz7).1) (by decide) (by decide) ?_
              show Steps p.tables e below (s₁.setTop (mkF m 68 #[.val (.long p0), .second, .val (.int p1), .val (.long p2), .second, .val (.int p3), .val (.int p4), .val (.int z7), .val (.int z8), .val (.int z9), .val (.int z10), .unset, .unset, .unset, .unset, .unset, .unset, .unset, .unset, .unset, .unset] [])) _
              refine XS.lloadN X0.here hx rfl (hb hby at_68) rfl ?_
              show Steps p.tables e below (s₁.setTop (mkF m 69 #[.val (.long p0), .second, .val (.int p1), .val (.long p2), .second, .val (.int p3), .val (.int p4), .val (.int z7), .val (.int z8), .val (.int z9), .val (.int z10), .unset, .unset, .unset, .unset, .unset, .unset, .unset, .unset, .unset, .unset] [(.long p0)])) _
              refine X0.ldc2Long hx hown (mvT hZ (hw _ (List.mem_of_getElem? (i := 0) rfl))) (g := (mkF m 69 #[.val (.long p0), .second, .val (.int p1), .val (.long p2), .second, .val (.int p3), .val (.int p4), .val (.int z7), .val (.int z8), .val (.int z9), .val (.int z10), .unset, .unset, .unset, .unset, .unset, .unset, .unset, .unset, .unset, .unset] [(.long p0)])) rfl (hb hby at_69) _ ?_
              show Steps p.tables e below (s₁.setTop (mkF m 72 #[.val (.long p0), .second, .val (.int p1), .val (.long p2), .second, .val (.int p3), .val (.int p4), .val (.int z7), .val (.int z8), .val (.int z9), .val (.int z10), .unset, .unset, .unset, .unset, .unset, .unset, .unset, .unset, .unset, .unset] [(.long (9223372036854775807 : Int64)), (.long p0)])) _
              refine XS.land X0.here hx rfl (hb hby at_72) rfl ?_
              show Steps p.tables e below (s₁.setTop (mkF m 73 #[.val (.long p0), .second, .val (.int p1), .val (.long p2), .second, .val (.int p3), .val (.int p4), .val (.int z7), .val (.int z8), .val (.int z9), .val (.int z10), .unset, .unset, .unset, .unset, .unset, .unset, .unset, .unset, .unset, .unset] [(.long (p0 &&& (9223372036854775807 : Int64)))])) _
              refine XS.lstore X0.here hx rfl (hb hby at_73) rfl (l' := #[.val (.long p0), .second, .val (.int p1), .val (.long p2), .second, .val (.int p3), .val (.int p4), .val (.int z7), .val (.int z8), .val (.int z9), .val (.int z10), .val (.long (p0 &&& (9223372036854775807 : Int64))), .second, .unset, .unset, .unset, .unset, .unset, .unset, .unset, .unset]) rfl ?_
              show Steps p.tables e below (s₁.setTop (mkF m 75 #[.val (.long p0), .second, .val (.int p1), .val (.long p2), .second, .val (.int p3), .val (.int p4), .val (.int z7), .val (.int z8), .val (.int z9), .val (.int z10), .val (.long (p0 &&& (9223372036854775807 : Int64))), .second, .unset, .unset, .unset, .unset, .unset, .unset, .unset, .unset] [])) _
              refine XS.iload X0.here hx rfl (hb hby at_75) rfl ?_
              show Steps p.tables e below (s₁.setTop (mkF m 77 #[.val (.long p0), .second, .val (.int p1), .val (.long p2), .second, .val (.int p3), .val (.int p4), .val (.int z7), .val (.int z8), .val (.int z9), .val (.int z10), .val (.long (p0 &&& (9223372036854775807 : Int64))), .second, .unset, .unset, .unset, .unset, .unset, .unset, .unset, .unset] [(.int z7)])) _
              refine XS.ifYes X0.here hx rfl (pc0 := 77) (pc' := 84) rfl (hb hby at_77) rfl ((if0 _ _).trans (teq hz7).1) (by decide) (by decide) ?_
              show Steps p.tables e below (s₁.setTop (mkF m 84 #[.val (.long p0), .second, .val (.int p1), .val (.long p2), .second, .val (.int p3), .val (.int p4), .val (.int z7), .val (.int z8), .val (.int z9), .val (.int z10), .val (.long (p0 &&& (9223372036854775807 : Int64))), .second, .unset, .unset, .unset, .unset, .unset, .unset, .unset, .unset] [])) _
              refine XS.iloadN X0.here hx rfl (hb hby at_84) rfl ?_
              show Steps p.tables e below (s₁.setTop (mkF m 85 #[.val (.long p0), .second, .val (.int p1), .val (.long p2), .second, .val (.int p3), .val (.int p4), .val (.int z7), .val (.int z8), .val (.int z9), .val (.int z10), .val (.long (p0 &&& (9223372036854775807 : Int64))), .second, .unset, .unset, .unset, .unset, .unset, .unset, .unset, .unset] [(.int p1)])) _
              refine XS.sipush X0.here hx rfl (hb hby at_85) ?_
              show Steps p.tables e below (s₁.setTop (mkF m 88 #[.val (.long p0), .second, .val (.int p1), .val (.long p2), .second, .val (.int p3), .val (.int p4), .val (.int z7), .val (.int z8), .val (.int z9), .val (.int z10), .val (.long (p0 &&& (9223372036854775807 : Int64))), .second, .unset, .unset, .unset, .unset, .unset, .unset, .unset, .unset] [(.int (32767 : Int32)), (.int p1)])) _
              refine XS.iand X0.here hx rfl (hb hby at_88) rfl ?_
              show Steps p.tables e below (s₁.setTop (mkF m 89 #[.val (.long p0), .second, .val (.int p1), .val (.long p2), .second, .val (.int p3), .val (.int p4), .val (.int z7), .val (.int z8), .val (.int z9), .val (.int z10), .val (.long (p0 &&& (9223372036854775807 : Int64))), .second, .unset, .unset, .unset, .unset, .unset, .unset, .unset, .unset] [(.int (p1 &&& (32767 : Int32)))])) _
              refine XS.i2s X0.here hx rfl (hb hby at_89) rfl ?_
              show Steps p.tables e below (s₁.setTop (mkF m 90 #[.val (.long p0), .second, .val (.int p1), .val (.long p2), .second, .val (.int p3), .val (.int p4), .val (.int z7), .val (.int z8), .val (.int z9), .val (.int z10), .val (.long (p0 &&& (9223372036854775807 : Int64))), .second, .unset, .unset, .unset, .unset, .unset, .unset, .unset, .unset] [(.int ((p1 &&& (32767 : Int32)).toInt16.toInt32))])) _
              refine XS.istore X0.here hx rfl (hb hby at_90) rfl (l' := #[.val (.long p0), .second, .val (.int p1), .val (.long p2), .second, .val (.int p3), .val (.int p4), .val (.int z7), .val (.int z8), .val (.int z9), .val (.int z10), .val (.long (p0 &&& (9223372036854775807 : Int64))), .second, .val (.int ((p1 &&& (32767 : Int32)).toInt16.toInt32)), .unset, .unset, .unset, .unset, .unset, .unset, .unset]) rfl ?_
              show Steps p.tables e below (s₁.setTop (mkF m 92 #[.val (.long p0), .second, .val (.int p1), .val (.long p2), .second, .val (.int p3), .val (.int p4), .val (.int z7), .val (.int z8), .val (.int z9), .val (.int z10), .val (.long (p0 &&& (9223372036854775807 : Int64))), .second, .val (.int ((p1 &&& (32767 : Int32)).toInt16.toInt32)), .unset, .unset, .unset, .unset, .unset, .unset, .unset] [])) _
              refine XS.iload X0.here hx rfl (hb hby at_92) rfl ?_
              show Steps p.tables e below (s₁.setTop (mkF m 94 #[.val (.long p0), .second, .val (.int p1), .val (.long p2), .second, .val (.int p3), .val (.int p4), .val (.int z7), .val (.int z8), .val (.int z9), .val (.int z10), .val (.long (p0 &&& (9223372036854775807 : Int64))), .second, .val (.int ((p1 &&& (32767 : Int32)).toInt16.toInt32)), .unset, .unset, .unset, .unset, .unset, .unset, .unset] [(.int z8)])) _
              refine XS.ifYes X0.here hx rfl (pc0 := 94) (pc' := 108) rfl (hb hby at_94) rfl ((if0 _ _).trans (teq hz8).1) (by decide) (by decide) ?_
              show Steps p.tables e below (s₁.setTop (mkF m 108 #[.val (.long p0), .second, .val (.int p1), .val (.long p2), .second, .val (.int p3), .val (.int p4), .val (.int z7), .val (.int z8), .val (.int z9), .val (.int z10), .val (.long (p0 &&& (9223372036854775807 : Int64))), .second, .val (.int ((p1 &&& (32767 : Int32)).toInt16.toInt32)), .unset, .unset, .unset, .unset, .unset, .unset, .unset] [])) _
              refine XS.iload X0.here hx rfl (hb hby at_108) rfl ?_
              show Steps p.tables e below (s₁.setTop (mkF m 110 #[.val (.long p0), .second, .val (.int p1), .val (.long p2), .second, .val (.int p3), .val (.int p4), .val (.int z7), .val (.int z8), .val (.int z9), .val (.int z10), .val (.long (p0 &&& (9223372036854775807 : Int64))), .second, .val (.int ((p1 &&& (32767 : Int32)).toInt16.toInt32)), .unset, .unset, .unset, .unset, .unset, .unset, .unset] [(.int z9)])) _
              refine XS.ifNo X0.here hx rfl (hb hby at_110) rfl ((if0 _ _).trans (feq hz9).1) ?_
              show Steps p.tables e below (s₁.setTop (mkF m 113 #[.val (.long p0), .second, .val (.int p1), .val (.long p2), .second, .val (.int p3), .val (.int p4), .val (.int z7), .val (.int z8), .val (.int z9), .val (.int z10), .val (.long (p0 &&& (9223372036854775807 : Int64))), .second, .val (.int ((p1 &&& (32767 : Int32)).toInt16.toInt32)), .unset, .unset, .unset, .unset, .unset, .unset, .unset] [])) _
              refine XS.iload X0.here hx rfl (hb hby at_113) rfl ?_
              show Steps p.tables e below (s₁.setTop (mkF m 115 #[.val (.long p0), .second, .val (.int p1), .val (.long p2), .second, .val (.int p3), .val (.int p4), .val (.int z7), .val (.int z8), .val (.int z9), .val (.int z10), .val (.long (p0 &&& (9223372036854775807 : Int64))), .second, .val (.int ((p1 &&& (32767 : Int32)).toInt16.toInt32)), .unset, .unset, .unset, .unset, .unset, .unset, .unset] [(.int z7)])) _
              refine XS.ifNo X0.here hx rfl (hb hby at_115) rfl ((if0 _ _).trans (teq hz7).2) ?_
              show Steps p.tables e below (s₁.setTop (mkF m 118 #[.val (.long p0), .second, .val (.int p1), .val (.long p2), .second, .val (.int p3), .val (.int p4), .val (.int z7), .val (.int z8), .val (.int z9), .val (.int z10), .val (.long (p0 &&& (9223372036854775807 : Int64))), .second, .val (.int ((p1 &&& (32767 : Int32)).toInt16.toInt32)), .unset, .unset, .unset, .unset, .unset, .unset, .unset] [])) _
              refine XS.lload X0.here hx rfl (hb hby at_118) rfl ?_
              show Steps p.tables e below (s₁.setTop (mkF m 120 #[.val (.long p0), .second, .val (.int p1), .val (.long p2), .second, .val (.int p3), .val (.int p4), .val (.int z7), .val (.int z8), .val (.int z9), .val (.int z10), .val (.long (p0 &&& (9223372036854775807 : Int64))), .second, .val (.int ((p1 &&& (32767 : Int32)).toInt16.toInt32)), .unset, .unset, .unset, .unset, .unset, .unset, .unset] [(.long (p0 &&& (9223372036854775807 : Int64)))])) _
              refine XS.goto X0.here hx rfl (pc0 := 120) (pc' := 128) rfl (hb hby at_120) (by decide) (by decide) ?_
              show Steps p.tables e below (s₁.setTop (mkF m 128 #[.val (.long p0), .second, .val (.int p1), .val (.long p2), .second, .val (.int p3), .val (.int p4), .val (.int z7), .val (.int z8), .val (.int z9), .val (.int z10), .val (.long (p0 &&& (9223372036854775807 : Int64))), .second, .val (.int ((p1 &&& (32767 : Int32)).toInt16.toInt32)), .unset, .unset, .unset, .unset, .unset, .unset, .unset] [(.long (p0 &&& (9223372036854775807 : Int64)))])) _
              refine XS.lstore X0.here hx rfl (hb hby at_128) rfl (l' := #[.val (.long p0), .second, .val (.int p1), .val (.long p2), .second, .val (.int p3), .val (.int p4), .val (.int z7), .val (.int z8), .val (.int z9), .val (.int z10), .val (.long (p0 &&& (9223372036854775807 : Int64))), .second, .val (.int ((p1 &&& (32767 : Int32)).toInt16.toInt32)), .val (.long (p0 &&& (9223372036854775807 : Int64))), .second, .unset, .unset, .unset, .unset, .unset]) rfl ?_
              show Steps p.tables e below (s₁.setTop (mkF m 130 #[.val (.long p0), .second, .val (.int p1), .val (.long p2), .second, .val (.int p3), .val (.int p4), .val (.int z7), .val (.int z8), .val (.int z9), .val (.int z10), .val (.long (p0 &&& (9223372036854775807 : Int64))), .second, .val (.int ((p1 &&& (32767 : Int32)).toInt16.toInt32)), .val (.long (p0 &&& (9223372036854775807 : Int64))), .second, .unset, .unset, .unset, .unset, .unset] [])) _
              refine XS.iload X0.here hx rfl (hb hby at_130) rfl ?_
              show Steps p.tables e below (s₁.setTop (mkF m 132 #[.val (.long p0), .second, .val (.int p1), .val (.long p2), .second, .val (.int p3), .val (.int p4), .val (.int z7), .val (.int z8), .val (.int z9), .val (.int z10), .val (.long (p0 &&& (9223372036854775807 : Int64))), .second, .val (.int ((p1 &&& (32767 : Int32)).toInt16.toInt32)), .val (.long (p0 &&& (9223372036854775807 : Int64))), .second, .unset, .unset, .unset, .unset, .unset] [(.int z10)])) _
              refine XS.ifNo X0.here hx rfl (hb hby at_132) rfl ((if0 _ _).trans (feq hz10).1) ?_
              show Steps p.tables e below (s₁.setTop (mkF m 135 #[.val (.long p0), .second, .val (.int p1), .val (.long p2), .second, .val (.int p3), .val (.int p4), .val (.int z7), .val (.int z8), .val (.int z9), .val (.int z10), .val (.long (p0 &&& (9223372036854775807 : Int64))), .second, .val (.int ((p1 &&& (32767 : Int32)).toInt16.toInt32)), .val (.long (p0 &&& (9223372036854775807 : Int64))), .second, .unset, .unset, .unset, .unset, .unset] [])) _
              refine XS.iload X0.here hx rfl (hb hby at_135) rfl ?_
              show Steps p.tables e below (s₁.setTop (mkF m 137 #[.val (.long p0), .second, .val (.int p1), .val (.long p2), .second, .val (.int p3), .val (.int p4), .val (.int z7), .val (.int z8), .val (.int z9), .val (.int z10), .val (.long (p0 &&& (9223372036854775807 : Int64))), .second, .val (.int ((p1 &&& (32767 : Int32)).toInt16.toInt32)), .val (.long (p0 &&& (9223372036854775807 : Int64))), .second, .unset, .unset, .unset, .unset, .unset] [(.int z7)])) _
              refine XS.ifNo X0.here hx rfl (hb hby at_137) rfl ((if0 _ _).trans (teq hz7).2) ?_
              show Steps p.tables e below (s₁.setTop (mkF m 140 #[.val (.long p0), .second, .val (.int p1), .val (.long p2), .second, .val (.int p3), .val (.int p4), .val (.int z7), .val (.int z8), .val (.int z9), .val (.int z10), .val (.long (p0 &&& (9223372036854775807 : Int64))), .second, .val (.int ((p1 &&& (32767 : Int32)).toInt16.toInt32)), .val (.long (p0 &&& (9223372036854775807 : Int64))), .second, .unset, .unset, .unset, .unset, .unset] [])) _
              refine XS.iload X0.here hx rfl (hb hby at_140) rfl ?_
              show Steps p.tables e below (s₁.setTop (mkF m 142 #[.val (.long p0), .second, .val (.int p1), .val (.long p2), .second, .val (.int p3), .val (.int p4), .val (.int z7), .val (.int z8), .val (.int z9), .val (.int z10), .val (.long (p0 &&& (9223372036854775807 : Int64))), .second, .val (.int ((p1 &&& (32767 : Int32)).toInt16.toInt32)), .val (.long (p0 &&& (9223372036854775807 : Int64))), .second, .unset, .unset, .unset, .unset, .unset] [(.int ((p1 &&& (32767 : Int32)).toInt16.toInt32))])) _
              refine XS.goto X0.here hx rfl (pc0 := 142) (pc' := 152) rfl (hb hby at_142) (by decide) (by decide) ?_
              show Steps p.tables e below (s₁.setTop (mkF m 152 #[.val (.long p0), .second, .val (.int p1), .val (.long p2), .second, .val (.int p3), .val (.int p4), .val (.int z7), .val (.int z8), .val (.int z9), .val (.int z10), .val (.long (p0 &&& (9223372036854775807 : Int64))), .second, .val (.int ((p1 &&& (32767 : Int32)).toInt16.toInt32)), .val (.long (p0 &&& (9223372036854775807 : Int64))), .second, .unset, .unset, .unset, .unset, .unset] [(.int ((p1 &&& (32767 : Int32)).toInt16.toInt32))])) _
              refine XS.istore X0.here hx rfl (hb hby at_152) rfl (l' := #[.val (.long p0), .second, .val (.int p1), .val (.long p2), .second, .val (.int p3), .val (.int p4), .val (.int z7), .val (.int z8), .val (.int z9), .val (.int z10), .val (.long (p0 &&& (9223372036854775807 : Int64))), .second, .val (.int ((p1 &&& (32767 : Int32)).toInt16.toInt32)), .val (.long (p0 &&& (9223372036854775807 : Int64))), .second, .val (.int ((p1 &&& (32767 : Int32)).toInt16.toInt32)), .unset, .unset, .unset, .unset]) rfl ?_
              exact kt)⟩
      · exact ⟨(p0 &&& (9223372036854775807 : Int64)), ((p1 &&& (32767 : Int32)).toInt16.toInt32), (-1 : Int64), (-1 : Int32), ⟨(own_okM (own_and64 _) (own_and15 _)), own_okE⟩, fun tgt kt => pre17 _ (by
          show Steps p.tables e below (s₁.setTop (mkF m 59 #[.val (.long p0), .second, .val (.int p1), .val (.long p2), .second, .val (.int p3), .val (.int p4), .val (.int z7), .val (.int z8), .val (.int z9), .val (.int z10), .unset, .unset, .unset, .unset, .unset, .unset, .unset, .unset, .unset, .unset] [(.int z7)])) _
          refine XS.ifYes X0.here hx rfl (pc0 := 59) (pc' := 68) rfl (hb hby at_59) rfl ((if0 _ _).trans (teq hz7).1) (by decide) (by decide) ?_
          show Steps p.tables e below (s₁.setTop (mkF m 68 #[.val (.long p0), .second, .val (.int p1), .val (.long p2), .second, .val (.int p3), .val (.int p4), .val (.int z7), .val (.int z8), .val (.int z9), .val (.int z10), .unset, .unset, .unset, .unset, .unset, .unset, .unset, .unset, .unset, .unset] [])) _
          refine XS.lloadN X0.here hx rfl (hb hby at_68) rfl ?_
          show Steps p.tables e below (s₁.setTop (mkF m 69 #[.val (.long p0), .second, .val (.int p1), .val (.long p2), .second, .val (.int p3), .val (.int p4), .val (.int z7), .val (.int z8), .val (.int z9), .val (.int z10), .unset, .unset, .unset, .unset, .unset, .unset, .unset, .unset, .unset, .unset] [(.long p0)])) _
          refine X0.ldc2Long hx hown (mvT hZ (hw _ (List.mem_of_getElem? (i := 0) rfl))) (g := (mkF m 69 #[.val (.long p0), .second, .val (.int p1), .val (.long p2), .second, .val (.int p3), .val (.int p4), .val (.int z7), .val (.int z8), .val (.int z9), .val (.int z10), .unset, .unset, .unset, .unset, .unset, .unset, .unset, .unset, .unset, .unset] [(.long p0)])) rfl (hb hby at_69) _ ?_
          show Steps p.tables e below (s₁.setTop (mkF m 72 #[.val (.long p0), .second, .val (.int p1), .val (.long p2), .second, .val (.int p3), .val (.int p4), .val (.int z7), .val (.int z8), .val (.int z9), .val (.int z10), .unset, .unset, .unset, .unset, .unset, .unset, .unset, .unset, .unset, .unset] [(.long (9223372036854775807 : Int64)), (.long p0)])) _
          refine XS.land X0.here hx rfl (hb hby at_72) rfl ?_
          show Steps p.tables e below (s₁.setTop (mkF m 73 #[.val (.long p0), .second, .val (.int p1), .val (.long p2), .second, .val (.int p3), .val (.int p4), .val (.int z7), .val (.int z8), .val (.int z9), .val (.int z10), .unset, .unset, .unset, .unset, .unset, .unset, .unset, .unset, .unset, .unset] [(.long (p0 &&& (9223372036854775807 : Int64)))])) _
          refine XS.lstore X0.here hx rfl (hb hby at_73) rfl (l' := #[.val (.long p0), .second, .val (.int p1), .val (.long p2), .second, .val (.int p3), .val (.int p4), .val (.int z7), .val (.int z8), .val (.int z9), .val (.int z10), .val (.long (p0 &&& (9223372036854775807 : Int64))), .second, .unset, .unset, .unset, .unset, .unset, .unset, .unset, .unset]) rfl ?_
          show Steps p.tables e below (s₁.setTop (mkF m 75 #[.val (.long p0), .second, .val (.int p1), .val (.long p2), .second, .val (.int p3), .val (.int p4), .val (.int z7), .val (.int z8), .val (.int z9), .val (.int z10), .val (.long (p0 &&& (9223372036854775807 : Int64))), .second, .unset, .unset, .unset, .unset, .unset, .unset, .unset, .unset] [])) _
          refine XS.iload X0.here hx rfl (hb hby at_75) rfl ?_
          show Steps p.tables e below (s₁.setTop (mkF m 77 #[.val (.long p0), .second, .val (.int p1), .val (.long p2), .second, .val (.int p3), .val (.int p4), .val (.int z7), .val (.int z8), .val (.int z9), .val (.int z10), .val (.long (p0 &&& (9223372036854775807 : Int64))), .second, .unset, .unset, .unset, .unset, .unset, .unset, .unset, .unset] [(.int z7)])) _
          refine XS.ifYes X0.here hx rfl (pc0 := 77) (pc' := 84) rfl (hb hby at_77) rfl ((if0 _ _).trans (teq hz7).1) (by decide) (by decide) ?_
          show Steps p.tables e below (s₁.setTop (mkF m 84 #[.val (.long p0), .second, .val (.int p1), .val (.long p2), .second, .val (.int p3), .val (.int p4), .val (.int z7), .val (.int z8), .val (.int z9), .val (.int z10), .val (.long (p0 &&& (9223372036854775807 : Int64))), .second, .unset, .unset, .unset, .unset, .unset, .unset, .unset, .unset] [])) _
          refine XS.iloadN X0.here hx rfl (hb hby at_84) rfl ?_
          show Steps p.tables e below (s₁.setTop (mkF m 85 #[.val (.long p0), .second, .val (.int p1), .val (.long p2), .second, .val (.int p3), .val (.int p4), .val (.int z7), .val (.int z8), .val (.int z9), .val (.int z10), .val (.long (p0 &&& (9223372036854775807 : Int64))), .second, .unset, .unset, .unset, .unset, .unset, .unset, .unset, .unset] [(.int p1)])) _
          refine XS.sipush X0.here hx rfl (hb hby at_85) ?_
          show Steps p.tables e below (s₁.setTop (mkF m 88 #[.val (.long p0), .second, .val (.int p1), .val (.long p2), .second, .val (.int p3), .val (.int p4), .val (.int z7), .val (.int z8), .val (.int z9), .val (.int z10), .val (.long (p0 &&& (9223372036854775807 : Int64))), .second, .unset, .unset, .unset, .unset, .unset, .unset, .unset, .unset] [(.int (32767 : Int32)), (.int p1)])) _
          refine XS.iand X0.here hx rfl (hb hby at_88) rfl ?_
          show Steps p.tables e below (s₁.setTop (mkF m 89 #[.val (.long p0), .second, .val (.int p1), .val (.long p2), .second, .val (.int p3), .val (.int p4), .val (.int z7), .val (.int z8), .val (.int z9), .val (.int z10), .val (.long (p0 &&& (9223372036854775807 : Int64))), .second, .unset, .unset, .unset, .unset, .unset, .unset, .unset, .unset] [(.int (p1 &&& (32767 : Int32)))])) _
          refine XS.i2s X0.here hx rfl (hb hby at_89) rfl ?_
          show Steps p.tables e below (s₁.setTop (mkF m 90 #[.val (.long p0), .second, .val (.int p1), .val (.long p2), .second, .val (.int p3), .val (.int p4), .val (.int z7), .val (.int z8), .val (.int z9), .val (.int z10), .val (.long (p0 &&& (9223372036854775807 : Int64))), .second, .unset, .unset, .unset, .unset, .unset, .unset, .unset, .unset] [(.int ((p1 &&& (32767 : Int32)).toInt16.toInt32))])) _
          refine XS.istore X0.here hx rfl (hb hby at_90) rfl (l' := #[.val (.long p0), .second, .val (.int p1), .val (.long p2), .second, .val (.int p3), .val (.int p4), .val (.int z7), .val (.int z8), .val (.int z9), .val (.int z10), .val (.long (p0 &&& (9223372036854775807 : Int64))), .second, .val (.int ((p1 &&& (32767 : Int32)).toInt16.toInt32)), .unset, .unset, .unset, .unset, .unset, .unset, .unset]) rfl ?_
          show Steps p.tables e below (s₁.setTop (mkF m 92 #[.val (.long p0), .second, .val (.int p1), .val (.long p2), .second, .val (.int p3), .val (.int p4), .val (.int z7), .val (.int z8), .val (.int z9), .val (.int z10), .val (.long (p0 &&& (9223372036854775807 : Int64))), .second, .val (.int ((p1 &&& (32767 : Int32)).toInt16.toInt32)), .unset, .unset, .unset, .unset, .unset, .unset, .unset] [])) _
          refine XS.iload X0.here hx rfl (hb hby at_92) rfl ?_
          show Steps p.tables e below (s₁.setTop (mkF m 94 #[.val (.long p0), .second, .val (.int p1), .val (.long p2), .second, .val (.int p3), .val (.int p4), .val (.int z7), .val (.int z8), .val (.int z9), .val (.int z10), .val (.long (p0 &&& (9223372036854775807 : Int64))), .second, .val (.int ((p1 &&& (32767 : Int32)).toInt16.toInt32)), .unset, .unset, .unset, .unset, .unset, .unset, .unset] [(.int z8)])) _
          refine XS.ifNo X0.here hx rfl (hb hby at_94) rfl ((if0 _ _).trans (feq hz8).1) ?_
          show Steps p.tables e below (s₁.setTop (mkF m 97 #[.val (.long p0), .second, .val (.int p1), .val (.long p2), .second, .val (.int p3), .val (.int p4), .val (.int z7), .val (.int z8), .val (.int z9), .val (.int z10), .val (.long (p0 &&& (9223372036854775807 : Int64))), .second, .val (.int ((p1 &&& (32767 : Int32)).toInt16.toInt32)), .unset, .unset, .unset, .unset, .unset, .unset, .unset] [])) _
          refine X0.ldc2Long hx hown (mvT hZ (hw _ (List.mem_of_getElem? (i := 1) rfl))) (g := (mkF m 97 #[.val (.long p0), .second, .val (.int p1), .val (.long p2), .second, .val (.int p3), .val (.int p4), .val (.int z7), .val (.int z8), .val (.int z9), .val (.int z10), .val (.long (p0 &&& (9223372036854775807 : Int64))), .second, .val (.int ((p1 &&& (32767 : Int32)).toInt16.toInt32)), .unset, .unset, .unset, .unset, .unset, .unset, .unset] [])) rfl (hb hby at_97) _ ?_
          show Steps p.tables e below (s₁.setTop (mkF m 100 #[.val (.long p0), .second, .val (.int p1), .val (.long p2), .second, .val (.int p3), .val (.int p4), .val (.int z7), .val (.int z8), .val (.int z9), .val (.int z10), .val (.long (p0 &&& (9223372036854775807 : Int64))), .second, .val (.int ((p1 &&& (32767 : Int32)).toInt16.toInt32)), .unset, .unset, .unset, .unset, .unset, .unset, .unset] [(.long (-1 : Int64))])) _
          refine XS.lstore X0.here hx rfl (hb hby at_100) rfl (l' := #[.val (.long p0), .second, .val (.int p1), .val (.long p2), .second, .val (.int p3), .val (.int p4), .val (.int z7), .val (.int z8), .val (.int z9), .val (.int z10), .val (.long (p0 &&& (9223372036854775807 : Int64))), .second, .val (.int ((p1 &&& (32767 : Int32)).toInt16.toInt32)), .val (.long (-1 : Int64)), .second, .unset, .unset, .unset, .unset, .unset]) rfl ?_
          show Steps p.tables e below (s₁.setTop (mkF m 102 #[.val (.long p0), .second, .val (.int p1), .val (.long p2), .second, .val (.int p3), .val (.int p4), .val (.int z7), .val (.int z8), .val (.int z9), .val (.int z10), .val (.long (p0 &&& (9223372036854775807 : Int64))), .second, .val (.int ((p1 &&& (32767 : Int32)).toInt16.toInt32)), .val (.long (-1 : Int64)), .second, .unset, .unset, .unset, .unset, .unset] [])) _
          refine XS.iconst X0.here hx rfl (hb hby at_102) ?_
          show Steps p.tables e below (s₁.setTop (mkF m 103 #[.val (.long p0), .second, .val (.int p1), .val (.long p2), .second, .val (.int p3), .val (.int p4), .val (.int z7), .val (.int z8), .val (.int z9), .val (.int z10), .val (.long (p0 &&& (9223372036854775807 : Int64))), .second, .val (.int ((p1 &&& (32767 : Int32)).toInt16.toInt32)), .val (.long (-1 : Int64)), .second, .unset, .unset, .unset, .unset, .unset] [(.int (-1 : Int32))])) _
          refine XS.istore X0.here hx rfl (hb hby at_103) rfl (l' := #[.val (.long p0), .second, .val (.int p1), .val (.long p2), .second, .val (.int p3), .val (.int p4), .val (.int z7), .val (.int z8), .val (.int z9), .val (.int z10), .val (.long (p0 &&& (9223372036854775807 : Int64))), .second, .val (.int ((p1 &&& (32767 : Int32)).toInt16.toInt32)), .val (.long (-1 : Int64)), .second, .val (.int (-1 : Int32)), .unset, .unset, .unset, .unset]) rfl ?_
          show Steps p.tables e below (s₁.setTop (mkF m 105 #[.val (.long p0), .second, .val (.int p1), .val (.long p2), .second, .val (.int p3), .val (.int p4), .val (.int z7), .val (.int z8), .val (.int z9), .val (.int z10), .val (.long (p0 &&& (9223372036854775807 : Int64))), .second, .val (.int ((p1 &&& (32767 : Int32)).toInt16.toInt32)), .val (.long (-1 : Int64)), .second, .val (.int (-1 : Int32)), .unset, .unset, .unset, .unset] [])) _
          refine XS.goto X0.here hx rfl (pc0 := 105) (pc' := 154) rfl (hb hby at_105) (by decide) (by decide) ?_
          exact kt)⟩
    · by_cases hz8 : z8 = (0 : Int32)
      · by_cases hz9 : z9 = (0 : Int32)
        · by_cases hz10 : z10 = (0 : Int32)
          · exact ⟨(-1 : Int64), (-1 : Int32), (p2 &&& (9223372036854775807 : Int64)), ((p3 &&& (32767 : Int32)).toInt16.toInt32), ⟨own_okE, (own_okM (own_and64 _) (own_and15 _))⟩, fun tgt kt => pre17 _ (by
              show Steps p.tables e below (s₁.setTop (mkF m 59 #[.val (.long p0), .second, .val (.int p1), .val (.long p2), .second, .val (.int p3), .val (.int p4), .val (.int z7), .val (.int z8), .val (.int z9), .val (.int z10), .unset, .unset, .unset, .unset, .unset, .unset, .unset, .unset, .unset, .unset] [(.int z7)])) _
              refine XS.ifNo X0.here hx rfl (hb hby at_59) rfl ((if0 _ _).trans (feq hz7).1) ?_
              show Steps p.tables e below (s₁.setTop (mkF m 62 #[.val (.long p0), .second, .val (.int p1), .val (.long p2), .second, .val (.int p3), .val (.int p4), .val (.int z7), .val (.int z8), .val (.int z9), .val (.int z10), .unset, .unset, .unset, .unset, .unset, .unset, .unset, .unset, .unset, .unset] [])) _
              refine X0.ldc2Long hx hown (mvT hZ (hw _ (List.mem_of_getElem? (i := 1) rfl))) (g := (mkF m 62 #[.val (.long p0), .second, .val (.int p1), .val (.long p2), .second, .val (.int p3), .val (.int p4), .val (.int z7), .val (.int z8), .val (.int z9), .val (.int z10), .unset, .unset, .unset, .unset, .unset, .unset, .unset, .unset, .unset, .unset] [])) rfl (hb hby at_62) _ ?_
              show Steps p.tables e below (s₁.setTop (mkF m 65 #[.val (.long p0), .second, .val (.int p1), .val (.long p2), .second, .val (.int p3), .val (.int p4), .val (.int z7), .val (.int z8), .val (.int z9), .val (.int z10), .unset, .unset, .unset, .unset, .unset, .unset, .unset, .unset, .unset, .unset] [(.long (-1 : Int64))])) _
              refine XS.goto X0.here hx rfl (pc0 := 65) (pc' := 73) rfl (hb hby at_65) (by decide) (by decide) ?_
              show Steps p.tables e below (s₁.setTop (mkF m 73 #[.val (.long p0), .second, .val (.int p1), .val (.long p2), .second, .val (.int p3), .val (.int p4), .val (.int z7), .val (.int z8), .val (.int z9), .val (.int z10), .unset, .unset, .unset, .unset, .unset, .unset, .unset, .unset, .unset, .unset] [(.long (-1 : Int64))])) _
              refine XS.lstore X0.here hx rfl (hb hby at_73) rfl (l' := #[.val (.long p0), .second, .val (.int p1), .val (.long p2), .second, .val (.int p3), .val (.int p4), .val (.int z7), .val (.int z8), .val (.int z9), .val (.int z10), .val (.long (-1 : Int64)), .second, .unset, .unset, .unset, .unset, .unset, .unset, .unset, .unset]) rfl ?_
              show Steps p.tables e below (s₁.setTop (mkF m 75 #[.val (.long p0), .second, .val (.int p1), .val (.long p2), .second, .val (.int p3), .val (.int p4), .val (.int z7), .val (.int z8), .val (.int z9), .val (.int z10), .val (.long (-1 : Int64)), .second, .unset, .unset, .unset, .unset, .unset, .unset, .unset, .unset] [])) _
              refine XS.iload X0.here hx rfl (hb hby at_75) rfl ?_
              show Steps p.tables e below (s₁.setTop (mkF m 77 #[.val (.long p0), .second, .val (.int p1), .val (.long p2), .second, .val (.int p3), .val (.int p4), .val (.int z7), .val (.int z8), .val (.int z9), .val (.int z10), .val (.long (-1 : Int64)), .second, .unset, .unset, .unset, .unset, .unset, .unset, .unset, .unset] [(.int z7)])) _
              refine XS.ifNo X0.here hx rfl (hb hby at_77) rfl ((if0 _ _).trans (feq hz7).1) ?_
              show Steps p.tables e below (s₁.setTop (mkF m 80 #[.val (.long p0), .second, .val (.int p1), .val (.long p2), .second, .val (.int p3), .val (.int p4), .val (.int z7), .val (.int z8), .val (.int z9), .val (.int z10), .val (.long (-1 : Int64)), .second, .unset, .unset, .unset, .unset, .unset, .unset, .unset, .unset] [])) _
              refine XS.iconst X0.here hx rfl (hb hby at_80) ?_
              show Steps p.tables e below (s₁.setTop (mkF m 81 #[.val (.long p0), .second, .val (.int p1), .val (.long p2), .second, .val (.int p3), .val (.int p4), .val (.int z7), .val (.int z8), .val (.int z9), .val (.int z10), .val (.long (-1 : Int64)), .second, .unset, .unset, .unset, .unset, .unset, .unset, .unset, .unset] [(.int (-1 : Int32))])) _
              refine XS.goto X0.here hx rfl (pc0 := 81) (pc' := 90) rfl (hb hby at_81) (by decide) (by decide) ?_
              show Steps p.tables e below (s₁.setTop (mkF m 90 #[.val (.long p0), .second, .val (.int p1), .val (.long p2), .second, .val (.int p3), .val (.int p4), .val (.int z7), .val (.int z8), .val (.int z9), .val (.int z10), .val (.long (-1 : Int64)), .second, .unset, .unset, .unset, .unset, .unset, .unset, .unset, .unset] [(.int (-1 : Int32))])) _
              refine XS.istore X0.here hx rfl (hb hby at_90) rfl (l' := #[.val (.long p0), .second, .val (.int p1), .val (.long p2), .second, .val (.int p3), .val (.int p4), .val (.int z7), .val (.int z8), .val (.int z9), .val (.int z10), .val (.long (-1 : Int64)), .second, .val (.int (-1 : Int32)), .unset, .unset, .unset, .unset, .unset, .unset, .unset]) rfl ?_
              show Steps p.tables e below (s₁.setTop (mkF m 92 #[.val (.long p0), .second, .val (.int p1), .val (.long p2), .second, .val (.int p3), .val (.int p4), .val (.int z7), .val (.int z8), .val (.int z9), .val (.int z10), .val (.long (-1 : Int64)), .second, .val (.int (-1 : Int32)), .unset, .unset, .unset, .unset, .unset, .unset, .unset] [])) _
              refine XS.iload X0.here hx rfl (hb hby at_92) rfl ?_
              show Steps p.tables e below (s₁.setTop (mkF m 94 #[.val (.long p0), .second, .val (.int p1), .val (.long p2), .second, .val (.int p3), .val (.int p4), .val (.int z7), .val (.int z8), .val (.int z9), .val (.int z10), .val (.long (-1 : Int64)), .second, .val (.int (-1 : Int32)), .unset, .unset, .unset, .unset, .unset, .unset, .unset] [(.int z8)])) _
              refine XS.ifYes X0.here hx rfl (pc0 := 94) (pc' := 108) rfl (hb hby at_94) rfl ((if0 _ _).trans (teq hz8).1) (by decide) (by decide) ?_
              show Steps p.tables e below (s₁.setTop (mkF m 108 #[.val (.long p0), .second, .val (.int p1), .val (.long p2), .second, .val (.int p3), .val (.int p4), .val (.int z7), .val (.int z8), .val (.int z9), .val (.int z10), .val (.long (-1 : Int64)), .second, .val (.int (-1 : Int32)), .unset, .unset, .unset, .unset, .unset, .unset, .unset] [])) _
              refine XS.iload X0.here hx rfl (hb hby at_108) rfl ?_
              show Steps p.tables e below (s₁.setTop (mkF m 110 #[.val (.long p0), .second, .val (.int p1), .val (.long p2), .second, .val (.int p3), .val (.int p4), .val (.int z7), .val (.int z8), .val (.int z9), .val (.int z10), .val (.long (-1 : Int64)), .second, .val (.int (-1 : Int32)), .unset, .unset, .unset, .unset, .unset, .unset, .unset] [(.int z9)])) _
              refine XS.ifYes X0.here hx rfl (pc0 := 110) (pc' := 123) rfl (hb hby at_110) rfl ((if0 _ _).trans (teq hz9).1) (by decide) (by decide) ?_
              show Steps p.tables e below (s₁.setTop (mkF m 123 #[.val (.long p0), .second, .val (.int p1), .val (.long p2), .second, .val (.int p3), .val (.int p4), .val (.int z7), .val (.int z8), .val (.int z9), .val (.int z10), .val (.long (-1 : Int64)), .second, .val (.int (-1 : Int32)), .unset, .unset, .unset, .unset, .unset, .unset, .unset] [])) _
              refine XS.lloadN X0.here hx rfl (hb hby at_123) rfl ?_
              show Steps p.tables e below (s₁.setTop (mkF m 124 #[.val (.long p0), .second, .val (.int p1), .val (.long p2), .second, .val (.int p3), .val (.int p4), .val (.int z7), .val (.int z8), .val (.int z9), .val (.int z10), .val (.long (-1 : Int64)), .second, .val (.int (-1 : Int32)), .unset, .unset, .unset, .unset, .unset, .unset, .unset] [(.long p2)])) _
              refine X0.ldc2Long hx hown (mvT hZ (hw _ (List.mem_of_getElem? (i := 0) rfl))) (g := (mkF m 124 #[.val (.long p0), .second, .val (.int p1), .val (.long p2), .second, .val (.int p3), .val (.int p4), .val (.int z7), .val (.int z8), .val (.int z9), .val (.int z10), .val (.long (-1 : Int64)), .second, .val (.int (-1 : Int32)), .unset, .unset, .unset, .unset, .unset, .unset, .unset] [(.long p2)])) rfl (hb hby at_124) _ ?_
              show Steps p.tables e below (s₁.setTop (mkF m 127 #[.val (.long p0), .second, .val (.int p1), .val (.long p2), .second, .val (.int p3), .val (.int p4), .val (.int z7), .val (.int z8), .val (.int z9), .val (.int z10), .val (.long (-1 : Int64)), .second, .val (.int (-1 : Int32)), .unset, .unset, .unset, .unset, .unset, .unset, .unset] [(.long (9223372036854775807 : Int64)), (.long p2)])) _
              refine XS.land X0.here hx rfl (hb hby at_127) rfl ?_
              show Steps p.tables e below (s₁.setTop (mkF m 128 #[.val (.long p0), .second, .val (.int p1), .val (.long p2), .second, .val (.int p3), .val (.int p4), .val (.int z7), .val (.int z8), .val (.int z9), .val (.int z10), .val (.long (-1 : Int64)), .second, .val (.int (-1 : Int32)), .unset, .unset, .unset, .unset, .unset, .unset, .unset] [(.long (p2 &&& (9223372036854775807 : Int64)))])) _
              refine XS.lstore X0.here hx rfl (hb hby at_128) rfl (l' := #[.val (.long p0), .second, .val (.int p1), .val (.long p2), .second, .val (.int p3), .val (.int p4), .val (.int z7), .val (.int z8), .val (.int z9), .val (.int z10), .val (.long (-1 : Int64)), .second, .val (.int (-1 : Int32)), .val (.long (p2 &&& (9223372036854775807 : Int64))), .second, .unset, .unset, .unset, .unset, .unset]) rfl ?_
              show Steps p.tables e below (s₁.setTop (mkF m 130 #[.val (.long p0), .second, .val (.int p1), .val (.long p2), .second, .val (.int p3), .val (.int p4), .val (.int z7), .val (.int z8), .val (.int z9), .val (.int z10), .val (.long (-1 : Int64)), .second, .val (.int (-1 : Int32)), .val (.long (p2 &&& (9223372036854775807 : Int64))), .second, .unset, .unset, .unset, .unset, .unset] [])) _
              refine XS.iload X0.here hx rfl (hb hby at_130) rfl ?_
              show Steps p.tables e below (s₁.setTop (mkF m 132 #[.val (.long p0), .second, .val (.int p1), .val (.long p2), .second, .val (.int p3), .val (.int p4), .val (.int z7), .val (.int z8), .val (.int z9), .val (.int z10), .val (.long (-1 : Int64)), .second, .val (.int (-1 : Int32)), .val (.long (p2 &&& (9223372036854775807 : Int64))), .second, .unset, .unset, .unset, .unset, .unset] [(.int z10)])) _
              refine XS.ifYes X0.here hx rfl (pc0 := 132) (pc' := 145) rfl (hb hby at_132) rfl ((if0 _ _).trans (teq hz10).1) (by decide) (by decide) ?_
              show Steps p.tables e below (s₁.setTop (mkF m 145 #[.val (.long p0), .second, .val (.int p1), .val (.long p2), .second, .val (.int p3), .val (.int p4), .val (.int z7), .val (.int z8), .val (.int z9), .val (.int z10), .val (.long (-1 : Int64)), .second, .val (.int (-1 : Int32)), .val (.long (p2 &&& (9223372036854775807 : Int64))), .second, .unset, .unset, .unset, .unset, .unset] [])) _
              refine XS.iload X0.here hx rfl (hb hby at_145) rfl ?_
              show Steps p.tables e below (s₁.setTop (mkF m 147 #[.val (.long p0), .second, .val (.int p1), .val (.long p2), .second, .val (.int p3), .val (.int p4), .val (.int z7), .val (.int z8), .val (.int z9), .val (.int z10), .val (.long (-1 : Int64)), .second, .val (.int (-1 : Int32)), .val (.long (p2 &&& (9223372036854775807 : Int64))), .second, .unset, .unset, .unset, .unset, .unset] [(.int p3)])) _
              refine XS.sipush X0.here hx rfl (hb hby at_147) ?_
              show Steps p.tables e below (s₁.setTop (mkF m 150 #[.val (.long p0), .second, .val (.int p1), .val (.long p2), .second, .val (.int p3), .val (.int p4), .val (.int z7), .val (.int z8), .val (.int z9), .val (.int z10), .val (.long (-1 : Int64)), .second, .val (.int (-1 : Int32)), .val (.long (p2 &&& (9223372036854775807 : Int64))), .second, .unset, .unset, .unset, .unset, .unset] [(.int (32767 : Int32)), (.int p3)])) _
              refine XS.iand X0.here hx rfl (hb hby at_150) rfl ?_
              show Steps p.tables e below (s₁.setTop (mkF m 151 #[.val (.long p0), .second, .val (.int p1), .val (.long p2), .second, .val (.int p3), .val (.int p4), .val (.int z7), .val (.int z8), .val (.int z9), .val (.int z10), .val (.long (-1 : Int64)), .second, .val (.int (-1 : Int32)), .val (.long (p2 &&& (9223372036854775807 : Int64))), .second, .unset, .unset, .unset, .unset, .unset] [(.int (p3 &&& (32767 : Int32)))])) _
              refine XS.i2s X0.here hx rfl (hb hby at_151) rfl ?_
              show Steps p.tables e below (s₁.setTop (mkF m 152 #[.val (.long p0), .second, .val (.int p1), .val (.long p2), .second, .val (.int p3), .val (.int p4), .val (.int z7), .val (.int z8), .val (.int z9), .val (.int z10), .val (.long (-1 : Int64)), .second, .val (.int (-1 : Int32)), .val (.long (p2 &&& (9223372036854775807 : Int64))), .second, .unset, .unset, .unset, .unset, .unset] [(.int ((p3 &&& (32767 : Int32)).toInt16.toInt32))])) _
              refine XS.istore X0.here hx rfl (hb hby at_152) rfl (l' := #[.val (.long p0), .second, .val (.int p1), .val (.long p2), .second, .val (.int p3), .val (.int p4), .val (.int z7), .val (.int z8), .val (.int z9), .val (.int z10), .val (.long (-1 : Int64)), .second, .val (.int (-1 : Int32)), .val (.long (p2 &&& (9223372036854775807 : Int64))), .second, .val (.int ((p3 &&& (32767 : Int32)).toInt16.toInt32)), .unset, .unset, .unset, .unset]) rfl ?_
              exact kt)⟩
          · exact ⟨(-1 : Int64), (-1 : Int32), (p2 &&& (9223372036854775807 : Int64)), ((p3 &&& (32767 : Int32)).toInt16.toInt32), ⟨own_okE, (own_okM (own_and64 _) (own_and15 _))⟩, fun tgt kt => pre17 _ (by
              show Steps p.tables e below (s₁.setTop (mkF m 59 #[.val (.long p0), .second, .val (.int p1), .val (.long p2), .second, .val (.int p3), .val (.int p4), .val (.int z7), .val (.int z8), .val (.int z9), .val (.int z10), .unset, .unset, .unset, .unset, .unset, .unset, .unset, .unset, .unset, .unset] [(.int z7)])) _
              refine XS.ifNo X0.here hx rfl (hb hby at_59) rfl ((if0 _ _).trans (feq hz7).1) ?_
              show Steps p.tables e below (s₁.setTop (mkF m 62 #[.val (.long p0), .second, .val (.int p1), .val (.long p2), .second, .val (.int p3), .val (.int p4), .val (.int z7), .val (.int z8), .val (.int z9), .val (.int z10), .unset, .unset, .unset, .unset, .unset, .unset, .unset, .unset, .unset, .unset] [])) _
              refine X0.ldc2Long hx hown (mvT hZ (hw _ (List.mem_of_getElem? (i := 1) rfl))) (g := (mkF m 62 #[.val (.long p0), .second, .val (.int p1), .val (.long p2), .second, .val (.int p3), .val (.int p4), .val (.int z7), .val (.int z8), .val (.int z9), .val (.int z10), .unset, .unset, .unset, .unset, .unset, .unset, .unset, .unset, .unset, .unset] [])) rfl (hb hby at_62) _ ?_
              show Steps p.tables e below (s₁.setTop (mkF m 65 #[.val (.long p0), .second, .val (.int p1), .val (.long p2), .second, .val (.int p3), .val (.int p4), .val (.int z7), .val (.int z8), .val (.int z9), .val (.int z10), .unset, .unset, .unset, .unset, .unset, .unset, .unset, .unset, .unset, .unset] [(.long (-1 : Int64))])) _
              refine XS.goto X0.here hx rfl (pc0 := 65) (pc' := 73) rfl (hb hby at_65) (by decide) (by decide) ?_
              show Steps p.tables e below (s₁.setTop (mkF m 73 #[.val (.long p0), .second, .val (.int p1), .val (.long p2), .second, .val (.int p3), .val (.int p4), .val (.int z7), .val (.int z8), .val (.int z9), .val (.int z10), .unset, .unset, .unset, .unset, .unset, .unset, .unset, .unset, .unset, .unset] [(.long (-1 : Int64))])) _
              refine XS.lstore X0.here hx rfl (hb hby at_73) rfl (l' := #[.val (.long p0), .second, .val (.int p1), .val (.long p2), .second, .val (.int p3), .val (.int p4), .val (.int z7), .val (.int z8), .val (.int z9), .val (.int z10), .val (.long (-1 : Int64)), .second, .unset, .unset, .unset, .unset, .unset, .unset, .unset, .unset]) rfl ?_
              show Steps p.tables e below (s₁.setTop (mkF m 75 #[.val (.long p0), .second, .val (.int p1), .val (.long p2), .second, .val (.int p3), .val (.int p4), .val (.int z7), .val (.int z8), .val (.int z9), .val (.int z10), .val (.long (-1 : Int64)), .second, .unset, .unset, .unset, .unset, .unset, .unset, .unset, .unset] [])) _
              refine XS.iload X0.here hx rfl (hb hby at_75) rfl ?_
              show Steps p.tables e below (s₁.setTop (mkF m 77 #[.val (.long p0), .second, .val (.int p1), .val (.long p2), .second, .val (.int p3), .val (.int p4), .val (.int z7), .val (.int z8), .val (.int z9), .val (.int z10), .val (.long (-1 : Int64)), .second, .unset, .unset, .unset, .unset, .unset, .unset, .unset, .unset] [(.int z7)])) _
              refine XS.ifNo X0.here hx rfl (hb hby at_77) rfl ((if0 _ _).trans (feq hz7).1) ?_
              show Steps p.tables e below (s₁.setTop (mkF m 80 #[.val (.long p0), .second, .val (.int p1), .val (.long p2), .second, .val (.int p3), .val (.int p4), .val (.int z7), .val (.int z8), .val (.int z9), .val (.int z10), .val (.long (-1 : Int64)), .second, .unset, .unset, .unset, .unset, .unset, .unset, .unset, .unset] [])) _
              refine XS.iconst X0.here hx rfl (hb hby at_80) ?_
              show Steps p.tables e below (s₁.setTop (mkF m 81 #[.val (.long p0), .second, .val (.int p1), .val (.long p2), .second, .val (.int p3), .val (.int p4), .val (.int z7), .val (.int z8), .val (.int z9), .val (.int z10), .val (.long (-1 : Int64)), .second, .unset, .unset, .unset, .unset, .unset, .unset, .unset, .unset] [(.int (-1 : Int32))])) _
              refine XS.goto X0.here hx rfl (pc0 := 81) (pc' := 90) rfl (hb hby at_81) (by decide) (by decide) ?_
              show Steps p.tables e below (s₁.setTop (mkF m 90 #[.val (.long p0), .second, .val (.int p1), .val (.long p2), .second, .val (.int p3), .val (.int p4), .val (.int z7), .val (.int z8), .val (.int z9), .val (.int z10), .val (.long (-1 : Int64)), .second, .unset, .unset, .unset, .unset, .unset, .unset, .unset, .unset] [(.int (-1 : Int32))])) _
              refine XS.istore X0.here hx rfl (hb hby at_90) rfl (l' := #[.val (.long p0), .second, .val (.int p1), .val (.long p2), .second, .val (.int p3), .val (.int p4), .val (.int z7), .val (.int z8), .val (.int z9), .val (.int z10), .val (.long (-1 : Int64)), .second, .val (.int (-1 : Int32)), .unset, .unset, .unset, .unset, .unset, .unset, .unset]) rfl ?_
              show Steps p.tables e below (s₁.setTop (mkF m 92 #[.val (.long p0), .second, .val (.int p1), .val (.long p2), .second, .val (.int p3), .val (.int p4), .val (.int z7), .val (.int z8), .val (.int z9), .val (.int z10), .val (.long (-1 : Int64)), .second, .val (.int (-1 : Int32)), .unset, .unset, .unset, .unset, .unset, .unset, .unset] [])) _
              refine XS.iload X0.here hx rfl (hb hby at_92) rfl ?_
              show Steps p.tables e below (s₁.setTop (mkF m 94 #[.val (.long p0), .second, .val (.int p1), .val (.long p2), .second, .val (.int p3), .val (.int p4), .val (.int z7), .val (.int z8), .val (.int z9), .val (.int z10), .val (.long (-1 : Int64)), .second, .val (.int (-1 : Int32)), .unset, .unset, .unset, .unset, .unset, .unset, .unset] [(.int z8)])) _
              refine XS.ifYes X0.here hx rfl (pc0 := 94) (pc' := 108) rfl (hb hby at_94) rfl ((if0 _ _).trans (teq hz8).1) (by decide) (by decide) ?_
              show Steps p.tables e below (s₁.setTop (mkF m 108 #[.val (.long p0), .second, .val (.int p1), .val (.long p2), .second, .val (.int p3), .val (.int p4), .val (.int z7), .val (.int z8), .val (.int z9), .val (.int z10), .val (.long (-1 : Int64)), .second, .val (.int (-1 : Int32)), .unset, .unset, .unset, .unset, .unset, .unset, .unset] [])) _
              refine XS.iload X0.here hx rfl (hb hby at_108) rfl ?_
              show Steps p.tables e below (s₁.setTop (mkF m 110 #[.val (.long p0), .second, .val (.int p1), .val (.long p2), .second, .val (.int p3), .val (.int p4), .val (.int z7), .val (.int z8), .val (.int z9), .val (.int z10), .val (.long (-1 : Int64)), .second, .val (.int (-1 : Int32)), .unset, .unset, .unset, .unset, .unset, .unset, .unset] [(.int z9)])) _
              refine XS.ifYes X0.here hx rfl (pc0 := 110) (pc' := 123) rfl (hb hby at_110) rfl ((if0 _ _).trans (teq hz9).1) (by decide) (by decide) ?_
              show Steps p.tables e below (s₁.setTop (mkF m 123 #[.val (.long p0), .second, .val (.int p1), .val (.long p2), .second, .val (.int p3), .val (.int p4), .val (.int z7), .val (.int z8), .val (.int z9), .val (.int z10), .val (.long (-1 : Int64)), .second, .val (.int (-1 : Int32)), .unset, .unset, .unset, .unset, .unset, .unset, .unset] [])) _
              refine XS.lloadN X0.here hx rfl (hb hby at_123) rfl ?_
              show Steps p.tables e below (s₁.setTop (mkF m 124 #[.val (.long p0), .second, .val (.int p1), .val (.long p2), .second, .val (.int p3), .val (.int p4), .val (.int z7), .val (.int z8), .val (.int z9), .val (.int z10), .val (.long (-1 : Int64)), .second, .val (.int (-1 : Int32)), .unset, .unset, .unset, .unset, .unset, .unset, .unset] [(.long p2)])) _
              refine X0.ldc2Long hx hown (mvT hZ (hw _ (List.mem_of_getElem? (i := 0) rfl))) (g := (mkF m 124 #[.val (.long p0), .second, .val (.int p1), .val (.long p2), .second, .val (.int p3), .val (.int p4), .val (.int z7), .val (.int z8), .val (.int z9), .val (.int z10), .val (.long (-1 : Int64)), .second, .val (.int (-1 : Int32)), .unset, .unset, .unset, .unset, .unset, .unset, .unset] [(.long p2)])) rfl (hb hby at_124) _ ?_
              show Steps p.tables e below (s₁.setTop (mkF m 127 #[.val (.long p0), .second, .val (.int p1), .val (.long p2), .second, .val (.int p3), .val (.int p4), .val (.int z7), .val (.int z8), .val (.int z9), .val (.int z10), .val (.long (-1 : Int64)), .second, .val (.int (-1 : Int32)), .unset, .unset, .unset, .unset, .unset, .unset, .unset] [(.long (9223372036854775807 : Int64)), (.long p2)])) _
              refine XS.land X0.here hx rfl (hb hby at_127) rfl ?_
              show Steps p.tables e below (s₁.setTop (mkF m 128 #[.val (.long p0), .second, .val (.int p1), .val (.long p2), .second, .val (.int p3), .val (.int p4), .val (.int z7), .val (.int z8), .val (.int z9), .val (.int z10), .val (.long (-1 : Int64)), .second, .val (.int (-1 : Int32)), .unset, .unset, .unset, .unset, .unset, .unset, .unset] [(.long (p2 &&& (9223372036854775807 : Int64)))])) _
              refine XS.lstore X0.here hx rfl (hb hby at_128) rfl (l' := #[.val (.long p0), .second, .val (.int p1), .val (.long p2), .second, .val (.int p3), .val (.int p4), .val (.int z7), .val (.int z8), .val (.int z9), .val (.int z10), .val (.long (-1 : Int64)), .second, .val (.int (-1 : Int32)), .val (.long (p2 &&& (9223372036854775807 : Int64))), .second, .unset, .unset, .unset, .unset, .unset]) rfl ?_
              show Steps p.tables e below (s₁.setTop (mkF m 130 #[.val (.long p0), .second, .val (.int p1), .val (.long p2), .second, .val (.int p3), .val (.int p4), .val (.int z7), .val (.int z8), .val (.int z9), .val (.int z10), .val (.long (-1 : Int64)), .second, .val (.int (-1 : Int32)), .val (.long (p2 &&& (9223372036854775807 : Int64))), .second, .unset, .unset, .unset, .unset, .unset] [])) _
              refine XS.iload X0.here hx rfl (hb hby at_130) rfl ?_
              show Steps p.tables e below (s₁.setTop (mkF m 132 #[.val (.long p0), .second, .val (.int p1), .val (.long p2), .second, .val (.int p3), .val (.int p4), .val (.int z7), .val (.int z8), .val (.int z9), .val (.int z10), .val (.long (-1 : Int64)), .second, .val (.int (-1 : Int32)), .val (.long (p2 &&& (9223372036854775807 : Int64))), .second, .unset, .unset, .unset, .unset, .unset] [(.int z10)])) _
              refine XS.ifNo X0.here hx rfl (hb hby at_132) rfl ((if0 _ _).trans (feq hz10).1) ?_
              show Steps p.tables e below (s₁.setTop (mkF m 135 #[.val (.long p0), .second, .val (.int p1), .val (.long p2), .second, .val (.int p3), .val (.int p4), .val (.int z7), .val (.int z8), .val (.int z9), .val (.int z10), .val (.long (-1 : Int64)), .second, .val (.int (-1 : Int32)), .val (.long (p2 &&& (9223372036854775807 : Int64))), .second, .unset, .unset, .unset, .unset, .unset] [])) _
              refine XS.iload X0.here hx rfl (hb hby at_135) rfl ?_
              show Steps p.tables e below (s₁.setTop (mkF m 137 #[.val (.long p0), .second, .val (.int p1), .val (.long p2), .second, .val (.int p3), .val (.int p4), .val (.int z7), .val (.int z8), .val (.int z9), .val (.int z10), .val (.long (-1 : Int64)), .second, .val (.int (-1 : Int32)), .val (.long (p2 &&& (9223372036854775807 : Int64))), .second, .unset, .unset, .unset, .unset, .unset] [(.int z7)])) _
              refine XS.ifYes X0.here hx rfl (pc0 := 137) (pc' := 145) rfl (hb hby at_137) rfl ((if0 _ _).trans (feq hz7).2) (by decide) (by decide) ?_
              show Steps p.tables e below (s₁.setTop (mkF m 145 #[.val (.long p0), .second, .val (.int p1), .val (.long p2), .second, .val (.int p3), .val (.int p4), .val (.int z7), .val (.int z8), .val (.int z9), .val (.int z10), .val (.long (-1 : Int64)), .second, .val (.int (-1 : Int32)), .val (.long (p2 &&& (9223372036854775807 : Int64))), .second, .unset, .unset, .unset, .unset, .unset] [])) _
              refine XS.iload X0.here hx rfl (hb hby at_145) rfl ?_
              show Steps p.tables e below (s₁.setTop (mkF m 147 #[.val (.long p0), .second, .val (.int p1), .val (.long p2), .second, .val (.int p3), .val (.int p4), .val (.int z7), .val (.int z8), .val (.int z9), .val (.int z10), .val (.long (-1 : Int64)), .second, .val (.int (-1 : Int32)), .val (.long (p2 &&& (9223372036854775807 : Int64))), .second, .unset, .unset, .unset, .unset, .unset] [(.int p3)])) _
              refine XS.sipush X0.here hx rfl (hb hby at_147) ?_
              show Steps p.tables e below (s₁.setTop (mkF m 150 #[.val (.long p0), .second, .val (.int p1), .val (.long p2), .second, .val (.int p3), .val (.int p4), .val (.int z7), .val (.int z8), .val (.int z9), .val (.int z10), .val (.long (-1 : Int64)), .second, .val (.int (-1 : Int32)), .val (.long (p2 &&& (9223372036854775807 : Int64))), .second, .unset, .unset, .unset, .unset, .unset] [(.int (32767 : Int32)), (.int p3)])) _
              refine XS.iand X0.here hx rfl (hb hby at_150) rfl ?_
              show Steps p.tables e below (s₁.setTop (mkF m 151 #[.val (.long p0), .second, .val (.int p1), .val (.long p2), .second, .val (.int p3), .val (.int p4), .val (.int z7), .val (.int z8), .val (.int z9), .val (.int z10), .val (.long (-1 : Int64)), .second, .val (.int (-1 : Int32)), .val (.long (p2 &&& (9223372036854775807 : Int64))), .second, .unset, .unset, .unset, .unset, .unset] [(.int (p3 &&& (32767 : Int32)))])) _
              refine XS.i2s X0.here hx rfl (hb hby at_151) rfl ?_
              show Steps p.tables e below (s₁.setTop (mkF m 152 #[.val (.long p0), .second, .val (.int p1), .val (.long p2), .second, .val (.int p3), .val (.int p4), .val (.int z7), .val (.int z8), .val (.int z9), .val (.int z10), .val (.long (-1 : Int64)), .second, .val (.int (-1 : Int32)), .val (.long (p2 &&& (9223372036854775807 : Int64))), .second, .unset, .unset, .unset, .unset, .unset] [(.int ((p3 &&& (32767 : Int32)).toInt16.toInt32))])) _
              refine XS.istore X0.here hx rfl (hb hby at_152) rfl (l' := #[.val (.long p0), .second, .val (.int p1), .val (.long p2), .second, .val (.int p3), .val (.int p4), .val (.int z7), .val (.int z8), .val (.int z9), .val (.int z10), .val (.long (-1 : Int64)), .second, .val (.int (-1 : Int32)), .val (.long (p2 &&& (9223372036854775807 : Int64))), .second, .val (.int ((p3 &&& (32767 : Int32)).toInt16.toInt32)), .unset, .unset, .unset, .unset]) rfl ?_
              exact kt)⟩
        · by_cases hz10 : z10 = (0 : Int32)
          · exact ⟨(-1 : Int64), (-1 : Int32), (p2 &&& (9223372036854775807 : Int64)), ((p3 &&& (32767 : Int32)).toInt16.toInt32), ⟨own_okE, (own_okM (own_and64 _) (own_and15 _))⟩, fun tgt kt => pre17 _ (by
              show Steps p.tables e below (s₁.setTop (mkF m 59 #[.val (.long p0), .second, .val (.int p1), .val (.long p2), .second, .val (.int p3), .val (.int p4), .val (.int z7), .val (.int z8), .val (.int z9), .val (.int z10), .unset, .unset, .unset, .unset, .unset, .unset, .unset, .unset, .unset, .unset] [(.int z7)])) _
              refine XS.ifNo X0.here hx rfl (hb hby at_59) rfl ((if0 _ _).trans (feq hz7).1) ?_
              show Steps p.tables e below (s₁.setTop (mkF m 62 #[.val (.long p0), .second, .val (.int p1), .val (.long p2), .second, .val (.int p3), .val (.int p4), .val (.int z7), .val (.int z8), .val (.int z9), .val (.int z10), .unset, .unset, .unset, .unset, .unset, .unset, .unset, .unset, .unset, .unset] [])) _
              refine X0.ldc2Long hx hown (mvT hZ (hw _ (List.mem_of_getElem? (i := 1) rfl))) (g := (mkF m 62 #[.val (.long p0), .second, .val (.int p1), .val (.long p2), .second, .val (.int p3), .val (.int p4), .val (.int z7), .val (.int z8), .val (.int z9), .val (.int z10), .unset, .unset, .unset, .unset, .unset, .unset, .unset, .unset, .unset, .unset] [])) rfl (hb hby at_62) _ ?_
              show Steps p.tables e below (s₁.setTop (mkF m 65 #[.val (.long p0), .second, .val (.int p1), .val (.long p2), .second, .val (.int p3), .val (.int p4), .val (.int z7), .val (.int z8), .val (.int z9), .val (.int z10), .unset, .unset, .unset, .unset, .unset, .unset, .unset, .unset, .unset, .unset] [(.long (-1 : Int64))])) _
              refine XS.goto X0.here hx rfl (pc0 := 65) (pc' := 73) rfl (hb hby at_65) (by decide) (by decide) ?_
              show Steps p.tables e below (s₁.setTop (mkF m 73 #[.val (.long p0), .second, .val (.int p1), .val (.long p2), .second, .val (.int p3), .val (.int p4), .val (.int z7), .val (.int z8), .val (.int z9), .val (.int z10), .unset, .unset, .unset, .unset, .unset, .unset, .unset, .unset, .unset, .unset] [(.long (-1 : Int64))])) _
              refine XS.lstore X0.here hx rfl (hb hby at_73) rfl (l' := #[.val (.long p0), .second, .val (.int p1), .val (.long p2), .second, .val (.int p3), .val (.int p4), .val (.int z7), .val (.int z8), .val (.int z9), .val (.int z10), .val (.long (-1 : Int64)), .second, .unset, .unset, .unset, .unset, .unset, .unset, .unset, .unset]) rfl ?_
              show Steps p.tables e below (s₁.setTop (mkF m 75 #[.val (.long p0), .second, .val (.int p1), .val (.long p2), .second, .val (.int p3), .val (.int p4), .val (.int z7), .val (.int z8), .val (.int z9), .val (.int z10), .val (.long (-1 : Int64)), .second, .unset, .unset, .unset, .unset, .unset, .unset, .unset, .unset] [])) _
              refine XS.iload X0.here hx rfl (hb hby at_75) rfl ?_
              show Steps p.tables e below (s₁.setTop (mkF m 77 #[.val (.long p0), .second, .val (.int p1), .val (.long p2), .second, .val (.int p3), .val (.int p4), .val (.int z7), .val (.int z8), .val (.int z9), .val (.int z10), .val (.long (-1 : Int64)), .second, .unset, .unset, .unset, .unset, .unset, .unset, .unset, .unset] [(.int z7)])) _
              refine XS.ifNo X0.here hx rfl (hb hby at_77) rfl ((if0 _ _).trans (feq hz7).1) ?_
              show Steps p.tables e below (s₁.setTop (mkF m 80 #[.val (.long p0), .second, .val (.int p1), .val (.long p2), .second, .val (.int p3), .val (.int p4), .val (.int z7), .val (.int z8), .val (.int z9), .val (.int z10), .val (.long (-1 : Int64)), .second, .unset, .unset, .unset, .unset, .unset, .unset, .unset, .unset] [])) _
              refine XS.iconst X0.here hx rfl (hb hby at_80) ?_
              show Steps p.tables e below (s₁.setTop (mkF m 81 #[.val (.long p0), .second, .val (.int p1), .val (.long p2), .second, .val (.int p3), .val (.int p4), .val (.int z7), .val (.int z8), .val (.int z9), .val (.int z10), .val (.long (-1 : Int64)), .second, .unset, .unset, .unset, .unset, .unset, .unset, .unset, .unset] [(.int (-1 : Int32))])) _
              refine XS.goto X0.here hx rfl (pc0 := 81) (pc' := 90) rfl (hb hby at_81) (by decide) (by decide) ?_
              show Steps p.tables e below (s₁.setTop (mkF m 90 #[.val (.long p0), .second, .val (.int p1), .val (.long p2), .second, .val (.int p3), .val (.int p4), .val (.int z7), .val (.int z8), .val (.int z9), .val (.int z10), .val (.long (-1 : Int64)), .second, .unset, .unset, .unset, .unset, .unset, .unset, .unset, .unset] [(.int (-1 : Int32))])) _
              refine XS.istore X0.here hx rfl (hb hby at_90) rfl (l' := #[.val (.long p0), .second, .val (.int p1), .val (.long p2), .second, .val (.int p3), .val (.int p4), .val (.int z7), .val (.int z8), .val (.int z9), .val (.int z10), .val (.long (-1 : Int64)), .second, .val (.int (-1 : Int32)), .unset, .unset, .unset, .unset, .unset, .unset, .unset]) rfl ?_
              show Steps p.tables e below (s₁.setTop (mkF m 92 #[.val (.long p0), .second, .val (.int p1), .val (.long p2), .second, .val (.int p3), .val (.int p4), .val (.int z7), .val (.int z8), .val (.int z9), .val (.int z10), .val (.long (-1 : Int64)), .second, .val (.int (-1 : Int32)), .unset, .unset, .unset, .unset, .unset, .unset, .unset] [])) _
              refine XS.iload X0.here hx rfl (hb hby at_92) rfl ?_
              show Steps p.tables e below (s₁.setTop (mkF m 94 #[.val (.long p0), .second, .val (.int p1), .val (.long p2), .second, .val (.int p3), .val (.int p4), .val (.int z7), .val (.int z8), .val (.int z9), .val (.int z10), .val (.long (-1 : Int64)), .second, .val (.int (-1 : Int32)), .unset, .unset, .unset, .unset, .unset, .unset, .unset] [(.int z8)])) _
              refine XS.ifYes X0.here hx rfl (pc0 := 94) (pc' := 108) rfl (hb hby at_94) rfl ((if0 _ _).trans (teq hz8).1) (by decide) (by decide) ?_
              show Steps p.tables e below (s₁.setTop (mkF m 108 #[.val (.long p0), .second, .val (.int p1), .val (.long p2), .second, .val (.int p3), .val (.int p4), .val (.int z7), .val (.int z8), .val (.int z9), .val (.int z10), .val (.long (-1 : Int64)), .second, .val (.int (-1 : Int32)), .unset, .unset, .unset, .unset, .unset, .unset, .unset] [])) _
              refine XS.iload X0.here hx rfl (hb hby at_108) rfl ?_
              show Steps p.tables e below (s₁.setTop (mkF m 110 #[.val (.long p0), .second, .val (.int p1), .val (.long p2), .second, .val (.int p3), .val (.int p4), .val (.int z7), .val (.int z8), .val (.int z9), .val (.int z10), .val (.long (-1 : Int64)), .second, .val (.int (-1 : Int32)), .unset, .unset, .unset, .unset, .unset, .unset, .unset] [(.int z9)])) _
              refine XS.ifNo X0.here hx rfl (hb hby at_110) rfl ((if0 _ _).trans (feq hz9).1) ?_
              show Steps p.tables e below (s₁.setTop (mkF m 113 #[.val (.long p0), .second, .val (.int p1), .val (.long p2), .second, .val (.int p3), .val (.int p4), .val (.int z7), .val (.int z8), .val (.int z9), .val (.int z10), .val (.long (-1 : Int64)), .second, .val (.int (-1 : Int32)), .unset, .unset, .unset, .unset, .unset, .unset, .unset] [])) _
              refine XS.iload X0.here hx rfl (hb hby at_113) rfl ?_
              show Steps p.tables e below (s₁.setTop (mkF m 115 #[.val (.long p0), .second, .val (.int p1), .val (.long p2), .second, .val (.int p3), .val (.int p4), .val (.int z7), .val (.int z8), .val (.int z9), .val (.int z10), .val (.long (-1 : Int64)), .second, .val (.int (-1 : Int32)), .unset, .unset, .unset, .unset, .unset, .unset, .unset] [(.int z7)])) _
              refine XS.ifYes X0.here hx rfl (pc0 := 115) (pc' := 123) rfl (hb hby at_115) rfl ((if0 _ _).trans (feq hz7).2) (by decide) (by decide) ?_
              show Steps p.tables e below (s₁.setTop (mkF m 123 #[.val (.long p0), .second, .val (.int p1), .val (.long p2), .second, .val (.int p3), .val (.int p4), .val (.int z7), .val (.int z8), .val (.int z9), .val (.int z10), .val (.long (-1 : Int64)), .second, .val (.int (-1 : Int32)), .unset, .unset, .unset, .unset, .unset, .unset, .unset] [])) _
              refine XS.lloadN X0.here hx rfl (hb hby at_123) rfl ?_
              show Steps p.tables e below (s₁.setTop (mkF m 124 #[.val (.long p0), .second, .val (.int p1), .val (.long p2), .second, .val (.int p3), .val (.int p4), .val (.int z7), .val (.int z8), .val (.int z9), .val (.int z10), .val (.long (-1 : Int64)), .second, .val (.int (-1 : Int32)), .unset, .unset, .unset, .unset, .unset, .unset, .unset] [(.long p2)])) _
              refine X0.ldc2Long hx hown (mvT hZ (hw _ (List.mem_of_getElem? (i := 0) rfl))) (g := (mkF m 124 #[.val (.long p0), .second, .val (.int p1), .val (.long p2), .second, .val (.int p3), .val (.int p4), .val (.int z7), .val (.int z8), .val (.int z9), .val (.int z10), .val (.long (-1 : Int64)), .second, .val (.int (-1 : Int32)), .unset, .unset, .unset, .unset, .unset, .unset, .unset] [(.long p2)])) rfl (hb hby at_124) _ ?_
              show Steps p.tables e below (s₁.setTop (mkF m 127 #[.val (.long p0), .second, .val (.int p1), .val (.long p2), .second, .val (.int p3), .val (.int p4), .val (.int z7), .val (.int z8), .val (.int z9), .val (.int z10), .val (.long (-1 : Int64)), .second, .val (.int (-1 : Int32)), .unset, .unset, .unset, .unset, .unset, .unset, .unset] [(.long (9223372036854775807 : Int64)), (.long p2)])) _
              refine XS.land X0.here hx rfl (hb hby at_127) rfl ?_
              show Steps p.tables e below (s₁.setTop (mkF m 128 #[.val (.long p0), .second, .val (.int p1), .val (.long p2), .second, .val (.int p3), .val (.int p4), .val (.int z7), .val (.int z8), .val (.int z9), .val (.int z10), .val (.long (-1 : Int64)), .second, .val (.int (-1 : Int32)), .unset, .unset, .unset, .unset, .unset, .unset, .unset] [(.long (p2 &&& (9223372036854775807 : Int64)))])) _
              refine XS.lstore X0.here hx rfl (hb hby at_128) rfl (l' := #[.val (.long p0), .second, .val (.int p1), .val (.long p2), .second, .val (.int p3), .val (.int p4), .val (.int z7), .val (.int z8), .val (.int z9), .val (.int z10), .val (.long (-1 : Int64)), .second, .val (.int (-1 : Int32)), .val (.long (p2 &&& (9223372036854775807 : Int64))), .second, .unset, .unset, .unset, .unset, .unset]) rfl ?_
              show Steps p.tables e below (s₁.setTop (mkF m 130 #[.val (.long p0), .second, .val (.int p1), .val (.long p2), .second, .val (.int p3), .val (.int p4), .val (.int z7), .val (.int z8), .val (.int z9), .val (.int z10), .val (.long (-1 : Int64)), .second, .val (.int (-1 : Int32)), .val (.long (p2 &&& (9223372036854775807 : Int64))), .second, .unset, .unset, .unset, .unset, .unset] [])) _
              refine XS.iload X0.here hx rfl (hb hby at_130) rfl ?_
              show Steps p.tables e below (s₁.setTop (mkF m 132 #[.val (.long p0), .second, .val (.int p1), .val (.long p2), .second, .val (.int p3), .val (.int p4), .val (.int z7), .val (.int z8), .val (.int z9), .val (.int z10), .val (.long (-1 : Int64)), .second, .val (.int (-1 : Int32)), .val (.long (p2 &&& (9223372036854775807 : Int64))), .second, .unset, .unset, .unset, .unset, .unset] [(.int z10)])) _
              refine XS.ifYes X0.here hx rfl (pc0 := 132) (pc' := 145) rfl (hb hby at_132) rfl ((if0 _ _).trans (teq hz10).1) (by decide) (by decide) ?_
              show Steps p.tables e below (s₁.setTop (mkF m 145 #[.val (.long p0), .second, .val (.int p1), .val (.long p2), .second, .val (.int p3), .val (.int p4), .val (.int z7), .val (.int z8), .val (.int z9), .val (.int z10), .val (.long (-1 : Int64)), .second, .val (.int (-1 : Int32)), .val (.long (p2 &&& (9223372036854775807 : Int64))), .second, .unset, .unset, .unset, .unset, .unset] [])) _
              refine XS.iload X0.here hx rfl (hb hby at_145) rfl ?_
              show Steps p.tables e below (s₁.setTop (mkF m 147 #[.val (.long p0), .second, .val (.int p1), .val (.long p2), .second, .val (.int p3), .val (.int p4), .val (.int z7), .val (.int z8), .val (.int z9), .val (.int z10), .val (.long (-1 : Int64)), .second, .val (.int (-1 : Int32)), .val (.long (p2 &&& (9223372036854775807 : Int64))), .second, .unset, .unset, .unset, .unset, .unset] [(.int p3)])) _
              refine XS.sipush X0.here hx rfl (hb hby at_147) ?_
              show Steps p.tables e below (s₁.setTop (mkF m 150 #[.val (.long p0), .second, .val (.int p1), .val (.long p2), .second, .val (.int p3), .val (.int p4), .val (.int z7), .val (.int z8), .val (.int z9), .val (.int z10), .val (.long (-1 : Int64)), .second, .val (.int (-1 : Int32)), .val (.long (p2 &&& (9223372036854775807 : Int64))), .second, .unset, .unset, .unset, .unset, .unset] [(.int (32767 : Int32)), (.int p3)])) _
              refine XS.iand X0.here hx rfl (hb hby at_150) rfl ?_
              show Steps p.tables e below (s₁.setTop (mkF m 151 #[.val (.long p0), .second, .val (.int p1), .val (.long p2), .second, .val (.int p3), .val (.int p4), .val (.int z7), .val (.int z8), .val (.int z9), .val (.int z10), .val (.long (-1 : Int64)), .second, .val (.int (-1 : Int32)), .val (.long (p2 &&& (9223372036854775807 : Int64))), .second, .unset, .unset, .unset, .unset, .unset] [(.int (p3 &&& (32767 : Int32)))])) _
              refine XS.i2s X0.here hx rfl (hb hby at_151) rfl ?_
              show Steps p.tables e below (s₁.setTop (mkF m 152 #[.val (.long p0), .second, .val (.int p1), .val (.long p2), .second, .val (.int p3), .val (.int p4), .val (.int z7), .val (.int z8), .val (.int z9), .val (.int z10), .val (.long (-1 : Int64)), .second, .val (.int (-1 : Int32)), .val (.long (p2 &&& (9223372036854775807 : Int64))), .second, .unset, .unset, .unset, .unset, .unset] [(.int ((p3 &&& (32767 : Int32)).toInt16.toInt32))])) _
              refine XS.istore X0.here hx rfl (hb hby at_152) rfl (l' := #[.val (.long p0), .second, .val (.int p1), .val (.long p2), .second, .val (.int p3), .val (.int p4), .val (.int z7), .val (.int z8), .val (.int z9), .val (.int z10), .val (.long (-1 : Int64)), .second, .val (.int (-1 : Int32)), .val (.long (p2 &&& (9223372036854775807 : Int64))), .second, .val (.int ((p3 &&& (32767 : Int32)).toInt16.toInt32)), .unset, .unset, .unset, .unset]) rfl ?_
              exact kt)⟩
          · exact ⟨(-1 : Int64), (-1 : Int32), (p2 &&& (9223372036854775807 : Int64)), ((p3 &&& (32767 : Int32)).toInt16.toInt32), ⟨own_okE, (own_okM (own_and64 _) (own_and15 _))⟩, fun tgt kt => pre17 _ (by
              show Steps p.tables e below (s₁.setTop (mkF m 59 #[.val (.long p0), .second, .val (.int p1), .val (.long p2), .second, .val (.int p3), .val (.int p4), .val (.int z7), .val (.int z8), .val (.int z9), .val (.int z10), .unset, .unset, .unset, .unset, .unset, .unset, .unset, .unset, .unset, .unset] [(.int z7)])) _
              refine XS.ifNo X0.here hx rfl (hb hby at_59) rfl ((if0 _ _).trans (feq hz7).1) ?_
              show Steps p.tables e below (s₁.setTop (mkF m 62 #[.val (.long p0), .second, .val (.int p1), .val (.long p2), .second, .val (.int p3), .val (.int p4), .val (.int z7), .val (.int z8), .val (.int z9), .val (.int z10), .unset, .unset, .unset, .unset, .unset, .unset, .unset, .unset, .unset, .unset] [])) _
              refine X0.ldc2Long hx hown (mvT hZ (hw _ (List.mem_of_getElem? (i := 1) rfl))) (g := (mkF m 62 #[.val (.long p0), .second, .val (.int p1), .val (.long p2), .second, .val (.int p3), .val (.int p4), .val (.int z7), .val (.int z8), .val (.int z9), .val (.int z10), .unset, .unset, .unset, .unset, .unset, .unset, .unset, .unset, .unset, .unset] [])) rfl (hb hby at_62) _ ?_
              show Steps p.tables e below (s₁.setTop (mkF m 65 #[.val (.long p0), .second, .val (.int p1), .val (.long p2), .second, .val (.int p3), .val (.int p4), .val (.int z7), .val (.int z8), .val (.int z9), .val (.int z10), .unset, .unset, .unset, .unset, .unset, .unset, .unset, .unset, .unset, .unset] [(.long (-1 : Int64))])) _
              refine XS.goto X0.here hx rfl (pc0 := 65) (pc' := 73) rfl (hb hby at_65) (by decide) (by decide) ?_
              show Steps p.tables e below (s₁.setTop (mkF m 73 #[.val (.long p0), .second, .val (.int p1), .val (.long p2), .second, .val (.int p3), .val (.int p4), .val (.int z7), .val (.int z8), .val (.int z9), .val (.int z10), .unset, .unset, .unset, .unset, .unset, .unset, .unset, .unset, .unset, .unset] [(.long (-1 : Int64))])) _
              refine XS.lstore X0.here hx rfl (hb hby at_73) rfl (l' := #[.val (.long p0), .second, .val (.int p1), .val (.long p2), .second, .val (.int p3), .val (.int p4), .val (.int z7), .val (.int z8), .val (.int z9), .val (.int z10), .val (.long (-1 : Int64)), .second, .unset, .unset, .unset, .unset, .unset, .unset, .unset, .unset]) rfl ?_
              show Steps p.tables e below (s₁.setTop (mkF m 75 #[.val (.long p0), .second, .val (.int p1), .val (.long p2), .second, .val (.int p3), .val (.int p4), .val (.int z7), .val (.int z8), .val (.int z9), .val (.int z10), .val (.long (-1 : Int64)), .second, .unset, .unset, .unset, .unset, .unset, .unset, .unset, .unset] [])) _
              refine XS.iload X0.here hx rfl (hb hby at_75) rfl ?_
              show Steps p.tables e below (s₁.setTop (mkF m 77 #[.val (.long p0), .second, .val (.int p1), .val (.long p2), .second, .val (.int p3), .val (.int p4), .val (.int z7), .val (.int z8), .val (.int z9), .val (.int z10), .val (.long (-1 : Int64)), .second, .unset, .unset, .unset, .unset, .unset, .unset, .unset, .unset] [(.int z7)])) _
              refine XS.ifNo X0.here hx rfl (hb hby at_77) rfl ((if0 _ _).trans (feq hz7).1) ?_
              show Steps p.tables e below (s₁.setTop (mkF m 80 #[.val (.long p0), .second, .val (.int p1), .val (.long p2), .second, .val (.int p3), .val (.int p4), .val (.int z7), .val (.int z8), .val (.int z9), .val (.int z10), .val (.long (-1 : Int64)), .second, .unset, .unset, .unset, .unset, .unset, .unset, .unset, .unset] [])) _
              refine XS.iconst X0.here hx rfl (hb hby at_80) ?_
              show Steps p.tables e below (s₁.setTop (mkF m 81 #[.val (.long p0), .second, .val (.int p1), .val (.long p2), .second, .val (.int p3), .val (.int p4), .val (.int z7), .val (.int z8), .val (.int z9), .val (.int z10), .val (.long (-1 : Int64)), .second, .unset, .unset, .unset, .unset, .unset, .unset, .unset, .unset] [(.int (-1 : Int32))])) _
              refine XS.goto X0.here hx rfl (pc0 := 81) (pc' := 90) rfl (hb hby at_81) (by decide) (by decide) ?_
              show Steps p.tables e below (s₁.setTop (mkF m 90 #[.val (.long p0), .second, .val (.int p1), .val (.long p2), .second, .val (.int p3), .val (.int p4), .val (.int z7), .val (.int z8), .val (.int z9), .val (.int z10), .val (.long (-1 : Int64)), .second, .unset, .unset, .unset, .unset, .unset, .unset, .unset, .unset] [(.int (-1 : Int32))])) _
              refine XS.istore X0.here hx rfl (hb hby at_90) rfl (l' := #[.val (.long p0), .second, .val (.int p1), .val (.long p2), .second, .val (.int p3), .val (.int p4), .val (.int z7), .val (.int z8), .val (.int z9), .val (.int z10), .val (.long (-1 : Int64)), .second, .val (.int (-1 : Int32)), .unset, .unset, .unset, .unset, .unset, .unset, .unset]) rfl ?_
              show Steps p.tables e below (s₁.setTop (mkF m 92 #[.val (.long p0), .second, .val (.int p1), .val (.long p2), .second, .val (.int p3), .val (.int p4), .val (.int z7), .val (.int z8), .val (.int z9), .val (.int z10), .val (.long (-1 : Int64)), .second, .val (.int (-1 : Int32)), .unset, .unset, .unset, .unset, .unset, .unset, .unset] [])) _
              refine XS.iload X0.here hx rfl (hb hby at_92) rfl ?_
              show Steps p.tables e below (s₁.setTop (mkF m 94 #[.val (.long p0), .second, .val (.int p1), .val (.long p2), .second, .val (.int p3), .val (.int p4), .val (.int z7), .val (.int z8), .val (.int z9), .val (.int z10), .val (.long (-1 : Int64)), .second, .val (.int (-1 : Int32)), .unset, .unset, .unset, .unset, .unset, .unset, .unset] [(.int z8)])) _
              refine XS.ifYes X0.here hx rfl (pc0 := 94) (pc' := 108) rfl (hb hby at_94) rfl ((if0 _ _).trans (teq hz8).1) (by decide) (by decide) ?_
              show Steps p.tables e below (s₁.setTop (mkF m 108 #[.val (.long p0), .second, .val (.int p1), .val (.long p2), .second, .val (.int p3), .val (.int p4), .val (.int z7), .val (.int z8), .val (.int z9), .val (.int z10), .val (.long (-1 : Int64)), .second, .val (.int (-1 : Int32)), .unset, .unset, .unset, .unset, .unset, .unset, .unset] [])) _
              refine XS.iload X0.here hx rfl (hb hby at_108) rfl ?_
              show Steps p.tables e below (s₁.setTop (mkF m 110 #[.val (.long p0), .second, .val (.int p1), .val (.long p2), .second, .val (.int p3), .val (.int p4), .val (.int z7), .val (.int z8), .val (.int z9), .val (.int z10), .val (.long (-1 : Int64)), .second, .val (.int (-1 : Int32)), .unset, .unset, .unset, .unset, .unset, .unset, .unset] [(.int z9)])) _
              refine XS.ifNo X0.here hx rfl (hb hby at_110) rfl ((if0 _ _).trans (feq hz9).1) ?_
              show Steps p.tables e below (s₁.setTop (mkF m 113 #[.val (.long p0), .second, .val (.int p1), .val (.long p2), .second, .val (.int p3), .val (.int p4), .val (.int z7), .val (.int z8), .val (.int z9), .val (.int z10), .val (.long (-1 : Int64)), .second, .val (.int (-1 : Int32)), .unset, .unset, .unset, .unset, .unset, .unset, .unset] [])) _
              refine XS.iload X0.here hx rfl (hb hby at_113) rfl ?_
              show Steps p.tables e below (s₁.setTop (mkF m 115 #[.val (.long p0), .second, .val (.int p1), .val (.long p2), .second, .val (.int p3), .val (.int p4), .val (.int z7), .val (.int z8), .val (.int z9), .val (.int z10), .val (.long (-1 : Int64)), .second, .val (.int (-1 : Int32)), .unset, .unset, .unset, .unset, .unset, .unset, .unset] [(.int z7)])) _
              refine XS.ifYes X0.here hx rfl (pc0 := 115) (pc' := 123) rfl (hb hby at_115) rfl ((if0 _ _).trans (feq hz7).2) (by decide) (by decide) ?_
              show Steps p.tables e below (s₁.setTop (mkF m 123 #[.val (.long p0), .second, .val (.int p1), .val (.long p2), .second, .val (.int p3), .val (.int p4), .val (.int z7), .val (.int z8), .val (.int z9), .val (.int z10), .val (.long (-1 : Int64)), .second, .val (.int (-1 : Int32)), .unset, .unset, .unset, .unset, .unset, .unset, .unset] [])) _
              refine XS.lloadN X0.here hx rfl (hb hby at_123) rfl ?_
              show Steps p.tables e below (s₁.setTop (mkF m 124 #[.val (.long p0), .second, .val (.int p1), .val (.long p2), .second, .val (.int p3), .val (.int p4), .val (.int z7), .val (.int z8), .val (.int z9), .val (.int z10), .val (.long (-1 : Int64)), .second, .val (.int (-1 : Int32)), .unset, .unset, .unset, .unset, .unset, .unset, .unset] [(.long p2)])) _
              refine X0.ldc2Long hx hown (mvT hZ (hw _ (List.mem_of_getElem? (i := 0) rfl))) (g := (mkF m 124 #[.val (.long p0), .second, .val (.int p1), .val (.long p2), .second, .val (.int p3), .val (.int p4), .val (.int z7), .val (.int z8), .val (.int z9), .val (.int z10), .val (.long (-1 : Int64)), .second, .val (.int (-1 : Int32)), .unset, .unset, .unset, .unset, .unset, .unset, .unset] [(.long p2)])) rfl (hb hby at_124) _ ?_
              show Steps p.tables e below (s₁.setTop (mkF m 127 #[.val (.long p0), .second, .val (.int p1), .val (.long p2), .second, .val (.int p3), .val (.int p4), .val (.int z7), .val (.int z8), .val (.int z9), .val (.int z10), .val (.long (-1 : Int64)), .second, .val (.int (-1 : Int32)), .unset, .unset, .unset, .unset, .unset, .unset, .unset] [(.long (9223372036854775807 : Int64)), (.long p2)])) _
              refine XS.land X0.here hx rfl (hb hby at_127) rfl ?_
              show Steps p.tables e below (s₁.setTop (mkF m 128 #[.val (.long p0), .second, .val (.int p1), .val (.long p2), .second, .val (.int p3), .val (.int p4), .val (.int z7), .val (.int z8), .val (.int z9), .val (.int z10), .val (.long (-1 : Int64)), .second, .val (.int (-1 : Int32)), .unset, .unset, .unset, .unset, .unset, .unset, .unset] [(.long (p2 &&& (9223372036854775807 : Int64)))])) _
              refine XS.lstore X0.here hx rfl (hb hby at_128) rfl (l' := #[.val (.long p0), .second, .val (.int p1), .val (.long p2), .second, .val (.int p3), .val (.int p4), .val (.int z7), .val (.int z8), .val (.int z9), .val (.int z10), .val (.long (-1 : Int64)), .second, .val (.int (-1 : Int32)), .val (.long (p2 &&& (9223372036854775807 : Int64))), .second, .unset, .unset, .unset, .unset, .unset]) rfl ?_
              show Steps p.tables e below (s₁.setTop (mkF m 130 #[.val (.long p0), .second, .val (.int p1), .val (.long p2), .second, .val (.int p3), .val (.int p4), .val (.int z7), .val (.int z8), .val (.int z9), .val (.int z10), .val (.long (-1 : Int64)), .second, .val (.int (-1 : Int32)), .val (.long (p2 &&& (9223372036854775807 : Int64))), .second, .unset, .unset, .unset, .unset, .unset] [])) _
              refine XS.iload X0.here hx rfl (hb hby at_130) rfl ?_
              show Steps p.tables e below (s₁.setTop (mkF m 132 #[.val (.long p0), .second, .val (.int p1), .val (.long p2), .second, .val (.int p3), .val (.int p4), .val (.int z7), .val (.int z8), .val (.int z9), .val (.int z10), .val (.long (-1 : Int64)), .second, .val (.int (-1 : Int32)), .val (.long (p2 &&& (9223372036854775807 : Int64))), .second, .unset, .unset, .unset, .unset, .unset] [(.int z10)])) _
              refine XS.ifNo X0.here hx rfl (hb hby at_132) rfl ((if0 _ _).trans (feq hz10).1) ?_
              show Steps p.tables e below (s₁.setTop (mkF m 135 #[.val (.long p0), .second, .val (.int p1), .val (.long p2), .second, .val (.int p3), .val (.int p4), .val (.int z7), .val (.int z8), .val (.int z9), .val (.int z10), .val (.long (-1 : Int64)), .second, .val (.int (-1 : Int32)), .val (.long (p2 &&& (9223372036854775807 : Int64))), .second, .unset, .unset, .unset, .unset, .unset] [])) _
              refine XS.iload X0.here hx rfl (hb hby at_135) rfl ?_
              show Steps p.tables e below (s₁.setTop (mkF m 137 #[.val (.long p0), .second, .val (.int p1), .val (.long p2), .second, .val (.int p3), .val (.int p4), .val (.int z7), .val (.int z8), .val (.int z9), .val (.int z10), .val (.long (-1 : Int64)), .second, .val (.int (-1 : Int32)), .val (.long (p2 &&& (9223372036854775807 : Int64))), .second, .unset, .unset, .unset, .unset, .unset] [(.int z7)])) _
              refine XS.ifYes X0.here hx rfl (pc0 := 137) (pc' := 145) rfl (hb hby at_137) rfl ((if0 _ _).trans (feq hz7).2) (by decide) (by decide) ?_
              show Steps p.tables e below (s₁.setTop (mkF m 145 #[.val (.long p0), .second, .val (.int p1), .val (.long p2), .second, .val (.int p3), .val (.int p4), .val (.int z7), .val (.int z8), .val (.int z9), .val (.int z10), .val (.long (-1 : Int64)), .second, .val (.int (-1 : Int32)), .val (.long (p2 &&& (9223372036854775807 : Int64))), .second, .unset, .unset, .unset, .unset, .unset] [])) _
              refine XS.iload X0.here hx rfl (hb hby at_145) rfl ?_
              show Steps p.tables e below (s₁.setTop (mkF m 147 #[.val (.long p0), .second, .val (.int p1), .val (.long p2), .second, .val (.int p3), .val (.int p4), .val (.int z7), .val (.int z8), .val (.int z9), .val (.int z10), .val (.long (-1 : Int64)), .second, .val (.int (-1 : Int32)), .val (.long (p2 &&& (9223372036854775807 : Int64))), .second, .unset, .unset, .unset, .unset, .unset] [(.int p3)])) _
              refine XS.sipush X0.here hx rfl (hb hby at_147) ?_
              show Steps p.tables e below (s₁.setTop (mkF m 150 #[.val (.long p0), .second, .val (.int p1), .val (.long p2), .second, .val (.int p3), .val (.int p4), .val (.int z7), .val (.int z8), .val (.int z9), .val (.int z10), .val (.long (-1 : Int64)), .second, .val (.int (-1 : Int32)), .val (.long (p2 &&& (9223372036854775807 : Int64))), .second, .unset, .unset, .unset, .unset, .unset] [(.int (32767 : Int32)), (.int p3)])) _
              refine XS.iand X0.here hx rfl (hb hby at_150) rfl ?_
              show Steps p.tables e below (s₁.setTop (mkF m 151 #[.val (.long p0), .second, .val (.int p1), .val (.long p2), .second, .val (.int p3), .val (.int p4), .val (.int z7), .val (.int z8), .val (.int z9), .val (.int z10), .val (.long (-1 : Int64)), .second, .val (.int (-1 : Int32)), .val (.long (p2 &&& (9223372036854775807 : Int64))), .second, .unset, .unset, .unset, .unset, .unset] [(.int (p3 &&& (32767 : Int32)))])) _
              refine XS.i2s X0.here hx rfl (hb hby at_151) rfl ?_
              show Steps p.tables e below (s₁.setTop (mkF m 152 #[.val (.long p0), .second, .val (.int p1), .val (.long p2), .second, .val (.int p3), .val (.int p4), .val (.int z7), .val (.int z8), .val (.int z9), .val (.int z10), .val (.long (-1 : Int64)), .second, .val (.int (-1 : Int32)), .val (.long (p2 &&& (9223372036854775807 : Int64))), .second, .unset, .unset, .unset, .unset, .unset] [(.int ((p3 &&& (32767 : Int32)).toInt16.toInt32))])) _
              refine XS.istore X0.here hx rfl (hb hby at_152) rfl (l' := #[.val (.long p0), .second, .val (.int p1), .val (.long p2), .second, .val (.int p3), .val (.int p4), .val (.int z7), .val (.int z8), .val (.int z9), .val (.int z10), .val (.long (-1 : Int64)), .second, .val (.int (-1 : Int32)), .val (.long (p2 &&& (9223372036854775807 : Int64))), .second, .val (.int ((p3 &&& (32767 : Int32)).toInt16.toInt32)), .unset, .unset, .unset, .unset]) rfl ?_
              exact kt)⟩
      · exact ⟨(-1 : Int64), (-1 : Int32), (-1 : Int64), (-1 : Int32), ⟨own_okE, own_okE⟩, fun tgt kt => pre17 _ (by
          show Steps p.tables e below (s₁.setTop (mkF m 59 #[.val (.long p0), .second, .val (.int p1), .val (.long p2), .second, .val (.int p3), .val (.int p4), .val (.int z7), .val (.int z8), .val (.int z9), .val (.int z10), .unset, .unset, .unset, .unset, .unset, .unset, .unset, .unset, .unset, .unset] [(.int z7)])) _
          refine XS.ifNo X0.here hx rfl (hb hby at_59) rfl ((if0 _ _).trans (feq hz7).1) ?_
          show Steps p.tables e below (s₁.setTop (mkF m 62 #[.val (.long p0), .second, .val (.int p1), .val (.long p2), .second, .val (.int p3), .val (.int p4), .val (.int z7), .val (.int z8), .val (.int z9), .val (.int z10), .unset, .unset, .unset, .unset, .unset, .unset, .unset, .unset, .unset, .unset] [])) _
          refine X0.ldc2Long hx hown (mvT hZ (hw _ (List.mem_of_getElem? (i := 1) rfl))) (g := (mkF m 62 #[.val (.long p0), .second, .val (.int p1), .val (.long p2), .second, .val (.int p3), .val (.int p4), .val (.int z7), .val (.int z8), .val (.int z9), .val (.int z10), .unset, .unset, .unset, .unset, .unset, .unset, .unset, .unset, .unset, .unset] [])) rfl (hb hby at_62) _ ?_
          show Steps p.tables e below (s₁.setTop (mkF m 65 #[.val (.long p0), .second, .val (.int p1), .val (.long p2), .second, .val (.int p3), .val (.int p4), .val (.int z7), .val (.int z8), .val (.int z9), .val (.int z10), .unset, .unset, .unset, .unset, .unset, .unset, .unset, .unset, .unset, .unset] [(.long (-1 : Int64))])) _
          refine XS.goto X0.here hx rfl (pc0 := 65) (pc' := 73) rfl (hb hby at_65) (by decide) (by decide) ?_
          show Steps p.tables e below (s₁.setTop (mkF m 73 #[.val (.long p0), .second, .val (.int p1), .val (.long p2), .second, .val (.int p3), .val (.int p4), .val (.int z7), .val (.int z8), .val (.int z9), .val (.int z10), .unset, .unset, .unset, .unset, .unset, .unset, .unset, .unset, .unset, .unset] [(.long (-1 : Int64))])) _
          refine XS.lstore X0.here hx rfl (hb hby at_73) rfl (l' := #[.val (.long p0), .second, .val (.int p1), .val (.long p2), .second, .val (.int p3), .val (.int p4), .val (.int z7), .val (.int z8), .val (.int z9), .val (.int z10), .val (.long (-1 : Int64)), .second, .unset, .unset, .unset, .unset, .unset, .unset, .unset, .unset]) rfl ?_
          show Steps p.tables e below (s₁.setTop (mkF m 75 #[.val (.long p0), .second, .val (.int p1), .val (.long p2), .second, .val (.int p3), .val (.int p4), .val (.int z7), .val (.int z8), .val (.int z9), .val (.int z10), .val (.long (-1 : Int64)), .second, .unset, .unset, .unset, .unset, .unset, .unset, .unset, .unset] [])) _
          refine XS.iload X0.here hx rfl (hb hby at_75) rfl ?_
          show Steps p.tables e below (s₁.setTop (mkF m 77 #[.val (.long p0), .second, .val (.int p1), .val (.long p2), .second, .val (.int p3), .val (.int p4), .val (.int z7), .val (.int z8), .val (.int z9), .val (.int z10), .val (.long (-1 : Int64)), .second, .unset, .unset, .unset, .unset, .unset, .unset, .unset, .unset] [(.int z7)])) _
          refine XS.ifNo X0.here hx rfl (hb hby at_77) rfl ((if0 _ _).trans (feq hz7).1) ?_
          show Steps p.tables e below (s₁.setTop (mkF m 80 #[.val (.long p0), .second, .val (.int p1), .val (.long p2), .second, .val (.int p3), .val (.int p4), .val (.int z7), .val (.int z8), .val (.int z9), .val (.int z10), .val (.long (-1 : Int64)), .second, .unset, .unset, .unset, .unset, .unset, .unset, .unset, .unset] [])) _
          refine XS.iconst X0.here hx rfl (hb hby at_80) ?_
          show Steps p.tables e below (s₁.setTop (mkF m 81 #[.val (.long p0), .second, .val (.int p1), .val (.long p2), .second, .val (.int p3), .val (.int p4), .val (.int z7), .val (.int z8), .val (.int z9), .val (.int z10), .val (.long (-1 : Int64)), .second, .unset, .unset, .unset, .unset, .unset, .unset, .unset, .unset] [(.int (-1 : Int32))])) _
          refine XS.goto X0.here hx rfl (pc0 := 81) (pc' := 90) rfl (hb hby at_81) (by decide) (by decide) ?_
          show Steps p.tables e below (s₁.setTop (mkF m 90 #[.val (.long p0), .second, .val (.int p1), .val (.long p2), .second, .val (.int p3), .val (.int p4), .val (.int z7), .val (.int z8), .val (.int z9), .val (.int z10), .val (.long (-1 : Int64)), .second, .unset, .unset, .unset, .unset, .unset, .unset, .unset, .unset] [(.int (-1 : Int32))])) _
          refine XS.istore X0.here hx rfl (hb hby at_90) rfl (l' := #[.val (.long p0), .second, .val (.int p1), .val (.long p2), .second, .val (.int p3), .val (.int p4), .val (.int z7), .val (.int z8), .val (.int z9), .val (.int z10), .val (.long (-1 : Int64)), .second, .val (.int (-1 : Int32)), .unset, .unset, .unset, .unset, .unset, .unset, .unset]) rfl ?_
          show Steps p.tables e below (s₁.setTop (mkF m 92 #[.val (.long p0), .second, .val (.int p1), .val (.long p2), .second, .val (.int p3), .val (.int p4), .val (.int z7), .val (.int z8), .val (.int z9), .val (.int z10), .val (.long (-1 : Int64)), .second, .val (.int (-1 : Int32)), .unset, .unset, .unset, .unset, .unset, .unset, .unset] [])) _
          refine XS.iload X0.here hx rfl (hb hby at_92) rfl ?_
          show Steps p.tables e below (s₁.setTop (mkF m 94 #[.val (.long p0), .second, .val (.int p1), .val (.long p2), .second, .val (.int p3), .val (.int p4), .val (.int z7), .val (.int z8), .val (.int z9), .val (.int z10), .val (.long (-1 : Int64)), .second, .val (.int (-1 : Int32)), .unset, .unset, .unset, .unset, .unset, .unset, .unset] [(.int z8)])) _
          refine XS.ifNo X0.here hx rfl (hb hby at_94) rfl ((if0 _ _).trans (feq hz8).1) ?_
          show Steps p.tables e below (s₁.setTop (mkF m 97 #[.val (.long p0), .second, .val (.int p1), .val (.long p2), .second, .val (.int p3), .val (.int p4), .val (.int z7), .val (.int z8), .val (.int z9), .val (.int z10), .val (.long (-1 : Int64)), .second, .val (.int (-1 : Int32)), .unset, .unset, .unset, .unset, .unset, .unset, .unset] [])) _
          refine X0.ldc2Long hx hown (mvT hZ (hw _ (List.mem_of_getElem? (i := 1) rfl))) (g := (mkF m 97 #[.val (.long p0), .second, .val (.int p1), .val (.long p2), .second, .val (.int p3), .val (.int p4), .val (.int z7), .val (.int z8), .val (.int z9), .val (.int z10), .val (.long (-1 : Int64)), .second, .val (.int (-1 : Int32)), .unset, .unset, .unset, .unset, .unset, .unset, .unset] [])) rfl (hb hby at_97) _ ?_
          show Steps p.tables e below (s₁.setTop (mkF m 100 #[.val (.long p0), .second, .val (.int p1), .val (.long p2), .second, .val (.int p3), .val (.int p4), .val (.int z7), .val (.int z8), .val (.int z9), .val (.int z10), .val (.long (-1 : Int64)), .second, .val (.int (-1 : Int32)), .unset, .unset, .unset, .unset, .unset, .unset, .unset] [(.long (-1 : Int64))])) _
          refine XS.lstore X0.here hx rfl (hb hby at_100) rfl (l' := #[.val (.long p0), .second, .val (.int p1), .val (.long p2), .second, .val (.int p3), .val (.int p4), .val (.int z7), .val (.int z8), .val (.int z9), .val (.int z10), .val (.long (-1 : Int64)), .second, .val (.int (-1 : Int32)), .val (.long (-1 : Int64)), .second, .unset, .unset, .unset, .unset, .unset]) rfl ?_
          show Steps p.tables e below (s₁.setTop (mkF m 102 #[.val (.long p0), .second, .val (.int p1), .val (.long p2), .second, .val (.int p3), .val (.int p4), .val (.int z7), .val (.int z8), .val (.int z9), .val (.int z10), .val (.long (-1 : Int64)), .second, .val (.int (-1 : Int32)), .val (.long (-1 : Int64)), .second, .unset, .unset, .unset, .unset, .unset] [])) _
          refine XS.iconst X0.here hx rfl (hb hby at_102) ?_
          show Steps p.tables e below (s₁.setTop (mkF m 103 #[.val (.long p0), .second, .val (.int p1), .val (.long p2), .second, .val (.int p3), .val (.int p4), .val (.int z7), .val (.int z8), .val (.int z9), .val (.int z10), .val (.long (-1 : Int64)), .second, .val (.int (-1 : Int32)), .val (.long (-1 : Int64)), .second, .unset, .unset, .unset, .unset, .unset] [(.int (-1 : Int32))])) _
          refine XS.istore X0.here hx rfl (hb hby at_103) rfl (l' := #[.val (.long p0), .second, .val (.int p1), .val (.long p2), .second, .val (.int p3), .val (.int p4), .val (.int z7), .val (.int z8), .val (.int z9), .val (.int z10), .val (.long (-1 : Int64)), .second, .val (.int (-1 : Int32)), .val (.long (-1 : Int64)), .second, .val (.int (-1 : Int32)), .unset, .unset, .unset, .unset]) rfl ?_
          show Steps p.tables e below (s₁.setTop (mkF m 105 #[.val (.long p0), .second, .val (.int p1), .val (.long p2), .second, .val (.int p3), .val (.int p4), .val (.int z7), .val (.int z8), .val (.int z9), .val (.int z10), .val (.long (-1 : Int64)), .second, .val (.int (-1 : Int32)), .val (.long (-1 : Int64)), .second, .val (.int (-1 : Int32)), .unset, .unset, .unset, .unset] [])) _
          refine XS.goto X0.here hx rfl (pc0 := 105) (pc' := 154) rfl (hb hby at_105) (by decide) (by decide) ?_
          exact kt)⟩
  obtain ⟨hok1, hok2⟩ := hm19
  obtain ⟨T20, h20, X20, e20, E20, A20, D20, -, st20⟩ := newO X0 hx hZ hown (hw _ (List.mem_of_getElem? (i := 2) rfl)) (hw _ (List.mem_of_getElem? (i := 3) rfl)) (hw _ (List.mem_of_getElem? (i := 4) rfl)) e0 (g := (mkF m 154 #[.val (.long p0), .second, .val (.int p1), .val (.long p2), .second, .val (.int p3), .val (.int p4), .val (.int z7), .val (.int z8), .val (.int z9), .val (.int z10), .val (.long i1), .second, .val (.int e1), .val (.long i2), .second, .val (.int e2), .unset, .unset, .unset, .unset] [])) rfl (hb hby at_154) (by decide) (by decide)
  obtain ⟨b20, g20⟩ : ∃ z, z = h0.size := ⟨_, rfl⟩
  rw [← g20] at A20 D20 st20
  have gn_b20 : n0 ≤ b20 := Nat.le_trans Z0 (Nat.le_of_eq g20.symm)
  have zz21 : n0 ≤ h20.size := Nat.le_trans Z0 E20.1
  have sz_b20 : h0.size ≤ b20 := Nat.le_trans (Keep.refl h0 []).1 (Nat.le_of_eq g20.symm)
  have K22 : Keep h0 h20 [] := (Keep.refl h0 []).ext E20
  have f23 : Fld Z h20 b20 "com/example/tidy_commit/tidycommit/client/PreparedTxnState" "producerId" "J" (.long (0 : Int64)) := D20 (Or.inr (hw _ (List.mem_of_getElem? (i := 13) rfl))) (ty := .long) (by decide)
  have f24 : Fld Z h20 b20 "com/example/tidy_commit/tidycommit/client/PreparedTxnState" "epoch" "S" (.int (0 : Int32)) := D20 (Or.inr (hw _ (List.mem_of_getElem? (i := 15) rfl))) (ty := .short) (by decide)
  obtain ⟨_, _, ⟨T25, L25, k25, n25⟩, -, X25, ⟨Lc25, hQ25, l25, y25, z25⟩, st25⟩ := X20.specialBack hx (y := (⟨"com/example/tidy_commit/tidycommit/client/PreparedTxnState", "<init>", "(JS)V"⟩ : MethodName)) rfl hown (mvT hZ (hw _ (List.mem_of_getElem? (i := 5) rfl))) (mvT hZ (hw _ (List.mem_of_getElem? (i := 6) rfl))) (mvT hZ (hw _ (List.mem_of_getElem? (i := 7) rfl))) (by decide) (backOf (W := 1) (rm1 l Z a0 hw [] b20 i1 e1 h20 n0 zz21 A20 gn_b20 f23 f24 hok1) hZ (hw _ (List.mem_of_getElem? (i := 7) rfl)) (hw _ (List.mem_of_getElem? (i := 4) rfl)) (by decide) (by decide)) (g := (mkF m 162 #[.val (.long p0), .second, .val (.int p1), .val (.long p2), .second, .val (.int p3), .val (.int p4), .val (.int z7), .val (.int z8), .val (.int z9), .val (.int z10), .val (.long i1), .second, .val (.int e1), .val (.long i2), .second, .val (.int e2), .unset, .unset, .unset, .unset] [(.int e1), (.long i1), (.ref b20), (.ref b20)])) rfl (by rw [hml]; rfl) (Steps.refl _) (a := b20) (argsL := [(.long i1), (.int e1)]) (rest := [(.ref b20)]) (lenOf pd_2 rfl) rfl (by show 2 * 0 + _ ≤ _; exact Nat.le_of_eq rfl) (hb hby at_162) (fun _ _ => ⟨rfl, e20, (by decide : 1 + 0 ≤ _), (by decide : 2 + 0 ≤ _)⟩)
  dsimp only [Pt.U, Pt.locs, Pt.cells, Pt.slots] at X25 l25 y25 z25 st25 hQ25
  subst l25 y25 z25
  obtain ⟨rfl, Nq25, K25, f28, f26, f27⟩ := hQ25
  have zz29 : n0 ≤ T25.heap.size := Nat.le_trans zz21 K25.1
  have K30 : Keep h0 T25.heap [] := Keep.trans K22 K25 (fun x hx => Or.inr (List.mem_singleton.mp hx ▸ sz_b20))
  have N31 := Fr.app N0 Nq25
  obtain ⟨T32, h32, X32, e32, E32, A32, D32, -, st32⟩ := newO X25 hx hZ hown (hw _ (List.mem_of_getElem? (i := 2) rfl)) (hw _ (List.mem_of_getElem? (i := 3) rfl)) (hw _ (List.mem_of_getElem? (i := 4) rfl)) rfl (g := (mkF m 167 #[.val (.long p0), .second, .val (.int p1), .val (.long p2), .second, .val (.int p3), .val (.int p4), .val (.int z7), .val (.int z8), .val (.int z9), .val (.int z10), .val (.long i1), .second, .val (.int e1), .val (.long i2), .second, .val (.int e2), .val (.ref b20), .unset, .unset, .unset] [])) rfl (hb hby at_167) (by decide) (by decide)
  obtain ⟨b32, g32⟩ : ∃ z, z = T25.heap.size := ⟨_, rfl⟩
  rw [← g32] at A32 D32 st32
  have ne33 : b20 ≠ b32 := Nat.ne_of_lt (Nat.lt_of_lt_of_le f28.lt (Nat.le_of_eq g32.symm))
  have f34 := f28.ext E32
  have f35 := f26.ext E32
  have f36 := f27.ext E32
  have gn_b32 : n0 ≤ b32 := Nat.le_trans zz29 (Nat.le_of_eq g32.symm)
  have zz37 : n0 ≤ h32.size := Nat.le_trans zz29 E32.1
  have sz_b32 : h0.size ≤ b32 := Nat.le_trans K30.1 (Nat.le_of_eq g32.symm)
  have K38 : Keep h0 h32 [] := K30.ext E32
  have f39 : Fld Z h32 b32 "com/example/tidy_commit/tidycommit/client/PreparedTxnState" "producerId" "J" (.long (0 : Int64)) := D32 (Or.inr (hw _ (List.mem_of_getElem? (i := 13) rfl))) (ty := .long) (by decide)
  have f40 : Fld Z h32 b32 "com/example/tidy_commit/tidycommit/client/PreparedTxnState" "epoch" "S" (.int (0 : Int32)) := D32 (Or.inr (hw _ (List.mem_of_getElem? (i := 15) rfl))) (ty := .short) (by decide)
  obtain ⟨_, _, ⟨T41, L41, k41, n41⟩, -, X41, ⟨Lc41, hQ41, l41, y41, z41⟩, st41⟩ := X32.specialBack hx (y := (⟨"com/example/tidy_commit/tidycommit/client/PreparedTxnState", "<init>", "(JS)V"⟩ : MethodName)) rfl hown (mvT hZ (hw _ (List.mem_of_getElem? (i := 5) rfl))) (mvT hZ (hw _ (List.mem_of_getElem? (i := 6) rfl))) (mvT hZ (hw _ (List.mem_of_getElem? (i := 7) rfl))) (by decide) (backOf (W := 1) (rm1 l Z a0 hw [] b32 i2 e2 h32 n0 zz37 A32 gn_b32 f39 f40 hok2) hZ (hw _ (List.mem_of_getElem? (i := 7) rfl)) (hw _ (List.mem_of_getElem? (i := 4) rfl)) (by decide) (by decide)) (g := (mkF m 175 #[.val (.long p0), .second, .val (.int p1), .val (.long p2), .second, .val (.int p3), .val (.int p4), .val (.int z7), .val (.int z8), .val (.int z9), .val (.int z10), .val (.long i1), .second, .val (.int e1), .val (.long i2), .second, .val (.int e2), .val (.ref b20), .unset, .unset, .unset] [(.int e2), (.long i2), (.ref b32), (.ref b32)])) rfl (by rw [hml]; rfl) (Steps.refl _) (a := b32) (argsL := [(.long i2), (.int e2)]) (rest := [(.ref b32)]) (lenOf pd_2 rfl) rfl (by show 2 * 0 + _ ≤ _; exact Nat.le_of_eq rfl) (hb hby at_175) (fun _ _ => ⟨rfl, e32, (by decide : 2 + 0 ≤ _), (by decide : 4 + 0 ≤ _)⟩)
  dsimp only [Pt.U, Pt.locs, Pt.cells, Pt.slots] at X41 l41 y41 z41 st41 hQ41
  subst l41 y41 z41
  obtain ⟨rfl, Nq41, K41, f44, f42, f43⟩ := hQ41
  have f45 := f34.keep K41
  have f46 := f35.keep K41 (fun q => ne33 (List.mem_singleton.mp q))
  have f47 := f36.keep K41 (fun q => ne33 (List.mem_singleton.mp q))
  have zz48 : n0 ≤ T41.heap.size := Nat.le_trans zz37 K41.1
  have K49 : Keep h0 T41.heap [] := Keep.trans K38 K41 (fun x hx => Or.inr (List.mem_singleton.mp hx ▸ sz_b32))
  have N50 := Fr.app N31 Nq41
  have pre51 : ∀ tgt, Steps p.tables e below (T41.setTop (mkF m 185 #[.val (.long p0), .second, .val (.int p1), .val (.long p2), .second, .val (.int p3), .val (.int p4), .val (.int z7), .val (.int z8), .val (.int z9), .val (.int z10), .val (.long i1), .second, .val (.int e1), .val (.long i2), .second, .val (.int e2), .val (.ref b20), .val (.ref b32), .unset, .unset] [(.int (lcmpW i1 i2))])) tgt → Steps p.tables e below (s₁.setTop (entryFrame m #[(.long p0), (.int p1), (.long p2), (.int p3), (.int p4)] maxLocals)) tgt := fun tgt kt => pre18 _ (by
    show Steps p.tables e below (s₁.setTop (mkF m 154 #[.val (.long p0), .second, .val (.int p1), .val (.long p2), .second, .val (.int p3), .val (.int p4), .val (.int z7), .val (.int z8), .val (.int z9), .val (.int z10), .val (.long i1), .second, .val (.int e1), .val (.long i2), .second, .val (.int e2), .unset, .unset, .unset, .unset] [])) _
    refine st20 _ ?_
    show Steps p.tables e below (T20.setTop (mkF m 157 #[.val (.long p0), .second, .val (.int p1), .val (.long p2), .second, .val (.int p3), .val (.int p4), .val (.int z7), .val (.int z8), .val (.int z9), .val (.int z10), .val (.long i1), .second, .val (.int e1), .val (.long i2), .second, .val (.int e2), .unset, .unset, .unset, .unset] [(.ref b20)])) _
    refine XS.dup X20.here hx rfl (hb hby at_157) rfl rfl ?_
    show Steps p.tables e below (T20.setTop (mkF m 158 #[.val (.long p0), .second, .val (.int p1), .val (.long p2), .second, .val (.int p3), .val (.int p4), .val (.int z7), .val (.int z8), .val (.int z9), .val (.int z10), .val (.long i1), .second, .val (.int e1), .val (.long i2), .second, .val (.int e2), .unset, .unset, .unset, .unset] [(.ref b20), (.ref b20)])) _
    refine XS.lload X20.here hx rfl (hb hby at_158) rfl ?_
    show Steps p.tables e below (T20.setTop (mkF m 160 #[.val (.long p0), .second, .val (.int p1), .val (.long p2), .second, .val (.int p3), .val (.int p4), .val (.int z7), .val (.int z8), .val (.int z9), .val (.int z10), .val (.long i1), .second, .val (.int e1), .val (.long i2), .second, .val (.int e2), .unset, .unset, .unset, .unset] [(.long i1), (.ref b20), (.ref b20)])) _
    refine XS.iload X20.here hx rfl (hb hby at_160) rfl ?_
    show Steps p.tables e below (T20.setTop (mkF m 162 #[.val (.long p0), .second, .val (.int p1), .val (.long p2), .second, .val (.int p3), .val (.int p4), .val (.int z7), .val (.int z8), .val (.int z9), .val (.int z10), .val (.long i1), .second, .val (.int e1), .val (.long i2), .second, .val (.int e2), .unset, .unset, .unset, .unset] [(.int e1), (.long i1), (.ref b20), (.ref b20)])) _
    refine st25.trans ?_
    show Steps p.tables e below (T25.setTop (mkF m 165 #[.val (.long p0), .second, .val (.int p1), .val (.long p2), .second, .val (.int p3), .val (.int p4), .val (.int z7), .val (.int z8), .val (.int z9), .val (.int z10), .val (.long i1), .second, .val (.int e1), .val (.long i2), .second, .val (.int e2), .unset, .unset, .unset, .unset] [(.ref b20)])) _
    refine XS.astore X25.here hx rfl (hb hby at_165) rfl rfl (l' := #[.val (.long p0), .second, .val (.int p1), .val (.long p2), .second, .val (.int p3), .val (.int p4), .val (.int z7), .val (.int z8), .val (.int z9), .val (.int z10), .val (.long i1), .second, .val (.int e1), .val (.long i2), .second, .val (.int e2), .val (.ref b20), .unset, .unset, .unset]) rfl ?_
    show Steps p.tables e below (T25.setTop (mkF m 167 #[.val (.long p0), .second, .val (.int p1), .val (.long p2), .second, .val (.int p3), .val (.int p4), .val (.int z7), .val (.int z8), .val (.int z9), .val (.int z10), .val (.long i1), .second, .val (.int e1), .val (.long i2), .second, .val (.int e2), .val (.ref b20), .unset, .unset, .unset] [])) _
    refine st32 _ ?_
    show Steps p.tables e below (T32.setTop (mkF m 170 #[.val (.long p0), .second, .val (.int p1), .val (.long p2), .second, .val (.int p3), .val (.int p4), .val (.int z7), .val (.int z8), .val (.int z9), .val (.int z10), .val (.long i1), .second, .val (.int e1), .val (.long i2), .second, .val (.int e2), .val (.ref b20), .unset, .unset, .unset] [(.ref b32)])) _
    refine XS.dup X32.here hx rfl (hb hby at_170) rfl rfl ?_
    show Steps p.tables e below (T32.setTop (mkF m 171 #[.val (.long p0), .second, .val (.int p1), .val (.long p2), .second, .val (.int p3), .val (.int p4), .val (.int z7), .val (.int z8), .val (.int z9), .val (.int z10), .val (.long i1), .second, .val (.int e1), .val (.long i2), .second, .val (.int e2), .val (.ref b20), .unset, .unset, .unset] [(.ref b32), (.ref b32)])) _
    refine XS.lload X32.here hx rfl (hb hby at_171) rfl ?_
    show Steps p.tables e below (T32.setTop (mkF m 173 #[.val (.long p0), .second, .val (.int p1), .val (.long p2), .second, .val (.int p3), .val (.int p4), .val (.int z7), .val (.int z8), .val (.int z9), .val (.int z10), .val (.long i1), .second, .val (.int e1), .val (.long i2), .second, .val (.int e2), .val (.ref b20), .unset, .unset, .unset] [(.long i2), (.ref b32), (.ref b32)])) _
    refine XS.iload X32.here hx rfl (hb hby at_173) rfl ?_
    show Steps p.tables e below (T32.setTop (mkF m 175 #[.val (.long p0), .second, .val (.int p1), .val (.long p2), .second, .val (.int p3), .val (.int p4), .val (.int z7), .val (.int z8), .val (.int z9), .val (.int z10), .val (.long i1), .second, .val (.int e1), .val (.long i2), .second, .val (.int e2), .val (.ref b20), .unset, .unset, .unset] [(.int e2), (.long i2), (.ref b32), (.ref b32)])) _
    refine st41.trans ?_
    show Steps p.tables e below (T41.setTop (mkF m 178 #[.val (.long p0), .second, .val (.int p1), .val (.long p2), .second, .val (.int p3), .val (.int p4), .val (.int z7), .val (.int z8), .val (.int z9), .val (.int z10), .val (.long i1), .second, .val (.int e1), .val (.long i2), .second, .val (.int e2), .val (.ref b20), .unset, .unset, .unset] [(.ref b32)])) _
    refine XS.astore X41.here hx rfl (hb hby at_178) rfl rfl (l' := #[.val (.long p0), .second, .val (.int p1), .val (.long p2), .second, .val (.int p3), .val (.int p4), .val (.int z7), .val (.int z8), .val (.int z9), .val (.int z10), .val (.long i1), .second, .val (.int e1), .val (.long i2), .second, .val (.int e2), .val (.ref b20), .val (.ref b32), .unset, .unset]) rfl ?_
    show Steps p.tables e below (T41.setTop (mkF m 180 #[.val (.long p0), .second, .val (.int p1), .val (.long p2), .second, .val (.int p3), .val (.int p4), .val (.int z7), .val (.int z8), .val (.int z9), .val (.int z10), .val (.long i1), .second, .val (.int e1), .val (.long i2), .second, .val (.int e2), .val (.ref b20), .val (.ref b32), .unset, .unset] [])) _
    refine XS.lload X41.here hx rfl (hb hby at_180) rfl ?_
    show Steps p.tables e below (T41.setTop (mkF m 182 #[.val (.long p0), .second, .val (.int p1), .val (.long p2), .second, .val (.int p3), .val (.int p4), .val (.int z7), .val (.int z8), .val (.int z9), .val (.int z10), .val (.long i1), .second, .val (.int e1), .val (.long i2), .second, .val (.int e2), .val (.ref b20), .val (.ref b32), .unset, .unset] [(.long i1)])) _
    refine XS.lload X41.here hx rfl (hb hby at_182) rfl ?_
    show Steps p.tables e below (T41.setTop (mkF m 184 #[.val (.long p0), .second, .val (.int p1), .val (.long p2), .second, .val (.int p3), .val (.int p4), .val (.int z7), .val (.int z8), .val (.int z9), .val (.int z10), .val (.long i1), .second, .val (.int e1), .val (.long i2), .second, .val (.int e2), .val (.ref b20), .val (.ref b32), .unset, .unset] [(.long i2), (.long i1)])) _
    refine XS.lcmp X41.here hx rfl (hb hby at_184) rfl ?_
    exact kt)
  obtain ⟨ex, hm53, pre52⟩ : ∃ (ex : Int32), (ex = own_eq2 i1 i2 e1 e2) ∧ ∀ tgt, Steps p.tables e below (T41.setTop (mkF m 202 #[.val (.long p0), .second, .val (.int p1), .val (.long p2), .second, .val (.int p3), .val (.int p4), .val (.int z7), .val (.int z8), .val (.int z9), .val (.int z10), .val (.long i1), .second, .val (.int e1), .val (.long i2), .second, .val (.int e2), .val (.ref b20), .val (.ref b32), .val (.int ex), .unset] [])) tgt → Steps p.tables e below (s₁.setTop (entryFrame m #[(.long p0), (.int p1), (.long p2), (.int p3), (.int p4)] maxLocals)) tgt := by
    by_cases h185 : (lcmpW i1 i2) = (0 : Int32)
    · by_cases h192 : e1 = e2
      · exact ⟨(1 : Int32), (by rw [own_eq2, if_pos h185, if_pos h192]), fun tgt kt => pre51 _ (by
          show Steps p.tables e below (T41.setTop (mkF m 185 #[.val (.long p0), .second, .val (.int p1), .val (.long p2), .second, .val (.int p3), .val (.int p4), .val (.int z7), .val (.int z8), .val (.int z9), .val (.int z10), .val (.long i1), .second, .val (.int e1), .val (.long i2), .second, .val (.int e2), .val (.ref b20), .val (.ref b32), .unset, .unset] [(.int (lcmpW i1 i2))])) _
          refine XS.ifNo X41.here hx rfl (hb hby at_185) rfl ((if0 _ _).trans (teq h185).2) ?_
          show Steps p.tables e below (T41.setTop (mkF m 188 #[.val (.long p0), .second, .val (.int p1), .val (.long p2), .second, .val (.int p3), .val (.int p4), .val (.int z7), .val (.int z8), .val (.int z9), .val (.int z10), .val (.long i1), .second, .val (.int e1), .val (.long i2), .second, .val (.int e2), .val (.ref b20), .val (.ref b32), .unset, .unset] [])) _
          refine XS.iload X41.here hx rfl (hb hby at_188) rfl ?_
          show Steps p.tables e below (T41.setTop (mkF m 190 #[.val (.long p0), .second, .val (.int p1), .val (.long p2), .second, .val (.int p3), .val (.int p4), .val (.int z7), .val (.int z8), .val (.int z9), .val (.int z10), .val (.long i1), .second, .val (.int e1), .val (.long i2), .second, .val (.int e2), .val (.ref b20), .val (.ref b32), .unset, .unset] [(.int e1)])) _
          refine XS.iload X41.here hx rfl (hb hby at_190) rfl ?_
          show Steps p.tables e below (T41.setTop (mkF m 192 #[.val (.long p0), .second, .val (.int p1), .val (.long p2), .second, .val (.int p3), .val (.int p4), .val (.int z7), .val (.int z8), .val (.int z9), .val (.int z10), .val (.long i1), .second, .val (.int e1), .val (.long i2), .second, .val (.int e2), .val (.ref b20), .val (.ref b32), .unset, .unset] [(.int e2), (.int e1)])) _
          refine XS.icmpNo X41.here hx rfl (hb hby at_192) rfl (teq h192).2 ?_
          show Steps p.tables e below (T41.setTop (mkF m 195 #[.val (.long p0), .second, .val (.int p1), .val (.long p2), .second, .val (.int p3), .val (.int p4), .val (.int z7), .val (.int z8), .val (.int z9), .val (.int z10), .val (.long i1), .second, .val (.int e1), .val (.long i2), .second, .val (.int e2), .val (.ref b20), .val (.ref b32), .unset, .unset] [])) _
          refine XS.iconst X41.here hx rfl (hb hby at_195) ?_
          show Steps p.tables e below (T41.setTop (mkF m 196 #[.val (.long p0), .second, .val (.int p1), .val (.long p2), .second, .val (.int p3), .val (.int p4), .val (.int z7), .val (.int z8), .val (.int z9), .val (.int z10), .val (.long i1), .second, .val (.int e1), .val (.long i2), .second, .val (.int e2), .val (.ref b20), .val (.ref b32), .unset, .unset] [(.int (1 : Int32))])) _
          refine XS.goto X41.here hx rfl (pc0 := 196) (pc' := 200) rfl (hb hby at_196) (by decide) (by decide) ?_
          show Steps p.tables e below (T41.setTop (mkF m 200 #[.val (.long p0), .second, .val (.int p1), .val (.long p2), .second, .val (.int p3), .val (.int p4), .val (.int z7), .val (.int z8), .val (.int z9), .val (.int z10), .val (.long i1), .second, .val (.int e1), .val (.long i2), .second, .val (.int e2), .val (.ref b20), .val (.ref b32), .unset, .unset] [(.int (1 : Int32))])) _
          refine XS.istore X41.here hx rfl (hb hby at_200) rfl (l' := #[.val (.long p0), .second, .val (.int p1), .val (.long p2), .second, .val (.int p3), .val (.int p4), .val (.int z7), .val (.int z8), .val (.int z9), .val (.int z10), .val (.long i1), .second, .val (.int e1), .val (.long i2), .second, .val (.int e2), .val (.ref b20), .val (.ref b32), .val (.int (1 : Int32)), .unset]) rfl ?_
          exact kt)⟩
      · exact ⟨(0 : Int32), (by rw [own_eq2, if_pos h185, if_neg h192]), fun tgt kt => pre51 _ (by
          show Steps p.tables e below (T41.setTop (mkF m 185 #[.val (.long p0), .second, .val (.int p1), .val (.long p2), .second, .val (.int p3), .val (.int p4), .val (.int z7), .val (.int z8), .val (.int z9), .val (.int z10), .val (.long i1), .second, .val (.int e1), .val (.long i2), .second, .val (.int e2), .val (.ref b20), .val (.ref b32), .unset, .unset] [(.int (lcmpW i1 i2))])) _
          refine XS.ifNo X41.here hx rfl (hb hby at_185) rfl ((if0 _ _).trans (teq h185).2) ?_
          show Steps p.tables e below (T41.setTop (mkF m 188 #[.val (.long p0), .second, .val (.int p1), .val (.long p2), .second, .val (.int p3), .val (.int p4), .val (.int z7), .val (.int z8), .val (.int z9), .val (.int z10), .val (.long i1), .second, .val (.int e1), .val (.long i2), .second, .val (.int e2), .val (.ref b20), .val (.ref b32), .unset, .unset] [])) _
          refine XS.iload X41.here hx rfl (hb hby at_188) rfl ?_
          show Steps p.tables e below (T41.setTop (mkF m 190 #[.val (.long p0), .second, .val (.int p1), .val (.long p2), .second, .val (.int p3), .val (.int p4), .val (.int z7), .val (.int z8), .val (.int z9), .val (.int z10), .val (.long i1), .second, .val (.int e1), .val (.long i2), .second, .val (.int e2), .val (.ref b20), .val (.ref b32), .unset, .unset] [(.int e1)])) _
          refine XS.iload X41.here hx rfl (hb hby at_190) rfl ?_
          show Steps p.tables e below (T41.setTop (mkF m 192 #[.val (.long p0), .second, .val (.int p1), .val (.long p2), .second, .val (.int p3), .val (.int p4), .val (.int z7), .val (.int z8), .val (.int z9), .val (.int z10), .val (.long i1), .second, .val (.int e1), .val (.long i2), .second, .val (.int e2), .val (.ref b20), .val (.ref b32), .unset, .unset] [(.int e2), (.int e1)])) _
          refine XS.icmpYes X41.here hx rfl (pc0 := 192) (pc' := 199) rfl (hb hby at_192) rfl (feq h192).2 (by decide) (by decide) ?_
          show Steps p.tables e below (T41.setTop (mkF m 199 #[.val (.long p0), .second, .val (.int p1), .val (.long p2), .second, .val (.int p3), .val (.int p4), .val (.int z7), .val (.int z8), .val (.int z9), .val (.int z10), .val (.long i1), .second, .val (.int e1), .val (.long i2), .second, .val (.int e2), .val (.ref b20), .val (.ref b32), .unset, .unset] [])) _
          refine XS.iconst X41.here hx rfl (hb hby at_199) ?_
          show Steps p.tables e below (T41.setTop (mkF m 200 #[.val (.long p0), .second, .val (.int p1), .val (.long p2), .second, .val (.int p3), .val (.int p4), .val (.int z7), .val (.int z8), .val (.int z9), .val (.int z10), .val (.long i1), .second, .val (.int e1), .val (.long i2), .second, .val (.int e2), .val (.ref b20), .val (.ref b32), .unset, .unset] [(.int (0 : Int32))])) _
          refine XS.istore X41.here hx rfl (hb hby at_200) rfl (l' := #[.val (.long p0), .second, .val (.int p1), .val (.long p2), .second, .val (.int p3), .val (.int p4), .val (.int z7), .val (.int z8), .val (.int z9), .val (.int z10), .val (.long i1), .second, .val (.int e1), .val (.long i2), .second, .val (.int e2), .val (.ref b20), .val (.ref b32), .val (.int (0 : Int32)), .unset]) rfl ?_
          exact kt)⟩
    · exact ⟨(0 : Int32), (by rw [own_eq2, if_neg h185]), fun tgt kt => pre51 _ (by
        show Steps p.tables e below (T41.setTop (mkF m 185 #[.val (.long p0), .second, .val (.int p1), .val (.long p2), .second, .val (.int p3), .val (.int p4), .val (.int z7), .val (.int z8), .val (.int z9), .val (.int z10), .val (.long i1), .second, .val (.int e1), .val (.long i2), .second, .val (.int e2), .val (.ref b20), .val (.ref b32), .unset, .unset] [(.int (lcmpW i1 i2))])) _
        refine XS.ifYes X41.here hx rfl (pc0 := 185) (pc' := 199) rfl (hb hby at_185) rfl ((if0 _ _).trans (feq h185).2) (by decide) (by decide) ?_
        show Steps p.tables e below (T41.setTop (mkF m 199 #[.val (.long p0), .second, .val (.int p1), .val (.long p2), .second, .val (.int p3), .val (.int p4), .val (.int z7), .val (.int z8), .val (.int z9), .val (.int z10), .val (.long i1), .second, .val (.int e1), .val (.long i2), .second, .val (.int e2), .val (.ref b20), .val (.ref b32), .unset, .unset] [])) _
        refine XS.iconst X41.here hx rfl (hb hby at_199) ?_
        show Steps p.tables e below (T41.setTop (mkF m 200 #[.val (.long p0), .second, .val (.int p1), .val (.long p2), .second, .val (.int p3), .val (.int p4), .val (.int z7), .val (.int z8), .val (.int z9), .val (.int z10), .val (.long i1), .second, .val (.int e1), .val (.long i2), .second, .val (.int e2), .val (.ref b20), .val (.ref b32), .unset, .unset] [(.int (0 : Int32))])) _
        refine XS.istore X41.here hx rfl (hb hby at_200) rfl (l' := #[.val (.long p0), .second, .val (.int p1), .val (.long p2), .second, .val (.int p3), .val (.int p4), .val (.int z7), .val (.int z8), .val (.int z9), .val (.int z10), .val (.long i1), .second, .val (.int e1), .val (.long i2), .second, .val (.int e2), .val (.ref b20), .val (.ref b32), .val (.int (0 : Int32)), .unset]) rfl ?_
        exact kt)⟩
  subst hm53
  obtain ⟨_, _, ⟨T54, L54, k54, n54⟩, -, X54, ⟨Lc54, hQ54, l54, y54, z54⟩, st54⟩ := Jvm.LawKit.callS X41 hx (y := (⟨"java/lang/Long", "valueOf", "(J)Ljava/lang/Long;"⟩ : MethodName)) hown (mvT hZ (hw _ (List.mem_of_getElem? (i := 16) rfl))) (mvT hZ (hw _ (List.mem_of_getElem? (i := 17) rfl))) (mvT hZ (hw _ (List.mem_of_getElem? (i := 18) rfl))) (mvT hZ (hw _ (List.mem_of_getElem? (i := 19) rfl))) (by decide) (backOf (W := 0) (rm3 l Z a0 hw [] i1 ca T41.heap n0 zz48 (own_sta_keep0 S0 K49) (own_cache_keep CC K49)) hZ (hw _ (List.mem_of_getElem? (i := 19) rfl)) (hw _ (List.mem_of_getElem? (i := 18) rfl)) (by decide) (by decide)) (g := (mkF m 204 #[.val (.long p0), .second, .val (.int p1), .val (.long p2), .second, .val (.int p3), .val (.int p4), .val (.int z7), .val (.int z8), .val (.int z9), .val (.int z10), .val (.long i1), .second, .val (.int e1), .val (.long i2), .second, .val (.int e2), .val (.ref b20), .val (.ref b32), .val (.int (own_eq2 i1 i2 e1 e2)), .unset] [(.long i1)])) rfl (by rw [hml]; rfl) (argsL := [(.long i1)]) (rest := []) (lenOf pd_3 rfl) rfl (by show 2 * 0 + _ ≤ _; exact Nat.le_of_eq rfl) (hb hby at_204) (fun _ _ => ⟨rfl, rfl, (by decide : 2 + 1 ≤ _), (by decide : 4 + 1 ≤ _)⟩)
  dsimp only [Pt.U, Pt.locs, Pt.cells, Pt.slots] at X54 l54 y54 z54 st54 hQ54
  subst l54 y54 z54
  obtain ⟨lb54, rfl, Nq54, K54, f55⟩ := hQ54
  have f56 := f45.keep K54
  have f57 := f46.keep K54 (fun q => nomatch q)
  have f58 := f47.keep K54 (fun q => nomatch q)
  have f59 := f44.keep K54
  have f60 := f42.keep K54 (fun q => nomatch q)
  have f61 := f43.keep K54 (fun q => nomatch q)
  have zz62 : n0 ≤ T54.heap.size := Nat.le_trans zz48 K54.1
  have K63 : Keep h0 T54.heap [] := Keep.trans K49 K54 (fun x hx => nomatch hx)
  have N64 := Fr.app N50 Nq54
  obtain ⟨cq65, kq65, q65a, q65b, q65c⟩ := isOf hZ rfl f56
  obtain ⟨_, _, ⟨T65, L65, k65, n65⟩, -, X65, ⟨Lc65, hQ65, l65, y65, z65⟩, st65⟩ := X54.virtualBack hx (y := (⟨"com/example/tidy_commit/tidycommit/client/PreparedTxnState", "equals", "(Ljava/lang/Object;)Z"⟩ : MethodName)) (z := (⟨"com/example/tidy_commit/tidycommit/client/PreparedTxnState", "equals", "(Ljava/lang/Object;)Z"⟩ : MethodName)) hown (mvT hZ (hw _ (List.mem_of_getElem? (i := 24) rfl))) (mvT hZ (hw _ (List.mem_of_getElem? (i := 25) rfl))) (notFace_of_selects (args := #[]) (mvT hZ (hw _ (List.mem_of_getElem? (i := 27) rfl)))) (mvT hZ (hw _ (List.mem_of_getElem? (i := 27) rfl))) (mvT hZ (hw _ (List.mem_of_getElem? (i := 26) rfl))) (by decide) (backOf (W := 0) (rm4 l Z a0 hw [] b20 b32 i1 i2 (nar .short e1) (nar .short e2) T54.heap n0 zz62 f59 f57 f60 f58 f61) hZ (hw _ (List.mem_of_getElem? (i := 28) rfl)) (hw _ (List.mem_of_getElem? (i := 4) rfl)) (by decide) (by decide)) q65a q65c (g := (mkF m 213 #[.val (.long p0), .second, .val (.int p1), .val (.long p2), .second, .val (.int p3), .val (.int p4), .val (.int z7), .val (.int z8), .val (.int z9), .val (.int z10), .val (.long i1), .second, .val (.int e1), .val (.long i2), .second, .val (.int e2), .val (.ref b20), .val (.ref b32), .val (.int (own_eq2 i1 i2 e1 e2)), .val (.ref lb54)] [(.ref b32), (.ref b20)])) rfl (by rw [hml]; rfl) (Steps.refl _) (argsL := [(.ref b32)]) (rest := []) (lenOf pd_4 rfl) rfl (by show 2 * 0 + _ ≤ _; exact Nat.le_of_eq rfl) (hb hby at_213) (fun _ _ => ⟨rfl, rfl, (by decide : 3 + 0 ≤ _), (by decide : 5 + 0 ≤ _)⟩)
  dsimp only [Pt.U, Pt.locs, Pt.cells, Pt.slots] at X65 l65 y65 z65 st65 hQ65
  subst l65 y65 z65
  obtain ⟨rfl, Nq65, e65⟩ := hQ65
  have N66 := Fr.app N64 Nq65
  obtain ⟨cq67, kq67, q67a, q67b, q67c⟩ := isOf hZ e65 f59
  obtain ⟨_, _, ⟨T67, L67, k67, n67⟩, -, X67, ⟨Lc67, hQ67, l67, y67, z67⟩, st67⟩ := X65.virtualBack hx (y := (⟨"com/example/tidy_commit/tidycommit/client/PreparedTxnState", "equals", "(Ljava/lang/Object;)Z"⟩ : MethodName)) (z := (⟨"com/example/tidy_commit/tidycommit/client/PreparedTxnState", "equals", "(Ljava/lang/Object;)Z"⟩ : MethodName)) hown (mvT hZ (hw _ (List.mem_of_getElem? (i := 24) rfl))) (mvT hZ (hw _ (List.mem_of_getElem? (i := 25) rfl))) (notFace_of_selects (args := #[]) (mvT hZ (hw _ (List.mem_of_getElem? (i := 27) rfl)))) (mvT hZ (hw _ (List.mem_of_getElem? (i := 27) rfl))) (mvT hZ (hw _ (List.mem_of_getElem? (i := 26) rfl))) (by decide) (backOf (W := 0) (rm4 l Z a0 hw [] b32 b20 i2 i1 (nar .short e2) (nar .short e1) T54.heap n0 zz62 f56 f60 f57 f61 f58) hZ (hw _ (List.mem_of_getElem? (i := 28) rfl)) (hw _ (List.mem_of_getElem? (i := 4) rfl)) (by decide) (by decide)) q67a q67c (g := (mkF m 225 #[.val (.long p0), .second, .val (.int p1), .val (.long p2), .second, .val (.int p3), .val (.int p4), .val (.int z7), .val (.int z8), .val (.int z9), .val (.int z10), .val (.long i1), .second, .val (.int e1), .val (.long i2), .second, .val (.int e2), .val (.ref b20), .val (.ref b32), .val (.int (own_eq2 i1 i2 e1 e2)), .val (.ref lb54)] [(.ref b20), (.ref b32)])) rfl (by rw [hml]; rfl) (Steps.refl _) (argsL := [(.ref b20)]) (rest := []) (lenOf pd_4 rfl) rfl (by show 2 * 0 + _ ≤ _; exact Nat.le_of_eq rfl) (hb hby at_225) (fun _ _ => ⟨rfl, e65, (by decide : 3 + 0 ≤ _), (by decide : 5 + 0 ≤ _)⟩)
  dsimp only [Pt.U, Pt.locs, Pt.cells, Pt.slots] at X67 l67 y67 z67 st67 hQ67
  subst l67 y67 z67
  obtain ⟨rfl, Nq67, e67⟩ := hQ67
  have N68 := Fr.app N66 Nq67
  obtain ⟨cq69, kq69, q69a, q69b, q69c⟩ := isOf hZ e67 f56
  obtain ⟨_, _, ⟨T69, L69, k69, n69⟩, -, X69, ⟨Lc69, hQ69, l69, y69, z69⟩, st69⟩ := X67.virtualBack hx (y := (⟨"com/example/tidy_commit/tidycommit/client/PreparedTxnState", "equals", "(Ljava/lang/Object;)Z"⟩ : MethodName)) (z := (⟨"com/example/tidy_commit/tidycommit/client/PreparedTxnState", "equals", "(Ljava/lang/Object;)Z"⟩ : MethodName)) hown (mvT hZ (hw _ (List.mem_of_getElem? (i := 24) rfl))) (mvT hZ (hw _ (List.mem_of_getElem? (i := 25) rfl))) (notFace_of_selects (args := #[]) (mvT hZ (hw _ (List.mem_of_getElem? (i := 27) rfl)))) (mvT hZ (hw _ (List.mem_of_getElem? (i := 27) rfl))) (mvT hZ (hw _ (List.mem_of_getElem? (i := 26) rfl))) (by decide) (backOf (W := 0) (rm4 l Z a0 hw [] b20 b20 i1 i1 (nar .short e1) (nar .short e1) T54.heap n0 zz62 f56 f57 f57 f58 f58) hZ (hw _ (List.mem_of_getElem? (i := 28) rfl)) (hw _ (List.mem_of_getElem? (i := 4) rfl)) (by decide) (by decide)) q69a q69c (g := (mkF m 237 #[.val (.long p0), .second, .val (.int p1), .val (.long p2), .second, .val (.int p3), .val (.int p4), .val (.int z7), .val (.int z8), .val (.int z9), .val (.int z10), .val (.long i1), .second, .val (.int e1), .val (.long i2), .second, .val (.int e2), .val (.ref b20), .val (.ref b32), .val (.int (own_eq2 i1 i2 e1 e2)), .val (.ref lb54)] [(.ref b20), (.ref b20)])) rfl (by rw [hml]; rfl) (Steps.refl _) (argsL := [(.ref b20)]) (rest := []) (lenOf pd_4 rfl) rfl (by show 2 * 0 + _ ≤ _; exact Nat.le_of_eq rfl) (hb hby at_237) (fun _ _ => ⟨rfl, e67, (by decide : 3 + 0 ≤ _), (by decide : 5 + 0 ≤ _)⟩)
  dsimp only [Pt.U, Pt.locs, Pt.cells, Pt.slots] at X69 l69 y69 z69 st69 hQ69
  subst l69 y69 z69
  obtain ⟨rfl, Nq69, e69⟩ := hQ69
  have N70 := Fr.app N68 Nq69
  obtain ⟨cq71, kq71, q71a, q71b, q71c⟩ := isOf hZ e69 f56
  obtain ⟨_, _, ⟨T71, L71, k71, n71⟩, -, X71, ⟨Lc71, hQ71, l71, y71, z71⟩, st71⟩ := X69.virtualBack hx (y := (⟨"com/example/tidy_commit/tidycommit/client/PreparedTxnState", "equals", "(Ljava/lang/Object;)Z"⟩ : MethodName)) (z := (⟨"com/example/tidy_commit/tidycommit/client/PreparedTxnState", "equals", "(Ljava/lang/Object;)Z"⟩ : MethodName)) hown (mvT hZ (hw _ (List.mem_of_getElem? (i := 24) rfl))) (mvT hZ (hw _ (List.mem_of_getElem? (i := 25) rfl))) (notFace_of_selects (args := #[]) (mvT hZ (hw _ (List.mem_of_getElem? (i := 27) rfl)))) (mvT hZ (hw _ (List.mem_of_getElem? (i := 27) rfl))) (mvT hZ (hw _ (List.mem_of_getElem? (i := 26) rfl))) (by decide) (backOf (W := 0) (rm4n l Z a0 hw [] b20 T54.heap n0 zz62) hZ (hw _ (List.mem_of_getElem? (i := 28) rfl)) (hw _ (List.mem_of_getElem? (i := 4) rfl)) (by decide) (by decide)) q71a q71c (g := (mkF m 246 #[.val (.long p0), .second, .val (.int p1), .val (.long p2), .second, .val (.int p3), .val (.int p4), .val (.int z7), .val (.int z8), .val (.int z9), .val (.int z10), .val (.long i1), .second, .val (.int e1), .val (.long i2), .second, .val (.int e2), .val (.ref b20), .val (.ref b32), .val (.int (own_eq2 i1 i2 e1 e2)), .val (.ref lb54)] [.null, (.ref b20)])) rfl (by rw [hml]; rfl) (Steps.refl _) (argsL := [.null]) (rest := []) (lenOf pd_4 rfl) rfl (by show 2 * 0 + _ ≤ _; exact Nat.le_of_eq rfl) (hb hby at_246) (fun _ _ => ⟨rfl, e69, (by decide : 3 + 0 ≤ _), (by decide : 5 + 0 ≤ _)⟩)
  dsimp only [Pt.U, Pt.locs, Pt.cells, Pt.slots] at X71 l71 y71 z71 st71 hQ71
  subst l71 y71 z71
  obtain ⟨rfl, Nq71, e71⟩ := hQ71
  have N72 := Fr.app N70 Nq71
  obtain ⟨cq73, kq73, q73a, q73b, q73c⟩ := isOf hZ e71 f56
  obtain ⟨_, _, ⟨T73, L73, k73, n73⟩, -, X73, ⟨Lc73, hQ73, l73, y73, z73⟩, st73⟩ := X71.virtualBack hx (y := (⟨"com/example/tidy_commit/tidycommit/client/PreparedTxnState", "equals", "(Ljava/lang/Object;)Z"⟩ : MethodName)) (z := (⟨"com/example/tidy_commit/tidycommit/client/PreparedTxnState", "equals", "(Ljava/lang/Object;)Z"⟩ : MethodName)) hown (mvT hZ (hw _ (List.mem_of_getElem? (i := 24) rfl))) (mvT hZ (hw _ (List.mem_of_getElem? (i := 25) rfl))) (notFace_of_selects (args := #[]) (mvT hZ (hw _ (List.mem_of_getElem? (i := 27) rfl)))) (mvT hZ (hw _ (List.mem_of_getElem? (i := 27) rfl))) (mvT hZ (hw _ (List.mem_of_getElem? (i := 26) rfl))) (by decide) (backOf (W := 0) (rm4L l Z a0 hw [] b20 lb54 T54.heap n0 zz62 f55) hZ (hw _ (List.mem_of_getElem? (i := 28) rfl)) (hw _ (List.mem_of_getElem? (i := 4) rfl)) (by decide) (by decide)) q73a q73c (g := (mkF m 256 #[.val (.long p0), .second, .val (.int p1), .val (.long p2), .second, .val (.int p3), .val (.int p4), .val (.int z7), .val (.int z8), .val (.int z9), .val (.int z10), .val (.long i1), .second, .val (.int e1), .val (.long i2), .second, .val (.int e2), .val (.ref b20), .val (.ref b32), .val (.int (own_eq2 i1 i2 e1 e2)), .val (.ref lb54)] [(.ref lb54), (.ref b20)])) rfl (by rw [hml]; rfl) (Steps.refl _) (argsL := [(.ref lb54)]) (rest := []) (lenOf pd_4 rfl) rfl (by show 2 * 0 + _ ≤ _; exact Nat.le_of_eq rfl) (hb hby at_256) (fun _ _ => ⟨rfl, e71, (by decide : 3 + 0 ≤ _), (by decide : 5 + 0 ≤ _)⟩)
  dsimp only [Pt.U, Pt.locs, Pt.cells, Pt.slots] at X73 l73 y73 z73 st73 hQ73
  subst l73 y73 z73
  obtain ⟨rfl, Nq73, e73⟩ := hQ73
  have N74 := Fr.app N72 Nq73
  obtain ⟨fs, hr, hrun, hended, hW, hsame⟩ := X73.leave (v := some (.int (1 : Int32))) (fun h => by rw [Bd.returns] at h; cases h)
  refine ⟨_, _, pre52 _ ?_, hrun, hended, _, _, rfl, ?_, ⟨_, rfl⟩, hW, hsame.mono (by decide) (by decide)⟩
  · show Steps p.tables e below (T41.setTop (mkF m 202 #[.val (.long p0), .second, .val (.int p1), .val (.long p2), .second, .val (.int p3), .val (.int p4), .val (.int z7), .val (.int z8), .val (.int z9), .val (.int z10), .val (.long i1), .second, .val (.int e1), .val (.long i2), .second, .val (.int e2), .val (.ref b20), .val (.ref b32), .val (.int (own_eq2 i1 i2 e1 e2)), .unset] [])) _
    refine XS.lload X41.here hx rfl (hb hby at_202) rfl ?_
    show Steps p.tables e below (T41.setTop (mkF m 204 #[.val (.long p0), .second, .val (.int p1), .val (.long p2), .second, .val (.int p3), .val (.int p4), .val (.int z7), .val (.int z8), .val (.int z9), .val (.int z10), .val (.long i1), .second, .val (.int e1), .val (.long i2), .second, .val (.int e2), .val (.ref b20), .val (.ref b32), .val (.int (own_eq2 i1 i2 e1 e2)), .unset] [(.long i1)])) _
    refine st54 _ ?_
    show Steps p.tables e below (T54.setTop (mkF m 207 #[.val (.long p0), .second, .val (.int p1), .val (.long p2), .second, .val (.int p3), .val (.int p4), .val (.int z7), .val (.int z8), .val (.int z9), .val (.int z10), .val (.long i1), .second, .val (.int e1), .val (.long i2), .second, .val (.int e2), .val (.ref b20), .val (.ref b32), .val (.int (own_eq2 i1 i2 e1 e2)), .unset] [(.ref lb54)])) _
    refine XS.astore X54.here hx rfl (hb hby at_207) rfl rfl (l' := #[.val (.long p0), .second, .val (.int p1), .val (.long p2), .second, .val (.int p3), .val (.int p4), .val (.int z7), .val (.int z8), .val (.int z9), .val (.int z10), .val (.long i1), .second, .val (.int e1), .val (.long i2), .second, .val (.int e2), .val (.ref b20), .val (.ref b32), .val (.int (own_eq2 i1 i2 e1 e2)), .val (.ref lb54)]) rfl ?_
    show Steps p.tables e below (T54.setTop (mkF m 209 #[.val (.long p0), .second, .val (.int p1), .val (.long p2), .second, .val (.int p3), .val (.int p4), .val (.int z7), .val (.int z8), .val (.int z9), .val (.int z10), .val (.long i1), .second, .val (.int e1), .val (.long i2), .second, .val (.int e2), .val (.ref b20), .val (.ref b32), .val (.int (own_eq2 i1 i2 e1 e2)), .val (.ref lb54)] [])) _
    refine XS.aload X54.here hx rfl (hb hby at_209) rfl rfl ?_
    show Steps p.tables e below (T54.setTop (mkF m 211 #[.val (.long p0), .second, .val (.int p1), .val (.long p2), .second, .val (.int p3), .val (.int p4), .val (.int z7), .val (.int z8), .val (.int z9), .val (.int z10), .val (.long i1), .second, .val (.int e1), .val (.long i2), .second, .val (.int e2), .val (.ref b20), .val (.ref b32), .val (.int (own_eq2 i1 i2 e1 e2)), .val (.ref lb54)] [(.ref b20)])) _
    refine XS.aload X54.here hx rfl (hb hby at_211) rfl rfl ?_
    show Steps p.tables e below (T54.setTop (mkF m 213 #[.val (.long p0), .second, .val (.int p1), .val (.long p2), .second, .val (.int p3), .val (.int p4), .val (.int z7), .val (.int z8), .val (.int z9), .val (.int z10), .val (.long i1), .second, .val (.int e1), .val (.long i2), .second, .val (.int e2), .val (.ref b20), .val (.ref b32), .val (.int (own_eq2 i1 i2 e1 e2)), .val (.ref lb54)] [(.ref b32), (.ref b20)])) _
    refine st65.trans ?_
    show Steps p.tables e below (T65.setTop (mkF m 216 #[.val (.long p0), .second, .val (.int p1), .val (.long p2), .second, .val (.int p3), .val (.int p4), .val (.int z7), .val (.int z8), .val (.int z9), .val (.int z10), .val (.long i1), .second, .val (.int e1), .val (.long i2), .second, .val (.int e2), .val (.ref b20), .val (.ref b32), .val (.int (own_eq2 i1 i2 e1 e2)), .val (.ref lb54)] [(.int (own_eq2 i1 i2 (nar .short e1) (nar .short e2)))])) _
    refine XS.iload X65.here hx rfl (hb hby at_216) rfl ?_
    show Steps p.tables e below (T65.setTop (mkF m 218 #[.val (.long p0), .second, .val (.int p1), .val (.long p2), .second, .val (.int p3), .val (.int p4), .val (.int z7), .val (.int z8), .val (.int z9), .val (.int z10), .val (.long i1), .second, .val (.int e1), .val (.long i2), .second, .val (.int e2), .val (.ref b20), .val (.ref b32), .val (.int (own_eq2 i1 i2 e1 e2)), .val (.ref lb54)] [(.int (own_eq2 i1 i2 e1 e2)), (.int (own_eq2 i1 i2 (nar .short e1) (nar .short e2)))])) _
    refine XS.icmpNo X65.here hx rfl (hb hby at_218) rfl (teq (own_q1 hok1 hok2)).2 ?_
    show Steps p.tables e below (T65.setTop (mkF m 221 #[.val (.long p0), .second, .val (.int p1), .val (.long p2), .second, .val (.int p3), .val (.int p4), .val (.int z7), .val (.int z8), .val (.int z9), .val (.int z10), .val (.long i1), .second, .val (.int e1), .val (.long i2), .second, .val (.int e2), .val (.ref b20), .val (.ref b32), .val (.int (own_eq2 i1 i2 e1 e2)), .val (.ref lb54)] [])) _
    refine XS.aload X65.here hx rfl (hb hby at_221) rfl rfl ?_
    show Steps p.tables e below (T65.setTop (mkF m 223 #[.val (.long p0), .second, .val (.int p1), .val (.long p2), .second, .val (.int p3), .val (.int p4), .val (.int z7), .val (.int z8), .val (.int z9), .val (.int z10), .val (.long i1), .second, .val (.int e1), .val (.long i2), .second, .val (.int e2), .val (.ref b20), .val (.ref b32), .val (.int (own_eq2 i1 i2 e1 e2)), .val (.ref lb54)] [(.ref b32)])) _
    refine XS.aload X65.here hx rfl (hb hby at_223) rfl rfl ?_
    show Steps p.tables e below (T65.setTop (mkF m 225 #[.val (.long p0), .second, .val (.int p1), .val (.long p2), .second, .val (.int p3), .val (.int p4), .val (.int z7), .val (.int z8), .val (.int z9), .val (.int z10), .val (.long i1), .second, .val (.int e1), .val (.long i2), .second, .val (.int e2), .val (.ref b20), .val (.ref b32), .val (.int (own_eq2 i1 i2 e1 e2)), .val (.ref lb54)] [(.ref b20), (.ref b32)])) _
    refine st67.trans ?_
    show Steps p.tables e below (T67.setTop (mkF m 228 #[.val (.long p0), .second, .val (.int p1), .val (.long p2), .second, .val (.int p3), .val (.int p4), .val (.int z7), .val (.int z8), .val (.int z9), .val (.int z10), .val (.long i1), .second, .val (.int e1), .val (.long i2), .second, .val (.int e2), .val (.ref b20), .val (.ref b32), .val (.int (own_eq2 i1 i2 e1 e2)), .val (.ref lb54)] [(.int (own_eq2 i2 i1 (nar .short e2) (nar .short e1)))])) _
    refine XS.iload X67.here hx rfl (hb hby at_228) rfl ?_
    show Steps p.tables e below (T67.setTop (mkF m 230 #[.val (.long p0), .second, .val (.int p1), .val (.long p2), .second, .val (.int p3), .val (.int p4), .val (.int z7), .val (.int z8), .val (.int z9), .val (.int z10), .val (.long i1), .second, .val (.int e1), .val (.long i2), .second, .val (.int e2), .val (.ref b20), .val (.ref b32), .val (.int (own_eq2 i1 i2 e1 e2)), .val (.ref lb54)] [(.int (own_eq2 i1 i2 e1 e2)), (.int (own_eq2 i2 i1 (nar .short e2) (nar .short e1)))])) _
    refine XS.icmpNo X67.here hx rfl (hb hby at_230) rfl (teq (own_q2 hok1 hok2)).2 ?_
    show Steps p.tables e below (T67.setTop (mkF m 233 #[.val (.long p0), .second, .val (.int p1), .val (.long p2), .second, .val (.int p3), .val (.int p4), .val (.int z7), .val (.int z8), .val (.int z9), .val (.int z10), .val (.long i1), .second, .val (.int e1), .val (.long i2), .second, .val (.int e2), .val (.ref b20), .val (.ref b32), .val (.int (own_eq2 i1 i2 e1 e2)), .val (.ref lb54)] [])) _
    refine XS.aload X67.here hx rfl (hb hby at_233) rfl rfl ?_
    show Steps p.tables e below (T67.setTop (mkF m 235 #[.val (.long p0), .second, .val (.int p1), .val (.long p2), .second, .val (.int p3), .val (.int p4), .val (.int z7), .val (.int z8), .val (.int z9), .val (.int z10), .val (.long i1), .second, .val (.int e1), .val (.long i2), .second, .val (.int e2), .val (.ref b20), .val (.ref b32), .val (.int (own_eq2 i1 i2 e1 e2)), .val (.ref lb54)] [(.ref b20)])) _
    refine XS.aload X67.here hx rfl (hb hby at_235) rfl rfl ?_
    show Steps p.tables e below (T67.setTop (mkF m 237 #[.val (.long p0), .second, .val (.int p1), .val (.long p2), .second, .val (.int p3), .val (.int p4), .val (.int z7), .val (.int z8), .val (.int z9), .val (.int z10), .val (.long i1), .second, .val (.int e1), .val (.long i2), .second, .val (.int e2), .val (.ref b20), .val (.ref b32), .val (.int (own_eq2 i1 i2 e1 e2)), .val (.ref lb54)] [(.ref b20), (.ref b20)])) _
    refine st69.trans ?_
    show Steps p.tables e below (T69.setTop (mkF m 240 #[.val (.long p0), .second, .val (.int p1), .val (.long p2), .second, .val (.int p3), .val (.int p4), .val (.int z7), .val (.int z8), .val (.int z9), .val (.int z10), .val (.long i1), .second, .val (.int e1), .val (.long i2), .second, .val (.int e2), .val (.ref b20), .val (.ref b32), .val (.int (own_eq2 i1 i2 e1 e2)), .val (.ref lb54)] [(.int (own_eq2 i1 i1 (nar .short e1) (nar .short e1)))])) _
    refine XS.ifNo X69.here hx rfl (hb hby at_240) rfl ((if0 _ _).trans (feq (own_q3 _ _)).1) ?_
    show Steps p.tables e below (T69.setTop (mkF m 243 #[.val (.long p0), .second, .val (.int p1), .val (.long p2), .second, .val (.int p3), .val (.int p4), .val (.int z7), .val (.int z8), .val (.int z9), .val (.int z10), .val (.long i1), .second, .val (.int e1), .val (.long i2), .second, .val (.int e2), .val (.ref b20), .val (.ref b32), .val (.int (own_eq2 i1 i2 e1 e2)), .val (.ref lb54)] [])) _
    refine XS.aload X69.here hx rfl (hb hby at_243) rfl rfl ?_
    show Steps p.tables e below (T69.setTop (mkF m 245 #[.val (.long p0), .second, .val (.int p1), .val (.long p2), .second, .val (.int p3), .val (.int p4), .val (.int z7), .val (.int z8), .val (.int z9), .val (.int z10), .val (.long i1), .second, .val (.int e1), .val (.long i2), .second, .val (.int e2), .val (.ref b20), .val (.ref b32), .val (.int (own_eq2 i1 i2 e1 e2)), .val (.ref lb54)] [(.ref b20)])) _
    refine XS.aconstNull X69.here hx rfl (hb hby at_245) ?_
    show Steps p.tables e below (T69.setTop (mkF m 246 #[.val (.long p0), .second, .val (.int p1), .val (.long p2), .second, .val (.int p3), .val (.int p4), .val (.int z7), .val (.int z8), .val (.int z9), .val (.int z10), .val (.long i1), .second, .val (.int e1), .val (.long i2), .second, .val (.int e2), .val (.ref b20), .val (.ref b32), .val (.int (own_eq2 i1 i2 e1 e2)), .val (.ref lb54)] [.null, (.ref b20)])) _
    refine st71.trans ?_
    show Steps p.tables e below (T71.setTop (mkF m 249 #[.val (.long p0), .second, .val (.int p1), .val (.long p2), .second, .val (.int p3), .val (.int p4), .val (.int z7), .val (.int z8), .val (.int z9), .val (.int z10), .val (.long i1), .second, .val (.int e1), .val (.long i2), .second, .val (.int e2), .val (.ref b20), .val (.ref b32), .val (.int (own_eq2 i1 i2 e1 e2)), .val (.ref lb54)] [(.int (0 : Int32))])) _
    refine XS.ifNo X71.here hx rfl (hb hby at_249) rfl ((if0 _ _).trans (teq (rfl : (0 : Int32) = (0 : Int32))).2) ?_
    show Steps p.tables e below (T71.setTop (mkF m 252 #[.val (.long p0), .second, .val (.int p1), .val (.long p2), .second, .val (.int p3), .val (.int p4), .val (.int z7), .val (.int z8), .val (.int z9), .val (.int z10), .val (.long i1), .second, .val (.int e1), .val (.long i2), .second, .val (.int e2), .val (.ref b20), .val (.ref b32), .val (.int (own_eq2 i1 i2 e1 e2)), .val (.ref lb54)] [])) _
    refine XS.aload X71.here hx rfl (hb hby at_252) rfl rfl ?_
    show Steps p.tables e below (T71.setTop (mkF m 254 #[.val (.long p0), .second, .val (.int p1), .val (.long p2), .second, .val (.int p3), .val (.int p4), .val (.int z7), .val (.int z8), .val (.int z9), .val (.int z10), .val (.long i1), .second, .val (.int e1), .val (.long i2), .second, .val (.int e2), .val (.ref b20), .val (.ref b32), .val (.int (own_eq2 i1 i2 e1 e2)), .val (.ref lb54)] [(.ref b20)])) _
    refine XS.aload X71.here hx rfl (hb hby at_254) rfl rfl ?_
    show Steps p.tables e below (T71.setTop (mkF m 256 #[.val (.long p0), .second, .val (.int p1), .val (.long p2), .second, .val (.int p3), .val (.int p4), .val (.int z7), .val (.int z8), .val (.int z9), .val (.int z10), .val (.long i1), .second, .val (.int e1), .val (.long i2), .second, .val (.int e2), .val (.ref b20), .val (.ref b32), .val (.int (own_eq2 i1 i2 e1 e2)), .val (.ref lb54)] [(.ref lb54), (.ref b20)])) _
    refine st73.trans ?_
    show Steps p.tables e below (T73.setTop (mkF m 259 #[.val (.long p0), .second, .val (.int p1), .val (.long p2), .second, .val (.int p3), .val (.int p4), .val (.int z7), .val (.int z8), .val (.int z9), .val (.int z10), .val (.long i1), .second, .val (.int e1), .val (.long i2), .second, .val (.int e2), .val (.ref b20), .val (.ref b32), .val (.int (own_eq2 i1 i2 e1 e2)), .val (.ref lb54)] [(.int (0 : Int32))])) _
    refine XS.ifNo X73.here hx rfl (hb hby at_259) rfl ((if0 _ _).trans (teq (rfl : (0 : Int32) = (0 : Int32))).2) ?_
    show Steps p.tables e below (T73.setTop (mkF m 262 #[.val (.long p0), .second, .val (.int p1), .val (.long p2), .second, .val (.int p3), .val (.int p4), .val (.int z7), .val (.int z8), .val (.int z9), .val (.int z10), .val (.long i1), .second, .val (.int e1), .val (.long i2), .second, .val (.int e2), .val (.ref b20), .val (.ref b32), .val (.int (own_eq2 i1 i2 e1 e2)), .val (.ref lb54)] [])) _
    refine XS.iconst X73.here hx rfl (hb hby at_262) ?_
    show Steps p.tables e below (T73.setTop (mkF m 263 #[.val (.long p0), .second, .val (.int p1), .val (.long p2), .second, .val (.int p3), .val (.int p4), .val (.int z7), .val (.int z8), .val (.int z9), .val (.int z10), .val (.long i1), .second, .val (.int e1), .val (.long i2), .second, .val (.int e2), .val (.ref b20), .val (.ref b32), .val (.int (own_eq2 i1 i2 e1 e2)), .val (.ref lb54)] [(.int (1 : Int32))])) _
    refine XS.goto X73.here hx rfl (pc0 := 263) (pc' := 267) rfl (hb hby at_263) (by decide) (by decide) ?_
    show Steps p.tables e below (T73.setTop (mkF m 267 #[.val (.long p0), .second, .val (.int p1), .val (.long p2), .second, .val (.int p3), .val (.int p4), .val (.int z7), .val (.int z8), .val (.int z9), .val (.int z10), .val (.long i1), .second, .val (.int e1), .val (.long i2), .second, .val (.int e2), .val (.ref b20), .val (.ref b32), .val (.int (own_eq2 i1 i2 e1 e2)), .val (.ref lb54)] [(.int (1 : Int32))])) _
    exact retN X73 hx (t := .boolean) Bd.returns (by simp) (hb hby at_267) hr
  · show Q0 Z p0 p1 p2 p3 p4 ca h0 n0 _ T73.heap _
    rw [e73]
    exact ⟨rfl, N74⟩
set_option maxHeartbeats 40000000 in
theorem comes_1 {Post : Tables → Env → Array Value → State → Outcome → State → Prop} (hpost : ∀ tb e args s v u, (limb_1_1.after args s (.returned v) u = true ∧ limb_1_2.after args s (.returned v) u = true ∧ True) → FrameEnd s (.returned v) u (Jvm.fieldLocs frame_1_writes args s ++ Jvm.arrayLocs frame_1_arrays args s ++ Jvm.staticLocs frame_1_statics s) 16 128 → Post tb e args s (.returned v) u) :
    ArmFor flags0 classFile x code maxLocals ret World_1 tables_1 room_1 Calls_1 rest_1 Pre_1 Post := by
  intro l hfl _ _ p e ha hc hk s m args below hf hA hF happ hP
  obtain ⟨hcalls, hrest, hpre⟩ := hP
  obtain ⟨-, -, -, hnamed, -, -, -, hat⟩ := (Spec.applies_iff hf).mp happ
  obtain ⟨hg, hn⟩ := and_e (Cond.before_iff.mp (show (Jvm.Cond.and given_1 narrow_1).before args s = true from hpre))
  obtain ⟨g1, g2⟩ := and_e hg
  obtain ⟨g3, g4⟩ := and_e g2
  obtain ⟨g5, g6⟩ := and_e g4
  obtain ⟨g7, g8⟩ := and_e g6
  obtain ⟨g9, g10⟩ := and_e g8
  obtain ⟨w0, w1, w2, w3, w4, rfl⟩ : ∃ w0 w1 w2 w3 w4 : Value, args = #[w0, w1, w2, w3, w4] := by
    have hs : args.size = 5 := by simpa [Cond.value, given_1] using g1
    obtain ⟨L⟩ := args
    match L, hs with
    | [w0, w1, w2, w3, w4], _ => exact ⟨w0, w1, w2, w3, w4, rfl⟩
  have hw := fun d (hd : d ∈ tables_1) => atoms_spec (ws := Jvm.Cond.code x code maxLocals ret :: tables_1) hat d (List.mem_cons_of_mem _ hd)
  have hfit : Fit s := fun {y c} hc i hi => by
    obtain ⟨ha, rfl⟩ := Array.getElem?_eq_some_iff.mp hc
    have q := List.all_eq_true.mp ((Array.all_eq_true_iff_forall_mem.mp hF) _ (Array.getElem_mem ha)) i (List.mem_range.mpr hi)
    simpa [Array.getElem?_eq_getElem hi] using q
  obtain ⟨hsets, hown0⟩ := atoms_of _ (rest_1_c_eq ▸ (show rest_1_c.before _ s = true from hrest))
  have hr0 := Cond.before_iff.mp hown0
  obtain ⟨i0, ei0⟩ := isL_v g3
  obtain rfl : w0 = (.long i0) := Option.some.inj ei0
  obtain ⟨i1, ei1⟩ := is_v g5
  obtain rfl : w1 = (.int i1) := Option.some.inj ei1
  obtain ⟨i2, ei2⟩ := isL_v g7
  obtain rfl : w2 = (.long i2) := Option.some.inj ei2
  obtain ⟨i3, ei3⟩ := is_v g9
  obtain rfl : w3 = (.int i3) := Option.some.inj ei3
  obtain ⟨i4, ei4⟩ := is_v g10
  obtain rfl : w4 = (.int i4) := Option.some.inj ei4
  obtain ⟨ca, eca⟩ := arr_v (Cond.before_iff.mp (hsets _ (List.mem_of_getElem? (i := 2) rfl)))
  have S0 := Sta.start eca (Or.inl (hsets _ (List.mem_of_getElem? (i := 1) rfl)))
  have CC := own_cache_start eca (Cond.before_iff.mp (hsets _ (List.mem_of_getElem? (i := 2) rfl))) (Cond.before_iff.mp (hsets _ (List.mem_of_getElem? (i := 4) rfl))) (Cond.before_iff.mp (hsets _ (List.mem_of_getElem? (i := 5) rfl)))
  obtain ⟨n, o, h1, h2, h3, _, L, rfl, ⟨rfl, N⟩, hq⟩ := rm0 l s _ hw tables_1 i0 i1 i2 i3 i4 ca s.heap s.heap.size (Nat.le_refl _) S0 CC p e ha hc hk s m _ below hf ((Spec.applies_iff_loose hf).mp happ).1 ⟨rfl, State.Warmed39.refl s, rfl⟩ trivial
  refine ⟨n, _, h1, h2, h3, hpost _ _ _ _ _ _ ⟨Cond.after_iff.mpr rfl, Cond.after_iff.mpr (eq_i res_at (Term.int_eval (1)) rfl), trivial⟩ ⟨hq.1, hq.2.1, (hq.2.2.sift fun y hy => Or.inr (N y hy)).mono (by decide) (by decide)⟩⟩
theorem main_1_1 : Claimed_1_1 := comes_1 fun _ _ _ _ _ _ h hF => ⟨h.1, hF⟩
theorem main_1_2 : Claimed_1_2 := comes_1 fun _ _ _ _ _ _ h hF => ⟨h.2.1, hF⟩
end Jvm.Pilot.@@N@@
namespace Jvm.Pilot.@@N@@
open Jvm Jvm.ClassFile Sem Op Lib Jvm.Free Jvm.Stand Jvm.Pilot.@@N@@.Jvm.D
/-! MADE BY PROGRAM (witnessworld.py) out of the Statement's table words and the real class files: 16 classes; the members and pool entries that the words name. The judged class is class 1, her method 1. -/
namespace start1
open Jvm.ClassFile
def u (s : String) : CpInfo := .utf8 (stringToUtf16 s)
/-- a pool by its gaps: so many unusable entries, then the entry; so many at the end -/
def gap : Nat → List CpInfo → List CpInfo
  | 0, r => r
  | n + 1, r => .unusable :: gap n r
def poolList (es : List (Nat × CpInfo)) (last : Nat) : List CpInfo := es.foldr (fun e r => gap e.1 (e.2 :: r)) (gap last [])
def pool (es : List (Nat × CpInfo)) (last : Nat) : Array CpInfo := ⟨poolList es last⟩
def fileOf (pool : Array CpInfo) (this : Nat) (attrs : Array Attribute := #[]) (ms : Array MethodInfo := #[]) (fl : Nat := 33) (sup : Nat := 0) (ifs : Array Nat := #[]) (fds : Array FieldInfo := #[]) : ClassFile where
  minorVersion := 0
  majorVersion := 65
  constantPool := pool
  accessFlags := fl
  thisClass := this
  superClass := sup
  interfaces := ifs
  fields := fds
  methods := ms
  attributes := attrs
def plain (name : String) (sup : Option ClassId) : Class where
  name := name
  kind := .ordinary
  loader := none
  accessFlags := 33
  super := sup
  interfaces := #[]
  cf := none
  fields := #[]
  methods := #[]
  instanceTypes := #[]
  staticTypes := #[]
  resolved := #[]
  callSites := []
  init := .initialized
  statics := none
  mirror := none

def pool0 : Array CpInfo := pool [(5, u "<init>"), (0, u "()V"), (1, .class_ 10), (1, u "java/lang/Object")] 113

def k0c0 : Code := { maxStack := 0, maxLocals := 1, code := object_method_1_code, exceptionTable := #[], attributes := #[] }
def k0m0 : Method := { name := "<init>", desc := "()V", sig := { parameters := [], returnType := none }, accessFlags := 1, code := some k0c0 }
/-- java/lang/Object -/
def k0 : Class := { plain "java/lang/Object" none with
  accessFlags := 33
  interfaces := #[]
  cf := some (fileOf pool0 8 #[] #[{ accessFlags := 1, nameIndex := 5, descriptorIndex := 6, attributes := #[] }] 33 0 #[] #[])
  fields := #[]
  methods := #[k0m0]
  instanceTypes := #[]
  staticTypes := #[]
  resolved := Array.replicate 124 none
  statics := none }

def pool1 : Array CpInfo := pool [(2, .class_ 4), (1, u "java/lang/Object"), (0, u "<init>"), (0, u "()V"), (0, .long 18446744073709551615), (1, .class_ 10), (0, u "java/lang/Long"), (0, .long 9223372036854775807), (1, .class_ 14), (0, u "com/example/tidy_commit/tidycommit/client/PreparedTxnState"), (0, .methodref 13 16), (0, .nameAndType 5 17), (0, u "(JS)V"), (0, .methodref 9 19), (0, .nameAndType 20 21), (0, u "valueOf"), (0, u "(J)Ljava/lang/Long;"), (0, .methodref 13 23), (0, .nameAndType 24 25), (0, u "equals"), (0, u "(Ljava/lang/Object;)Z"), (0, .class_ 27), (0, u "com/example/tidy_commit/tidycommit/client/PreparedTxnStateEqualsPinLaw"), (2, u "law"), (0, u "(JIJII)Z")] 3

def k1m0 : Method := { name := "<init>", desc := "()V", sig := { parameters := [], returnType := none }, accessFlags := 1, code := none }
def k1c1 : Code := { maxStack := 5, maxLocals := 21, code := code, exceptionTable := #[], attributes := #[] }
def k1m1 : Method := { name := "law", desc := "(JIJII)Z", sig := { parameters := [.long, .int, .long, .int, .int], returnType := some .boolean }, accessFlags := 9, code := some k1c1 }
/-- com/example/tidy_commit/tidycommit/client/PreparedTxnStateEqualsPinLaw -/
def k1 : Class := { plain "com/example/tidy_commit/tidycommit/client/PreparedTxnStateEqualsPinLaw" (some 0) with
  accessFlags := 49
  interfaces := #[]
  cf := some (fileOf pool1 26 #[] #[{ accessFlags := 1, nameIndex := 5, descriptorIndex := 6, attributes := #[] }, { accessFlags := 9, nameIndex := 30, descriptorIndex := 31, attributes := #[] }] 49 2 #[] #[])
  fields := #[]
  methods := #[k1m0, k1m1]
  instanceTypes := #[]
  staticTypes := #[]
  resolved := Array.replicate 35 none
  statics := none }

def pool2 : Array CpInfo := pool [(1, .class_ 2), (0, u "com/example/tidy_commit/tidycommit/client/PreparedTxnState"), (0, .long 18446744073709551615), (3, u "<init>"), (0, u "(JS)V"), (0, .methodref 10 11), (0, .class_ 12), (0, .nameAndType 7 13), (0, u "java/lang/Object"), (0, u "()V"), (9, .fieldref 1 24), (0, .nameAndType 25 26), (0, u "producerId"), (0, u "J"), (0, .fieldref 1 28), (0, .nameAndType 29 30), (0, u "epoch"), (0, u "S"), (2, u "TOKEN"), (0, u "Ljava/util/regex/Pattern;"), (55, u "NO_PRODUCER_ID"), (1, u "NO_PRODUCER_EPOCH"), (6, u "equals"), (0, u "(Ljava/lang/Object;)Z")] 23

def k2m0 : Method := { name := "<init>", desc := "()V", sig := { parameters := [], returnType := none }, accessFlags := 1, code := none }
def k2c1 : Code := { maxStack := 5, maxLocals := 5, code := prog_7_method_2_code, exceptionTable := #[], attributes := #[] }
def k2m1 : Method := { name := "<init>", desc := "(JS)V", sig := { parameters := [.long, .short], returnType := none }, accessFlags := 1, code := some k2c1 }
def k2c2 : Code := { maxStack := 4, maxLocals := 3, code := prog_7_method_6_code, exceptionTable := #[], attributes := #[] }
def k2m2 : Method := { name := "equals", desc := "(Ljava/lang/Object;)Z", sig := { parameters := [(.object "java/lang/Object")], returnType := some .boolean }, accessFlags := 1, code := some k2c2 }
/-- com/example/tidy_commit/tidycommit/client/PreparedTxnState -/
def k2 : Class := { plain "com/example/tidy_commit/tidycommit/client/PreparedTxnState" (some 0) with
  accessFlags := 49
  interfaces := #[]
  cf := some (fileOf pool2 1 #[] #[{ accessFlags := 1, nameIndex := 7, descriptorIndex := 13, attributes := #[] }, { accessFlags := 1, nameIndex := 7, descriptorIndex := 8, attributes := #[] }, { accessFlags := 1, nameIndex := 99, descriptorIndex := 100, attributes := #[] }] 49 10 #[] #[{ accessFlags := 26, nameIndex := 90, descriptorIndex := 26, attributes := #[] }, { accessFlags := 26, nameIndex := 92, descriptorIndex := 30, attributes := #[] }, { accessFlags := 26, nameIndex := 33, descriptorIndex := 34, attributes := #[] }, { accessFlags := 18, nameIndex := 25, descriptorIndex := 26, attributes := #[] }, { accessFlags := 18, nameIndex := 29, descriptorIndex := 30, attributes := #[] }])
  fields := #[{ name := "NO_PRODUCER_ID", type := .long, accessFlags := 26, slot := 0, constantValue := 0 }, { name := "NO_PRODUCER_EPOCH", type := .short, accessFlags := 26, slot := 1, constantValue := 0 }, { name := "TOKEN", type := (.object "java/util/regex/Pattern"), accessFlags := 26, slot := 2, constantValue := 0 }, { name := "producerId", type := .long, accessFlags := 18, slot := 0, constantValue := 0 }, { name := "epoch", type := .short, accessFlags := 18, slot := 1, constantValue := 0 }]
  methods := #[k2m0, k2m1, k2m2]
  instanceTypes := #[.long, .short]
  staticTypes := #[.long, .short, (.object "java/util/regex/Pattern")]
  resolved := Array.replicate 124 none
  statics := none }

def pool3 : Array CpInfo := pool [(1, .class_ 2), (0, u "java/io/Serializable"), (0, .class_ 4), (0, u "java/lang/Object")] 2

/-- java/io/Serializable -/
def k3 : Class := { plain "java/io/Serializable" (some 0) with
  accessFlags := 1537
  interfaces := #[]
  cf := some (fileOf pool3 1 #[] #[] 1537 3 #[] #[])
  fields := #[]
  methods := #[]
  instanceTypes := #[]
  staticTypes := #[]
  resolved := Array.replicate 7 none
  statics := none }

def pool4 : Array CpInfo := pool [(1, .methodref 2 3), (0, .class_ 4), (0, .nameAndType 5 6), (0, u "java/lang/Object"), (0, u "<init>"), (0, u "()V"), (1, .class_ 10), (1, u "java/lang/Number"), (2, .class_ 14), (0, u "java/io/Serializable"), (0, u "serialVersionUID"), (0, u "J")] 20

def k4c0 : Code := { maxStack := 1, maxLocals := 1, code := jdk_18_method_1_code, exceptionTable := #[], attributes := #[] }
def k4m0 : Method := { name := "<init>", desc := "()V", sig := { parameters := [], returnType := none }, accessFlags := 1, code := some k4c0 }
/-- java/lang/Number -/
def k4 : Class := { plain "java/lang/Number" (some 0) with
  accessFlags := 1057
  interfaces := #[3]
  cf := some (fileOf pool4 8 #[] #[{ accessFlags := 1, nameIndex := 5, descriptorIndex := 6, attributes := #[] }] 1057 2 #[13] #[{ accessFlags := 26, nameIndex := 15, descriptorIndex := 16, attributes := #[] }])
  fields := #[{ name := "serialVersionUID", type := .long, accessFlags := 26, slot := 0, constantValue := 0 }]
  methods := #[k4m0]
  instanceTypes := #[]
  staticTypes := #[.long]
  resolved := Array.replicate 37 none
  statics := none }

def pool5 : Array CpInfo := pool [(1, .class_ 2), (0, u "java/lang/Comparable"), (0, .class_ 4), (0, u "java/lang/Object")] 7

/-- java/lang/Comparable -/
def k5 : Class := { plain "java/lang/Comparable" (some 0) with
  accessFlags := 1537
  interfaces := #[]
  cf := some (fileOf pool5 1 #[] #[] 1537 3 #[] #[])
  fields := #[]
  methods := #[]
  instanceTypes := #[]
  staticTypes := #[]
  resolved := Array.replicate 12 none
  statics := none }

def pool6 : Array CpInfo := pool [(1, .class_ 2), (0, u "java/lang/constant/Constable"), (0, .class_ 4), (0, u "java/lang/Object")] 6

/-- java/lang/constant/Constable -/
def k6 : Class := { plain "java/lang/constant/Constable" (some 0) with
  accessFlags := 1537
  interfaces := #[]
  cf := some (fileOf pool6 1 #[] #[] 1537 3 #[] #[])
  fields := #[]
  methods := #[]
  instanceTypes := #[]
  staticTypes := #[]
  resolved := Array.replicate 11 none
  statics := none }

def pool7 : Array CpInfo := pool [(1, .class_ 2), (0, u "java/lang/constant/ConstantDesc"), (0, .class_ 4), (0, u "java/lang/Object")] 32

/-- java/lang/constant/ConstantDesc -/
def k7 : Class := { plain "java/lang/constant/ConstantDesc" (some 0) with
  accessFlags := 1537
  interfaces := #[]
  cf := some (fileOf pool7 1 #[] #[] 1537 3 #[] #[])
  fields := #[]
  methods := #[]
  instanceTypes := #[]
  staticTypes := #[]
  resolved := Array.replicate 37 none
  statics := none }

def pool8 : Array CpInfo := pool [(1, .class_ 2), (0, u "java/lang/Long"), (55, .nameAndType 59 60), (0, u "<init>"), (0, u "()V"), (24, u "valueOf"), (143, u "(J)Ljava/lang/Long;"), (0, .long 18446744073709551488), (1, .long 127), (1, .fieldref 235 236), (0, .class_ 237), (0, .nameAndType 238 239), (0, u "java/lang/Long$LongCache"), (0, u "cache"), (0, u "[Ljava/lang/Long;"), (0, .methodref 1 241), (0, .nameAndType 59 242), (0, u "(J)V"), (27, .methodref 271 58), (0, .class_ 272), (0, u "java/lang/Number"), (0, .fieldref 1 274), (0, .nameAndType 275 276), (0, u "value"), (0, u "J"), (84, u "TYPE"), (0, u "Ljava/lang/Class;"), (0, .class_ 364), (0, u "java/lang/Comparable"), (0, .class_ 366), (0, u "java/lang/constant/Constable"), (0, .class_ 368), (0, u "java/lang/constant/ConstantDesc"), (0, u "MIN_VALUE"), (1, u "MAX_VALUE"), (4, u "SIZE"), (0, u "I"), (1, u "BYTES"), (1, u "serialVersionUID")] 142

def k8c0 : Code := { maxStack := 4, maxLocals := 3, code := jdk_35_method_24_code, exceptionTable := #[], attributes := #[] }
def k8m0 : Method := { name := "valueOf", desc := "(J)Ljava/lang/Long;", sig := { parameters := [.long], returnType := some (.object "java/lang/Long") }, accessFlags := 9, code := some k8c0 }
def k8c1 : Code := { maxStack := 3, maxLocals := 3, code := jdk_35_method_26_code, exceptionTable := #[], attributes := #[] }
def k8m1 : Method := { name := "<init>", desc := "(J)V", sig := { parameters := [.long], returnType := none }, accessFlags := 1, code := some k8c1 }
/-- java/lang/Long -/
def k8 : Class := { plain "java/lang/Long" (some 4) with
  accessFlags := 49
  interfaces := #[5, 6, 7]
  cf := some (fileOf pool8 1 #[.nestMembers #[235]] #[{ accessFlags := 9, nameIndex := 85, descriptorIndex := 229, attributes := #[] }, { accessFlags := 1, nameIndex := 59, descriptorIndex := 242, attributes := #[] }] 49 271 #[363, 365, 367] #[{ accessFlags := 25, nameIndex := 369, descriptorIndex := 276, attributes := #[] }, { accessFlags := 25, nameIndex := 371, descriptorIndex := 276, attributes := #[] }, { accessFlags := 25, nameIndex := 361, descriptorIndex := 362, attributes := #[] }, { accessFlags := 18, nameIndex := 275, descriptorIndex := 276, attributes := #[] }, { accessFlags := 25, nameIndex := 376, descriptorIndex := 377, attributes := #[] }, { accessFlags := 25, nameIndex := 379, descriptorIndex := 377, attributes := #[] }, { accessFlags := 26, nameIndex := 381, descriptorIndex := 276, attributes := #[] }])
  fields := #[{ name := "MIN_VALUE", type := .long, accessFlags := 25, slot := 0, constantValue := 0 }, { name := "MAX_VALUE", type := .long, accessFlags := 25, slot := 1, constantValue := 0 }, { name := "TYPE", type := (.object "java/lang/Class"), accessFlags := 25, slot := 2, constantValue := 0 }, { name := "value", type := .long, accessFlags := 18, slot := 0, constantValue := 0 }, { name := "SIZE", type := .int, accessFlags := 25, slot := 3, constantValue := 0 }, { name := "BYTES", type := .int, accessFlags := 25, slot := 4, constantValue := 0 }, { name := "serialVersionUID", type := .long, accessFlags := 26, slot := 5, constantValue := 0 }]
  methods := #[k8m0, k8m1]
  instanceTypes := #[.long]
  staticTypes := #[.long, .long, (.object "java/lang/Class"), .int, .int, .long]
  resolved := Array.replicate 524 none
  statics := none }

def pool9 : Array CpInfo := pool [(2, .class_ 4), (1, u "java/lang/Object"), (0, u "<init>"), (0, u "()V"), (0, .class_ 8), (0, u "java/lang/Long"), (7, .class_ 18), (1, u "java/lang/Long$LongCache"), (0, u "$assertionsDisabled"), (0, u "Z"), (8, u "archivedCache"), (0, u "[Ljava/lang/Long;"), (7, u "cache")] 24

def k9m0 : Method := { name := "<init>", desc := "()V", sig := { parameters := [], returnType := none }, accessFlags := 2, code := none }
/-- java/lang/Long$LongCache -/
def k9 : Class := { plain "java/lang/Long$LongCache" (some 0) with
  accessFlags := 48
  interfaces := #[]
  cf := some (fileOf pool9 16 #[.nestHost 7] #[{ accessFlags := 2, nameIndex := 5, descriptorIndex := 6, attributes := #[] }] 48 2 #[] #[{ accessFlags := 24, nameIndex := 38, descriptorIndex := 30, attributes := #[] }, { accessFlags := 8, nameIndex := 29, descriptorIndex := 30, attributes := #[] }, { accessFlags := 4120, nameIndex := 19, descriptorIndex := 20, attributes := #[] }])
  fields := #[{ name := "cache", type := (.array (.object "java/lang/Long")), accessFlags := 24, slot := 0, constantValue := 0 }, { name := "archivedCache", type := (.array (.object "java/lang/Long")), accessFlags := 8, slot := 1, constantValue := 0 }, { name := "$assertionsDisabled", type := .boolean, accessFlags := 4120, slot := 2, constantValue := 0 }]
  methods := #[k9m0]
  instanceTypes := #[]
  staticTypes := #[(.array (.object "java/lang/Long")), (.array (.object "java/lang/Long")), .boolean]
  resolved := Array.replicate 63 none
  statics := some 0 }

def pool10 : Array CpInfo := pool [(1, u "java/lang/Cloneable"), (0, .class_ 1), (0, u "java/lang/Object"), (0, .class_ 3)] 3

/-- java/lang/Cloneable -/
def k10 : Class := { plain "java/lang/Cloneable" (some 0) with
  accessFlags := 1537
  interfaces := #[]
  cf := some (fileOf pool10 2 #[] #[] 1537 4 #[] #[])
  fields := #[]
  methods := #[]
  instanceTypes := #[]
  staticTypes := #[]
  resolved := Array.replicate 8 none
  statics := none }

/-- the primitive byte -/
def k11 : Class := { plain "byte" none with kind := .primitive 'B', accessFlags := 0x411 }
/-- [B -/
def k12 : Class := { plain "[B" (some 0) with kind := .array 11 .byte, interfaces := #[10, 3], accessFlags := 1041 }

/-- the primitive int -/
def k13 : Class := { plain "int" none with kind := .primitive 'I', accessFlags := 0x411 }
/-- [I -/
def k14 : Class := { plain "[I" (some 0) with kind := .array 13 .int, interfaces := #[10, 3], accessFlags := 1041 }

/-- [Ljava/lang/Long; -/
def k15 : Class := { plain "[Ljava/lang/Long;" (some 0) with kind := .array 8 (.object "java/lang/Long"), interfaces := #[10, 3], accessFlags := 1041 }

def heap : Heap := #[{ cls := 9, slots := #[.ref 1, .null, .int 0], vm := .statics 9 },
  { cls := 15, slots := #[.ref 2, .ref 3, .ref 4, .ref 5, .ref 6, .ref 7, .ref 8, .ref 9, .ref 10, .ref 11, .ref 12, .ref 13, .ref 14, .ref 15, .ref 16, .ref 17, .ref 18, .ref 19, .ref 20, .ref 21, .ref 22, .ref 23, .ref 24, .ref 25, .ref 26, .ref 27, .ref 28, .ref 29, .ref 30, .ref 31, .ref 32, .ref 33, .ref 34, .ref 35, .ref 36, .ref 37, .ref 38, .ref 39, .ref 40, .ref 41, .ref 42, .ref 43, .ref 44, .ref 45, .ref 46, .ref 47, .ref 48, .ref 49, .ref 50, .ref 51, .ref 52, .ref 53, .ref 54, .ref 55, .ref 56, .ref 57, .ref 58, .ref 59, .ref 60, .ref 61, .ref 62, .ref 63, .ref 64, .ref 65, .ref 66, .ref 67, .ref 68, .ref 69, .ref 70, .ref 71, .ref 72, .ref 73, .ref 74, .ref 75, .ref 76, .ref 77, .ref 78, .ref 79, .ref 80, .ref 81, .ref 82, .ref 83, .ref 84, .ref 85, .ref 86, .ref 87, .ref 88, .ref 89, .ref 90, .ref 91, .ref 92, .ref 93, .ref 94, .ref 95, .ref 96, .ref 97, .ref 98, .ref 99, .ref 100, .ref 101, .ref 102, .ref 103, .ref 104, .ref 105, .ref 106, .ref 107, .ref 108, .ref 109, .ref 110, .ref 111, .ref 112, .ref 113, .ref 114, .ref 115, .ref 116, .ref 117, .ref 118, .ref 119, .ref 120, .ref 121, .ref 122, .ref 123, .ref 124, .ref 125, .ref 126, .ref 127, .ref 128, .ref 129, .ref 130, .ref 131, .ref 132, .ref 133, .ref 134, .ref 135, .ref 136, .ref 137, .ref 138, .ref 139, .ref 140, .ref 141, .ref 142, .ref 143, .ref 144, .ref 145, .ref 146, .ref 147, .ref 148, .ref 149, .ref 150, .ref 151, .ref 152, .ref 153, .ref 154, .ref 155, .ref 156, .ref 157, .ref 158, .ref 159, .ref 160, .ref 161, .ref 162, .ref 163, .ref 164, .ref 165, .ref 166, .ref 167, .ref 168, .ref 169, .ref 170, .ref 171, .ref 172, .ref 173, .ref 174, .ref 175, .ref 176, .ref 177, .ref 178, .ref 179, .ref 180, .ref 181, .ref 182, .ref 183, .ref 184, .ref 185, .ref 186, .ref 187, .ref 188, .ref 189, .ref 190, .ref 191, .ref 192, .ref 193, .ref 194, .ref 195, .ref 196, .ref 197, .ref 198, .ref 199, .ref 200, .ref 201, .ref 202, .ref 203, .ref 204, .ref 205, .ref 206, .ref 207, .ref 208, .ref 209, .ref 210, .ref 211, .ref 212, .ref 213, .ref 214, .ref 215, .ref 216, .ref 217, .ref 218, .ref 219, .ref 220, .ref 221, .ref 222, .ref 223, .ref 224, .ref 225, .ref 226, .ref 227, .ref 228, .ref 229, .ref 230, .ref 231, .ref 232, .ref 233, .ref 234, .ref 235, .ref 236, .ref 237, .ref 238, .ref 239, .ref 240, .ref 241, .ref 242, .ref 243, .ref 244, .ref 245, .ref 246, .ref 247, .ref 248, .ref 249, .ref 250, .ref 251, .ref 252, .ref 253, .ref 254, .ref 255, .ref 256, .ref 257], vm := .none },
  { cls := 8, slots := #[.long (-128)], vm := .none },
  { cls := 8, slots := #[.long (-127)], vm := .none },
  { cls := 8, slots := #[.long (-126)], vm := .none },
  { cls := 8, slots := #[.long (-125)], vm := .none },
  { cls := 8, slots := #[.long (-124)], vm := .none },
  { cls := 8, slots := #[.long (-123)], vm := .none },
  { cls := 8, slots := #[.long (-122)], vm := .none },
  { cls := 8, slots := #[.long (-121)], vm := .none },
  { cls := 8, slots := #[.long (-120)], vm := .none },
  { cls := 8, slots := #[.long (-119)], vm := .none },
  { cls := 8, slots := #[.long (-118)], vm := .none },
  { cls := 8, slots := #[.long (-117)], vm := .none },
  { cls := 8, slots := #[.long (-116)], vm := .none },
  { cls := 8, slots := #[.long (-115)], vm := .none },
  { cls := 8, slots := #[.long (-114)], vm := .none },
  { cls := 8, slots := #[.long (-113)], vm := .none },
  { cls := 8, slots := #[.long (-112)], vm := .none },
  { cls := 8, slots := #[.long (-111)], vm := .none },
  { cls := 8, slots := #[.long (-110)], vm := .none },
  { cls := 8, slots := #[.long (-109)], vm := .none },
  { cls := 8, slots := #[.long (-108)], vm := .none },
  { cls := 8, slots := #[.long (-107)], vm := .none },
  { cls := 8, slots := #[.long (-106)], vm := .none },
  { cls := 8, slots := #[.long (-105)], vm := .none },
  { cls := 8, slots := #[.long (-104)], vm := .none },
  { cls := 8, slots := #[.long (-103)], vm := .none },
  { cls := 8, slots := #[.long (-102)], vm := .none },
  { cls := 8, slots := #[.long (-101)], vm := .none },
  { cls := 8, slots := #[.long (-100)], vm := .none },
  { cls := 8, slots := #[.long (-99)], vm := .none },
  { cls := 8, slots := #[.long (-98)], vm := .none },
  { cls := 8, slots := #[.long (-97)], vm := .none },
  { cls := 8, slots := #[.long (-96)], vm := .none },
  { cls := 8, slots := #[.long (-95)], vm := .none },
  { cls := 8, slots := #[.long (-94)], vm := .none },
  { cls := 8, slots := #[.long (-93)], vm := .none },
  { cls := 8, slots := #[.long (-92)], vm := .none },
  { cls := 8, slots := #[.long (-91)], vm := .none },
  { cls := 8, slots := #[.long (-90)], vm := .none },
  { cls := 8, slots := #[.long (-89)], vm := .none },
  { cls := 8, slots := #[.long (-88)], vm := .none },
  { cls := 8, slots := #[.long (-87)], vm := .none },
  { cls := 8, slots := #[.long (-86)], vm := .none },
  { cls := 8, slots := #[.long (-85)], vm := .none },
  { cls := 8, slots := #[.long (-84)], vm := .none },
  { cls := 8, slots := #[.long (-83)], vm := .none },
  { cls := 8, slots := #[.long (-82)], vm := .none },
  { cls := 8, slots := #[.long (-81)], vm := .none },
  { cls := 8, slots := #[.long (-80)], vm := .none },
  { cls := 8, slots := #[.long (-79)], vm := .none },
  { cls := 8, slots := #[.long (-78)], vm := .none },
  { cls := 8, slots := #[.long (-77)], vm := .none },
  { cls := 8, slots := #[.long (-76)], vm := .none },
  { cls := 8, slots := #[.long (-75)], vm := .none },
  { cls := 8, slots := #[.long (-74)], vm := .none },
  { cls := 8, slots := #[.long (-73)], vm := .none },
  { cls := 8, slots := #[.long (-72)], vm := .none },
  { cls := 8, slots := #[.long (-71)], vm := .none },
  { cls := 8, slots := #[.long (-70)], vm := .none },
  { cls := 8, slots := #[.long (-69)], vm := .none },
  { cls := 8, slots := #[.long (-68)], vm := .none },
  { cls := 8, slots := #[.long (-67)], vm := .none },
  { cls := 8, slots := #[.long (-66)], vm := .none },
  { cls := 8, slots := #[.long (-65)], vm := .none },
  { cls := 8, slots := #[.long (-64)], vm := .none },
  { cls := 8, slots := #[.long (-63)], vm := .none },
  { cls := 8, slots := #[.long (-62)], vm := .none },
  { cls := 8, slots := #[.long (-61)], vm := .none },
  { cls := 8, slots := #[.long (-60)], vm := .none },
  { cls := 8, slots := #[.long (-59)], vm := .none },
  { cls := 8, slots := #[.long (-58)], vm := .none },
  { cls := 8, slots := #[.long (-57)], vm := .none },
  { cls := 8, slots := #[.long (-56)], vm := .none },
  { cls := 8, slots := #[.long (-55)], vm := .none },
  { cls := 8, slots := #[.long (-54)], vm := .none },
  { cls := 8, slots := #[.long (-53)], vm := .none },
  { cls := 8, slots := #[.long (-52)], vm := .none },
  { cls := 8, slots := #[.long (-51)], vm := .none },
  { cls := 8, slots := #[.long (-50)], vm := .none },
  { cls := 8, slots := #[.long (-49)], vm := .none },
  { cls := 8, slots := #[.long (-48)], vm := .none },
  { cls := 8, slots := #[.long (-47)], vm := .none },
  { cls := 8, slots := #[.long (-46)], vm := .none },
  { cls := 8, slots := #[.long (-45)], vm := .none },
  { cls := 8, slots := #[.long (-44)], vm := .none },
  { cls := 8, slots := #[.long (-43)], vm := .none },
  { cls := 8, slots := #[.long (-42)], vm := .none },
  { cls := 8, slots := #[.long (-41)], vm := .none },
  { cls := 8, slots := #[.long (-40)], vm := .none },
  { cls := 8, slots := #[.long (-39)], vm := .none },
  { cls := 8, slots := #[.long (-38)], vm := .none },
  { cls := 8, slots := #[.long (-37)], vm := .none },
  { cls := 8, slots := #[.long (-36)], vm := .none },
  { cls := 8, slots := #[.long (-35)], vm := .none },
  { cls := 8, slots := #[.long (-34)], vm := .none },
  { cls := 8, slots := #[.long (-33)], vm := .none },
  { cls := 8, slots := #[.long (-32)], vm := .none },
  { cls := 8, slots := #[.long (-31)], vm := .none },
  { cls := 8, slots := #[.long (-30)], vm := .none },
  { cls := 8, slots := #[.long (-29)], vm := .none },
  { cls := 8, slots := #[.long (-28)], vm := .none },
  { cls := 8, slots := #[.long (-27)], vm := .none },
  { cls := 8, slots := #[.long (-26)], vm := .none },
  { cls := 8, slots := #[.long (-25)], vm := .none },
  { cls := 8, slots := #[.long (-24)], vm := .none },
  { cls := 8, slots := #[.long (-23)], vm := .none },
  { cls := 8, slots := #[.long (-22)], vm := .none },
  { cls := 8, slots := #[.long (-21)], vm := .none },
  { cls := 8, slots := #[.long (-20)], vm := .none },
  { cls := 8, slots := #[.long (-19)], vm := .none },
  { cls := 8, slots := #[.long (-18)], vm := .none },
  { cls := 8, slots := #[.long (-17)], vm := .none },
  { cls := 8, slots := #[.long (-16)], vm := .none },
  { cls := 8, slots := #[.long (-15)], vm := .none },
  { cls := 8, slots := #[.long (-14)], vm := .none },
  { cls := 8, slots := #[.long (-13)], vm := .none },
  { cls := 8, slots := #[.long (-12)], vm := .none },
  { cls := 8, slots := #[.long (-11)], vm := .none },
  { cls := 8, slots := #[.long (-10)], vm := .none },
  { cls := 8, slots := #[.long (-9)], vm := .none },
  { cls := 8, slots := #[.long (-8)], vm := .none },
  { cls := 8, slots := #[.long (-7)], vm := .none },
  { cls := 8, slots := #[.long (-6)], vm := .none },
  { cls := 8, slots := #[.long (-5)], vm := .none },
  { cls := 8, slots := #[.long (-4)], vm := .none },
  { cls := 8, slots := #[.long (-3)], vm := .none },
  { cls := 8, slots := #[.long (-2)], vm := .none },
  { cls := 8, slots := #[.long (-1)], vm := .none },
  { cls := 8, slots := #[.long (0)], vm := .none },
  { cls := 8, slots := #[.long (1)], vm := .none },
  { cls := 8, slots := #[.long (2)], vm := .none },
  { cls := 8, slots := #[.long (3)], vm := .none },
  { cls := 8, slots := #[.long (4)], vm := .none },
  { cls := 8, slots := #[.long (5)], vm := .none },
  { cls := 8, slots := #[.long (6)], vm := .none },
  { cls := 8, slots := #[.long (7)], vm := .none },
  { cls := 8, slots := #[.long (8)], vm := .none },
  { cls := 8, slots := #[.long (9)], vm := .none },
  { cls := 8, slots := #[.long (10)], vm := .none },
  { cls := 8, slots := #[.long (11)], vm := .none },
  { cls := 8, slots := #[.long (12)], vm := .none },
  { cls := 8, slots := #[.long (13)], vm := .none },
  { cls := 8, slots := #[.long (14)], vm := .none },
  { cls := 8, slots := #[.long (15)], vm := .none },
  { cls := 8, slots := #[.long (16)], vm := .none },
  { cls := 8, slots := #[.long (17)], vm := .none },
  { cls := 8, slots := #[.long (18)], vm := .none },
  { cls := 8, slots := #[.long (19)], vm := .none },
  { cls := 8, slots := #[.long (20)], vm := .none },
  { cls := 8, slots := #[.long (21)], vm := .none },
  { cls := 8, slots := #[.long (22)], vm := .none },
  { cls := 8, slots := #[.long (23)], vm := .none },
  { cls := 8, slots := #[.long (24)], vm := .none },
  { cls := 8, slots := #[.long (25)], vm := .none },
  { cls := 8, slots := #[.long (26)], vm := .none },
  { cls := 8, slots := #[.long (27)], vm := .none },
  { cls := 8, slots := #[.long (28)], vm := .none },
  { cls := 8, slots := #[.long (29)], vm := .none },
  { cls := 8, slots := #[.long (30)], vm := .none },
  { cls := 8, slots := #[.long (31)], vm := .none },
  { cls := 8, slots := #[.long (32)], vm := .none },
  { cls := 8, slots := #[.long (33)], vm := .none },
  { cls := 8, slots := #[.long (34)], vm := .none },
  { cls := 8, slots := #[.long (35)], vm := .none },
  { cls := 8, slots := #[.long (36)], vm := .none },
  { cls := 8, slots := #[.long (37)], vm := .none },
  { cls := 8, slots := #[.long (38)], vm := .none },
  { cls := 8, slots := #[.long (39)], vm := .none },
  { cls := 8, slots := #[.long (40)], vm := .none },
  { cls := 8, slots := #[.long (41)], vm := .none },
  { cls := 8, slots := #[.long (42)], vm := .none },
  { cls := 8, slots := #[.long (43)], vm := .none },
  { cls := 8, slots := #[.long (44)], vm := .none },
  { cls := 8, slots := #[.long (45)], vm := .none },
  { cls := 8, slots := #[.long (46)], vm := .none },
  { cls := 8, slots := #[.long (47)], vm := .none },
  { cls := 8, slots := #[.long (48)], vm := .none },
  { cls := 8, slots := #[.long (49)], vm := .none },
  { cls := 8, slots := #[.long (50)], vm := .none },
  { cls := 8, slots := #[.long (51)], vm := .none },
  { cls := 8, slots := #[.long (52)], vm := .none },
  { cls := 8, slots := #[.long (53)], vm := .none },
  { cls := 8, slots := #[.long (54)], vm := .none },
  { cls := 8, slots := #[.long (55)], vm := .none },
  { cls := 8, slots := #[.long (56)], vm := .none },
  { cls := 8, slots := #[.long (57)], vm := .none },
  { cls := 8, slots := #[.long (58)], vm := .none },
  { cls := 8, slots := #[.long (59)], vm := .none },
  { cls := 8, slots := #[.long (60)], vm := .none },
  { cls := 8, slots := #[.long (61)], vm := .none },
  { cls := 8, slots := #[.long (62)], vm := .none },
  { cls := 8, slots := #[.long (63)], vm := .none },
  { cls := 8, slots := #[.long (64)], vm := .none },
  { cls := 8, slots := #[.long (65)], vm := .none },
  { cls := 8, slots := #[.long (66)], vm := .none },
  { cls := 8, slots := #[.long (67)], vm := .none },
  { cls := 8, slots := #[.long (68)], vm := .none },
  { cls := 8, slots := #[.long (69)], vm := .none },
  { cls := 8, slots := #[.long (70)], vm := .none },
  { cls := 8, slots := #[.long (71)], vm := .none },
  { cls := 8, slots := #[.long (72)], vm := .none },
  { cls := 8, slots := #[.long (73)], vm := .none },
  { cls := 8, slots := #[.long (74)], vm := .none },
  { cls := 8, slots := #[.long (75)], vm := .none },
  { cls := 8, slots := #[.long (76)], vm := .none },
  { cls := 8, slots := #[.long (77)], vm := .none },
  { cls := 8, slots := #[.long (78)], vm := .none },
  { cls := 8, slots := #[.long (79)], vm := .none },
  { cls := 8, slots := #[.long (80)], vm := .none },
  { cls := 8, slots := #[.long (81)], vm := .none },
  { cls := 8, slots := #[.long (82)], vm := .none },
  { cls := 8, slots := #[.long (83)], vm := .none },
  { cls := 8, slots := #[.long (84)], vm := .none },
  { cls := 8, slots := #[.long (85)], vm := .none },
  { cls := 8, slots := #[.long (86)], vm := .none },
  { cls := 8, slots := #[.long (87)], vm := .none },
  { cls := 8, slots := #[.long (88)], vm := .none },
  { cls := 8, slots := #[.long (89)], vm := .none },
  { cls := 8, slots := #[.long (90)], vm := .none },
  { cls := 8, slots := #[.long (91)], vm := .none },
  { cls := 8, slots := #[.long (92)], vm := .none },
  { cls := 8, slots := #[.long (93)], vm := .none },
  { cls := 8, slots := #[.long (94)], vm := .none },
  { cls := 8, slots := #[.long (95)], vm := .none },
  { cls := 8, slots := #[.long (96)], vm := .none },
  { cls := 8, slots := #[.long (97)], vm := .none },
  { cls := 8, slots := #[.long (98)], vm := .none },
  { cls := 8, slots := #[.long (99)], vm := .none },
  { cls := 8, slots := #[.long (100)], vm := .none },
  { cls := 8, slots := #[.long (101)], vm := .none },
  { cls := 8, slots := #[.long (102)], vm := .none },
  { cls := 8, slots := #[.long (103)], vm := .none },
  { cls := 8, slots := #[.long (104)], vm := .none },
  { cls := 8, slots := #[.long (105)], vm := .none },
  { cls := 8, slots := #[.long (106)], vm := .none },
  { cls := 8, slots := #[.long (107)], vm := .none },
  { cls := 8, slots := #[.long (108)], vm := .none },
  { cls := 8, slots := #[.long (109)], vm := .none },
  { cls := 8, slots := #[.long (110)], vm := .none },
  { cls := 8, slots := #[.long (111)], vm := .none },
  { cls := 8, slots := #[.long (112)], vm := .none },
  { cls := 8, slots := #[.long (113)], vm := .none },
  { cls := 8, slots := #[.long (114)], vm := .none },
  { cls := 8, slots := #[.long (115)], vm := .none },
  { cls := 8, slots := #[.long (116)], vm := .none },
  { cls := 8, slots := #[.long (117)], vm := .none },
  { cls := 8, slots := #[.long (118)], vm := .none },
  { cls := 8, slots := #[.long (119)], vm := .none },
  { cls := 8, slots := #[.long (120)], vm := .none },
  { cls := 8, slots := #[.long (121)], vm := .none },
  { cls := 8, slots := #[.long (122)], vm := .none },
  { cls := 8, slots := #[.long (123)], vm := .none },
  { cls := 8, slots := #[.long (124)], vm := .none },
  { cls := 8, slots := #[.long (125)], vm := .none },
  { cls := 8, slots := #[.long (126)], vm := .none },
  { cls := 8, slots := #[.long (127)], vm := .none }]
def classes : Array Class := #[k0, k1, k2, k3, k4, k5, k6, k7, k8, k9, k10, k11, k12, k13, k14, k15]
def interned : List (Array UInt16 × Addr) := []
def slotsUsed : Nat := 515
def theMethod : MethodId := ⟨1, 1⟩
def args0 : Array Value := #[.long 500, .int 2, .long 3, .int 4, .int 0]
def aboutOver (below : List Frame) : State where
  vm := { classes := classes, interned := interned.toArray }
  heap := heap
  slotsUsed := slotsUsed
  threads := #[{ frames := .invoking theMethod args0 :: below }]
def below0 : List Frame := [.native { method := ⟨0, 0⟩, args := #[] }]
def about1 : State := aboutOver below0
def p0 : Program := .bare "" "" ""
def e0 : Env := launch0.env 0 0 0
theorem w_frames : about1.frames = Frame.invoking theMethod args0 :: below0 := rfl
set_option maxRecDepth 65536 in
theorem w_args : argsFit about1.vm theMethod args0 = true := by decide +kernel
set_option maxRecDepth 65536 in
theorem w_heap : heapFits about1 = true := by decide +kernel
set_option maxRecDepth 65536 in
theorem w_runnable : about1.curStatus? = some .runnable := by decide +kernel
set_option maxRecDepth 65536 in
theorem w_alone : about1.alone = true := by decide +kernel
set_option maxRecDepth 65536 in
theorem w_named : about1.methodNamed? x = some theMethod := by decide +kernel
set_option maxRecDepth 65536 in
theorem w_hears : about1.hears theMethod below0 = true := by decide +kernel
set_option maxRecDepth 65536 in
theorem w_ripe : about1.ripe theMethod args0 below0 = true := by decide +kernel
theorem w_running : about1.status = .running := rfl
set_option maxRecDepth 65536 in
theorem w_room : about1.hasRoom e0.platform room_1 = true :=
  launch0.hasRoom_least _ room_1 (by decide +kernel) (by decide +kernel) (by decide +kernel) (by decide +kernel) (by decide +kernel) (by decide +kernel)
theorem allAtoms_all (ts : List Jvm.Cond) (a : Array Jvm.Value) (st : Jvm.State) : (allAtoms ts).before a st = ts.all (fun c => c.before a st) := by
  induction ts with
  | nil => rfl
  | cons c t ih =>
    show (Jvm.Cond.and c (allAtoms t)).before a st = _
    rw [Jvm.Cond.before_and, ih, List.all_cons]
def words1 : List Jvm.Cond := Jvm.Cond.code x code maxLocals ret :: tables_1
/-- a 'code' word, met by the world's own term for the bytes: nothing is compared byte by byte -/
theorem code_word {y : MethodName} {bytes : ByteArray} {mx : Nat} {rt : Option FieldType} {a : Array Value} {s : State} {m : MethodId} {meth : Method} {c : Code} (h1 : s.methodNamed? y = some m) (h2 : s.vm.method? m = some meth) (h3 : meth.code = some c) (h4 : c.code = bytes)
    (h5 : (c.maxLocals == mx && c.exceptionTable.isEmpty && decide (c.maxStack ≤ mostOperands) && decide (meth.sig.returnType = rt) && !meth.locks && decide (parseMethodDescriptor y.desc = some meth.sig)) = true) : (Jvm.Cond.code y bytes mx rt).before a s = true := by
  simp only [Bool.and_eq_true, beq_iff_eq, Bool.not_eq_true', decide_eq_true_eq] at h5
  obtain ⟨⟨⟨⟨⟨g1, g2⟩, g3⟩, g4⟩, g5⟩, g6⟩ := h5
  simp [Cond.before, Cond.holds, Cond.value, h1, h2, h3, h4, g1, g2, g3, g4, g5, g6]
def isCode : Jvm.Cond → Bool
  | .code _ _ _ _ => true
  | _ => false
theorem all_split {L : List Jvm.Cond} {P : Jvm.Cond → Bool} (h1 : L.all (fun c => isCode c || P c) = true) (h2 : ∀ c ∈ L.filter isCode, P c = true) : L.all P = true := by
  refine List.all_eq_true.mpr fun c hc => ?_
  have h := List.all_eq_true.mp h1 c hc
  rcases Bool.eq_false_or_eq_true (isCode c) with hi | hi
  · exact h2 c (List.mem_filter.mpr ⟨hc, hi⟩)
  · simpa [hi] using h
set_option maxRecDepth 65536 in
theorem w_c0 : (Jvm.Cond.code x code maxLocals ret).before args0 about1 = true := code_word (m := ⟨1, 1⟩) (meth := k1m1) (c := k1c1) (by decide +kernel) rfl rfl rfl (by decide +kernel)
set_option maxRecDepth 65536 in
theorem w_c1 : (Jvm.Cond.code ({ cls := "com/example/tidy_commit/tidycommit/client/PreparedTxnState", name := "<init>", desc := "(JS)V" } : Jvm.MethodName) prog_7_method_2_code (5 : Nat) (Option.none : Option Jvm.ClassFile.FieldType)).before args0 about1 = true := code_word (m := ⟨2, 1⟩) (meth := k2m1) (c := k2c1) (by decide +kernel) rfl rfl rfl (by decide +kernel)
set_option maxRecDepth 65536 in
theorem w_c2 : (Jvm.Cond.code ({ cls := "java/lang/Object", name := "<init>", desc := "()V" } : Jvm.MethodName) object_method_1_code (1 : Nat) (Option.none : Option Jvm.ClassFile.FieldType)).before args0 about1 = true := code_word (m := ⟨0, 0⟩) (meth := k0m0) (c := k0c0) (by decide +kernel) rfl rfl rfl (by decide +kernel)
set_option maxRecDepth 65536 in
theorem w_c3 : (Jvm.Cond.code ({ cls := "java/lang/Long", name := "valueOf", desc := "(J)Ljava/lang/Long;" } : Jvm.MethodName) jdk_35_method_24_code (3 : Nat) (Option.some (Jvm.ClassFile.FieldType.object "java/lang/Long"))).before args0 about1 = true := code_word (m := ⟨8, 0⟩) (meth := k8m0) (c := k8c0) (by decide +kernel) rfl rfl rfl (by decide +kernel)
set_option maxRecDepth 65536 in
theorem w_c4 : (Jvm.Cond.code ({ cls := "com/example/tidy_commit/tidycommit/client/PreparedTxnState", name := "equals", desc := "(Ljava/lang/Object;)Z" } : Jvm.MethodName) prog_7_method_6_code (3 : Nat) (Option.some Jvm.ClassFile.FieldType.boolean)).before args0 about1 = true := code_word (m := ⟨2, 2⟩) (meth := k2m2) (c := k2c2) (by decide +kernel) rfl rfl rfl (by decide +kernel)
set_option maxRecDepth 65536 in
theorem w_c5 : (Jvm.Cond.code ({ cls := "java/lang/Long", name := "<init>", desc := "(J)V" } : Jvm.MethodName) jdk_35_method_26_code (3 : Nat) (Option.none : Option Jvm.ClassFile.FieldType)).before args0 about1 = true := code_word (m := ⟨8, 1⟩) (meth := k8m1) (c := k8c1) (by decide +kernel) rfl rfl rfl (by decide +kernel)
set_option maxRecDepth 65536 in
theorem w_c6 : (Jvm.Cond.code ({ cls := "java/lang/Number", name := "<init>", desc := "()V" } : Jvm.MethodName) jdk_18_method_1_code (1 : Nat) (Option.none : Option Jvm.ClassFile.FieldType)).before args0 about1 = true := code_word (m := ⟨4, 0⟩) (meth := k4m0) (c := k4c0) (by decide +kernel) rfl rfl rfl (by decide +kernel)
def codes1 : List Jvm.Cond := [Jvm.Cond.code x code maxLocals ret, Jvm.Cond.code ({ cls := "com/example/tidy_commit/tidycommit/client/PreparedTxnState", name := "<init>", desc := "(JS)V" } : Jvm.MethodName) prog_7_method_2_code (5 : Nat) (Option.none : Option Jvm.ClassFile.FieldType), Jvm.Cond.code ({ cls := "java/lang/Object", name := "<init>", desc := "()V" } : Jvm.MethodName) object_method_1_code (1 : Nat) (Option.none : Option Jvm.ClassFile.FieldType), Jvm.Cond.code ({ cls := "java/lang/Long", name := "valueOf", desc := "(J)Ljava/lang/Long;" } : Jvm.MethodName) jdk_35_method_24_code (3 : Nat) (Option.some (Jvm.ClassFile.FieldType.object "java/lang/Long")), Jvm.Cond.code ({ cls := "com/example/tidy_commit/tidycommit/client/PreparedTxnState", name := "equals", desc := "(Ljava/lang/Object;)Z" } : Jvm.MethodName) prog_7_method_6_code (3 : Nat) (Option.some Jvm.ClassFile.FieldType.boolean), Jvm.Cond.code ({ cls := "java/lang/Long", name := "<init>", desc := "(J)V" } : Jvm.MethodName) jdk_35_method_26_code (3 : Nat) (Option.none : Option Jvm.ClassFile.FieldType), Jvm.Cond.code ({ cls := "java/lang/Number", name := "<init>", desc := "()V" } : Jvm.MethodName) jdk_18_method_1_code (1 : Nat) (Option.none : Option Jvm.ClassFile.FieldType)]
set_option maxRecDepth 65536 in
theorem codes_eq : words1.filter isCode = codes1 := rfl
theorem w_codes : ∀ c ∈ words1.filter isCode, c.before args0 about1 = true := by
  rw [codes_eq]
  intro c hc
  simp only [codes1, List.mem_cons, List.not_mem_nil, or_false] at hc
  rcases hc with rfl | rfl | rfl | rfl | rfl | rfl | rfl
  · exact w_c0
  · exact w_c1
  · exact w_c2
  · exact w_c3
  · exact w_c4
  · exact w_c5
  · exact w_c6
set_option maxRecDepth 65536 in
theorem w_t1 : (words1.take 24).all (fun c => isCode c || c.before args0 about1) = true := by decide +kernel
set_option maxRecDepth 65536 in
theorem w_t2 : ((words1.drop 24).take 24).all (fun c => isCode c || c.before args0 about1) = true := by decide +kernel
set_option maxRecDepth 65536 in
theorem w_t3 : ((words1.drop 24).drop 24).all (fun c => isCode c || c.before args0 about1) = true := by decide +kernel
theorem w_tables : (allAtoms (Jvm.Cond.code x code maxLocals ret :: tables_1)).before args0 about1 = true := by
  rw [allAtoms_all]
  show words1.all (fun c => c.before args0 about1) = true
  refine all_split ?_ w_codes
  rw [← List.take_append_drop 24 words1, List.all_append, w_t1, ← List.take_append_drop 24 (words1.drop 24), List.all_append, w_t2, w_t3]
  rfl
set_option maxRecDepth 65536 in
theorem w_rest : rest_1_c.before args0 about1 = true := by decide +kernel
set_option maxRecDepth 65536 in
theorem w_case : (Jvm.Cond.and given_1 narrow_1).before args0 about1 = true := by decide +kernel
theorem w_applies : (headSpec (Jvm.Cond.code x code maxLocals ret :: tables_1) room_1).applies x e0.platform about1 = true :=
  (Spec.applies_iff w_frames).mpr ⟨w_running, w_runnable, w_alone, w_named, w_hears, w_ripe, w_room, w_tables⟩
theorem atStart : AtStart classFile x code maxLocals ret World_1 tables_1 room_1 Calls_1 rest_1 Pre_1 launch0 p0 e0 about1 theMethod args0 below0 :=
  ⟨lists_1, trivial, launch0.admits_env _ _ _, launch0.least_env, fairChoices_fair.cas, fairChoices_fair.clock, w_frames, w_args, w_heap, w_applies, trivial, w_rest, w_case⟩
end start1
theorem witness_1 : WitnessClaimed_1 := ⟨start1.p0, start1.e0, start1.about1, start1.theMethod, start1.args0, start1.below0, start1.atStart⟩
end Jvm.Pilot.@@N@@
