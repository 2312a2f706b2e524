import JvmDerived
import JvmDerived.Pilot.@@N@@Statement
import JvmDerived.Pilot.@@N@@Code
set_option linter.unusedVariables false
set_option linter.unusedSimpArgs false
set_option maxRecDepth 65536
namespace Jvm.RoadKit
open Sem ClassFile Op Lib Jvm.Stand Jvm.Free Jvm.LawKit
section New
variable {p : Program} {l : Launch} {e : Env} {R : Room} {s : State} {m : MethodId} {args : Array Value} {below : List Frame} {meth : Method} {c : Code} {T : State} {locs : List Loc} {cells slots : Nat}
theorem retI (X : Stand p l e R s m args below meth c T locs cells slots) (hx : p.tables.exec = Jvm.exec) {pc : Nat} {Ls : Array Slot} {z : Int32} {rest : List Value} (hret : meth.sig.returnType = some .int) (hd : decode c.code pc = .ok (.ireturn, 1)) {fs : List Frame}
    (hl : ∀ (f : JFrame) (acts : List Action), f.method = m → f.locked = none → f.entered = [] → (doReturn e (T.setTop f) acts (some (.int z))).1 = T.setFrames fs) : Steps p.tables e below (T.setTop (mkF m pc Ls (.int z :: rest))) (T.setFrames fs) := by
  have hm' : T.vm.method? m = some meth := X.method'
  have hn : narrow .int (.int z) = .int z := rfl
  show Steps p.tables e below (T.setTop { method := m, pc := pc, locals := Ls, stack := _ :: rest, locked := none }) _
  jvm_step X.here [X.here.top, hx, hd, hm', hret, hn]
  first | (intro acts; rw [hl _ acts rfl rfl rfl]) | rw [hl _ _ rfl rfl rfl]
  exact Steps.refl _
end New
end Jvm.RoadKit
namespace Jvm.Pilot.@@N@@
open Jvm Jvm.ClassFile Sem Op Lib Jvm.Free Jvm.Stand Jvm.LawKit Jvm.RoadKit Bundle Jvm.Pilot.@@N@@.Jvm.D
theorem d1_0 : decode prog_29_method_2_code 0 = .ok (.iload_n 0, 1) := by decide +kernel
theorem d1_1 : decode prog_29_method_2_code 1 = .ok (.bipush 6, 2) := by decide +kernel
theorem d1_3 : decode prog_29_method_2_code 3 = .ok (.if_icmp .eq 15, 3) := by decide +kernel
theorem d1_6 : decode prog_29_method_2_code 6 = .ok (.iload_n 0, 1) := by decide +kernel
theorem d1_7 : decode prog_29_method_2_code 7 = .ok (.bipush 8, 2) := by decide +kernel
theorem d1_9 : decode prog_29_method_2_code 9 = .ok (.if_icmp .eq 9, 3) := by decide +kernel
theorem d1_12 : decode prog_29_method_2_code 12 = .ok (.iload_n 0, 1) := by decide +kernel
theorem d1_13 : decode prog_29_method_2_code 13 = .ok (.bipush 10, 2) := by decide +kernel
theorem d1_15 : decode prog_29_method_2_code 15 = .ok (.if_icmp .ne 7, 3) := by decide +kernel
theorem d1_22 : decode prog_29_method_2_code 22 = .ok (.iconst 0, 1) := by decide +kernel
theorem d1_18 : decode prog_29_method_2_code 18 = .ok (.iconst 2, 1) := by decide +kernel
theorem d1_19 : decode prog_29_method_2_code 19 = .ok (.goto 4, 3) := by decide +kernel
theorem d1_23 : decode prog_29_method_2_code 23 = .ok (.ireturn, 1) := by decide +kernel
def own_f1_23 (p1 : Int32) (u0 : Int32) : Int32 := u0
def own_f1_18 (p1 : Int32) : Int32 := (own_f1_23 p1 (2 : Int32))
def own_f1 (p1 : Int32) : Int32 := (if p1 = (6 : Int32) then (own_f1_18 p1) else (if p1 = (8 : Int32) then (own_f1_18 p1) else (if p1 = (10 : Int32) then (own_f1_18 p1) else (own_f1_23 p1 (0 : Int32)))))
theorem pn_0 : plainName "com/example/oblivious/oblivious/codec/PacketType" = true := by first | (simp [plainName, overriddenIn]; done) | decide +kernel
theorem ef_rm1 (m : MethodId) (x0 : Int32) : entryFrame m #[(.int x0)] 1 = mkF m 0 #[.val (.int x0)] [] := by first | (simp [entryFrame, mkF, argsToLocals, Value.category]; done) | rfl
def Q1 (Z : State) (p1 : Int32) (h0 : Heap) (n0 : Nat) (v : Option Value) (h : Heap) (L : List Loc) : Prop := v = some (.int (own_f1 p1)) ∧ Fr n0 L ∧ h = h0
set_option maxHeartbeats 40000000 in
theorem rm1 (l : Launch) (Z : State) (a0 : Array Value) (hw : ∀ d ∈ tables_1, d.before a0 Z = true) (ws : List Jvm.Cond) (p1 : Int32) (h0 : Heap) (n0 : Nat) (Z0 : n0 ≤ h0.size) :
    MetFree l (⟨"com/example/oblivious/oblivious/codec/PacketType", "flags", "(I)I"⟩ : MethodName) (head1 (Jvm.Cond.code (⟨"com/example/oblivious/oblivious/codec/PacketType", "flags", "(I)I"⟩ : MethodName) prog_29_method_2_code 1 (some .int) :: ws) ({ frames := 0, cells := 0, slots := 0, locals := 0 } : Room)) (fun a U => a = #[(.int p1)] ∧ Z.Warmed39 U.vm ∧ U.heap = h0) (fun _ _ _ _ _ => True) (fun _ U o U' => ∃ v L, o = .returned v ∧ Q1 Z p1 h0 n0 v U'.heap L ∧ FrameEnd U o U' L ({ frames := 0, cells := 0, slots := 0, locals := 0 } : Room).cells ({ frames := 0, cells := 0, slots := 0, locals := 0 } : Room).slots) := by
  refine MetFree.of_bodySF (plainFor_of_name pn_0) hisR ?_
  intro p e s m args below meth c s₁ Bd hml0 hP hK
  obtain ⟨rfl, hZ, hh⟩ := hP
  have hx := Bd.exec
  have hby := Bd.bytes
  have hml : c.maxLocals = 1 := hml0
  have hown : s.vm.findClass "com/example/oblivious/oblivious/codec/PacketType" = some m.cls := findClass_of_methodNamed Bd.named
  have hnm := (name_of_methodNamed Bd.named Bd.method).1
  have X0 : Stand p l e ({ frames := 0, cells := 0, slots := 0, locals := 0 } : Room) s m #[(.int p1)] below meth c s₁ [] 0 0 := Stand.of_body Bd
  have e0 : s₁.heap = h0 := by rw [← hh, Bd.state]; rfl
  have N0 := Fr.nil n0
  have pre0 : ∀ tgt, Steps p.tables e below (s₁.setTop (mkF m 0 #[.val (.int p1)] [])) tgt → Steps p.tables e below (s₁.setTop (entryFrame m #[(.int p1)] 1)) tgt := fun tgt k => castTop (ef_rm1 m p1) k
  obtain ⟨fs, hr, hrun, hended, hW, hsame⟩ := X0.leave (v := some (.int (own_f1 p1))) (fun h => by rw [Bd.returns] at h; cases h)
  refine ⟨_, _, pre0 _ ?_, hrun, hended, _, _, rfl, ?_, ⟨_, rfl⟩, hW, hsame.mono (by decide) (by decide)⟩
  · have s_23 : ∀ (u0 : Int32), own_f1_23 p1 u0 = own_f1 p1 → Steps p.tables e below (s₁.setTop (mkF m 23 #[.val (.int p1)] [(.int u0)])) (s₁.setFrames fs) := by
      intro u0 hV
      show Steps p.tables e below (s₁.setTop (mkF m 23 #[.val (.int p1)] [(.int u0)])) _
      have he : u0 = own_f1 p1 := Eq.trans (by rw [own_f1_23]) hV
      rw [← he] at hr
      exact retI X0 hx Bd.returns (hb hby d1_23) hr
    have s_18 : own_f1_18 p1  = own_f1 p1 → Steps p.tables e below (s₁.setTop (mkF m 18 #[.val (.int p1)] [])) (s₁.setFrames fs) := by
      intro  hV
      show Steps p.tables e below (s₁.setTop (mkF m 18 #[.val (.int p1)] [])) _
      refine XS.iconst X0.here hx rfl (hb hby d1_18) ?_
      show Steps p.tables e below (s₁.setTop (mkF m 19 #[.val (.int p1)] [(.int (2 : Int32))])) _
      refine XS.goto X0.here hx rfl (pc0 := 19) (pc' := 23) rfl (hb hby d1_19) (by decide) (by decide) ?_
      exact s_23 (2 : Int32) (Eq.trans (by rw [own_f1_18]) hV)
    have s_0 : own_f1 p1  = own_f1 p1 → Steps p.tables e below (s₁.setTop (mkF m 0 #[.val (.int p1)] [])) (s₁.setFrames fs) := by
      intro  hV
      show Steps p.tables e below (s₁.setTop (mkF m 0 #[.val (.int p1)] [])) _
      refine XS.iloadN X0.here hx rfl (hb hby d1_0) rfl ?_
      show Steps p.tables e below (s₁.setTop (mkF m 1 #[.val (.int p1)] [(.int p1)])) _
      refine XS.bipush X0.here hx rfl (hb hby d1_1) ?_
      by_cases h3 : p1 = (6 : Int32)
      · show Steps p.tables e below (s₁.setTop (mkF m 3 #[.val (.int p1)] [(.int (6 : Int32)), (.int p1)])) _
        refine XS.icmpYes X0.here hx rfl (pc0 := 3) (pc' := 18) rfl (hb hby d1_3) rfl (teq h3).1 (by decide) (by decide) ?_
        exact s_18  (Eq.trans (by rw [own_f1, if_pos h3]) hV)
      · show Steps p.tables e below (s₁.setTop (mkF m 3 #[.val (.int p1)] [(.int (6 : Int32)), (.int p1)])) _
        refine XS.icmpNo X0.here hx rfl (hb hby d1_3) rfl (feq h3).1 ?_
        show Steps p.tables e below (s₁.setTop (mkF m 6 #[.val (.int p1)] [])) _
        refine XS.iloadN X0.here hx rfl (hb hby d1_6) rfl ?_
        show Steps p.tables e below (s₁.setTop (mkF m 7 #[.val (.int p1)] [(.int p1)])) _
        refine XS.bipush X0.here hx rfl (hb hby d1_7) ?_
        by_cases h9 : p1 = (8 : Int32)
        · show Steps p.tables e below (s₁.setTop (mkF m 9 #[.val (.int p1)] [(.int (8 : Int32)), (.int p1)])) _
          refine XS.icmpYes X0.here hx rfl (pc0 := 9) (pc' := 18) rfl (hb hby d1_9) rfl (teq h9).1 (by decide) (by decide) ?_
          exact s_18  (Eq.trans (by rw [own_f1, if_neg h3, if_pos h9]) hV)
        · show Steps p.tables e below (s₁.setTop (mkF m 9 #[.val (.int p1)] [(.int (8 : Int32)), (.int p1)])) _
          refine XS.icmpNo X0.here hx rfl (hb hby d1_9) rfl (feq h9).1 ?_
          show Steps p.tables e below (s₁.setTop (mkF m 12 #[.val (.int p1)] [])) _
          refine XS.iloadN X0.here hx rfl (hb hby d1_12) rfl ?_
          show Steps p.tables e below (s₁.setTop (mkF m 13 #[.val (.int p1)] [(.int p1)])) _
          refine XS.bipush X0.here hx rfl (hb hby d1_13) ?_
          by_cases h15 : p1 = (10 : Int32)
          · show Steps p.tables e below (s₁.setTop (mkF m 15 #[.val (.int p1)] [(.int (10 : Int32)), (.int p1)])) _
            refine XS.icmpNo X0.here hx rfl (hb hby d1_15) rfl (teq h15).2 ?_
            exact s_18  (Eq.trans (by rw [own_f1, if_neg h3, if_neg h9, if_pos h15]) hV)
          · show Steps p.tables e below (s₁.setTop (mkF m 15 #[.val (.int p1)] [(.int (10 : Int32)), (.int p1)])) _
            refine XS.icmpYes X0.here hx rfl (pc0 := 15) (pc' := 22) rfl (hb hby d1_15) rfl (feq h15).2 (by decide) (by decide) ?_
            show Steps p.tables e below (s₁.setTop (mkF m 22 #[.val (.int p1)] [])) _
            refine XS.iconst X0.here hx rfl (hb hby d1_22) ?_
            exact s_23 (0 : Int32) (Eq.trans (by rw [own_f1, if_neg h3, if_neg h9, if_neg h15]) hV)
    exact s_0 rfl
  · show Q1 Z p1 h0 n0 _ s₁.heap _
    rw [e0]
    exact ⟨rfl, N0, rfl⟩
theorem own_and (x m : Int32) (hm : 0 ≤ m.toInt) : 0 ≤ (x &&& m).toInt ∧ (x &&& m).toInt ≤ m.toInt := by
  have e : (x &&& m).toBitVec.toNat = x.toBitVec.toNat &&& m.toBitVec.toNat := by simp
  have h1 : (x &&& m).toBitVec.toNat ≤ m.toBitVec.toNat := by rw [e]; exact Nat.and_le_right
  have h2 := m.toBitVec.isLt
  rw [← Int32.toInt_toBitVec, BitVec.toInt_eq_toNat_cond] at hm ⊢
  rw [← Int32.toInt_toBitVec m, BitVec.toInt_eq_toNat_cond]
  generalize (x &&& m).toBitVec.toNat = a at *
  generalize m.toBitVec.toNat = b at *
  split at hm
  · split <;> omega
  · omega
theorem own_of (t : Int32) (n : Nat) (h0 : 0 ≤ t.toInt) (h1 : t.toInt < n) (hn : n ≤ 2 ^ 31) : ∃ k, k < n ∧ t = Int32.ofNat k ∧ t.toNatClampNeg = k := by
  refine ⟨t.toInt.toNat, by omega, ?_, ?_⟩
  · apply Int32.toInt_inj.1
    rw [Int32.toInt_ofNat_of_lt (by omega)]
    omega
  · rfl
theorem own_flags (x : Int32) : own_f1 x = if x = 6 ∨ x = 8 ∨ x = 10 then 2 else 0 := by
  simp only [own_f1_23, own_f1_18, own_f1]
  by_cases h1 : x = 6
  · simp [h1]
  · by_cases h2 : x = 8
    · simp [h2]
    · by_cases h3 : x = 10
      · simp [h3]
      · simp [h1, h2, h3]
theorem own_r2 {x : Int32} (h : ¬ own_f1 x = 0) : own_f1 x = 2 := by
  rw [own_flags] at h ⊢
  split at h
  · rename_i q; rw [if_pos q]
  · exact absurd rfl h
theorem own_r0 {x : Int32} (h : own_f1 x = 0) : ¬ own_f1 x = 2 := by rw [h]; decide
theorem own_m {x : Int32} (h : ¬ own_f1 x = 0) : x &&& (-16) = 0 := by
  rw [own_flags] at h
  split at h
  · rename_i q; rcases q with rfl | rfl | rfl <;> decide
  · exact absurd rfl h
theorem own_t0 (x : Int32) : 0 ≤ (x &&& 15).toInt ∧ (x &&& 15).toInt < 16 := by
  have h := own_and x 15 (by decide)
  have e : (15 : Int32).toInt = 15 := by decide
  omega
theorem own_t1 (x : Int32) : ¬ (x &&& 15) < 0 ∧ (x &&& 15) < 16 := by
  have h := own_t0 x
  rw [Int32.lt_iff_toInt_lt, Int32.lt_iff_toInt_lt]
  have e : (16 : Int32).toInt = 16 := by decide
  have e0 : (0 : Int32).toInt = 0 := by decide
  omega
def own_tab (t : Int32) : Int32 := ([0, 0, 0, 0, 0, 0, 2, 0, 2, 0, 2, 0, 0, 0, 0, 0] : List Int32).getD t.toNatClampNeg 0
theorem own_getd (l : List Int32) (k : Nat) : (l.map Value.int).getD k (.int 0) = .int (l.getD k 0) := by
  simp only [List.getD_eq_getElem?_getD, List.getElem?_map]
  cases l[k]? <;> rfl
theorem own_eq (x : Int32) : own_f1 (x &&& 15) = own_tab (x &&& 15) := by
  obtain ⟨k, hk, e, e2⟩ := own_of (x &&& 15) 16 (own_t0 x).1 (own_t0 x).2 (by decide)
  unfold own_tab
  rw [e2, e]
  have key : ∀ n : Fin 16, own_f1 (Int32.ofNat n.val) = ([0, 0, 0, 0, 0, 0, 2, 0, 2, 0, 2, 0, 0, 0, 0, 0] : List Int32).getD n.val 0 := by decide
  exact key ⟨k, hk⟩
theorem pd_0 : parseMethodDescriptor "(I)I" = some ⟨[.int], some .int⟩ := by decide +kernel
theorem pn_1 : plainName "com/example/oblivious/oblivious/codec/PacketTypeFlagsPinLaw" = true := by first | (simp [plainName, overriddenIn]; done) | decide +kernel
theorem ef_rm0 (m : MethodId) (x0 : Int32) : entryFrame m #[(.int x0)] maxLocals = mkF m 0 #[.val (.int x0), .unset, .unset, .unset] [] := by first | (simp [entryFrame, mkF, argsToLocals, Value.category, maxLocals]; done) | rfl
def Q0 (Z : State) (p0 : Int32) (h0 : Heap) (n0 : Nat) (v : Option Value) (h : Heap) (L : List Loc) : Prop := v = some (.int (1 : Int32)) ∧ Fr n0 L
set_option maxHeartbeats 40000000 in
theorem rm0 (l : Launch) (Z : State) (a0 : Array Value) (hw : ∀ d ∈ tables_1, d.before a0 Z = true) (ws : List Jvm.Cond) (p0 : Int32) (h0 : Heap) (n0 : Nat) (Z0 : n0 ≤ h0.size) :
    MetFree l x (head1 (Jvm.Cond.code x code maxLocals ret :: ws) room_1) (fun a U => a = #[(.int p0)] ∧ Z.Warmed39 U.vm ∧ U.heap = h0) (fun _ _ _ _ _ => True) (fun _ U o U' => ∃ v L, o = .returned v ∧ Q0 Z p0 h0 n0 v U'.heap L ∧ FrameEnd U o U' L room_1.cells room_1.slots) := by
  refine MetFree.of_bodySF (plainFor_of_name pn_1) hisR ?_
  intro p e s m args below meth c s₁ Bd hml0 hP hK
  obtain ⟨rfl, hZ, hh⟩ := hP
  have hx := Bd.exec
  have hby := Bd.bytes
  have hml : c.maxLocals = 4 := hml0
  have hown : s.vm.findClass "com/example/oblivious/oblivious/codec/PacketTypeFlagsPinLaw" = some m.cls := findClass_of_methodNamed Bd.named
  have hnm := (name_of_methodNamed Bd.named Bd.method).1
  have X0 : Stand p l e room_1 s m #[(.int p0)] below meth c s₁ [] 0 0 := Stand.of_body Bd
  have e0 : s₁.heap = h0 := by rw [← hh, Bd.state]; rfl
  have N0 := Fr.nil n0
  have pre0 : ∀ tgt, Steps p.tables e below (s₁.setTop (mkF m 0 #[.val (.int p0), .unset, .unset, .unset] [])) tgt → Steps p.tables e below (s₁.setTop (entryFrame m #[(.int p0)] maxLocals)) tgt := fun tgt k => castTop (ef_rm0 m p0) k
  obtain ⟨T1, h1, k1, X1, e1, E1, A1, st1⟩ := newP X0 hx hZ (hw _ (List.mem_of_getElem? (i := 0) rfl)) e0 (g := (mkF m 2 #[.val (.int p0), .unset, .unset, .unset] [(.int (16 : Int32))])) rfl (hb hby at_2) rfl (by decide) (cap := 16) (by decide) (by decide) (by decide) (by decide)
  obtain ⟨b1, g1⟩ : ∃ z, z = h0.size := ⟨_, rfl⟩
  rw [← g1] at A1 st1
  have gn_b1 : n0 ≤ b1 := Nat.le_trans Z0 (Nat.le_of_eq g1.symm)
  have zz2 : n0 ≤ h1.size := Nat.le_trans Z0 E1.1
  have f3 : Arv Z h1 b1 k1 .int (16 : Int32) [(.int (0 : Int32)), (.int (0 : Int32)), (.int (0 : Int32)), (.int (0 : Int32)), (.int (0 : Int32)), (.int (0 : Int32)), (.int (0 : Int32)), (.int (0 : Int32)), (.int (0 : Int32)), (.int (0 : Int32)), (.int (0 : Int32)), (.int (0 : Int32)), (.int (0 : Int32)), (.int (0 : Int32)), (.int (0 : Int32)), (.int (0 : Int32))] (.int (0 : Int32)) := (Arv.new A1 (by decide)).pad (pad_rep [] (.int (0 : Int32)) 16)
  obtain ⟨cl4, Ar4, q4, S4, N4, H4, G4⟩ := id f3
  have hin4 : ¬ ((0 : Int32) < 0 ∨ cl4.slots.size ≤ ((0 : Int32)).toNatClampNeg) := inb_of S4 ⟨by decide, by decide⟩
  obtain ⟨T5, h5, X5, e5, W5, st5⟩ := stI X1 hx hZ e1 Ar4 (j := (0 : Int32)) hin4 (g := (mkF m 7 #[.val (.int p0), .unset, .unset, .unset] [(.int (0 : Int32)), (.int (0 : Int32)), (.ref b1), (.ref b1)])) rfl rfl (hb hby at_7)
  have f6 : Arv Z h5 b1 k1 .int (16 : Int32) [(.int (0 : Int32)), (.int (0 : Int32)), (.int (0 : Int32)), (.int (0 : Int32)), (.int (0 : Int32)), (.int (0 : Int32)), (.int (0 : Int32)), (.int (0 : Int32)), (.int (0 : Int32)), (.int (0 : Int32)), (.int (0 : Int32)), (.int (0 : Int32)), (.int (0 : Int32)), (.int (0 : Int32)), (.int (0 : Int32)), (.int (0 : Int32))] (.int (0 : Int32)) := Arv.set Ar4 q4 S4 N4 H4 G4 rfl W5 0 rfl (Nat.le_of_ble_eq_true rfl)
  have zz7 : n0 ≤ h5.size := Nat.le_trans zz2 (Keep.of_wr W5).1
  have N8 := Fr.snoc X5 N0 gn_b1
  obtain ⟨cl9, Ar9, q9, S9, N9, H9, G9⟩ := id f6
  have hin9 : ¬ ((1 : Int32) < 0 ∨ cl9.slots.size ≤ ((1 : Int32)).toNatClampNeg) := inb_of S9 ⟨by decide, by decide⟩
  obtain ⟨T10, h10, X10, e10, W10, st10⟩ := stI X5 hx hZ e5 Ar9 (j := (1 : Int32)) hin9 (g := (mkF m 11 #[.val (.int p0), .unset, .unset, .unset] [(.int (0 : Int32)), (.int (1 : Int32)), (.ref b1), (.ref b1)])) rfl rfl (hb hby at_11)
  have f11 : Arv Z h10 b1 k1 .int (16 : Int32) [(.int (0 : Int32)), (.int (0 : Int32)), (.int (0 : Int32)), (.int (0 : Int32)), (.int (0 : Int32)), (.int (0 : Int32)), (.int (0 : Int32)), (.int (0 : Int32)), (.int (0 : Int32)), (.int (0 : Int32)), (.int (0 : Int32)), (.int (0 : Int32)), (.int (0 : Int32)), (.int (0 : Int32)), (.int (0 : Int32)), (.int (0 : Int32))] (.int (0 : Int32)) := Arv.set Ar9 q9 S9 N9 H9 G9 rfl W10 1 rfl (Nat.le_of_ble_eq_true rfl)
  have zz12 : n0 ≤ h10.size := Nat.le_trans zz7 (Keep.of_wr W10).1
  have N13 := Fr.snoc X10 N8 gn_b1
  obtain ⟨cl14, Ar14, q14, S14, N14, H14, G14⟩ := id f11
  have hin14 : ¬ ((2 : Int32) < 0 ∨ cl14.slots.size ≤ ((2 : Int32)).toNatClampNeg) := inb_of S14 ⟨by decide, by decide⟩
  obtain ⟨T15, h15, X15, e15, W15, st15⟩ := stI X10 hx hZ e10 Ar14 (j := (2 : Int32)) hin14 (g := (mkF m 15 #[.val (.int p0), .unset, .unset, .unset] [(.int (0 : Int32)), (.int (2 : Int32)), (.ref b1), (.ref b1)])) rfl rfl (hb hby at_15)
  have f16 : Arv Z h15 b1 k1 .int (16 : Int32) [(.int (0 : Int32)), (.int (0 : Int32)), (.int (0 : Int32)), (.int (0 : Int32)), (.int (0 : Int32)), (.int (0 : Int32)), (.int (0 : Int32)), (.int (0 : Int32)), (.int (0 : Int32)), (.int (0 : Int32)), (.int (0 : Int32)), (.int (0 : Int32)), (.int (0 : Int32)), (.int (0 : Int32)), (.int (0 : Int32)), (.int (0 : Int32))] (.int (0 : Int32)) := Arv.set Ar14 q14 S14 N14 H14 G14 rfl W15 2 rfl (Nat.le_of_ble_eq_true rfl)
  have zz17 : n0 ≤ h15.size := Nat.le_trans zz12 (Keep.of_wr W15).1
  have N18 := Fr.snoc X15 N13 gn_b1
  obtain ⟨cl19, Ar19, q19, S19, N19, H19, G19⟩ := id f16
  have hin19 : ¬ ((3 : Int32) < 0 ∨ cl19.slots.size ≤ ((3 : Int32)).toNatClampNeg) := inb_of S19 ⟨by decide, by decide⟩
  obtain ⟨T20, h20, X20, e20, W20, st20⟩ := stI X15 hx hZ e15 Ar19 (j := (3 : Int32)) hin19 (g := (mkF m 19 #[.val (.int p0), .unset, .unset, .unset] [(.int (0 : Int32)), (.int (3 : Int32)), (.ref b1), (.ref b1)])) rfl rfl (hb hby at_19)
  have f21 : Arv Z h20 b1 k1 .int (16 : Int32) [(.int (0 : Int32)), (.int (0 : Int32)), (.int (0 : Int32)), (.int (0 : Int32)), (.int (0 : Int32)), (.int (0 : Int32)), (.int (0 : Int32)), (.int (0 : Int32)), (.int (0 : Int32)), (.int (0 : Int32)), (.int (0 : Int32)), (.int (0 : Int32)), (.int (0 : Int32)), (.int (0 : Int32)), (.int (0 : Int32)), (.int (0 : Int32))] (.int (0 : Int32)) := Arv.set Ar19 q19 S19 N19 H19 G19 rfl W20 3 rfl (Nat.le_of_ble_eq_true rfl)
  have zz22 : n0 ≤ h20.size := Nat.le_trans zz17 (Keep.of_wr W20).1
  have N23 := Fr.snoc X20 N18 gn_b1
  obtain ⟨cl24, Ar24, q24, S24, N24, H24, G24⟩ := id f21
  have hin24 : ¬ ((4 : Int32) < 0 ∨ cl24.slots.size ≤ ((4 : Int32)).toNatClampNeg) := inb_of S24 ⟨by decide, by decide⟩
  obtain ⟨T25, h25, X25, e25, W25, st25⟩ := stI X20 hx hZ e20 Ar24 (j := (4 : Int32)) hin24 (g := (mkF m 23 #[.val (.int p0), .unset, .unset, .unset] [(.int (0 : Int32)), (.int (4 : Int32)), (.ref b1), (.ref b1)])) rfl rfl (hb hby at_23)
  have f26 : Arv Z h25 b1 k1 .int (16 : Int32) [(.int (0 : Int32)), (.int (0 : Int32)), (.int (0 : Int32)), (.int (0 : Int32)), (.int (0 : Int32)), (.int (0 : Int32)), (.int (0 : Int32)), (.int (0 : Int32)), (.int (0 : Int32)), (.int (0 : Int32)), (.int (0 : Int32)), (.int (0 : Int32)), (.int (0 : Int32)), (.int (0 : Int32)), (.int (0 : Int32)), (.int (0 : Int32))] (.int (0 : Int32)) := Arv.set Ar24 q24 S24 N24 H24 G24 rfl W25 4 rfl (Nat.le_of_ble_eq_true rfl)
  have zz27 : n0 ≤ h25.size := Nat.le_trans zz22 (Keep.of_wr W25).1
  have N28 := Fr.snoc X25 N23 gn_b1
  obtain ⟨cl29, Ar29, q29, S29, N29, H29, G29⟩ := id f26
  have hin29 : ¬ ((5 : Int32) < 0 ∨ cl29.slots.size ≤ ((5 : Int32)).toNatClampNeg) := inb_of S29 ⟨by decide, by decide⟩
  obtain ⟨T30, h30, X30, e30, W30, st30⟩ := stI X25 hx hZ e25 Ar29 (j := (5 : Int32)) hin29 (g := (mkF m 27 #[.val (.int p0), .unset, .unset, .unset] [(.int (0 : Int32)), (.int (5 : Int32)), (.ref b1), (.ref b1)])) rfl rfl (hb hby at_27)
  have f31 : Arv Z h30 b1 k1 .int (16 : Int32) [(.int (0 : Int32)), (.int (0 : Int32)), (.int (0 : Int32)), (.int (0 : Int32)), (.int (0 : Int32)), (.int (0 : Int32)), (.int (0 : Int32)), (.int (0 : Int32)), (.int (0 : Int32)), (.int (0 : Int32)), (.int (0 : Int32)), (.int (0 : Int32)), (.int (0 : Int32)), (.int (0 : Int32)), (.int (0 : Int32)), (.int (0 : Int32))] (.int (0 : Int32)) := Arv.set Ar29 q29 S29 N29 H29 G29 rfl W30 5 rfl (Nat.le_of_ble_eq_true rfl)
  have zz32 : n0 ≤ h30.size := Nat.le_trans zz27 (Keep.of_wr W30).1
  have N33 := Fr.snoc X30 N28 gn_b1
  obtain ⟨cl34, Ar34, q34, S34, N34, H34, G34⟩ := id f31
  have hin34 : ¬ ((6 : Int32) < 0 ∨ cl34.slots.size ≤ ((6 : Int32)).toNatClampNeg) := inb_of S34 ⟨by decide, by decide⟩
  obtain ⟨T35, h35, X35, e35, W35, st35⟩ := stI X30 hx hZ e30 Ar34 (j := (6 : Int32)) hin34 (g := (mkF m 32 #[.val (.int p0), .unset, .unset, .unset] [(.int (2 : Int32)), (.int (6 : Int32)), (.ref b1), (.ref b1)])) rfl rfl (hb hby at_32)
  have f36 : Arv Z h35 b1 k1 .int (16 : Int32) [(.int (0 : Int32)), (.int (0 : Int32)), (.int (0 : Int32)), (.int (0 : Int32)), (.int (0 : Int32)), (.int (0 : Int32)), (.int (2 : Int32)), (.int (0 : Int32)), (.int (0 : Int32)), (.int (0 : Int32)), (.int (0 : Int32)), (.int (0 : Int32)), (.int (0 : Int32)), (.int (0 : Int32)), (.int (0 : Int32)), (.int (0 : Int32))] (.int (0 : Int32)) := Arv.set Ar34 q34 S34 N34 H34 G34 rfl W35 6 rfl (Nat.le_of_ble_eq_true rfl)
  have zz37 : n0 ≤ h35.size := Nat.le_trans zz32 (Keep.of_wr W35).1
  have N38 := Fr.snoc X35 N33 gn_b1
  obtain ⟨cl39, Ar39, q39, S39, N39, H39, G39⟩ := id f36
  have hin39 : ¬ ((7 : Int32) < 0 ∨ cl39.slots.size ≤ ((7 : Int32)).toNatClampNeg) := inb_of S39 ⟨by decide, by decide⟩
  obtain ⟨T40, h40, X40, e40, W40, st40⟩ := stI X35 hx hZ e35 Ar39 (j := (7 : Int32)) hin39 (g := (mkF m 37 #[.val (.int p0), .unset, .unset, .unset] [(.int (0 : Int32)), (.int (7 : Int32)), (.ref b1), (.ref b1)])) rfl rfl (hb hby at_37)
  have f41 : Arv Z h40 b1 k1 .int (16 : Int32) [(.int (0 : Int32)), (.int (0 : Int32)), (.int (0 : Int32)), (.int (0 : Int32)), (.int (0 : Int32)), (.int (0 : Int32)), (.int (2 : Int32)), (.int (0 : Int32)), (.int (0 : Int32)), (.int (0 : Int32)), (.int (0 : Int32)), (.int (0 : Int32)), (.int (0 : Int32)), (.int (0 : Int32)), (.int (0 : Int32)), (.int (0 : Int32))] (.int (0 : Int32)) := Arv.set Ar39 q39 S39 N39 H39 G39 rfl W40 7 rfl (Nat.le_of_ble_eq_true rfl)
  have zz42 : n0 ≤ h40.size := Nat.le_trans zz37 (Keep.of_wr W40).1
  have N43 := Fr.snoc X40 N38 gn_b1
  obtain ⟨cl44, Ar44, q44, S44, N44, H44, G44⟩ := id f41
  have hin44 : ¬ ((8 : Int32) < 0 ∨ cl44.slots.size ≤ ((8 : Int32)).toNatClampNeg) := inb_of S44 ⟨by decide, by decide⟩
  obtain ⟨T45, h45, X45, e45, W45, st45⟩ := stI X40 hx hZ e40 Ar44 (j := (8 : Int32)) hin44 (g := (mkF m 42 #[.val (.int p0), .unset, .unset, .unset] [(.int (2 : Int32)), (.int (8 : Int32)), (.ref b1), (.ref b1)])) rfl rfl (hb hby at_42)
  have f46 : Arv Z h45 b1 k1 .int (16 : Int32) [(.int (0 : Int32)), (.int (0 : Int32)), (.int (0 : Int32)), (.int (0 : Int32)), (.int (0 : Int32)), (.int (0 : Int32)), (.int (2 : Int32)), (.int (0 : Int32)), (.int (2 : Int32)), (.int (0 : Int32)), (.int (0 : Int32)), (.int (0 : Int32)), (.int (0 : Int32)), (.int (0 : Int32)), (.int (0 : Int32)), (.int (0 : Int32))] (.int (0 : Int32)) := Arv.set Ar44 q44 S44 N44 H44 G44 rfl W45 8 rfl (Nat.le_of_ble_eq_true rfl)
  have zz47 : n0 ≤ h45.size := Nat.le_trans zz42 (Keep.of_wr W45).1
  have N48 := Fr.snoc X45 N43 gn_b1
  obtain ⟨cl49, Ar49, q49, S49, N49, H49, G49⟩ := id f46
  have hin49 : ¬ ((9 : Int32) < 0 ∨ cl49.slots.size ≤ ((9 : Int32)).toNatClampNeg) := inb_of S49 ⟨by decide, by decide⟩
  obtain ⟨T50, h50, X50, e50, W50, st50⟩ := stI X45 hx hZ e45 Ar49 (j := (9 : Int32)) hin49 (g := (mkF m 47 #[.val (.int p0), .unset, .unset, .unset] [(.int (0 : Int32)), (.int (9 : Int32)), (.ref b1), (.ref b1)])) rfl rfl (hb hby at_47)
  have f51 : Arv Z h50 b1 k1 .int (16 : Int32) [(.int (0 : Int32)), (.int (0 : Int32)), (.int (0 : Int32)), (.int (0 : Int32)), (.int (0 : Int32)), (.int (0 : Int32)), (.int (2 : Int32)), (.int (0 : Int32)), (.int (2 : Int32)), (.int (0 : Int32)), (.int (0 : Int32)), (.int (0 : Int32)), (.int (0 : Int32)), (.int (0 : Int32)), (.int (0 : Int32)), (.int (0 : Int32))] (.int (0 : Int32)) := Arv.set Ar49 q49 S49 N49 H49 G49 rfl W50 9 rfl (Nat.le_of_ble_eq_true rfl)
  have zz52 : n0 ≤ h50.size := Nat.le_trans zz47 (Keep.of_wr W50).1
  have N53 := Fr.snoc X50 N48 gn_b1
  obtain ⟨cl54, Ar54, q54, S54, N54, H54, G54⟩ := id f51
  have hin54 : ¬ ((10 : Int32) < 0 ∨ cl54.slots.size ≤ ((10 : Int32)).toNatClampNeg) := inb_of S54 ⟨by decide, by decide⟩
  obtain ⟨T55, h55, X55, e55, W55, st55⟩ := stI X50 hx hZ e50 Ar54 (j := (10 : Int32)) hin54 (g := (mkF m 52 #[.val (.int p0), .unset, .unset, .unset] [(.int (2 : Int32)), (.int (10 : Int32)), (.ref b1), (.ref b1)])) rfl rfl (hb hby at_52)
  have f56 : Arv Z h55 b1 k1 .int (16 : Int32) [(.int (0 : Int32)), (.int (0 : Int32)), (.int (0 : Int32)), (.int (0 : Int32)), (.int (0 : Int32)), (.int (0 : Int32)), (.int (2 : Int32)), (.int (0 : Int32)), (.int (2 : Int32)), (.int (0 : Int32)), (.int (2 : Int32)), (.int (0 : Int32)), (.int (0 : Int32)), (.int (0 : Int32)), (.int (0 : Int32)), (.int (0 : Int32))] (.int (0 : Int32)) := Arv.set Ar54 q54 S54 N54 H54 G54 rfl W55 10 rfl (Nat.le_of_ble_eq_true rfl)
  have zz57 : n0 ≤ h55.size := Nat.le_trans zz52 (Keep.of_wr W55).1
  have N58 := Fr.snoc X55 N53 gn_b1
  obtain ⟨cl59, Ar59, q59, S59, N59, H59, G59⟩ := id f56
  have hin59 : ¬ ((11 : Int32) < 0 ∨ cl59.slots.size ≤ ((11 : Int32)).toNatClampNeg) := inb_of S59 ⟨by decide, by decide⟩
  obtain ⟨T60, h60, X60, e60, W60, st60⟩ := stI X55 hx hZ e55 Ar59 (j := (11 : Int32)) hin59 (g := (mkF m 57 #[.val (.int p0), .unset, .unset, .unset] [(.int (0 : Int32)), (.int (11 : Int32)), (.ref b1), (.ref b1)])) rfl rfl (hb hby at_57)
  have f61 : Arv Z h60 b1 k1 .int (16 : Int32) [(.int (0 : Int32)), (.int (0 : Int32)), (.int (0 : Int32)), (.int (0 : Int32)), (.int (0 : Int32)), (.int (0 : Int32)), (.int (2 : Int32)), (.int (0 : Int32)), (.int (2 : Int32)), (.int (0 : Int32)), (.int (2 : Int32)), (.int (0 : Int32)), (.int (0 : Int32)), (.int (0 : Int32)), (.int (0 : Int32)), (.int (0 : Int32))] (.int (0 : Int32)) := Arv.set Ar59 q59 S59 N59 H59 G59 rfl W60 11 rfl (Nat.le_of_ble_eq_true rfl)
  have zz62 : n0 ≤ h60.size := Nat.le_trans zz57 (Keep.of_wr W60).1
  have N63 := Fr.snoc X60 N58 gn_b1
  obtain ⟨cl64, Ar64, q64, S64, N64, H64, G64⟩ := id f61
  have hin64 : ¬ ((12 : Int32) < 0 ∨ cl64.slots.size ≤ ((12 : Int32)).toNatClampNeg) := inb_of S64 ⟨by decide, by decide⟩
  obtain ⟨T65, h65, X65, e65, W65, st65⟩ := stI X60 hx hZ e60 Ar64 (j := (12 : Int32)) hin64 (g := (mkF m 62 #[.val (.int p0), .unset, .unset, .unset] [(.int (0 : Int32)), (.int (12 : Int32)), (.ref b1), (.ref b1)])) rfl rfl (hb hby at_62)
  have f66 : Arv Z h65 b1 k1 .int (16 : Int32) [(.int (0 : Int32)), (.int (0 : Int32)), (.int (0 : Int32)), (.int (0 : Int32)), (.int (0 : Int32)), (.int (0 : Int32)), (.int (2 : Int32)), (.int (0 : Int32)), (.int (2 : Int32)), (.int (0 : Int32)), (.int (2 : Int32)), (.int (0 : Int32)), (.int (0 : Int32)), (.int (0 : Int32)), (.int (0 : Int32)), (.int (0 : Int32))] (.int (0 : Int32)) := Arv.set Ar64 q64 S64 N64 H64 G64 rfl W65 12 rfl (Nat.le_of_ble_eq_true rfl)
  have zz67 : n0 ≤ h65.size := Nat.le_trans zz62 (Keep.of_wr W65).1
  have N68 := Fr.snoc X65 N63 gn_b1
  obtain ⟨cl69, Ar69, q69, S69, N69, H69, G69⟩ := id f66
  have hin69 : ¬ ((13 : Int32) < 0 ∨ cl69.slots.size ≤ ((13 : Int32)).toNatClampNeg) := inb_of S69 ⟨by decide, by decide⟩
  obtain ⟨T70, h70, X70, e70, W70, st70⟩ := stI X65 hx hZ e65 Ar69 (j := (13 : Int32)) hin69 (g := (mkF m 67 #[.val (.int p0), .unset, .unset, .unset] [(.int (0 : Int32)), (.int (13 : Int32)), (.ref b1), (.ref b1)])) rfl rfl (hb hby at_67)
  have f71 : Arv Z h70 b1 k1 .int (16 : Int32) [(.int (0 : Int32)), (.int (0 : Int32)), (.int (0 : Int32)), (.int (0 : Int32)), (.int (0 : Int32)), (.int (0 : Int32)), (.int (2 : Int32)), (.int (0 : Int32)), (.int (2 : Int32)), (.int (0 : Int32)), (.int (2 : Int32)), (.int (0 : Int32)), (.int (0 : Int32)), (.int (0 : Int32)), (.int (0 : Int32)), (.int (0 : Int32))] (.int (0 : Int32)) := Arv.set Ar69 q69 S69 N69 H69 G69 rfl W70 13 rfl (Nat.le_of_ble_eq_true rfl)
  have zz72 : n0 ≤ h70.size := Nat.le_trans zz67 (Keep.of_wr W70).1
  have N73 := Fr.snoc X70 N68 gn_b1
  obtain ⟨cl74, Ar74, q74, S74, N74, H74, G74⟩ := id f71
  have hin74 : ¬ ((14 : Int32) < 0 ∨ cl74.slots.size ≤ ((14 : Int32)).toNatClampNeg) := inb_of S74 ⟨by decide, by decide⟩
  obtain ⟨T75, h75, X75, e75, W75, st75⟩ := stI X70 hx hZ e70 Ar74 (j := (14 : Int32)) hin74 (g := (mkF m 72 #[.val (.int p0), .unset, .unset, .unset] [(.int (0 : Int32)), (.int (14 : Int32)), (.ref b1), (.ref b1)])) rfl rfl (hb hby at_72)
  have f76 : Arv Z h75 b1 k1 .int (16 : Int32) [(.int (0 : Int32)), (.int (0 : Int32)), (.int (0 : Int32)), (.int (0 : Int32)), (.int (0 : Int32)), (.int (0 : Int32)), (.int (2 : Int32)), (.int (0 : Int32)), (.int (2 : Int32)), (.int (0 : Int32)), (.int (2 : Int32)), (.int (0 : Int32)), (.int (0 : Int32)), (.int (0 : Int32)), (.int (0 : Int32)), (.int (0 : Int32))] (.int (0 : Int32)) := Arv.set Ar74 q74 S74 N74 H74 G74 rfl W75 14 rfl (Nat.le_of_ble_eq_true rfl)
  have zz77 : n0 ≤ h75.size := Nat.le_trans zz72 (Keep.of_wr W75).1
  have N78 := Fr.snoc X75 N73 gn_b1
  obtain ⟨cl79, Ar79, q79, S79, N79, H79, G79⟩ := id f76
  have hin79 : ¬ ((15 : Int32) < 0 ∨ cl79.slots.size ≤ ((15 : Int32)).toNatClampNeg) := inb_of S79 ⟨by decide, by decide⟩
  obtain ⟨T80, h80, X80, e80, W80, st80⟩ := stI X75 hx hZ e75 Ar79 (j := (15 : Int32)) hin79 (g := (mkF m 77 #[.val (.int p0), .unset, .unset, .unset] [(.int (0 : Int32)), (.int (15 : Int32)), (.ref b1), (.ref b1)])) rfl rfl (hb hby at_77)
  have f81 : Arv Z h80 b1 k1 .int (16 : Int32) [(.int (0 : Int32)), (.int (0 : Int32)), (.int (0 : Int32)), (.int (0 : Int32)), (.int (0 : Int32)), (.int (0 : Int32)), (.int (2 : Int32)), (.int (0 : Int32)), (.int (2 : Int32)), (.int (0 : Int32)), (.int (2 : Int32)), (.int (0 : Int32)), (.int (0 : Int32)), (.int (0 : Int32)), (.int (0 : Int32)), (.int (0 : Int32))] (.int (0 : Int32)) := Arv.set Ar79 q79 S79 N79 H79 G79 rfl W80 15 rfl (Nat.le_of_ble_eq_true rfl)
  have zz82 : n0 ≤ h80.size := Nat.le_trans zz77 (Keep.of_wr W80).1
  have N83 := Fr.snoc X80 N78 gn_b1
  obtain ⟨_, _, ⟨T84, L84, k84, n84⟩, -, X84, ⟨Lc84, hQ84, l84, y84, z84⟩, st84⟩ := Jvm.LawKit.callS X80 hx (y := (⟨"com/example/oblivious/oblivious/codec/PacketType", "flags", "(I)I"⟩ : MethodName)) hown (mvT hZ (hw _ (List.mem_of_getElem? (i := 1) rfl))) (mvT hZ (hw _ (List.mem_of_getElem? (i := 2) rfl))) (mvT hZ (hw _ (List.mem_of_getElem? (i := 3) rfl))) (mvT hZ (hw _ (List.mem_of_getElem? (i := 4) rfl))) (by decide) (backOf (W := 0) (rm1 l Z a0 hw [] p0  h80 n0 zz82 ) hZ (hw _ (List.mem_of_getElem? (i := 4) rfl)) (hw _ (List.mem_of_getElem? (i := 3) rfl)) (by decide) (by decide)) (g := (mkF m 80 #[.val (.int p0), .val (.ref b1), .unset, .unset] [(.int p0)])) rfl (by rw [hml]; rfl) (argsL := [(.int p0)]) (rest := []) (lenOf pd_0 rfl) rfl (by show 2 * 0 + _ ≤ _; exact Nat.le_of_eq rfl) (hb hby at_80) (fun _ _ => ⟨rfl, e80, (by decide : 1 + 0 ≤ _), (by decide : 16 + 0 ≤ _)⟩)
  dsimp only [Pt.U, Pt.locs, Pt.cells, Pt.slots] at X84 l84 y84 z84 st84 hQ84
  subst l84 y84 z84
  obtain ⟨rfl, Nq84, e84⟩ := hQ84
  have N85 := Fr.app N83 Nq84
  have pre86 : ∀ tgt, Steps p.tables e below (T84.setTop (mkF m 85 #[.val (.int p0), .val (.ref b1), .val (.int (own_f1 p0)), .unset] [(.int (own_f1 p0))])) tgt → Steps p.tables e below (s₁.setTop (entryFrame m #[(.int p0)] maxLocals)) tgt := fun tgt kt => pre0 _ (by
    show Steps p.tables e below (s₁.setTop (mkF m 0 #[.val (.int p0), .unset, .unset, .unset] [])) _
    refine XS.bipush X0.here hx rfl (hb hby at_0) ?_
    show Steps p.tables e below (s₁.setTop (mkF m 2 #[.val (.int p0), .unset, .unset, .unset] [(.int (16 : Int32))])) _
    refine st1 _ ?_
    show Steps p.tables e below (T1.setTop (mkF m 4 #[.val (.int p0), .unset, .unset, .unset] [(.ref b1)])) _
    refine XS.dup X1.here hx rfl (hb hby at_4) rfl rfl ?_
    show Steps p.tables e below (T1.setTop (mkF m 5 #[.val (.int p0), .unset, .unset, .unset] [(.ref b1), (.ref b1)])) _
    refine XS.iconst X1.here hx rfl (hb hby at_5) ?_
    show Steps p.tables e below (T1.setTop (mkF m 6 #[.val (.int p0), .unset, .unset, .unset] [(.int (0 : Int32)), (.ref b1), (.ref b1)])) _
    refine XS.iconst X1.here hx rfl (hb hby at_6) ?_
    show Steps p.tables e below (T1.setTop (mkF m 7 #[.val (.int p0), .unset, .unset, .unset] [(.int (0 : Int32)), (.int (0 : Int32)), (.ref b1), (.ref b1)])) _
    refine st5 _ ?_
    show Steps p.tables e below (T5.setTop (mkF m 8 #[.val (.int p0), .unset, .unset, .unset] [(.ref b1)])) _
    refine XS.dup X5.here hx rfl (hb hby at_8) rfl rfl ?_
    show Steps p.tables e below (T5.setTop (mkF m 9 #[.val (.int p0), .unset, .unset, .unset] [(.ref b1), (.ref b1)])) _
    refine XS.iconst X5.here hx rfl (hb hby at_9) ?_
    show Steps p.tables e below (T5.setTop (mkF m 10 #[.val (.int p0), .unset, .unset, .unset] [(.int (1 : Int32)), (.ref b1), (.ref b1)])) _
    refine XS.iconst X5.here hx rfl (hb hby at_10) ?_
    show Steps p.tables e below (T5.setTop (mkF m 11 #[.val (.int p0), .unset, .unset, .unset] [(.int (0 : Int32)), (.int (1 : Int32)), (.ref b1), (.ref b1)])) _
    refine st10 _ ?_
    show Steps p.tables e below (T10.setTop (mkF m 12 #[.val (.int p0), .unset, .unset, .unset] [(.ref b1)])) _
    refine XS.dup X10.here hx rfl (hb hby at_12) rfl rfl ?_
    show Steps p.tables e below (T10.setTop (mkF m 13 #[.val (.int p0), .unset, .unset, .unset] [(.ref b1), (.ref b1)])) _
    refine XS.iconst X10.here hx rfl (hb hby at_13) ?_
    show Steps p.tables e below (T10.setTop (mkF m 14 #[.val (.int p0), .unset, .unset, .unset] [(.int (2 : Int32)), (.ref b1), (.ref b1)])) _
    refine XS.iconst X10.here hx rfl (hb hby at_14) ?_
    show Steps p.tables e below (T10.setTop (mkF m 15 #[.val (.int p0), .unset, .unset, .unset] [(.int (0 : Int32)), (.int (2 : Int32)), (.ref b1), (.ref b1)])) _
    refine st15 _ ?_
    show Steps p.tables e below (T15.setTop (mkF m 16 #[.val (.int p0), .unset, .unset, .unset] [(.ref b1)])) _
    refine XS.dup X15.here hx rfl (hb hby at_16) rfl rfl ?_
    show Steps p.tables e below (T15.setTop (mkF m 17 #[.val (.int p0), .unset, .unset, .unset] [(.ref b1), (.ref b1)])) _
    refine XS.iconst X15.here hx rfl (hb hby at_17) ?_
    show Steps p.tables e below (T15.setTop (mkF m 18 #[.val (.int p0), .unset, .unset, .unset] [(.int (3 : Int32)), (.ref b1), (.ref b1)])) _
    refine XS.iconst X15.here hx rfl (hb hby at_18) ?_
    show Steps p.tables e below (T15.setTop (mkF m 19 #[.val (.int p0), .unset, .unset, .unset] [(.int (0 : Int32)), (.int (3 : Int32)), (.ref b1), (.ref b1)])) _
    refine st20 _ ?_
    show Steps p.tables e below (T20.setTop (mkF m 20 #[.val (.int p0), .unset, .unset, .unset] [(.ref b1)])) _
    refine XS.dup X20.here hx rfl (hb hby at_20) rfl rfl ?_
    show Steps p.tables e below (T20.setTop (mkF m 21 #[.val (.int p0), .unset, .unset, .unset] [(.ref b1), (.ref b1)])) _
    refine XS.iconst X20.here hx rfl (hb hby at_21) ?_
    show Steps p.tables e below (T20.setTop (mkF m 22 #[.val (.int p0), .unset, .unset, .unset] [(.int (4 : Int32)), (.ref b1), (.ref b1)])) _
    refine XS.iconst X20.here hx rfl (hb hby at_22) ?_
    show Steps p.tables e below (T20.setTop (mkF m 23 #[.val (.int p0), .unset, .unset, .unset] [(.int (0 : Int32)), (.int (4 : Int32)), (.ref b1), (.ref b1)])) _
    refine st25 _ ?_
    show Steps p.tables e below (T25.setTop (mkF m 24 #[.val (.int p0), .unset, .unset, .unset] [(.ref b1)])) _
    refine XS.dup X25.here hx rfl (hb hby at_24) rfl rfl ?_
    show Steps p.tables e below (T25.setTop (mkF m 25 #[.val (.int p0), .unset, .unset, .unset] [(.ref b1), (.ref b1)])) _
    refine XS.iconst X25.here hx rfl (hb hby at_25) ?_
    show Steps p.tables e below (T25.setTop (mkF m 26 #[.val (.int p0), .unset, .unset, .unset] [(.int (5 : Int32)), (.ref b1), (.ref b1)])) _
    refine XS.iconst X25.here hx rfl (hb hby at_26) ?_
    show Steps p.tables e below (T25.setTop (mkF m 27 #[.val (.int p0), .unset, .unset, .unset] [(.int (0 : Int32)), (.int (5 : Int32)), (.ref b1), (.ref b1)])) _
    refine st30 _ ?_
    show Steps p.tables e below (T30.setTop (mkF m 28 #[.val (.int p0), .unset, .unset, .unset] [(.ref b1)])) _
    refine XS.dup X30.here hx rfl (hb hby at_28) rfl rfl ?_
    show Steps p.tables e below (T30.setTop (mkF m 29 #[.val (.int p0), .unset, .unset, .unset] [(.ref b1), (.ref b1)])) _
    refine XS.bipush X30.here hx rfl (hb hby at_29) ?_
    show Steps p.tables e below (T30.setTop (mkF m 31 #[.val (.int p0), .unset, .unset, .unset] [(.int (6 : Int32)), (.ref b1), (.ref b1)])) _
    refine XS.iconst X30.here hx rfl (hb hby at_31) ?_
    show Steps p.tables e below (T30.setTop (mkF m 32 #[.val (.int p0), .unset, .unset, .unset] [(.int (2 : Int32)), (.int (6 : Int32)), (.ref b1), (.ref b1)])) _
    refine st35 _ ?_
    show Steps p.tables e below (T35.setTop (mkF m 33 #[.val (.int p0), .unset, .unset, .unset] [(.ref b1)])) _
    refine XS.dup X35.here hx rfl (hb hby at_33) rfl rfl ?_
    show Steps p.tables e below (T35.setTop (mkF m 34 #[.val (.int p0), .unset, .unset, .unset] [(.ref b1), (.ref b1)])) _
    refine XS.bipush X35.here hx rfl (hb hby at_34) ?_
    show Steps p.tables e below (T35.setTop (mkF m 36 #[.val (.int p0), .unset, .unset, .unset] [(.int (7 : Int32)), (.ref b1), (.ref b1)])) _
    refine XS.iconst X35.here hx rfl (hb hby at_36) ?_
    show Steps p.tables e below (T35.setTop (mkF m 37 #[.val (.int p0), .unset, .unset, .unset] [(.int (0 : Int32)), (.int (7 : Int32)), (.ref b1), (.ref b1)])) _
    refine st40 _ ?_
    show Steps p.tables e below (T40.setTop (mkF m 38 #[.val (.int p0), .unset, .unset, .unset] [(.ref b1)])) _
    refine XS.dup X40.here hx rfl (hb hby at_38) rfl rfl ?_
    show Steps p.tables e below (T40.setTop (mkF m 39 #[.val (.int p0), .unset, .unset, .unset] [(.ref b1), (.ref b1)])) _
    refine XS.bipush X40.here hx rfl (hb hby at_39) ?_
    show Steps p.tables e below (T40.setTop (mkF m 41 #[.val (.int p0), .unset, .unset, .unset] [(.int (8 : Int32)), (.ref b1), (.ref b1)])) _
    refine XS.iconst X40.here hx rfl (hb hby at_41) ?_
    show Steps p.tables e below (T40.setTop (mkF m 42 #[.val (.int p0), .unset, .unset, .unset] [(.int (2 : Int32)), (.int (8 : Int32)), (.ref b1), (.ref b1)])) _
    refine st45 _ ?_
    show Steps p.tables e below (T45.setTop (mkF m 43 #[.val (.int p0), .unset, .unset, .unset] [(.ref b1)])) _
    refine XS.dup X45.here hx rfl (hb hby at_43) rfl rfl ?_
    show Steps p.tables e below (T45.setTop (mkF m 44 #[.val (.int p0), .unset, .unset, .unset] [(.ref b1), (.ref b1)])) _
    refine XS.bipush X45.here hx rfl (hb hby at_44) ?_
    show Steps p.tables e below (T45.setTop (mkF m 46 #[.val (.int p0), .unset, .unset, .unset] [(.int (9 : Int32)), (.ref b1), (.ref b1)])) _
    refine XS.iconst X45.here hx rfl (hb hby at_46) ?_
    show Steps p.tables e below (T45.setTop (mkF m 47 #[.val (.int p0), .unset, .unset, .unset] [(.int (0 : Int32)), (.int (9 : Int32)), (.ref b1), (.ref b1)])) _
    refine st50 _ ?_
    show Steps p.tables e below (T50.setTop (mkF m 48 #[.val (.int p0), .unset, .unset, .unset] [(.ref b1)])) _
    refine XS.dup X50.here hx rfl (hb hby at_48) rfl rfl ?_
    show Steps p.tables e below (T50.setTop (mkF m 49 #[.val (.int p0), .unset, .unset, .unset] [(.ref b1), (.ref b1)])) _
    refine XS.bipush X50.here hx rfl (hb hby at_49) ?_
    show Steps p.tables e below (T50.setTop (mkF m 51 #[.val (.int p0), .unset, .unset, .unset] [(.int (10 : Int32)), (.ref b1), (.ref b1)])) _
    refine XS.iconst X50.here hx rfl (hb hby at_51) ?_
    show Steps p.tables e below (T50.setTop (mkF m 52 #[.val (.int p0), .unset, .unset, .unset] [(.int (2 : Int32)), (.int (10 : Int32)), (.ref b1), (.ref b1)])) _
    refine st55 _ ?_
    show Steps p.tables e below (T55.setTop (mkF m 53 #[.val (.int p0), .unset, .unset, .unset] [(.ref b1)])) _
    refine XS.dup X55.here hx rfl (hb hby at_53) rfl rfl ?_
    show Steps p.tables e below (T55.setTop (mkF m 54 #[.val (.int p0), .unset, .unset, .unset] [(.ref b1), (.ref b1)])) _
    refine XS.bipush X55.here hx rfl (hb hby at_54) ?_
    show Steps p.tables e below (T55.setTop (mkF m 56 #[.val (.int p0), .unset, .unset, .unset] [(.int (11 : Int32)), (.ref b1), (.ref b1)])) _
    refine XS.iconst X55.here hx rfl (hb hby at_56) ?_
    show Steps p.tables e below (T55.setTop (mkF m 57 #[.val (.int p0), .unset, .unset, .unset] [(.int (0 : Int32)), (.int (11 : Int32)), (.ref b1), (.ref b1)])) _
    refine st60 _ ?_
    show Steps p.tables e below (T60.setTop (mkF m 58 #[.val (.int p0), .unset, .unset, .unset] [(.ref b1)])) _
    refine XS.dup X60.here hx rfl (hb hby at_58) rfl rfl ?_
    show Steps p.tables e below (T60.setTop (mkF m 59 #[.val (.int p0), .unset, .unset, .unset] [(.ref b1), (.ref b1)])) _
    refine XS.bipush X60.here hx rfl (hb hby at_59) ?_
    show Steps p.tables e below (T60.setTop (mkF m 61 #[.val (.int p0), .unset, .unset, .unset] [(.int (12 : Int32)), (.ref b1), (.ref b1)])) _
    refine XS.iconst X60.here hx rfl (hb hby at_61) ?_
    show Steps p.tables e below (T60.setTop (mkF m 62 #[.val (.int p0), .unset, .unset, .unset] [(.int (0 : Int32)), (.int (12 : Int32)), (.ref b1), (.ref b1)])) _
    refine st65 _ ?_
    show Steps p.tables e below (T65.setTop (mkF m 63 #[.val (.int p0), .unset, .unset, .unset] [(.ref b1)])) _
    refine XS.dup X65.here hx rfl (hb hby at_63) rfl rfl ?_
    show Steps p.tables e below (T65.setTop (mkF m 64 #[.val (.int p0), .unset, .unset, .unset] [(.ref b1), (.ref b1)])) _
    refine XS.bipush X65.here hx rfl (hb hby at_64) ?_
    show Steps p.tables e below (T65.setTop (mkF m 66 #[.val (.int p0), .unset, .unset, .unset] [(.int (13 : Int32)), (.ref b1), (.ref b1)])) _
    refine XS.iconst X65.here hx rfl (hb hby at_66) ?_
    show Steps p.tables e below (T65.setTop (mkF m 67 #[.val (.int p0), .unset, .unset, .unset] [(.int (0 : Int32)), (.int (13 : Int32)), (.ref b1), (.ref b1)])) _
    refine st70 _ ?_
    show Steps p.tables e below (T70.setTop (mkF m 68 #[.val (.int p0), .unset, .unset, .unset] [(.ref b1)])) _
    refine XS.dup X70.here hx rfl (hb hby at_68) rfl rfl ?_
    show Steps p.tables e below (T70.setTop (mkF m 69 #[.val (.int p0), .unset, .unset, .unset] [(.ref b1), (.ref b1)])) _
    refine XS.bipush X70.here hx rfl (hb hby at_69) ?_
    show Steps p.tables e below (T70.setTop (mkF m 71 #[.val (.int p0), .unset, .unset, .unset] [(.int (14 : Int32)), (.ref b1), (.ref b1)])) _
    refine XS.iconst X70.here hx rfl (hb hby at_71) ?_
    show Steps p.tables e below (T70.setTop (mkF m 72 #[.val (.int p0), .unset, .unset, .unset] [(.int (0 : Int32)), (.int (14 : Int32)), (.ref b1), (.ref b1)])) _
    refine st75 _ ?_
    show Steps p.tables e below (T75.setTop (mkF m 73 #[.val (.int p0), .unset, .unset, .unset] [(.ref b1)])) _
    refine XS.dup X75.here hx rfl (hb hby at_73) rfl rfl ?_
    show Steps p.tables e below (T75.setTop (mkF m 74 #[.val (.int p0), .unset, .unset, .unset] [(.ref b1), (.ref b1)])) _
    refine XS.bipush X75.here hx rfl (hb hby at_74) ?_
    show Steps p.tables e below (T75.setTop (mkF m 76 #[.val (.int p0), .unset, .unset, .unset] [(.int (15 : Int32)), (.ref b1), (.ref b1)])) _
    refine XS.iconst X75.here hx rfl (hb hby at_76) ?_
    show Steps p.tables e below (T75.setTop (mkF m 77 #[.val (.int p0), .unset, .unset, .unset] [(.int (0 : Int32)), (.int (15 : Int32)), (.ref b1), (.ref b1)])) _
    refine st80 _ ?_
    show Steps p.tables e below (T80.setTop (mkF m 78 #[.val (.int p0), .unset, .unset, .unset] [(.ref b1)])) _
    refine XS.astoreN X80.here hx rfl (hb hby at_78) rfl rfl (l' := #[.val (.int p0), .val (.ref b1), .unset, .unset]) rfl ?_
    show Steps p.tables e below (T80.setTop (mkF m 79 #[.val (.int p0), .val (.ref b1), .unset, .unset] [])) _
    refine XS.iloadN X80.here hx rfl (hb hby at_79) rfl ?_
    show Steps p.tables e below (T80.setTop (mkF m 80 #[.val (.int p0), .val (.ref b1), .unset, .unset] [(.int p0)])) _
    refine st84 _ ?_
    show Steps p.tables e below (T84.setTop (mkF m 83 #[.val (.int p0), .val (.ref b1), .unset, .unset] [(.int (own_f1 p0))])) _
    refine XS.istoreN X84.here hx rfl (hb hby at_83) rfl (l' := #[.val (.int p0), .val (.ref b1), .val (.int (own_f1 p0)), .unset]) rfl ?_
    show Steps p.tables e below (T84.setTop (mkF m 84 #[.val (.int p0), .val (.ref b1), .val (.int (own_f1 p0)), .unset] [])) _
    refine XS.iloadN X84.here hx rfl (hb hby at_84) rfl ?_
    exact kt)
  by_cases hA : (own_f1 p0) = (0 : Int32)
  · have pre87 : ∀ tgt, Steps p.tables e below (T84.setTop (mkF m 115 #[.val (.int p0), .val (.ref b1), .val (.int (own_f1 p0)), .val (.int (p0 &&& (15 : Int32)))] [(.int (p0 &&& (15 : Int32)))])) tgt → Steps p.tables e below (s₁.setTop (entryFrame m #[(.int p0)] maxLocals)) tgt := fun tgt kt => pre86 _ (by
      show Steps p.tables e below (T84.setTop (mkF m 85 #[.val (.int p0), .val (.ref b1), .val (.int (own_f1 p0)), .unset] [(.int (own_f1 p0))])) _
      refine XS.ifYes X84.here hx rfl (pc0 := 85) (pc' := 95) rfl (hb hby at_85) rfl ((if0 _ _).trans (teq hA).1) (by decide) (by decide) ?_
      show Steps p.tables e below (T84.setTop (mkF m 95 #[.val (.int p0), .val (.ref b1), .val (.int (own_f1 p0)), .unset] [])) _
      refine XS.iloadN X84.here hx rfl (hb hby at_95) rfl ?_
      show Steps p.tables e below (T84.setTop (mkF m 96 #[.val (.int p0), .val (.ref b1), .val (.int (own_f1 p0)), .unset] [(.int (own_f1 p0))])) _
      refine XS.iconst X84.here hx rfl (hb hby at_96) ?_
      show Steps p.tables e below (T84.setTop (mkF m 97 #[.val (.int p0), .val (.ref b1), .val (.int (own_f1 p0)), .unset] [(.int (2 : Int32)), (.int (own_f1 p0))])) _
      refine XS.icmpYes X84.here hx rfl (pc0 := 97) (pc' := 109) rfl (hb hby at_97) rfl (feq (own_r0 hA)).2 (by decide) (by decide) ?_
      show Steps p.tables e below (T84.setTop (mkF m 109 #[.val (.int p0), .val (.ref b1), .val (.int (own_f1 p0)), .unset] [])) _
      refine XS.iloadN X84.here hx rfl (hb hby at_109) rfl ?_
      show Steps p.tables e below (T84.setTop (mkF m 110 #[.val (.int p0), .val (.ref b1), .val (.int (own_f1 p0)), .unset] [(.int p0)])) _
      refine XS.bipush X84.here hx rfl (hb hby at_110) ?_
      show Steps p.tables e below (T84.setTop (mkF m 112 #[.val (.int p0), .val (.ref b1), .val (.int (own_f1 p0)), .unset] [(.int (15 : Int32)), (.int p0)])) _
      refine XS.iand X84.here hx rfl (hb hby at_112) rfl ?_
      show Steps p.tables e below (T84.setTop (mkF m 113 #[.val (.int p0), .val (.ref b1), .val (.int (own_f1 p0)), .unset] [(.int (p0 &&& (15 : Int32)))])) _
      refine XS.istoreN X84.here hx rfl (hb hby at_113) rfl (l' := #[.val (.int p0), .val (.ref b1), .val (.int (own_f1 p0)), .val (.int (p0 &&& (15 : Int32)))]) rfl ?_
      show Steps p.tables e below (T84.setTop (mkF m 114 #[.val (.int p0), .val (.ref b1), .val (.int (own_f1 p0)), .val (.int (p0 &&& (15 : Int32)))] [])) _
      refine XS.iloadN X84.here hx rfl (hb hby at_114) rfl ?_
      exact kt)
    by_cases h115 : (p0 &&& (15 : Int32)) = (0 : Int32)
    · obtain ⟨fs, hr, hrun, hended, hW, hsame⟩ := X84.leave (v := some (.int (1 : Int32))) (fun h => by rw [Bd.returns] at h; cases h)
      refine ⟨_, _, pre87 _ ?_, hrun, hended, _, _, rfl, ?_, ⟨_, rfl⟩, hW, hsame.mono (by decide) (by decide)⟩
      · show Steps p.tables e below (T84.setTop (mkF m 115 #[.val (.int p0), .val (.ref b1), .val (.int (own_f1 p0)), .val (.int (p0 &&& (15 : Int32)))] [(.int (p0 &&& (15 : Int32)))])) _
        refine XS.ifYes X84.here hx rfl (pc0 := 115) (pc' := 129) rfl (hb hby at_115) rfl ((if0 _ _).trans (teq h115).1) (by decide) (by decide) ?_
        show Steps p.tables e below (T84.setTop (mkF m 129 #[.val (.int p0), .val (.ref b1), .val (.int (own_f1 p0)), .val (.int (p0 &&& (15 : Int32)))] [])) _
        refine XS.iconst X84.here hx rfl (hb hby at_129) ?_
        show Steps p.tables e below (T84.setTop (mkF m 130 #[.val (.int p0), .val (.ref b1), .val (.int (own_f1 p0)), .val (.int (p0 &&& (15 : Int32)))] [(.int (1 : Int32))])) _
        exact retN X84 hx (t := .boolean) Bd.returns (by simp) (hb hby at_130) hr
      · show Q0 Z p0 h0 n0 _ T84.heap _
        rw [e84]
        exact ⟨rfl, N85⟩
    · have pre88 : ∀ tgt, Steps p.tables e below (T84.setTop (mkF m 120 #[.val (.int p0), .val (.ref b1), .val (.int (own_f1 p0)), .val (.int (p0 &&& (15 : Int32)))] [(.int (3 : Int32)), (.int (p0 &&& (15 : Int32)))])) tgt → Steps p.tables e below (s₁.setTop (entryFrame m #[(.int p0)] maxLocals)) tgt := fun tgt kt => pre87 _ (by
        show Steps p.tables e below (T84.setTop (mkF m 115 #[.val (.int p0), .val (.ref b1), .val (.int (own_f1 p0)), .val (.int (p0 &&& (15 : Int32)))] [(.int (p0 &&& (15 : Int32)))])) _
        refine XS.ifNo X84.here hx rfl (hb hby at_115) rfl ((if0 _ _).trans (feq h115).1) ?_
        show Steps p.tables e below (T84.setTop (mkF m 118 #[.val (.int p0), .val (.ref b1), .val (.int (own_f1 p0)), .val (.int (p0 &&& (15 : Int32)))] [])) _
        refine XS.iloadN X84.here hx rfl (hb hby at_118) rfl ?_
        show Steps p.tables e below (T84.setTop (mkF m 119 #[.val (.int p0), .val (.ref b1), .val (.int (own_f1 p0)), .val (.int (p0 &&& (15 : Int32)))] [(.int (p0 &&& (15 : Int32)))])) _
        refine XS.iconst X84.here hx rfl (hb hby at_119) ?_
        exact kt)
      by_cases h120 : (p0 &&& (15 : Int32)) = (3 : Int32)
      · obtain ⟨fs, hr, hrun, hended, hW, hsame⟩ := X84.leave (v := some (.int (1 : Int32))) (fun h => by rw [Bd.returns] at h; cases h)
        refine ⟨_, _, pre88 _ ?_, hrun, hended, _, _, rfl, ?_, ⟨_, rfl⟩, hW, hsame.mono (by decide) (by decide)⟩
        · show Steps p.tables e below (T84.setTop (mkF m 120 #[.val (.int p0), .val (.ref b1), .val (.int (own_f1 p0)), .val (.int (p0 &&& (15 : Int32)))] [(.int (3 : Int32)), (.int (p0 &&& (15 : Int32)))])) _
          refine XS.icmpYes X84.here hx rfl (pc0 := 120) (pc' := 129) rfl (hb hby at_120) rfl (teq h120).1 (by decide) (by decide) ?_
          show Steps p.tables e below (T84.setTop (mkF m 129 #[.val (.int p0), .val (.ref b1), .val (.int (own_f1 p0)), .val (.int (p0 &&& (15 : Int32)))] [])) _
          refine XS.iconst X84.here hx rfl (hb hby at_129) ?_
          show Steps p.tables e below (T84.setTop (mkF m 130 #[.val (.int p0), .val (.ref b1), .val (.int (own_f1 p0)), .val (.int (p0 &&& (15 : Int32)))] [(.int (1 : Int32))])) _
          exact retN X84 hx (t := .boolean) Bd.returns (by simp) (hb hby at_130) hr
        · show Q0 Z p0 h0 n0 _ T84.heap _
          rw [e84]
          exact ⟨rfl, N85⟩
      · have pre89 : ∀ tgt, Steps p.tables e below (T84.setTop (mkF m 126 #[.val (.int p0), .val (.ref b1), .val (.int (own_f1 p0)), .val (.int (p0 &&& (15 : Int32)))] [(.int (15 : Int32)), (.int (p0 &&& (15 : Int32)))])) tgt → Steps p.tables e below (s₁.setTop (entryFrame m #[(.int p0)] maxLocals)) tgt := fun tgt kt => pre88 _ (by
          show Steps p.tables e below (T84.setTop (mkF m 120 #[.val (.int p0), .val (.ref b1), .val (.int (own_f1 p0)), .val (.int (p0 &&& (15 : Int32)))] [(.int (3 : Int32)), (.int (p0 &&& (15 : Int32)))])) _
          refine XS.icmpNo X84.here hx rfl (hb hby at_120) rfl (feq h120).1 ?_
          show Steps p.tables e below (T84.setTop (mkF m 123 #[.val (.int p0), .val (.ref b1), .val (.int (own_f1 p0)), .val (.int (p0 &&& (15 : Int32)))] [])) _
          refine XS.iloadN X84.here hx rfl (hb hby at_123) rfl ?_
          show Steps p.tables e below (T84.setTop (mkF m 124 #[.val (.int p0), .val (.ref b1), .val (.int (own_f1 p0)), .val (.int (p0 &&& (15 : Int32)))] [(.int (p0 &&& (15 : Int32)))])) _
          refine XS.bipush X84.here hx rfl (hb hby at_124) ?_
          exact kt)
        by_cases h126 : (p0 &&& (15 : Int32)) = (15 : Int32)
        · obtain ⟨fs, hr, hrun, hended, hW, hsame⟩ := X84.leave (v := some (.int (1 : Int32))) (fun h => by rw [Bd.returns] at h; cases h)
          refine ⟨_, _, pre89 _ ?_, hrun, hended, _, _, rfl, ?_, ⟨_, rfl⟩, hW, hsame.mono (by decide) (by decide)⟩
          · show Steps p.tables e below (T84.setTop (mkF m 126 #[.val (.int p0), .val (.ref b1), .val (.int (own_f1 p0)), .val (.int (p0 &&& (15 : Int32)))] [(.int (15 : Int32)), (.int (p0 &&& (15 : Int32)))])) _
            refine XS.icmpNo X84.here hx rfl (hb hby at_126) rfl (teq h126).2 ?_
            show Steps p.tables e below (T84.setTop (mkF m 129 #[.val (.int p0), .val (.ref b1), .val (.int (own_f1 p0)), .val (.int (p0 &&& (15 : Int32)))] [])) _
            refine XS.iconst X84.here hx rfl (hb hby at_129) ?_
            show Steps p.tables e below (T84.setTop (mkF m 130 #[.val (.int p0), .val (.ref b1), .val (.int (own_f1 p0)), .val (.int (p0 &&& (15 : Int32)))] [(.int (1 : Int32))])) _
            exact retN X84 hx (t := .boolean) Bd.returns (by simp) (hb hby at_130) hr
          · show Q0 Z p0 h0 n0 _ T84.heap _
            rw [e84]
            exact ⟨rfl, N85⟩
        · obtain ⟨_, _, ⟨T90, L90, k90, n90⟩, -, X90, ⟨Lc90, hQ90, l90, y90, z90⟩, st90⟩ := Jvm.LawKit.callS X84 hx (y := (⟨"com/example/oblivious/oblivious/codec/PacketType", "flags", "(I)I"⟩ : MethodName)) hown (mvT hZ (hw _ (List.mem_of_getElem? (i := 1) rfl))) (mvT hZ (hw _ (List.mem_of_getElem? (i := 2) rfl))) (mvT hZ (hw _ (List.mem_of_getElem? (i := 3) rfl))) (mvT hZ (hw _ (List.mem_of_getElem? (i := 4) rfl))) (by decide) (backOf (W := 0) (rm1 l Z a0 hw [] (p0 &&& (15 : Int32))  h80 n0 zz82 ) hZ (hw _ (List.mem_of_getElem? (i := 4) rfl)) (hw _ (List.mem_of_getElem? (i := 3) rfl)) (by decide) (by decide)) (g := (mkF m 132 #[.val (.int p0), .val (.ref b1), .val (.int (own_f1 p0)), .val (.int (p0 &&& (15 : Int32)))] [(.int (p0 &&& (15 : Int32)))])) rfl (by rw [hml]; rfl) (argsL := [(.int (p0 &&& (15 : Int32)))]) (rest := []) (lenOf pd_0 rfl) rfl (by show 2 * 0 + _ ≤ _; exact Nat.le_of_eq rfl) (hb hby at_132) (fun _ _ => ⟨rfl, e84, (by decide : 1 + 0 ≤ _), (by decide : 16 + 0 ≤ _)⟩)
          dsimp only [Pt.U, Pt.locs, Pt.cells, Pt.slots] at X90 l90 y90 z90 st90 hQ90
          subst l90 y90 z90
          obtain ⟨rfl, Nq90, e90⟩ := hQ90
          have N91 := Fr.app N85 Nq90
          obtain ⟨cl92, Ar92, -, S92, -, H92, -⟩ := f81
          have hi92 := inb_of S92 (own_t1 p0)
          have ha92 : cl92.slots[((p0 &&& (15 : Int32))).toNatClampNeg]? = some (.int (own_tab (p0 &&& (15 : Int32)))) := (H92 _ (Nat.lt_of_not_le fun q => hi92 (Or.inr q))).trans (congrArg some (own_getd [0, 0, 0, 0, 0, 0, 2, 0, 2, 0, 2, 0, 0, 0, 0, 0] _))
          obtain ⟨fs, hr, hrun, hended, hW, hsame⟩ := X90.leave (v := some (.int (1 : Int32))) (fun h => by rw [Bd.returns] at h; cases h)
          refine ⟨_, _, pre89 _ ?_, hrun, hended, _, _, rfl, ?_, ⟨_, rfl⟩, hW, hsame.mono (by decide) (by decide)⟩
          · show Steps p.tables e below (T84.setTop (mkF m 126 #[.val (.int p0), .val (.ref b1), .val (.int (own_f1 p0)), .val (.int (p0 &&& (15 : Int32)))] [(.int (15 : Int32)), (.int (p0 &&& (15 : Int32)))])) _
            refine XS.icmpYes X84.here hx rfl (pc0 := 126) (pc' := 131) rfl (hb hby at_126) rfl (feq h126).2 (by decide) (by decide) ?_
            show Steps p.tables e below (T84.setTop (mkF m 131 #[.val (.int p0), .val (.ref b1), .val (.int (own_f1 p0)), .val (.int (p0 &&& (15 : Int32)))] [])) _
            refine XS.iloadN X84.here hx rfl (hb hby at_131) rfl ?_
            show Steps p.tables e below (T84.setTop (mkF m 132 #[.val (.int p0), .val (.ref b1), .val (.int (own_f1 p0)), .val (.int (p0 &&& (15 : Int32)))] [(.int (p0 &&& (15 : Int32)))])) _
            refine st90 _ ?_
            show Steps p.tables e below (T90.setTop (mkF m 135 #[.val (.int p0), .val (.ref b1), .val (.int (own_f1 p0)), .val (.int (p0 &&& (15 : Int32)))] [(.int (own_f1 (p0 &&& (15 : Int32))))])) _
            refine XS.aloadN X90.here hx rfl (hb hby at_135) rfl rfl ?_
            show Steps p.tables e below (T90.setTop (mkF m 136 #[.val (.int p0), .val (.ref b1), .val (.int (own_f1 p0)), .val (.int (p0 &&& (15 : Int32)))] [(.ref b1), (.int (own_f1 (p0 &&& (15 : Int32))))])) _
            refine XS.iloadN X90.here hx rfl (hb hby at_136) rfl ?_
            show Steps p.tables e below (T90.setTop (mkF m 137 #[.val (.int p0), .val (.ref b1), .val (.int (own_f1 p0)), .val (.int (p0 &&& (15 : Int32)))] [(.int (p0 &&& (15 : Int32))), (.ref b1), (.int (own_f1 (p0 &&& (15 : Int32))))])) _
            refine X90.iaload hx (j := (p0 &&& (15 : Int32))) (v := (.int (own_tab (p0 &&& (15 : Int32))))) (by rw [e90]; exact Ar92.1) (State.isArrayOf_alike hZ.alike Ar92.2.1) Ar92.2.2 hi92 ha92 (g := (mkF m 137 #[.val (.int p0), .val (.ref b1), .val (.int (own_f1 p0)), .val (.int (p0 &&& (15 : Int32)))] [(.int (p0 &&& (15 : Int32))), (.ref b1), (.int (own_f1 (p0 &&& (15 : Int32))))])) rfl rfl (hb hby at_137) _ ?_
            show Steps p.tables e below (T90.setTop (mkF m 138 #[.val (.int p0), .val (.ref b1), .val (.int (own_f1 p0)), .val (.int (p0 &&& (15 : Int32)))] [(.int (own_tab (p0 &&& (15 : Int32)))), (.int (own_f1 (p0 &&& (15 : Int32))))])) _
            refine XS.icmpNo X90.here hx rfl (hb hby at_138) rfl (teq (own_eq p0)).2 ?_
            show Steps p.tables e below (T90.setTop (mkF m 141 #[.val (.int p0), .val (.ref b1), .val (.int (own_f1 p0)), .val (.int (p0 &&& (15 : Int32)))] [])) _
            refine XS.iconst X90.here hx rfl (hb hby at_141) ?_
            show Steps p.tables e below (T90.setTop (mkF m 142 #[.val (.int p0), .val (.ref b1), .val (.int (own_f1 p0)), .val (.int (p0 &&& (15 : Int32)))] [(.int (1 : Int32))])) _
            refine XS.goto X90.here hx rfl (pc0 := 142) (pc' := 146) rfl (hb hby at_142) (by decide) (by decide) ?_
            show Steps p.tables e below (T90.setTop (mkF m 146 #[.val (.int p0), .val (.ref b1), .val (.int (own_f1 p0)), .val (.int (p0 &&& (15 : Int32)))] [(.int (1 : Int32))])) _
            exact retN X90 hx (t := .boolean) Bd.returns (by simp) (hb hby at_146) hr
          · show Q0 Z p0 h0 n0 _ T90.heap _
            rw [e90]
            exact ⟨rfl, N91⟩
  · have pre93 : ∀ tgt, Steps p.tables e below (T84.setTop (mkF m 115 #[.val (.int p0), .val (.ref b1), .val (.int (own_f1 p0)), .val (.int (p0 &&& (15 : Int32)))] [(.int (p0 &&& (15 : Int32)))])) tgt → Steps p.tables e below (s₁.setTop (entryFrame m #[(.int p0)] maxLocals)) tgt := fun tgt kt => pre86 _ (by
      show Steps p.tables e below (T84.setTop (mkF m 85 #[.val (.int p0), .val (.ref b1), .val (.int (own_f1 p0)), .unset] [(.int (own_f1 p0))])) _
      refine XS.ifNo X84.here hx rfl (hb hby at_85) rfl ((if0 _ _).trans (feq hA).1) ?_
      show Steps p.tables e below (T84.setTop (mkF m 88 #[.val (.int p0), .val (.ref b1), .val (.int (own_f1 p0)), .unset] [])) _
      refine XS.iloadN X84.here hx rfl (hb hby at_88) rfl ?_
      show Steps p.tables e below (T84.setTop (mkF m 89 #[.val (.int p0), .val (.ref b1), .val (.int (own_f1 p0)), .unset] [(.int (own_f1 p0))])) _
      refine XS.iconst X84.here hx rfl (hb hby at_89) ?_
      show Steps p.tables e below (T84.setTop (mkF m 90 #[.val (.int p0), .val (.ref b1), .val (.int (own_f1 p0)), .unset] [(.int (2 : Int32)), (.int (own_f1 p0))])) _
      refine XS.icmpYes X84.here hx rfl (pc0 := 90) (pc' := 95) rfl (hb hby at_90) rfl (teq (own_r2 hA)).1 (by decide) (by decide) ?_
      show Steps p.tables e below (T84.setTop (mkF m 95 #[.val (.int p0), .val (.ref b1), .val (.int (own_f1 p0)), .unset] [])) _
      refine XS.iloadN X84.here hx rfl (hb hby at_95) rfl ?_
      show Steps p.tables e below (T84.setTop (mkF m 96 #[.val (.int p0), .val (.ref b1), .val (.int (own_f1 p0)), .unset] [(.int (own_f1 p0))])) _
      refine XS.iconst X84.here hx rfl (hb hby at_96) ?_
      show Steps p.tables e below (T84.setTop (mkF m 97 #[.val (.int p0), .val (.ref b1), .val (.int (own_f1 p0)), .unset] [(.int (2 : Int32)), (.int (own_f1 p0))])) _
      refine XS.icmpNo X84.here hx rfl (hb hby at_97) rfl (teq (own_r2 hA)).2 ?_
      show Steps p.tables e below (T84.setTop (mkF m 100 #[.val (.int p0), .val (.ref b1), .val (.int (own_f1 p0)), .unset] [])) _
      refine XS.iloadN X84.here hx rfl (hb hby at_100) rfl ?_
      show Steps p.tables e below (T84.setTop (mkF m 101 #[.val (.int p0), .val (.ref b1), .val (.int (own_f1 p0)), .unset] [(.int p0)])) _
      refine XS.bipush X84.here hx rfl (hb hby at_101) ?_
      show Steps p.tables e below (T84.setTop (mkF m 103 #[.val (.int p0), .val (.ref b1), .val (.int (own_f1 p0)), .unset] [(.int (-16 : Int32)), (.int p0)])) _
      refine XS.iand X84.here hx rfl (hb hby at_103) rfl ?_
      show Steps p.tables e below (T84.setTop (mkF m 104 #[.val (.int p0), .val (.ref b1), .val (.int (own_f1 p0)), .unset] [(.int (p0 &&& (-16 : Int32)))])) _
      refine XS.ifYes X84.here hx rfl (pc0 := 104) (pc' := 109) rfl (hb hby at_104) rfl ((if0 _ _).trans (teq (own_m hA)).1) (by decide) (by decide) ?_
      show Steps p.tables e below (T84.setTop (mkF m 109 #[.val (.int p0), .val (.ref b1), .val (.int (own_f1 p0)), .unset] [])) _
      refine XS.iloadN X84.here hx rfl (hb hby at_109) rfl ?_
      show Steps p.tables e below (T84.setTop (mkF m 110 #[.val (.int p0), .val (.ref b1), .val (.int (own_f1 p0)), .unset] [(.int p0)])) _
      refine XS.bipush X84.here hx rfl (hb hby at_110) ?_
      show Steps p.tables e below (T84.setTop (mkF m 112 #[.val (.int p0), .val (.ref b1), .val (.int (own_f1 p0)), .unset] [(.int (15 : Int32)), (.int p0)])) _
      refine XS.iand X84.here hx rfl (hb hby at_112) rfl ?_
      show Steps p.tables e below (T84.setTop (mkF m 113 #[.val (.int p0), .val (.ref b1), .val (.int (own_f1 p0)), .unset] [(.int (p0 &&& (15 : Int32)))])) _
      refine XS.istoreN X84.here hx rfl (hb hby at_113) rfl (l' := #[.val (.int p0), .val (.ref b1), .val (.int (own_f1 p0)), .val (.int (p0 &&& (15 : Int32)))]) rfl ?_
      show Steps p.tables e below (T84.setTop (mkF m 114 #[.val (.int p0), .val (.ref b1), .val (.int (own_f1 p0)), .val (.int (p0 &&& (15 : Int32)))] [])) _
      refine XS.iloadN X84.here hx rfl (hb hby at_114) rfl ?_
      exact kt)
    by_cases h115 : (p0 &&& (15 : Int32)) = (0 : Int32)
    · obtain ⟨fs, hr, hrun, hended, hW, hsame⟩ := X84.leave (v := some (.int (1 : Int32))) (fun h => by rw [Bd.returns] at h; cases h)
      refine ⟨_, _, pre93 _ ?_, hrun, hended, _, _, rfl, ?_, ⟨_, rfl⟩, hW, hsame.mono (by decide) (by decide)⟩
      · show Steps p.tables e below (T84.setTop (mkF m 115 #[.val (.int p0), .val (.ref b1), .val (.int (own_f1 p0)), .val (.int (p0 &&& (15 : Int32)))] [(.int (p0 &&& (15 : Int32)))])) _
        refine XS.ifYes X84.here hx rfl (pc0 := 115) (pc' := 129) rfl (hb hby at_115) rfl ((if0 _ _).trans (teq h115).1) (by decide) (by decide) ?_
        show Steps p.tables e below (T84.setTop (mkF m 129 #[.val (.int p0), .val (.ref b1), .val (.int (own_f1 p0)), .val (.int (p0 &&& (15 : Int32)))] [])) _
        refine XS.iconst X84.here hx rfl (hb hby at_129) ?_
        show Steps p.tables e below (T84.setTop (mkF m 130 #[.val (.int p0), .val (.ref b1), .val (.int (own_f1 p0)), .val (.int (p0 &&& (15 : Int32)))] [(.int (1 : Int32))])) _
        exact retN X84 hx (t := .boolean) Bd.returns (by simp) (hb hby at_130) hr
      · show Q0 Z p0 h0 n0 _ T84.heap _
        rw [e84]
        exact ⟨rfl, N85⟩
    · have pre94 : ∀ tgt, Steps p.tables e below (T84.setTop (mkF m 120 #[.val (.int p0), .val (.ref b1), .val (.int (own_f1 p0)), .val (.int (p0 &&& (15 : Int32)))] [(.int (3 : Int32)), (.int (p0 &&& (15 : Int32)))])) tgt → Steps p.tables e below (s₁.setTop (entryFrame m #[(.int p0)] maxLocals)) tgt := fun tgt kt => pre93 _ (by
        show Steps p.tables e below (T84.setTop (mkF m 115 #[.val (.int p0), .val (.ref b1), .val (.int (own_f1 p0)), .val (.int (p0 &&& (15 : Int32)))] [(.int (p0 &&& (15 : Int32)))])) _
        refine XS.ifNo X84.here hx rfl (hb hby at_115) rfl ((if0 _ _).trans (feq h115).1) ?_
        show Steps p.tables e below (T84.setTop (mkF m 118 #[.val (.int p0), .val (.ref b1), .val (.int (own_f1 p0)), .val (.int (p0 &&& (15 : Int32)))] [])) _
        refine XS.iloadN X84.here hx rfl (hb hby at_118) rfl ?_
        show Steps p.tables e below (T84.setTop (mkF m 119 #[.val (.int p0), .val (.ref b1), .val (.int (own_f1 p0)), .val (.int (p0 &&& (15 : Int32)))] [(.int (p0 &&& (15 : Int32)))])) _
        refine XS.iconst X84.here hx rfl (hb hby at_119) ?_
        exact kt)
      by_cases h120 : (p0 &&& (15 : Int32)) = (3 : Int32)
      · obtain ⟨fs, hr, hrun, hended, hW, hsame⟩ := X84.leave (v := some (.int (1 : Int32))) (fun h => by rw [Bd.returns] at h; cases h)
        refine ⟨_, _, pre94 _ ?_, hrun, hended, _, _, rfl, ?_, ⟨_, rfl⟩, hW, hsame.mono (by decide) (by decide)⟩
        · show Steps p.tables e below (T84.setTop (mkF m 120 #[.val (.int p0), .val (.ref b1), .val (.int (own_f1 p0)), .val (.int (p0 &&& (15 : Int32)))] [(.int (3 : Int32)), (.int (p0 &&& (15 : Int32)))])) _
          refine XS.icmpYes X84.here hx rfl (pc0 := 120) (pc' := 129) rfl (hb hby at_120) rfl (teq h120).1 (by decide) (by decide) ?_
          show Steps p.tables e below (T84.setTop (mkF m 129 #[.val (.int p0), .val (.ref b1), .val (.int (own_f1 p0)), .val (.int (p0 &&& (15 : Int32)))] [])) _
          refine XS.iconst X84.here hx rfl (hb hby at_129) ?_
          show Steps p.tables e below (T84.setTop (mkF m 130 #[.val (.int p0), .val (.ref b1), .val (.int (own_f1 p0)), .val (.int (p0 &&& (15 : Int32)))] [(.int (1 : Int32))])) _
          exact retN X84 hx (t := .boolean) Bd.returns (by simp) (hb hby at_130) hr
        · show Q0 Z p0 h0 n0 _ T84.heap _
          rw [e84]
          exact ⟨rfl, N85⟩
      · have pre95 : ∀ tgt, Steps p.tables e below (T84.setTop (mkF m 126 #[.val (.int p0), .val (.ref b1), .val (.int (own_f1 p0)), .val (.int (p0 &&& (15 : Int32)))] [(.int (15 : Int32)), (.int (p0 &&& (15 : Int32)))])) tgt → Steps p.tables e below (s₁.setTop (entryFrame m #[(.int p0)] maxLocals)) tgt := fun tgt kt => pre94 _ (by
          show Steps p.tables e below (T84.setTop (mkF m 120 #[.val (.int p0), .val (.ref b1), .val (.int (own_f1 p0)), .val (.int (p0 &&& (15 : Int32)))] [(.int (3 : Int32)), (.int (p0 &&& (15 : Int32)))])) _
          refine XS.icmpNo X84.here hx rfl (hb hby at_120) rfl (feq h120).1 ?_
          show Steps p.tables e below (T84.setTop (mkF m 123 #[.val (.int p0), .val (.ref b1), .val (.int (own_f1 p0)), .val (.int (p0 &&& (15 : Int32)))] [])) _
          refine XS.iloadN X84.here hx rfl (hb hby at_123) rfl ?_
          show Steps p.tables e below (T84.setTop (mkF m 124 #[.val (.int p0), .val (.ref b1), .val (.int (own_f1 p0)), .val (.int (p0 &&& (15 : Int32)))] [(.int (p0 &&& (15 : Int32)))])) _
          refine XS.bipush X84.here hx rfl (hb hby at_124) ?_
          exact kt)
        by_cases h126 : (p0 &&& (15 : Int32)) = (15 : Int32)
        · obtain ⟨fs, hr, hrun, hended, hW, hsame⟩ := X84.leave (v := some (.int (1 : Int32))) (fun h => by rw [Bd.returns] at h; cases h)
          refine ⟨_, _, pre95 _ ?_, hrun, hended, _, _, rfl, ?_, ⟨_, rfl⟩, hW, hsame.mono (by decide) (by decide)⟩
          · show Steps p.tables e below (T84.setTop (mkF m 126 #[.val (.int p0), .val (.ref b1), .val (.int (own_f1 p0)), .val (.int (p0 &&& (15 : Int32)))] [(.int (15 : Int32)), (.int (p0 &&& (15 : Int32)))])) _
            refine XS.icmpNo X84.here hx rfl (hb hby at_126) rfl (teq h126).2 ?_
            show Steps p.tables e below (T84.setTop (mkF m 129 #[.val (.int p0), .val (.ref b1), .val (.int (own_f1 p0)), .val (.int (p0 &&& (15 : Int32)))] [])) _
            refine XS.iconst X84.here hx rfl (hb hby at_129) ?_
            show Steps p.tables e below (T84.setTop (mkF m 130 #[.val (.int p0), .val (.ref b1), .val (.int (own_f1 p0)), .val (.int (p0 &&& (15 : Int32)))] [(.int (1 : Int32))])) _
            exact retN X84 hx (t := .boolean) Bd.returns (by simp) (hb hby at_130) hr
          · show Q0 Z p0 h0 n0 _ T84.heap _
            rw [e84]
            exact ⟨rfl, N85⟩
        · obtain ⟨_, _, ⟨T96, L96, k96, n96⟩, -, X96, ⟨Lc96, hQ96, l96, y96, z96⟩, st96⟩ := Jvm.LawKit.callS X84 hx (y := (⟨"com/example/oblivious/oblivious/codec/PacketType", "flags", "(I)I"⟩ : MethodName)) hown (mvT hZ (hw _ (List.mem_of_getElem? (i := 1) rfl))) (mvT hZ (hw _ (List.mem_of_getElem? (i := 2) rfl))) (mvT hZ (hw _ (List.mem_of_getElem? (i := 3) rfl))) (mvT hZ (hw _ (List.mem_of_getElem? (i := 4) rfl))) (by decide) (backOf (W := 0) (rm1 l Z a0 hw [] (p0 &&& (15 : Int32))  h80 n0 zz82 ) hZ (hw _ (List.mem_of_getElem? (i := 4) rfl)) (hw _ (List.mem_of_getElem? (i := 3) rfl)) (by decide) (by decide)) (g := (mkF m 132 #[.val (.int p0), .val (.ref b1), .val (.int (own_f1 p0)), .val (.int (p0 &&& (15 : Int32)))] [(.int (p0 &&& (15 : Int32)))])) rfl (by rw [hml]; rfl) (argsL := [(.int (p0 &&& (15 : Int32)))]) (rest := []) (lenOf pd_0 rfl) rfl (by show 2 * 0 + _ ≤ _; exact Nat.le_of_eq rfl) (hb hby at_132) (fun _ _ => ⟨rfl, e84, (by decide : 1 + 0 ≤ _), (by decide : 16 + 0 ≤ _)⟩)
          dsimp only [Pt.U, Pt.locs, Pt.cells, Pt.slots] at X96 l96 y96 z96 st96 hQ96
          subst l96 y96 z96
          obtain ⟨rfl, Nq96, e96⟩ := hQ96
          have N97 := Fr.app N85 Nq96
          obtain ⟨cl98, Ar98, -, S98, -, H98, -⟩ := f81
          have hi98 := inb_of S98 (own_t1 p0)
          have ha98 : cl98.slots[((p0 &&& (15 : Int32))).toNatClampNeg]? = some (.int (own_tab (p0 &&& (15 : Int32)))) := (H98 _ (Nat.lt_of_not_le fun q => hi98 (Or.inr q))).trans (congrArg some (own_getd [0, 0, 0, 0, 0, 0, 2, 0, 2, 0, 2, 0, 0, 0, 0, 0] _))
          obtain ⟨fs, hr, hrun, hended, hW, hsame⟩ := X96.leave (v := some (.int (1 : Int32))) (fun h => by rw [Bd.returns] at h; cases h)
          refine ⟨_, _, pre95 _ ?_, hrun, hended, _, _, rfl, ?_, ⟨_, rfl⟩, hW, hsame.mono (by decide) (by decide)⟩
          · show Steps p.tables e below (T84.setTop (mkF m 126 #[.val (.int p0), .val (.ref b1), .val (.int (own_f1 p0)), .val (.int (p0 &&& (15 : Int32)))] [(.int (15 : Int32)), (.int (p0 &&& (15 : Int32)))])) _
            refine XS.icmpYes X84.here hx rfl (pc0 := 126) (pc' := 131) rfl (hb hby at_126) rfl (feq h126).2 (by decide) (by decide) ?_
            show Steps p.tables e below (T84.setTop (mkF m 131 #[.val (.int p0), .val (.ref b1), .val (.int (own_f1 p0)), .val (.int (p0 &&& (15 : Int32)))] [])) _
            refine XS.iloadN X84.here hx rfl (hb hby at_131) rfl ?_
            show Steps p.tables e below (T84.setTop (mkF m 132 #[.val (.int p0), .val (.ref b1), .val (.int (own_f1 p0)), .val (.int (p0 &&& (15 : Int32)))] [(.int (p0 &&& (15 : Int32)))])) _
            refine st96 _ ?_
            show Steps p.tables e below (T96.setTop (mkF m 135 #[.val (.int p0), .val (.ref b1), .val (.int (own_f1 p0)), .val (.int (p0 &&& (15 : Int32)))] [(.int (own_f1 (p0 &&& (15 : Int32))))])) _
            refine XS.aloadN X96.here hx rfl (hb hby at_135) rfl rfl ?_
            show Steps p.tables e below (T96.setTop (mkF m 136 #[.val (.int p0), .val (.ref b1), .val (.int (own_f1 p0)), .val (.int (p0 &&& (15 : Int32)))] [(.ref b1), (.int (own_f1 (p0 &&& (15 : Int32))))])) _
            refine XS.iloadN X96.here hx rfl (hb hby at_136) rfl ?_
            show Steps p.tables e below (T96.setTop (mkF m 137 #[.val (.int p0), .val (.ref b1), .val (.int (own_f1 p0)), .val (.int (p0 &&& (15 : Int32)))] [(.int (p0 &&& (15 : Int32))), (.ref b1), (.int (own_f1 (p0 &&& (15 : Int32))))])) _
            refine X96.iaload hx (j := (p0 &&& (15 : Int32))) (v := (.int (own_tab (p0 &&& (15 : Int32))))) (by rw [e96]; exact Ar98.1) (State.isArrayOf_alike hZ.alike Ar98.2.1) Ar98.2.2 hi98 ha98 (g := (mkF m 137 #[.val (.int p0), .val (.ref b1), .val (.int (own_f1 p0)), .val (.int (p0 &&& (15 : Int32)))] [(.int (p0 &&& (15 : Int32))), (.ref b1), (.int (own_f1 (p0 &&& (15 : Int32))))])) rfl rfl (hb hby at_137) _ ?_
            show Steps p.tables e below (T96.setTop (mkF m 138 #[.val (.int p0), .val (.ref b1), .val (.int (own_f1 p0)), .val (.int (p0 &&& (15 : Int32)))] [(.int (own_tab (p0 &&& (15 : Int32)))), (.int (own_f1 (p0 &&& (15 : Int32))))])) _
            refine XS.icmpNo X96.here hx rfl (hb hby at_138) rfl (teq (own_eq p0)).2 ?_
            show Steps p.tables e below (T96.setTop (mkF m 141 #[.val (.int p0), .val (.ref b1), .val (.int (own_f1 p0)), .val (.int (p0 &&& (15 : Int32)))] [])) _
            refine XS.iconst X96.here hx rfl (hb hby at_141) ?_
            show Steps p.tables e below (T96.setTop (mkF m 142 #[.val (.int p0), .val (.ref b1), .val (.int (own_f1 p0)), .val (.int (p0 &&& (15 : Int32)))] [(.int (1 : Int32))])) _
            refine XS.goto X96.here hx rfl (pc0 := 142) (pc' := 146) rfl (hb hby at_142) (by decide) (by decide) ?_
            show Steps p.tables e below (T96.setTop (mkF m 146 #[.val (.int p0), .val (.ref b1), .val (.int (own_f1 p0)), .val (.int (p0 &&& (15 : Int32)))] [(.int (1 : Int32))])) _
            exact retN X96 hx (t := .boolean) Bd.returns (by simp) (hb hby at_146) hr
          · show Q0 Z p0 h0 n0 _ T96.heap _
            rw [e96]
            exact ⟨rfl, N97⟩
set_option maxHeartbeats 40000000 in
theorem comes_1 {Post : Tables → Env → Array Value → State → Outcome → State → Prop} (hpost : ∀ tb e args s v u, (limb_1_1.after args s (.returned v) u = true ∧ limb_1_2.after args s (.returned v) u = true ∧ True) → FrameEnd s (.returned v) u (Jvm.fieldLocs frame_1_writes args s ++ Jvm.arrayLocs frame_1_arrays args s ++ Jvm.staticLocs frame_1_statics s) 16 128 → Post tb e args s (.returned v) u) :
    ArmFor flags0 classFile x code maxLocals ret World_1 tables_1 room_1 Calls_1 rest_1 Pre_1 Post := by
  intro l hfl _ _ p e ha hc hk s m args below hf hA hF happ hP
  obtain ⟨hcalls, hrest, hpre⟩ := hP
  obtain ⟨-, -, -, hnamed, -, -, -, hat⟩ := (Spec.applies_iff hf).mp happ
  obtain ⟨hg, hn⟩ := and_e (Cond.before_iff.mp (show (Jvm.Cond.and given_1 narrow_1).before args s = true from hpre))
  obtain ⟨g1, g2⟩ := and_e hg
  obtain ⟨w0, rfl⟩ : ∃ w0 : Value, args = #[w0] := by
    have hs : args.size = 1 := by simpa [Cond.value, given_1] using g1
    obtain ⟨L⟩ := args
    match L, hs with
    | [w0], _ => exact ⟨w0, rfl⟩
  have hw := fun d (hd : d ∈ tables_1) => atoms_spec (ws := Jvm.Cond.code x code maxLocals ret :: tables_1) hat d (List.mem_cons_of_mem _ hd)
  have hfit : Fit s := fun {y c} hc i hi => by
    obtain ⟨ha, rfl⟩ := Array.getElem?_eq_some_iff.mp hc
    have q := List.all_eq_true.mp ((Array.all_eq_true_iff_forall_mem.mp hF) _ (Array.getElem_mem ha)) i (List.mem_range.mpr hi)
    simpa [Array.getElem?_eq_getElem hi] using q
  obtain ⟨i0, ei0⟩ := is_v g2
  obtain rfl : w0 = (.int i0) := Option.some.inj ei0
  obtain ⟨n, o, h1, h2, h3, _, L, rfl, ⟨rfl, N⟩, hq⟩ := rm0 l s _ hw tables_1 i0  s.heap s.heap.size (Nat.le_refl _)  p e ha hc hk s m _ below hf ((Spec.applies_iff_loose hf).mp happ).1 ⟨rfl, State.Warmed39.refl s, rfl⟩ trivial
  refine ⟨n, _, h1, h2, h3, hpost _ _ _ _ _ _ ⟨Cond.after_iff.mpr rfl, Cond.after_iff.mpr (eq_i res_at (Term.int_eval (1)) rfl), trivial⟩ ⟨hq.1, hq.2.1, (hq.2.2.sift fun y hy => Or.inr (N y hy)).mono (by decide) (by decide)⟩⟩
theorem main_1_1 : Claimed_1_1 := comes_1 fun _ _ _ _ _ _ h hF => ⟨h.1, hF⟩
theorem main_1_2 : Claimed_1_2 := comes_1 fun _ _ _ _ _ _ h hF => ⟨h.2.1, hF⟩
end Jvm.Pilot.@@N@@
namespace Jvm.Pilot.@@N@@
open Jvm Jvm.ClassFile Sem Op Lib Jvm.Free Jvm.Stand Jvm.Pilot.@@N@@.Jvm.D
/-! MADE BY PROGRAM (witnessworld.py) out of the Statement's table words and the real class files: 9 classes; the members and pool entries that the words name. The judged class is class 1, her method 1. -/
namespace start1
open Jvm.ClassFile
def u (s : String) : CpInfo := .utf8 (stringToUtf16 s)
/-- a pool by its gaps: so many unusable entries, then the entry; so many at the end -/
def gap : Nat → List CpInfo → List CpInfo
  | 0, r => r
  | n + 1, r => .unusable :: gap n r
def poolList (es : List (Nat × CpInfo)) (last : Nat) : List CpInfo := es.foldr (fun e r => gap e.1 (e.2 :: r)) (gap last [])
def pool (es : List (Nat × CpInfo)) (last : Nat) : Array CpInfo := ⟨poolList es last⟩
def fileOf (pool : Array CpInfo) (this : Nat) (attrs : Array Attribute := #[]) (ms : Array MethodInfo := #[]) (fl : Nat := 33) (sup : Nat := 0) (ifs : Array Nat := #[]) (fds : Array FieldInfo := #[]) : ClassFile where
  minorVersion := 0
  majorVersion := 65
  constantPool := pool
  accessFlags := fl
  thisClass := this
  superClass := sup
  interfaces := ifs
  fields := fds
  methods := ms
  attributes := attrs
def plain (name : String) (sup : Option ClassId) : Class where
  name := name
  kind := .ordinary
  loader := none
  accessFlags := 33
  super := sup
  interfaces := #[]
  cf := none
  fields := #[]
  methods := #[]
  instanceTypes := #[]
  staticTypes := #[]
  resolved := #[]
  callSites := []
  init := .initialized
  statics := none
  mirror := none

def pool0 : Array CpInfo := pool [(5, u "<init>"), (0, u "()V"), (1, .class_ 10), (1, u "java/lang/Object")] 113

def k0m0 : Method := { name := "<init>", desc := "()V", sig := { parameters := [], returnType := none }, accessFlags := 1, code := none }
/-- java/lang/Object -/
def k0 : Class := { plain "java/lang/Object" none with
  accessFlags := 33
  interfaces := #[]
  cf := some (fileOf pool0 8 #[] #[{ accessFlags := 1, nameIndex := 5, descriptorIndex := 6, attributes := #[] }] 33 0 #[] #[])
  fields := #[]
  methods := #[k0m0]
  instanceTypes := #[]
  staticTypes := #[]
  resolved := Array.replicate 124 none
  statics := none }

def pool1 : Array CpInfo := pool [(2, .class_ 4), (1, u "java/lang/Object"), (0, u "<init>"), (0, u "()V"), (0, .methodref 8 9), (0, .class_ 10), (0, .nameAndType 11 12), (0, u "com/example/oblivious/oblivious/codec/PacketType"), (0, u "flags"), (0, u "(I)I"), (0, .class_ 14), (0, u "com/example/oblivious/oblivious/codec/PacketTypeFlagsPinLaw"), (2, u "law"), (0, u "(I)Z")] 5

def k1m0 : Method := { name := "<init>", desc := "()V", sig := { parameters := [], returnType := none }, accessFlags := 2, code := none }
def k1c1 : Code := { maxStack := 4, maxLocals := 4, code := code, exceptionTable := #[], attributes := #[] }
def k1m1 : Method := { name := "law", desc := "(I)Z", sig := { parameters := [.int], returnType := some .boolean }, accessFlags := 9, code := some k1c1 }
/-- com/example/oblivious/oblivious/codec/PacketTypeFlagsPinLaw -/
def k1 : Class := { plain "com/example/oblivious/oblivious/codec/PacketTypeFlagsPinLaw" (some 0) with
  accessFlags := 49
  interfaces := #[]
  cf := some (fileOf pool1 13 #[] #[{ accessFlags := 2, nameIndex := 5, descriptorIndex := 6, attributes := #[] }, { accessFlags := 9, nameIndex := 17, descriptorIndex := 18, attributes := #[] }] 49 2 #[] #[])
  fields := #[]
  methods := #[k1m0, k1m1]
  instanceTypes := #[]
  staticTypes := #[]
  resolved := Array.replicate 24 none
  statics := none }

def pool2 : Array CpInfo := pool [(2, .class_ 4), (1, u "java/lang/Object"), (0, u "<init>"), (0, u "()V"), (0, .class_ 8), (0, u "com/example/oblivious/oblivious/codec/PacketType"), (0, u "SHIFT"), (0, u "I"), (2, u "CONNECT"), (1, u "CONNACK"), (1, u "PUBLISH"), (1, u "PUBACK"), (0, u "PUBREC"), (1, u "PUBREL"), (1, u "PUBCOMP"), (1, u "SUBSCRIBE"), (1, u "SUBACK"), (1, u "UNSUBSCRIBE"), (1, u "UNSUBACK"), (1, u "PINGREQ"), (1, u "PINGRESP"), (1, u "DISCONNECT"), (1, u "ONE_FLAG_SET"), (2, u "flags"), (0, u "(I)I")] 3

def k2m0 : Method := { name := "<init>", desc := "()V", sig := { parameters := [], returnType := none }, accessFlags := 2, code := none }
def k2c1 : Code := { maxStack := 2, maxLocals := 1, code := prog_29_method_2_code, exceptionTable := #[], attributes := #[] }
def k2m1 : Method := { name := "flags", desc := "(I)I", sig := { parameters := [.int], returnType := some .int }, accessFlags := 8, code := some k2c1 }
/-- com/example/oblivious/oblivious/codec/PacketType -/
def k2 : Class := { plain "com/example/oblivious/oblivious/codec/PacketType" (some 0) with
  accessFlags := 32
  interfaces := #[]
  cf := some (fileOf pool2 7 #[] #[{ accessFlags := 2, nameIndex := 5, descriptorIndex := 6, attributes := #[] }, { accessFlags := 8, nameIndex := 43, descriptorIndex := 44, attributes := #[] }] 32 2 #[] #[{ accessFlags := 24, nameIndex := 9, descriptorIndex := 10, attributes := #[] }, { accessFlags := 24, nameIndex := 13, descriptorIndex := 10, attributes := #[] }, { accessFlags := 24, nameIndex := 15, descriptorIndex := 10, attributes := #[] }, { accessFlags := 24, nameIndex := 17, descriptorIndex := 10, attributes := #[] }, { accessFlags := 24, nameIndex := 19, descriptorIndex := 10, attributes := #[] }, { accessFlags := 24, nameIndex := 20, descriptorIndex := 10, attributes := #[] }, { accessFlags := 24, nameIndex := 22, descriptorIndex := 10, attributes := #[] }, { accessFlags := 24, nameIndex := 24, descriptorIndex := 10, attributes := #[] }, { accessFlags := 24, nameIndex := 26, descriptorIndex := 10, attributes := #[] }, { accessFlags := 24, nameIndex := 28, descriptorIndex := 10, attributes := #[] }, { accessFlags := 24, nameIndex := 30, descriptorIndex := 10, attributes := #[] }, { accessFlags := 24, nameIndex := 32, descriptorIndex := 10, attributes := #[] }, { accessFlags := 24, nameIndex := 34, descriptorIndex := 10, attributes := #[] }, { accessFlags := 24, nameIndex := 36, descriptorIndex := 10, attributes := #[] }, { accessFlags := 24, nameIndex := 38, descriptorIndex := 10, attributes := #[] }, { accessFlags := 26, nameIndex := 40, descriptorIndex := 10, attributes := #[] }])
  fields := #[{ name := "SHIFT", type := .int, accessFlags := 24, slot := 0, constantValue := 0 }, { name := "CONNECT", type := .int, accessFlags := 24, slot := 1, constantValue := 0 }, { name := "CONNACK", type := .int, accessFlags := 24, slot := 2, constantValue := 0 }, { name := "PUBLISH", type := .int, accessFlags := 24, slot := 3, constantValue := 0 }, { name := "PUBACK", type := .int, accessFlags := 24, slot := 4, constantValue := 0 }, { name := "PUBREC", type := .int, accessFlags := 24, slot := 5, constantValue := 0 }, { name := "PUBREL", type := .int, accessFlags := 24, slot := 6, constantValue := 0 }, { name := "PUBCOMP", type := .int, accessFlags := 24, slot := 7, constantValue := 0 }, { name := "SUBSCRIBE", type := .int, accessFlags := 24, slot := 8, constantValue := 0 }, { name := "SUBACK", type := .int, accessFlags := 24, slot := 9, constantValue := 0 }, { name := "UNSUBSCRIBE", type := .int, accessFlags := 24, slot := 10, constantValue := 0 }, { name := "UNSUBACK", type := .int, accessFlags := 24, slot := 11, constantValue := 0 }, { name := "PINGREQ", type := .int, accessFlags := 24, slot := 12, constantValue := 0 }, { name := "PINGRESP", type := .int, accessFlags := 24, slot := 13, constantValue := 0 }, { name := "DISCONNECT", type := .int, accessFlags := 24, slot := 14, constantValue := 0 }, { name := "ONE_FLAG_SET", type := .int, accessFlags := 26, slot := 15, constantValue := 0 }]
  methods := #[k2m0, k2m1]
  instanceTypes := #[]
  staticTypes := #[.int, .int, .int, .int, .int, .int, .int, .int, .int, .int, .int, .int, .int, .int, .int, .int]
  resolved := Array.replicate 48 none
  statics := none }

def pool3 : Array CpInfo := pool [(1, u "java/lang/Cloneable"), (0, .class_ 1), (0, u "java/lang/Object"), (0, .class_ 3)] 3

/-- java/lang/Cloneable -/
def k3 : Class := { plain "java/lang/Cloneable" (some 0) with
  accessFlags := 1537
  interfaces := #[]
  cf := some (fileOf pool3 2 #[] #[] 1537 4 #[] #[])
  fields := #[]
  methods := #[]
  instanceTypes := #[]
  staticTypes := #[]
  resolved := Array.replicate 8 none
  statics := none }

def pool4 : Array CpInfo := pool [(1, u "java/io/Serializable"), (0, .class_ 1), (0, u "java/lang/Object"), (0, .class_ 3)] 3

/-- java/io/Serializable -/
def k4 : Class := { plain "java/io/Serializable" (some 0) with
  accessFlags := 1537
  interfaces := #[]
  cf := some (fileOf pool4 2 #[] #[] 1537 4 #[] #[])
  fields := #[]
  methods := #[]
  instanceTypes := #[]
  staticTypes := #[]
  resolved := Array.replicate 8 none
  statics := none }

/-- the primitive byte -/
def k5 : Class := { plain "byte" none with kind := .primitive 'B', accessFlags := 0x411 }
/-- [B -/
def k6 : Class := { plain "[B" (some 0) with kind := .array 5 .byte, interfaces := #[3, 4], accessFlags := 1041 }

/-- the primitive int -/
def k7 : Class := { plain "int" none with kind := .primitive 'I', accessFlags := 0x411 }
/-- [I -/
def k8 : Class := { plain "[I" (some 0) with kind := .array 7 .int, interfaces := #[3, 4], accessFlags := 1041 }

def heap : Heap := #[]
def classes : Array Class := #[k0, k1, k2, k3, k4, k5, k6, k7, k8]
def interned : List (Array UInt16 × Addr) := []
def slotsUsed : Nat := 0
def theMethod : MethodId := ⟨1, 1⟩
def args0 : Array Value := #[.int 6]
def aboutOver (below : List Frame) : State where
  vm := { classes := classes, interned := interned.toArray }
  heap := heap
  slotsUsed := slotsUsed
  threads := #[{ frames := .invoking theMethod args0 :: below }]
def below0 : List Frame := [.native { method := ⟨0, 0⟩, args := #[] }]
def about1 : State := aboutOver below0
def p0 : Program := .bare "" "" ""
def e0 : Env := launch0.env 0 0 0
theorem w_frames : about1.frames = Frame.invoking theMethod args0 :: below0 := rfl
set_option maxRecDepth 65536 in
theorem w_args : argsFit about1.vm theMethod args0 = true := by decide +kernel
set_option maxRecDepth 65536 in
theorem w_heap : heapFits about1 = true := by decide +kernel
set_option maxRecDepth 65536 in
theorem w_runnable : about1.curStatus? = some .runnable := by decide +kernel
set_option maxRecDepth 65536 in
theorem w_alone : about1.alone = true := by decide +kernel
set_option maxRecDepth 65536 in
theorem w_named : about1.methodNamed? x = some theMethod := by decide +kernel
set_option maxRecDepth 65536 in
theorem w_hears : about1.hears theMethod below0 = true := by decide +kernel
set_option maxRecDepth 65536 in
theorem w_ripe : about1.ripe theMethod args0 below0 = true := by decide +kernel
theorem w_running : about1.status = .running := rfl
set_option maxRecDepth 65536 in
theorem w_room : about1.hasRoom e0.platform room_1 = true :=
  launch0.hasRoom_least _ room_1 (by decide +kernel) (by decide +kernel) (by decide +kernel) (by decide +kernel) (by decide +kernel) (by decide +kernel)
theorem allAtoms_all (ts : List Jvm.Cond) (a : Array Jvm.Value) (st : Jvm.State) : (allAtoms ts).before a st = ts.all (fun c => c.before a st) := by
  induction ts with
  | nil => rfl
  | cons c t ih =>
    show (Jvm.Cond.and c (allAtoms t)).before a st = _
    rw [Jvm.Cond.before_and, ih, List.all_cons]
def words1 : List Jvm.Cond := Jvm.Cond.code x code maxLocals ret :: tables_1
/-- a 'code' word, met by the world's own term for the bytes: nothing is compared byte by byte -/
theorem code_word {y : MethodName} {bytes : ByteArray} {mx : Nat} {rt : Option FieldType} {a : Array Value} {s : State} {m : MethodId} {meth : Method} {c : Code} (h1 : s.methodNamed? y = some m) (h2 : s.vm.method? m = some meth) (h3 : meth.code = some c) (h4 : c.code = bytes)
    (h5 : (c.maxLocals == mx && c.exceptionTable.isEmpty && decide (c.maxStack ≤ mostOperands) && decide (meth.sig.returnType = rt) && !meth.locks && decide (parseMethodDescriptor y.desc = some meth.sig)) = true) : (Jvm.Cond.code y bytes mx rt).before a s = true := by
  simp only [Bool.and_eq_true, beq_iff_eq, Bool.not_eq_true', decide_eq_true_eq] at h5
  obtain ⟨⟨⟨⟨⟨g1, g2⟩, g3⟩, g4⟩, g5⟩, g6⟩ := h5
  simp [Cond.before, Cond.holds, Cond.value, h1, h2, h3, h4, g1, g2, g3, g4, g5, g6]
def isCode : Jvm.Cond → Bool
  | .code _ _ _ _ => true
  | _ => false
theorem all_split {L : List Jvm.Cond} {P : Jvm.Cond → Bool} (h1 : L.all (fun c => isCode c || P c) = true) (h2 : ∀ c ∈ L.filter isCode, P c = true) : L.all P = true := by
  refine List.all_eq_true.mpr fun c hc => ?_
  have h := List.all_eq_true.mp h1 c hc
  rcases Bool.eq_false_or_eq_true (isCode c) with hi | hi
  · exact h2 c (List.mem_filter.mpr ⟨hc, hi⟩)
  · simpa [hi] using h
set_option maxRecDepth 65536 in
theorem w_c0 : (Jvm.Cond.code x code maxLocals ret).before args0 about1 = true := code_word (m := ⟨1, 1⟩) (meth := k1m1) (c := k1c1) (by decide +kernel) rfl rfl rfl (by decide +kernel)
set_option maxRecDepth 65536 in
theorem w_c1 : (Jvm.Cond.code ({ cls := "com/example/oblivious/oblivious/codec/PacketType", name := "flags", desc := "(I)I" } : Jvm.MethodName) prog_29_method_2_code (1 : Nat) (Option.some Jvm.ClassFile.FieldType.int)).before args0 about1 = true := code_word (m := ⟨2, 1⟩) (meth := k2m1) (c := k2c1) (by decide +kernel) rfl rfl rfl (by decide +kernel)
def codes1 : List Jvm.Cond := [Jvm.Cond.code x code maxLocals ret, Jvm.Cond.code ({ cls := "com/example/oblivious/oblivious/codec/PacketType", name := "flags", desc := "(I)I" } : Jvm.MethodName) prog_29_method_2_code (1 : Nat) (Option.some Jvm.ClassFile.FieldType.int)]
set_option maxRecDepth 65536 in
theorem codes_eq : words1.filter isCode = codes1 := rfl
theorem w_codes : ∀ c ∈ words1.filter isCode, c.before args0 about1 = true := by
  rw [codes_eq]
  intro c hc
  simp only [codes1, List.mem_cons, List.not_mem_nil, or_false] at hc
  rcases hc with rfl | rfl
  · exact w_c0
  · exact w_c1
set_option maxRecDepth 65536 in
theorem w_t1 : words1.all (fun c => isCode c || c.before args0 about1) = true := by decide +kernel
theorem w_tables : (allAtoms (Jvm.Cond.code x code maxLocals ret :: tables_1)).before args0 about1 = true := by
  rw [allAtoms_all]
  show words1.all (fun c => c.before args0 about1) = true
  refine all_split ?_ w_codes
  rw [w_t1]
set_option maxRecDepth 65536 in
theorem w_case : (Jvm.Cond.and given_1 narrow_1).before args0 about1 = true := by decide +kernel
theorem w_applies : (headSpec (Jvm.Cond.code x code maxLocals ret :: tables_1) room_1).applies x e0.platform about1 = true :=
  (Spec.applies_iff w_frames).mpr ⟨w_running, w_runnable, w_alone, w_named, w_hears, w_ripe, w_room, w_tables⟩
theorem atStart : AtStart classFile x code maxLocals ret World_1 tables_1 room_1 Calls_1 rest_1 Pre_1 launch0 p0 e0 about1 theMethod args0 below0 :=
  ⟨lists_1, trivial, launch0.admits_env _ _ _, launch0.least_env, fairChoices_fair.cas, fairChoices_fair.clock, w_frames, w_args, w_heap, w_applies, trivial, trivial, w_case⟩
end start1
theorem witness_1 : WitnessClaimed_1 := ⟨start1.p0, start1.e0, start1.about1, start1.theMethod, start1.args0, start1.below0, start1.atStart⟩
end Jvm.Pilot.@@N@@
