import JvmDerived
import JvmDerived.Pilot.@@N@@Statement
import JvmDerived.Pilot.@@N@@Code
set_option linter.unusedVariables false
set_option linter.unusedSimpArgs false
namespace Jvm.RoadKit
open Sem ClassFile Op Lib Jvm.Stand Jvm.Free Jvm.LawKit
section New
variable {p : Program} {l : Launch} {e : Env} {R : Room} {s : State} {m : MethodId} {args : Array Value} {below : List Frame} {meth : Method} {c : Code} {T : State} {locs : List Loc} {cells slots : Nat}
theorem retI (X : Stand p l e R s m args below meth c T locs cells slots) (hx : p.tables.exec = Jvm.exec) {pc : Nat} {Ls : Array Slot} {z : Int32} {rest : List Value} (hret : meth.sig.returnType = some .int) (hd : decode c.code pc = .ok (.ireturn, 1)) {fs : List Frame}
    (hl : ∀ (f : JFrame) (acts : List Action), f.method = m → f.locked = none → f.entered = [] → (doReturn e (T.setTop f) acts (some (.int z))).1 = T.setFrames fs) : Steps p.tables e below (T.setTop (mkF m pc Ls (.int z :: rest))) (T.setFrames fs) := by
  have hm' : T.vm.method? m = some meth := X.method'
  have hn : narrow .int (.int z) = .int z := rfl
  show Steps p.tables e below (T.setTop { method := m, pc := pc, locals := Ls, stack := _ :: rest, locked := none }) _
  jvm_step X.here [X.here.top, hx, hd, hm', hret, hn]
  first | (intro acts; rw [hl _ acts rfl rfl rfl]) | rw [hl _ _ rfl rfl rfl]
  exact Steps.refl _
end New
end Jvm.RoadKit
namespace Jvm.Pilot.@@N@@
open Jvm Jvm.ClassFile Sem Op Lib Jvm.Free Jvm.Stand Jvm.LawKit Jvm.RoadKit Bundle Jvm.Pilot.@@N@@.Jvm.D
def own_ch (x : Int32) : Int32 := (x &&& (255 : Int32)).toUInt32.toUInt16.toUInt32.toInt32
theorem own_ch_le (x : Int32) : ¬ (255 : Int32) < own_ch x := by
  have h1 := c_and x 255 (by decide)
  have h2 := c_i2c (x &&& (255 : Int32))
  rw [show (255 : Int32).toInt = 255 by decide] at h1
  rw [Int32.lt_iff_toInt_lt, show (255 : Int32).toInt = 255 by decide]
  unfold own_ch
  omega
def own_has (i z : Int32) : Int32 := if i < z then 1 else 0
theorem own_three (p : Int32) (h0 : ¬ p &&& (3 : Int32) = (0 : Int32)) (h1 : ¬ p &&& (3 : Int32) = (1 : Int32)) (h2 : ¬ p &&& (3 : Int32) = (2 : Int32)) : p &&& (3 : Int32) = (3 : Int32) := by
  have b := c_and p 3 (by decide)
  rw [show (3 : Int32).toInt = 3 by decide] at b
  rw [← Int32.toInt_inj] at h0 h1 h2 ⊢
  rw [show (0 : Int32).toInt = 0 by decide] at h0
  rw [show (1 : Int32).toInt = 1 by decide] at h1
  rw [show (2 : Int32).toInt = 2 by decide] at h2
  rw [show (3 : Int32).toInt = 3 by decide]
  omega
theorem own_k1 {h0 : Heap} {ws : List Addr} {b : Addr} (h : b ∈ ws ∨ h0.size ≤ b) : ∀ x ∈ [b], x ∈ ws ∨ h0.size ≤ x := fun x q => by cases List.mem_singleton.mp q; exact h
theorem own_k2 {h0 : Heap} {ws : List Addr} {b c : Addr} (h : b ∈ ws ∨ h0.size ≤ b) (h' : c ∈ ws ∨ h0.size ≤ c) : ∀ x ∈ [b, c], x ∈ ws ∨ h0.size ≤ x := fun x q => by
  rcases List.mem_cons.mp q with rfl | q
  · exact h
  · cases List.mem_singleton.mp q; exact h'
theorem own_sta_keep {Z : State} {h h' : Heap} {C n d : String} {v : Value} (F : Sta Z h C n d v) (K : Keep h h' []) : Sta Z h' C n d v := by
  obtain ⟨cf, i, k, f, st, cell, h1, h2, h3, h4, h5, r⟩ := F
  exact ⟨cf, i, k, f, st, cell, h1, h2, h3, h4, K.2.1 _ _ h5 List.not_mem_nil, r⟩
theorem d2_0 : decode jdk_43_method_3_code 0 = .ok (.iload_n 0, 1) := by decide +kernel
theorem d2_1 : decode jdk_43_method_3_code 1 = .ok (.sipush 255, 3) := by decide +kernel
theorem d2_4 : decode jdk_43_method_3_code 4 = .ok (.if_icmp .gt 7, 3) := by decide +kernel
theorem d2_7 : decode jdk_43_method_3_code 7 = .ok (.iconst 1, 1) := by decide +kernel
theorem d2_8 : decode jdk_43_method_3_code 8 = .ok (.goto 4, 3) := by decide +kernel
theorem d2_12 : decode jdk_43_method_3_code 12 = .ok (.ireturn, 1) := by decide +kernel
theorem pn_2 : plainName "java/lang/StringLatin1" = true := by first | (simp [plainName, overriddenIn]; done) | decide +kernel
theorem ef_2 (m : MethodId) (x0 : Int32) : entryFrame m #[(.int x0)] 1 = mkF m 0 #[.val (.int x0)] [] := by first | (simp [entryFrame, mkF, argsToLocals, Value.category]; done) | rfl
def Q2 (Z : State) (p1 : Int32) (h0 : Heap) (n0 : Nat) (v : Option Value) (h : Heap) (L : List Loc) : Prop := v = some (.int (1 : Int32)) ∧ Fr n0 L ∧ h = h0
set_option maxRecDepth 65536 in
set_option maxHeartbeats 40000000 in
theorem rm2 (l : Launch) (Z : State) (a0 : Array Value) (hw : ∀ d ∈ tables_1, d.before a0 Z = true) (ws : List Jvm.Cond) (p1 : Int32) (h0 : Heap) (n0 : Nat) (Z0 : n0 ≤ h0.size) (hc4 : ¬ ((255 : Int32) < p1)) :
    MetFree l (⟨"java/lang/StringLatin1", "canEncode", "(C)Z"⟩ : MethodName) (head1 (Jvm.Cond.code (⟨"java/lang/StringLatin1", "canEncode", "(C)Z"⟩ : MethodName) jdk_43_method_3_code 1 (some .boolean) :: ws) ({ frames := 0, cells := 0, slots := 0, locals := 0 } : Room)) (fun a U => a = #[(.int p1)] ∧ Z.Warmed39 U.vm ∧ U.heap = h0) (fun _ _ _ _ _ => True) (fun _ U o U' => ∃ v L, o = .returned v ∧ Q2 Z p1 h0 n0 v U'.heap L ∧ FrameEnd U o U' L ({ frames := 0, cells := 0, slots := 0, locals := 0 } : Room).cells ({ frames := 0, cells := 0, slots := 0, locals := 0 } : Room).slots) := by
  refine MetFree.of_bodySF (plainFor_of_name pn_2) hisR ?_
  intro p e s m args below meth c s₁ Bd hml0 hP hK
  obtain ⟨rfl, hZ, hh⟩ := hP
  have hx := Bd.exec
  have hby := Bd.bytes
  have hml : c.maxLocals = 1 := hml0
  have hown : s.vm.findClass "java/lang/StringLatin1" = some m.cls := findClass_of_methodNamed Bd.named
  have hnm := (name_of_methodNamed Bd.named Bd.method).1
  have X0 : Stand p l e ({ frames := 0, cells := 0, slots := 0, locals := 0 } : Room) s m #[(.int p1)] below meth c s₁ [] 0 0 := Stand.of_body Bd
  have e0 : s₁.heap = h0 := by rw [← hh, Bd.state]; rfl
  have N0 := Fr.nil n0
  have pre0 : ∀ t, Steps p.tables e below (s₁.setTop (mkF m 0 #[.val (.int p1)] [])) t → Steps p.tables e below (s₁.setTop (entryFrame m #[(.int p1)] 1)) t := fun t k => castTop (ef_2 m p1) k

  obtain ⟨fs, hr, hrun, hended, hW, hsame⟩ := X0.leave (v := some (.int (1 : Int32))) (fun h => by rw [Bd.returns] at h; cases h)
  refine ⟨_, _, pre0 _ ?_, hrun, hended, _, _, rfl, ?_, ⟨_, rfl⟩, hW, hsame.mono (by decide) (by decide)⟩
  · show Steps p.tables e below (s₁.setTop (mkF m 0 #[.val (.int p1)] [])) _
    refine XS.iloadN X0.here hx rfl (hb hby d2_0) rfl ?_
    show Steps p.tables e below (s₁.setTop (mkF m 1 #[.val (.int p1)] [(.int p1)])) _
    refine XS.sipush X0.here hx rfl (hb hby d2_1) ?_
    show Steps p.tables e below (s₁.setTop (mkF m 4 #[.val (.int p1)] [(.int (255 : Int32)), (.int p1)])) _
    refine XS.icmpNo X0.here hx rfl (hb hby d2_4) rfl (flt hc4).2.2.1 ?_
    show Steps p.tables e below (s₁.setTop (mkF m 7 #[.val (.int p1)] [])) _
    refine XS.iconst X0.here hx rfl (hb hby d2_7) ?_
    show Steps p.tables e below (s₁.setTop (mkF m 8 #[.val (.int p1)] [(.int (1 : Int32))])) _
    refine XS.goto X0.here hx rfl (pc0 := 8) (pc' := 12) rfl (hb hby d2_8) (by decide) (by decide) ?_
    show Steps p.tables e below (s₁.setTop (mkF m 12 #[.val (.int p1)] [(.int (1 : Int32))])) _
    exact retN X0 hx (t := .boolean) Bd.returns (by simp) (hb hby d2_12) hr
  · show Q2 Z p1 h0 n0 _ s₁.heap _
    rw [e0]
    exact ⟨rfl, N0, rfl⟩
theorem d3_0 : decode jdk_43_method_46_code 0 = .ok (.iconst 1, 1) := by decide +kernel
theorem d3_1 : decode jdk_43_method_46_code 1 = .ok (.newarray .byte, 2) := by decide +kernel
theorem d3_3 : decode jdk_43_method_46_code 3 = .ok (.dup, 1) := by decide +kernel
theorem d3_4 : decode jdk_43_method_46_code 4 = .ok (.iconst 0, 1) := by decide +kernel
theorem d3_5 : decode jdk_43_method_46_code 5 = .ok (.iload_n 0, 1) := by decide +kernel
theorem d3_6 : decode jdk_43_method_46_code 6 = .ok (.i2b, 1) := by decide +kernel
theorem d3_7 : decode jdk_43_method_46_code 7 = .ok (.bastore, 1) := by decide +kernel
theorem d3_8 : decode jdk_43_method_46_code 8 = .ok (.areturn, 1) := by decide +kernel
theorem pn_3 : plainName "java/lang/StringLatin1" = true := by first | (simp [plainName, overriddenIn]; done) | decide +kernel
theorem ef_3 (m : MethodId) (x0 : Int32) : entryFrame m #[(.int x0)] 1 = mkF m 0 #[.val (.int x0)] [] := by first | (simp [entryFrame, mkF, argsToLocals, Value.category]; done) | rfl
def Q3 (Z : State) (p1 : Int32) (h0 : Heap) (n0 : Nat) (v : Option Value) (h : Heap) (L : List Loc) : Prop := ∃ b : Addr, v = some (.ref b) ∧ Fr n0 L ∧ h0.size ≤ b ∧ Keep h0 h []
set_option maxRecDepth 65536 in
set_option maxHeartbeats 40000000 in
theorem rm3 (l : Launch) (Z : State) (a0 : Array Value) (hw : ∀ d ∈ tables_1, d.before a0 Z = true) (ws : List Jvm.Cond) (p1 : Int32) (h0 : Heap) (n0 : Nat) (Z0 : n0 ≤ h0.size) :
    MetFree l (⟨"java/lang/StringLatin1", "toBytes", "(C)[B"⟩ : MethodName) (head1 (Jvm.Cond.code (⟨"java/lang/StringLatin1", "toBytes", "(C)[B"⟩ : MethodName) jdk_43_method_46_code 1 (some (.array .byte)) :: ws) ({ frames := 0, cells := 1, slots := 1, locals := 0 } : Room)) (fun a U => a = #[(.int p1)] ∧ Z.Warmed39 U.vm ∧ U.heap = h0) (fun _ _ _ _ _ => True) (fun _ U o U' => ∃ v L, o = .returned v ∧ Q3 Z p1 h0 n0 v U'.heap L ∧ FrameEnd U o U' L ({ frames := 0, cells := 1, slots := 1, locals := 0 } : Room).cells ({ frames := 0, cells := 1, slots := 1, locals := 0 } : Room).slots) := by
  refine MetFree.of_bodySF (plainFor_of_name pn_3) hisR ?_
  intro p e s m args below meth c s₁ Bd hml0 hP hK
  obtain ⟨rfl, hZ, hh⟩ := hP
  have hx := Bd.exec
  have hby := Bd.bytes
  have hml : c.maxLocals = 1 := hml0
  have hown : s.vm.findClass "java/lang/StringLatin1" = some m.cls := findClass_of_methodNamed Bd.named
  have hnm := (name_of_methodNamed Bd.named Bd.method).1
  have X0 : Stand p l e ({ frames := 0, cells := 1, slots := 1, locals := 0 } : Room) s m #[(.int p1)] below meth c s₁ [] 0 0 := Stand.of_body Bd
  have e0 : s₁.heap = h0 := by rw [← hh, Bd.state]; rfl
  have N0 := Fr.nil n0
  have pre0 : ∀ t, Steps p.tables e below (s₁.setTop (mkF m 0 #[.val (.int p1)] [])) t → Steps p.tables e below (s₁.setTop (entryFrame m #[(.int p1)] 1)) t := fun t k => castTop (ef_3 m p1) k
  obtain ⟨T2, h2, k2, X2, e2, E2, A2, st2⟩ := newP X0 hx hZ (hw _ (List.mem_of_getElem? (i := 14) rfl)) e0 (g := (mkF m 1 #[.val (.int p1)] [(.int (1 : Int32))])) rfl (hb hby d3_1) rfl (by decide) (cap := 1) (by decide) (by decide) (by decide) (by decide)
  obtain ⟨b2, g2⟩ : ∃ z, z = h0.size := ⟨_, rfl⟩
  rw [← g2] at A2 st2
  have V_b2 : Arv Z h2 b2 k2 .byte (1 : Int32) [(.int (0 : Int32))] (.int (0 : Int32)) := (Arv.new A2 (by decide)).pad (pad_rep [] (.int (0 : Int32)) 1)
  have g_b2 : n0 ≤ b2 := Nat.le_trans Z0 (Nat.le_of_eq g2.symm)
  have sz_b2 : h0.size ≤ b2 := (Nat.le_trans (Keep.refl h0 []).1 (Nat.le_of_eq g2.symm))
  have K2 : Keep h0 h2 [] := (Keep.refl h0 []).ext E2
  obtain ⟨cl_b2_7, Ar_b2, q_b2, S_b2, N_b2, H_b2, G_b2⟩ := V_b2
  have hin7 : ¬ ((0 : Int32) < 0 ∨ cl_b2_7.slots.size ≤ ((0 : Int32)).toNatClampNeg) := inb_of S_b2 ⟨by decide, by decide⟩
  obtain ⟨T3, h3, X3, e3, W3, st3⟩ := stB X2 hx hZ e2 Ar_b2 (j := (0 : Int32)) hin7 (g := (mkF m 7 #[.val (.int p1)] [(.int (p1.toInt8.toInt32)), (.int (0 : Int32)), (.ref b2), (.ref b2)])) rfl rfl (hb hby d3_7)
  have V_b2_3 := Arv.set Ar_b2 q_b2 S_b2 N_b2 H_b2 G_b2 (fits_nar_byte _) W3 0 rfl (Nat.le_of_ble_eq_true rfl)
  have K3 : Keep h0 h3 [] := K2.wr W3 (Or.inr sz_b2)
  have N3 := Fr.snoc X3 N0 g_b2
  obtain ⟨fs, hr, hrun, hended, hW, hsame⟩ := X3.leave (v := some (.ref b2)) (fun h => by rw [Bd.returns] at h; cases h)
  refine ⟨_, _, pre0 _ ?_, hrun, hended, _, _, rfl, ?_, ⟨_, rfl⟩, hW, hsame.mono (by decide) (by decide)⟩
  · show Steps p.tables e below (s₁.setTop (mkF m 0 #[.val (.int p1)] [])) _
    refine XS.iconst X0.here hx rfl (hb hby d3_0) ?_
    show Steps p.tables e below (s₁.setTop (mkF m 1 #[.val (.int p1)] [(.int (1 : Int32))])) _
    refine st2 _ ?_
    show Steps p.tables e below (T2.setTop (mkF m 3 #[.val (.int p1)] [(.ref b2)])) _
    refine XS.dup X2.here hx rfl (hb hby d3_3) rfl rfl ?_
    show Steps p.tables e below (T2.setTop (mkF m 4 #[.val (.int p1)] [(.ref b2), (.ref b2)])) _
    refine XS.iconst X2.here hx rfl (hb hby d3_4) ?_
    show Steps p.tables e below (T2.setTop (mkF m 5 #[.val (.int p1)] [(.int (0 : Int32)), (.ref b2), (.ref b2)])) _
    refine XS.iloadN X2.here hx rfl (hb hby d3_5) rfl ?_
    show Steps p.tables e below (T2.setTop (mkF m 6 #[.val (.int p1)] [(.int p1), (.int (0 : Int32)), (.ref b2), (.ref b2)])) _
    refine XS.i2b X2.here hx rfl (hb hby d3_6) rfl ?_
    show Steps p.tables e below (T2.setTop (mkF m 7 #[.val (.int p1)] [(.int (p1.toInt8.toInt32)), (.int (0 : Int32)), (.ref b2), (.ref b2)])) _
    refine st3 _ ?_
    show Steps p.tables e below (T3.setTop (mkF m 8 #[.val (.int p1)] [(.ref b2)])) _
    jvm_step X3.here [X3.here.top, hx, (hb hby d3_8), X3.method', Bd.returns, Value.isRef, FieldType.isReference]
    first | (intro acts; rw [hr _ acts rfl rfl rfl]) | rw [hr _ _ rfl rfl rfl]
    exact Steps.refl _
  · show Q3 Z p1 h0 n0 _ T3.heap _
    rw [e3]
    exact ⟨b2, rfl, N3, sz_b2, K3⟩
theorem d4_0 : decode jdk_42_method_151_code 0 = .ok (.aload_n 0, 1) := by decide +kernel
theorem d4_1 : decode jdk_42_method_151_code 1 = .ok (.invokespecial 1, 3) := by decide +kernel
theorem d4_4 : decode jdk_42_method_151_code 4 = .ok (.aload_n 0, 1) := by decide +kernel
theorem d4_5 : decode jdk_42_method_151_code 5 = .ok (.aload_n 1, 1) := by decide +kernel
theorem d4_6 : decode jdk_42_method_151_code 6 = .ok (.putfield 9, 3) := by decide +kernel
theorem d4_9 : decode jdk_42_method_151_code 9 = .ok (.aload_n 0, 1) := by decide +kernel
theorem d4_10 : decode jdk_42_method_151_code 10 = .ok (.iload_n 2, 1) := by decide +kernel
theorem d4_11 : decode jdk_42_method_151_code 11 = .ok (.putfield 15, 3) := by decide +kernel
theorem d4_14 : decode jdk_42_method_151_code 14 = .ok (.return_, 1) := by decide +kernel
theorem pn_4 : plainName "java/lang/String" = true := by first | (simp [plainName, overriddenIn]; done) | decide +kernel
theorem ef_4 (m : MethodId) (x0 : Addr) (x1 : Addr) (x2 : Int32) : entryFrame m #[(.ref x0), (.ref x1), (.int x2)] 3 = mkF m 0 #[.val (.ref x0), .val (.ref x1), .val (.int x2)] [] := by first | (simp [entryFrame, mkF, argsToLocals, Value.category]; done) | rfl
def Q4 (Z : State) (a1 : Addr) (a2 : Addr) (p3 : Int32) (u_value_a1 : Value) (u_coder_a1 : Value) (h0 : Heap) (n0 : Nat) (v : Option Value) (h : Heap) (L : List Loc) : Prop := v = none ∧ Fr n0 L ∧ Keep h0 h [a1] ∧ Exa Z h a1 "java/lang/String"
set_option maxRecDepth 65536 in
set_option maxHeartbeats 40000000 in
theorem rm4 (l : Launch) (Z : State) (a0 : Array Value) (hw : ∀ d ∈ tables_1, d.before a0 Z = true) (ws : List Jvm.Cond) (a1 : Addr) (a2 : Addr) (p3 : Int32) (u_value_a1 : Value) (u_coder_a1 : Value) (h0 : Heap) (n0 : Nat) (Z0 : n0 ≤ h0.size) (E_a1 : Exa Z h0 a1 "java/lang/String") (F_value_a1 : Fld Z h0 a1 "java/lang/String" "value" "[B" u_value_a1) (g_a1 : n0 ≤ a1) (F_coder_a1 : Fld Z h0 a1 "java/lang/String" "coder" "B" u_coder_a1) :
    MetFree l (⟨"java/lang/String", "<init>", "([BB)V"⟩ : MethodName) (head1 (Jvm.Cond.code (⟨"java/lang/String", "<init>", "([BB)V"⟩ : MethodName) jdk_42_method_151_code 3 none :: ws) ({ frames := 1, cells := 0, slots := 0, locals := 12 } : Room)) (fun a U => a = #[(.ref a1), (.ref a2), (.int p3)] ∧ Z.Warmed39 U.vm ∧ U.heap = h0) (fun _ _ _ _ _ => True) (fun _ U o U' => ∃ v L, o = .returned v ∧ Q4 Z a1 a2 p3 u_value_a1 u_coder_a1 h0 n0 v U'.heap L ∧ FrameEnd U o U' L ({ frames := 1, cells := 0, slots := 0, locals := 12 } : Room).cells ({ frames := 1, cells := 0, slots := 0, locals := 12 } : Room).slots) := by
  refine MetFree.of_bodySF (plainFor_of_name pn_4) hisR ?_
  intro p e s m args below meth c s₁ Bd hml0 hP hK
  obtain ⟨rfl, hZ, hh⟩ := hP
  have hx := Bd.exec
  have hby := Bd.bytes
  have hml : c.maxLocals = 3 := hml0
  have hown : s.vm.findClass "java/lang/String" = some m.cls := findClass_of_methodNamed Bd.named
  have hnm := (name_of_methodNamed Bd.named Bd.method).1
  have X0 : Stand p l e ({ frames := 1, cells := 0, slots := 0, locals := 12 } : Room) s m #[(.ref a1), (.ref a2), (.int p3)] below meth c s₁ [] 0 0 := Stand.of_body Bd
  have e0 : s₁.heap = h0 := by rw [← hh, Bd.state]; rfl
  have N0 := Fr.nil n0
  have pre0 : ∀ t, Steps p.tables e below (s₁.setTop (mkF m 0 #[.val (.ref a1), .val (.ref a2), .val (.int p3)] [])) t → Steps p.tables e below (s₁.setTop (entryFrame m #[(.ref a1), (.ref a2), (.int p3)] 3)) t := fun t k => castTop (ef_4 m a1 a2 p3) k
  obtain ⟨T4, X4, e4, st4⟩ := initO X0 hx hZ hown (hw _ (List.mem_of_getElem? (i := 19) rfl)) (hw _ (List.mem_of_getElem? (i := 20) rfl)) (hw _ (List.mem_of_getElem? (i := 21) rfl)) e0 (g := (mkF m 1 #[.val (.ref a1), .val (.ref a2), .val (.int p3)] [(.ref a1)])) rfl (by rw [hml]; rfl) rfl (hb hby d4_1) (by decide) (W := 0) (by show 2 * 0 + _ ≤ _; exact Nat.le_of_eq rfl) (by decide)
  obtain ⟨T5, h5, X5, e5, W5, st5⟩ := putF X4 hx hZ hown (host := "") (Or.inl (hw _ (List.mem_of_getElem? (i := 22) rfl))) Via.refl e4 F_value_a1 E_a1 (Or.inr ⟨(hw _ (List.mem_of_getElem? (i := 23) rfl)), rfl, hnm⟩) (hw _ (List.mem_of_getElem? (i := 10) rfl)) (ty := (.array .byte)) (by decide) rfl rfl (g := (mkF m 6 #[.val (.ref a1), .val (.ref a2), .val (.int p3)] [(.ref a2), (.ref a1)])) rfl rfl (hb hby d4_6)
  have Fw5 := F_value_a1.same W5
  have K5 : Keep h0 h5 [a1] := (Keep.refl h0 [a1]).wr W5 (Or.inl (List.mem_of_getElem? (i := 0) rfl))
  have N5 := Fr.snoc X5 N0 g_a1
  obtain ⟨T6, h6, X6, e6, W6, st6⟩ := putFN X5 hx hZ hown (hw _ (List.mem_of_getElem? (i := 24) rfl)) Via.refl e5 (F_coder_a1.other W5 (Or.inr (slot_ne (Or.inr (hw _ (List.mem_of_getElem? (i := 25) rfl))) (Or.inr (hw _ (List.mem_of_getElem? (i := 23) rfl))) (by decide) (t := .byte) (t' := (.array .byte)) (by decide) (by decide)))) (E_a1.wr W5) (Or.inr ⟨(hw _ (List.mem_of_getElem? (i := 25) rfl)), rfl, hnm⟩) (hw _ (List.mem_of_getElem? (i := 10) rfl)) (ty := .byte) (v' := .int (nar .byte p3)) (by decide) rfl (fits_nar_byte _) (g := (mkF m 11 #[.val (.ref a1), .val (.ref a2), .val (.int p3)] [(.int p3), (.ref a1)])) rfl rfl (hb hby d4_11)
  have Fw6 := (F_coder_a1.other W5 (Or.inr (slot_ne (Or.inr (hw _ (List.mem_of_getElem? (i := 25) rfl))) (Or.inr (hw _ (List.mem_of_getElem? (i := 23) rfl))) (by decide) (t := .byte) (t' := (.array .byte)) (by decide) (by decide)))).same W6
  have K6 : Keep h0 h6 [a1] := K5.wr W6 (Or.inl (List.mem_of_getElem? (i := 0) rfl))
  have N6 := Fr.snoc X6 N5 g_a1
  obtain ⟨fs, hr, hrun, hended, hW, hsame⟩ := X6.leave (v := none) (fun _ => rfl)
  refine ⟨_, _, pre0 _ ?_, hrun, hended, _, _, rfl, ?_, ⟨_, rfl⟩, hW, hsame.mono (by decide) (by decide)⟩
  · show Steps p.tables e below (s₁.setTop (mkF m 0 #[.val (.ref a1), .val (.ref a2), .val (.int p3)] [])) _
    refine XS.aloadN X0.here hx rfl (hb hby d4_0) rfl rfl ?_
    show Steps p.tables e below (s₁.setTop (mkF m 1 #[.val (.ref a1), .val (.ref a2), .val (.int p3)] [(.ref a1)])) _
    refine st4 _ ?_
    show Steps p.tables e below (T4.setTop (mkF m 4 #[.val (.ref a1), .val (.ref a2), .val (.int p3)] [])) _
    refine XS.aloadN X4.here hx rfl (hb hby d4_4) rfl rfl ?_
    show Steps p.tables e below (T4.setTop (mkF m 5 #[.val (.ref a1), .val (.ref a2), .val (.int p3)] [(.ref a1)])) _
    refine XS.aloadN X4.here hx rfl (hb hby d4_5) rfl rfl ?_
    show Steps p.tables e below (T4.setTop (mkF m 6 #[.val (.ref a1), .val (.ref a2), .val (.int p3)] [(.ref a2), (.ref a1)])) _
    refine st5 _ ?_
    show Steps p.tables e below (T5.setTop (mkF m 9 #[.val (.ref a1), .val (.ref a2), .val (.int p3)] [])) _
    refine XS.aloadN X5.here hx rfl (hb hby d4_9) rfl rfl ?_
    show Steps p.tables e below (T5.setTop (mkF m 10 #[.val (.ref a1), .val (.ref a2), .val (.int p3)] [(.ref a1)])) _
    refine XS.iloadN X5.here hx rfl (hb hby d4_10) rfl ?_
    show Steps p.tables e below (T5.setTop (mkF m 11 #[.val (.ref a1), .val (.ref a2), .val (.int p3)] [(.int p3), (.ref a1)])) _
    refine st6 _ ?_
    show Steps p.tables e below (T6.setTop (mkF m 14 #[.val (.ref a1), .val (.ref a2), .val (.int p3)] [])) _
    exact X6.returnOut hx Bd.returns (hb hby d4_14) hr
  · show Q4 Z a1 a2 p3 u_value_a1 u_coder_a1 h0 n0 _ T6.heap _
    rw [e6]
    exact ⟨rfl, N6, K6, ((E_a1.wr W5).wr W6)⟩
theorem pdx_0 : parseMethodDescriptor "(C)Z" = some ⟨[.char], some .boolean⟩ := by decide +kernel
theorem pdx_1 : parseMethodDescriptor "(C)[B" = some ⟨[.char], some (.array .byte)⟩ := by decide +kernel
theorem pdx_2 : parseMethodDescriptor "([BB)V" = some ⟨[(.array .byte), .byte], none⟩ := by decide +kernel
theorem pdx_3 : parseMethodDescriptor "(C)Ljava/lang/String;" = some ⟨[.char], some (.object "java/lang/String")⟩ := by decide +kernel
theorem pdx_4 : parseMethodDescriptor "(Ljava/lang/String;[Ljava/lang/String;)V" = some ⟨[(.object "java/lang/String"), (.array (.object "java/lang/String"))], none⟩ := by decide +kernel
theorem pdx_5 : parseMethodDescriptor "()Z" = some ⟨[], some .boolean⟩ := by decide +kernel
theorem pdx_6 : parseMethodDescriptor "()Ljava/lang/String;" = some ⟨[], some (.object "java/lang/String")⟩ := by decide +kernel
theorem pdx_7 : parseMethodDescriptor "(Ljava/lang/Object;)Z" = some ⟨[(.object "java/lang/Object")], some .boolean⟩ := by decide +kernel
theorem d1_0 : decode jdk_42_method_139_code 0 = .ok (.getstatic 38, 3) := by decide +kernel
theorem d1_3 : decode jdk_42_method_139_code 3 = .ok (.ifCond .eq 23, 3) := by decide +kernel
theorem d1_6 : decode jdk_42_method_139_code 6 = .ok (.iload_n 0, 1) := by decide +kernel
theorem d1_7 : decode jdk_42_method_139_code 7 = .ok (.invokestatic 1015, 3) := by decide +kernel
theorem d1_10 : decode jdk_42_method_139_code 10 = .ok (.ifCond .eq 16, 3) := by decide +kernel
theorem d1_13 : decode jdk_42_method_139_code 13 = .ok (.new 10, 3) := by decide +kernel
theorem d1_16 : decode jdk_42_method_139_code 16 = .ok (.dup, 1) := by decide +kernel
theorem d1_17 : decode jdk_42_method_139_code 17 = .ok (.iload_n 0, 1) := by decide +kernel
theorem d1_18 : decode jdk_42_method_139_code 18 = .ok (.invokestatic 1018, 3) := by decide +kernel
theorem d1_21 : decode jdk_42_method_139_code 21 = .ok (.iconst 0, 1) := by decide +kernel
theorem d1_22 : decode jdk_42_method_139_code 22 = .ok (.invokespecial 209, 3) := by decide +kernel
theorem d1_25 : decode jdk_42_method_139_code 25 = .ok (.areturn, 1) := by decide +kernel
theorem d1_26 : decode jdk_42_method_139_code 26 = .ok (.new 10, 3) := by decide +kernel
theorem d1_29 : decode jdk_42_method_139_code 29 = .ok (.dup, 1) := by decide +kernel
theorem d1_30 : decode jdk_42_method_139_code 30 = .ok (.iload_n 0, 1) := by decide +kernel
theorem d1_31 : decode jdk_42_method_139_code 31 = .ok (.invokestatic 1021, 3) := by decide +kernel
theorem d1_34 : decode jdk_42_method_139_code 34 = .ok (.iconst 1, 1) := by decide +kernel
theorem d1_35 : decode jdk_42_method_139_code 35 = .ok (.invokespecial 209, 3) := by decide +kernel
theorem d1_38 : decode jdk_42_method_139_code 38 = .ok (.areturn, 1) := by decide +kernel
theorem pn_1 : plainName "java/lang/String" = true := by first | (simp [plainName, overriddenIn]; done) | decide +kernel
theorem ef_1 (m : MethodId) (x0 : Int32) : entryFrame m #[(.int x0)] 1 = mkF m 0 #[.val (.int x0)] [] := by first | (simp [entryFrame, mkF, argsToLocals, Value.category]; done) | rfl
def Q1 (Z : State) (p1 : Int32) (w2 : Int32) (h0 : Heap) (n0 : Nat) (v : Option Value) (h : Heap) (L : List Loc) : Prop := ∃ b : Addr, v = some (.ref b) ∧ Fr n0 L ∧ h0.size ≤ b ∧ Keep h0 h [] ∧ Exa Z h b "java/lang/String"
set_option maxRecDepth 65536 in
set_option maxHeartbeats 40000000 in
theorem rm1 (l : Launch) (Z : State) (a0 : Array Value) (hw : ∀ d ∈ tables_1, d.before a0 Z = true) (ws : List Jvm.Cond) (p1 : Int32) (w2 : Int32) (h0 : Heap) (n0 : Nat) (Z0 : n0 ≤ h0.size) (S0 : Sta Z h0 "java/lang/String" "COMPACT_STRINGS" "Z" (.int w2)) (hc0 : ¬ w2 = (0 : Int32)) (hp1 : ¬ (255 : Int32) < p1) :
    MetFree l (⟨"java/lang/String", "valueOf", "(C)Ljava/lang/String;"⟩ : MethodName) (head1 (Jvm.Cond.code (⟨"java/lang/String", "valueOf", "(C)Ljava/lang/String;"⟩ : MethodName) jdk_42_method_139_code 1 (some (.object "java/lang/String")) :: ws) ({ frames := 2, cells := 2, slots := 5, locals := 27 } : Room)) (fun a U => a = #[(.int p1)] ∧ Z.Warmed39 U.vm ∧ U.heap = h0) (fun _ _ _ _ _ => True) (fun _ U o U' => ∃ v L, o = .returned v ∧ Q1 Z p1 w2 h0 n0 v U'.heap L ∧ FrameEnd U o U' L ({ frames := 2, cells := 2, slots := 5, locals := 27 } : Room).cells ({ frames := 2, cells := 2, slots := 5, locals := 27 } : Room).slots) := by
  refine MetFree.of_bodySF (plainFor_of_name pn_1) hisR ?_
  intro p e s m args below meth c s₁ Bd hml0 hP hK
  obtain ⟨rfl, hZ, hh⟩ := hP
  have hx := Bd.exec
  have hby := Bd.bytes
  have hml : c.maxLocals = 1 := hml0
  have hown : s.vm.findClass "java/lang/String" = some m.cls := findClass_of_methodNamed Bd.named
  have hnm := (name_of_methodNamed Bd.named Bd.method).1
  have X0 : Stand p l e ({ frames := 2, cells := 2, slots := 5, locals := 27 } : Room) s m #[(.int p1)] below meth c s₁ [] 0 0 := Stand.of_body Bd
  have e0 : s₁.heap = h0 := by rw [← hh, Bd.state]; rfl
  have N0 := Fr.nil n0
  have pre0 : ∀ t, Steps p.tables e below (s₁.setTop (mkF m 0 #[.val (.int p1)] [])) t → Steps p.tables e below (s₁.setTop (entryFrame m #[(.int p1)] 1)) t := fun t k => castTop (ef_1 m p1) k
  have KK0 : Keep h0 h0 [] := Keep.refl h0 []
  obtain ⟨T1, X1, e1, st1⟩ := getS2 X0 hx hZ hown (host := "") (Or.inl (hw _ (List.mem_of_getElem? (i := 4) rfl))) Via.refl e0 S0 (g := (mkF m 0 #[.val (.int p1)] [])) rfl (hb hby d1_0)
  have pre2 : ∀ t, Steps p.tables e below (T1.setTop (mkF m 3 #[.val (.int p1)] [(.int w2)])) t → Steps p.tables e below (s₁.setTop (entryFrame m #[(.int p1)] 1)) t := fun t k => pre0 t (by
    show Steps p.tables e below (s₁.setTop (mkF m 0 #[.val (.int p1)] [])) t
    refine st1 _ ?_
    show Steps p.tables e below (T1.setTop (mkF m 3 #[.val (.int p1)] [(.int w2)])) t
    exact k)
  have pre3 : ∀ t, Steps p.tables e below (T1.setTop (mkF m 7 #[.val (.int p1)] [(.int p1)])) t → Steps p.tables e below (s₁.setTop (entryFrame m #[(.int p1)] 1)) t := fun t k => pre2 t (by
    show Steps p.tables e below (T1.setTop (mkF m 3 #[.val (.int p1)] [(.int w2)])) _
    refine XS.ifNo X1.here hx rfl (hb hby d1_3) rfl ((if0 _ _).trans (feq hc0).1) ?_
    show Steps p.tables e below (T1.setTop (mkF m 6 #[.val (.int p1)] [])) _
    refine XS.iloadN X1.here hx rfl (hb hby d1_6) rfl ?_
    show Steps p.tables e below (T1.setTop (mkF m 7 #[.val (.int p1)] [(.int p1)])) _
    exact k)
  obtain ⟨_, _, ⟨T4, L4, k4, n4⟩, -, X4, ⟨Lc4, hQ4, l4, y4, z4⟩, st4⟩ := Jvm.LawKit.callS X1 hx (y := (⟨"java/lang/StringLatin1", "canEncode", "(C)Z"⟩ : MethodName)) hown (mvT hZ (hw _ (List.mem_of_getElem? (i := 5) rfl))) (mvT hZ (hw _ (List.mem_of_getElem? (i := 6) rfl))) (mvT hZ (hw _ (List.mem_of_getElem? (i := 7) rfl))) (mvT hZ (hw _ (List.mem_of_getElem? (i := 8) rfl))) (by decide) (backOf (W := 0) (rm2 l Z a0 hw [] p1  h0 n0 Z0 hp1) hZ (hw _ (List.mem_of_getElem? (i := 8) rfl)) (hw _ (List.mem_of_getElem? (i := 7) rfl)) (by decide) (by decide)) (g := (mkF m 7 #[.val (.int p1)] [(.int p1)])) rfl (by rw [hml]; rfl) (argsL := [(.int p1)]) (rest := []) (lenOf pdx_0 rfl) rfl (by show 2 * 0 + _ ≤ _; exact Nat.le_of_eq rfl) (hb hby d1_7) (fun _ _ => ⟨rfl, e1, (by decide : 0 + 0 ≤ _), (by decide : 0 + 0 ≤ _)⟩)
  dsimp only [Pt.U, Pt.locs, Pt.cells, Pt.slots] at X4 l4 y4 z4 st4 hQ4
  subst l4 y4 z4
  obtain ⟨rfl, N4q, e4⟩ := hQ4
  have N4 := Fr.app N0 N4q
  have pre5 : ∀ t, Steps p.tables e below (T4.setTop (mkF m 10 #[.val (.int p1)] [(.int (1 : Int32))])) t → Steps p.tables e below (s₁.setTop (entryFrame m #[(.int p1)] 1)) t := fun t k => pre3 t (by
    show Steps p.tables e below (T1.setTop (mkF m 7 #[.val (.int p1)] [(.int p1)])) t
    refine st4 _ ?_
    show Steps p.tables e below (T4.setTop (mkF m 10 #[.val (.int p1)] [(.int (1 : Int32))])) t
    exact k)
  have pre6 : ∀ t, Steps p.tables e below (T4.setTop (mkF m 13 #[.val (.int p1)] [])) t → Steps p.tables e below (s₁.setTop (entryFrame m #[(.int p1)] 1)) t := fun t k => pre5 t (by
    show Steps p.tables e below (T4.setTop (mkF m 10 #[.val (.int p1)] [(.int (1 : Int32))])) _
    refine XS.ifNo X4.here hx rfl (hb hby d1_10) rfl ((if0 _ _).trans (feq (by decide)).1) ?_
    show Steps p.tables e below (T4.setTop (mkF m 13 #[.val (.int p1)] [])) _
    exact k)
  obtain ⟨T7, h7, X7, e7, E7, A7, D7, -, st7⟩ := newO X4 hx hZ hown (hw _ (List.mem_of_getElem? (i := 9) rfl)) (hw _ (List.mem_of_getElem? (i := 10) rfl)) (hw _ (List.mem_of_getElem? (i := 2) rfl)) e4 (g := (mkF m 13 #[.val (.int p1)] [])) rfl (hb hby d1_13) (by decide) (by decide)
  obtain ⟨b0, ge7⟩ : ∃ z, z = h0.size := ⟨_, rfl⟩
  rw [← ge7] at A7 D7 st7
  have gq7 := Nat.le_of_eq ge7.symm
  have g_b0 : n0 ≤ b0 := Nat.le_trans Z0 (Nat.le_trans KK0.1 gq7)
  have sz_b0 : h0.size ≤ b0 := Nat.le_trans KK0.1 gq7
  have S0_7 := S0.ext E7
  have KK7 := KK0.ext E7
  have E_b0 : Exa Z h7 b0 "java/lang/String" := A7
  have F_value_b0 : Fld Z h7 b0 "java/lang/String" "value" "[B" .null := D7 (Or.inr (hw _ (List.mem_of_getElem? (i := 23) rfl))) (ty := (.array .byte)) (by decide)
  have F_coder_b0 : Fld Z h7 b0 "java/lang/String" "coder" "B" (.int (0 : Int32)) := D7 (Or.inr (hw _ (List.mem_of_getElem? (i := 25) rfl))) (ty := .byte) (by decide)
  have pre8 : ∀ t, Steps p.tables e below (T7.setTop (mkF m 16 #[.val (.int p1)] [(.ref b0)])) t → Steps p.tables e below (s₁.setTop (entryFrame m #[(.int p1)] 1)) t := fun t k => pre6 t (by
    show Steps p.tables e below (T4.setTop (mkF m 13 #[.val (.int p1)] [])) t
    refine st7 _ ?_
    show Steps p.tables e below (T7.setTop (mkF m 16 #[.val (.int p1)] [(.ref b0)])) t
    exact k)
  have pre9 : ∀ t, Steps p.tables e below (T7.setTop (mkF m 18 #[.val (.int p1)] [(.int p1), (.ref b0), (.ref b0)])) t → Steps p.tables e below (s₁.setTop (entryFrame m #[(.int p1)] 1)) t := fun t k => pre8 t (by
    show Steps p.tables e below (T7.setTop (mkF m 16 #[.val (.int p1)] [(.ref b0)])) _
    refine XS.dup X7.here hx rfl (hb hby d1_16) rfl rfl ?_
    show Steps p.tables e below (T7.setTop (mkF m 17 #[.val (.int p1)] [(.ref b0), (.ref b0)])) _
    refine XS.iloadN X7.here hx rfl (hb hby d1_17) rfl ?_
    show Steps p.tables e below (T7.setTop (mkF m 18 #[.val (.int p1)] [(.int p1), (.ref b0), (.ref b0)])) _
    exact k)
  obtain ⟨_, _, ⟨T10, L10, k10, n10⟩, -, X10, ⟨Lc10, hQ10, l10, y10, z10⟩, st10⟩ := Jvm.LawKit.callS X7 hx (y := (⟨"java/lang/StringLatin1", "toBytes", "(C)[B"⟩ : MethodName)) hown (mvT hZ (hw _ (List.mem_of_getElem? (i := 11) rfl))) (mvT hZ (hw _ (List.mem_of_getElem? (i := 12) rfl))) (mvT hZ (hw _ (List.mem_of_getElem? (i := 7) rfl))) (mvT hZ (hw _ (List.mem_of_getElem? (i := 13) rfl))) (by decide) (backOf (W := 2) (rm3 l Z a0 hw [] p1  h7 n0 (Nat.le_trans Z0 KK7.1)) hZ (hw _ (List.mem_of_getElem? (i := 13) rfl)) (hw _ (List.mem_of_getElem? (i := 7) rfl)) (by decide) (by decide)) (g := (mkF m 18 #[.val (.int p1)] [(.int p1), (.ref b0), (.ref b0)])) rfl (by rw [hml]; rfl) (argsL := [(.int p1)]) (rest := [(.ref b0), (.ref b0)]) (lenOf pdx_1 rfl) rfl (by show 2 * 0 + _ ≤ _; exact Nat.le_of_eq rfl) (hb hby d1_18) (fun _ _ => ⟨rfl, e7, (by decide : 1 + 1 ≤ _), (by decide : 4 + 1 ≤ _)⟩)
  dsimp only [Pt.U, Pt.locs, Pt.cells, Pt.slots] at X10 l10 y10 z10 st10 hQ10
  subst l10 y10 z10
  obtain ⟨b10, rfl, N10q, s10, K10⟩ := hQ10
  have N10 := Fr.app N4 N10q
  have pre11 : ∀ t, Steps p.tables e below (T10.setTop (mkF m 21 #[.val (.int p1)] [(.ref b10), (.ref b0), (.ref b0)])) t → Steps p.tables e below (s₁.setTop (entryFrame m #[(.int p1)] 1)) t := fun t k => pre9 t (by
    show Steps p.tables e below (T7.setTop (mkF m 18 #[.val (.int p1)] [(.int p1), (.ref b0), (.ref b0)])) t
    refine st10 _ ?_
    show Steps p.tables e below (T10.setTop (mkF m 21 #[.val (.int p1)] [(.ref b10), (.ref b0), (.ref b0)])) t
    exact k)
  have S0_10 := own_sta_keep S0_7 K10
  have E_b0_10 := E_b0.keep K10
  have F_value_b0_10 := F_value_b0.keep K10 List.not_mem_nil
  have F_coder_b0_10 := F_coder_b0.keep K10 List.not_mem_nil
  have KK10 := KK7.trans K10 (fun _ q => nomatch q)
  have pre12 : ∀ t, Steps p.tables e below (T10.setTop (mkF m 22 #[.val (.int p1)] [(.int (0 : Int32)), (.ref b10), (.ref b0), (.ref b0)])) t → Steps p.tables e below (s₁.setTop (entryFrame m #[(.int p1)] 1)) t := fun t k => pre11 t (by
    show Steps p.tables e below (T10.setTop (mkF m 21 #[.val (.int p1)] [(.ref b10), (.ref b0), (.ref b0)])) _
    refine XS.iconst X10.here hx rfl (hb hby d1_21) ?_
    show Steps p.tables e below (T10.setTop (mkF m 22 #[.val (.int p1)] [(.int (0 : Int32)), (.ref b10), (.ref b0), (.ref b0)])) _
    exact k)
  obtain ⟨_, _, ⟨T13, L13, k13, n13⟩, -, X13, ⟨Lc13, hQ13, l13, y13, z13⟩, st13⟩ := X10.specialBack hx (y := (⟨"java/lang/String", "<init>", "([BB)V"⟩ : MethodName)) rfl hown (mvT hZ (hw _ (List.mem_of_getElem? (i := 15) rfl))) (mvT hZ (hw _ (List.mem_of_getElem? (i := 16) rfl))) (mvT hZ (hw _ (List.mem_of_getElem? (i := 18) rfl))) (by decide) (backOf (W := 1) (rm4 l Z a0 hw [] b0 b10 (0 : Int32) .null (.int (0 : Int32)) T10.heap n0 (Nat.le_trans Z0 KK10.1) E_b0_10 F_value_b0_10 g_b0 F_coder_b0_10) hZ (hw _ (List.mem_of_getElem? (i := 18) rfl)) (hw _ (List.mem_of_getElem? (i := 2) rfl)) (by decide) (by decide)) (g := (mkF m 22 #[.val (.int p1)] [(.int (0 : Int32)), (.ref b10), (.ref b0), (.ref b0)])) rfl (by rw [hml]; rfl) (Steps.refl _) (a := b0) (argsL := [(.ref b10), (.int (0 : Int32))]) (rest := [(.ref b0)]) (lenOf pdx_2 rfl) rfl (by show 2 * 0 + _ ≤ _; exact Nat.le_of_eq rfl) (hb hby d1_22) (fun _ _ => ⟨rfl, rfl, (by decide : 2 + 0 ≤ _), (by decide : 5 + 0 ≤ _)⟩)
  dsimp only [Pt.U, Pt.locs, Pt.cells, Pt.slots] at X13 l13 y13 z13 st13 hQ13
  subst l13 y13 z13
  obtain ⟨rfl, N13q, K13, Ex13⟩ := hQ13
  have N13 := Fr.app N10 N13q
  have pre14 : ∀ t, Steps p.tables e below (T13.setTop (mkF m 25 #[.val (.int p1)] [(.ref b0)])) t → Steps p.tables e below (s₁.setTop (entryFrame m #[(.int p1)] 1)) t := fun t k => pre12 t (by
    show Steps p.tables e below (T10.setTop (mkF m 22 #[.val (.int p1)] [(.int (0 : Int32)), (.ref b10), (.ref b0), (.ref b0)])) t
    refine st13.trans ?_
    show Steps p.tables e below (T13.setTop (mkF m 25 #[.val (.int p1)] [(.ref b0)])) t
    exact k)
  have KK13 := KK10.trans K13 (own_k1 (Or.inr sz_b0))
  obtain ⟨fs, hr, hrun, hended, hW, hsame⟩ := X13.leave (v := some (.ref b0)) (fun h => by rw [Bd.returns] at h; cases h)
  refine ⟨_, _, pre14 _ ?_, hrun, hended, _, _, rfl, ?_, ⟨_, rfl⟩, hW, hsame.mono (by decide) (by decide)⟩
  · show Steps p.tables e below (T13.setTop (mkF m 25 #[.val (.int p1)] [(.ref b0)])) _
    jvm_step X13.here [X13.here.top, hx, (hb hby d1_25), X13.method', Bd.returns, Value.isRef, FieldType.isReference]
    first | (intro acts; rw [hr _ acts rfl rfl rfl]) | rw [hr _ _ rfl rfl rfl]
    exact Steps.refl _
  · show Q1 Z p1 w2 h0 n0 _ T13.heap _
    exact ⟨b0, rfl, N13, sz_b0, KK13, Ex13⟩
theorem d6_0 : decode prog_1_method_1_code 0 = .ok (.aload_n 0, 1) := by decide +kernel
theorem d6_1 : decode prog_1_method_1_code 1 = .ok (.invokespecial 1, 3) := by decide +kernel
theorem d6_4 : decode prog_1_method_1_code 4 = .ok (.aload_n 0, 1) := by decide +kernel
theorem d6_5 : decode prog_1_method_1_code 5 = .ok (.aload_n 1, 1) := by decide +kernel
theorem d6_6 : decode prog_1_method_1_code 6 = .ok (.putfield 7, 3) := by decide +kernel
theorem d6_9 : decode prog_1_method_1_code 9 = .ok (.aload_n 0, 1) := by decide +kernel
theorem d6_10 : decode prog_1_method_1_code 10 = .ok (.aload_n 2, 1) := by decide +kernel
theorem d6_11 : decode prog_1_method_1_code 11 = .ok (.invokevirtual 13, 3) := by decide +kernel
theorem d6_14 : decode prog_1_method_1_code 14 = .ok (.checkcast 14, 3) := by decide +kernel
theorem d6_17 : decode prog_1_method_1_code 17 = .ok (.putfield 19, 3) := by decide +kernel
theorem d6_20 : decode prog_1_method_1_code 20 = .ok (.return_, 1) := by decide +kernel
theorem pn_6 : plainName "com/example/arcsieve/arcsieve/Arguments" = true := by first | (simp [plainName, overriddenIn]; done) | decide +kernel
theorem ef_6 (m : MethodId) (x0 : Addr) (x1 : Addr) (x2 : Addr) : entryFrame m #[(.ref x0), (.ref x1), (.ref x2)] 3 = mkF m 0 #[.val (.ref x0), .val (.ref x1), .val (.ref x2)] [] := by first | (simp [entryFrame, mkF, argsToLocals, Value.category]; done) | rfl
def Q6 (Z : State) (a1 a2 a3 : Addr) (k : ClassId) (z : Int32) (vs : List Value) (h0 : Heap) (n0 : Nat) (v : Option Value) (h : Heap) (L : List Loc) : Prop := ∃ b : Addr, v = none ∧ Fr n0 L ∧ h0.size ≤ b ∧ Keep h0 h [a1] ∧ Exa Z h a1 "com/example/arcsieve/arcsieve/Arguments" ∧ Fld Z h a1 "com/example/arcsieve/arcsieve/Arguments" "args" "[Ljava/lang/String;" (.ref b) ∧ Fld Z h a1 "com/example/arcsieve/arcsieve/Arguments" "next" "I" (.int (0 : Int32)) ∧ Arv Z h b k (.object "java/lang/String") z vs .null
set_option maxRecDepth 65536 in
set_option maxHeartbeats 40000000 in
theorem rm6 (l : Launch) (Z : State) (a0 : Array Value) (hw : ∀ d ∈ tables_1, d.before a0 Z = true) (ws : List Jvm.Cond) (a1 a2 a3 : Addr) (k : ClassId) (z : Int32) (vs : List Value) (h0 : Heap) (n0 : Nat) (Z0 : n0 ≤ h0.size) (E_a1 : Exa Z h0 a1 "com/example/arcsieve/arcsieve/Arguments") (F_command_a1 : Fld Z h0 a1 "com/example/arcsieve/arcsieve/Arguments" "command" "Ljava/lang/String;" .null) (F_args_a1 : Fld Z h0 a1 "com/example/arcsieve/arcsieve/Arguments" "args" "[Ljava/lang/String;" .null) (F_next_a1 : Fld Z h0 a1 "com/example/arcsieve/arcsieve/Arguments" "next" "I" (.int (0 : Int32))) (V_a3 : Arv Z h0 a3 k (.object "java/lang/String") z vs .null) (X_a3 : Exa Z h0 a3 "[Ljava/lang/String;") (hz : z.toNatClampNeg ≤ 3) (g_a1 : n0 ≤ a1) (o31 : a3 < a1) :
    MetFree l (⟨"com/example/arcsieve/arcsieve/Arguments", "<init>", "(Ljava/lang/String;[Ljava/lang/String;)V"⟩ : MethodName) (head1 (Jvm.Cond.code (⟨"com/example/arcsieve/arcsieve/Arguments", "<init>", "(Ljava/lang/String;[Ljava/lang/String;)V"⟩ : MethodName) prog_1_method_1_code 3 none :: ws) ({ frames := 1, cells := 1, slots := 3, locals := 15 } : Room)) (fun a U => a = #[(.ref a1), (.ref a2), (.ref a3)] ∧ Z.Warmed39 U.vm ∧ U.heap = h0) (fun _ _ _ _ _ => True) (fun _ U o U' => ∃ v L, o = .returned v ∧ Q6 Z a1 a2 a3 k z vs h0 n0 v U'.heap L ∧ FrameEnd U o U' L ({ frames := 1, cells := 1, slots := 3, locals := 15 } : Room).cells ({ frames := 1, cells := 1, slots := 3, locals := 15 } : Room).slots) := by
  refine MetFree.of_bodySF (plainFor_of_name pn_6) hisR ?_
  intro p e s m args below meth c s₁ Bd hml0 hP hK
  obtain ⟨rfl, hZ, hh⟩ := hP
  have hx := Bd.exec
  have hby := Bd.bytes
  have hml : c.maxLocals = 3 := hml0
  have hown : s.vm.findClass "com/example/arcsieve/arcsieve/Arguments" = some m.cls := findClass_of_methodNamed Bd.named
  have hnm := (name_of_methodNamed Bd.named Bd.method).1
  have X0 : Stand p l e ({ frames := 1, cells := 1, slots := 3, locals := 15 } : Room) s m #[(.ref a1), (.ref a2), (.ref a3)] below meth c s₁ [] 0 0 := Stand.of_body Bd
  have e0 : s₁.heap = h0 := by rw [← hh, Bd.state]; rfl
  have N0 := Fr.nil n0
  have pre0 : ∀ t, Steps p.tables e below (s₁.setTop (mkF m 0 #[.val (.ref a1), .val (.ref a2), .val (.ref a3)] [])) t → Steps p.tables e below (s₁.setTop (entryFrame m #[(.ref a1), (.ref a2), (.ref a3)] 3)) t := fun t k => castTop (ef_6 m a1 a2 a3) k
  have KK0 : Keep h0 h0 [a1] := Keep.refl h0 [a1]
  have pre1 : ∀ t, Steps p.tables e below (s₁.setTop (mkF m 1 #[.val (.ref a1), .val (.ref a2), .val (.ref a3)] [(.ref a1)])) t → Steps p.tables e below (s₁.setTop (entryFrame m #[(.ref a1), (.ref a2), (.ref a3)] 3)) t := fun t k => pre0 t (by
    show Steps p.tables e below (s₁.setTop (mkF m 0 #[.val (.ref a1), .val (.ref a2), .val (.ref a3)] [])) _
    refine XS.aloadN X0.here hx rfl (hb hby d6_0) rfl rfl ?_
    show Steps p.tables e below (s₁.setTop (mkF m 1 #[.val (.ref a1), .val (.ref a2), .val (.ref a3)] [(.ref a1)])) _
    exact k)
  obtain ⟨T2, X2, e2, st2⟩ := initO X0 hx hZ hown (hw _ (List.mem_of_getElem? (i := 37) rfl)) (hw _ (List.mem_of_getElem? (i := 20) rfl)) (hw _ (List.mem_of_getElem? (i := 21) rfl)) e0 (g := (mkF m 1 #[.val (.ref a1), .val (.ref a2), .val (.ref a3)] [(.ref a1)])) rfl (by rw [hml]; rfl) rfl (hb hby d6_1) (by decide) (W := 0) (by show 2 * 0 + _ ≤ _; exact Nat.le_of_eq rfl) (by decide)
  have pre3 : ∀ t, Steps p.tables e below (T2.setTop (mkF m 4 #[.val (.ref a1), .val (.ref a2), .val (.ref a3)] [])) t → Steps p.tables e below (s₁.setTop (entryFrame m #[(.ref a1), (.ref a2), (.ref a3)] 3)) t := fun t k => pre1 t (by
    show Steps p.tables e below (s₁.setTop (mkF m 1 #[.val (.ref a1), .val (.ref a2), .val (.ref a3)] [(.ref a1)])) t
    refine st2 _ ?_
    show Steps p.tables e below (T2.setTop (mkF m 4 #[.val (.ref a1), .val (.ref a2), .val (.ref a3)] [])) t
    exact k)
  have pre4 : ∀ t, Steps p.tables e below (T2.setTop (mkF m 6 #[.val (.ref a1), .val (.ref a2), .val (.ref a3)] [(.ref a2), (.ref a1)])) t → Steps p.tables e below (s₁.setTop (entryFrame m #[(.ref a1), (.ref a2), (.ref a3)] 3)) t := fun t k => pre3 t (by
    show Steps p.tables e below (T2.setTop (mkF m 4 #[.val (.ref a1), .val (.ref a2), .val (.ref a3)] [])) _
    refine XS.aloadN X2.here hx rfl (hb hby d6_4) rfl rfl ?_
    show Steps p.tables e below (T2.setTop (mkF m 5 #[.val (.ref a1), .val (.ref a2), .val (.ref a3)] [(.ref a1)])) _
    refine XS.aloadN X2.here hx rfl (hb hby d6_5) rfl rfl ?_
    show Steps p.tables e below (T2.setTop (mkF m 6 #[.val (.ref a1), .val (.ref a2), .val (.ref a3)] [(.ref a2), (.ref a1)])) _
    exact k)
  obtain ⟨T5, h5, X5, e5, W5, st5⟩ := putF X2 hx hZ hown (host := "") (Or.inl (hw _ (List.mem_of_getElem? (i := 38) rfl))) Via.refl e2 F_command_a1 E_a1 (Or.inr ⟨(hw _ (List.mem_of_getElem? (i := 39) rfl)), rfl, hnm⟩) (hw _ (List.mem_of_getElem? (i := 29) rfl)) (ty := (.object "java/lang/String")) (by decide) rfl rfl (g := (mkF m 6 #[.val (.ref a1), .val (.ref a2), .val (.ref a3)] [(.ref a2), (.ref a1)])) rfl rfl (hb hby d6_6)
  have E_a1_5 := E_a1.wr W5
  have X_a3_5 := X_a3.wr W5
  have V_a3_5 := V_a3.other W5 (Nat.ne_of_lt o31)
  have F_args_a1_5 := F_args_a1.other W5 (Or.inr (slot_ne (Or.inr (hw _ (List.mem_of_getElem? (i := 50) rfl))) (Or.inr (hw _ (List.mem_of_getElem? (i := 39) rfl))) (by decide) (t := (.array (.object "java/lang/String"))) (t' := (.object "java/lang/String")) (by decide) (by decide)))
  have F_next_a1_5 := F_next_a1.other W5 (Or.inr (slot_ne (Or.inl (hw _ (List.mem_of_getElem? (i := 57) rfl))) (Or.inr (hw _ (List.mem_of_getElem? (i := 39) rfl))) (by decide) (t := .int) (t' := (.object "java/lang/String")) (by decide) (by decide)))
  have KK5 := KK0.wr W5 (Or.inl (List.mem_of_getElem? (i := 0) rfl))
  have F_command_a1_5 := F_command_a1.same W5
  have N5 := Fr.snoc X5 N0 g_a1
  have pre6 : ∀ t, Steps p.tables e below (T5.setTop (mkF m 9 #[.val (.ref a1), .val (.ref a2), .val (.ref a3)] [])) t → Steps p.tables e below (s₁.setTop (entryFrame m #[(.ref a1), (.ref a2), (.ref a3)] 3)) t := fun t k => pre4 t (by
    show Steps p.tables e below (T2.setTop (mkF m 6 #[.val (.ref a1), .val (.ref a2), .val (.ref a3)] [(.ref a2), (.ref a1)])) t
    refine st5 _ ?_
    show Steps p.tables e below (T5.setTop (mkF m 9 #[.val (.ref a1), .val (.ref a2), .val (.ref a3)] [])) t
    exact k)
  have pre7 : ∀ t, Steps p.tables e below (T5.setTop (mkF m 11 #[.val (.ref a1), .val (.ref a2), .val (.ref a3)] [(.ref a3), (.ref a1)])) t → Steps p.tables e below (s₁.setTop (entryFrame m #[(.ref a1), (.ref a2), (.ref a3)] 3)) t := fun t k => pre6 t (by
    show Steps p.tables e below (T5.setTop (mkF m 9 #[.val (.ref a1), .val (.ref a2), .val (.ref a3)] [])) _
    refine XS.aloadN X5.here hx rfl (hb hby d6_9) rfl rfl ?_
    show Steps p.tables e below (T5.setTop (mkF m 10 #[.val (.ref a1), .val (.ref a2), .val (.ref a3)] [(.ref a1)])) _
    refine XS.aloadN X5.here hx rfl (hb hby d6_10) rfl rfl ?_
    show Steps p.tables e below (T5.setTop (mkF m 11 #[.val (.ref a1), .val (.ref a2), .val (.ref a3)] [(.ref a3), (.ref a1)])) _
    exact k)
  obtain ⟨T8, h8, X8, e8, E8, V8, Xb8, st8⟩ := cloneH X5 hx hZ hown (hw _ (List.mem_of_getElem? (i := 40) rfl)) (hw _ (List.mem_of_getElem? (i := 41) rfl)) (hw _ (List.mem_of_getElem? (i := 45) rfl)) (hw _ (List.mem_of_getElem? (i := 43) rfl)) (hw _ (List.mem_of_getElem? (i := 44) rfl)) (hw _ (List.mem_of_getElem? (i := 46) rfl)) e5 (Arv.arh V_a3_5) X_a3_5 (g := (mkF m 11 #[.val (.ref a1), .val (.ref a2), .val (.ref a3)] [(.ref a3), (.ref a1)])) rfl (by rw [hml]; rfl) rfl (hb hby d6_11) (by decide) (W := 1) (cap := 3) (by show 2 * 0 + _ ≤ _; exact Nat.le_of_eq rfl) (by decide) hz (by decide) (by decide)
  obtain ⟨b, ge8⟩ : ∃ z, z = h5.size := ⟨_, rfl⟩
  rw [← ge8] at V8 Xb8 st8
  have gq8 := Nat.le_of_eq ge8.symm
  have o_a1_b : a1 < b := Nat.lt_of_lt_of_le E_a1_5.lt gq8
  have o_a3_b : a3 < b := Nat.lt_of_lt_of_le X_a3_5.lt gq8
  have g_b : n0 ≤ b := Nat.le_trans Z0 (Nat.le_trans KK5.1 gq8)
  have sz_b : h0.size ≤ b := Nat.le_trans KK5.1 gq8
  have E_a1_8 := E_a1_5.ext E8
  have X_a3_8 := X_a3_5.ext E8
  have V_a3_8 := V_a3_5.ext E8
  have F_command_a1_8 := F_command_a1_5.ext E8
  have F_args_a1_8 := F_args_a1_5.ext E8
  have F_next_a1_8 := F_next_a1_5.ext E8
  have KK8 := KK5.ext E8
  have V_b : Arv Z h8 b k (.object "java/lang/String") z vs .null := V8
  have pre9 : ∀ t, Steps p.tables e below (T8.setTop (mkF m 14 #[.val (.ref a1), .val (.ref a2), .val (.ref a3)] [(.ref b), (.ref a1)])) t → Steps p.tables e below (s₁.setTop (entryFrame m #[(.ref a1), (.ref a2), (.ref a3)] 3)) t := fun t k => pre7 t (by
    show Steps p.tables e below (T5.setTop (mkF m 11 #[.val (.ref a1), .val (.ref a2), .val (.ref a3)] [(.ref a3), (.ref a1)])) t
    refine st8 _ ?_
    show Steps p.tables e below (T8.setTop (mkF m 14 #[.val (.ref a1), .val (.ref a2), .val (.ref a3)] [(.ref b), (.ref a1)])) t
    exact k)
  obtain ⟨T10, X10, e10, st10⟩ := castY X8 hx hZ hown (hw _ (List.mem_of_getElem? (i := 47) rfl)) e8 (Ins.self Xb8) (g := (mkF m 14 #[.val (.ref a1), .val (.ref a2), .val (.ref a3)] [(.ref b), (.ref a1)])) rfl rfl (hb hby d6_14)
  have pre11 : ∀ t, Steps p.tables e below (T10.setTop (mkF m 17 #[.val (.ref a1), .val (.ref a2), .val (.ref a3)] [(.ref b), (.ref a1)])) t → Steps p.tables e below (s₁.setTop (entryFrame m #[(.ref a1), (.ref a2), (.ref a3)] 3)) t := fun t k => pre9 t (by
    show Steps p.tables e below (T8.setTop (mkF m 14 #[.val (.ref a1), .val (.ref a2), .val (.ref a3)] [(.ref b), (.ref a1)])) t
    refine st10 _ ?_
    show Steps p.tables e below (T10.setTop (mkF m 17 #[.val (.ref a1), .val (.ref a2), .val (.ref a3)] [(.ref b), (.ref a1)])) t
    exact k)
  obtain ⟨T12, h12, X12, e12, W12, st12⟩ := putF X10 hx hZ hown (host := "") (Or.inl (hw _ (List.mem_of_getElem? (i := 49) rfl))) Via.refl e10 F_args_a1_8 E_a1_8 (Or.inr ⟨(hw _ (List.mem_of_getElem? (i := 50) rfl)), rfl, hnm⟩) (hw _ (List.mem_of_getElem? (i := 29) rfl)) (ty := (.array (.object "java/lang/String"))) (by decide) rfl rfl (g := (mkF m 17 #[.val (.ref a1), .val (.ref a2), .val (.ref a3)] [(.ref b), (.ref a1)])) rfl rfl (hb hby d6_17)
  have E_a1_12 := E_a1_8.wr W12
  have X_a3_12 := X_a3_8.wr W12
  have V_a3_12 := V_a3_8.other W12 (Nat.ne_of_lt o31)
  have F_command_a1_12 := F_command_a1_8.other W12 (Or.inr (slot_ne (Or.inr (hw _ (List.mem_of_getElem? (i := 39) rfl))) (Or.inr (hw _ (List.mem_of_getElem? (i := 50) rfl))) (by decide) (t := (.object "java/lang/String")) (t' := (.array (.object "java/lang/String"))) (by decide) (by decide)))
  have F_next_a1_12 := F_next_a1_8.other W12 (Or.inr (slot_ne (Or.inl (hw _ (List.mem_of_getElem? (i := 57) rfl))) (Or.inr (hw _ (List.mem_of_getElem? (i := 50) rfl))) (by decide) (t := .int) (t' := (.array (.object "java/lang/String"))) (by decide) (by decide)))
  have V_b_12 := V_b.other W12 (Nat.ne_of_gt o_a1_b)
  have KK12 := KK8.wr W12 (Or.inl (List.mem_of_getElem? (i := 0) rfl))
  have F_args_a1_12 := F_args_a1_8.same W12
  have N12 := Fr.snoc X12 N5 g_a1
  have pre13 : ∀ t, Steps p.tables e below (T12.setTop (mkF m 20 #[.val (.ref a1), .val (.ref a2), .val (.ref a3)] [])) t → Steps p.tables e below (s₁.setTop (entryFrame m #[(.ref a1), (.ref a2), (.ref a3)] 3)) t := fun t k => pre11 t (by
    show Steps p.tables e below (T10.setTop (mkF m 17 #[.val (.ref a1), .val (.ref a2), .val (.ref a3)] [(.ref b), (.ref a1)])) t
    refine st12 _ ?_
    show Steps p.tables e below (T12.setTop (mkF m 20 #[.val (.ref a1), .val (.ref a2), .val (.ref a3)] [])) t
    exact k)
  obtain ⟨fs, hr, hrun, hended, hW, hsame⟩ := X12.leave (v := none) (fun _ => rfl)
  refine ⟨_, _, pre13 _ ?_, hrun, hended, _, _, rfl, ?_, ⟨_, rfl⟩, hW, hsame.mono (by decide) (by decide)⟩
  · show Steps p.tables e below (T12.setTop (mkF m 20 #[.val (.ref a1), .val (.ref a2), .val (.ref a3)] [])) _
    exact X12.returnOut hx Bd.returns (hb hby d6_20) hr
  · show Q6 Z a1 a2 a3 k z vs h0 n0 _ T12.heap _
    rw [e12]
    exact ⟨b, rfl, N12, sz_b, KK12, E_a1_12, F_args_a1_12, F_next_a1_12, V_b_12⟩
theorem d7_0 : decode prog_1_method_2_code 0 = .ok (.aload_n 0, 1) := by decide +kernel
theorem d7_1 : decode prog_1_method_2_code 1 = .ok (.getfield 22, 3) := by decide +kernel
theorem d7_4 : decode prog_1_method_2_code 4 = .ok (.aload_n 0, 1) := by decide +kernel
theorem d7_5 : decode prog_1_method_2_code 5 = .ok (.getfield 19, 3) := by decide +kernel
theorem d7_8 : decode prog_1_method_2_code 8 = .ok (.arraylength, 1) := by decide +kernel
theorem d7_9 : decode prog_1_method_2_code 9 = .ok (.if_icmp .ge 7, 3) := by decide +kernel
theorem d7_12 : decode prog_1_method_2_code 12 = .ok (.iconst 1, 1) := by decide +kernel
theorem d7_13 : decode prog_1_method_2_code 13 = .ok (.goto 4, 3) := by decide +kernel
theorem d7_16 : decode prog_1_method_2_code 16 = .ok (.iconst 0, 1) := by decide +kernel
theorem d7_17 : decode prog_1_method_2_code 17 = .ok (.ireturn, 1) := by decide +kernel
theorem pn_7 : plainName "com/example/arcsieve/arcsieve/Arguments" = true := by first | (simp [plainName, overriddenIn]; done) | decide +kernel
theorem ef_7 (m : MethodId) (x0 : Addr) : entryFrame m #[(.ref x0)] 1 = mkF m 0 #[.val (.ref x0)] [] := by first | (simp [entryFrame, mkF, argsToLocals, Value.category]; done) | rfl
def Q7 (Z : State) (a1 b : Addr) (i : Int32) (k : ClassId) (z : Int32) (vs : List Value) (h0 : Heap) (n0 : Nat) (v : Option Value) (h : Heap) (L : List Loc) : Prop := v = some (.int (own_has i z)) ∧ Fr n0 L ∧ h = h0
set_option maxRecDepth 65536 in
set_option maxHeartbeats 40000000 in
theorem rm7 (l : Launch) (Z : State) (a0 : Array Value) (hw : ∀ d ∈ tables_1, d.before a0 Z = true) (ws : List Jvm.Cond) (a1 b : Addr) (i : Int32) (k : ClassId) (z : Int32) (vs : List Value) (h0 : Heap) (n0 : Nat) (Z0 : n0 ≤ h0.size) (Fn : Fld Z h0 a1 "com/example/arcsieve/arcsieve/Arguments" "next" "I" (.int i)) (Fa : Fld Z h0 a1 "com/example/arcsieve/arcsieve/Arguments" "args" "[Ljava/lang/String;" (.ref b)) (Vb : Arv Z h0 b k (.object "java/lang/String") z vs .null) :
    MetFree l (⟨"com/example/arcsieve/arcsieve/Arguments", "hasNext", "()Z"⟩ : MethodName) (head1 (Jvm.Cond.code (⟨"com/example/arcsieve/arcsieve/Arguments", "hasNext", "()Z"⟩ : MethodName) prog_1_method_2_code 1 (some .boolean) :: ws) ({ frames := 0, cells := 0, slots := 0, locals := 0 } : Room)) (fun a U => a = #[(.ref a1)] ∧ Z.Warmed39 U.vm ∧ U.heap = h0) (fun _ _ _ _ _ => True) (fun _ U o U' => ∃ v L, o = .returned v ∧ Q7 Z a1 b i k z vs h0 n0 v U'.heap L ∧ FrameEnd U o U' L ({ frames := 0, cells := 0, slots := 0, locals := 0 } : Room).cells ({ frames := 0, cells := 0, slots := 0, locals := 0 } : Room).slots) := by
  refine MetFree.of_bodySF (plainFor_of_name pn_7) hisR ?_
  intro p e s m args below meth c s₁ Bd hml0 hP hK
  obtain ⟨rfl, hZ, hh⟩ := hP
  have hx := Bd.exec
  have hby := Bd.bytes
  have hml : c.maxLocals = 1 := hml0
  have hown : s.vm.findClass "com/example/arcsieve/arcsieve/Arguments" = some m.cls := findClass_of_methodNamed Bd.named
  have hnm := (name_of_methodNamed Bd.named Bd.method).1
  have X0 : Stand p l e ({ frames := 0, cells := 0, slots := 0, locals := 0 } : Room) s m #[(.ref a1)] below meth c s₁ [] 0 0 := Stand.of_body Bd
  have e0 : s₁.heap = h0 := by rw [← hh, Bd.state]; rfl
  have N0 := Fr.nil n0
  have pre0 : ∀ t, Steps p.tables e below (s₁.setTop (mkF m 0 #[.val (.ref a1)] [])) t → Steps p.tables e below (s₁.setTop (entryFrame m #[(.ref a1)] 1)) t := fun t k => castTop (ef_7 m a1) k
  have pre1 : ∀ t, Steps p.tables e below (s₁.setTop (mkF m 1 #[.val (.ref a1)] [(.ref a1)])) t → Steps p.tables e below (s₁.setTop (entryFrame m #[(.ref a1)] 1)) t := fun t k => pre0 t (by
    show Steps p.tables e below (s₁.setTop (mkF m 0 #[.val (.ref a1)] [])) _
    refine XS.aloadN X0.here hx rfl (hb hby d7_0) rfl rfl ?_
    show Steps p.tables e below (s₁.setTop (mkF m 1 #[.val (.ref a1)] [(.ref a1)])) _
    exact k)
  obtain ⟨T2, X2, e2, st2⟩ := getF X0 hx hZ hown (host := "") (Or.inl (hw _ (List.mem_of_getElem? (i := 56) rfl))) Via.refl e0 Fn (g := (mkF m 1 #[.val (.ref a1)] [(.ref a1)])) rfl rfl (hb hby d7_1)
  have pre3 : ∀ t, Steps p.tables e below (T2.setTop (mkF m 4 #[.val (.ref a1)] [(.int i)])) t → Steps p.tables e below (s₁.setTop (entryFrame m #[(.ref a1)] 1)) t := fun t k => pre1 t (by
    show Steps p.tables e below (s₁.setTop (mkF m 1 #[.val (.ref a1)] [(.ref a1)])) t
    refine st2 _ ?_
    show Steps p.tables e below (T2.setTop (mkF m 4 #[.val (.ref a1)] [(.int i)])) t
    exact k)
  have pre4 : ∀ t, Steps p.tables e below (T2.setTop (mkF m 5 #[.val (.ref a1)] [(.ref a1), (.int i)])) t → Steps p.tables e below (s₁.setTop (entryFrame m #[(.ref a1)] 1)) t := fun t k => pre3 t (by
    show Steps p.tables e below (T2.setTop (mkF m 4 #[.val (.ref a1)] [(.int i)])) _
    refine XS.aloadN X2.here hx rfl (hb hby d7_4) rfl rfl ?_
    show Steps p.tables e below (T2.setTop (mkF m 5 #[.val (.ref a1)] [(.ref a1), (.int i)])) _
    exact k)
  obtain ⟨T5, X5, e5, st5⟩ := getF X2 hx hZ hown (host := "") (Or.inl (hw _ (List.mem_of_getElem? (i := 49) rfl))) Via.refl e2 Fa (g := (mkF m 5 #[.val (.ref a1)] [(.ref a1), (.int i)])) rfl rfl (hb hby d7_5)
  have pre6 : ∀ t, Steps p.tables e below (T5.setTop (mkF m 8 #[.val (.ref a1)] [(.ref b), (.int i)])) t → Steps p.tables e below (s₁.setTop (entryFrame m #[(.ref a1)] 1)) t := fun t k => pre4 t (by
    show Steps p.tables e below (T2.setTop (mkF m 5 #[.val (.ref a1)] [(.ref a1), (.int i)])) t
    refine st5 _ ?_
    show Steps p.tables e below (T5.setTop (mkF m 8 #[.val (.ref a1)] [(.ref b), (.int i)])) t
    exact k)
  obtain ⟨cl, Ar, qc, Sz, Nz, Hh, Gg⟩ := Vb
  have pre7 : ∀ t, Steps p.tables e below (T5.setTop (mkF m 9 #[.val (.ref a1)] [(.int z), (.int i)])) t → Steps p.tables e below (s₁.setTop (entryFrame m #[(.ref a1)] 1)) t := fun t k => pre6 t (by
    show Steps p.tables e below (T5.setTop (mkF m 8 #[.val (.ref a1)] [(.ref b), (.int i)])) t
    refine X5.arraylength hx (by rw [e5]; exact Ar.1) (State.isArrayOf_alike hZ.alike Ar.2.1) (g := (mkF m 8 #[.val (.ref a1)] [(.ref b), (.int i)])) rfl rfl (hb hby d7_8) _ ?_
    rw [len_of Sz Nz]
    exact k)
  by_cases hc : i < z
  · skip
    have pre8 : ∀ t, Steps p.tables e below (T5.setTop (mkF m 17 #[.val (.ref a1)] [(.int (1 : Int32))])) t → Steps p.tables e below (s₁.setTop (entryFrame m #[(.ref a1)] 1)) t := fun t k => pre7 t (by
      show Steps p.tables e below (T5.setTop (mkF m 9 #[.val (.ref a1)] [(.int z), (.int i)])) _
      refine XS.icmpNo X5.here hx rfl (hb hby d7_9) rfl (tlt hc).2.1 ?_
      show Steps p.tables e below (T5.setTop (mkF m 12 #[.val (.ref a1)] [])) _
      refine XS.iconst X5.here hx rfl (hb hby d7_12) ?_
      show Steps p.tables e below (T5.setTop (mkF m 13 #[.val (.ref a1)] [(.int (1 : Int32))])) _
      refine XS.goto X5.here hx rfl (pc0 := 13) (pc' := 17) rfl (hb hby d7_13) (by decide) (by decide) ?_
      show Steps p.tables e below (T5.setTop (mkF m 17 #[.val (.ref a1)] [(.int (1 : Int32))])) _
      exact k)
    obtain ⟨fs, hr, hrun, hended, hW, hsame⟩ := X5.leave (v := some (.int (1 : Int32))) (fun h => by rw [Bd.returns] at h; cases h)
    refine ⟨_, _, pre8 _ ?_, hrun, hended, _, _, rfl, ?_, ⟨_, rfl⟩, hW, hsame.mono (by decide) (by decide)⟩
    · show Steps p.tables e below (T5.setTop (mkF m 17 #[.val (.ref a1)] [(.int (1 : Int32))])) _
      exact retN X5 hx (t := .boolean) Bd.returns (by simp) (hb hby d7_17) hr
    · show Q7 Z a1 b i k z vs h0 n0 _ T5.heap _
      rw [e5]
      exact ⟨congrArg (fun z => some (Value.int z)) (Eq.symm (if_pos hc)), N0, rfl⟩
  · skip
    have pre9 : ∀ t, Steps p.tables e below (T5.setTop (mkF m 17 #[.val (.ref a1)] [(.int (0 : Int32))])) t → Steps p.tables e below (s₁.setTop (entryFrame m #[(.ref a1)] 1)) t := fun t k => pre7 t (by
      show Steps p.tables e below (T5.setTop (mkF m 9 #[.val (.ref a1)] [(.int z), (.int i)])) _
      refine XS.icmpYes X5.here hx rfl (pc0 := 9) (pc' := 16) rfl (hb hby d7_9) rfl (flt hc).2.1 (by decide) (by decide) ?_
      show Steps p.tables e below (T5.setTop (mkF m 16 #[.val (.ref a1)] [])) _
      refine XS.iconst X5.here hx rfl (hb hby d7_16) ?_
      show Steps p.tables e below (T5.setTop (mkF m 17 #[.val (.ref a1)] [(.int (0 : Int32))])) _
      exact k)
    obtain ⟨fs, hr, hrun, hended, hW, hsame⟩ := X5.leave (v := some (.int (0 : Int32))) (fun h => by rw [Bd.returns] at h; cases h)
    refine ⟨_, _, pre9 _ ?_, hrun, hended, _, _, rfl, ?_, ⟨_, rfl⟩, hW, hsame.mono (by decide) (by decide)⟩
    · show Steps p.tables e below (T5.setTop (mkF m 17 #[.val (.ref a1)] [(.int (0 : Int32))])) _
      exact retN X5 hx (t := .boolean) Bd.returns (by simp) (hb hby d7_17) hr
    · show Q7 Z a1 b i k z vs h0 n0 _ T5.heap _
      rw [e5]
      exact ⟨congrArg (fun z => some (Value.int z)) (Eq.symm (if_neg hc)), N0, rfl⟩
theorem d8_0 : decode prog_1_method_3_code 0 = .ok (.aload_n 0, 1) := by decide +kernel
theorem d8_1 : decode prog_1_method_3_code 1 = .ok (.getfield 19, 3) := by decide +kernel
theorem d8_4 : decode prog_1_method_3_code 4 = .ok (.aload_n 0, 1) := by decide +kernel
theorem d8_5 : decode prog_1_method_3_code 5 = .ok (.dup, 1) := by decide +kernel
theorem d8_6 : decode prog_1_method_3_code 6 = .ok (.getfield 22, 3) := by decide +kernel
theorem d8_9 : decode prog_1_method_3_code 9 = .ok (.dup_x1, 1) := by decide +kernel
theorem d8_10 : decode prog_1_method_3_code 10 = .ok (.iconst 1, 1) := by decide +kernel
theorem d8_11 : decode prog_1_method_3_code 11 = .ok (.iadd, 1) := by decide +kernel
theorem d8_12 : decode prog_1_method_3_code 12 = .ok (.putfield 22, 3) := by decide +kernel
theorem d8_15 : decode prog_1_method_3_code 15 = .ok (.aaload, 1) := by decide +kernel
theorem d8_16 : decode prog_1_method_3_code 16 = .ok (.areturn, 1) := by decide +kernel
theorem pn_8 : plainName "com/example/arcsieve/arcsieve/Arguments" = true := by first | (simp [plainName, overriddenIn]; done) | decide +kernel
theorem ef_8 (m : MethodId) (x0 : Addr) : entryFrame m #[(.ref x0)] 1 = mkF m 0 #[.val (.ref x0)] [] := by first | (simp [entryFrame, mkF, argsToLocals, Value.category]; done) | rfl
def Q8 (Z : State) (a1 b sx : Addr) (i : Int32) (k : ClassId) (z : Int32) (vs : List Value) (h0 : Heap) (n0 : Nat) (v : Option Value) (h : Heap) (L : List Loc) : Prop := v = some (.ref sx) ∧ Fr n0 L ∧ Keep h0 h [a1] ∧ Fld Z h a1 "com/example/arcsieve/arcsieve/Arguments" "next" "I" (.int (i + (1 : Int32))) ∧ Fld Z h a1 "com/example/arcsieve/arcsieve/Arguments" "args" "[Ljava/lang/String;" (.ref b)
set_option maxRecDepth 65536 in
set_option maxHeartbeats 40000000 in
theorem rm8 (l : Launch) (Z : State) (a0 : Array Value) (hw : ∀ d ∈ tables_1, d.before a0 Z = true) (ws : List Jvm.Cond) (a1 b sx : Addr) (i : Int32) (k : ClassId) (z : Int32) (vs : List Value) (h0 : Heap) (n0 : Nat) (Z0 : n0 ≤ h0.size) (E_a1 : Exa Z h0 a1 "com/example/arcsieve/arcsieve/Arguments") (Fn : Fld Z h0 a1 "com/example/arcsieve/arcsieve/Arguments" "next" "I" (.int i)) (Fa : Fld Z h0 a1 "com/example/arcsieve/arcsieve/Arguments" "args" "[Ljava/lang/String;" (.ref b)) (Vb : Arv Z h0 b k (.object "java/lang/String") z vs .null) (hi : ¬ i < 0 ∧ i < z) (hat : vs.getD i.toNatClampNeg .null = .ref sx) (g_a1 : n0 ≤ a1) (o1b : a1 < b) :
    MetFree l (⟨"com/example/arcsieve/arcsieve/Arguments", "next", "()Ljava/lang/String;"⟩ : MethodName) (head1 (Jvm.Cond.code (⟨"com/example/arcsieve/arcsieve/Arguments", "next", "()Ljava/lang/String;"⟩ : MethodName) prog_1_method_3_code 1 (some (.object "java/lang/String")) :: ws) ({ frames := 0, cells := 0, slots := 0, locals := 0 } : Room)) (fun a U => a = #[(.ref a1)] ∧ Z.Warmed39 U.vm ∧ U.heap = h0) (fun _ _ _ _ _ => True) (fun _ U o U' => ∃ v L, o = .returned v ∧ Q8 Z a1 b sx i k z vs h0 n0 v U'.heap L ∧ FrameEnd U o U' L ({ frames := 0, cells := 0, slots := 0, locals := 0 } : Room).cells ({ frames := 0, cells := 0, slots := 0, locals := 0 } : Room).slots) := by
  refine MetFree.of_bodySF (plainFor_of_name pn_8) hisR ?_
  intro p e s m args below meth c s₁ Bd hml0 hP hK
  obtain ⟨rfl, hZ, hh⟩ := hP
  have hx := Bd.exec
  have hby := Bd.bytes
  have hml : c.maxLocals = 1 := hml0
  have hown : s.vm.findClass "com/example/arcsieve/arcsieve/Arguments" = some m.cls := findClass_of_methodNamed Bd.named
  have hnm := (name_of_methodNamed Bd.named Bd.method).1
  have X0 : Stand p l e ({ frames := 0, cells := 0, slots := 0, locals := 0 } : Room) s m #[(.ref a1)] below meth c s₁ [] 0 0 := Stand.of_body Bd
  have e0 : s₁.heap = h0 := by rw [← hh, Bd.state]; rfl
  have N0 := Fr.nil n0
  have pre0 : ∀ t, Steps p.tables e below (s₁.setTop (mkF m 0 #[.val (.ref a1)] [])) t → Steps p.tables e below (s₁.setTop (entryFrame m #[(.ref a1)] 1)) t := fun t k => castTop (ef_8 m a1) k
  have KK0 : Keep h0 h0 [a1] := Keep.refl h0 [a1]
  have pre1 : ∀ t, Steps p.tables e below (s₁.setTop (mkF m 1 #[.val (.ref a1)] [(.ref a1)])) t → Steps p.tables e below (s₁.setTop (entryFrame m #[(.ref a1)] 1)) t := fun t k => pre0 t (by
    show Steps p.tables e below (s₁.setTop (mkF m 0 #[.val (.ref a1)] [])) _
    refine XS.aloadN X0.here hx rfl (hb hby d8_0) rfl rfl ?_
    show Steps p.tables e below (s₁.setTop (mkF m 1 #[.val (.ref a1)] [(.ref a1)])) _
    exact k)
  obtain ⟨T2, X2, e2, st2⟩ := getF X0 hx hZ hown (host := "") (Or.inl (hw _ (List.mem_of_getElem? (i := 49) rfl))) Via.refl e0 Fa (g := (mkF m 1 #[.val (.ref a1)] [(.ref a1)])) rfl rfl (hb hby d8_1)
  have pre3 : ∀ t, Steps p.tables e below (T2.setTop (mkF m 4 #[.val (.ref a1)] [(.ref b)])) t → Steps p.tables e below (s₁.setTop (entryFrame m #[(.ref a1)] 1)) t := fun t k => pre1 t (by
    show Steps p.tables e below (s₁.setTop (mkF m 1 #[.val (.ref a1)] [(.ref a1)])) t
    refine st2 _ ?_
    show Steps p.tables e below (T2.setTop (mkF m 4 #[.val (.ref a1)] [(.ref b)])) t
    exact k)
  have pre4 : ∀ t, Steps p.tables e below (T2.setTop (mkF m 6 #[.val (.ref a1)] [(.ref a1), (.ref a1), (.ref b)])) t → Steps p.tables e below (s₁.setTop (entryFrame m #[(.ref a1)] 1)) t := fun t k => pre3 t (by
    show Steps p.tables e below (T2.setTop (mkF m 4 #[.val (.ref a1)] [(.ref b)])) _
    refine XS.aloadN X2.here hx rfl (hb hby d8_4) rfl rfl ?_
    show Steps p.tables e below (T2.setTop (mkF m 5 #[.val (.ref a1)] [(.ref a1), (.ref b)])) _
    refine XS.dup X2.here hx rfl (hb hby d8_5) rfl rfl ?_
    show Steps p.tables e below (T2.setTop (mkF m 6 #[.val (.ref a1)] [(.ref a1), (.ref a1), (.ref b)])) _
    exact k)
  obtain ⟨T5, X5, e5, st5⟩ := getF X2 hx hZ hown (host := "") (Or.inl (hw _ (List.mem_of_getElem? (i := 56) rfl))) Via.refl e2 Fn (g := (mkF m 6 #[.val (.ref a1)] [(.ref a1), (.ref a1), (.ref b)])) rfl rfl (hb hby d8_6)
  have pre6 : ∀ t, Steps p.tables e below (T5.setTop (mkF m 9 #[.val (.ref a1)] [(.int i), (.ref a1), (.ref b)])) t → Steps p.tables e below (s₁.setTop (entryFrame m #[(.ref a1)] 1)) t := fun t k => pre4 t (by
    show Steps p.tables e below (T2.setTop (mkF m 6 #[.val (.ref a1)] [(.ref a1), (.ref a1), (.ref b)])) t
    refine st5 _ ?_
    show Steps p.tables e below (T5.setTop (mkF m 9 #[.val (.ref a1)] [(.int i), (.ref a1), (.ref b)])) t
    exact k)
  have pre7 : ∀ t, Steps p.tables e below (T5.setTop (mkF m 12 #[.val (.ref a1)] [(.int (i + (1 : Int32))), (.ref a1), (.int i), (.ref b)])) t → Steps p.tables e below (s₁.setTop (entryFrame m #[(.ref a1)] 1)) t := fun t k => pre6 t (by
    show Steps p.tables e below (T5.setTop (mkF m 9 #[.val (.ref a1)] [(.int i), (.ref a1), (.ref b)])) _
    refine XS.dupX1 X5.here hx rfl (hb hby d8_9) rfl rfl rfl ?_
    show Steps p.tables e below (T5.setTop (mkF m 10 #[.val (.ref a1)] [(.int i), (.ref a1), (.int i), (.ref b)])) _
    refine XS.iconst X5.here hx rfl (hb hby d8_10) ?_
    show Steps p.tables e below (T5.setTop (mkF m 11 #[.val (.ref a1)] [(.int (1 : Int32)), (.int i), (.ref a1), (.int i), (.ref b)])) _
    refine XS.iadd X5.here hx rfl (hb hby d8_11) rfl ?_
    show Steps p.tables e below (T5.setTop (mkF m 12 #[.val (.ref a1)] [(.int (i + (1 : Int32))), (.ref a1), (.int i), (.ref b)])) _
    exact k)
  obtain ⟨T8, h8, X8, e8, W8, st8⟩ := putF X5 hx hZ hown (host := "") (Or.inl (hw _ (List.mem_of_getElem? (i := 56) rfl))) Via.refl e5 Fn E_a1 (Or.inl (hw _ (List.mem_of_getElem? (i := 57) rfl))) (hw _ (List.mem_of_getElem? (i := 29) rfl)) (ty := .int) (by decide) rfl rfl (g := (mkF m 12 #[.val (.ref a1)] [(.int (i + (1 : Int32))), (.ref a1), (.int i), (.ref b)])) rfl rfl (hb hby d8_12)
  have E_a1_8 := E_a1.wr W8
  have Fa_8 := Fa.other W8 (Or.inr (slot_ne (Or.inr (hw _ (List.mem_of_getElem? (i := 50) rfl))) (Or.inl (hw _ (List.mem_of_getElem? (i := 57) rfl))) (by decide) (t := (.array (.object "java/lang/String"))) (t' := .int) (by decide) (by decide)))
  have Vb_8 := Vb.other W8 (Nat.ne_of_gt o1b)
  have KK8 := KK0.wr W8 (Or.inl (List.mem_of_getElem? (i := 0) rfl))
  have Fn_8 := Fn.same W8
  have N8 := Fr.snoc X8 N0 g_a1
  have pre9 : ∀ t, Steps p.tables e below (T8.setTop (mkF m 15 #[.val (.ref a1)] [(.int i), (.ref b)])) t → Steps p.tables e below (s₁.setTop (entryFrame m #[(.ref a1)] 1)) t := fun t k => pre7 t (by
    show Steps p.tables e below (T5.setTop (mkF m 12 #[.val (.ref a1)] [(.int (i + (1 : Int32))), (.ref a1), (.int i), (.ref b)])) t
    refine st8 _ ?_
    show Steps p.tables e below (T8.setTop (mkF m 15 #[.val (.ref a1)] [(.int i), (.ref b)])) t
    exact k)
  obtain ⟨cl, Ar, qc, Sz, Nz, Hh, Gg⟩ := Vb_8
  have hin := inb_of Sz hi
  have hatc : cl.slots[i.toNatClampNeg]? = some (.ref sx) := by rw [← hat]; exact Hh _ (Nat.lt_of_not_le fun q => hin (Or.inr q))
  have pre10 : ∀ t, Steps p.tables e below (T8.setTop (mkF m 16 #[.val (.ref a1)] [(.ref sx)])) t → Steps p.tables e below (s₁.setTop (entryFrame m #[(.ref a1)] 1)) t := fun t k => pre9 t (by
    show Steps p.tables e below (T8.setTop (mkF m 15 #[.val (.ref a1)] [(.int i), (.ref b)])) t
    refine X8.aaload hx (j := i) (v := (.ref sx)) (by rw [e8]; exact Ar.1) (State.isArrayOf_alike hZ.alike Ar.2.1) rfl Ar.2.2 hin hatc (g := (mkF m 15 #[.val (.ref a1)] [(.int i), (.ref b)])) rfl rfl (hb hby d8_15) _ ?_
    exact k)
  obtain ⟨fs, hr, hrun, hended, hW, hsame⟩ := X8.leave (v := some (.ref sx)) (fun h => by rw [Bd.returns] at h; cases h)
  refine ⟨_, _, pre10 _ ?_, hrun, hended, _, _, rfl, ?_, ⟨_, rfl⟩, hW, hsame.mono (by decide) (by decide)⟩
  · show Steps p.tables e below (T8.setTop (mkF m 16 #[.val (.ref a1)] [(.ref sx)])) _
    jvm_step X8.here [X8.here.top, hx, (hb hby d8_16), X8.method', Bd.returns, Value.isRef, FieldType.isReference]
    first | (intro acts; rw [hr _ acts rfl rfl rfl]) | rw [hr _ _ rfl rfl rfl]
    exact Steps.refl _
  · show Q8 Z a1 b sx i k z vs h0 n0 _ T8.heap _
    rw [e8]
    exact ⟨rfl, N8, KK8, Fn_8, Fa_8⟩
theorem d9_0 : decode jdk_42_method_66_code 0 = .ok (.aload_n 0, 1) := by decide +kernel
theorem d9_1 : decode jdk_42_method_66_code 1 = .ok (.aload_n 1, 1) := by decide +kernel
theorem d9_2 : decode jdk_42_method_66_code 2 = .ok (.if_acmp .ne 5, 3) := by decide +kernel
theorem d9_5 : decode jdk_42_method_66_code 5 = .ok (.iconst 1, 1) := by decide +kernel
theorem d9_6 : decode jdk_42_method_66_code 6 = .ok (.ireturn, 1) := by decide +kernel
theorem pn_9 : plainName "java/lang/String" = true := by first | (simp [plainName, overriddenIn]; done) | decide +kernel
theorem ef_9 (m : MethodId) (x0 : Addr) (x1 : Addr) : entryFrame m #[(.ref x0), (.ref x1)] 3 = mkF m 0 #[.val (.ref x0), .val (.ref x1), .unset] [] := by first | (simp [entryFrame, mkF, argsToLocals, Value.category]; done) | rfl
def Q9 (Z : State) (a1 : Addr) (a2 : Addr) (h0 : Heap) (n0 : Nat) (v : Option Value) (h : Heap) (L : List Loc) : Prop := v = some (.int (1 : Int32)) ∧ Fr n0 L ∧ h = h0
set_option maxRecDepth 65536 in
set_option maxHeartbeats 40000000 in
theorem rm9 (l : Launch) (Z : State) (a0 : Array Value) (hw : ∀ d ∈ tables_1, d.before a0 Z = true) (ws : List Jvm.Cond) (a1 : Addr) (a2 : Addr) (h0 : Heap) (n0 : Nat) (Z0 : n0 ≤ h0.size) (ha2 : a1 = a2) :
    MetFree l (⟨"java/lang/String", "equals", "(Ljava/lang/Object;)Z"⟩ : MethodName) (head1 (Jvm.Cond.code (⟨"java/lang/String", "equals", "(Ljava/lang/Object;)Z"⟩ : MethodName) jdk_42_method_66_code 3 (some .boolean) :: ws) ({ frames := 0, cells := 0, slots := 0, locals := 0 } : Room)) (fun a U => a = #[(.ref a1), (.ref a2)] ∧ Z.Warmed39 U.vm ∧ U.heap = h0) (fun _ _ _ _ _ => True) (fun _ U o U' => ∃ v L, o = .returned v ∧ Q9 Z a1 a2 h0 n0 v U'.heap L ∧ FrameEnd U o U' L ({ frames := 0, cells := 0, slots := 0, locals := 0 } : Room).cells ({ frames := 0, cells := 0, slots := 0, locals := 0 } : Room).slots) := by
  refine MetFree.of_bodySF (plainFor_of_name pn_9) hisR ?_
  intro p e s m args below meth c s₁ Bd hml0 hP hK
  obtain ⟨rfl, hZ, hh⟩ := hP
  have hx := Bd.exec
  have hby := Bd.bytes
  have hml : c.maxLocals = 3 := hml0
  have hown : s.vm.findClass "java/lang/String" = some m.cls := findClass_of_methodNamed Bd.named
  have hnm := (name_of_methodNamed Bd.named Bd.method).1
  have X0 : Stand p l e ({ frames := 0, cells := 0, slots := 0, locals := 0 } : Room) s m #[(.ref a1), (.ref a2)] below meth c s₁ [] 0 0 := Stand.of_body Bd
  have e0 : s₁.heap = h0 := by rw [← hh, Bd.state]; rfl
  have N0 := Fr.nil n0
  have pre0 : ∀ t, Steps p.tables e below (s₁.setTop (mkF m 0 #[.val (.ref a1), .val (.ref a2), .unset] [])) t → Steps p.tables e below (s₁.setTop (entryFrame m #[(.ref a1), (.ref a2)] 3)) t := fun t k => castTop (ef_9 m a1 a2) k

  obtain ⟨fs, hr, hrun, hended, hW, hsame⟩ := X0.leave (v := some (.int (1 : Int32))) (fun h => by rw [Bd.returns] at h; cases h)
  refine ⟨_, _, pre0 _ ?_, hrun, hended, _, _, rfl, ?_, ⟨_, rfl⟩, hW, hsame.mono (by decide) (by decide)⟩
  · show Steps p.tables e below (s₁.setTop (mkF m 0 #[.val (.ref a1), .val (.ref a2), .unset] [])) _
    refine XS.aloadN X0.here hx rfl (hb hby d9_0) rfl rfl ?_
    show Steps p.tables e below (s₁.setTop (mkF m 1 #[.val (.ref a1), .val (.ref a2), .unset] [(.ref a1)])) _
    refine XS.aloadN X0.here hx rfl (hb hby d9_1) rfl rfl ?_
    show Steps p.tables e below (s₁.setTop (mkF m 2 #[.val (.ref a1), .val (.ref a2), .unset] [(.ref a2), (.ref a1)])) _
    refine Jvm.RoadKit.acmp (g := (mkF m 2 #[.val (.ref a1), .val (.ref a2), .unset] [(.ref a2), (.ref a1)])) X0 hx rfl rfl rfl (pc0 := 2) (pc' := 5) (same := true) rfl (hb hby d9_2) rfl (decide_eq_true (congrArg Value.ref ha2)) (by decide) (by decide) ?_
    show Steps p.tables e below (s₁.setTop (mkF m 5 #[.val (.ref a1), .val (.ref a2), .unset] [])) _
    refine XS.iconst X0.here hx rfl (hb hby d9_5) ?_
    show Steps p.tables e below (s₁.setTop (mkF m 6 #[.val (.ref a1), .val (.ref a2), .unset] [(.int (1 : Int32))])) _
    exact retN X0 hx (t := .boolean) Bd.returns (by simp) (hb hby d9_6) hr
  · show Q9 Z a1 a2 h0 n0 _ s₁.heap _
    rw [e0]
    exact ⟨rfl, N0, rfl⟩
theorem pn_0 : plainName "com/example/arcsieve/arcsieve/ArgumentsHasNextPinLaw" = true := by first | (simp [plainName, overriddenIn]; done) | decide +kernel
theorem ef_0 (m : MethodId) (x0 : Int32) (x1 : Int32) (x2 : Int32) (x3 : Int32) : entryFrame m #[(.int x0), (.int x1), (.int x2), (.int x3)] maxLocals = mkF m 0 #[.val (.int x0), .val (.int x1), .val (.int x2), .val (.int x3), .unset, .unset, .unset, .unset, .unset, .unset, .unset] [] := by first | (simp [entryFrame, mkF, argsToLocals, Value.category, maxLocals]; done) | rfl
def Q0 (Z : State) (p1 p2 p3 p4 w2 : Int32) (h0 : Heap) (n0 : Nat) (v : Option Value) (h : Heap) (L : List Loc) : Prop := v = some (.int (1 : Int32)) ∧ Fr n0 L
set_option maxRecDepth 65536 in
set_option maxHeartbeats 40000000 in
theorem rm0 (l : Launch) (Z : State) (a0 : Array Value) (hw : ∀ d ∈ tables_1, d.before a0 Z = true) (ws : List Jvm.Cond) (p1 p2 p3 p4 w2 : Int32) (h0 : Heap) (n0 : Nat) (Z0 : n0 ≤ h0.size) (S0 : Sta Z h0 "java/lang/String" "COMPACT_STRINGS" "Z" (.int w2)) (hc0 : ¬ w2 = (0 : Int32)) :
    MetFree l x (head1 (Jvm.Cond.code x code maxLocals ret :: ws) room_1) (fun a U => a = #[(.int p1), (.int p2), (.int p3), (.int p4)] ∧ Z.Warmed39 U.vm ∧ U.heap = h0) (fun _ _ _ _ _ => True) (fun _ U o U' => ∃ v L, o = .returned v ∧ Q0 Z p1 p2 p3 p4 w2 h0 n0 v U'.heap L ∧ ReturnedEndW U o U' L room_1.cells room_1.slots) := by
  refine MetFree.of_bodySF (plainFor_of_name pn_0) hisR ?_
  intro p e s m args below meth c s₁ Bd hml0 hP hK
  obtain ⟨rfl, hZ, hh⟩ := hP
  have hx := Bd.exec
  have hby := Bd.bytes
  have hml : c.maxLocals = 11 := hml0
  have hown : s.vm.findClass "com/example/arcsieve/arcsieve/ArgumentsHasNextPinLaw" = some m.cls := findClass_of_methodNamed Bd.named
  have hnm := (name_of_methodNamed Bd.named Bd.method).1
  have X0 : Stand p l e room_1 s m #[(.int p1), (.int p2), (.int p3), (.int p4)] below meth c s₁ [] 0 0 := Stand.of_body Bd
  have e0 : s₁.heap = h0 := by rw [← hh, Bd.state]; rfl
  have N0 := Fr.nil n0
  have pre0 : ∀ t, Steps p.tables e below (s₁.setTop (mkF m 0 #[.val (.int p1), .val (.int p2), .val (.int p3), .val (.int p4), .unset, .unset, .unset, .unset, .unset, .unset, .unset] [])) t → Steps p.tables e below (s₁.setTop (entryFrame m #[(.int p1), (.int p2), (.int p3), (.int p4)] maxLocals)) t := fun t k => castTop (ef_0 m p1 p2 p3 p4) k
  have KK0 : Keep h0 h0 [] := Keep.refl h0 []
  have pre1 : ∀ t, Steps p.tables e below (s₁.setTop (mkF m 10 #[.val (.int p1), .val (.int p2), .val (.int p3), .val (.int p4), .val (.int (p1 &&& (3 : Int32))), .unset, .unset, .unset, .unset, .unset, .unset] [(.int (p2 &&& (255 : Int32)))])) t → Steps p.tables e below (s₁.setTop (entryFrame m #[(.int p1), (.int p2), (.int p3), (.int p4)] maxLocals)) t := fun t k => pre0 t (by
    show Steps p.tables e below (s₁.setTop (mkF m 0 #[.val (.int p1), .val (.int p2), .val (.int p3), .val (.int p4), .unset, .unset, .unset, .unset, .unset, .unset, .unset] [])) _
    refine XS.iloadN X0.here hx rfl (hb hby at_0) rfl ?_
    show Steps p.tables e below (s₁.setTop (mkF m 1 #[.val (.int p1), .val (.int p2), .val (.int p3), .val (.int p4), .unset, .unset, .unset, .unset, .unset, .unset, .unset] [(.int p1)])) _
    refine XS.iconst X0.here hx rfl (hb hby at_1) ?_
    show Steps p.tables e below (s₁.setTop (mkF m 2 #[.val (.int p1), .val (.int p2), .val (.int p3), .val (.int p4), .unset, .unset, .unset, .unset, .unset, .unset, .unset] [(.int (3 : Int32)), (.int p1)])) _
    refine XS.iand X0.here hx rfl (hb hby at_2) rfl ?_
    show Steps p.tables e below (s₁.setTop (mkF m 3 #[.val (.int p1), .val (.int p2), .val (.int p3), .val (.int p4), .unset, .unset, .unset, .unset, .unset, .unset, .unset] [(.int (p1 &&& (3 : Int32)))])) _
    refine XS.istore X0.here hx rfl (hb hby at_3) rfl (l' := #[.val (.int p1), .val (.int p2), .val (.int p3), .val (.int p4), .val (.int (p1 &&& (3 : Int32))), .unset, .unset, .unset, .unset, .unset, .unset]) rfl ?_
    show Steps p.tables e below (s₁.setTop (mkF m 5 #[.val (.int p1), .val (.int p2), .val (.int p3), .val (.int p4), .val (.int (p1 &&& (3 : Int32))), .unset, .unset, .unset, .unset, .unset, .unset] [])) _
    refine XS.iloadN X0.here hx rfl (hb hby at_5) rfl ?_
    show Steps p.tables e below (s₁.setTop (mkF m 6 #[.val (.int p1), .val (.int p2), .val (.int p3), .val (.int p4), .val (.int (p1 &&& (3 : Int32))), .unset, .unset, .unset, .unset, .unset, .unset] [(.int p2)])) _
    refine XS.sipush X0.here hx rfl (hb hby at_6) ?_
    show Steps p.tables e below (s₁.setTop (mkF m 9 #[.val (.int p1), .val (.int p2), .val (.int p3), .val (.int p4), .val (.int (p1 &&& (3 : Int32))), .unset, .unset, .unset, .unset, .unset, .unset] [(.int (255 : Int32)), (.int p2)])) _
    refine XS.iand X0.here hx rfl (hb hby at_9) rfl ?_
    show Steps p.tables e below (s₁.setTop (mkF m 10 #[.val (.int p1), .val (.int p2), .val (.int p3), .val (.int p4), .val (.int (p1 &&& (3 : Int32))), .unset, .unset, .unset, .unset, .unset, .unset] [(.int (p2 &&& (255 : Int32)))])) _
    exact k)
  have pre2 : ∀ t, Steps p.tables e below (s₁.setTop (mkF m 11 #[.val (.int p1), .val (.int p2), .val (.int p3), .val (.int p4), .val (.int (p1 &&& (3 : Int32))), .unset, .unset, .unset, .unset, .unset, .unset] [(.int (own_ch p2))])) t → Steps p.tables e below (s₁.setTop (entryFrame m #[(.int p1), (.int p2), (.int p3), (.int p4)] maxLocals)) t := fun t k => pre1 t (by
    show Steps p.tables e below (s₁.setTop (mkF m 10 #[.val (.int p1), .val (.int p2), .val (.int p3), .val (.int p4), .val (.int (p1 &&& (3 : Int32))), .unset, .unset, .unset, .unset, .unset, .unset] [(.int (p2 &&& (255 : Int32)))])) _
    refine XS.i2c X0.here hx rfl (hb hby at_10) rfl ?_
    show Steps p.tables e below (s₁.setTop (mkF m 11 #[.val (.int p1), .val (.int p2), .val (.int p3), .val (.int p4), .val (.int (p1 &&& (3 : Int32))), .unset, .unset, .unset, .unset, .unset, .unset] [(.int (own_ch p2))])) _
    exact k)
  obtain ⟨_, _, ⟨T3, L3, k3, n3⟩, -, X3, ⟨Lc3, hQ3, l3, y3, z3⟩, st3⟩ := Jvm.LawKit.callS X0 hx (y := (⟨"java/lang/String", "valueOf", "(C)Ljava/lang/String;"⟩ : MethodName)) hown (mvT hZ (hw _ (List.mem_of_getElem? (i := 0) rfl))) (mvT hZ (hw _ (List.mem_of_getElem? (i := 1) rfl))) (mvT hZ (hw _ (List.mem_of_getElem? (i := 2) rfl))) (mvT hZ (hw _ (List.mem_of_getElem? (i := 3) rfl))) (by decide) (backOf (W := 0) (rm1 l Z a0 hw [] (own_ch p2) w2 h0 n0 (Nat.le_trans Z0 KK0.1) S0 hc0 (own_ch_le _)) hZ (hw _ (List.mem_of_getElem? (i := 3) rfl)) (hw _ (List.mem_of_getElem? (i := 2) rfl)) (by decide) (by decide)) (g := (mkF m 11 #[.val (.int p1), .val (.int p2), .val (.int p3), .val (.int p4), .val (.int (p1 &&& (3 : Int32))), .unset, .unset, .unset, .unset, .unset, .unset] [(.int (own_ch p2))])) rfl (by rw [hml]; rfl) (argsL := [(.int (own_ch p2))]) (rest := []) (lenOf pdx_3 rfl) rfl (by show 2 * 0 + _ ≤ _; exact Nat.le_of_eq rfl) (hb hby at_11) (fun _ _ => ⟨rfl, e0, (by decide : 0 + 2 ≤ _), (by decide : 0 + 5 ≤ _)⟩)
  dsimp only [Pt.U, Pt.locs, Pt.cells, Pt.slots] at X3 l3 y3 z3 st3 hQ3
  subst l3 y3 z3
  obtain ⟨bs0, rfl, N3q, s3, K3, E_bs0⟩ := hQ3
  have N3 := Fr.app N0 N3q
  have pre4 : ∀ t, Steps p.tables e below (T3.setTop (mkF m 14 #[.val (.int p1), .val (.int p2), .val (.int p3), .val (.int p4), .val (.int (p1 &&& (3 : Int32))), .unset, .unset, .unset, .unset, .unset, .unset] [(.ref bs0)])) t → Steps p.tables e below (s₁.setTop (entryFrame m #[(.int p1), (.int p2), (.int p3), (.int p4)] maxLocals)) t := fun t k => pre2 t (by
    show Steps p.tables e below (s₁.setTop (mkF m 11 #[.val (.int p1), .val (.int p2), .val (.int p3), .val (.int p4), .val (.int (p1 &&& (3 : Int32))), .unset, .unset, .unset, .unset, .unset, .unset] [(.int (own_ch p2))])) t
    refine st3 _ ?_
    show Steps p.tables e below (T3.setTop (mkF m 14 #[.val (.int p1), .val (.int p2), .val (.int p3), .val (.int p4), .val (.int (p1 &&& (3 : Int32))), .unset, .unset, .unset, .unset, .unset, .unset] [(.ref bs0)])) t
    exact k)
  have g_bs0 : n0 ≤ bs0 := Nat.le_trans Z0 (Nat.le_trans KK0.1 s3)
  have sz_bs0 : h0.size ≤ bs0 := Nat.le_trans KK0.1 s3
  have S0_3 := own_sta_keep S0 K3
  have KK3 := KK0.trans K3 (fun _ q => nomatch q)
  have pre5 : ∀ t, Steps p.tables e below (T3.setTop (mkF m 21 #[.val (.int p1), .val (.int p2), .val (.int p3), .val (.int p4), .val (.int (p1 &&& (3 : Int32))), .val (.ref bs0), .unset, .unset, .unset, .unset, .unset] [(.int (p3 &&& (255 : Int32)))])) t → Steps p.tables e below (s₁.setTop (entryFrame m #[(.int p1), (.int p2), (.int p3), (.int p4)] maxLocals)) t := fun t k => pre4 t (by
    show Steps p.tables e below (T3.setTop (mkF m 14 #[.val (.int p1), .val (.int p2), .val (.int p3), .val (.int p4), .val (.int (p1 &&& (3 : Int32))), .unset, .unset, .unset, .unset, .unset, .unset] [(.ref bs0)])) _
    refine XS.astore X3.here hx rfl (hb hby at_14) rfl rfl (l' := #[.val (.int p1), .val (.int p2), .val (.int p3), .val (.int p4), .val (.int (p1 &&& (3 : Int32))), .val (.ref bs0), .unset, .unset, .unset, .unset, .unset]) rfl ?_
    show Steps p.tables e below (T3.setTop (mkF m 16 #[.val (.int p1), .val (.int p2), .val (.int p3), .val (.int p4), .val (.int (p1 &&& (3 : Int32))), .val (.ref bs0), .unset, .unset, .unset, .unset, .unset] [])) _
    refine XS.iloadN X3.here hx rfl (hb hby at_16) rfl ?_
    show Steps p.tables e below (T3.setTop (mkF m 17 #[.val (.int p1), .val (.int p2), .val (.int p3), .val (.int p4), .val (.int (p1 &&& (3 : Int32))), .val (.ref bs0), .unset, .unset, .unset, .unset, .unset] [(.int p3)])) _
    refine XS.sipush X3.here hx rfl (hb hby at_17) ?_
    show Steps p.tables e below (T3.setTop (mkF m 20 #[.val (.int p1), .val (.int p2), .val (.int p3), .val (.int p4), .val (.int (p1 &&& (3 : Int32))), .val (.ref bs0), .unset, .unset, .unset, .unset, .unset] [(.int (255 : Int32)), (.int p3)])) _
    refine XS.iand X3.here hx rfl (hb hby at_20) rfl ?_
    show Steps p.tables e below (T3.setTop (mkF m 21 #[.val (.int p1), .val (.int p2), .val (.int p3), .val (.int p4), .val (.int (p1 &&& (3 : Int32))), .val (.ref bs0), .unset, .unset, .unset, .unset, .unset] [(.int (p3 &&& (255 : Int32)))])) _
    exact k)
  have pre6 : ∀ t, Steps p.tables e below (T3.setTop (mkF m 22 #[.val (.int p1), .val (.int p2), .val (.int p3), .val (.int p4), .val (.int (p1 &&& (3 : Int32))), .val (.ref bs0), .unset, .unset, .unset, .unset, .unset] [(.int (own_ch p3))])) t → Steps p.tables e below (s₁.setTop (entryFrame m #[(.int p1), (.int p2), (.int p3), (.int p4)] maxLocals)) t := fun t k => pre5 t (by
    show Steps p.tables e below (T3.setTop (mkF m 21 #[.val (.int p1), .val (.int p2), .val (.int p3), .val (.int p4), .val (.int (p1 &&& (3 : Int32))), .val (.ref bs0), .unset, .unset, .unset, .unset, .unset] [(.int (p3 &&& (255 : Int32)))])) _
    refine XS.i2c X3.here hx rfl (hb hby at_21) rfl ?_
    show Steps p.tables e below (T3.setTop (mkF m 22 #[.val (.int p1), .val (.int p2), .val (.int p3), .val (.int p4), .val (.int (p1 &&& (3 : Int32))), .val (.ref bs0), .unset, .unset, .unset, .unset, .unset] [(.int (own_ch p3))])) _
    exact k)
  obtain ⟨_, _, ⟨T7, L7, k7, n7⟩, -, X7, ⟨Lc7, hQ7, l7, y7, z7⟩, st7⟩ := Jvm.LawKit.callS X3 hx (y := (⟨"java/lang/String", "valueOf", "(C)Ljava/lang/String;"⟩ : MethodName)) hown (mvT hZ (hw _ (List.mem_of_getElem? (i := 0) rfl))) (mvT hZ (hw _ (List.mem_of_getElem? (i := 1) rfl))) (mvT hZ (hw _ (List.mem_of_getElem? (i := 2) rfl))) (mvT hZ (hw _ (List.mem_of_getElem? (i := 3) rfl))) (by decide) (backOf (W := 0) (rm1 l Z a0 hw [] (own_ch p3) w2 T3.heap n0 (Nat.le_trans Z0 KK3.1) S0_3 hc0 (own_ch_le _)) hZ (hw _ (List.mem_of_getElem? (i := 3) rfl)) (hw _ (List.mem_of_getElem? (i := 2) rfl)) (by decide) (by decide)) (g := (mkF m 22 #[.val (.int p1), .val (.int p2), .val (.int p3), .val (.int p4), .val (.int (p1 &&& (3 : Int32))), .val (.ref bs0), .unset, .unset, .unset, .unset, .unset] [(.int (own_ch p3))])) rfl (by rw [hml]; rfl) (argsL := [(.int (own_ch p3))]) (rest := []) (lenOf pdx_3 rfl) rfl (by show 2 * 0 + _ ≤ _; exact Nat.le_of_eq rfl) (hb hby at_22) (fun _ _ => ⟨rfl, rfl, (by decide : 2 + 2 ≤ _), (by decide : 5 + 5 ≤ _)⟩)
  dsimp only [Pt.U, Pt.locs, Pt.cells, Pt.slots] at X7 l7 y7 z7 st7 hQ7
  subst l7 y7 z7
  obtain ⟨bs1, rfl, N7q, s7, K7, E_bs1⟩ := hQ7
  have N7 := Fr.app N3 N7q
  have pre8 : ∀ t, Steps p.tables e below (T7.setTop (mkF m 25 #[.val (.int p1), .val (.int p2), .val (.int p3), .val (.int p4), .val (.int (p1 &&& (3 : Int32))), .val (.ref bs0), .unset, .unset, .unset, .unset, .unset] [(.ref bs1)])) t → Steps p.tables e below (s₁.setTop (entryFrame m #[(.int p1), (.int p2), (.int p3), (.int p4)] maxLocals)) t := fun t k => pre6 t (by
    show Steps p.tables e below (T3.setTop (mkF m 22 #[.val (.int p1), .val (.int p2), .val (.int p3), .val (.int p4), .val (.int (p1 &&& (3 : Int32))), .val (.ref bs0), .unset, .unset, .unset, .unset, .unset] [(.int (own_ch p3))])) t
    refine st7 _ ?_
    show Steps p.tables e below (T7.setTop (mkF m 25 #[.val (.int p1), .val (.int p2), .val (.int p3), .val (.int p4), .val (.int (p1 &&& (3 : Int32))), .val (.ref bs0), .unset, .unset, .unset, .unset, .unset] [(.ref bs1)])) t
    exact k)
  have o_bs0_bs1 : bs0 < bs1 := Nat.lt_of_lt_of_le E_bs0.lt s7
  have g_bs1 : n0 ≤ bs1 := Nat.le_trans Z0 (Nat.le_trans KK3.1 s7)
  have sz_bs1 : h0.size ≤ bs1 := Nat.le_trans KK3.1 s7
  have S0_7 := own_sta_keep S0_3 K7
  have E_bs0_7 := E_bs0.keep K7
  have KK7 := KK3.trans K7 (fun _ q => nomatch q)
  have pre9 : ∀ t, Steps p.tables e below (T7.setTop (mkF m 32 #[.val (.int p1), .val (.int p2), .val (.int p3), .val (.int p4), .val (.int (p1 &&& (3 : Int32))), .val (.ref bs0), .val (.ref bs1), .unset, .unset, .unset, .unset] [(.int (p4 &&& (255 : Int32)))])) t → Steps p.tables e below (s₁.setTop (entryFrame m #[(.int p1), (.int p2), (.int p3), (.int p4)] maxLocals)) t := fun t k => pre8 t (by
    show Steps p.tables e below (T7.setTop (mkF m 25 #[.val (.int p1), .val (.int p2), .val (.int p3), .val (.int p4), .val (.int (p1 &&& (3 : Int32))), .val (.ref bs0), .unset, .unset, .unset, .unset, .unset] [(.ref bs1)])) _
    refine XS.astore X7.here hx rfl (hb hby at_25) rfl rfl (l' := #[.val (.int p1), .val (.int p2), .val (.int p3), .val (.int p4), .val (.int (p1 &&& (3 : Int32))), .val (.ref bs0), .val (.ref bs1), .unset, .unset, .unset, .unset]) rfl ?_
    show Steps p.tables e below (T7.setTop (mkF m 27 #[.val (.int p1), .val (.int p2), .val (.int p3), .val (.int p4), .val (.int (p1 &&& (3 : Int32))), .val (.ref bs0), .val (.ref bs1), .unset, .unset, .unset, .unset] [])) _
    refine XS.iloadN X7.here hx rfl (hb hby at_27) rfl ?_
    show Steps p.tables e below (T7.setTop (mkF m 28 #[.val (.int p1), .val (.int p2), .val (.int p3), .val (.int p4), .val (.int (p1 &&& (3 : Int32))), .val (.ref bs0), .val (.ref bs1), .unset, .unset, .unset, .unset] [(.int p4)])) _
    refine XS.sipush X7.here hx rfl (hb hby at_28) ?_
    show Steps p.tables e below (T7.setTop (mkF m 31 #[.val (.int p1), .val (.int p2), .val (.int p3), .val (.int p4), .val (.int (p1 &&& (3 : Int32))), .val (.ref bs0), .val (.ref bs1), .unset, .unset, .unset, .unset] [(.int (255 : Int32)), (.int p4)])) _
    refine XS.iand X7.here hx rfl (hb hby at_31) rfl ?_
    show Steps p.tables e below (T7.setTop (mkF m 32 #[.val (.int p1), .val (.int p2), .val (.int p3), .val (.int p4), .val (.int (p1 &&& (3 : Int32))), .val (.ref bs0), .val (.ref bs1), .unset, .unset, .unset, .unset] [(.int (p4 &&& (255 : Int32)))])) _
    exact k)
  have pre10 : ∀ t, Steps p.tables e below (T7.setTop (mkF m 33 #[.val (.int p1), .val (.int p2), .val (.int p3), .val (.int p4), .val (.int (p1 &&& (3 : Int32))), .val (.ref bs0), .val (.ref bs1), .unset, .unset, .unset, .unset] [(.int (own_ch p4))])) t → Steps p.tables e below (s₁.setTop (entryFrame m #[(.int p1), (.int p2), (.int p3), (.int p4)] maxLocals)) t := fun t k => pre9 t (by
    show Steps p.tables e below (T7.setTop (mkF m 32 #[.val (.int p1), .val (.int p2), .val (.int p3), .val (.int p4), .val (.int (p1 &&& (3 : Int32))), .val (.ref bs0), .val (.ref bs1), .unset, .unset, .unset, .unset] [(.int (p4 &&& (255 : Int32)))])) _
    refine XS.i2c X7.here hx rfl (hb hby at_32) rfl ?_
    show Steps p.tables e below (T7.setTop (mkF m 33 #[.val (.int p1), .val (.int p2), .val (.int p3), .val (.int p4), .val (.int (p1 &&& (3 : Int32))), .val (.ref bs0), .val (.ref bs1), .unset, .unset, .unset, .unset] [(.int (own_ch p4))])) _
    exact k)
  obtain ⟨_, _, ⟨T11, L11, k11, n11⟩, -, X11, ⟨Lc11, hQ11, l11, y11, z11⟩, st11⟩ := Jvm.LawKit.callS X7 hx (y := (⟨"java/lang/String", "valueOf", "(C)Ljava/lang/String;"⟩ : MethodName)) hown (mvT hZ (hw _ (List.mem_of_getElem? (i := 0) rfl))) (mvT hZ (hw _ (List.mem_of_getElem? (i := 1) rfl))) (mvT hZ (hw _ (List.mem_of_getElem? (i := 2) rfl))) (mvT hZ (hw _ (List.mem_of_getElem? (i := 3) rfl))) (by decide) (backOf (W := 0) (rm1 l Z a0 hw [] (own_ch p4) w2 T7.heap n0 (Nat.le_trans Z0 KK7.1) S0_7 hc0 (own_ch_le _)) hZ (hw _ (List.mem_of_getElem? (i := 3) rfl)) (hw _ (List.mem_of_getElem? (i := 2) rfl)) (by decide) (by decide)) (g := (mkF m 33 #[.val (.int p1), .val (.int p2), .val (.int p3), .val (.int p4), .val (.int (p1 &&& (3 : Int32))), .val (.ref bs0), .val (.ref bs1), .unset, .unset, .unset, .unset] [(.int (own_ch p4))])) rfl (by rw [hml]; rfl) (argsL := [(.int (own_ch p4))]) (rest := []) (lenOf pdx_3 rfl) rfl (by show 2 * 0 + _ ≤ _; exact Nat.le_of_eq rfl) (hb hby at_33) (fun _ _ => ⟨rfl, rfl, (by decide : 4 + 2 ≤ _), (by decide : 10 + 5 ≤ _)⟩)
  dsimp only [Pt.U, Pt.locs, Pt.cells, Pt.slots] at X11 l11 y11 z11 st11 hQ11
  subst l11 y11 z11
  obtain ⟨bs2, rfl, N11q, s11, K11, E_bs2⟩ := hQ11
  have N11 := Fr.app N7 N11q
  have pre12 : ∀ t, Steps p.tables e below (T11.setTop (mkF m 36 #[.val (.int p1), .val (.int p2), .val (.int p3), .val (.int p4), .val (.int (p1 &&& (3 : Int32))), .val (.ref bs0), .val (.ref bs1), .unset, .unset, .unset, .unset] [(.ref bs2)])) t → Steps p.tables e below (s₁.setTop (entryFrame m #[(.int p1), (.int p2), (.int p3), (.int p4)] maxLocals)) t := fun t k => pre10 t (by
    show Steps p.tables e below (T7.setTop (mkF m 33 #[.val (.int p1), .val (.int p2), .val (.int p3), .val (.int p4), .val (.int (p1 &&& (3 : Int32))), .val (.ref bs0), .val (.ref bs1), .unset, .unset, .unset, .unset] [(.int (own_ch p4))])) t
    refine st11 _ ?_
    show Steps p.tables e below (T11.setTop (mkF m 36 #[.val (.int p1), .val (.int p2), .val (.int p3), .val (.int p4), .val (.int (p1 &&& (3 : Int32))), .val (.ref bs0), .val (.ref bs1), .unset, .unset, .unset, .unset] [(.ref bs2)])) t
    exact k)
  have o_bs0_bs2 : bs0 < bs2 := Nat.lt_of_lt_of_le E_bs0_7.lt s11
  have o_bs1_bs2 : bs1 < bs2 := Nat.lt_of_lt_of_le E_bs1.lt s11
  have g_bs2 : n0 ≤ bs2 := Nat.le_trans Z0 (Nat.le_trans KK7.1 s11)
  have sz_bs2 : h0.size ≤ bs2 := Nat.le_trans KK7.1 s11
  have S0_11 := own_sta_keep S0_7 K11
  have E_bs0_11 := E_bs0_7.keep K11
  have E_bs1_11 := E_bs1.keep K11
  have KK11 := KK7.trans K11 (fun _ q => nomatch q)
  have pre13 : ∀ t, Steps p.tables e below (T11.setTop (mkF m 40 #[.val (.int p1), .val (.int p2), .val (.int p3), .val (.int p4), .val (.int (p1 &&& (3 : Int32))), .val (.ref bs0), .val (.ref bs1), .val (.ref bs2), .unset, .unset, .unset] [(.int (p1 &&& (3 : Int32)))])) t → Steps p.tables e below (s₁.setTop (entryFrame m #[(.int p1), (.int p2), (.int p3), (.int p4)] maxLocals)) t := fun t k => pre12 t (by
    show Steps p.tables e below (T11.setTop (mkF m 36 #[.val (.int p1), .val (.int p2), .val (.int p3), .val (.int p4), .val (.int (p1 &&& (3 : Int32))), .val (.ref bs0), .val (.ref bs1), .unset, .unset, .unset, .unset] [(.ref bs2)])) _
    refine XS.astore X11.here hx rfl (hb hby at_36) rfl rfl (l' := #[.val (.int p1), .val (.int p2), .val (.int p3), .val (.int p4), .val (.int (p1 &&& (3 : Int32))), .val (.ref bs0), .val (.ref bs1), .val (.ref bs2), .unset, .unset, .unset]) rfl ?_
    show Steps p.tables e below (T11.setTop (mkF m 38 #[.val (.int p1), .val (.int p2), .val (.int p3), .val (.int p4), .val (.int (p1 &&& (3 : Int32))), .val (.ref bs0), .val (.ref bs1), .val (.ref bs2), .unset, .unset, .unset] [])) _
    refine XS.iload X11.here hx rfl (hb hby at_38) rfl ?_
    show Steps p.tables e below (T11.setTop (mkF m 40 #[.val (.int p1), .val (.int p2), .val (.int p3), .val (.int p4), .val (.int (p1 &&& (3 : Int32))), .val (.ref bs0), .val (.ref bs1), .val (.ref bs2), .unset, .unset, .unset] [(.int (p1 &&& (3 : Int32)))])) _
    exact k)
  by_cases hn : p1 &&& (3 : Int32) = (0 : Int32)
  · skip
    have pre14 : ∀ t, Steps p.tables e below (T11.setTop (mkF m 44 #[.val (.int p1), .val (.int p2), .val (.int p3), .val (.int p4), .val (.int (p1 &&& (3 : Int32))), .val (.ref bs0), .val (.ref bs1), .val (.ref bs2), .unset, .unset, .unset] [(.int (0 : Int32))])) t → Steps p.tables e below (s₁.setTop (entryFrame m #[(.int p1), (.int p2), (.int p3), (.int p4)] maxLocals)) t := fun t k => pre13 t (by
      show Steps p.tables e below (T11.setTop (mkF m 40 #[.val (.int p1), .val (.int p2), .val (.int p3), .val (.int p4), .val (.int (p1 &&& (3 : Int32))), .val (.ref bs0), .val (.ref bs1), .val (.ref bs2), .unset, .unset, .unset] [(.int (p1 &&& (3 : Int32)))])) _
      refine XS.ifNo X11.here hx rfl (hb hby at_40) rfl ((if0 _ _).trans (teq hn).2) ?_
      show Steps p.tables e below (T11.setTop (mkF m 43 #[.val (.int p1), .val (.int p2), .val (.int p3), .val (.int p4), .val (.int (p1 &&& (3 : Int32))), .val (.ref bs0), .val (.ref bs1), .val (.ref bs2), .unset, .unset, .unset] [])) _
      refine XS.iconst X11.here hx rfl (hb hby at_43) ?_
      show Steps p.tables e below (T11.setTop (mkF m 44 #[.val (.int p1), .val (.int p2), .val (.int p3), .val (.int p4), .val (.int (p1 &&& (3 : Int32))), .val (.ref bs0), .val (.ref bs1), .val (.ref bs2), .unset, .unset, .unset] [(.int (0 : Int32))])) _
      exact k)
    obtain ⟨T15, h15, k15, X15, e15, E15, A15, Ea15, O15, st15⟩ := newRE X11 hx hZ hown (hw _ (List.mem_of_getElem? (i := 26) rfl)) (hw _ (List.mem_of_getElem? (i := 27) rfl)) rfl (g := (mkF m 44 #[.val (.int p1), .val (.int p2), .val (.int p3), .val (.int p4), .val (.int (p1 &&& (3 : Int32))), .val (.ref bs0), .val (.ref bs1), .val (.ref bs2), .unset, .unset, .unset] [(.int (0 : Int32))])) rfl (hb hby at_44) rfl (by decide) (cap := 0) (by decide) (by decide) (by decide) (by decide) (ad := "[Ljava/lang/String;") (by decide)
    obtain ⟨br, ge15⟩ : ∃ z, z = T11.heap.size := ⟨_, rfl⟩
    rw [← ge15] at A15 Ea15 st15
    have gq15 := Nat.le_of_eq ge15.symm
    have o_bs0_br : bs0 < br := Nat.lt_of_lt_of_le E_bs0_11.lt gq15
    have o_bs1_br : bs1 < br := Nat.lt_of_lt_of_le E_bs1_11.lt gq15
    have o_bs2_br : bs2 < br := Nat.lt_of_lt_of_le E_bs2.lt gq15
    have g_br : n0 ≤ br := Nat.le_trans Z0 (Nat.le_trans KK11.1 gq15)
    have sz_br : h0.size ≤ br := Nat.le_trans KK11.1 gq15
    have E_bs0_15 := E_bs0_11.ext E15
    have E_bs1_15 := E_bs1_11.ext E15
    have E_bs2_15 := E_bs2.ext E15
    have KK15 := KK11.ext E15
    have V_br : Arv Z h15 br k15 (.object "java/lang/String") (0 : Int32) [] .null := (Arv.new A15 (by decide)).pad (pad_rep [] .null 0)
    have X_br := Ea15
    have pre16 : ∀ t, Steps p.tables e below (T15.setTop (mkF m 47 #[.val (.int p1), .val (.int p2), .val (.int p3), .val (.int p4), .val (.int (p1 &&& (3 : Int32))), .val (.ref bs0), .val (.ref bs1), .val (.ref bs2), .unset, .unset, .unset] [(.ref br)])) t → Steps p.tables e below (s₁.setTop (entryFrame m #[(.int p1), (.int p2), (.int p3), (.int p4)] maxLocals)) t := fun t k => pre14 t (by
      show Steps p.tables e below (T11.setTop (mkF m 44 #[.val (.int p1), .val (.int p2), .val (.int p3), .val (.int p4), .val (.int (p1 &&& (3 : Int32))), .val (.ref bs0), .val (.ref bs1), .val (.ref bs2), .unset, .unset, .unset] [(.int (0 : Int32))])) t
      refine st15 _ ?_
      show Steps p.tables e below (T15.setTop (mkF m 47 #[.val (.int p1), .val (.int p2), .val (.int p3), .val (.int p4), .val (.int (p1 &&& (3 : Int32))), .val (.ref bs0), .val (.ref bs1), .val (.ref bs2), .unset, .unset, .unset] [(.ref br)])) t
      exact k)
    have pre17 : ∀ t, Steps p.tables e below (T15.setTop (mkF m 118 #[.val (.int p1), .val (.int p2), .val (.int p3), .val (.int p4), .val (.int (p1 &&& (3 : Int32))), .val (.ref bs0), .val (.ref bs1), .val (.ref bs2), .val (.ref br), .unset, .unset] [])) t → Steps p.tables e below (s₁.setTop (entryFrame m #[(.int p1), (.int p2), (.int p3), (.int p4)] maxLocals)) t := fun t k => pre16 t (by
      show Steps p.tables e below (T15.setTop (mkF m 47 #[.val (.int p1), .val (.int p2), .val (.int p3), .val (.int p4), .val (.int (p1 &&& (3 : Int32))), .val (.ref bs0), .val (.ref bs1), .val (.ref bs2), .unset, .unset, .unset] [(.ref br)])) _
      refine XS.astore X15.here hx rfl (hb hby at_47) rfl rfl (l' := #[.val (.int p1), .val (.int p2), .val (.int p3), .val (.int p4), .val (.int (p1 &&& (3 : Int32))), .val (.ref bs0), .val (.ref bs1), .val (.ref bs2), .val (.ref br), .unset, .unset]) rfl ?_
      show Steps p.tables e below (T15.setTop (mkF m 49 #[.val (.int p1), .val (.int p2), .val (.int p3), .val (.int p4), .val (.int (p1 &&& (3 : Int32))), .val (.ref bs0), .val (.ref bs1), .val (.ref bs2), .val (.ref br), .unset, .unset] [])) _
      refine XS.goto X15.here hx rfl (pc0 := 49) (pc' := 118) rfl (hb hby at_49) (by decide) (by decide) ?_
      show Steps p.tables e below (T15.setTop (mkF m 118 #[.val (.int p1), .val (.int p2), .val (.int p3), .val (.int p4), .val (.int (p1 &&& (3 : Int32))), .val (.ref bs0), .val (.ref bs1), .val (.ref bs2), .val (.ref br), .unset, .unset] [])) _
      exact k)
    obtain ⟨T18, h18, X18, e18, E18, A18, D18, -, st18⟩ := newO X15 hx hZ hown (hw _ (List.mem_of_getElem? (i := 28) rfl)) (hw _ (List.mem_of_getElem? (i := 29) rfl)) (hw _ (List.mem_of_getElem? (i := 30) rfl)) e15 (g := (mkF m 118 #[.val (.int p1), .val (.int p2), .val (.int p3), .val (.int p4), .val (.int (p1 &&& (3 : Int32))), .val (.ref bs0), .val (.ref bs1), .val (.ref bs2), .val (.ref br), .unset, .unset] [])) rfl (hb hby at_118) (by decide) (by decide)
    obtain ⟨ba, ge18⟩ : ∃ z, z = h15.size := ⟨_, rfl⟩
    rw [← ge18] at A18 D18 st18
    have gq18 := Nat.le_of_eq ge18.symm
    have o_bs0_ba : bs0 < ba := Nat.lt_of_lt_of_le E_bs0_15.lt gq18
    have o_bs1_ba : bs1 < ba := Nat.lt_of_lt_of_le E_bs1_15.lt gq18
    have o_bs2_ba : bs2 < ba := Nat.lt_of_lt_of_le E_bs2_15.lt gq18
    have o_br_ba : br < ba := Nat.lt_of_lt_of_le V_br.lt gq18
    have g_ba : n0 ≤ ba := Nat.le_trans Z0 (Nat.le_trans KK15.1 gq18)
    have sz_ba : h0.size ≤ ba := Nat.le_trans KK15.1 gq18
    have E_bs0_18 := E_bs0_15.ext E18
    have E_bs1_18 := E_bs1_15.ext E18
    have E_bs2_18 := E_bs2_15.ext E18
    have V_br_18 := V_br.ext E18
    have X_br_18 := X_br.ext E18
    have KK18 := KK15.ext E18
    have E_ba : Exa Z h18 ba "com/example/arcsieve/arcsieve/Arguments" := A18
    have F_command_ba : Fld Z h18 ba "com/example/arcsieve/arcsieve/Arguments" "command" "Ljava/lang/String;" .null := D18 (Or.inr (hw _ (List.mem_of_getElem? (i := 39) rfl))) (ty := (.object "java/lang/String")) (by decide)
    have F_args_ba : Fld Z h18 ba "com/example/arcsieve/arcsieve/Arguments" "args" "[Ljava/lang/String;" .null := D18 (Or.inr (hw _ (List.mem_of_getElem? (i := 50) rfl))) (ty := (.array (.object "java/lang/String"))) (by decide)
    have F_next_ba : Fld Z h18 ba "com/example/arcsieve/arcsieve/Arguments" "next" "I" (.int (0 : Int32)) := D18 (Or.inl (hw _ (List.mem_of_getElem? (i := 57) rfl))) (ty := .int) (by decide)
    have pre19 : ∀ t, Steps p.tables e below (T18.setTop (mkF m 121 #[.val (.int p1), .val (.int p2), .val (.int p3), .val (.int p4), .val (.int (p1 &&& (3 : Int32))), .val (.ref bs0), .val (.ref bs1), .val (.ref bs2), .val (.ref br), .unset, .unset] [(.ref ba)])) t → Steps p.tables e below (s₁.setTop (entryFrame m #[(.int p1), (.int p2), (.int p3), (.int p4)] maxLocals)) t := fun t k => pre17 t (by
      show Steps p.tables e below (T15.setTop (mkF m 118 #[.val (.int p1), .val (.int p2), .val (.int p3), .val (.int p4), .val (.int (p1 &&& (3 : Int32))), .val (.ref bs0), .val (.ref bs1), .val (.ref bs2), .val (.ref br), .unset, .unset] [])) t
      refine st18 _ ?_
      show Steps p.tables e below (T18.setTop (mkF m 121 #[.val (.int p1), .val (.int p2), .val (.int p3), .val (.int p4), .val (.int (p1 &&& (3 : Int32))), .val (.ref bs0), .val (.ref bs1), .val (.ref bs2), .val (.ref br), .unset, .unset] [(.ref ba)])) t
      exact k)
    have pre20 : ∀ t, Steps p.tables e below (T18.setTop (mkF m 122 #[.val (.int p1), .val (.int p2), .val (.int p3), .val (.int p4), .val (.int (p1 &&& (3 : Int32))), .val (.ref bs0), .val (.ref bs1), .val (.ref bs2), .val (.ref br), .unset, .unset] [(.ref ba), (.ref ba)])) t → Steps p.tables e below (s₁.setTop (entryFrame m #[(.int p1), (.int p2), (.int p3), (.int p4)] maxLocals)) t := fun t k => pre19 t (by
      show Steps p.tables e below (T18.setTop (mkF m 121 #[.val (.int p1), .val (.int p2), .val (.int p3), .val (.int p4), .val (.int (p1 &&& (3 : Int32))), .val (.ref bs0), .val (.ref bs1), .val (.ref bs2), .val (.ref br), .unset, .unset] [(.ref ba)])) _
      refine XS.dup X18.here hx rfl (hb hby at_121) rfl rfl ?_
      show Steps p.tables e below (T18.setTop (mkF m 122 #[.val (.int p1), .val (.int p2), .val (.int p3), .val (.int p4), .val (.int (p1 &&& (3 : Int32))), .val (.ref bs0), .val (.ref bs1), .val (.ref bs2), .val (.ref br), .unset, .unset] [(.ref ba), (.ref ba)])) _
      exact k)
    have wS21 : ∀ d ∈ Bundle.stringAtoms, d.before a0 Z = true := fun d hd => by
      simp only [Bundle.stringAtoms, List.mem_cons, List.not_mem_nil, or_false] at hd
      rcases hd with rfl | rfl | rfl | rfl | rfl | rfl | rfl
      · exact (hw _ (List.mem_of_getElem? (i := 2) rfl))
      · exact (hw _ (List.mem_of_getElem? (i := 10) rfl))
      · exact (hw _ (List.mem_of_getElem? (i := 14) rfl))
      · exact (hw _ (List.mem_of_getElem? (i := 23) rfl))
      · exact (hw _ (List.mem_of_getElem? (i := 25) rfl))
      · exact (hw _ (List.mem_of_getElem? (i := 32) rfl))
      · exact (hw _ (List.mem_of_getElem? (i := 33) rfl))
    obtain ⟨cs, T21, h21, k1, X21, e21, E21, hSs, hk1, hZ, hown, st21⟩ := ldcS (s := s) (vm0 := s.vm) X18 hx hZ hown (hw _ (List.mem_of_getElem? (i := 31) rfl)) wS21 e18 (k0 := 0) ((State.WarmedH.refl s).since 0) (Nat.zero_le _) (g := (mkF m 122 #[.val (.int p1), .val (.int p2), .val (.int p3), .val (.int p4), .val (.int (p1 &&& (3 : Int32))), .val (.ref bs0), .val (.ref bs1), .val (.ref bs2), .val (.ref br), .unset, .unset] [(.ref ba), (.ref ba)])) rfl (hb hby at_122) (n := 12) (by decide) (by decide) (by decide) (by decide)
    have E_bs0_21 := E_bs0_18.ext E21
    have E_bs1_21 := E_bs1_18.ext E21
    have E_bs2_21 := E_bs2_18.ext E21
    have V_br_21 := V_br_18.ext E21
    have X_br_21 := X_br_18.ext E21
    have E_ba_21 := E_ba.ext E21
    have F_command_ba_21 := F_command_ba.ext E21
    have F_args_ba_21 := F_args_ba.ext E21
    have F_next_ba_21 := F_next_ba.ext E21
    have KK21 := KK18.ext E21
    have hkk : Keep h21 h21 [] := Keep.refl _ _
    have pre22 : ∀ t, Steps p.tables e below (T21.setTop (mkF m 124 #[.val (.int p1), .val (.int p2), .val (.int p3), .val (.int p4), .val (.int (p1 &&& (3 : Int32))), .val (.ref bs0), .val (.ref bs1), .val (.ref bs2), .val (.ref br), .unset, .unset] [(.ref cs), (.ref ba), (.ref ba)])) t → Steps p.tables e below (s₁.setTop (entryFrame m #[(.int p1), (.int p2), (.int p3), (.int p4)] maxLocals)) t := fun t k => pre20 t (by
      show Steps p.tables e below (T18.setTop (mkF m 122 #[.val (.int p1), .val (.int p2), .val (.int p3), .val (.int p4), .val (.int (p1 &&& (3 : Int32))), .val (.ref bs0), .val (.ref bs1), .val (.ref bs2), .val (.ref br), .unset, .unset] [(.ref ba), (.ref ba)])) t
      refine st21 _ ?_
      show Steps p.tables e below (T21.setTop (mkF m 124 #[.val (.int p1), .val (.int p2), .val (.int p3), .val (.int p4), .val (.int (p1 &&& (3 : Int32))), .val (.ref bs0), .val (.ref bs1), .val (.ref bs2), .val (.ref br), .unset, .unset] [(.ref cs), (.ref ba), (.ref ba)])) t
      exact k)
    have pre23 : ∀ t, Steps p.tables e below (T21.setTop (mkF m 126 #[.val (.int p1), .val (.int p2), .val (.int p3), .val (.int p4), .val (.int (p1 &&& (3 : Int32))), .val (.ref bs0), .val (.ref bs1), .val (.ref bs2), .val (.ref br), .unset, .unset] [(.ref br), (.ref cs), (.ref ba), (.ref ba)])) t → Steps p.tables e below (s₁.setTop (entryFrame m #[(.int p1), (.int p2), (.int p3), (.int p4)] maxLocals)) t := fun t k => pre22 t (by
      show Steps p.tables e below (T21.setTop (mkF m 124 #[.val (.int p1), .val (.int p2), .val (.int p3), .val (.int p4), .val (.int (p1 &&& (3 : Int32))), .val (.ref bs0), .val (.ref bs1), .val (.ref bs2), .val (.ref br), .unset, .unset] [(.ref cs), (.ref ba), (.ref ba)])) _
      refine XS.aload X21.here hx rfl (hb hby at_124) rfl rfl ?_
      show Steps p.tables e below (T21.setTop (mkF m 126 #[.val (.int p1), .val (.int p2), .val (.int p3), .val (.int p4), .val (.int (p1 &&& (3 : Int32))), .val (.ref bs0), .val (.ref bs1), .val (.ref bs2), .val (.ref br), .unset, .unset] [(.ref br), (.ref cs), (.ref ba), (.ref ba)])) _
      exact k)
    obtain ⟨_, _, ⟨T24, L24, k24, n24⟩, -, X24, ⟨Lc24, hQ24, l24, y24, z24⟩, st24⟩ := X21.specialBack hx (y := (⟨"com/example/arcsieve/arcsieve/Arguments", "<init>", "(Ljava/lang/String;[Ljava/lang/String;)V"⟩ : MethodName)) rfl hown (mvT hZ (hw _ (List.mem_of_getElem? (i := 34) rfl))) (mvT hZ (hw _ (List.mem_of_getElem? (i := 35) rfl))) (mvT hZ (hw _ (List.mem_of_getElem? (i := 36) rfl))) (by decide) (backOf (W := 1) (rm6 l Z a0 hw [] ba cs br k15 (0 : Int32) [] h21 n0 (Nat.le_trans Z0 KK21.1) E_ba_21 F_command_ba_21 F_args_ba_21 F_next_ba_21 V_br_21 X_br_21 (by decide) g_ba o_br_ba) hZ (hw _ (List.mem_of_getElem? (i := 36) rfl)) (hw _ (List.mem_of_getElem? (i := 30) rfl)) (by decide) (by decide)) (g := (mkF m 126 #[.val (.int p1), .val (.int p2), .val (.int p3), .val (.int p4), .val (.int (p1 &&& (3 : Int32))), .val (.ref bs0), .val (.ref bs1), .val (.ref bs2), .val (.ref br), .unset, .unset] [(.ref br), (.ref cs), (.ref ba), (.ref ba)])) rfl (by rw [hml]; rfl) (Steps.refl _) (a := ba) (argsL := [(.ref cs), (.ref br)]) (rest := [(.ref ba)]) (lenOf pdx_4 rfl) rfl (by show 2 * 0 + _ ≤ _; exact Nat.le_of_eq rfl) (hb hby at_126) (fun _ _ => ⟨rfl, e21, (by decide : 10 + 1 ≤ _), (by decide : 34 + 3 ≤ _)⟩)
    dsimp only [Pt.U, Pt.locs, Pt.cells, Pt.slots] at X24 l24 y24 z24 st24 hQ24
    subst l24 y24 z24
    obtain ⟨bc, rfl, N24q, s24, K24, Ex24, Fa24, Fn24, Vc24⟩ := hQ24
    have N24 := Fr.app N11 N24q
    have pre25 : ∀ t, Steps p.tables e below (T24.setTop (mkF m 129 #[.val (.int p1), .val (.int p2), .val (.int p3), .val (.int p4), .val (.int (p1 &&& (3 : Int32))), .val (.ref bs0), .val (.ref bs1), .val (.ref bs2), .val (.ref br), .unset, .unset] [(.ref ba)])) t → Steps p.tables e below (s₁.setTop (entryFrame m #[(.int p1), (.int p2), (.int p3), (.int p4)] maxLocals)) t := fun t k => pre23 t (by
      show Steps p.tables e below (T21.setTop (mkF m 126 #[.val (.int p1), .val (.int p2), .val (.int p3), .val (.int p4), .val (.int (p1 &&& (3 : Int32))), .val (.ref bs0), .val (.ref bs1), .val (.ref bs2), .val (.ref br), .unset, .unset] [(.ref br), (.ref cs), (.ref ba), (.ref ba)])) t
      refine st24.trans ?_
      show Steps p.tables e below (T24.setTop (mkF m 129 #[.val (.int p1), .val (.int p2), .val (.int p3), .val (.int p4), .val (.int (p1 &&& (3 : Int32))), .val (.ref bs0), .val (.ref bs1), .val (.ref bs2), .val (.ref br), .unset, .unset] [(.ref ba)])) t
      exact k)
    have o_bs0_bc : bs0 < bc := Nat.lt_of_lt_of_le E_bs0_21.lt s24
    have o_bs1_bc : bs1 < bc := Nat.lt_of_lt_of_le E_bs1_21.lt s24
    have o_bs2_bc : bs2 < bc := Nat.lt_of_lt_of_le E_bs2_21.lt s24
    have o_ba_bc : ba < bc := Nat.lt_of_lt_of_le E_ba_21.lt s24
    have g_bc : n0 ≤ bc := Nat.le_trans Z0 (Nat.le_trans KK21.1 s24)
    have sz_bc : h0.size ≤ bc := Nat.le_trans KK21.1 s24
    have E_bs0_24 := E_bs0_21.keep K24
    have E_bs1_24 := E_bs1_21.keep K24
    have E_bs2_24 := E_bs2_21.keep K24
    have E_ba_24 := E_ba_21.keep K24
    have KK24 := KK21.trans K24 (own_k1 (Or.inr sz_ba))
    have hkk24 := Nat.le_trans hk1 K24.1
    have pre26 : ∀ t, Steps p.tables e below (T24.setTop (mkF m 133 #[.val (.int p1), .val (.int p2), .val (.int p3), .val (.int p4), .val (.int (p1 &&& (3 : Int32))), .val (.ref bs0), .val (.ref bs1), .val (.ref bs2), .val (.ref br), .val (.ref ba), .unset] [(.ref ba)])) t → Steps p.tables e below (s₁.setTop (entryFrame m #[(.int p1), (.int p2), (.int p3), (.int p4)] maxLocals)) t := fun t k => pre25 t (by
      show Steps p.tables e below (T24.setTop (mkF m 129 #[.val (.int p1), .val (.int p2), .val (.int p3), .val (.int p4), .val (.int (p1 &&& (3 : Int32))), .val (.ref bs0), .val (.ref bs1), .val (.ref bs2), .val (.ref br), .unset, .unset] [(.ref ba)])) _
      refine XS.astore X24.here hx rfl (hb hby at_129) rfl rfl (l' := #[.val (.int p1), .val (.int p2), .val (.int p3), .val (.int p4), .val (.int (p1 &&& (3 : Int32))), .val (.ref bs0), .val (.ref bs1), .val (.ref bs2), .val (.ref br), .val (.ref ba), .unset]) rfl ?_
      show Steps p.tables e below (T24.setTop (mkF m 131 #[.val (.int p1), .val (.int p2), .val (.int p3), .val (.int p4), .val (.int (p1 &&& (3 : Int32))), .val (.ref bs0), .val (.ref bs1), .val (.ref bs2), .val (.ref br), .val (.ref ba), .unset] [])) _
      refine XS.aload X24.here hx rfl (hb hby at_131) rfl rfl ?_
      show Steps p.tables e below (T24.setTop (mkF m 133 #[.val (.int p1), .val (.int p2), .val (.int p3), .val (.int p4), .val (.int (p1 &&& (3 : Int32))), .val (.ref bs0), .val (.ref bs1), .val (.ref bs2), .val (.ref br), .val (.ref ba), .unset] [(.ref ba)])) _
      exact k)
    obtain ⟨cq27, kq27, q27a, q27b, q27c⟩ := isOf hZ rfl E_ba_24
    obtain ⟨_, _, ⟨T27, L27, k27, n27⟩, -, X27, ⟨Lc27, hQ27, l27, y27, z27⟩, st27⟩ := X24.virtualBack hx (y := (⟨"com/example/arcsieve/arcsieve/Arguments", "hasNext", "()Z"⟩ : MethodName)) (z := (⟨"com/example/arcsieve/arcsieve/Arguments", "hasNext", "()Z"⟩ : MethodName)) hown (mvT hZ (hw _ (List.mem_of_getElem? (i := 51) rfl))) (mvT hZ (hw _ (List.mem_of_getElem? (i := 52) rfl))) (notFace_of_selects (args := #[]) (mvT hZ (hw _ (List.mem_of_getElem? (i := 54) rfl)))) (mvT hZ (hw _ (List.mem_of_getElem? (i := 54) rfl))) (mvT hZ (hw _ (List.mem_of_getElem? (i := 53) rfl))) (by decide) (backOf (W := 0) (rm7 l Z a0 hw [] ba bc (0 : Int32) k15 (0 : Int32) [] T24.heap n0 (Nat.le_trans Z0 KK24.1) Fn24 Fa24 Vc24) hZ (hw _ (List.mem_of_getElem? (i := 55) rfl)) (hw _ (List.mem_of_getElem? (i := 30) rfl)) (by decide) (by decide)) q27a q27c (g := (mkF m 133 #[.val (.int p1), .val (.int p2), .val (.int p3), .val (.int p4), .val (.int (p1 &&& (3 : Int32))), .val (.ref bs0), .val (.ref bs1), .val (.ref bs2), .val (.ref br), .val (.ref ba), .unset] [(.ref ba)])) rfl (by rw [hml]; rfl) (Steps.refl _) (argsL := []) (rest := []) (lenOf pdx_5 rfl) rfl (by show 2 * 0 + _ ≤ _; exact Nat.le_of_eq rfl) (hb hby at_133) (fun _ _ => ⟨rfl, rfl, (by decide : 11 + 0 ≤ _), (by decide : 37 + 0 ≤ _)⟩)
    dsimp only [Pt.U, Pt.locs, Pt.cells, Pt.slots] at X27 l27 y27 z27 st27 hQ27
    subst l27 y27 z27
    obtain ⟨rfl, N27q, e27⟩ := hQ27
    have N27 := Fr.app N24 N27q
    have pre28 : ∀ t, Steps p.tables e below (T27.setTop (mkF m 136 #[.val (.int p1), .val (.int p2), .val (.int p3), .val (.int p4), .val (.int (p1 &&& (3 : Int32))), .val (.ref bs0), .val (.ref bs1), .val (.ref bs2), .val (.ref br), .val (.ref ba), .unset] [(.int (own_has (0 : Int32) (0 : Int32)))])) t → Steps p.tables e below (s₁.setTop (entryFrame m #[(.int p1), (.int p2), (.int p3), (.int p4)] maxLocals)) t := fun t k => pre26 t (by
      show Steps p.tables e below (T24.setTop (mkF m 133 #[.val (.int p1), .val (.int p2), .val (.int p3), .val (.int p4), .val (.int (p1 &&& (3 : Int32))), .val (.ref bs0), .val (.ref bs1), .val (.ref bs2), .val (.ref br), .val (.ref ba), .unset] [(.ref ba)])) t
      refine st27.trans ?_
      show Steps p.tables e below (T27.setTop (mkF m 136 #[.val (.int p1), .val (.int p2), .val (.int p3), .val (.int p4), .val (.int (p1 &&& (3 : Int32))), .val (.ref bs0), .val (.ref bs1), .val (.ref bs2), .val (.ref br), .val (.ref ba), .unset] [(.int (own_has (0 : Int32) (0 : Int32)))])) t
      exact k)
    have pre29 : ∀ t, Steps p.tables e below (T27.setTop (mkF m 160 #[.val (.int p1), .val (.int p2), .val (.int p3), .val (.int p4), .val (.int (p1 &&& (3 : Int32))), .val (.ref bs0), .val (.ref bs1), .val (.ref bs2), .val (.ref br), .val (.ref ba), .val (.int (1 : Int32))] [(.ref ba), (.int (1 : Int32))])) t → Steps p.tables e below (s₁.setTop (entryFrame m #[(.int p1), (.int p2), (.int p3), (.int p4)] maxLocals)) t := fun t k => pre28 t (by
      show Steps p.tables e below (T27.setTop (mkF m 136 #[.val (.int p1), .val (.int p2), .val (.int p3), .val (.int p4), .val (.int (p1 &&& (3 : Int32))), .val (.ref bs0), .val (.ref bs1), .val (.ref bs2), .val (.ref br), .val (.ref ba), .unset] [(.int (own_has (0 : Int32) (0 : Int32)))])) _
      refine XS.iload X27.here hx rfl (hb hby at_136) rfl ?_
      show Steps p.tables e below (T27.setTop (mkF m 138 #[.val (.int p1), .val (.int p2), .val (.int p3), .val (.int p4), .val (.int (p1 &&& (3 : Int32))), .val (.ref bs0), .val (.ref bs1), .val (.ref bs2), .val (.ref br), .val (.ref ba), .unset] [(.int (p1 &&& (3 : Int32))), (.int (own_has (0 : Int32) (0 : Int32)))])) _
      refine XS.ifYes X27.here hx rfl (pc0 := 138) (pc' := 145) rfl (hb hby at_138) rfl ((if0 _ _).trans (flt (by rw [hn]; decide)).2.2.2) (by decide) (by decide) ?_
      show Steps p.tables e below (T27.setTop (mkF m 145 #[.val (.int p1), .val (.int p2), .val (.int p3), .val (.int p4), .val (.int (p1 &&& (3 : Int32))), .val (.ref bs0), .val (.ref bs1), .val (.ref bs2), .val (.ref br), .val (.ref ba), .unset] [(.int (own_has (0 : Int32) (0 : Int32)))])) _
      refine XS.iconst X27.here hx rfl (hb hby at_145) ?_
      show Steps p.tables e below (T27.setTop (mkF m 146 #[.val (.int p1), .val (.int p2), .val (.int p3), .val (.int p4), .val (.int (p1 &&& (3 : Int32))), .val (.ref bs0), .val (.ref bs1), .val (.ref bs2), .val (.ref br), .val (.ref ba), .unset] [(.int (0 : Int32)), (.int (own_has (0 : Int32) (0 : Int32)))])) _
      refine XS.icmpNo X27.here hx rfl (hb hby at_146) rfl (teq (by decide)).2 ?_
      show Steps p.tables e below (T27.setTop (mkF m 149 #[.val (.int p1), .val (.int p2), .val (.int p3), .val (.int p4), .val (.int (p1 &&& (3 : Int32))), .val (.ref bs0), .val (.ref bs1), .val (.ref bs2), .val (.ref br), .val (.ref ba), .unset] [])) _
      refine XS.iconst X27.here hx rfl (hb hby at_149) ?_
      show Steps p.tables e below (T27.setTop (mkF m 150 #[.val (.int p1), .val (.int p2), .val (.int p3), .val (.int p4), .val (.int (p1 &&& (3 : Int32))), .val (.ref bs0), .val (.ref bs1), .val (.ref bs2), .val (.ref br), .val (.ref ba), .unset] [(.int (1 : Int32))])) _
      refine XS.goto X27.here hx rfl (pc0 := 150) (pc' := 154) rfl (hb hby at_150) (by decide) (by decide) ?_
      show Steps p.tables e below (T27.setTop (mkF m 154 #[.val (.int p1), .val (.int p2), .val (.int p3), .val (.int p4), .val (.int (p1 &&& (3 : Int32))), .val (.ref bs0), .val (.ref bs1), .val (.ref bs2), .val (.ref br), .val (.ref ba), .unset] [(.int (1 : Int32))])) _
      refine XS.istore X27.here hx rfl (hb hby at_154) rfl (l' := #[.val (.int p1), .val (.int p2), .val (.int p3), .val (.int p4), .val (.int (p1 &&& (3 : Int32))), .val (.ref bs0), .val (.ref bs1), .val (.ref bs2), .val (.ref br), .val (.ref ba), .val (.int (1 : Int32))]) rfl ?_
      show Steps p.tables e below (T27.setTop (mkF m 156 #[.val (.int p1), .val (.int p2), .val (.int p3), .val (.int p4), .val (.int (p1 &&& (3 : Int32))), .val (.ref bs0), .val (.ref bs1), .val (.ref bs2), .val (.ref br), .val (.ref ba), .val (.int (1 : Int32))] [])) _
      refine XS.iload X27.here hx rfl (hb hby at_156) rfl ?_
      show Steps p.tables e below (T27.setTop (mkF m 158 #[.val (.int p1), .val (.int p2), .val (.int p3), .val (.int p4), .val (.int (p1 &&& (3 : Int32))), .val (.ref bs0), .val (.ref bs1), .val (.ref bs2), .val (.ref br), .val (.ref ba), .val (.int (1 : Int32))] [(.int (1 : Int32))])) _
      refine XS.aload X27.here hx rfl (hb hby at_158) rfl rfl ?_
      show Steps p.tables e below (T27.setTop (mkF m 160 #[.val (.int p1), .val (.int p2), .val (.int p3), .val (.int p4), .val (.int (p1 &&& (3 : Int32))), .val (.ref bs0), .val (.ref bs1), .val (.ref bs2), .val (.ref br), .val (.ref ba), .val (.int (1 : Int32))] [(.ref ba), (.int (1 : Int32))])) _
      exact k)
    obtain ⟨cq30, kq30, q30a, q30b, q30c⟩ := isOf hZ e27 E_ba_24
    obtain ⟨_, _, ⟨T30, L30, k30, n30⟩, -, X30, ⟨Lc30, hQ30, l30, y30, z30⟩, st30⟩ := X27.virtualBack hx (y := (⟨"com/example/arcsieve/arcsieve/Arguments", "hasNext", "()Z"⟩ : MethodName)) (z := (⟨"com/example/arcsieve/arcsieve/Arguments", "hasNext", "()Z"⟩ : MethodName)) hown (mvT hZ (hw _ (List.mem_of_getElem? (i := 51) rfl))) (mvT hZ (hw _ (List.mem_of_getElem? (i := 52) rfl))) (notFace_of_selects (args := #[]) (mvT hZ (hw _ (List.mem_of_getElem? (i := 54) rfl)))) (mvT hZ (hw _ (List.mem_of_getElem? (i := 54) rfl))) (mvT hZ (hw _ (List.mem_of_getElem? (i := 53) rfl))) (by decide) (backOf (W := 1) (rm7 l Z a0 hw [] ba bc (0 : Int32) k15 (0 : Int32) [] T24.heap n0 (Nat.le_trans Z0 KK24.1) Fn24 Fa24 Vc24) hZ (hw _ (List.mem_of_getElem? (i := 55) rfl)) (hw _ (List.mem_of_getElem? (i := 30) rfl)) (by decide) (by decide)) q30a q30c (g := (mkF m 160 #[.val (.int p1), .val (.int p2), .val (.int p3), .val (.int p4), .val (.int (p1 &&& (3 : Int32))), .val (.ref bs0), .val (.ref bs1), .val (.ref bs2), .val (.ref br), .val (.ref ba), .val (.int (1 : Int32))] [(.ref ba), (.int (1 : Int32))])) rfl (by rw [hml]; rfl) (Steps.refl _) (argsL := []) (rest := [(.int (1 : Int32))]) (lenOf pdx_5 rfl) rfl (by show 2 * 0 + _ ≤ _; exact Nat.le_of_eq rfl) (hb hby at_160) (fun _ _ => ⟨rfl, e27, (by decide : 11 + 0 ≤ _), (by decide : 37 + 0 ≤ _)⟩)
    dsimp only [Pt.U, Pt.locs, Pt.cells, Pt.slots] at X30 l30 y30 z30 st30 hQ30
    subst l30 y30 z30
    obtain ⟨rfl, N30q, e30⟩ := hQ30
    have N30 := Fr.app N27 N30q
    have pre31 : ∀ t, Steps p.tables e below (T30.setTop (mkF m 163 #[.val (.int p1), .val (.int p2), .val (.int p3), .val (.int p4), .val (.int (p1 &&& (3 : Int32))), .val (.ref bs0), .val (.ref bs1), .val (.ref bs2), .val (.ref br), .val (.ref ba), .val (.int (1 : Int32))] [(.int (own_has (0 : Int32) (0 : Int32))), (.int (1 : Int32))])) t → Steps p.tables e below (s₁.setTop (entryFrame m #[(.int p1), (.int p2), (.int p3), (.int p4)] maxLocals)) t := fun t k => pre29 t (by
      show Steps p.tables e below (T27.setTop (mkF m 160 #[.val (.int p1), .val (.int p2), .val (.int p3), .val (.int p4), .val (.int (p1 &&& (3 : Int32))), .val (.ref bs0), .val (.ref bs1), .val (.ref bs2), .val (.ref br), .val (.ref ba), .val (.int (1 : Int32))] [(.ref ba), (.int (1 : Int32))])) t
      refine st30.trans ?_
      show Steps p.tables e below (T30.setTop (mkF m 163 #[.val (.int p1), .val (.int p2), .val (.int p3), .val (.int p4), .val (.int (p1 &&& (3 : Int32))), .val (.ref bs0), .val (.ref bs1), .val (.ref bs2), .val (.ref br), .val (.ref ba), .val (.int (1 : Int32))] [(.int (own_has (0 : Int32) (0 : Int32))), (.int (1 : Int32))])) t
      exact k)
    have pre32 : ∀ t, Steps p.tables e below (T30.setTop (mkF m 324 #[.val (.int p1), .val (.int p2), .val (.int p3), .val (.int p4), .val (.int (p1 &&& (3 : Int32))), .val (.ref bs0), .val (.ref bs1), .val (.ref bs2), .val (.ref br), .val (.ref ba), .val (.int ((1 : Int32) &&& (1 : Int32)))] [(.int ((1 : Int32) &&& (1 : Int32)))])) t → Steps p.tables e below (s₁.setTop (entryFrame m #[(.int p1), (.int p2), (.int p3), (.int p4)] maxLocals)) t := fun t k => pre31 t (by
      show Steps p.tables e below (T30.setTop (mkF m 163 #[.val (.int p1), .val (.int p2), .val (.int p3), .val (.int p4), .val (.int (p1 &&& (3 : Int32))), .val (.ref bs0), .val (.ref bs1), .val (.ref bs2), .val (.ref br), .val (.ref ba), .val (.int (1 : Int32))] [(.int (own_has (0 : Int32) (0 : Int32))), (.int (1 : Int32))])) _
      refine XS.iload X30.here hx rfl (hb hby at_163) rfl ?_
      show Steps p.tables e below (T30.setTop (mkF m 165 #[.val (.int p1), .val (.int p2), .val (.int p3), .val (.int p4), .val (.int (p1 &&& (3 : Int32))), .val (.ref bs0), .val (.ref bs1), .val (.ref bs2), .val (.ref br), .val (.ref ba), .val (.int (1 : Int32))] [(.int (p1 &&& (3 : Int32))), (.int (own_has (0 : Int32) (0 : Int32))), (.int (1 : Int32))])) _
      refine XS.ifYes X30.here hx rfl (pc0 := 165) (pc' := 172) rfl (hb hby at_165) rfl ((if0 _ _).trans (flt (by rw [hn]; decide)).2.2.2) (by decide) (by decide) ?_
      show Steps p.tables e below (T30.setTop (mkF m 172 #[.val (.int p1), .val (.int p2), .val (.int p3), .val (.int p4), .val (.int (p1 &&& (3 : Int32))), .val (.ref bs0), .val (.ref bs1), .val (.ref bs2), .val (.ref br), .val (.ref ba), .val (.int (1 : Int32))] [(.int (own_has (0 : Int32) (0 : Int32))), (.int (1 : Int32))])) _
      refine XS.iconst X30.here hx rfl (hb hby at_172) ?_
      show Steps p.tables e below (T30.setTop (mkF m 173 #[.val (.int p1), .val (.int p2), .val (.int p3), .val (.int p4), .val (.int (p1 &&& (3 : Int32))), .val (.ref bs0), .val (.ref bs1), .val (.ref bs2), .val (.ref br), .val (.ref ba), .val (.int (1 : Int32))] [(.int (0 : Int32)), (.int (own_has (0 : Int32) (0 : Int32))), (.int (1 : Int32))])) _
      refine XS.icmpNo X30.here hx rfl (hb hby at_173) rfl (teq (by decide)).2 ?_
      show Steps p.tables e below (T30.setTop (mkF m 176 #[.val (.int p1), .val (.int p2), .val (.int p3), .val (.int p4), .val (.int (p1 &&& (3 : Int32))), .val (.ref bs0), .val (.ref bs1), .val (.ref bs2), .val (.ref br), .val (.ref ba), .val (.int (1 : Int32))] [(.int (1 : Int32))])) _
      refine XS.iconst X30.here hx rfl (hb hby at_176) ?_
      show Steps p.tables e below (T30.setTop (mkF m 177 #[.val (.int p1), .val (.int p2), .val (.int p3), .val (.int p4), .val (.int (p1 &&& (3 : Int32))), .val (.ref bs0), .val (.ref bs1), .val (.ref bs2), .val (.ref br), .val (.ref ba), .val (.int (1 : Int32))] [(.int (1 : Int32)), (.int (1 : Int32))])) _
      refine XS.goto X30.here hx rfl (pc0 := 177) (pc' := 181) rfl (hb hby at_177) (by decide) (by decide) ?_
      show Steps p.tables e below (T30.setTop (mkF m 181 #[.val (.int p1), .val (.int p2), .val (.int p3), .val (.int p4), .val (.int (p1 &&& (3 : Int32))), .val (.ref bs0), .val (.ref bs1), .val (.ref bs2), .val (.ref br), .val (.ref ba), .val (.int (1 : Int32))] [(.int (1 : Int32)), (.int (1 : Int32))])) _
      refine XS.iand X30.here hx rfl (hb hby at_181) rfl ?_
      show Steps p.tables e below (T30.setTop (mkF m 182 #[.val (.int p1), .val (.int p2), .val (.int p3), .val (.int p4), .val (.int (p1 &&& (3 : Int32))), .val (.ref bs0), .val (.ref bs1), .val (.ref bs2), .val (.ref br), .val (.ref ba), .val (.int (1 : Int32))] [(.int ((1 : Int32) &&& (1 : Int32)))])) _
      refine XS.istore X30.here hx rfl (hb hby at_182) rfl (l' := #[.val (.int p1), .val (.int p2), .val (.int p3), .val (.int p4), .val (.int (p1 &&& (3 : Int32))), .val (.ref bs0), .val (.ref bs1), .val (.ref bs2), .val (.ref br), .val (.ref ba), .val (.int ((1 : Int32) &&& (1 : Int32)))]) rfl ?_
      show Steps p.tables e below (T30.setTop (mkF m 184 #[.val (.int p1), .val (.int p2), .val (.int p3), .val (.int p4), .val (.int (p1 &&& (3 : Int32))), .val (.ref bs0), .val (.ref bs1), .val (.ref bs2), .val (.ref br), .val (.ref ba), .val (.int ((1 : Int32) &&& (1 : Int32)))] [])) _
      refine XS.iload X30.here hx rfl (hb hby at_184) rfl ?_
      show Steps p.tables e below (T30.setTop (mkF m 186 #[.val (.int p1), .val (.int p2), .val (.int p3), .val (.int p4), .val (.int (p1 &&& (3 : Int32))), .val (.ref bs0), .val (.ref bs1), .val (.ref bs2), .val (.ref br), .val (.ref ba), .val (.int ((1 : Int32) &&& (1 : Int32)))] [(.int (p1 &&& (3 : Int32)))])) _
      refine XS.ifYes X30.here hx rfl (pc0 := 186) (pc' := 233) rfl (hb hby at_186) rfl ((if0 _ _).trans (flt (by rw [hn]; decide)).2.2.2) (by decide) (by decide) ?_
      show Steps p.tables e below (T30.setTop (mkF m 233 #[.val (.int p1), .val (.int p2), .val (.int p3), .val (.int p4), .val (.int (p1 &&& (3 : Int32))), .val (.ref bs0), .val (.ref bs1), .val (.ref bs2), .val (.ref br), .val (.ref ba), .val (.int ((1 : Int32) &&& (1 : Int32)))] [])) _
      refine XS.iload X30.here hx rfl (hb hby at_233) rfl ?_
      show Steps p.tables e below (T30.setTop (mkF m 235 #[.val (.int p1), .val (.int p2), .val (.int p3), .val (.int p4), .val (.int (p1 &&& (3 : Int32))), .val (.ref bs0), .val (.ref bs1), .val (.ref bs2), .val (.ref br), .val (.ref ba), .val (.int ((1 : Int32) &&& (1 : Int32)))] [(.int (p1 &&& (3 : Int32)))])) _
      refine XS.iconst X30.here hx rfl (hb hby at_235) ?_
      show Steps p.tables e below (T30.setTop (mkF m 236 #[.val (.int p1), .val (.int p2), .val (.int p3), .val (.int p4), .val (.int (p1 &&& (3 : Int32))), .val (.ref bs0), .val (.ref bs1), .val (.ref bs2), .val (.ref br), .val (.ref ba), .val (.int ((1 : Int32) &&& (1 : Int32)))] [(.int (1 : Int32)), (.int (p1 &&& (3 : Int32)))])) _
      refine XS.icmpYes X30.here hx rfl (pc0 := 236) (pc' := 283) rfl (hb hby at_236) rfl (flt (by rw [hn]; decide)).2.2.2 (by decide) (by decide) ?_
      show Steps p.tables e below (T30.setTop (mkF m 283 #[.val (.int p1), .val (.int p2), .val (.int p3), .val (.int p4), .val (.int (p1 &&& (3 : Int32))), .val (.ref bs0), .val (.ref bs1), .val (.ref bs2), .val (.ref br), .val (.ref ba), .val (.int ((1 : Int32) &&& (1 : Int32)))] [])) _
      refine XS.iload X30.here hx rfl (hb hby at_283) rfl ?_
      show Steps p.tables e below (T30.setTop (mkF m 285 #[.val (.int p1), .val (.int p2), .val (.int p3), .val (.int p4), .val (.int (p1 &&& (3 : Int32))), .val (.ref bs0), .val (.ref bs1), .val (.ref bs2), .val (.ref br), .val (.ref ba), .val (.int ((1 : Int32) &&& (1 : Int32)))] [(.int (p1 &&& (3 : Int32)))])) _
      refine XS.iconst X30.here hx rfl (hb hby at_285) ?_
      show Steps p.tables e below (T30.setTop (mkF m 286 #[.val (.int p1), .val (.int p2), .val (.int p3), .val (.int p4), .val (.int (p1 &&& (3 : Int32))), .val (.ref bs0), .val (.ref bs1), .val (.ref bs2), .val (.ref br), .val (.ref ba), .val (.int ((1 : Int32) &&& (1 : Int32)))] [(.int (2 : Int32)), (.int (p1 &&& (3 : Int32)))])) _
      refine XS.icmpYes X30.here hx rfl (pc0 := 286) (pc' := 322) rfl (hb hby at_286) rfl (flt (by rw [hn]; decide)).2.2.2 (by decide) (by decide) ?_
      show Steps p.tables e below (T30.setTop (mkF m 322 #[.val (.int p1), .val (.int p2), .val (.int p3), .val (.int p4), .val (.int (p1 &&& (3 : Int32))), .val (.ref bs0), .val (.ref bs1), .val (.ref bs2), .val (.ref br), .val (.ref ba), .val (.int ((1 : Int32) &&& (1 : Int32)))] [])) _
      refine XS.iload X30.here hx rfl (hb hby at_322) rfl ?_
      show Steps p.tables e below (T30.setTop (mkF m 324 #[.val (.int p1), .val (.int p2), .val (.int p3), .val (.int p4), .val (.int (p1 &&& (3 : Int32))), .val (.ref bs0), .val (.ref bs1), .val (.ref bs2), .val (.ref br), .val (.ref ba), .val (.int ((1 : Int32) &&& (1 : Int32)))] [(.int ((1 : Int32) &&& (1 : Int32)))])) _
      exact k)
    obtain ⟨fs, hr, hrun, hended, hend⟩ := X30.leaveW hSs (show k1 ≤ T30.heap.size by first | exact hkk24 | (rw [e30]; exact hkk24)) (v := some (.int (1 : Int32))) (fun h => by rw [Bd.returns] at h; cases h)
    refine ⟨_, _, pre32 _ ?_, hrun, hended, _, _, rfl, ⟨rfl, N30⟩, ⟨hend.1, hend.2.1, hend.2.2.1, hend.2.2.2.mono (by decide) (by decide)⟩⟩
    show Steps p.tables e below (T30.setTop (mkF m 324 #[.val (.int p1), .val (.int p2), .val (.int p3), .val (.int p4), .val (.int (p1 &&& (3 : Int32))), .val (.ref bs0), .val (.ref bs1), .val (.ref bs2), .val (.ref br), .val (.ref ba), .val (.int ((1 : Int32) &&& (1 : Int32)))] [(.int ((1 : Int32) &&& (1 : Int32)))])) _
    exact retN X30 hx (t := .boolean) Bd.returns (by simp) (hb hby at_324) hr
  have hn0 := hn; clear hn
  by_cases hn : p1 &&& (3 : Int32) = (1 : Int32)
  · skip
    have pre33 : ∀ t, Steps p.tables e below (T11.setTop (mkF m 59 #[.val (.int p1), .val (.int p2), .val (.int p3), .val (.int p4), .val (.int (p1 &&& (3 : Int32))), .val (.ref bs0), .val (.ref bs1), .val (.ref bs2), .unset, .unset, .unset] [(.int (1 : Int32))])) t → Steps p.tables e below (s₁.setTop (entryFrame m #[(.int p1), (.int p2), (.int p3), (.int p4)] maxLocals)) t := fun t k => pre13 t (by
      show Steps p.tables e below (T11.setTop (mkF m 40 #[.val (.int p1), .val (.int p2), .val (.int p3), .val (.int p4), .val (.int (p1 &&& (3 : Int32))), .val (.ref bs0), .val (.ref bs1), .val (.ref bs2), .unset, .unset, .unset] [(.int (p1 &&& (3 : Int32)))])) _
      refine XS.ifYes X11.here hx rfl (pc0 := 40) (pc' := 52) rfl (hb hby at_40) rfl ((if0 _ _).trans (feq (by rw [hn]; decide)).2) (by decide) (by decide) ?_
      show Steps p.tables e below (T11.setTop (mkF m 52 #[.val (.int p1), .val (.int p2), .val (.int p3), .val (.int p4), .val (.int (p1 &&& (3 : Int32))), .val (.ref bs0), .val (.ref bs1), .val (.ref bs2), .unset, .unset, .unset] [])) _
      refine XS.iload X11.here hx rfl (hb hby at_52) rfl ?_
      show Steps p.tables e below (T11.setTop (mkF m 54 #[.val (.int p1), .val (.int p2), .val (.int p3), .val (.int p4), .val (.int (p1 &&& (3 : Int32))), .val (.ref bs0), .val (.ref bs1), .val (.ref bs2), .unset, .unset, .unset] [(.int (p1 &&& (3 : Int32)))])) _
      refine XS.iconst X11.here hx rfl (hb hby at_54) ?_
      show Steps p.tables e below (T11.setTop (mkF m 55 #[.val (.int p1), .val (.int p2), .val (.int p3), .val (.int p4), .val (.int (p1 &&& (3 : Int32))), .val (.ref bs0), .val (.ref bs1), .val (.ref bs2), .unset, .unset, .unset] [(.int (1 : Int32)), (.int (p1 &&& (3 : Int32)))])) _
      refine XS.icmpNo X11.here hx rfl (hb hby at_55) rfl (teq hn).2 ?_
      show Steps p.tables e below (T11.setTop (mkF m 58 #[.val (.int p1), .val (.int p2), .val (.int p3), .val (.int p4), .val (.int (p1 &&& (3 : Int32))), .val (.ref bs0), .val (.ref bs1), .val (.ref bs2), .unset, .unset, .unset] [])) _
      refine XS.iconst X11.here hx rfl (hb hby at_58) ?_
      show Steps p.tables e below (T11.setTop (mkF m 59 #[.val (.int p1), .val (.int p2), .val (.int p3), .val (.int p4), .val (.int (p1 &&& (3 : Int32))), .val (.ref bs0), .val (.ref bs1), .val (.ref bs2), .unset, .unset, .unset] [(.int (1 : Int32))])) _
      exact k)
    obtain ⟨T34, h34, k34, X34, e34, E34, A34, Ea34, O34, st34⟩ := newRE X11 hx hZ hown (hw _ (List.mem_of_getElem? (i := 26) rfl)) (hw _ (List.mem_of_getElem? (i := 27) rfl)) rfl (g := (mkF m 59 #[.val (.int p1), .val (.int p2), .val (.int p3), .val (.int p4), .val (.int (p1 &&& (3 : Int32))), .val (.ref bs0), .val (.ref bs1), .val (.ref bs2), .unset, .unset, .unset] [(.int (1 : Int32))])) rfl (hb hby at_59) rfl (by decide) (cap := 1) (by decide) (by decide) (by decide) (by decide) (ad := "[Ljava/lang/String;") (by decide)
    obtain ⟨br, ge34⟩ : ∃ z, z = T11.heap.size := ⟨_, rfl⟩
    rw [← ge34] at A34 Ea34 st34
    have gq34 := Nat.le_of_eq ge34.symm
    have o_bs0_br : bs0 < br := Nat.lt_of_lt_of_le E_bs0_11.lt gq34
    have o_bs1_br : bs1 < br := Nat.lt_of_lt_of_le E_bs1_11.lt gq34
    have o_bs2_br : bs2 < br := Nat.lt_of_lt_of_le E_bs2.lt gq34
    have g_br : n0 ≤ br := Nat.le_trans Z0 (Nat.le_trans KK11.1 gq34)
    have sz_br : h0.size ≤ br := Nat.le_trans KK11.1 gq34
    have E_bs0_34 := E_bs0_11.ext E34
    have E_bs1_34 := E_bs1_11.ext E34
    have E_bs2_34 := E_bs2.ext E34
    have KK34 := KK11.ext E34
    have V_br : Arv Z h34 br k34 (.object "java/lang/String") (1 : Int32) [.null] .null := (Arv.new A34 (by decide)).pad (pad_rep [] .null 1)
    have X_br := Ea34
    have pre35 : ∀ t, Steps p.tables e below (T34.setTop (mkF m 62 #[.val (.int p1), .val (.int p2), .val (.int p3), .val (.int p4), .val (.int (p1 &&& (3 : Int32))), .val (.ref bs0), .val (.ref bs1), .val (.ref bs2), .unset, .unset, .unset] [(.ref br)])) t → Steps p.tables e below (s₁.setTop (entryFrame m #[(.int p1), (.int p2), (.int p3), (.int p4)] maxLocals)) t := fun t k => pre33 t (by
      show Steps p.tables e below (T11.setTop (mkF m 59 #[.val (.int p1), .val (.int p2), .val (.int p3), .val (.int p4), .val (.int (p1 &&& (3 : Int32))), .val (.ref bs0), .val (.ref bs1), .val (.ref bs2), .unset, .unset, .unset] [(.int (1 : Int32))])) t
      refine st34 _ ?_
      show Steps p.tables e below (T34.setTop (mkF m 62 #[.val (.int p1), .val (.int p2), .val (.int p3), .val (.int p4), .val (.int (p1 &&& (3 : Int32))), .val (.ref bs0), .val (.ref bs1), .val (.ref bs2), .unset, .unset, .unset] [(.ref br)])) t
      exact k)
    have pre36 : ∀ t, Steps p.tables e below (T34.setTop (mkF m 66 #[.val (.int p1), .val (.int p2), .val (.int p3), .val (.int p4), .val (.int (p1 &&& (3 : Int32))), .val (.ref bs0), .val (.ref bs1), .val (.ref bs2), .unset, .unset, .unset] [(.ref bs0), (.int (0 : Int32)), (.ref br), (.ref br)])) t → Steps p.tables e below (s₁.setTop (entryFrame m #[(.int p1), (.int p2), (.int p3), (.int p4)] maxLocals)) t := fun t k => pre35 t (by
      show Steps p.tables e below (T34.setTop (mkF m 62 #[.val (.int p1), .val (.int p2), .val (.int p3), .val (.int p4), .val (.int (p1 &&& (3 : Int32))), .val (.ref bs0), .val (.ref bs1), .val (.ref bs2), .unset, .unset, .unset] [(.ref br)])) _
      refine XS.dup X34.here hx rfl (hb hby at_62) rfl rfl ?_
      show Steps p.tables e below (T34.setTop (mkF m 63 #[.val (.int p1), .val (.int p2), .val (.int p3), .val (.int p4), .val (.int (p1 &&& (3 : Int32))), .val (.ref bs0), .val (.ref bs1), .val (.ref bs2), .unset, .unset, .unset] [(.ref br), (.ref br)])) _
      refine XS.iconst X34.here hx rfl (hb hby at_63) ?_
      show Steps p.tables e below (T34.setTop (mkF m 64 #[.val (.int p1), .val (.int p2), .val (.int p3), .val (.int p4), .val (.int (p1 &&& (3 : Int32))), .val (.ref bs0), .val (.ref bs1), .val (.ref bs2), .unset, .unset, .unset] [(.int (0 : Int32)), (.ref br), (.ref br)])) _
      refine XS.aload X34.here hx rfl (hb hby at_64) rfl rfl ?_
      show Steps p.tables e below (T34.setTop (mkF m 66 #[.val (.int p1), .val (.int p2), .val (.int p3), .val (.int p4), .val (.int (p1 &&& (3 : Int32))), .val (.ref bs0), .val (.ref bs1), .val (.ref bs2), .unset, .unset, .unset] [(.ref bs0), (.int (0 : Int32)), (.ref br), (.ref br)])) _
      exact k)
    obtain ⟨cl37, Ar37, q37, Sz37, Nn37, Hh37, Gg37⟩ := V_br
    have hin37 : ¬ ((0 : Int32) < 0 ∨ cl37.slots.size ≤ ((0 : Int32)).toNatClampNeg) := inb_of Sz37 ⟨by decide, by decide⟩
    obtain ⟨T37, h37, X37, e37, W37, st37⟩ := stR X34 hx hZ e34 Ar37 (j := (0 : Int32)) hin37 rfl (Sto.ofV Ar37 q37 O34 (Ins.self E_bs0_34)) (g := (mkF m 66 #[.val (.int p1), .val (.int p2), .val (.int p3), .val (.int p4), .val (.int (p1 &&& (3 : Int32))), .val (.ref bs0), .val (.ref bs1), .val (.ref bs2), .unset, .unset, .unset] [(.ref bs0), (.int (0 : Int32)), (.ref br), (.ref br)])) rfl rfl (hb hby at_66)
    have E_bs0_37 := E_bs0_34.wr W37
    have E_bs1_37 := E_bs1_34.wr W37
    have E_bs2_37 := E_bs2_34.wr W37
    have X_br_37 := X_br.wr W37
    have KK37 := KK34.wr W37 (Or.inr sz_br)
    have V_br_37 : Arv Z h37 br k34 (.object "java/lang/String") (1 : Int32) [(.ref bs0)] .null := Arv.set Ar37 q37 Sz37 Nn37 Hh37 Gg37 rfl W37 0 rfl (Nat.le_of_ble_eq_true rfl)
    have N37 := Fr.snoc X37 N11 g_br
    have pre38 : ∀ t, Steps p.tables e below (T37.setTop (mkF m 67 #[.val (.int p1), .val (.int p2), .val (.int p3), .val (.int p4), .val (.int (p1 &&& (3 : Int32))), .val (.ref bs0), .val (.ref bs1), .val (.ref bs2), .unset, .unset, .unset] [(.ref br)])) t → Steps p.tables e below (s₁.setTop (entryFrame m #[(.int p1), (.int p2), (.int p3), (.int p4)] maxLocals)) t := fun t k => pre36 t (by
      show Steps p.tables e below (T34.setTop (mkF m 66 #[.val (.int p1), .val (.int p2), .val (.int p3), .val (.int p4), .val (.int (p1 &&& (3 : Int32))), .val (.ref bs0), .val (.ref bs1), .val (.ref bs2), .unset, .unset, .unset] [(.ref bs0), (.int (0 : Int32)), (.ref br), (.ref br)])) t
      refine st37 _ ?_
      show Steps p.tables e below (T37.setTop (mkF m 67 #[.val (.int p1), .val (.int p2), .val (.int p3), .val (.int p4), .val (.int (p1 &&& (3 : Int32))), .val (.ref bs0), .val (.ref bs1), .val (.ref bs2), .unset, .unset, .unset] [(.ref br)])) t
      exact k)
    have pre39 : ∀ t, Steps p.tables e below (T37.setTop (mkF m 118 #[.val (.int p1), .val (.int p2), .val (.int p3), .val (.int p4), .val (.int (p1 &&& (3 : Int32))), .val (.ref bs0), .val (.ref bs1), .val (.ref bs2), .val (.ref br), .unset, .unset] [])) t → Steps p.tables e below (s₁.setTop (entryFrame m #[(.int p1), (.int p2), (.int p3), (.int p4)] maxLocals)) t := fun t k => pre38 t (by
      show Steps p.tables e below (T37.setTop (mkF m 67 #[.val (.int p1), .val (.int p2), .val (.int p3), .val (.int p4), .val (.int (p1 &&& (3 : Int32))), .val (.ref bs0), .val (.ref bs1), .val (.ref bs2), .unset, .unset, .unset] [(.ref br)])) _
      refine XS.astore X37.here hx rfl (hb hby at_67) rfl rfl (l' := #[.val (.int p1), .val (.int p2), .val (.int p3), .val (.int p4), .val (.int (p1 &&& (3 : Int32))), .val (.ref bs0), .val (.ref bs1), .val (.ref bs2), .val (.ref br), .unset, .unset]) rfl ?_
      show Steps p.tables e below (T37.setTop (mkF m 69 #[.val (.int p1), .val (.int p2), .val (.int p3), .val (.int p4), .val (.int (p1 &&& (3 : Int32))), .val (.ref bs0), .val (.ref bs1), .val (.ref bs2), .val (.ref br), .unset, .unset] [])) _
      refine XS.goto X37.here hx rfl (pc0 := 69) (pc' := 118) rfl (hb hby at_69) (by decide) (by decide) ?_
      show Steps p.tables e below (T37.setTop (mkF m 118 #[.val (.int p1), .val (.int p2), .val (.int p3), .val (.int p4), .val (.int (p1 &&& (3 : Int32))), .val (.ref bs0), .val (.ref bs1), .val (.ref bs2), .val (.ref br), .unset, .unset] [])) _
      exact k)
    obtain ⟨T40, h40, X40, e40, E40, A40, D40, -, st40⟩ := newO X37 hx hZ hown (hw _ (List.mem_of_getElem? (i := 28) rfl)) (hw _ (List.mem_of_getElem? (i := 29) rfl)) (hw _ (List.mem_of_getElem? (i := 30) rfl)) e37 (g := (mkF m 118 #[.val (.int p1), .val (.int p2), .val (.int p3), .val (.int p4), .val (.int (p1 &&& (3 : Int32))), .val (.ref bs0), .val (.ref bs1), .val (.ref bs2), .val (.ref br), .unset, .unset] [])) rfl (hb hby at_118) (by decide) (by decide)
    obtain ⟨ba, ge40⟩ : ∃ z, z = h37.size := ⟨_, rfl⟩
    rw [← ge40] at A40 D40 st40
    have gq40 := Nat.le_of_eq ge40.symm
    have o_bs0_ba : bs0 < ba := Nat.lt_of_lt_of_le E_bs0_37.lt gq40
    have o_bs1_ba : bs1 < ba := Nat.lt_of_lt_of_le E_bs1_37.lt gq40
    have o_bs2_ba : bs2 < ba := Nat.lt_of_lt_of_le E_bs2_37.lt gq40
    have o_br_ba : br < ba := Nat.lt_of_lt_of_le V_br_37.lt gq40
    have g_ba : n0 ≤ ba := Nat.le_trans Z0 (Nat.le_trans KK37.1 gq40)
    have sz_ba : h0.size ≤ ba := Nat.le_trans KK37.1 gq40
    have E_bs0_40 := E_bs0_37.ext E40
    have E_bs1_40 := E_bs1_37.ext E40
    have E_bs2_40 := E_bs2_37.ext E40
    have V_br_40 := V_br_37.ext E40
    have X_br_40 := X_br_37.ext E40
    have KK40 := KK37.ext E40
    have E_ba : Exa Z h40 ba "com/example/arcsieve/arcsieve/Arguments" := A40
    have F_command_ba : Fld Z h40 ba "com/example/arcsieve/arcsieve/Arguments" "command" "Ljava/lang/String;" .null := D40 (Or.inr (hw _ (List.mem_of_getElem? (i := 39) rfl))) (ty := (.object "java/lang/String")) (by decide)
    have F_args_ba : Fld Z h40 ba "com/example/arcsieve/arcsieve/Arguments" "args" "[Ljava/lang/String;" .null := D40 (Or.inr (hw _ (List.mem_of_getElem? (i := 50) rfl))) (ty := (.array (.object "java/lang/String"))) (by decide)
    have F_next_ba : Fld Z h40 ba "com/example/arcsieve/arcsieve/Arguments" "next" "I" (.int (0 : Int32)) := D40 (Or.inl (hw _ (List.mem_of_getElem? (i := 57) rfl))) (ty := .int) (by decide)
    have pre41 : ∀ t, Steps p.tables e below (T40.setTop (mkF m 121 #[.val (.int p1), .val (.int p2), .val (.int p3), .val (.int p4), .val (.int (p1 &&& (3 : Int32))), .val (.ref bs0), .val (.ref bs1), .val (.ref bs2), .val (.ref br), .unset, .unset] [(.ref ba)])) t → Steps p.tables e below (s₁.setTop (entryFrame m #[(.int p1), (.int p2), (.int p3), (.int p4)] maxLocals)) t := fun t k => pre39 t (by
      show Steps p.tables e below (T37.setTop (mkF m 118 #[.val (.int p1), .val (.int p2), .val (.int p3), .val (.int p4), .val (.int (p1 &&& (3 : Int32))), .val (.ref bs0), .val (.ref bs1), .val (.ref bs2), .val (.ref br), .unset, .unset] [])) t
      refine st40 _ ?_
      show Steps p.tables e below (T40.setTop (mkF m 121 #[.val (.int p1), .val (.int p2), .val (.int p3), .val (.int p4), .val (.int (p1 &&& (3 : Int32))), .val (.ref bs0), .val (.ref bs1), .val (.ref bs2), .val (.ref br), .unset, .unset] [(.ref ba)])) t
      exact k)
    have pre42 : ∀ t, Steps p.tables e below (T40.setTop (mkF m 122 #[.val (.int p1), .val (.int p2), .val (.int p3), .val (.int p4), .val (.int (p1 &&& (3 : Int32))), .val (.ref bs0), .val (.ref bs1), .val (.ref bs2), .val (.ref br), .unset, .unset] [(.ref ba), (.ref ba)])) t → Steps p.tables e below (s₁.setTop (entryFrame m #[(.int p1), (.int p2), (.int p3), (.int p4)] maxLocals)) t := fun t k => pre41 t (by
      show Steps p.tables e below (T40.setTop (mkF m 121 #[.val (.int p1), .val (.int p2), .val (.int p3), .val (.int p4), .val (.int (p1 &&& (3 : Int32))), .val (.ref bs0), .val (.ref bs1), .val (.ref bs2), .val (.ref br), .unset, .unset] [(.ref ba)])) _
      refine XS.dup X40.here hx rfl (hb hby at_121) rfl rfl ?_
      show Steps p.tables e below (T40.setTop (mkF m 122 #[.val (.int p1), .val (.int p2), .val (.int p3), .val (.int p4), .val (.int (p1 &&& (3 : Int32))), .val (.ref bs0), .val (.ref bs1), .val (.ref bs2), .val (.ref br), .unset, .unset] [(.ref ba), (.ref ba)])) _
      exact k)
    have wS43 : ∀ d ∈ Bundle.stringAtoms, d.before a0 Z = true := fun d hd => by
      simp only [Bundle.stringAtoms, List.mem_cons, List.not_mem_nil, or_false] at hd
      rcases hd with rfl | rfl | rfl | rfl | rfl | rfl | rfl
      · exact (hw _ (List.mem_of_getElem? (i := 2) rfl))
      · exact (hw _ (List.mem_of_getElem? (i := 10) rfl))
      · exact (hw _ (List.mem_of_getElem? (i := 14) rfl))
      · exact (hw _ (List.mem_of_getElem? (i := 23) rfl))
      · exact (hw _ (List.mem_of_getElem? (i := 25) rfl))
      · exact (hw _ (List.mem_of_getElem? (i := 32) rfl))
      · exact (hw _ (List.mem_of_getElem? (i := 33) rfl))
    obtain ⟨cs, T43, h43, k1, X43, e43, E43, hSs, hk1, hZ, hown, st43⟩ := ldcS (s := s) (vm0 := s.vm) X40 hx hZ hown (hw _ (List.mem_of_getElem? (i := 31) rfl)) wS43 e40 (k0 := 0) ((State.WarmedH.refl s).since 0) (Nat.zero_le _) (g := (mkF m 122 #[.val (.int p1), .val (.int p2), .val (.int p3), .val (.int p4), .val (.int (p1 &&& (3 : Int32))), .val (.ref bs0), .val (.ref bs1), .val (.ref bs2), .val (.ref br), .unset, .unset] [(.ref ba), (.ref ba)])) rfl (hb hby at_122) (n := 12) (by decide) (by decide) (by decide) (by decide)
    have E_bs0_43 := E_bs0_40.ext E43
    have E_bs1_43 := E_bs1_40.ext E43
    have E_bs2_43 := E_bs2_40.ext E43
    have V_br_43 := V_br_40.ext E43
    have X_br_43 := X_br_40.ext E43
    have E_ba_43 := E_ba.ext E43
    have F_command_ba_43 := F_command_ba.ext E43
    have F_args_ba_43 := F_args_ba.ext E43
    have F_next_ba_43 := F_next_ba.ext E43
    have KK43 := KK40.ext E43
    have hkk : Keep h43 h43 [] := Keep.refl _ _
    have pre44 : ∀ t, Steps p.tables e below (T43.setTop (mkF m 124 #[.val (.int p1), .val (.int p2), .val (.int p3), .val (.int p4), .val (.int (p1 &&& (3 : Int32))), .val (.ref bs0), .val (.ref bs1), .val (.ref bs2), .val (.ref br), .unset, .unset] [(.ref cs), (.ref ba), (.ref ba)])) t → Steps p.tables e below (s₁.setTop (entryFrame m #[(.int p1), (.int p2), (.int p3), (.int p4)] maxLocals)) t := fun t k => pre42 t (by
      show Steps p.tables e below (T40.setTop (mkF m 122 #[.val (.int p1), .val (.int p2), .val (.int p3), .val (.int p4), .val (.int (p1 &&& (3 : Int32))), .val (.ref bs0), .val (.ref bs1), .val (.ref bs2), .val (.ref br), .unset, .unset] [(.ref ba), (.ref ba)])) t
      refine st43 _ ?_
      show Steps p.tables e below (T43.setTop (mkF m 124 #[.val (.int p1), .val (.int p2), .val (.int p3), .val (.int p4), .val (.int (p1 &&& (3 : Int32))), .val (.ref bs0), .val (.ref bs1), .val (.ref bs2), .val (.ref br), .unset, .unset] [(.ref cs), (.ref ba), (.ref ba)])) t
      exact k)
    have pre45 : ∀ t, Steps p.tables e below (T43.setTop (mkF m 126 #[.val (.int p1), .val (.int p2), .val (.int p3), .val (.int p4), .val (.int (p1 &&& (3 : Int32))), .val (.ref bs0), .val (.ref bs1), .val (.ref bs2), .val (.ref br), .unset, .unset] [(.ref br), (.ref cs), (.ref ba), (.ref ba)])) t → Steps p.tables e below (s₁.setTop (entryFrame m #[(.int p1), (.int p2), (.int p3), (.int p4)] maxLocals)) t := fun t k => pre44 t (by
      show Steps p.tables e below (T43.setTop (mkF m 124 #[.val (.int p1), .val (.int p2), .val (.int p3), .val (.int p4), .val (.int (p1 &&& (3 : Int32))), .val (.ref bs0), .val (.ref bs1), .val (.ref bs2), .val (.ref br), .unset, .unset] [(.ref cs), (.ref ba), (.ref ba)])) _
      refine XS.aload X43.here hx rfl (hb hby at_124) rfl rfl ?_
      show Steps p.tables e below (T43.setTop (mkF m 126 #[.val (.int p1), .val (.int p2), .val (.int p3), .val (.int p4), .val (.int (p1 &&& (3 : Int32))), .val (.ref bs0), .val (.ref bs1), .val (.ref bs2), .val (.ref br), .unset, .unset] [(.ref br), (.ref cs), (.ref ba), (.ref ba)])) _
      exact k)
    obtain ⟨_, _, ⟨T46, L46, k46, n46⟩, -, X46, ⟨Lc46, hQ46, l46, y46, z46⟩, st46⟩ := X43.specialBack hx (y := (⟨"com/example/arcsieve/arcsieve/Arguments", "<init>", "(Ljava/lang/String;[Ljava/lang/String;)V"⟩ : MethodName)) rfl hown (mvT hZ (hw _ (List.mem_of_getElem? (i := 34) rfl))) (mvT hZ (hw _ (List.mem_of_getElem? (i := 35) rfl))) (mvT hZ (hw _ (List.mem_of_getElem? (i := 36) rfl))) (by decide) (backOf (W := 1) (rm6 l Z a0 hw [] ba cs br k34 (1 : Int32) [(.ref bs0)] h43 n0 (Nat.le_trans Z0 KK43.1) E_ba_43 F_command_ba_43 F_args_ba_43 F_next_ba_43 V_br_43 X_br_43 (by decide) g_ba o_br_ba) hZ (hw _ (List.mem_of_getElem? (i := 36) rfl)) (hw _ (List.mem_of_getElem? (i := 30) rfl)) (by decide) (by decide)) (g := (mkF m 126 #[.val (.int p1), .val (.int p2), .val (.int p3), .val (.int p4), .val (.int (p1 &&& (3 : Int32))), .val (.ref bs0), .val (.ref bs1), .val (.ref bs2), .val (.ref br), .unset, .unset] [(.ref br), (.ref cs), (.ref ba), (.ref ba)])) rfl (by rw [hml]; rfl) (Steps.refl _) (a := ba) (argsL := [(.ref cs), (.ref br)]) (rest := [(.ref ba)]) (lenOf pdx_4 rfl) rfl (by show 2 * 0 + _ ≤ _; exact Nat.le_of_eq rfl) (hb hby at_126) (fun _ _ => ⟨rfl, e43, (by decide : 10 + 1 ≤ _), (by decide : 35 + 3 ≤ _)⟩)
    dsimp only [Pt.U, Pt.locs, Pt.cells, Pt.slots] at X46 l46 y46 z46 st46 hQ46
    subst l46 y46 z46
    obtain ⟨bc, rfl, N46q, s46, K46, Ex46, Fa46, Fn46, Vc46⟩ := hQ46
    have N46 := Fr.app N37 N46q
    have pre47 : ∀ t, Steps p.tables e below (T46.setTop (mkF m 129 #[.val (.int p1), .val (.int p2), .val (.int p3), .val (.int p4), .val (.int (p1 &&& (3 : Int32))), .val (.ref bs0), .val (.ref bs1), .val (.ref bs2), .val (.ref br), .unset, .unset] [(.ref ba)])) t → Steps p.tables e below (s₁.setTop (entryFrame m #[(.int p1), (.int p2), (.int p3), (.int p4)] maxLocals)) t := fun t k => pre45 t (by
      show Steps p.tables e below (T43.setTop (mkF m 126 #[.val (.int p1), .val (.int p2), .val (.int p3), .val (.int p4), .val (.int (p1 &&& (3 : Int32))), .val (.ref bs0), .val (.ref bs1), .val (.ref bs2), .val (.ref br), .unset, .unset] [(.ref br), (.ref cs), (.ref ba), (.ref ba)])) t
      refine st46.trans ?_
      show Steps p.tables e below (T46.setTop (mkF m 129 #[.val (.int p1), .val (.int p2), .val (.int p3), .val (.int p4), .val (.int (p1 &&& (3 : Int32))), .val (.ref bs0), .val (.ref bs1), .val (.ref bs2), .val (.ref br), .unset, .unset] [(.ref ba)])) t
      exact k)
    have o_bs0_bc : bs0 < bc := Nat.lt_of_lt_of_le E_bs0_43.lt s46
    have o_bs1_bc : bs1 < bc := Nat.lt_of_lt_of_le E_bs1_43.lt s46
    have o_bs2_bc : bs2 < bc := Nat.lt_of_lt_of_le E_bs2_43.lt s46
    have o_ba_bc : ba < bc := Nat.lt_of_lt_of_le E_ba_43.lt s46
    have g_bc : n0 ≤ bc := Nat.le_trans Z0 (Nat.le_trans KK43.1 s46)
    have sz_bc : h0.size ≤ bc := Nat.le_trans KK43.1 s46
    have E_bs0_46 := E_bs0_43.keep K46
    have E_bs1_46 := E_bs1_43.keep K46
    have E_bs2_46 := E_bs2_43.keep K46
    have E_ba_46 := E_ba_43.keep K46
    have KK46 := KK43.trans K46 (own_k1 (Or.inr sz_ba))
    have hkk46 := Nat.le_trans hk1 K46.1
    have pre48 : ∀ t, Steps p.tables e below (T46.setTop (mkF m 133 #[.val (.int p1), .val (.int p2), .val (.int p3), .val (.int p4), .val (.int (p1 &&& (3 : Int32))), .val (.ref bs0), .val (.ref bs1), .val (.ref bs2), .val (.ref br), .val (.ref ba), .unset] [(.ref ba)])) t → Steps p.tables e below (s₁.setTop (entryFrame m #[(.int p1), (.int p2), (.int p3), (.int p4)] maxLocals)) t := fun t k => pre47 t (by
      show Steps p.tables e below (T46.setTop (mkF m 129 #[.val (.int p1), .val (.int p2), .val (.int p3), .val (.int p4), .val (.int (p1 &&& (3 : Int32))), .val (.ref bs0), .val (.ref bs1), .val (.ref bs2), .val (.ref br), .unset, .unset] [(.ref ba)])) _
      refine XS.astore X46.here hx rfl (hb hby at_129) rfl rfl (l' := #[.val (.int p1), .val (.int p2), .val (.int p3), .val (.int p4), .val (.int (p1 &&& (3 : Int32))), .val (.ref bs0), .val (.ref bs1), .val (.ref bs2), .val (.ref br), .val (.ref ba), .unset]) rfl ?_
      show Steps p.tables e below (T46.setTop (mkF m 131 #[.val (.int p1), .val (.int p2), .val (.int p3), .val (.int p4), .val (.int (p1 &&& (3 : Int32))), .val (.ref bs0), .val (.ref bs1), .val (.ref bs2), .val (.ref br), .val (.ref ba), .unset] [])) _
      refine XS.aload X46.here hx rfl (hb hby at_131) rfl rfl ?_
      show Steps p.tables e below (T46.setTop (mkF m 133 #[.val (.int p1), .val (.int p2), .val (.int p3), .val (.int p4), .val (.int (p1 &&& (3 : Int32))), .val (.ref bs0), .val (.ref bs1), .val (.ref bs2), .val (.ref br), .val (.ref ba), .unset] [(.ref ba)])) _
      exact k)
    obtain ⟨cq49, kq49, q49a, q49b, q49c⟩ := isOf hZ rfl E_ba_46
    obtain ⟨_, _, ⟨T49, L49, k49, n49⟩, -, X49, ⟨Lc49, hQ49, l49, y49, z49⟩, st49⟩ := X46.virtualBack hx (y := (⟨"com/example/arcsieve/arcsieve/Arguments", "hasNext", "()Z"⟩ : MethodName)) (z := (⟨"com/example/arcsieve/arcsieve/Arguments", "hasNext", "()Z"⟩ : MethodName)) hown (mvT hZ (hw _ (List.mem_of_getElem? (i := 51) rfl))) (mvT hZ (hw _ (List.mem_of_getElem? (i := 52) rfl))) (notFace_of_selects (args := #[]) (mvT hZ (hw _ (List.mem_of_getElem? (i := 54) rfl)))) (mvT hZ (hw _ (List.mem_of_getElem? (i := 54) rfl))) (mvT hZ (hw _ (List.mem_of_getElem? (i := 53) rfl))) (by decide) (backOf (W := 0) (rm7 l Z a0 hw [] ba bc (0 : Int32) k34 (1 : Int32) [(.ref bs0)] T46.heap n0 (Nat.le_trans Z0 KK46.1) Fn46 Fa46 Vc46) hZ (hw _ (List.mem_of_getElem? (i := 55) rfl)) (hw _ (List.mem_of_getElem? (i := 30) rfl)) (by decide) (by decide)) q49a q49c (g := (mkF m 133 #[.val (.int p1), .val (.int p2), .val (.int p3), .val (.int p4), .val (.int (p1 &&& (3 : Int32))), .val (.ref bs0), .val (.ref bs1), .val (.ref bs2), .val (.ref br), .val (.ref ba), .unset] [(.ref ba)])) rfl (by rw [hml]; rfl) (Steps.refl _) (argsL := []) (rest := []) (lenOf pdx_5 rfl) rfl (by show 2 * 0 + _ ≤ _; exact Nat.le_of_eq rfl) (hb hby at_133) (fun _ _ => ⟨rfl, rfl, (by decide : 11 + 0 ≤ _), (by decide : 38 + 0 ≤ _)⟩)
    dsimp only [Pt.U, Pt.locs, Pt.cells, Pt.slots] at X49 l49 y49 z49 st49 hQ49
    subst l49 y49 z49
    obtain ⟨rfl, N49q, e49⟩ := hQ49
    have N49 := Fr.app N46 N49q
    have pre50 : ∀ t, Steps p.tables e below (T49.setTop (mkF m 136 #[.val (.int p1), .val (.int p2), .val (.int p3), .val (.int p4), .val (.int (p1 &&& (3 : Int32))), .val (.ref bs0), .val (.ref bs1), .val (.ref bs2), .val (.ref br), .val (.ref ba), .unset] [(.int (own_has (0 : Int32) (1 : Int32)))])) t → Steps p.tables e below (s₁.setTop (entryFrame m #[(.int p1), (.int p2), (.int p3), (.int p4)] maxLocals)) t := fun t k => pre48 t (by
      show Steps p.tables e below (T46.setTop (mkF m 133 #[.val (.int p1), .val (.int p2), .val (.int p3), .val (.int p4), .val (.int (p1 &&& (3 : Int32))), .val (.ref bs0), .val (.ref bs1), .val (.ref bs2), .val (.ref br), .val (.ref ba), .unset] [(.ref ba)])) t
      refine st49.trans ?_
      show Steps p.tables e below (T49.setTop (mkF m 136 #[.val (.int p1), .val (.int p2), .val (.int p3), .val (.int p4), .val (.int (p1 &&& (3 : Int32))), .val (.ref bs0), .val (.ref bs1), .val (.ref bs2), .val (.ref br), .val (.ref ba), .unset] [(.int (own_has (0 : Int32) (1 : Int32)))])) t
      exact k)
    have pre51 : ∀ t, Steps p.tables e below (T49.setTop (mkF m 160 #[.val (.int p1), .val (.int p2), .val (.int p3), .val (.int p4), .val (.int (p1 &&& (3 : Int32))), .val (.ref bs0), .val (.ref bs1), .val (.ref bs2), .val (.ref br), .val (.ref ba), .val (.int (1 : Int32))] [(.ref ba), (.int (1 : Int32))])) t → Steps p.tables e below (s₁.setTop (entryFrame m #[(.int p1), (.int p2), (.int p3), (.int p4)] maxLocals)) t := fun t k => pre50 t (by
      show Steps p.tables e below (T49.setTop (mkF m 136 #[.val (.int p1), .val (.int p2), .val (.int p3), .val (.int p4), .val (.int (p1 &&& (3 : Int32))), .val (.ref bs0), .val (.ref bs1), .val (.ref bs2), .val (.ref br), .val (.ref ba), .unset] [(.int (own_has (0 : Int32) (1 : Int32)))])) _
      refine XS.iload X49.here hx rfl (hb hby at_136) rfl ?_
      show Steps p.tables e below (T49.setTop (mkF m 138 #[.val (.int p1), .val (.int p2), .val (.int p3), .val (.int p4), .val (.int (p1 &&& (3 : Int32))), .val (.ref bs0), .val (.ref bs1), .val (.ref bs2), .val (.ref br), .val (.ref ba), .unset] [(.int (p1 &&& (3 : Int32))), (.int (own_has (0 : Int32) (1 : Int32)))])) _
      refine XS.ifNo X49.here hx rfl (hb hby at_138) rfl ((if0 _ _).trans (tlt (by rw [hn]; decide)).2.2.2) ?_
      show Steps p.tables e below (T49.setTop (mkF m 141 #[.val (.int p1), .val (.int p2), .val (.int p3), .val (.int p4), .val (.int (p1 &&& (3 : Int32))), .val (.ref bs0), .val (.ref bs1), .val (.ref bs2), .val (.ref br), .val (.ref ba), .unset] [(.int (own_has (0 : Int32) (1 : Int32)))])) _
      refine XS.iconst X49.here hx rfl (hb hby at_141) ?_
      show Steps p.tables e below (T49.setTop (mkF m 142 #[.val (.int p1), .val (.int p2), .val (.int p3), .val (.int p4), .val (.int (p1 &&& (3 : Int32))), .val (.ref bs0), .val (.ref bs1), .val (.ref bs2), .val (.ref br), .val (.ref ba), .unset] [(.int (1 : Int32)), (.int (own_has (0 : Int32) (1 : Int32)))])) _
      refine XS.goto X49.here hx rfl (pc0 := 142) (pc' := 146) rfl (hb hby at_142) (by decide) (by decide) ?_
      show Steps p.tables e below (T49.setTop (mkF m 146 #[.val (.int p1), .val (.int p2), .val (.int p3), .val (.int p4), .val (.int (p1 &&& (3 : Int32))), .val (.ref bs0), .val (.ref bs1), .val (.ref bs2), .val (.ref br), .val (.ref ba), .unset] [(.int (1 : Int32)), (.int (own_has (0 : Int32) (1 : Int32)))])) _
      refine XS.icmpNo X49.here hx rfl (hb hby at_146) rfl (teq (by decide)).2 ?_
      show Steps p.tables e below (T49.setTop (mkF m 149 #[.val (.int p1), .val (.int p2), .val (.int p3), .val (.int p4), .val (.int (p1 &&& (3 : Int32))), .val (.ref bs0), .val (.ref bs1), .val (.ref bs2), .val (.ref br), .val (.ref ba), .unset] [])) _
      refine XS.iconst X49.here hx rfl (hb hby at_149) ?_
      show Steps p.tables e below (T49.setTop (mkF m 150 #[.val (.int p1), .val (.int p2), .val (.int p3), .val (.int p4), .val (.int (p1 &&& (3 : Int32))), .val (.ref bs0), .val (.ref bs1), .val (.ref bs2), .val (.ref br), .val (.ref ba), .unset] [(.int (1 : Int32))])) _
      refine XS.goto X49.here hx rfl (pc0 := 150) (pc' := 154) rfl (hb hby at_150) (by decide) (by decide) ?_
      show Steps p.tables e below (T49.setTop (mkF m 154 #[.val (.int p1), .val (.int p2), .val (.int p3), .val (.int p4), .val (.int (p1 &&& (3 : Int32))), .val (.ref bs0), .val (.ref bs1), .val (.ref bs2), .val (.ref br), .val (.ref ba), .unset] [(.int (1 : Int32))])) _
      refine XS.istore X49.here hx rfl (hb hby at_154) rfl (l' := #[.val (.int p1), .val (.int p2), .val (.int p3), .val (.int p4), .val (.int (p1 &&& (3 : Int32))), .val (.ref bs0), .val (.ref bs1), .val (.ref bs2), .val (.ref br), .val (.ref ba), .val (.int (1 : Int32))]) rfl ?_
      show Steps p.tables e below (T49.setTop (mkF m 156 #[.val (.int p1), .val (.int p2), .val (.int p3), .val (.int p4), .val (.int (p1 &&& (3 : Int32))), .val (.ref bs0), .val (.ref bs1), .val (.ref bs2), .val (.ref br), .val (.ref ba), .val (.int (1 : Int32))] [])) _
      refine XS.iload X49.here hx rfl (hb hby at_156) rfl ?_
      show Steps p.tables e below (T49.setTop (mkF m 158 #[.val (.int p1), .val (.int p2), .val (.int p3), .val (.int p4), .val (.int (p1 &&& (3 : Int32))), .val (.ref bs0), .val (.ref bs1), .val (.ref bs2), .val (.ref br), .val (.ref ba), .val (.int (1 : Int32))] [(.int (1 : Int32))])) _
      refine XS.aload X49.here hx rfl (hb hby at_158) rfl rfl ?_
      show Steps p.tables e below (T49.setTop (mkF m 160 #[.val (.int p1), .val (.int p2), .val (.int p3), .val (.int p4), .val (.int (p1 &&& (3 : Int32))), .val (.ref bs0), .val (.ref bs1), .val (.ref bs2), .val (.ref br), .val (.ref ba), .val (.int (1 : Int32))] [(.ref ba), (.int (1 : Int32))])) _
      exact k)
    obtain ⟨cq52, kq52, q52a, q52b, q52c⟩ := isOf hZ e49 E_ba_46
    obtain ⟨_, _, ⟨T52, L52, k52, n52⟩, -, X52, ⟨Lc52, hQ52, l52, y52, z52⟩, st52⟩ := X49.virtualBack hx (y := (⟨"com/example/arcsieve/arcsieve/Arguments", "hasNext", "()Z"⟩ : MethodName)) (z := (⟨"com/example/arcsieve/arcsieve/Arguments", "hasNext", "()Z"⟩ : MethodName)) hown (mvT hZ (hw _ (List.mem_of_getElem? (i := 51) rfl))) (mvT hZ (hw _ (List.mem_of_getElem? (i := 52) rfl))) (notFace_of_selects (args := #[]) (mvT hZ (hw _ (List.mem_of_getElem? (i := 54) rfl)))) (mvT hZ (hw _ (List.mem_of_getElem? (i := 54) rfl))) (mvT hZ (hw _ (List.mem_of_getElem? (i := 53) rfl))) (by decide) (backOf (W := 1) (rm7 l Z a0 hw [] ba bc (0 : Int32) k34 (1 : Int32) [(.ref bs0)] T46.heap n0 (Nat.le_trans Z0 KK46.1) Fn46 Fa46 Vc46) hZ (hw _ (List.mem_of_getElem? (i := 55) rfl)) (hw _ (List.mem_of_getElem? (i := 30) rfl)) (by decide) (by decide)) q52a q52c (g := (mkF m 160 #[.val (.int p1), .val (.int p2), .val (.int p3), .val (.int p4), .val (.int (p1 &&& (3 : Int32))), .val (.ref bs0), .val (.ref bs1), .val (.ref bs2), .val (.ref br), .val (.ref ba), .val (.int (1 : Int32))] [(.ref ba), (.int (1 : Int32))])) rfl (by rw [hml]; rfl) (Steps.refl _) (argsL := []) (rest := [(.int (1 : Int32))]) (lenOf pdx_5 rfl) rfl (by show 2 * 0 + _ ≤ _; exact Nat.le_of_eq rfl) (hb hby at_160) (fun _ _ => ⟨rfl, e49, (by decide : 11 + 0 ≤ _), (by decide : 38 + 0 ≤ _)⟩)
    dsimp only [Pt.U, Pt.locs, Pt.cells, Pt.slots] at X52 l52 y52 z52 st52 hQ52
    subst l52 y52 z52
    obtain ⟨rfl, N52q, e52⟩ := hQ52
    have N52 := Fr.app N49 N52q
    have pre53 : ∀ t, Steps p.tables e below (T52.setTop (mkF m 163 #[.val (.int p1), .val (.int p2), .val (.int p3), .val (.int p4), .val (.int (p1 &&& (3 : Int32))), .val (.ref bs0), .val (.ref bs1), .val (.ref bs2), .val (.ref br), .val (.ref ba), .val (.int (1 : Int32))] [(.int (own_has (0 : Int32) (1 : Int32))), (.int (1 : Int32))])) t → Steps p.tables e below (s₁.setTop (entryFrame m #[(.int p1), (.int p2), (.int p3), (.int p4)] maxLocals)) t := fun t k => pre51 t (by
      show Steps p.tables e below (T49.setTop (mkF m 160 #[.val (.int p1), .val (.int p2), .val (.int p3), .val (.int p4), .val (.int (p1 &&& (3 : Int32))), .val (.ref bs0), .val (.ref bs1), .val (.ref bs2), .val (.ref br), .val (.ref ba), .val (.int (1 : Int32))] [(.ref ba), (.int (1 : Int32))])) t
      refine st52.trans ?_
      show Steps p.tables e below (T52.setTop (mkF m 163 #[.val (.int p1), .val (.int p2), .val (.int p3), .val (.int p4), .val (.int (p1 &&& (3 : Int32))), .val (.ref bs0), .val (.ref bs1), .val (.ref bs2), .val (.ref br), .val (.ref ba), .val (.int (1 : Int32))] [(.int (own_has (0 : Int32) (1 : Int32))), (.int (1 : Int32))])) t
      exact k)
    have pre54 : ∀ t, Steps p.tables e below (T52.setTop (mkF m 195 #[.val (.int p1), .val (.int p2), .val (.int p3), .val (.int p4), .val (.int (p1 &&& (3 : Int32))), .val (.ref bs0), .val (.ref bs1), .val (.ref bs2), .val (.ref br), .val (.ref ba), .val (.int ((1 : Int32) &&& (1 : Int32)))] [(.ref ba), (.ref bs0), (.int ((1 : Int32) &&& (1 : Int32)))])) t → Steps p.tables e below (s₁.setTop (entryFrame m #[(.int p1), (.int p2), (.int p3), (.int p4)] maxLocals)) t := fun t k => pre53 t (by
      show Steps p.tables e below (T52.setTop (mkF m 163 #[.val (.int p1), .val (.int p2), .val (.int p3), .val (.int p4), .val (.int (p1 &&& (3 : Int32))), .val (.ref bs0), .val (.ref bs1), .val (.ref bs2), .val (.ref br), .val (.ref ba), .val (.int (1 : Int32))] [(.int (own_has (0 : Int32) (1 : Int32))), (.int (1 : Int32))])) _
      refine XS.iload X52.here hx rfl (hb hby at_163) rfl ?_
      show Steps p.tables e below (T52.setTop (mkF m 165 #[.val (.int p1), .val (.int p2), .val (.int p3), .val (.int p4), .val (.int (p1 &&& (3 : Int32))), .val (.ref bs0), .val (.ref bs1), .val (.ref bs2), .val (.ref br), .val (.ref ba), .val (.int (1 : Int32))] [(.int (p1 &&& (3 : Int32))), (.int (own_has (0 : Int32) (1 : Int32))), (.int (1 : Int32))])) _
      refine XS.ifNo X52.here hx rfl (hb hby at_165) rfl ((if0 _ _).trans (tlt (by rw [hn]; decide)).2.2.2) ?_
      show Steps p.tables e below (T52.setTop (mkF m 168 #[.val (.int p1), .val (.int p2), .val (.int p3), .val (.int p4), .val (.int (p1 &&& (3 : Int32))), .val (.ref bs0), .val (.ref bs1), .val (.ref bs2), .val (.ref br), .val (.ref ba), .val (.int (1 : Int32))] [(.int (own_has (0 : Int32) (1 : Int32))), (.int (1 : Int32))])) _
      refine XS.iconst X52.here hx rfl (hb hby at_168) ?_
      show Steps p.tables e below (T52.setTop (mkF m 169 #[.val (.int p1), .val (.int p2), .val (.int p3), .val (.int p4), .val (.int (p1 &&& (3 : Int32))), .val (.ref bs0), .val (.ref bs1), .val (.ref bs2), .val (.ref br), .val (.ref ba), .val (.int (1 : Int32))] [(.int (1 : Int32)), (.int (own_has (0 : Int32) (1 : Int32))), (.int (1 : Int32))])) _
      refine XS.goto X52.here hx rfl (pc0 := 169) (pc' := 173) rfl (hb hby at_169) (by decide) (by decide) ?_
      show Steps p.tables e below (T52.setTop (mkF m 173 #[.val (.int p1), .val (.int p2), .val (.int p3), .val (.int p4), .val (.int (p1 &&& (3 : Int32))), .val (.ref bs0), .val (.ref bs1), .val (.ref bs2), .val (.ref br), .val (.ref ba), .val (.int (1 : Int32))] [(.int (1 : Int32)), (.int (own_has (0 : Int32) (1 : Int32))), (.int (1 : Int32))])) _
      refine XS.icmpNo X52.here hx rfl (hb hby at_173) rfl (teq (by decide)).2 ?_
      show Steps p.tables e below (T52.setTop (mkF m 176 #[.val (.int p1), .val (.int p2), .val (.int p3), .val (.int p4), .val (.int (p1 &&& (3 : Int32))), .val (.ref bs0), .val (.ref bs1), .val (.ref bs2), .val (.ref br), .val (.ref ba), .val (.int (1 : Int32))] [(.int (1 : Int32))])) _
      refine XS.iconst X52.here hx rfl (hb hby at_176) ?_
      show Steps p.tables e below (T52.setTop (mkF m 177 #[.val (.int p1), .val (.int p2), .val (.int p3), .val (.int p4), .val (.int (p1 &&& (3 : Int32))), .val (.ref bs0), .val (.ref bs1), .val (.ref bs2), .val (.ref br), .val (.ref ba), .val (.int (1 : Int32))] [(.int (1 : Int32)), (.int (1 : Int32))])) _
      refine XS.goto X52.here hx rfl (pc0 := 177) (pc' := 181) rfl (hb hby at_177) (by decide) (by decide) ?_
      show Steps p.tables e below (T52.setTop (mkF m 181 #[.val (.int p1), .val (.int p2), .val (.int p3), .val (.int p4), .val (.int (p1 &&& (3 : Int32))), .val (.ref bs0), .val (.ref bs1), .val (.ref bs2), .val (.ref br), .val (.ref ba), .val (.int (1 : Int32))] [(.int (1 : Int32)), (.int (1 : Int32))])) _
      refine XS.iand X52.here hx rfl (hb hby at_181) rfl ?_
      show Steps p.tables e below (T52.setTop (mkF m 182 #[.val (.int p1), .val (.int p2), .val (.int p3), .val (.int p4), .val (.int (p1 &&& (3 : Int32))), .val (.ref bs0), .val (.ref bs1), .val (.ref bs2), .val (.ref br), .val (.ref ba), .val (.int (1 : Int32))] [(.int ((1 : Int32) &&& (1 : Int32)))])) _
      refine XS.istore X52.here hx rfl (hb hby at_182) rfl (l' := #[.val (.int p1), .val (.int p2), .val (.int p3), .val (.int p4), .val (.int (p1 &&& (3 : Int32))), .val (.ref bs0), .val (.ref bs1), .val (.ref bs2), .val (.ref br), .val (.ref ba), .val (.int ((1 : Int32) &&& (1 : Int32)))]) rfl ?_
      show Steps p.tables e below (T52.setTop (mkF m 184 #[.val (.int p1), .val (.int p2), .val (.int p3), .val (.int p4), .val (.int (p1 &&& (3 : Int32))), .val (.ref bs0), .val (.ref bs1), .val (.ref bs2), .val (.ref br), .val (.ref ba), .val (.int ((1 : Int32) &&& (1 : Int32)))] [])) _
      refine XS.iload X52.here hx rfl (hb hby at_184) rfl ?_
      show Steps p.tables e below (T52.setTop (mkF m 186 #[.val (.int p1), .val (.int p2), .val (.int p3), .val (.int p4), .val (.int (p1 &&& (3 : Int32))), .val (.ref bs0), .val (.ref bs1), .val (.ref bs2), .val (.ref br), .val (.ref ba), .val (.int ((1 : Int32) &&& (1 : Int32)))] [(.int (p1 &&& (3 : Int32)))])) _
      refine XS.ifNo X52.here hx rfl (hb hby at_186) rfl ((if0 _ _).trans (tlt (by rw [hn]; decide)).2.2.2) ?_
      show Steps p.tables e below (T52.setTop (mkF m 189 #[.val (.int p1), .val (.int p2), .val (.int p3), .val (.int p4), .val (.int (p1 &&& (3 : Int32))), .val (.ref bs0), .val (.ref bs1), .val (.ref bs2), .val (.ref br), .val (.ref ba), .val (.int ((1 : Int32) &&& (1 : Int32)))] [])) _
      refine XS.iload X52.here hx rfl (hb hby at_189) rfl ?_
      show Steps p.tables e below (T52.setTop (mkF m 191 #[.val (.int p1), .val (.int p2), .val (.int p3), .val (.int p4), .val (.int (p1 &&& (3 : Int32))), .val (.ref bs0), .val (.ref bs1), .val (.ref bs2), .val (.ref br), .val (.ref ba), .val (.int ((1 : Int32) &&& (1 : Int32)))] [(.int ((1 : Int32) &&& (1 : Int32)))])) _
      refine XS.aload X52.here hx rfl (hb hby at_191) rfl rfl ?_
      show Steps p.tables e below (T52.setTop (mkF m 193 #[.val (.int p1), .val (.int p2), .val (.int p3), .val (.int p4), .val (.int (p1 &&& (3 : Int32))), .val (.ref bs0), .val (.ref bs1), .val (.ref bs2), .val (.ref br), .val (.ref ba), .val (.int ((1 : Int32) &&& (1 : Int32)))] [(.ref bs0), (.int ((1 : Int32) &&& (1 : Int32)))])) _
      refine XS.aload X52.here hx rfl (hb hby at_193) rfl rfl ?_
      show Steps p.tables e below (T52.setTop (mkF m 195 #[.val (.int p1), .val (.int p2), .val (.int p3), .val (.int p4), .val (.int (p1 &&& (3 : Int32))), .val (.ref bs0), .val (.ref bs1), .val (.ref bs2), .val (.ref br), .val (.ref ba), .val (.int ((1 : Int32) &&& (1 : Int32)))] [(.ref ba), (.ref bs0), (.int ((1 : Int32) &&& (1 : Int32)))])) _
      exact k)
    obtain ⟨cq55, kq55, q55a, q55b, q55c⟩ := isOf hZ e52 E_ba_46
    obtain ⟨_, _, ⟨T55, L55, k55, n55⟩, -, X55, ⟨Lc55, hQ55, l55, y55, z55⟩, st55⟩ := X52.virtualBack hx (y := (⟨"com/example/arcsieve/arcsieve/Arguments", "next", "()Ljava/lang/String;"⟩ : MethodName)) (z := (⟨"com/example/arcsieve/arcsieve/Arguments", "next", "()Ljava/lang/String;"⟩ : MethodName)) hown (mvT hZ (hw _ (List.mem_of_getElem? (i := 58) rfl))) (mvT hZ (hw _ (List.mem_of_getElem? (i := 59) rfl))) (notFace_of_selects (args := #[]) (mvT hZ (hw _ (List.mem_of_getElem? (i := 61) rfl)))) (mvT hZ (hw _ (List.mem_of_getElem? (i := 61) rfl))) (mvT hZ (hw _ (List.mem_of_getElem? (i := 60) rfl))) (by decide) (backOf (W := 2) (rm8 l Z a0 hw [] ba bc bs0 (0 : Int32) k34 (1 : Int32) [(.ref bs0)] T46.heap n0 (Nat.le_trans Z0 KK46.1) E_ba_46 Fn46 Fa46 Vc46 ⟨by decide, by decide⟩ rfl g_ba o_ba_bc) hZ (hw _ (List.mem_of_getElem? (i := 62) rfl)) (hw _ (List.mem_of_getElem? (i := 30) rfl)) (by decide) (by decide)) q55a q55c (g := (mkF m 195 #[.val (.int p1), .val (.int p2), .val (.int p3), .val (.int p4), .val (.int (p1 &&& (3 : Int32))), .val (.ref bs0), .val (.ref bs1), .val (.ref bs2), .val (.ref br), .val (.ref ba), .val (.int ((1 : Int32) &&& (1 : Int32)))] [(.ref ba), (.ref bs0), (.int ((1 : Int32) &&& (1 : Int32)))])) rfl (by rw [hml]; rfl) (Steps.refl _) (argsL := []) (rest := [(.ref bs0), (.int ((1 : Int32) &&& (1 : Int32)))]) (lenOf pdx_6 rfl) rfl (by show 2 * 0 + _ ≤ _; exact Nat.le_of_eq rfl) (hb hby at_195) (fun _ _ => ⟨rfl, e52, (by decide : 11 + 0 ≤ _), (by decide : 38 + 0 ≤ _)⟩)
    dsimp only [Pt.U, Pt.locs, Pt.cells, Pt.slots] at X55 l55 y55 z55 st55 hQ55
    subst l55 y55 z55
    obtain ⟨rfl, N55q, K55, Fn55, Fa55⟩ := hQ55
    have N55 := Fr.app N52 N55q
    have pre56 : ∀ t, Steps p.tables e below (T55.setTop (mkF m 198 #[.val (.int p1), .val (.int p2), .val (.int p3), .val (.int p4), .val (.int (p1 &&& (3 : Int32))), .val (.ref bs0), .val (.ref bs1), .val (.ref bs2), .val (.ref br), .val (.ref ba), .val (.int ((1 : Int32) &&& (1 : Int32)))] [(.ref bs0), (.ref bs0), (.int ((1 : Int32) &&& (1 : Int32)))])) t → Steps p.tables e below (s₁.setTop (entryFrame m #[(.int p1), (.int p2), (.int p3), (.int p4)] maxLocals)) t := fun t k => pre54 t (by
      show Steps p.tables e below (T52.setTop (mkF m 195 #[.val (.int p1), .val (.int p2), .val (.int p3), .val (.int p4), .val (.int (p1 &&& (3 : Int32))), .val (.ref bs0), .val (.ref bs1), .val (.ref bs2), .val (.ref br), .val (.ref ba), .val (.int ((1 : Int32) &&& (1 : Int32)))] [(.ref ba), (.ref bs0), (.int ((1 : Int32) &&& (1 : Int32)))])) t
      refine st55.trans ?_
      show Steps p.tables e below (T55.setTop (mkF m 198 #[.val (.int p1), .val (.int p2), .val (.int p3), .val (.int p4), .val (.int (p1 &&& (3 : Int32))), .val (.ref bs0), .val (.ref bs1), .val (.ref bs2), .val (.ref br), .val (.ref ba), .val (.int ((1 : Int32) &&& (1 : Int32)))] [(.ref bs0), (.ref bs0), (.int ((1 : Int32) &&& (1 : Int32)))])) t
      exact k)
    have E_bs0_55 := E_bs0_46.keep K55
    have E_bs1_55 := E_bs1_46.keep K55
    have E_bs2_55 := E_bs2_46.keep K55
    have E_ba_55 := E_ba_46.keep K55
    have Vc46_55 := Vc46.keep K55 (List.not_mem_cons_of_ne_of_not_mem (Nat.ne_of_gt o_ba_bc) List.not_mem_nil)
    have KK55 := KK46.trans K55 (own_k1 (Or.inr sz_ba))
    have hkk55 := Nat.le_trans hkk46 K55.1
    obtain ⟨cq57, kq57, q57a, q57b, q57c⟩ := isOf hZ rfl E_bs0_55
    obtain ⟨_, _, ⟨T57, L57, k57, n57⟩, -, X57, ⟨Lc57, hQ57, l57, y57, z57⟩, st57⟩ := X55.virtualBack hx (y := (⟨"java/lang/String", "equals", "(Ljava/lang/Object;)Z"⟩ : MethodName)) (z := (⟨"java/lang/String", "equals", "(Ljava/lang/Object;)Z"⟩ : MethodName)) hown (mvT hZ (hw _ (List.mem_of_getElem? (i := 63) rfl))) (mvT hZ (hw _ (List.mem_of_getElem? (i := 64) rfl))) (notFace_of_selects (args := #[]) (mvT hZ (hw _ (List.mem_of_getElem? (i := 66) rfl)))) (mvT hZ (hw _ (List.mem_of_getElem? (i := 66) rfl))) (mvT hZ (hw _ (List.mem_of_getElem? (i := 65) rfl))) (by decide) (backOf (W := 1) (rm9 l Z a0 hw [] bs0 bs0  T55.heap n0 (Nat.le_trans Z0 KK55.1) rfl) hZ (hw _ (List.mem_of_getElem? (i := 67) rfl)) (hw _ (List.mem_of_getElem? (i := 2) rfl)) (by decide) (by decide)) q57a q57c (g := (mkF m 198 #[.val (.int p1), .val (.int p2), .val (.int p3), .val (.int p4), .val (.int (p1 &&& (3 : Int32))), .val (.ref bs0), .val (.ref bs1), .val (.ref bs2), .val (.ref br), .val (.ref ba), .val (.int ((1 : Int32) &&& (1 : Int32)))] [(.ref bs0), (.ref bs0), (.int ((1 : Int32) &&& (1 : Int32)))])) rfl (by rw [hml]; rfl) (Steps.refl _) (argsL := [(.ref bs0)]) (rest := [(.int ((1 : Int32) &&& (1 : Int32)))]) (lenOf pdx_7 rfl) rfl (by show 2 * 0 + _ ≤ _; exact Nat.le_of_eq rfl) (hb hby at_198) (fun _ _ => ⟨rfl, rfl, (by decide : 11 + 0 ≤ _), (by decide : 38 + 0 ≤ _)⟩)
    dsimp only [Pt.U, Pt.locs, Pt.cells, Pt.slots] at X57 l57 y57 z57 st57 hQ57
    subst l57 y57 z57
    obtain ⟨rfl, N57q, e57⟩ := hQ57
    have N57 := Fr.app N55 N57q
    have pre58 : ∀ t, Steps p.tables e below (T57.setTop (mkF m 201 #[.val (.int p1), .val (.int p2), .val (.int p3), .val (.int p4), .val (.int (p1 &&& (3 : Int32))), .val (.ref bs0), .val (.ref bs1), .val (.ref bs2), .val (.ref br), .val (.ref ba), .val (.int ((1 : Int32) &&& (1 : Int32)))] [(.int (1 : Int32)), (.int ((1 : Int32) &&& (1 : Int32)))])) t → Steps p.tables e below (s₁.setTop (entryFrame m #[(.int p1), (.int p2), (.int p3), (.int p4)] maxLocals)) t := fun t k => pre56 t (by
      show Steps p.tables e below (T55.setTop (mkF m 198 #[.val (.int p1), .val (.int p2), .val (.int p3), .val (.int p4), .val (.int (p1 &&& (3 : Int32))), .val (.ref bs0), .val (.ref bs1), .val (.ref bs2), .val (.ref br), .val (.ref ba), .val (.int ((1 : Int32) &&& (1 : Int32)))] [(.ref bs0), (.ref bs0), (.int ((1 : Int32) &&& (1 : Int32)))])) t
      refine st57.trans ?_
      show Steps p.tables e below (T57.setTop (mkF m 201 #[.val (.int p1), .val (.int p2), .val (.int p3), .val (.int p4), .val (.int (p1 &&& (3 : Int32))), .val (.ref bs0), .val (.ref bs1), .val (.ref bs2), .val (.ref br), .val (.ref ba), .val (.int ((1 : Int32) &&& (1 : Int32)))] [(.int (1 : Int32)), (.int ((1 : Int32) &&& (1 : Int32)))])) t
      exact k)
    have pre59 : ∀ t, Steps p.tables e below (T57.setTop (mkF m 208 #[.val (.int p1), .val (.int p2), .val (.int p3), .val (.int p4), .val (.int (p1 &&& (3 : Int32))), .val (.ref bs0), .val (.ref bs1), .val (.ref bs2), .val (.ref br), .val (.ref ba), .val (.int (((1 : Int32) &&& (1 : Int32)) &&& (1 : Int32)))] [(.ref ba), (.int (((1 : Int32) &&& (1 : Int32)) &&& (1 : Int32)))])) t → Steps p.tables e below (s₁.setTop (entryFrame m #[(.int p1), (.int p2), (.int p3), (.int p4)] maxLocals)) t := fun t k => pre58 t (by
      show Steps p.tables e below (T57.setTop (mkF m 201 #[.val (.int p1), .val (.int p2), .val (.int p3), .val (.int p4), .val (.int (p1 &&& (3 : Int32))), .val (.ref bs0), .val (.ref bs1), .val (.ref bs2), .val (.ref br), .val (.ref ba), .val (.int ((1 : Int32) &&& (1 : Int32)))] [(.int (1 : Int32)), (.int ((1 : Int32) &&& (1 : Int32)))])) _
      refine XS.iand X57.here hx rfl (hb hby at_201) rfl ?_
      show Steps p.tables e below (T57.setTop (mkF m 202 #[.val (.int p1), .val (.int p2), .val (.int p3), .val (.int p4), .val (.int (p1 &&& (3 : Int32))), .val (.ref bs0), .val (.ref bs1), .val (.ref bs2), .val (.ref br), .val (.ref ba), .val (.int ((1 : Int32) &&& (1 : Int32)))] [(.int (((1 : Int32) &&& (1 : Int32)) &&& (1 : Int32)))])) _
      refine XS.istore X57.here hx rfl (hb hby at_202) rfl (l' := #[.val (.int p1), .val (.int p2), .val (.int p3), .val (.int p4), .val (.int (p1 &&& (3 : Int32))), .val (.ref bs0), .val (.ref bs1), .val (.ref bs2), .val (.ref br), .val (.ref ba), .val (.int (((1 : Int32) &&& (1 : Int32)) &&& (1 : Int32)))]) rfl ?_
      show Steps p.tables e below (T57.setTop (mkF m 204 #[.val (.int p1), .val (.int p2), .val (.int p3), .val (.int p4), .val (.int (p1 &&& (3 : Int32))), .val (.ref bs0), .val (.ref bs1), .val (.ref bs2), .val (.ref br), .val (.ref ba), .val (.int (((1 : Int32) &&& (1 : Int32)) &&& (1 : Int32)))] [])) _
      refine XS.iload X57.here hx rfl (hb hby at_204) rfl ?_
      show Steps p.tables e below (T57.setTop (mkF m 206 #[.val (.int p1), .val (.int p2), .val (.int p3), .val (.int p4), .val (.int (p1 &&& (3 : Int32))), .val (.ref bs0), .val (.ref bs1), .val (.ref bs2), .val (.ref br), .val (.ref ba), .val (.int (((1 : Int32) &&& (1 : Int32)) &&& (1 : Int32)))] [(.int (((1 : Int32) &&& (1 : Int32)) &&& (1 : Int32)))])) _
      refine XS.aload X57.here hx rfl (hb hby at_206) rfl rfl ?_
      show Steps p.tables e below (T57.setTop (mkF m 208 #[.val (.int p1), .val (.int p2), .val (.int p3), .val (.int p4), .val (.int (p1 &&& (3 : Int32))), .val (.ref bs0), .val (.ref bs1), .val (.ref bs2), .val (.ref br), .val (.ref ba), .val (.int (((1 : Int32) &&& (1 : Int32)) &&& (1 : Int32)))] [(.ref ba), (.int (((1 : Int32) &&& (1 : Int32)) &&& (1 : Int32)))])) _
      exact k)
    obtain ⟨cq60, kq60, q60a, q60b, q60c⟩ := isOf hZ e57 E_ba_55
    obtain ⟨_, _, ⟨T60, L60, k60, n60⟩, -, X60, ⟨Lc60, hQ60, l60, y60, z60⟩, st60⟩ := X57.virtualBack hx (y := (⟨"com/example/arcsieve/arcsieve/Arguments", "hasNext", "()Z"⟩ : MethodName)) (z := (⟨"com/example/arcsieve/arcsieve/Arguments", "hasNext", "()Z"⟩ : MethodName)) hown (mvT hZ (hw _ (List.mem_of_getElem? (i := 51) rfl))) (mvT hZ (hw _ (List.mem_of_getElem? (i := 52) rfl))) (notFace_of_selects (args := #[]) (mvT hZ (hw _ (List.mem_of_getElem? (i := 54) rfl)))) (mvT hZ (hw _ (List.mem_of_getElem? (i := 54) rfl))) (mvT hZ (hw _ (List.mem_of_getElem? (i := 53) rfl))) (by decide) (backOf (W := 1) (rm7 l Z a0 hw [] ba bc ((0 : Int32) + (1 : Int32)) k34 (1 : Int32) [(.ref bs0)] T55.heap n0 (Nat.le_trans Z0 KK55.1) Fn55 Fa55 Vc46_55) hZ (hw _ (List.mem_of_getElem? (i := 55) rfl)) (hw _ (List.mem_of_getElem? (i := 30) rfl)) (by decide) (by decide)) q60a q60c (g := (mkF m 208 #[.val (.int p1), .val (.int p2), .val (.int p3), .val (.int p4), .val (.int (p1 &&& (3 : Int32))), .val (.ref bs0), .val (.ref bs1), .val (.ref bs2), .val (.ref br), .val (.ref ba), .val (.int (((1 : Int32) &&& (1 : Int32)) &&& (1 : Int32)))] [(.ref ba), (.int (((1 : Int32) &&& (1 : Int32)) &&& (1 : Int32)))])) rfl (by rw [hml]; rfl) (Steps.refl _) (argsL := []) (rest := [(.int (((1 : Int32) &&& (1 : Int32)) &&& (1 : Int32)))]) (lenOf pdx_5 rfl) rfl (by show 2 * 0 + _ ≤ _; exact Nat.le_of_eq rfl) (hb hby at_208) (fun _ _ => ⟨rfl, e57, (by decide : 11 + 0 ≤ _), (by decide : 38 + 0 ≤ _)⟩)
    dsimp only [Pt.U, Pt.locs, Pt.cells, Pt.slots] at X60 l60 y60 z60 st60 hQ60
    subst l60 y60 z60
    obtain ⟨rfl, N60q, e60⟩ := hQ60
    have N60 := Fr.app N57 N60q
    have pre61 : ∀ t, Steps p.tables e below (T60.setTop (mkF m 211 #[.val (.int p1), .val (.int p2), .val (.int p3), .val (.int p4), .val (.int (p1 &&& (3 : Int32))), .val (.ref bs0), .val (.ref bs1), .val (.ref bs2), .val (.ref br), .val (.ref ba), .val (.int (((1 : Int32) &&& (1 : Int32)) &&& (1 : Int32)))] [(.int (own_has ((0 : Int32) + (1 : Int32)) (1 : Int32))), (.int (((1 : Int32) &&& (1 : Int32)) &&& (1 : Int32)))])) t → Steps p.tables e below (s₁.setTop (entryFrame m #[(.int p1), (.int p2), (.int p3), (.int p4)] maxLocals)) t := fun t k => pre59 t (by
      show Steps p.tables e below (T57.setTop (mkF m 208 #[.val (.int p1), .val (.int p2), .val (.int p3), .val (.int p4), .val (.int (p1 &&& (3 : Int32))), .val (.ref bs0), .val (.ref bs1), .val (.ref bs2), .val (.ref br), .val (.ref ba), .val (.int (((1 : Int32) &&& (1 : Int32)) &&& (1 : Int32)))] [(.ref ba), (.int (((1 : Int32) &&& (1 : Int32)) &&& (1 : Int32)))])) t
      refine st60.trans ?_
      show Steps p.tables e below (T60.setTop (mkF m 211 #[.val (.int p1), .val (.int p2), .val (.int p3), .val (.int p4), .val (.int (p1 &&& (3 : Int32))), .val (.ref bs0), .val (.ref bs1), .val (.ref bs2), .val (.ref br), .val (.ref ba), .val (.int (((1 : Int32) &&& (1 : Int32)) &&& (1 : Int32)))] [(.int (own_has ((0 : Int32) + (1 : Int32)) (1 : Int32))), (.int (((1 : Int32) &&& (1 : Int32)) &&& (1 : Int32)))])) t
      exact k)
    have pre62 : ∀ t, Steps p.tables e below (T60.setTop (mkF m 324 #[.val (.int p1), .val (.int p2), .val (.int p3), .val (.int p4), .val (.int (p1 &&& (3 : Int32))), .val (.ref bs0), .val (.ref bs1), .val (.ref bs2), .val (.ref br), .val (.ref ba), .val (.int ((((1 : Int32) &&& (1 : Int32)) &&& (1 : Int32)) &&& (1 : Int32)))] [(.int ((((1 : Int32) &&& (1 : Int32)) &&& (1 : Int32)) &&& (1 : Int32)))])) t → Steps p.tables e below (s₁.setTop (entryFrame m #[(.int p1), (.int p2), (.int p3), (.int p4)] maxLocals)) t := fun t k => pre61 t (by
      show Steps p.tables e below (T60.setTop (mkF m 211 #[.val (.int p1), .val (.int p2), .val (.int p3), .val (.int p4), .val (.int (p1 &&& (3 : Int32))), .val (.ref bs0), .val (.ref bs1), .val (.ref bs2), .val (.ref br), .val (.ref ba), .val (.int (((1 : Int32) &&& (1 : Int32)) &&& (1 : Int32)))] [(.int (own_has ((0 : Int32) + (1 : Int32)) (1 : Int32))), (.int (((1 : Int32) &&& (1 : Int32)) &&& (1 : Int32)))])) _
      refine XS.iload X60.here hx rfl (hb hby at_211) rfl ?_
      show Steps p.tables e below (T60.setTop (mkF m 213 #[.val (.int p1), .val (.int p2), .val (.int p3), .val (.int p4), .val (.int (p1 &&& (3 : Int32))), .val (.ref bs0), .val (.ref bs1), .val (.ref bs2), .val (.ref br), .val (.ref ba), .val (.int (((1 : Int32) &&& (1 : Int32)) &&& (1 : Int32)))] [(.int (p1 &&& (3 : Int32))), (.int (own_has ((0 : Int32) + (1 : Int32)) (1 : Int32))), (.int (((1 : Int32) &&& (1 : Int32)) &&& (1 : Int32)))])) _
      refine XS.iconst X60.here hx rfl (hb hby at_213) ?_
      show Steps p.tables e below (T60.setTop (mkF m 214 #[.val (.int p1), .val (.int p2), .val (.int p3), .val (.int p4), .val (.int (p1 &&& (3 : Int32))), .val (.ref bs0), .val (.ref bs1), .val (.ref bs2), .val (.ref br), .val (.ref ba), .val (.int (((1 : Int32) &&& (1 : Int32)) &&& (1 : Int32)))] [(.int (1 : Int32)), (.int (p1 &&& (3 : Int32))), (.int (own_has ((0 : Int32) + (1 : Int32)) (1 : Int32))), (.int (((1 : Int32) &&& (1 : Int32)) &&& (1 : Int32)))])) _
      refine XS.icmpYes X60.here hx rfl (pc0 := 214) (pc' := 221) rfl (hb hby at_214) rfl (flt (by rw [hn]; decide)).2.2.2 (by decide) (by decide) ?_
      show Steps p.tables e below (T60.setTop (mkF m 221 #[.val (.int p1), .val (.int p2), .val (.int p3), .val (.int p4), .val (.int (p1 &&& (3 : Int32))), .val (.ref bs0), .val (.ref bs1), .val (.ref bs2), .val (.ref br), .val (.ref ba), .val (.int (((1 : Int32) &&& (1 : Int32)) &&& (1 : Int32)))] [(.int (own_has ((0 : Int32) + (1 : Int32)) (1 : Int32))), (.int (((1 : Int32) &&& (1 : Int32)) &&& (1 : Int32)))])) _
      refine XS.iconst X60.here hx rfl (hb hby at_221) ?_
      show Steps p.tables e below (T60.setTop (mkF m 222 #[.val (.int p1), .val (.int p2), .val (.int p3), .val (.int p4), .val (.int (p1 &&& (3 : Int32))), .val (.ref bs0), .val (.ref bs1), .val (.ref bs2), .val (.ref br), .val (.ref ba), .val (.int (((1 : Int32) &&& (1 : Int32)) &&& (1 : Int32)))] [(.int (0 : Int32)), (.int (own_has ((0 : Int32) + (1 : Int32)) (1 : Int32))), (.int (((1 : Int32) &&& (1 : Int32)) &&& (1 : Int32)))])) _
      refine XS.icmpNo X60.here hx rfl (hb hby at_222) rfl (teq (by decide)).2 ?_
      show Steps p.tables e below (T60.setTop (mkF m 225 #[.val (.int p1), .val (.int p2), .val (.int p3), .val (.int p4), .val (.int (p1 &&& (3 : Int32))), .val (.ref bs0), .val (.ref bs1), .val (.ref bs2), .val (.ref br), .val (.ref ba), .val (.int (((1 : Int32) &&& (1 : Int32)) &&& (1 : Int32)))] [(.int (((1 : Int32) &&& (1 : Int32)) &&& (1 : Int32)))])) _
      refine XS.iconst X60.here hx rfl (hb hby at_225) ?_
      show Steps p.tables e below (T60.setTop (mkF m 226 #[.val (.int p1), .val (.int p2), .val (.int p3), .val (.int p4), .val (.int (p1 &&& (3 : Int32))), .val (.ref bs0), .val (.ref bs1), .val (.ref bs2), .val (.ref br), .val (.ref ba), .val (.int (((1 : Int32) &&& (1 : Int32)) &&& (1 : Int32)))] [(.int (1 : Int32)), (.int (((1 : Int32) &&& (1 : Int32)) &&& (1 : Int32)))])) _
      refine XS.goto X60.here hx rfl (pc0 := 226) (pc' := 230) rfl (hb hby at_226) (by decide) (by decide) ?_
      show Steps p.tables e below (T60.setTop (mkF m 230 #[.val (.int p1), .val (.int p2), .val (.int p3), .val (.int p4), .val (.int (p1 &&& (3 : Int32))), .val (.ref bs0), .val (.ref bs1), .val (.ref bs2), .val (.ref br), .val (.ref ba), .val (.int (((1 : Int32) &&& (1 : Int32)) &&& (1 : Int32)))] [(.int (1 : Int32)), (.int (((1 : Int32) &&& (1 : Int32)) &&& (1 : Int32)))])) _
      refine XS.iand X60.here hx rfl (hb hby at_230) rfl ?_
      show Steps p.tables e below (T60.setTop (mkF m 231 #[.val (.int p1), .val (.int p2), .val (.int p3), .val (.int p4), .val (.int (p1 &&& (3 : Int32))), .val (.ref bs0), .val (.ref bs1), .val (.ref bs2), .val (.ref br), .val (.ref ba), .val (.int (((1 : Int32) &&& (1 : Int32)) &&& (1 : Int32)))] [(.int ((((1 : Int32) &&& (1 : Int32)) &&& (1 : Int32)) &&& (1 : Int32)))])) _
      refine XS.istore X60.here hx rfl (hb hby at_231) rfl (l' := #[.val (.int p1), .val (.int p2), .val (.int p3), .val (.int p4), .val (.int (p1 &&& (3 : Int32))), .val (.ref bs0), .val (.ref bs1), .val (.ref bs2), .val (.ref br), .val (.ref ba), .val (.int ((((1 : Int32) &&& (1 : Int32)) &&& (1 : Int32)) &&& (1 : Int32)))]) rfl ?_
      show Steps p.tables e below (T60.setTop (mkF m 233 #[.val (.int p1), .val (.int p2), .val (.int p3), .val (.int p4), .val (.int (p1 &&& (3 : Int32))), .val (.ref bs0), .val (.ref bs1), .val (.ref bs2), .val (.ref br), .val (.ref ba), .val (.int ((((1 : Int32) &&& (1 : Int32)) &&& (1 : Int32)) &&& (1 : Int32)))] [])) _
      refine XS.iload X60.here hx rfl (hb hby at_233) rfl ?_
      show Steps p.tables e below (T60.setTop (mkF m 235 #[.val (.int p1), .val (.int p2), .val (.int p3), .val (.int p4), .val (.int (p1 &&& (3 : Int32))), .val (.ref bs0), .val (.ref bs1), .val (.ref bs2), .val (.ref br), .val (.ref ba), .val (.int ((((1 : Int32) &&& (1 : Int32)) &&& (1 : Int32)) &&& (1 : Int32)))] [(.int (p1 &&& (3 : Int32)))])) _
      refine XS.iconst X60.here hx rfl (hb hby at_235) ?_
      show Steps p.tables e below (T60.setTop (mkF m 236 #[.val (.int p1), .val (.int p2), .val (.int p3), .val (.int p4), .val (.int (p1 &&& (3 : Int32))), .val (.ref bs0), .val (.ref bs1), .val (.ref bs2), .val (.ref br), .val (.ref ba), .val (.int ((((1 : Int32) &&& (1 : Int32)) &&& (1 : Int32)) &&& (1 : Int32)))] [(.int (1 : Int32)), (.int (p1 &&& (3 : Int32)))])) _
      refine XS.icmpYes X60.here hx rfl (pc0 := 236) (pc' := 283) rfl (hb hby at_236) rfl (flt (by rw [hn]; decide)).2.2.2 (by decide) (by decide) ?_
      show Steps p.tables e below (T60.setTop (mkF m 283 #[.val (.int p1), .val (.int p2), .val (.int p3), .val (.int p4), .val (.int (p1 &&& (3 : Int32))), .val (.ref bs0), .val (.ref bs1), .val (.ref bs2), .val (.ref br), .val (.ref ba), .val (.int ((((1 : Int32) &&& (1 : Int32)) &&& (1 : Int32)) &&& (1 : Int32)))] [])) _
      refine XS.iload X60.here hx rfl (hb hby at_283) rfl ?_
      show Steps p.tables e below (T60.setTop (mkF m 285 #[.val (.int p1), .val (.int p2), .val (.int p3), .val (.int p4), .val (.int (p1 &&& (3 : Int32))), .val (.ref bs0), .val (.ref bs1), .val (.ref bs2), .val (.ref br), .val (.ref ba), .val (.int ((((1 : Int32) &&& (1 : Int32)) &&& (1 : Int32)) &&& (1 : Int32)))] [(.int (p1 &&& (3 : Int32)))])) _
      refine XS.iconst X60.here hx rfl (hb hby at_285) ?_
      show Steps p.tables e below (T60.setTop (mkF m 286 #[.val (.int p1), .val (.int p2), .val (.int p3), .val (.int p4), .val (.int (p1 &&& (3 : Int32))), .val (.ref bs0), .val (.ref bs1), .val (.ref bs2), .val (.ref br), .val (.ref ba), .val (.int ((((1 : Int32) &&& (1 : Int32)) &&& (1 : Int32)) &&& (1 : Int32)))] [(.int (2 : Int32)), (.int (p1 &&& (3 : Int32)))])) _
      refine XS.icmpYes X60.here hx rfl (pc0 := 286) (pc' := 322) rfl (hb hby at_286) rfl (flt (by rw [hn]; decide)).2.2.2 (by decide) (by decide) ?_
      show Steps p.tables e below (T60.setTop (mkF m 322 #[.val (.int p1), .val (.int p2), .val (.int p3), .val (.int p4), .val (.int (p1 &&& (3 : Int32))), .val (.ref bs0), .val (.ref bs1), .val (.ref bs2), .val (.ref br), .val (.ref ba), .val (.int ((((1 : Int32) &&& (1 : Int32)) &&& (1 : Int32)) &&& (1 : Int32)))] [])) _
      refine XS.iload X60.here hx rfl (hb hby at_322) rfl ?_
      show Steps p.tables e below (T60.setTop (mkF m 324 #[.val (.int p1), .val (.int p2), .val (.int p3), .val (.int p4), .val (.int (p1 &&& (3 : Int32))), .val (.ref bs0), .val (.ref bs1), .val (.ref bs2), .val (.ref br), .val (.ref ba), .val (.int ((((1 : Int32) &&& (1 : Int32)) &&& (1 : Int32)) &&& (1 : Int32)))] [(.int ((((1 : Int32) &&& (1 : Int32)) &&& (1 : Int32)) &&& (1 : Int32)))])) _
      exact k)
    obtain ⟨fs, hr, hrun, hended, hend⟩ := X60.leaveW hSs (show k1 ≤ T60.heap.size by first | exact hkk55 | (rw [e60]; exact hkk55)) (v := some (.int (1 : Int32))) (fun h => by rw [Bd.returns] at h; cases h)
    refine ⟨_, _, pre62 _ ?_, hrun, hended, _, _, rfl, ⟨rfl, N60⟩, ⟨hend.1, hend.2.1, hend.2.2.1, hend.2.2.2.mono (by decide) (by decide)⟩⟩
    show Steps p.tables e below (T60.setTop (mkF m 324 #[.val (.int p1), .val (.int p2), .val (.int p3), .val (.int p4), .val (.int (p1 &&& (3 : Int32))), .val (.ref bs0), .val (.ref bs1), .val (.ref bs2), .val (.ref br), .val (.ref ba), .val (.int ((((1 : Int32) &&& (1 : Int32)) &&& (1 : Int32)) &&& (1 : Int32)))] [(.int ((((1 : Int32) &&& (1 : Int32)) &&& (1 : Int32)) &&& (1 : Int32)))])) _
    exact retN X60 hx (t := .boolean) Bd.returns (by simp) (hb hby at_324) hr
  have hn1 := hn; clear hn
  by_cases hn : p1 &&& (3 : Int32) = (2 : Int32)
  · skip
    have pre63 : ∀ t, Steps p.tables e below (T11.setTop (mkF m 79 #[.val (.int p1), .val (.int p2), .val (.int p3), .val (.int p4), .val (.int (p1 &&& (3 : Int32))), .val (.ref bs0), .val (.ref bs1), .val (.ref bs2), .unset, .unset, .unset] [(.int (2 : Int32))])) t → Steps p.tables e below (s₁.setTop (entryFrame m #[(.int p1), (.int p2), (.int p3), (.int p4)] maxLocals)) t := fun t k => pre13 t (by
      show Steps p.tables e below (T11.setTop (mkF m 40 #[.val (.int p1), .val (.int p2), .val (.int p3), .val (.int p4), .val (.int (p1 &&& (3 : Int32))), .val (.ref bs0), .val (.ref bs1), .val (.ref bs2), .unset, .unset, .unset] [(.int (p1 &&& (3 : Int32)))])) _
      refine XS.ifYes X11.here hx rfl (pc0 := 40) (pc' := 52) rfl (hb hby at_40) rfl ((if0 _ _).trans (feq (by rw [hn]; decide)).2) (by decide) (by decide) ?_
      show Steps p.tables e below (T11.setTop (mkF m 52 #[.val (.int p1), .val (.int p2), .val (.int p3), .val (.int p4), .val (.int (p1 &&& (3 : Int32))), .val (.ref bs0), .val (.ref bs1), .val (.ref bs2), .unset, .unset, .unset] [])) _
      refine XS.iload X11.here hx rfl (hb hby at_52) rfl ?_
      show Steps p.tables e below (T11.setTop (mkF m 54 #[.val (.int p1), .val (.int p2), .val (.int p3), .val (.int p4), .val (.int (p1 &&& (3 : Int32))), .val (.ref bs0), .val (.ref bs1), .val (.ref bs2), .unset, .unset, .unset] [(.int (p1 &&& (3 : Int32)))])) _
      refine XS.iconst X11.here hx rfl (hb hby at_54) ?_
      show Steps p.tables e below (T11.setTop (mkF m 55 #[.val (.int p1), .val (.int p2), .val (.int p3), .val (.int p4), .val (.int (p1 &&& (3 : Int32))), .val (.ref bs0), .val (.ref bs1), .val (.ref bs2), .unset, .unset, .unset] [(.int (1 : Int32)), (.int (p1 &&& (3 : Int32)))])) _
      refine XS.icmpYes X11.here hx rfl (pc0 := 55) (pc' := 72) rfl (hb hby at_55) rfl (feq (by rw [hn]; decide)).2 (by decide) (by decide) ?_
      show Steps p.tables e below (T11.setTop (mkF m 72 #[.val (.int p1), .val (.int p2), .val (.int p3), .val (.int p4), .val (.int (p1 &&& (3 : Int32))), .val (.ref bs0), .val (.ref bs1), .val (.ref bs2), .unset, .unset, .unset] [])) _
      refine XS.iload X11.here hx rfl (hb hby at_72) rfl ?_
      show Steps p.tables e below (T11.setTop (mkF m 74 #[.val (.int p1), .val (.int p2), .val (.int p3), .val (.int p4), .val (.int (p1 &&& (3 : Int32))), .val (.ref bs0), .val (.ref bs1), .val (.ref bs2), .unset, .unset, .unset] [(.int (p1 &&& (3 : Int32)))])) _
      refine XS.iconst X11.here hx rfl (hb hby at_74) ?_
      show Steps p.tables e below (T11.setTop (mkF m 75 #[.val (.int p1), .val (.int p2), .val (.int p3), .val (.int p4), .val (.int (p1 &&& (3 : Int32))), .val (.ref bs0), .val (.ref bs1), .val (.ref bs2), .unset, .unset, .unset] [(.int (2 : Int32)), (.int (p1 &&& (3 : Int32)))])) _
      refine XS.icmpNo X11.here hx rfl (hb hby at_75) rfl (teq hn).2 ?_
      show Steps p.tables e below (T11.setTop (mkF m 78 #[.val (.int p1), .val (.int p2), .val (.int p3), .val (.int p4), .val (.int (p1 &&& (3 : Int32))), .val (.ref bs0), .val (.ref bs1), .val (.ref bs2), .unset, .unset, .unset] [])) _
      refine XS.iconst X11.here hx rfl (hb hby at_78) ?_
      show Steps p.tables e below (T11.setTop (mkF m 79 #[.val (.int p1), .val (.int p2), .val (.int p3), .val (.int p4), .val (.int (p1 &&& (3 : Int32))), .val (.ref bs0), .val (.ref bs1), .val (.ref bs2), .unset, .unset, .unset] [(.int (2 : Int32))])) _
      exact k)
    obtain ⟨T64, h64, k64, X64, e64, E64, A64, Ea64, O64, st64⟩ := newRE X11 hx hZ hown (hw _ (List.mem_of_getElem? (i := 26) rfl)) (hw _ (List.mem_of_getElem? (i := 27) rfl)) rfl (g := (mkF m 79 #[.val (.int p1), .val (.int p2), .val (.int p3), .val (.int p4), .val (.int (p1 &&& (3 : Int32))), .val (.ref bs0), .val (.ref bs1), .val (.ref bs2), .unset, .unset, .unset] [(.int (2 : Int32))])) rfl (hb hby at_79) rfl (by decide) (cap := 2) (by decide) (by decide) (by decide) (by decide) (ad := "[Ljava/lang/String;") (by decide)
    obtain ⟨br, ge64⟩ : ∃ z, z = T11.heap.size := ⟨_, rfl⟩
    rw [← ge64] at A64 Ea64 st64
    have gq64 := Nat.le_of_eq ge64.symm
    have o_bs0_br : bs0 < br := Nat.lt_of_lt_of_le E_bs0_11.lt gq64
    have o_bs1_br : bs1 < br := Nat.lt_of_lt_of_le E_bs1_11.lt gq64
    have o_bs2_br : bs2 < br := Nat.lt_of_lt_of_le E_bs2.lt gq64
    have g_br : n0 ≤ br := Nat.le_trans Z0 (Nat.le_trans KK11.1 gq64)
    have sz_br : h0.size ≤ br := Nat.le_trans KK11.1 gq64
    have E_bs0_64 := E_bs0_11.ext E64
    have E_bs1_64 := E_bs1_11.ext E64
    have E_bs2_64 := E_bs2.ext E64
    have KK64 := KK11.ext E64
    have V_br : Arv Z h64 br k64 (.object "java/lang/String") (2 : Int32) [.null, .null] .null := (Arv.new A64 (by decide)).pad (pad_rep [] .null 2)
    have X_br := Ea64
    have pre65 : ∀ t, Steps p.tables e below (T64.setTop (mkF m 82 #[.val (.int p1), .val (.int p2), .val (.int p3), .val (.int p4), .val (.int (p1 &&& (3 : Int32))), .val (.ref bs0), .val (.ref bs1), .val (.ref bs2), .unset, .unset, .unset] [(.ref br)])) t → Steps p.tables e below (s₁.setTop (entryFrame m #[(.int p1), (.int p2), (.int p3), (.int p4)] maxLocals)) t := fun t k => pre63 t (by
      show Steps p.tables e below (T11.setTop (mkF m 79 #[.val (.int p1), .val (.int p2), .val (.int p3), .val (.int p4), .val (.int (p1 &&& (3 : Int32))), .val (.ref bs0), .val (.ref bs1), .val (.ref bs2), .unset, .unset, .unset] [(.int (2 : Int32))])) t
      refine st64 _ ?_
      show Steps p.tables e below (T64.setTop (mkF m 82 #[.val (.int p1), .val (.int p2), .val (.int p3), .val (.int p4), .val (.int (p1 &&& (3 : Int32))), .val (.ref bs0), .val (.ref bs1), .val (.ref bs2), .unset, .unset, .unset] [(.ref br)])) t
      exact k)
    have pre66 : ∀ t, Steps p.tables e below (T64.setTop (mkF m 86 #[.val (.int p1), .val (.int p2), .val (.int p3), .val (.int p4), .val (.int (p1 &&& (3 : Int32))), .val (.ref bs0), .val (.ref bs1), .val (.ref bs2), .unset, .unset, .unset] [(.ref bs0), (.int (0 : Int32)), (.ref br), (.ref br)])) t → Steps p.tables e below (s₁.setTop (entryFrame m #[(.int p1), (.int p2), (.int p3), (.int p4)] maxLocals)) t := fun t k => pre65 t (by
      show Steps p.tables e below (T64.setTop (mkF m 82 #[.val (.int p1), .val (.int p2), .val (.int p3), .val (.int p4), .val (.int (p1 &&& (3 : Int32))), .val (.ref bs0), .val (.ref bs1), .val (.ref bs2), .unset, .unset, .unset] [(.ref br)])) _
      refine XS.dup X64.here hx rfl (hb hby at_82) rfl rfl ?_
      show Steps p.tables e below (T64.setTop (mkF m 83 #[.val (.int p1), .val (.int p2), .val (.int p3), .val (.int p4), .val (.int (p1 &&& (3 : Int32))), .val (.ref bs0), .val (.ref bs1), .val (.ref bs2), .unset, .unset, .unset] [(.ref br), (.ref br)])) _
      refine XS.iconst X64.here hx rfl (hb hby at_83) ?_
      show Steps p.tables e below (T64.setTop (mkF m 84 #[.val (.int p1), .val (.int p2), .val (.int p3), .val (.int p4), .val (.int (p1 &&& (3 : Int32))), .val (.ref bs0), .val (.ref bs1), .val (.ref bs2), .unset, .unset, .unset] [(.int (0 : Int32)), (.ref br), (.ref br)])) _
      refine XS.aload X64.here hx rfl (hb hby at_84) rfl rfl ?_
      show Steps p.tables e below (T64.setTop (mkF m 86 #[.val (.int p1), .val (.int p2), .val (.int p3), .val (.int p4), .val (.int (p1 &&& (3 : Int32))), .val (.ref bs0), .val (.ref bs1), .val (.ref bs2), .unset, .unset, .unset] [(.ref bs0), (.int (0 : Int32)), (.ref br), (.ref br)])) _
      exact k)
    obtain ⟨cl67, Ar67, q67, Sz67, Nn67, Hh67, Gg67⟩ := V_br
    have hin67 : ¬ ((0 : Int32) < 0 ∨ cl67.slots.size ≤ ((0 : Int32)).toNatClampNeg) := inb_of Sz67 ⟨by decide, by decide⟩
    obtain ⟨T67, h67, X67, e67, W67, st67⟩ := stR X64 hx hZ e64 Ar67 (j := (0 : Int32)) hin67 rfl (Sto.ofV Ar67 q67 O64 (Ins.self E_bs0_64)) (g := (mkF m 86 #[.val (.int p1), .val (.int p2), .val (.int p3), .val (.int p4), .val (.int (p1 &&& (3 : Int32))), .val (.ref bs0), .val (.ref bs1), .val (.ref bs2), .unset, .unset, .unset] [(.ref bs0), (.int (0 : Int32)), (.ref br), (.ref br)])) rfl rfl (hb hby at_86)
    have E_bs0_67 := E_bs0_64.wr W67
    have E_bs1_67 := E_bs1_64.wr W67
    have E_bs2_67 := E_bs2_64.wr W67
    have X_br_67 := X_br.wr W67
    have KK67 := KK64.wr W67 (Or.inr sz_br)
    have V_br_67 : Arv Z h67 br k64 (.object "java/lang/String") (2 : Int32) [(.ref bs0), .null] .null := Arv.set Ar67 q67 Sz67 Nn67 Hh67 Gg67 rfl W67 0 rfl (Nat.le_of_ble_eq_true rfl)
    have N67 := Fr.snoc X67 N11 g_br
    have pre68 : ∀ t, Steps p.tables e below (T67.setTop (mkF m 87 #[.val (.int p1), .val (.int p2), .val (.int p3), .val (.int p4), .val (.int (p1 &&& (3 : Int32))), .val (.ref bs0), .val (.ref bs1), .val (.ref bs2), .unset, .unset, .unset] [(.ref br)])) t → Steps p.tables e below (s₁.setTop (entryFrame m #[(.int p1), (.int p2), (.int p3), (.int p4)] maxLocals)) t := fun t k => pre66 t (by
      show Steps p.tables e below (T64.setTop (mkF m 86 #[.val (.int p1), .val (.int p2), .val (.int p3), .val (.int p4), .val (.int (p1 &&& (3 : Int32))), .val (.ref bs0), .val (.ref bs1), .val (.ref bs2), .unset, .unset, .unset] [(.ref bs0), (.int (0 : Int32)), (.ref br), (.ref br)])) t
      refine st67 _ ?_
      show Steps p.tables e below (T67.setTop (mkF m 87 #[.val (.int p1), .val (.int p2), .val (.int p3), .val (.int p4), .val (.int (p1 &&& (3 : Int32))), .val (.ref bs0), .val (.ref bs1), .val (.ref bs2), .unset, .unset, .unset] [(.ref br)])) t
      exact k)
    have pre69 : ∀ t, Steps p.tables e below (T67.setTop (mkF m 91 #[.val (.int p1), .val (.int p2), .val (.int p3), .val (.int p4), .val (.int (p1 &&& (3 : Int32))), .val (.ref bs0), .val (.ref bs1), .val (.ref bs2), .unset, .unset, .unset] [(.ref bs1), (.int (1 : Int32)), (.ref br), (.ref br)])) t → Steps p.tables e below (s₁.setTop (entryFrame m #[(.int p1), (.int p2), (.int p3), (.int p4)] maxLocals)) t := fun t k => pre68 t (by
      show Steps p.tables e below (T67.setTop (mkF m 87 #[.val (.int p1), .val (.int p2), .val (.int p3), .val (.int p4), .val (.int (p1 &&& (3 : Int32))), .val (.ref bs0), .val (.ref bs1), .val (.ref bs2), .unset, .unset, .unset] [(.ref br)])) _
      refine XS.dup X67.here hx rfl (hb hby at_87) rfl rfl ?_
      show Steps p.tables e below (T67.setTop (mkF m 88 #[.val (.int p1), .val (.int p2), .val (.int p3), .val (.int p4), .val (.int (p1 &&& (3 : Int32))), .val (.ref bs0), .val (.ref bs1), .val (.ref bs2), .unset, .unset, .unset] [(.ref br), (.ref br)])) _
      refine XS.iconst X67.here hx rfl (hb hby at_88) ?_
      show Steps p.tables e below (T67.setTop (mkF m 89 #[.val (.int p1), .val (.int p2), .val (.int p3), .val (.int p4), .val (.int (p1 &&& (3 : Int32))), .val (.ref bs0), .val (.ref bs1), .val (.ref bs2), .unset, .unset, .unset] [(.int (1 : Int32)), (.ref br), (.ref br)])) _
      refine XS.aload X67.here hx rfl (hb hby at_89) rfl rfl ?_
      show Steps p.tables e below (T67.setTop (mkF m 91 #[.val (.int p1), .val (.int p2), .val (.int p3), .val (.int p4), .val (.int (p1 &&& (3 : Int32))), .val (.ref bs0), .val (.ref bs1), .val (.ref bs2), .unset, .unset, .unset] [(.ref bs1), (.int (1 : Int32)), (.ref br), (.ref br)])) _
      exact k)
    obtain ⟨cl70, Ar70, q70, Sz70, Nn70, Hh70, Gg70⟩ := V_br_67
    have hin70 : ¬ ((1 : Int32) < 0 ∨ cl70.slots.size ≤ ((1 : Int32)).toNatClampNeg) := inb_of Sz70 ⟨by decide, by decide⟩
    obtain ⟨T70, h70, X70, e70, W70, st70⟩ := stR X67 hx hZ e67 Ar70 (j := (1 : Int32)) hin70 rfl (Sto.ofV Ar70 q70 O64 (Ins.self E_bs1_67)) (g := (mkF m 91 #[.val (.int p1), .val (.int p2), .val (.int p3), .val (.int p4), .val (.int (p1 &&& (3 : Int32))), .val (.ref bs0), .val (.ref bs1), .val (.ref bs2), .unset, .unset, .unset] [(.ref bs1), (.int (1 : Int32)), (.ref br), (.ref br)])) rfl rfl (hb hby at_91)
    have E_bs0_70 := E_bs0_67.wr W70
    have E_bs1_70 := E_bs1_67.wr W70
    have E_bs2_70 := E_bs2_67.wr W70
    have X_br_70 := X_br_67.wr W70
    have KK70 := KK67.wr W70 (Or.inr sz_br)
    have V_br_70 : Arv Z h70 br k64 (.object "java/lang/String") (2 : Int32) [(.ref bs0), (.ref bs1)] .null := Arv.set Ar70 q70 Sz70 Nn70 Hh70 Gg70 rfl W70 1 rfl (Nat.le_of_ble_eq_true rfl)
    have N70 := Fr.snoc X70 N67 g_br
    have pre71 : ∀ t, Steps p.tables e below (T70.setTop (mkF m 92 #[.val (.int p1), .val (.int p2), .val (.int p3), .val (.int p4), .val (.int (p1 &&& (3 : Int32))), .val (.ref bs0), .val (.ref bs1), .val (.ref bs2), .unset, .unset, .unset] [(.ref br)])) t → Steps p.tables e below (s₁.setTop (entryFrame m #[(.int p1), (.int p2), (.int p3), (.int p4)] maxLocals)) t := fun t k => pre69 t (by
      show Steps p.tables e below (T67.setTop (mkF m 91 #[.val (.int p1), .val (.int p2), .val (.int p3), .val (.int p4), .val (.int (p1 &&& (3 : Int32))), .val (.ref bs0), .val (.ref bs1), .val (.ref bs2), .unset, .unset, .unset] [(.ref bs1), (.int (1 : Int32)), (.ref br), (.ref br)])) t
      refine st70 _ ?_
      show Steps p.tables e below (T70.setTop (mkF m 92 #[.val (.int p1), .val (.int p2), .val (.int p3), .val (.int p4), .val (.int (p1 &&& (3 : Int32))), .val (.ref bs0), .val (.ref bs1), .val (.ref bs2), .unset, .unset, .unset] [(.ref br)])) t
      exact k)
    have pre72 : ∀ t, Steps p.tables e below (T70.setTop (mkF m 118 #[.val (.int p1), .val (.int p2), .val (.int p3), .val (.int p4), .val (.int (p1 &&& (3 : Int32))), .val (.ref bs0), .val (.ref bs1), .val (.ref bs2), .val (.ref br), .unset, .unset] [])) t → Steps p.tables e below (s₁.setTop (entryFrame m #[(.int p1), (.int p2), (.int p3), (.int p4)] maxLocals)) t := fun t k => pre71 t (by
      show Steps p.tables e below (T70.setTop (mkF m 92 #[.val (.int p1), .val (.int p2), .val (.int p3), .val (.int p4), .val (.int (p1 &&& (3 : Int32))), .val (.ref bs0), .val (.ref bs1), .val (.ref bs2), .unset, .unset, .unset] [(.ref br)])) _
      refine XS.astore X70.here hx rfl (hb hby at_92) rfl rfl (l' := #[.val (.int p1), .val (.int p2), .val (.int p3), .val (.int p4), .val (.int (p1 &&& (3 : Int32))), .val (.ref bs0), .val (.ref bs1), .val (.ref bs2), .val (.ref br), .unset, .unset]) rfl ?_
      show Steps p.tables e below (T70.setTop (mkF m 94 #[.val (.int p1), .val (.int p2), .val (.int p3), .val (.int p4), .val (.int (p1 &&& (3 : Int32))), .val (.ref bs0), .val (.ref bs1), .val (.ref bs2), .val (.ref br), .unset, .unset] [])) _
      refine XS.goto X70.here hx rfl (pc0 := 94) (pc' := 118) rfl (hb hby at_94) (by decide) (by decide) ?_
      show Steps p.tables e below (T70.setTop (mkF m 118 #[.val (.int p1), .val (.int p2), .val (.int p3), .val (.int p4), .val (.int (p1 &&& (3 : Int32))), .val (.ref bs0), .val (.ref bs1), .val (.ref bs2), .val (.ref br), .unset, .unset] [])) _
      exact k)
    obtain ⟨T73, h73, X73, e73, E73, A73, D73, -, st73⟩ := newO X70 hx hZ hown (hw _ (List.mem_of_getElem? (i := 28) rfl)) (hw _ (List.mem_of_getElem? (i := 29) rfl)) (hw _ (List.mem_of_getElem? (i := 30) rfl)) e70 (g := (mkF m 118 #[.val (.int p1), .val (.int p2), .val (.int p3), .val (.int p4), .val (.int (p1 &&& (3 : Int32))), .val (.ref bs0), .val (.ref bs1), .val (.ref bs2), .val (.ref br), .unset, .unset] [])) rfl (hb hby at_118) (by decide) (by decide)
    obtain ⟨ba, ge73⟩ : ∃ z, z = h70.size := ⟨_, rfl⟩
    rw [← ge73] at A73 D73 st73
    have gq73 := Nat.le_of_eq ge73.symm
    have o_bs0_ba : bs0 < ba := Nat.lt_of_lt_of_le E_bs0_70.lt gq73
    have o_bs1_ba : bs1 < ba := Nat.lt_of_lt_of_le E_bs1_70.lt gq73
    have o_bs2_ba : bs2 < ba := Nat.lt_of_lt_of_le E_bs2_70.lt gq73
    have o_br_ba : br < ba := Nat.lt_of_lt_of_le V_br_70.lt gq73
    have g_ba : n0 ≤ ba := Nat.le_trans Z0 (Nat.le_trans KK70.1 gq73)
    have sz_ba : h0.size ≤ ba := Nat.le_trans KK70.1 gq73
    have E_bs0_73 := E_bs0_70.ext E73
    have E_bs1_73 := E_bs1_70.ext E73
    have E_bs2_73 := E_bs2_70.ext E73
    have V_br_73 := V_br_70.ext E73
    have X_br_73 := X_br_70.ext E73
    have KK73 := KK70.ext E73
    have E_ba : Exa Z h73 ba "com/example/arcsieve/arcsieve/Arguments" := A73
    have F_command_ba : Fld Z h73 ba "com/example/arcsieve/arcsieve/Arguments" "command" "Ljava/lang/String;" .null := D73 (Or.inr (hw _ (List.mem_of_getElem? (i := 39) rfl))) (ty := (.object "java/lang/String")) (by decide)
    have F_args_ba : Fld Z h73 ba "com/example/arcsieve/arcsieve/Arguments" "args" "[Ljava/lang/String;" .null := D73 (Or.inr (hw _ (List.mem_of_getElem? (i := 50) rfl))) (ty := (.array (.object "java/lang/String"))) (by decide)
    have F_next_ba : Fld Z h73 ba "com/example/arcsieve/arcsieve/Arguments" "next" "I" (.int (0 : Int32)) := D73 (Or.inl (hw _ (List.mem_of_getElem? (i := 57) rfl))) (ty := .int) (by decide)
    have pre74 : ∀ t, Steps p.tables e below (T73.setTop (mkF m 121 #[.val (.int p1), .val (.int p2), .val (.int p3), .val (.int p4), .val (.int (p1 &&& (3 : Int32))), .val (.ref bs0), .val (.ref bs1), .val (.ref bs2), .val (.ref br), .unset, .unset] [(.ref ba)])) t → Steps p.tables e below (s₁.setTop (entryFrame m #[(.int p1), (.int p2), (.int p3), (.int p4)] maxLocals)) t := fun t k => pre72 t (by
      show Steps p.tables e below (T70.setTop (mkF m 118 #[.val (.int p1), .val (.int p2), .val (.int p3), .val (.int p4), .val (.int (p1 &&& (3 : Int32))), .val (.ref bs0), .val (.ref bs1), .val (.ref bs2), .val (.ref br), .unset, .unset] [])) t
      refine st73 _ ?_
      show Steps p.tables e below (T73.setTop (mkF m 121 #[.val (.int p1), .val (.int p2), .val (.int p3), .val (.int p4), .val (.int (p1 &&& (3 : Int32))), .val (.ref bs0), .val (.ref bs1), .val (.ref bs2), .val (.ref br), .unset, .unset] [(.ref ba)])) t
      exact k)
    have pre75 : ∀ t, Steps p.tables e below (T73.setTop (mkF m 122 #[.val (.int p1), .val (.int p2), .val (.int p3), .val (.int p4), .val (.int (p1 &&& (3 : Int32))), .val (.ref bs0), .val (.ref bs1), .val (.ref bs2), .val (.ref br), .unset, .unset] [(.ref ba), (.ref ba)])) t → Steps p.tables e below (s₁.setTop (entryFrame m #[(.int p1), (.int p2), (.int p3), (.int p4)] maxLocals)) t := fun t k => pre74 t (by
      show Steps p.tables e below (T73.setTop (mkF m 121 #[.val (.int p1), .val (.int p2), .val (.int p3), .val (.int p4), .val (.int (p1 &&& (3 : Int32))), .val (.ref bs0), .val (.ref bs1), .val (.ref bs2), .val (.ref br), .unset, .unset] [(.ref ba)])) _
      refine XS.dup X73.here hx rfl (hb hby at_121) rfl rfl ?_
      show Steps p.tables e below (T73.setTop (mkF m 122 #[.val (.int p1), .val (.int p2), .val (.int p3), .val (.int p4), .val (.int (p1 &&& (3 : Int32))), .val (.ref bs0), .val (.ref bs1), .val (.ref bs2), .val (.ref br), .unset, .unset] [(.ref ba), (.ref ba)])) _
      exact k)
    have wS76 : ∀ d ∈ Bundle.stringAtoms, d.before a0 Z = true := fun d hd => by
      simp only [Bundle.stringAtoms, List.mem_cons, List.not_mem_nil, or_false] at hd
      rcases hd with rfl | rfl | rfl | rfl | rfl | rfl | rfl
      · exact (hw _ (List.mem_of_getElem? (i := 2) rfl))
      · exact (hw _ (List.mem_of_getElem? (i := 10) rfl))
      · exact (hw _ (List.mem_of_getElem? (i := 14) rfl))
      · exact (hw _ (List.mem_of_getElem? (i := 23) rfl))
      · exact (hw _ (List.mem_of_getElem? (i := 25) rfl))
      · exact (hw _ (List.mem_of_getElem? (i := 32) rfl))
      · exact (hw _ (List.mem_of_getElem? (i := 33) rfl))
    obtain ⟨cs, T76, h76, k1, X76, e76, E76, hSs, hk1, hZ, hown, st76⟩ := ldcS (s := s) (vm0 := s.vm) X73 hx hZ hown (hw _ (List.mem_of_getElem? (i := 31) rfl)) wS76 e73 (k0 := 0) ((State.WarmedH.refl s).since 0) (Nat.zero_le _) (g := (mkF m 122 #[.val (.int p1), .val (.int p2), .val (.int p3), .val (.int p4), .val (.int (p1 &&& (3 : Int32))), .val (.ref bs0), .val (.ref bs1), .val (.ref bs2), .val (.ref br), .unset, .unset] [(.ref ba), (.ref ba)])) rfl (hb hby at_122) (n := 12) (by decide) (by decide) (by decide) (by decide)
    have E_bs0_76 := E_bs0_73.ext E76
    have E_bs1_76 := E_bs1_73.ext E76
    have E_bs2_76 := E_bs2_73.ext E76
    have V_br_76 := V_br_73.ext E76
    have X_br_76 := X_br_73.ext E76
    have E_ba_76 := E_ba.ext E76
    have F_command_ba_76 := F_command_ba.ext E76
    have F_args_ba_76 := F_args_ba.ext E76
    have F_next_ba_76 := F_next_ba.ext E76
    have KK76 := KK73.ext E76
    have hkk : Keep h76 h76 [] := Keep.refl _ _
    have pre77 : ∀ t, Steps p.tables e below (T76.setTop (mkF m 124 #[.val (.int p1), .val (.int p2), .val (.int p3), .val (.int p4), .val (.int (p1 &&& (3 : Int32))), .val (.ref bs0), .val (.ref bs1), .val (.ref bs2), .val (.ref br), .unset, .unset] [(.ref cs), (.ref ba), (.ref ba)])) t → Steps p.tables e below (s₁.setTop (entryFrame m #[(.int p1), (.int p2), (.int p3), (.int p4)] maxLocals)) t := fun t k => pre75 t (by
      show Steps p.tables e below (T73.setTop (mkF m 122 #[.val (.int p1), .val (.int p2), .val (.int p3), .val (.int p4), .val (.int (p1 &&& (3 : Int32))), .val (.ref bs0), .val (.ref bs1), .val (.ref bs2), .val (.ref br), .unset, .unset] [(.ref ba), (.ref ba)])) t
      refine st76 _ ?_
      show Steps p.tables e below (T76.setTop (mkF m 124 #[.val (.int p1), .val (.int p2), .val (.int p3), .val (.int p4), .val (.int (p1 &&& (3 : Int32))), .val (.ref bs0), .val (.ref bs1), .val (.ref bs2), .val (.ref br), .unset, .unset] [(.ref cs), (.ref ba), (.ref ba)])) t
      exact k)
    have pre78 : ∀ t, Steps p.tables e below (T76.setTop (mkF m 126 #[.val (.int p1), .val (.int p2), .val (.int p3), .val (.int p4), .val (.int (p1 &&& (3 : Int32))), .val (.ref bs0), .val (.ref bs1), .val (.ref bs2), .val (.ref br), .unset, .unset] [(.ref br), (.ref cs), (.ref ba), (.ref ba)])) t → Steps p.tables e below (s₁.setTop (entryFrame m #[(.int p1), (.int p2), (.int p3), (.int p4)] maxLocals)) t := fun t k => pre77 t (by
      show Steps p.tables e below (T76.setTop (mkF m 124 #[.val (.int p1), .val (.int p2), .val (.int p3), .val (.int p4), .val (.int (p1 &&& (3 : Int32))), .val (.ref bs0), .val (.ref bs1), .val (.ref bs2), .val (.ref br), .unset, .unset] [(.ref cs), (.ref ba), (.ref ba)])) _
      refine XS.aload X76.here hx rfl (hb hby at_124) rfl rfl ?_
      show Steps p.tables e below (T76.setTop (mkF m 126 #[.val (.int p1), .val (.int p2), .val (.int p3), .val (.int p4), .val (.int (p1 &&& (3 : Int32))), .val (.ref bs0), .val (.ref bs1), .val (.ref bs2), .val (.ref br), .unset, .unset] [(.ref br), (.ref cs), (.ref ba), (.ref ba)])) _
      exact k)
    obtain ⟨_, _, ⟨T79, L79, k79, n79⟩, -, X79, ⟨Lc79, hQ79, l79, y79, z79⟩, st79⟩ := X76.specialBack hx (y := (⟨"com/example/arcsieve/arcsieve/Arguments", "<init>", "(Ljava/lang/String;[Ljava/lang/String;)V"⟩ : MethodName)) rfl hown (mvT hZ (hw _ (List.mem_of_getElem? (i := 34) rfl))) (mvT hZ (hw _ (List.mem_of_getElem? (i := 35) rfl))) (mvT hZ (hw _ (List.mem_of_getElem? (i := 36) rfl))) (by decide) (backOf (W := 1) (rm6 l Z a0 hw [] ba cs br k64 (2 : Int32) [(.ref bs0), (.ref bs1)] h76 n0 (Nat.le_trans Z0 KK76.1) E_ba_76 F_command_ba_76 F_args_ba_76 F_next_ba_76 V_br_76 X_br_76 (by decide) g_ba o_br_ba) hZ (hw _ (List.mem_of_getElem? (i := 36) rfl)) (hw _ (List.mem_of_getElem? (i := 30) rfl)) (by decide) (by decide)) (g := (mkF m 126 #[.val (.int p1), .val (.int p2), .val (.int p3), .val (.int p4), .val (.int (p1 &&& (3 : Int32))), .val (.ref bs0), .val (.ref bs1), .val (.ref bs2), .val (.ref br), .unset, .unset] [(.ref br), (.ref cs), (.ref ba), (.ref ba)])) rfl (by rw [hml]; rfl) (Steps.refl _) (a := ba) (argsL := [(.ref cs), (.ref br)]) (rest := [(.ref ba)]) (lenOf pdx_4 rfl) rfl (by show 2 * 0 + _ ≤ _; exact Nat.le_of_eq rfl) (hb hby at_126) (fun _ _ => ⟨rfl, e76, (by decide : 10 + 1 ≤ _), (by decide : 36 + 3 ≤ _)⟩)
    dsimp only [Pt.U, Pt.locs, Pt.cells, Pt.slots] at X79 l79 y79 z79 st79 hQ79
    subst l79 y79 z79
    obtain ⟨bc, rfl, N79q, s79, K79, Ex79, Fa79, Fn79, Vc79⟩ := hQ79
    have N79 := Fr.app N70 N79q
    have pre80 : ∀ t, Steps p.tables e below (T79.setTop (mkF m 129 #[.val (.int p1), .val (.int p2), .val (.int p3), .val (.int p4), .val (.int (p1 &&& (3 : Int32))), .val (.ref bs0), .val (.ref bs1), .val (.ref bs2), .val (.ref br), .unset, .unset] [(.ref ba)])) t → Steps p.tables e below (s₁.setTop (entryFrame m #[(.int p1), (.int p2), (.int p3), (.int p4)] maxLocals)) t := fun t k => pre78 t (by
      show Steps p.tables e below (T76.setTop (mkF m 126 #[.val (.int p1), .val (.int p2), .val (.int p3), .val (.int p4), .val (.int (p1 &&& (3 : Int32))), .val (.ref bs0), .val (.ref bs1), .val (.ref bs2), .val (.ref br), .unset, .unset] [(.ref br), (.ref cs), (.ref ba), (.ref ba)])) t
      refine st79.trans ?_
      show Steps p.tables e below (T79.setTop (mkF m 129 #[.val (.int p1), .val (.int p2), .val (.int p3), .val (.int p4), .val (.int (p1 &&& (3 : Int32))), .val (.ref bs0), .val (.ref bs1), .val (.ref bs2), .val (.ref br), .unset, .unset] [(.ref ba)])) t
      exact k)
    have o_bs0_bc : bs0 < bc := Nat.lt_of_lt_of_le E_bs0_76.lt s79
    have o_bs1_bc : bs1 < bc := Nat.lt_of_lt_of_le E_bs1_76.lt s79
    have o_bs2_bc : bs2 < bc := Nat.lt_of_lt_of_le E_bs2_76.lt s79
    have o_ba_bc : ba < bc := Nat.lt_of_lt_of_le E_ba_76.lt s79
    have g_bc : n0 ≤ bc := Nat.le_trans Z0 (Nat.le_trans KK76.1 s79)
    have sz_bc : h0.size ≤ bc := Nat.le_trans KK76.1 s79
    have E_bs0_79 := E_bs0_76.keep K79
    have E_bs1_79 := E_bs1_76.keep K79
    have E_bs2_79 := E_bs2_76.keep K79
    have E_ba_79 := E_ba_76.keep K79
    have KK79 := KK76.trans K79 (own_k1 (Or.inr sz_ba))
    have hkk79 := Nat.le_trans hk1 K79.1
    have pre81 : ∀ t, Steps p.tables e below (T79.setTop (mkF m 133 #[.val (.int p1), .val (.int p2), .val (.int p3), .val (.int p4), .val (.int (p1 &&& (3 : Int32))), .val (.ref bs0), .val (.ref bs1), .val (.ref bs2), .val (.ref br), .val (.ref ba), .unset] [(.ref ba)])) t → Steps p.tables e below (s₁.setTop (entryFrame m #[(.int p1), (.int p2), (.int p3), (.int p4)] maxLocals)) t := fun t k => pre80 t (by
      show Steps p.tables e below (T79.setTop (mkF m 129 #[.val (.int p1), .val (.int p2), .val (.int p3), .val (.int p4), .val (.int (p1 &&& (3 : Int32))), .val (.ref bs0), .val (.ref bs1), .val (.ref bs2), .val (.ref br), .unset, .unset] [(.ref ba)])) _
      refine XS.astore X79.here hx rfl (hb hby at_129) rfl rfl (l' := #[.val (.int p1), .val (.int p2), .val (.int p3), .val (.int p4), .val (.int (p1 &&& (3 : Int32))), .val (.ref bs0), .val (.ref bs1), .val (.ref bs2), .val (.ref br), .val (.ref ba), .unset]) rfl ?_
      show Steps p.tables e below (T79.setTop (mkF m 131 #[.val (.int p1), .val (.int p2), .val (.int p3), .val (.int p4), .val (.int (p1 &&& (3 : Int32))), .val (.ref bs0), .val (.ref bs1), .val (.ref bs2), .val (.ref br), .val (.ref ba), .unset] [])) _
      refine XS.aload X79.here hx rfl (hb hby at_131) rfl rfl ?_
      show Steps p.tables e below (T79.setTop (mkF m 133 #[.val (.int p1), .val (.int p2), .val (.int p3), .val (.int p4), .val (.int (p1 &&& (3 : Int32))), .val (.ref bs0), .val (.ref bs1), .val (.ref bs2), .val (.ref br), .val (.ref ba), .unset] [(.ref ba)])) _
      exact k)
    obtain ⟨cq82, kq82, q82a, q82b, q82c⟩ := isOf hZ rfl E_ba_79
    obtain ⟨_, _, ⟨T82, L82, k82, n82⟩, -, X82, ⟨Lc82, hQ82, l82, y82, z82⟩, st82⟩ := X79.virtualBack hx (y := (⟨"com/example/arcsieve/arcsieve/Arguments", "hasNext", "()Z"⟩ : MethodName)) (z := (⟨"com/example/arcsieve/arcsieve/Arguments", "hasNext", "()Z"⟩ : MethodName)) hown (mvT hZ (hw _ (List.mem_of_getElem? (i := 51) rfl))) (mvT hZ (hw _ (List.mem_of_getElem? (i := 52) rfl))) (notFace_of_selects (args := #[]) (mvT hZ (hw _ (List.mem_of_getElem? (i := 54) rfl)))) (mvT hZ (hw _ (List.mem_of_getElem? (i := 54) rfl))) (mvT hZ (hw _ (List.mem_of_getElem? (i := 53) rfl))) (by decide) (backOf (W := 0) (rm7 l Z a0 hw [] ba bc (0 : Int32) k64 (2 : Int32) [(.ref bs0), (.ref bs1)] T79.heap n0 (Nat.le_trans Z0 KK79.1) Fn79 Fa79 Vc79) hZ (hw _ (List.mem_of_getElem? (i := 55) rfl)) (hw _ (List.mem_of_getElem? (i := 30) rfl)) (by decide) (by decide)) q82a q82c (g := (mkF m 133 #[.val (.int p1), .val (.int p2), .val (.int p3), .val (.int p4), .val (.int (p1 &&& (3 : Int32))), .val (.ref bs0), .val (.ref bs1), .val (.ref bs2), .val (.ref br), .val (.ref ba), .unset] [(.ref ba)])) rfl (by rw [hml]; rfl) (Steps.refl _) (argsL := []) (rest := []) (lenOf pdx_5 rfl) rfl (by show 2 * 0 + _ ≤ _; exact Nat.le_of_eq rfl) (hb hby at_133) (fun _ _ => ⟨rfl, rfl, (by decide : 11 + 0 ≤ _), (by decide : 39 + 0 ≤ _)⟩)
    dsimp only [Pt.U, Pt.locs, Pt.cells, Pt.slots] at X82 l82 y82 z82 st82 hQ82
    subst l82 y82 z82
    obtain ⟨rfl, N82q, e82⟩ := hQ82
    have N82 := Fr.app N79 N82q
    have pre83 : ∀ t, Steps p.tables e below (T82.setTop (mkF m 136 #[.val (.int p1), .val (.int p2), .val (.int p3), .val (.int p4), .val (.int (p1 &&& (3 : Int32))), .val (.ref bs0), .val (.ref bs1), .val (.ref bs2), .val (.ref br), .val (.ref ba), .unset] [(.int (own_has (0 : Int32) (2 : Int32)))])) t → Steps p.tables e below (s₁.setTop (entryFrame m #[(.int p1), (.int p2), (.int p3), (.int p4)] maxLocals)) t := fun t k => pre81 t (by
      show Steps p.tables e below (T79.setTop (mkF m 133 #[.val (.int p1), .val (.int p2), .val (.int p3), .val (.int p4), .val (.int (p1 &&& (3 : Int32))), .val (.ref bs0), .val (.ref bs1), .val (.ref bs2), .val (.ref br), .val (.ref ba), .unset] [(.ref ba)])) t
      refine st82.trans ?_
      show Steps p.tables e below (T82.setTop (mkF m 136 #[.val (.int p1), .val (.int p2), .val (.int p3), .val (.int p4), .val (.int (p1 &&& (3 : Int32))), .val (.ref bs0), .val (.ref bs1), .val (.ref bs2), .val (.ref br), .val (.ref ba), .unset] [(.int (own_has (0 : Int32) (2 : Int32)))])) t
      exact k)
    have pre84 : ∀ t, Steps p.tables e below (T82.setTop (mkF m 160 #[.val (.int p1), .val (.int p2), .val (.int p3), .val (.int p4), .val (.int (p1 &&& (3 : Int32))), .val (.ref bs0), .val (.ref bs1), .val (.ref bs2), .val (.ref br), .val (.ref ba), .val (.int (1 : Int32))] [(.ref ba), (.int (1 : Int32))])) t → Steps p.tables e below (s₁.setTop (entryFrame m #[(.int p1), (.int p2), (.int p3), (.int p4)] maxLocals)) t := fun t k => pre83 t (by
      show Steps p.tables e below (T82.setTop (mkF m 136 #[.val (.int p1), .val (.int p2), .val (.int p3), .val (.int p4), .val (.int (p1 &&& (3 : Int32))), .val (.ref bs0), .val (.ref bs1), .val (.ref bs2), .val (.ref br), .val (.ref ba), .unset] [(.int (own_has (0 : Int32) (2 : Int32)))])) _
      refine XS.iload X82.here hx rfl (hb hby at_136) rfl ?_
      show Steps p.tables e below (T82.setTop (mkF m 138 #[.val (.int p1), .val (.int p2), .val (.int p3), .val (.int p4), .val (.int (p1 &&& (3 : Int32))), .val (.ref bs0), .val (.ref bs1), .val (.ref bs2), .val (.ref br), .val (.ref ba), .unset] [(.int (p1 &&& (3 : Int32))), (.int (own_has (0 : Int32) (2 : Int32)))])) _
      refine XS.ifNo X82.here hx rfl (hb hby at_138) rfl ((if0 _ _).trans (tlt (by rw [hn]; decide)).2.2.2) ?_
      show Steps p.tables e below (T82.setTop (mkF m 141 #[.val (.int p1), .val (.int p2), .val (.int p3), .val (.int p4), .val (.int (p1 &&& (3 : Int32))), .val (.ref bs0), .val (.ref bs1), .val (.ref bs2), .val (.ref br), .val (.ref ba), .unset] [(.int (own_has (0 : Int32) (2 : Int32)))])) _
      refine XS.iconst X82.here hx rfl (hb hby at_141) ?_
      show Steps p.tables e below (T82.setTop (mkF m 142 #[.val (.int p1), .val (.int p2), .val (.int p3), .val (.int p4), .val (.int (p1 &&& (3 : Int32))), .val (.ref bs0), .val (.ref bs1), .val (.ref bs2), .val (.ref br), .val (.ref ba), .unset] [(.int (1 : Int32)), (.int (own_has (0 : Int32) (2 : Int32)))])) _
      refine XS.goto X82.here hx rfl (pc0 := 142) (pc' := 146) rfl (hb hby at_142) (by decide) (by decide) ?_
      show Steps p.tables e below (T82.setTop (mkF m 146 #[.val (.int p1), .val (.int p2), .val (.int p3), .val (.int p4), .val (.int (p1 &&& (3 : Int32))), .val (.ref bs0), .val (.ref bs1), .val (.ref bs2), .val (.ref br), .val (.ref ba), .unset] [(.int (1 : Int32)), (.int (own_has (0 : Int32) (2 : Int32)))])) _
      refine XS.icmpNo X82.here hx rfl (hb hby at_146) rfl (teq (by decide)).2 ?_
      show Steps p.tables e below (T82.setTop (mkF m 149 #[.val (.int p1), .val (.int p2), .val (.int p3), .val (.int p4), .val (.int (p1 &&& (3 : Int32))), .val (.ref bs0), .val (.ref bs1), .val (.ref bs2), .val (.ref br), .val (.ref ba), .unset] [])) _
      refine XS.iconst X82.here hx rfl (hb hby at_149) ?_
      show Steps p.tables e below (T82.setTop (mkF m 150 #[.val (.int p1), .val (.int p2), .val (.int p3), .val (.int p4), .val (.int (p1 &&& (3 : Int32))), .val (.ref bs0), .val (.ref bs1), .val (.ref bs2), .val (.ref br), .val (.ref ba), .unset] [(.int (1 : Int32))])) _
      refine XS.goto X82.here hx rfl (pc0 := 150) (pc' := 154) rfl (hb hby at_150) (by decide) (by decide) ?_
      show Steps p.tables e below (T82.setTop (mkF m 154 #[.val (.int p1), .val (.int p2), .val (.int p3), .val (.int p4), .val (.int (p1 &&& (3 : Int32))), .val (.ref bs0), .val (.ref bs1), .val (.ref bs2), .val (.ref br), .val (.ref ba), .unset] [(.int (1 : Int32))])) _
      refine XS.istore X82.here hx rfl (hb hby at_154) rfl (l' := #[.val (.int p1), .val (.int p2), .val (.int p3), .val (.int p4), .val (.int (p1 &&& (3 : Int32))), .val (.ref bs0), .val (.ref bs1), .val (.ref bs2), .val (.ref br), .val (.ref ba), .val (.int (1 : Int32))]) rfl ?_
      show Steps p.tables e below (T82.setTop (mkF m 156 #[.val (.int p1), .val (.int p2), .val (.int p3), .val (.int p4), .val (.int (p1 &&& (3 : Int32))), .val (.ref bs0), .val (.ref bs1), .val (.ref bs2), .val (.ref br), .val (.ref ba), .val (.int (1 : Int32))] [])) _
      refine XS.iload X82.here hx rfl (hb hby at_156) rfl ?_
      show Steps p.tables e below (T82.setTop (mkF m 158 #[.val (.int p1), .val (.int p2), .val (.int p3), .val (.int p4), .val (.int (p1 &&& (3 : Int32))), .val (.ref bs0), .val (.ref bs1), .val (.ref bs2), .val (.ref br), .val (.ref ba), .val (.int (1 : Int32))] [(.int (1 : Int32))])) _
      refine XS.aload X82.here hx rfl (hb hby at_158) rfl rfl ?_
      show Steps p.tables e below (T82.setTop (mkF m 160 #[.val (.int p1), .val (.int p2), .val (.int p3), .val (.int p4), .val (.int (p1 &&& (3 : Int32))), .val (.ref bs0), .val (.ref bs1), .val (.ref bs2), .val (.ref br), .val (.ref ba), .val (.int (1 : Int32))] [(.ref ba), (.int (1 : Int32))])) _
      exact k)
    obtain ⟨cq85, kq85, q85a, q85b, q85c⟩ := isOf hZ e82 E_ba_79
    obtain ⟨_, _, ⟨T85, L85, k85, n85⟩, -, X85, ⟨Lc85, hQ85, l85, y85, z85⟩, st85⟩ := X82.virtualBack hx (y := (⟨"com/example/arcsieve/arcsieve/Arguments", "hasNext", "()Z"⟩ : MethodName)) (z := (⟨"com/example/arcsieve/arcsieve/Arguments", "hasNext", "()Z"⟩ : MethodName)) hown (mvT hZ (hw _ (List.mem_of_getElem? (i := 51) rfl))) (mvT hZ (hw _ (List.mem_of_getElem? (i := 52) rfl))) (notFace_of_selects (args := #[]) (mvT hZ (hw _ (List.mem_of_getElem? (i := 54) rfl)))) (mvT hZ (hw _ (List.mem_of_getElem? (i := 54) rfl))) (mvT hZ (hw _ (List.mem_of_getElem? (i := 53) rfl))) (by decide) (backOf (W := 1) (rm7 l Z a0 hw [] ba bc (0 : Int32) k64 (2 : Int32) [(.ref bs0), (.ref bs1)] T79.heap n0 (Nat.le_trans Z0 KK79.1) Fn79 Fa79 Vc79) hZ (hw _ (List.mem_of_getElem? (i := 55) rfl)) (hw _ (List.mem_of_getElem? (i := 30) rfl)) (by decide) (by decide)) q85a q85c (g := (mkF m 160 #[.val (.int p1), .val (.int p2), .val (.int p3), .val (.int p4), .val (.int (p1 &&& (3 : Int32))), .val (.ref bs0), .val (.ref bs1), .val (.ref bs2), .val (.ref br), .val (.ref ba), .val (.int (1 : Int32))] [(.ref ba), (.int (1 : Int32))])) rfl (by rw [hml]; rfl) (Steps.refl _) (argsL := []) (rest := [(.int (1 : Int32))]) (lenOf pdx_5 rfl) rfl (by show 2 * 0 + _ ≤ _; exact Nat.le_of_eq rfl) (hb hby at_160) (fun _ _ => ⟨rfl, e82, (by decide : 11 + 0 ≤ _), (by decide : 39 + 0 ≤ _)⟩)
    dsimp only [Pt.U, Pt.locs, Pt.cells, Pt.slots] at X85 l85 y85 z85 st85 hQ85
    subst l85 y85 z85
    obtain ⟨rfl, N85q, e85⟩ := hQ85
    have N85 := Fr.app N82 N85q
    have pre86 : ∀ t, Steps p.tables e below (T85.setTop (mkF m 163 #[.val (.int p1), .val (.int p2), .val (.int p3), .val (.int p4), .val (.int (p1 &&& (3 : Int32))), .val (.ref bs0), .val (.ref bs1), .val (.ref bs2), .val (.ref br), .val (.ref ba), .val (.int (1 : Int32))] [(.int (own_has (0 : Int32) (2 : Int32))), (.int (1 : Int32))])) t → Steps p.tables e below (s₁.setTop (entryFrame m #[(.int p1), (.int p2), (.int p3), (.int p4)] maxLocals)) t := fun t k => pre84 t (by
      show Steps p.tables e below (T82.setTop (mkF m 160 #[.val (.int p1), .val (.int p2), .val (.int p3), .val (.int p4), .val (.int (p1 &&& (3 : Int32))), .val (.ref bs0), .val (.ref bs1), .val (.ref bs2), .val (.ref br), .val (.ref ba), .val (.int (1 : Int32))] [(.ref ba), (.int (1 : Int32))])) t
      refine st85.trans ?_
      show Steps p.tables e below (T85.setTop (mkF m 163 #[.val (.int p1), .val (.int p2), .val (.int p3), .val (.int p4), .val (.int (p1 &&& (3 : Int32))), .val (.ref bs0), .val (.ref bs1), .val (.ref bs2), .val (.ref br), .val (.ref ba), .val (.int (1 : Int32))] [(.int (own_has (0 : Int32) (2 : Int32))), (.int (1 : Int32))])) t
      exact k)
    have pre87 : ∀ t, Steps p.tables e below (T85.setTop (mkF m 195 #[.val (.int p1), .val (.int p2), .val (.int p3), .val (.int p4), .val (.int (p1 &&& (3 : Int32))), .val (.ref bs0), .val (.ref bs1), .val (.ref bs2), .val (.ref br), .val (.ref ba), .val (.int ((1 : Int32) &&& (1 : Int32)))] [(.ref ba), (.ref bs0), (.int ((1 : Int32) &&& (1 : Int32)))])) t → Steps p.tables e below (s₁.setTop (entryFrame m #[(.int p1), (.int p2), (.int p3), (.int p4)] maxLocals)) t := fun t k => pre86 t (by
      show Steps p.tables e below (T85.setTop (mkF m 163 #[.val (.int p1), .val (.int p2), .val (.int p3), .val (.int p4), .val (.int (p1 &&& (3 : Int32))), .val (.ref bs0), .val (.ref bs1), .val (.ref bs2), .val (.ref br), .val (.ref ba), .val (.int (1 : Int32))] [(.int (own_has (0 : Int32) (2 : Int32))), (.int (1 : Int32))])) _
      refine XS.iload X85.here hx rfl (hb hby at_163) rfl ?_
      show Steps p.tables e below (T85.setTop (mkF m 165 #[.val (.int p1), .val (.int p2), .val (.int p3), .val (.int p4), .val (.int (p1 &&& (3 : Int32))), .val (.ref bs0), .val (.ref bs1), .val (.ref bs2), .val (.ref br), .val (.ref ba), .val (.int (1 : Int32))] [(.int (p1 &&& (3 : Int32))), (.int (own_has (0 : Int32) (2 : Int32))), (.int (1 : Int32))])) _
      refine XS.ifNo X85.here hx rfl (hb hby at_165) rfl ((if0 _ _).trans (tlt (by rw [hn]; decide)).2.2.2) ?_
      show Steps p.tables e below (T85.setTop (mkF m 168 #[.val (.int p1), .val (.int p2), .val (.int p3), .val (.int p4), .val (.int (p1 &&& (3 : Int32))), .val (.ref bs0), .val (.ref bs1), .val (.ref bs2), .val (.ref br), .val (.ref ba), .val (.int (1 : Int32))] [(.int (own_has (0 : Int32) (2 : Int32))), (.int (1 : Int32))])) _
      refine XS.iconst X85.here hx rfl (hb hby at_168) ?_
      show Steps p.tables e below (T85.setTop (mkF m 169 #[.val (.int p1), .val (.int p2), .val (.int p3), .val (.int p4), .val (.int (p1 &&& (3 : Int32))), .val (.ref bs0), .val (.ref bs1), .val (.ref bs2), .val (.ref br), .val (.ref ba), .val (.int (1 : Int32))] [(.int (1 : Int32)), (.int (own_has (0 : Int32) (2 : Int32))), (.int (1 : Int32))])) _
      refine XS.goto X85.here hx rfl (pc0 := 169) (pc' := 173) rfl (hb hby at_169) (by decide) (by decide) ?_
      show Steps p.tables e below (T85.setTop (mkF m 173 #[.val (.int p1), .val (.int p2), .val (.int p3), .val (.int p4), .val (.int (p1 &&& (3 : Int32))), .val (.ref bs0), .val (.ref bs1), .val (.ref bs2), .val (.ref br), .val (.ref ba), .val (.int (1 : Int32))] [(.int (1 : Int32)), (.int (own_has (0 : Int32) (2 : Int32))), (.int (1 : Int32))])) _
      refine XS.icmpNo X85.here hx rfl (hb hby at_173) rfl (teq (by decide)).2 ?_
      show Steps p.tables e below (T85.setTop (mkF m 176 #[.val (.int p1), .val (.int p2), .val (.int p3), .val (.int p4), .val (.int (p1 &&& (3 : Int32))), .val (.ref bs0), .val (.ref bs1), .val (.ref bs2), .val (.ref br), .val (.ref ba), .val (.int (1 : Int32))] [(.int (1 : Int32))])) _
      refine XS.iconst X85.here hx rfl (hb hby at_176) ?_
      show Steps p.tables e below (T85.setTop (mkF m 177 #[.val (.int p1), .val (.int p2), .val (.int p3), .val (.int p4), .val (.int (p1 &&& (3 : Int32))), .val (.ref bs0), .val (.ref bs1), .val (.ref bs2), .val (.ref br), .val (.ref ba), .val (.int (1 : Int32))] [(.int (1 : Int32)), (.int (1 : Int32))])) _
      refine XS.goto X85.here hx rfl (pc0 := 177) (pc' := 181) rfl (hb hby at_177) (by decide) (by decide) ?_
      show Steps p.tables e below (T85.setTop (mkF m 181 #[.val (.int p1), .val (.int p2), .val (.int p3), .val (.int p4), .val (.int (p1 &&& (3 : Int32))), .val (.ref bs0), .val (.ref bs1), .val (.ref bs2), .val (.ref br), .val (.ref ba), .val (.int (1 : Int32))] [(.int (1 : Int32)), (.int (1 : Int32))])) _
      refine XS.iand X85.here hx rfl (hb hby at_181) rfl ?_
      show Steps p.tables e below (T85.setTop (mkF m 182 #[.val (.int p1), .val (.int p2), .val (.int p3), .val (.int p4), .val (.int (p1 &&& (3 : Int32))), .val (.ref bs0), .val (.ref bs1), .val (.ref bs2), .val (.ref br), .val (.ref ba), .val (.int (1 : Int32))] [(.int ((1 : Int32) &&& (1 : Int32)))])) _
      refine XS.istore X85.here hx rfl (hb hby at_182) rfl (l' := #[.val (.int p1), .val (.int p2), .val (.int p3), .val (.int p4), .val (.int (p1 &&& (3 : Int32))), .val (.ref bs0), .val (.ref bs1), .val (.ref bs2), .val (.ref br), .val (.ref ba), .val (.int ((1 : Int32) &&& (1 : Int32)))]) rfl ?_
      show Steps p.tables e below (T85.setTop (mkF m 184 #[.val (.int p1), .val (.int p2), .val (.int p3), .val (.int p4), .val (.int (p1 &&& (3 : Int32))), .val (.ref bs0), .val (.ref bs1), .val (.ref bs2), .val (.ref br), .val (.ref ba), .val (.int ((1 : Int32) &&& (1 : Int32)))] [])) _
      refine XS.iload X85.here hx rfl (hb hby at_184) rfl ?_
      show Steps p.tables e below (T85.setTop (mkF m 186 #[.val (.int p1), .val (.int p2), .val (.int p3), .val (.int p4), .val (.int (p1 &&& (3 : Int32))), .val (.ref bs0), .val (.ref bs1), .val (.ref bs2), .val (.ref br), .val (.ref ba), .val (.int ((1 : Int32) &&& (1 : Int32)))] [(.int (p1 &&& (3 : Int32)))])) _
      refine XS.ifNo X85.here hx rfl (hb hby at_186) rfl ((if0 _ _).trans (tlt (by rw [hn]; decide)).2.2.2) ?_
      show Steps p.tables e below (T85.setTop (mkF m 189 #[.val (.int p1), .val (.int p2), .val (.int p3), .val (.int p4), .val (.int (p1 &&& (3 : Int32))), .val (.ref bs0), .val (.ref bs1), .val (.ref bs2), .val (.ref br), .val (.ref ba), .val (.int ((1 : Int32) &&& (1 : Int32)))] [])) _
      refine XS.iload X85.here hx rfl (hb hby at_189) rfl ?_
      show Steps p.tables e below (T85.setTop (mkF m 191 #[.val (.int p1), .val (.int p2), .val (.int p3), .val (.int p4), .val (.int (p1 &&& (3 : Int32))), .val (.ref bs0), .val (.ref bs1), .val (.ref bs2), .val (.ref br), .val (.ref ba), .val (.int ((1 : Int32) &&& (1 : Int32)))] [(.int ((1 : Int32) &&& (1 : Int32)))])) _
      refine XS.aload X85.here hx rfl (hb hby at_191) rfl rfl ?_
      show Steps p.tables e below (T85.setTop (mkF m 193 #[.val (.int p1), .val (.int p2), .val (.int p3), .val (.int p4), .val (.int (p1 &&& (3 : Int32))), .val (.ref bs0), .val (.ref bs1), .val (.ref bs2), .val (.ref br), .val (.ref ba), .val (.int ((1 : Int32) &&& (1 : Int32)))] [(.ref bs0), (.int ((1 : Int32) &&& (1 : Int32)))])) _
      refine XS.aload X85.here hx rfl (hb hby at_193) rfl rfl ?_
      show Steps p.tables e below (T85.setTop (mkF m 195 #[.val (.int p1), .val (.int p2), .val (.int p3), .val (.int p4), .val (.int (p1 &&& (3 : Int32))), .val (.ref bs0), .val (.ref bs1), .val (.ref bs2), .val (.ref br), .val (.ref ba), .val (.int ((1 : Int32) &&& (1 : Int32)))] [(.ref ba), (.ref bs0), (.int ((1 : Int32) &&& (1 : Int32)))])) _
      exact k)
    obtain ⟨cq88, kq88, q88a, q88b, q88c⟩ := isOf hZ e85 E_ba_79
    obtain ⟨_, _, ⟨T88, L88, k88, n88⟩, -, X88, ⟨Lc88, hQ88, l88, y88, z88⟩, st88⟩ := X85.virtualBack hx (y := (⟨"com/example/arcsieve/arcsieve/Arguments", "next", "()Ljava/lang/String;"⟩ : MethodName)) (z := (⟨"com/example/arcsieve/arcsieve/Arguments", "next", "()Ljava/lang/String;"⟩ : MethodName)) hown (mvT hZ (hw _ (List.mem_of_getElem? (i := 58) rfl))) (mvT hZ (hw _ (List.mem_of_getElem? (i := 59) rfl))) (notFace_of_selects (args := #[]) (mvT hZ (hw _ (List.mem_of_getElem? (i := 61) rfl)))) (mvT hZ (hw _ (List.mem_of_getElem? (i := 61) rfl))) (mvT hZ (hw _ (List.mem_of_getElem? (i := 60) rfl))) (by decide) (backOf (W := 2) (rm8 l Z a0 hw [] ba bc bs0 (0 : Int32) k64 (2 : Int32) [(.ref bs0), (.ref bs1)] T79.heap n0 (Nat.le_trans Z0 KK79.1) E_ba_79 Fn79 Fa79 Vc79 ⟨by decide, by decide⟩ rfl g_ba o_ba_bc) hZ (hw _ (List.mem_of_getElem? (i := 62) rfl)) (hw _ (List.mem_of_getElem? (i := 30) rfl)) (by decide) (by decide)) q88a q88c (g := (mkF m 195 #[.val (.int p1), .val (.int p2), .val (.int p3), .val (.int p4), .val (.int (p1 &&& (3 : Int32))), .val (.ref bs0), .val (.ref bs1), .val (.ref bs2), .val (.ref br), .val (.ref ba), .val (.int ((1 : Int32) &&& (1 : Int32)))] [(.ref ba), (.ref bs0), (.int ((1 : Int32) &&& (1 : Int32)))])) rfl (by rw [hml]; rfl) (Steps.refl _) (argsL := []) (rest := [(.ref bs0), (.int ((1 : Int32) &&& (1 : Int32)))]) (lenOf pdx_6 rfl) rfl (by show 2 * 0 + _ ≤ _; exact Nat.le_of_eq rfl) (hb hby at_195) (fun _ _ => ⟨rfl, e85, (by decide : 11 + 0 ≤ _), (by decide : 39 + 0 ≤ _)⟩)
    dsimp only [Pt.U, Pt.locs, Pt.cells, Pt.slots] at X88 l88 y88 z88 st88 hQ88
    subst l88 y88 z88
    obtain ⟨rfl, N88q, K88, Fn88, Fa88⟩ := hQ88
    have N88 := Fr.app N85 N88q
    have pre89 : ∀ t, Steps p.tables e below (T88.setTop (mkF m 198 #[.val (.int p1), .val (.int p2), .val (.int p3), .val (.int p4), .val (.int (p1 &&& (3 : Int32))), .val (.ref bs0), .val (.ref bs1), .val (.ref bs2), .val (.ref br), .val (.ref ba), .val (.int ((1 : Int32) &&& (1 : Int32)))] [(.ref bs0), (.ref bs0), (.int ((1 : Int32) &&& (1 : Int32)))])) t → Steps p.tables e below (s₁.setTop (entryFrame m #[(.int p1), (.int p2), (.int p3), (.int p4)] maxLocals)) t := fun t k => pre87 t (by
      show Steps p.tables e below (T85.setTop (mkF m 195 #[.val (.int p1), .val (.int p2), .val (.int p3), .val (.int p4), .val (.int (p1 &&& (3 : Int32))), .val (.ref bs0), .val (.ref bs1), .val (.ref bs2), .val (.ref br), .val (.ref ba), .val (.int ((1 : Int32) &&& (1 : Int32)))] [(.ref ba), (.ref bs0), (.int ((1 : Int32) &&& (1 : Int32)))])) t
      refine st88.trans ?_
      show Steps p.tables e below (T88.setTop (mkF m 198 #[.val (.int p1), .val (.int p2), .val (.int p3), .val (.int p4), .val (.int (p1 &&& (3 : Int32))), .val (.ref bs0), .val (.ref bs1), .val (.ref bs2), .val (.ref br), .val (.ref ba), .val (.int ((1 : Int32) &&& (1 : Int32)))] [(.ref bs0), (.ref bs0), (.int ((1 : Int32) &&& (1 : Int32)))])) t
      exact k)
    have E_bs0_88 := E_bs0_79.keep K88
    have E_bs1_88 := E_bs1_79.keep K88
    have E_bs2_88 := E_bs2_79.keep K88
    have E_ba_88 := E_ba_79.keep K88
    have Vc79_88 := Vc79.keep K88 (List.not_mem_cons_of_ne_of_not_mem (Nat.ne_of_gt o_ba_bc) List.not_mem_nil)
    have KK88 := KK79.trans K88 (own_k1 (Or.inr sz_ba))
    have hkk88 := Nat.le_trans hkk79 K88.1
    obtain ⟨cq90, kq90, q90a, q90b, q90c⟩ := isOf hZ rfl E_bs0_88
    obtain ⟨_, _, ⟨T90, L90, k90, n90⟩, -, X90, ⟨Lc90, hQ90, l90, y90, z90⟩, st90⟩ := X88.virtualBack hx (y := (⟨"java/lang/String", "equals", "(Ljava/lang/Object;)Z"⟩ : MethodName)) (z := (⟨"java/lang/String", "equals", "(Ljava/lang/Object;)Z"⟩ : MethodName)) hown (mvT hZ (hw _ (List.mem_of_getElem? (i := 63) rfl))) (mvT hZ (hw _ (List.mem_of_getElem? (i := 64) rfl))) (notFace_of_selects (args := #[]) (mvT hZ (hw _ (List.mem_of_getElem? (i := 66) rfl)))) (mvT hZ (hw _ (List.mem_of_getElem? (i := 66) rfl))) (mvT hZ (hw _ (List.mem_of_getElem? (i := 65) rfl))) (by decide) (backOf (W := 1) (rm9 l Z a0 hw [] bs0 bs0  T88.heap n0 (Nat.le_trans Z0 KK88.1) rfl) hZ (hw _ (List.mem_of_getElem? (i := 67) rfl)) (hw _ (List.mem_of_getElem? (i := 2) rfl)) (by decide) (by decide)) q90a q90c (g := (mkF m 198 #[.val (.int p1), .val (.int p2), .val (.int p3), .val (.int p4), .val (.int (p1 &&& (3 : Int32))), .val (.ref bs0), .val (.ref bs1), .val (.ref bs2), .val (.ref br), .val (.ref ba), .val (.int ((1 : Int32) &&& (1 : Int32)))] [(.ref bs0), (.ref bs0), (.int ((1 : Int32) &&& (1 : Int32)))])) rfl (by rw [hml]; rfl) (Steps.refl _) (argsL := [(.ref bs0)]) (rest := [(.int ((1 : Int32) &&& (1 : Int32)))]) (lenOf pdx_7 rfl) rfl (by show 2 * 0 + _ ≤ _; exact Nat.le_of_eq rfl) (hb hby at_198) (fun _ _ => ⟨rfl, rfl, (by decide : 11 + 0 ≤ _), (by decide : 39 + 0 ≤ _)⟩)
    dsimp only [Pt.U, Pt.locs, Pt.cells, Pt.slots] at X90 l90 y90 z90 st90 hQ90
    subst l90 y90 z90
    obtain ⟨rfl, N90q, e90⟩ := hQ90
    have N90 := Fr.app N88 N90q
    have pre91 : ∀ t, Steps p.tables e below (T90.setTop (mkF m 201 #[.val (.int p1), .val (.int p2), .val (.int p3), .val (.int p4), .val (.int (p1 &&& (3 : Int32))), .val (.ref bs0), .val (.ref bs1), .val (.ref bs2), .val (.ref br), .val (.ref ba), .val (.int ((1 : Int32) &&& (1 : Int32)))] [(.int (1 : Int32)), (.int ((1 : Int32) &&& (1 : Int32)))])) t → Steps p.tables e below (s₁.setTop (entryFrame m #[(.int p1), (.int p2), (.int p3), (.int p4)] maxLocals)) t := fun t k => pre89 t (by
      show Steps p.tables e below (T88.setTop (mkF m 198 #[.val (.int p1), .val (.int p2), .val (.int p3), .val (.int p4), .val (.int (p1 &&& (3 : Int32))), .val (.ref bs0), .val (.ref bs1), .val (.ref bs2), .val (.ref br), .val (.ref ba), .val (.int ((1 : Int32) &&& (1 : Int32)))] [(.ref bs0), (.ref bs0), (.int ((1 : Int32) &&& (1 : Int32)))])) t
      refine st90.trans ?_
      show Steps p.tables e below (T90.setTop (mkF m 201 #[.val (.int p1), .val (.int p2), .val (.int p3), .val (.int p4), .val (.int (p1 &&& (3 : Int32))), .val (.ref bs0), .val (.ref bs1), .val (.ref bs2), .val (.ref br), .val (.ref ba), .val (.int ((1 : Int32) &&& (1 : Int32)))] [(.int (1 : Int32)), (.int ((1 : Int32) &&& (1 : Int32)))])) t
      exact k)
    have pre92 : ∀ t, Steps p.tables e below (T90.setTop (mkF m 208 #[.val (.int p1), .val (.int p2), .val (.int p3), .val (.int p4), .val (.int (p1 &&& (3 : Int32))), .val (.ref bs0), .val (.ref bs1), .val (.ref bs2), .val (.ref br), .val (.ref ba), .val (.int (((1 : Int32) &&& (1 : Int32)) &&& (1 : Int32)))] [(.ref ba), (.int (((1 : Int32) &&& (1 : Int32)) &&& (1 : Int32)))])) t → Steps p.tables e below (s₁.setTop (entryFrame m #[(.int p1), (.int p2), (.int p3), (.int p4)] maxLocals)) t := fun t k => pre91 t (by
      show Steps p.tables e below (T90.setTop (mkF m 201 #[.val (.int p1), .val (.int p2), .val (.int p3), .val (.int p4), .val (.int (p1 &&& (3 : Int32))), .val (.ref bs0), .val (.ref bs1), .val (.ref bs2), .val (.ref br), .val (.ref ba), .val (.int ((1 : Int32) &&& (1 : Int32)))] [(.int (1 : Int32)), (.int ((1 : Int32) &&& (1 : Int32)))])) _
      refine XS.iand X90.here hx rfl (hb hby at_201) rfl ?_
      show Steps p.tables e below (T90.setTop (mkF m 202 #[.val (.int p1), .val (.int p2), .val (.int p3), .val (.int p4), .val (.int (p1 &&& (3 : Int32))), .val (.ref bs0), .val (.ref bs1), .val (.ref bs2), .val (.ref br), .val (.ref ba), .val (.int ((1 : Int32) &&& (1 : Int32)))] [(.int (((1 : Int32) &&& (1 : Int32)) &&& (1 : Int32)))])) _
      refine XS.istore X90.here hx rfl (hb hby at_202) rfl (l' := #[.val (.int p1), .val (.int p2), .val (.int p3), .val (.int p4), .val (.int (p1 &&& (3 : Int32))), .val (.ref bs0), .val (.ref bs1), .val (.ref bs2), .val (.ref br), .val (.ref ba), .val (.int (((1 : Int32) &&& (1 : Int32)) &&& (1 : Int32)))]) rfl ?_
      show Steps p.tables e below (T90.setTop (mkF m 204 #[.val (.int p1), .val (.int p2), .val (.int p3), .val (.int p4), .val (.int (p1 &&& (3 : Int32))), .val (.ref bs0), .val (.ref bs1), .val (.ref bs2), .val (.ref br), .val (.ref ba), .val (.int (((1 : Int32) &&& (1 : Int32)) &&& (1 : Int32)))] [])) _
      refine XS.iload X90.here hx rfl (hb hby at_204) rfl ?_
      show Steps p.tables e below (T90.setTop (mkF m 206 #[.val (.int p1), .val (.int p2), .val (.int p3), .val (.int p4), .val (.int (p1 &&& (3 : Int32))), .val (.ref bs0), .val (.ref bs1), .val (.ref bs2), .val (.ref br), .val (.ref ba), .val (.int (((1 : Int32) &&& (1 : Int32)) &&& (1 : Int32)))] [(.int (((1 : Int32) &&& (1 : Int32)) &&& (1 : Int32)))])) _
      refine XS.aload X90.here hx rfl (hb hby at_206) rfl rfl ?_
      show Steps p.tables e below (T90.setTop (mkF m 208 #[.val (.int p1), .val (.int p2), .val (.int p3), .val (.int p4), .val (.int (p1 &&& (3 : Int32))), .val (.ref bs0), .val (.ref bs1), .val (.ref bs2), .val (.ref br), .val (.ref ba), .val (.int (((1 : Int32) &&& (1 : Int32)) &&& (1 : Int32)))] [(.ref ba), (.int (((1 : Int32) &&& (1 : Int32)) &&& (1 : Int32)))])) _
      exact k)
    obtain ⟨cq93, kq93, q93a, q93b, q93c⟩ := isOf hZ e90 E_ba_88
    obtain ⟨_, _, ⟨T93, L93, k93, n93⟩, -, X93, ⟨Lc93, hQ93, l93, y93, z93⟩, st93⟩ := X90.virtualBack hx (y := (⟨"com/example/arcsieve/arcsieve/Arguments", "hasNext", "()Z"⟩ : MethodName)) (z := (⟨"com/example/arcsieve/arcsieve/Arguments", "hasNext", "()Z"⟩ : MethodName)) hown (mvT hZ (hw _ (List.mem_of_getElem? (i := 51) rfl))) (mvT hZ (hw _ (List.mem_of_getElem? (i := 52) rfl))) (notFace_of_selects (args := #[]) (mvT hZ (hw _ (List.mem_of_getElem? (i := 54) rfl)))) (mvT hZ (hw _ (List.mem_of_getElem? (i := 54) rfl))) (mvT hZ (hw _ (List.mem_of_getElem? (i := 53) rfl))) (by decide) (backOf (W := 1) (rm7 l Z a0 hw [] ba bc ((0 : Int32) + (1 : Int32)) k64 (2 : Int32) [(.ref bs0), (.ref bs1)] T88.heap n0 (Nat.le_trans Z0 KK88.1) Fn88 Fa88 Vc79_88) hZ (hw _ (List.mem_of_getElem? (i := 55) rfl)) (hw _ (List.mem_of_getElem? (i := 30) rfl)) (by decide) (by decide)) q93a q93c (g := (mkF m 208 #[.val (.int p1), .val (.int p2), .val (.int p3), .val (.int p4), .val (.int (p1 &&& (3 : Int32))), .val (.ref bs0), .val (.ref bs1), .val (.ref bs2), .val (.ref br), .val (.ref ba), .val (.int (((1 : Int32) &&& (1 : Int32)) &&& (1 : Int32)))] [(.ref ba), (.int (((1 : Int32) &&& (1 : Int32)) &&& (1 : Int32)))])) rfl (by rw [hml]; rfl) (Steps.refl _) (argsL := []) (rest := [(.int (((1 : Int32) &&& (1 : Int32)) &&& (1 : Int32)))]) (lenOf pdx_5 rfl) rfl (by show 2 * 0 + _ ≤ _; exact Nat.le_of_eq rfl) (hb hby at_208) (fun _ _ => ⟨rfl, e90, (by decide : 11 + 0 ≤ _), (by decide : 39 + 0 ≤ _)⟩)
    dsimp only [Pt.U, Pt.locs, Pt.cells, Pt.slots] at X93 l93 y93 z93 st93 hQ93
    subst l93 y93 z93
    obtain ⟨rfl, N93q, e93⟩ := hQ93
    have N93 := Fr.app N90 N93q
    have pre94 : ∀ t, Steps p.tables e below (T93.setTop (mkF m 211 #[.val (.int p1), .val (.int p2), .val (.int p3), .val (.int p4), .val (.int (p1 &&& (3 : Int32))), .val (.ref bs0), .val (.ref bs1), .val (.ref bs2), .val (.ref br), .val (.ref ba), .val (.int (((1 : Int32) &&& (1 : Int32)) &&& (1 : Int32)))] [(.int (own_has ((0 : Int32) + (1 : Int32)) (2 : Int32))), (.int (((1 : Int32) &&& (1 : Int32)) &&& (1 : Int32)))])) t → Steps p.tables e below (s₁.setTop (entryFrame m #[(.int p1), (.int p2), (.int p3), (.int p4)] maxLocals)) t := fun t k => pre92 t (by
      show Steps p.tables e below (T90.setTop (mkF m 208 #[.val (.int p1), .val (.int p2), .val (.int p3), .val (.int p4), .val (.int (p1 &&& (3 : Int32))), .val (.ref bs0), .val (.ref bs1), .val (.ref bs2), .val (.ref br), .val (.ref ba), .val (.int (((1 : Int32) &&& (1 : Int32)) &&& (1 : Int32)))] [(.ref ba), (.int (((1 : Int32) &&& (1 : Int32)) &&& (1 : Int32)))])) t
      refine st93.trans ?_
      show Steps p.tables e below (T93.setTop (mkF m 211 #[.val (.int p1), .val (.int p2), .val (.int p3), .val (.int p4), .val (.int (p1 &&& (3 : Int32))), .val (.ref bs0), .val (.ref bs1), .val (.ref bs2), .val (.ref br), .val (.ref ba), .val (.int (((1 : Int32) &&& (1 : Int32)) &&& (1 : Int32)))] [(.int (own_has ((0 : Int32) + (1 : Int32)) (2 : Int32))), (.int (((1 : Int32) &&& (1 : Int32)) &&& (1 : Int32)))])) t
      exact k)
    have pre95 : ∀ t, Steps p.tables e below (T93.setTop (mkF m 245 #[.val (.int p1), .val (.int p2), .val (.int p3), .val (.int p4), .val (.int (p1 &&& (3 : Int32))), .val (.ref bs0), .val (.ref bs1), .val (.ref bs2), .val (.ref br), .val (.ref ba), .val (.int ((((1 : Int32) &&& (1 : Int32)) &&& (1 : Int32)) &&& (1 : Int32)))] [(.ref ba), (.ref bs1), (.int ((((1 : Int32) &&& (1 : Int32)) &&& (1 : Int32)) &&& (1 : Int32)))])) t → Steps p.tables e below (s₁.setTop (entryFrame m #[(.int p1), (.int p2), (.int p3), (.int p4)] maxLocals)) t := fun t k => pre94 t (by
      show Steps p.tables e below (T93.setTop (mkF m 211 #[.val (.int p1), .val (.int p2), .val (.int p3), .val (.int p4), .val (.int (p1 &&& (3 : Int32))), .val (.ref bs0), .val (.ref bs1), .val (.ref bs2), .val (.ref br), .val (.ref ba), .val (.int (((1 : Int32) &&& (1 : Int32)) &&& (1 : Int32)))] [(.int (own_has ((0 : Int32) + (1 : Int32)) (2 : Int32))), (.int (((1 : Int32) &&& (1 : Int32)) &&& (1 : Int32)))])) _
      refine XS.iload X93.here hx rfl (hb hby at_211) rfl ?_
      show Steps p.tables e below (T93.setTop (mkF m 213 #[.val (.int p1), .val (.int p2), .val (.int p3), .val (.int p4), .val (.int (p1 &&& (3 : Int32))), .val (.ref bs0), .val (.ref bs1), .val (.ref bs2), .val (.ref br), .val (.ref ba), .val (.int (((1 : Int32) &&& (1 : Int32)) &&& (1 : Int32)))] [(.int (p1 &&& (3 : Int32))), (.int (own_has ((0 : Int32) + (1 : Int32)) (2 : Int32))), (.int (((1 : Int32) &&& (1 : Int32)) &&& (1 : Int32)))])) _
      refine XS.iconst X93.here hx rfl (hb hby at_213) ?_
      show Steps p.tables e below (T93.setTop (mkF m 214 #[.val (.int p1), .val (.int p2), .val (.int p3), .val (.int p4), .val (.int (p1 &&& (3 : Int32))), .val (.ref bs0), .val (.ref bs1), .val (.ref bs2), .val (.ref br), .val (.ref ba), .val (.int (((1 : Int32) &&& (1 : Int32)) &&& (1 : Int32)))] [(.int (1 : Int32)), (.int (p1 &&& (3 : Int32))), (.int (own_has ((0 : Int32) + (1 : Int32)) (2 : Int32))), (.int (((1 : Int32) &&& (1 : Int32)) &&& (1 : Int32)))])) _
      refine XS.icmpNo X93.here hx rfl (hb hby at_214) rfl (tlt (by rw [hn]; decide)).2.2.2 ?_
      show Steps p.tables e below (T93.setTop (mkF m 217 #[.val (.int p1), .val (.int p2), .val (.int p3), .val (.int p4), .val (.int (p1 &&& (3 : Int32))), .val (.ref bs0), .val (.ref bs1), .val (.ref bs2), .val (.ref br), .val (.ref ba), .val (.int (((1 : Int32) &&& (1 : Int32)) &&& (1 : Int32)))] [(.int (own_has ((0 : Int32) + (1 : Int32)) (2 : Int32))), (.int (((1 : Int32) &&& (1 : Int32)) &&& (1 : Int32)))])) _
      refine XS.iconst X93.here hx rfl (hb hby at_217) ?_
      show Steps p.tables e below (T93.setTop (mkF m 218 #[.val (.int p1), .val (.int p2), .val (.int p3), .val (.int p4), .val (.int (p1 &&& (3 : Int32))), .val (.ref bs0), .val (.ref bs1), .val (.ref bs2), .val (.ref br), .val (.ref ba), .val (.int (((1 : Int32) &&& (1 : Int32)) &&& (1 : Int32)))] [(.int (1 : Int32)), (.int (own_has ((0 : Int32) + (1 : Int32)) (2 : Int32))), (.int (((1 : Int32) &&& (1 : Int32)) &&& (1 : Int32)))])) _
      refine XS.goto X93.here hx rfl (pc0 := 218) (pc' := 222) rfl (hb hby at_218) (by decide) (by decide) ?_
      show Steps p.tables e below (T93.setTop (mkF m 222 #[.val (.int p1), .val (.int p2), .val (.int p3), .val (.int p4), .val (.int (p1 &&& (3 : Int32))), .val (.ref bs0), .val (.ref bs1), .val (.ref bs2), .val (.ref br), .val (.ref ba), .val (.int (((1 : Int32) &&& (1 : Int32)) &&& (1 : Int32)))] [(.int (1 : Int32)), (.int (own_has ((0 : Int32) + (1 : Int32)) (2 : Int32))), (.int (((1 : Int32) &&& (1 : Int32)) &&& (1 : Int32)))])) _
      refine XS.icmpNo X93.here hx rfl (hb hby at_222) rfl (teq (by decide)).2 ?_
      show Steps p.tables e below (T93.setTop (mkF m 225 #[.val (.int p1), .val (.int p2), .val (.int p3), .val (.int p4), .val (.int (p1 &&& (3 : Int32))), .val (.ref bs0), .val (.ref bs1), .val (.ref bs2), .val (.ref br), .val (.ref ba), .val (.int (((1 : Int32) &&& (1 : Int32)) &&& (1 : Int32)))] [(.int (((1 : Int32) &&& (1 : Int32)) &&& (1 : Int32)))])) _
      refine XS.iconst X93.here hx rfl (hb hby at_225) ?_
      show Steps p.tables e below (T93.setTop (mkF m 226 #[.val (.int p1), .val (.int p2), .val (.int p3), .val (.int p4), .val (.int (p1 &&& (3 : Int32))), .val (.ref bs0), .val (.ref bs1), .val (.ref bs2), .val (.ref br), .val (.ref ba), .val (.int (((1 : Int32) &&& (1 : Int32)) &&& (1 : Int32)))] [(.int (1 : Int32)), (.int (((1 : Int32) &&& (1 : Int32)) &&& (1 : Int32)))])) _
      refine XS.goto X93.here hx rfl (pc0 := 226) (pc' := 230) rfl (hb hby at_226) (by decide) (by decide) ?_
      show Steps p.tables e below (T93.setTop (mkF m 230 #[.val (.int p1), .val (.int p2), .val (.int p3), .val (.int p4), .val (.int (p1 &&& (3 : Int32))), .val (.ref bs0), .val (.ref bs1), .val (.ref bs2), .val (.ref br), .val (.ref ba), .val (.int (((1 : Int32) &&& (1 : Int32)) &&& (1 : Int32)))] [(.int (1 : Int32)), (.int (((1 : Int32) &&& (1 : Int32)) &&& (1 : Int32)))])) _
      refine XS.iand X93.here hx rfl (hb hby at_230) rfl ?_
      show Steps p.tables e below (T93.setTop (mkF m 231 #[.val (.int p1), .val (.int p2), .val (.int p3), .val (.int p4), .val (.int (p1 &&& (3 : Int32))), .val (.ref bs0), .val (.ref bs1), .val (.ref bs2), .val (.ref br), .val (.ref ba), .val (.int (((1 : Int32) &&& (1 : Int32)) &&& (1 : Int32)))] [(.int ((((1 : Int32) &&& (1 : Int32)) &&& (1 : Int32)) &&& (1 : Int32)))])) _
      refine XS.istore X93.here hx rfl (hb hby at_231) rfl (l' := #[.val (.int p1), .val (.int p2), .val (.int p3), .val (.int p4), .val (.int (p1 &&& (3 : Int32))), .val (.ref bs0), .val (.ref bs1), .val (.ref bs2), .val (.ref br), .val (.ref ba), .val (.int ((((1 : Int32) &&& (1 : Int32)) &&& (1 : Int32)) &&& (1 : Int32)))]) rfl ?_
      show Steps p.tables e below (T93.setTop (mkF m 233 #[.val (.int p1), .val (.int p2), .val (.int p3), .val (.int p4), .val (.int (p1 &&& (3 : Int32))), .val (.ref bs0), .val (.ref bs1), .val (.ref bs2), .val (.ref br), .val (.ref ba), .val (.int ((((1 : Int32) &&& (1 : Int32)) &&& (1 : Int32)) &&& (1 : Int32)))] [])) _
      refine XS.iload X93.here hx rfl (hb hby at_233) rfl ?_
      show Steps p.tables e below (T93.setTop (mkF m 235 #[.val (.int p1), .val (.int p2), .val (.int p3), .val (.int p4), .val (.int (p1 &&& (3 : Int32))), .val (.ref bs0), .val (.ref bs1), .val (.ref bs2), .val (.ref br), .val (.ref ba), .val (.int ((((1 : Int32) &&& (1 : Int32)) &&& (1 : Int32)) &&& (1 : Int32)))] [(.int (p1 &&& (3 : Int32)))])) _
      refine XS.iconst X93.here hx rfl (hb hby at_235) ?_
      show Steps p.tables e below (T93.setTop (mkF m 236 #[.val (.int p1), .val (.int p2), .val (.int p3), .val (.int p4), .val (.int (p1 &&& (3 : Int32))), .val (.ref bs0), .val (.ref bs1), .val (.ref bs2), .val (.ref br), .val (.ref ba), .val (.int ((((1 : Int32) &&& (1 : Int32)) &&& (1 : Int32)) &&& (1 : Int32)))] [(.int (1 : Int32)), (.int (p1 &&& (3 : Int32)))])) _
      refine XS.icmpNo X93.here hx rfl (hb hby at_236) rfl (tlt (by rw [hn]; decide)).2.2.2 ?_
      show Steps p.tables e below (T93.setTop (mkF m 239 #[.val (.int p1), .val (.int p2), .val (.int p3), .val (.int p4), .val (.int (p1 &&& (3 : Int32))), .val (.ref bs0), .val (.ref bs1), .val (.ref bs2), .val (.ref br), .val (.ref ba), .val (.int ((((1 : Int32) &&& (1 : Int32)) &&& (1 : Int32)) &&& (1 : Int32)))] [])) _
      refine XS.iload X93.here hx rfl (hb hby at_239) rfl ?_
      show Steps p.tables e below (T93.setTop (mkF m 241 #[.val (.int p1), .val (.int p2), .val (.int p3), .val (.int p4), .val (.int (p1 &&& (3 : Int32))), .val (.ref bs0), .val (.ref bs1), .val (.ref bs2), .val (.ref br), .val (.ref ba), .val (.int ((((1 : Int32) &&& (1 : Int32)) &&& (1 : Int32)) &&& (1 : Int32)))] [(.int ((((1 : Int32) &&& (1 : Int32)) &&& (1 : Int32)) &&& (1 : Int32)))])) _
      refine XS.aload X93.here hx rfl (hb hby at_241) rfl rfl ?_
      show Steps p.tables e below (T93.setTop (mkF m 243 #[.val (.int p1), .val (.int p2), .val (.int p3), .val (.int p4), .val (.int (p1 &&& (3 : Int32))), .val (.ref bs0), .val (.ref bs1), .val (.ref bs2), .val (.ref br), .val (.ref ba), .val (.int ((((1 : Int32) &&& (1 : Int32)) &&& (1 : Int32)) &&& (1 : Int32)))] [(.ref bs1), (.int ((((1 : Int32) &&& (1 : Int32)) &&& (1 : Int32)) &&& (1 : Int32)))])) _
      refine XS.aload X93.here hx rfl (hb hby at_243) rfl rfl ?_
      show Steps p.tables e below (T93.setTop (mkF m 245 #[.val (.int p1), .val (.int p2), .val (.int p3), .val (.int p4), .val (.int (p1 &&& (3 : Int32))), .val (.ref bs0), .val (.ref bs1), .val (.ref bs2), .val (.ref br), .val (.ref ba), .val (.int ((((1 : Int32) &&& (1 : Int32)) &&& (1 : Int32)) &&& (1 : Int32)))] [(.ref ba), (.ref bs1), (.int ((((1 : Int32) &&& (1 : Int32)) &&& (1 : Int32)) &&& (1 : Int32)))])) _
      exact k)
    obtain ⟨cq96, kq96, q96a, q96b, q96c⟩ := isOf hZ e93 E_ba_88
    obtain ⟨_, _, ⟨T96, L96, k96, n96⟩, -, X96, ⟨Lc96, hQ96, l96, y96, z96⟩, st96⟩ := X93.virtualBack hx (y := (⟨"com/example/arcsieve/arcsieve/Arguments", "next", "()Ljava/lang/String;"⟩ : MethodName)) (z := (⟨"com/example/arcsieve/arcsieve/Arguments", "next", "()Ljava/lang/String;"⟩ : MethodName)) hown (mvT hZ (hw _ (List.mem_of_getElem? (i := 58) rfl))) (mvT hZ (hw _ (List.mem_of_getElem? (i := 59) rfl))) (notFace_of_selects (args := #[]) (mvT hZ (hw _ (List.mem_of_getElem? (i := 61) rfl)))) (mvT hZ (hw _ (List.mem_of_getElem? (i := 61) rfl))) (mvT hZ (hw _ (List.mem_of_getElem? (i := 60) rfl))) (by decide) (backOf (W := 2) (rm8 l Z a0 hw [] ba bc bs1 ((0 : Int32) + (1 : Int32)) k64 (2 : Int32) [(.ref bs0), (.ref bs1)] T88.heap n0 (Nat.le_trans Z0 KK88.1) E_ba_88 Fn88 Fa88 Vc79_88 ⟨by decide, by decide⟩ rfl g_ba o_ba_bc) hZ (hw _ (List.mem_of_getElem? (i := 62) rfl)) (hw _ (List.mem_of_getElem? (i := 30) rfl)) (by decide) (by decide)) q96a q96c (g := (mkF m 245 #[.val (.int p1), .val (.int p2), .val (.int p3), .val (.int p4), .val (.int (p1 &&& (3 : Int32))), .val (.ref bs0), .val (.ref bs1), .val (.ref bs2), .val (.ref br), .val (.ref ba), .val (.int ((((1 : Int32) &&& (1 : Int32)) &&& (1 : Int32)) &&& (1 : Int32)))] [(.ref ba), (.ref bs1), (.int ((((1 : Int32) &&& (1 : Int32)) &&& (1 : Int32)) &&& (1 : Int32)))])) rfl (by rw [hml]; rfl) (Steps.refl _) (argsL := []) (rest := [(.ref bs1), (.int ((((1 : Int32) &&& (1 : Int32)) &&& (1 : Int32)) &&& (1 : Int32)))]) (lenOf pdx_6 rfl) rfl (by show 2 * 0 + _ ≤ _; exact Nat.le_of_eq rfl) (hb hby at_245) (fun _ _ => ⟨rfl, e93, (by decide : 11 + 0 ≤ _), (by decide : 39 + 0 ≤ _)⟩)
    dsimp only [Pt.U, Pt.locs, Pt.cells, Pt.slots] at X96 l96 y96 z96 st96 hQ96
    subst l96 y96 z96
    obtain ⟨rfl, N96q, K96, Fn96, Fa96⟩ := hQ96
    have N96 := Fr.app N93 N96q
    have pre97 : ∀ t, Steps p.tables e below (T96.setTop (mkF m 248 #[.val (.int p1), .val (.int p2), .val (.int p3), .val (.int p4), .val (.int (p1 &&& (3 : Int32))), .val (.ref bs0), .val (.ref bs1), .val (.ref bs2), .val (.ref br), .val (.ref ba), .val (.int ((((1 : Int32) &&& (1 : Int32)) &&& (1 : Int32)) &&& (1 : Int32)))] [(.ref bs1), (.ref bs1), (.int ((((1 : Int32) &&& (1 : Int32)) &&& (1 : Int32)) &&& (1 : Int32)))])) t → Steps p.tables e below (s₁.setTop (entryFrame m #[(.int p1), (.int p2), (.int p3), (.int p4)] maxLocals)) t := fun t k => pre95 t (by
      show Steps p.tables e below (T93.setTop (mkF m 245 #[.val (.int p1), .val (.int p2), .val (.int p3), .val (.int p4), .val (.int (p1 &&& (3 : Int32))), .val (.ref bs0), .val (.ref bs1), .val (.ref bs2), .val (.ref br), .val (.ref ba), .val (.int ((((1 : Int32) &&& (1 : Int32)) &&& (1 : Int32)) &&& (1 : Int32)))] [(.ref ba), (.ref bs1), (.int ((((1 : Int32) &&& (1 : Int32)) &&& (1 : Int32)) &&& (1 : Int32)))])) t
      refine st96.trans ?_
      show Steps p.tables e below (T96.setTop (mkF m 248 #[.val (.int p1), .val (.int p2), .val (.int p3), .val (.int p4), .val (.int (p1 &&& (3 : Int32))), .val (.ref bs0), .val (.ref bs1), .val (.ref bs2), .val (.ref br), .val (.ref ba), .val (.int ((((1 : Int32) &&& (1 : Int32)) &&& (1 : Int32)) &&& (1 : Int32)))] [(.ref bs1), (.ref bs1), (.int ((((1 : Int32) &&& (1 : Int32)) &&& (1 : Int32)) &&& (1 : Int32)))])) t
      exact k)
    have E_bs0_96 := E_bs0_88.keep K96
    have E_bs1_96 := E_bs1_88.keep K96
    have E_bs2_96 := E_bs2_88.keep K96
    have E_ba_96 := E_ba_88.keep K96
    have Vc79_96 := Vc79_88.keep K96 (List.not_mem_cons_of_ne_of_not_mem (Nat.ne_of_gt o_ba_bc) List.not_mem_nil)
    have KK96 := KK88.trans K96 (own_k1 (Or.inr sz_ba))
    have hkk96 := Nat.le_trans hkk88 K96.1
    obtain ⟨cq98, kq98, q98a, q98b, q98c⟩ := isOf hZ rfl E_bs1_96
    obtain ⟨_, _, ⟨T98, L98, k98, n98⟩, -, X98, ⟨Lc98, hQ98, l98, y98, z98⟩, st98⟩ := X96.virtualBack hx (y := (⟨"java/lang/String", "equals", "(Ljava/lang/Object;)Z"⟩ : MethodName)) (z := (⟨"java/lang/String", "equals", "(Ljava/lang/Object;)Z"⟩ : MethodName)) hown (mvT hZ (hw _ (List.mem_of_getElem? (i := 63) rfl))) (mvT hZ (hw _ (List.mem_of_getElem? (i := 64) rfl))) (notFace_of_selects (args := #[]) (mvT hZ (hw _ (List.mem_of_getElem? (i := 66) rfl)))) (mvT hZ (hw _ (List.mem_of_getElem? (i := 66) rfl))) (mvT hZ (hw _ (List.mem_of_getElem? (i := 65) rfl))) (by decide) (backOf (W := 1) (rm9 l Z a0 hw [] bs1 bs1  T96.heap n0 (Nat.le_trans Z0 KK96.1) rfl) hZ (hw _ (List.mem_of_getElem? (i := 67) rfl)) (hw _ (List.mem_of_getElem? (i := 2) rfl)) (by decide) (by decide)) q98a q98c (g := (mkF m 248 #[.val (.int p1), .val (.int p2), .val (.int p3), .val (.int p4), .val (.int (p1 &&& (3 : Int32))), .val (.ref bs0), .val (.ref bs1), .val (.ref bs2), .val (.ref br), .val (.ref ba), .val (.int ((((1 : Int32) &&& (1 : Int32)) &&& (1 : Int32)) &&& (1 : Int32)))] [(.ref bs1), (.ref bs1), (.int ((((1 : Int32) &&& (1 : Int32)) &&& (1 : Int32)) &&& (1 : Int32)))])) rfl (by rw [hml]; rfl) (Steps.refl _) (argsL := [(.ref bs1)]) (rest := [(.int ((((1 : Int32) &&& (1 : Int32)) &&& (1 : Int32)) &&& (1 : Int32)))]) (lenOf pdx_7 rfl) rfl (by show 2 * 0 + _ ≤ _; exact Nat.le_of_eq rfl) (hb hby at_248) (fun _ _ => ⟨rfl, rfl, (by decide : 11 + 0 ≤ _), (by decide : 39 + 0 ≤ _)⟩)
    dsimp only [Pt.U, Pt.locs, Pt.cells, Pt.slots] at X98 l98 y98 z98 st98 hQ98
    subst l98 y98 z98
    obtain ⟨rfl, N98q, e98⟩ := hQ98
    have N98 := Fr.app N96 N98q
    have pre99 : ∀ t, Steps p.tables e below (T98.setTop (mkF m 251 #[.val (.int p1), .val (.int p2), .val (.int p3), .val (.int p4), .val (.int (p1 &&& (3 : Int32))), .val (.ref bs0), .val (.ref bs1), .val (.ref bs2), .val (.ref br), .val (.ref ba), .val (.int ((((1 : Int32) &&& (1 : Int32)) &&& (1 : Int32)) &&& (1 : Int32)))] [(.int (1 : Int32)), (.int ((((1 : Int32) &&& (1 : Int32)) &&& (1 : Int32)) &&& (1 : Int32)))])) t → Steps p.tables e below (s₁.setTop (entryFrame m #[(.int p1), (.int p2), (.int p3), (.int p4)] maxLocals)) t := fun t k => pre97 t (by
      show Steps p.tables e below (T96.setTop (mkF m 248 #[.val (.int p1), .val (.int p2), .val (.int p3), .val (.int p4), .val (.int (p1 &&& (3 : Int32))), .val (.ref bs0), .val (.ref bs1), .val (.ref bs2), .val (.ref br), .val (.ref ba), .val (.int ((((1 : Int32) &&& (1 : Int32)) &&& (1 : Int32)) &&& (1 : Int32)))] [(.ref bs1), (.ref bs1), (.int ((((1 : Int32) &&& (1 : Int32)) &&& (1 : Int32)) &&& (1 : Int32)))])) t
      refine st98.trans ?_
      show Steps p.tables e below (T98.setTop (mkF m 251 #[.val (.int p1), .val (.int p2), .val (.int p3), .val (.int p4), .val (.int (p1 &&& (3 : Int32))), .val (.ref bs0), .val (.ref bs1), .val (.ref bs2), .val (.ref br), .val (.ref ba), .val (.int ((((1 : Int32) &&& (1 : Int32)) &&& (1 : Int32)) &&& (1 : Int32)))] [(.int (1 : Int32)), (.int ((((1 : Int32) &&& (1 : Int32)) &&& (1 : Int32)) &&& (1 : Int32)))])) t
      exact k)
    have pre100 : ∀ t, Steps p.tables e below (T98.setTop (mkF m 258 #[.val (.int p1), .val (.int p2), .val (.int p3), .val (.int p4), .val (.int (p1 &&& (3 : Int32))), .val (.ref bs0), .val (.ref bs1), .val (.ref bs2), .val (.ref br), .val (.ref ba), .val (.int (((((1 : Int32) &&& (1 : Int32)) &&& (1 : Int32)) &&& (1 : Int32)) &&& (1 : Int32)))] [(.ref ba), (.int (((((1 : Int32) &&& (1 : Int32)) &&& (1 : Int32)) &&& (1 : Int32)) &&& (1 : Int32)))])) t → Steps p.tables e below (s₁.setTop (entryFrame m #[(.int p1), (.int p2), (.int p3), (.int p4)] maxLocals)) t := fun t k => pre99 t (by
      show Steps p.tables e below (T98.setTop (mkF m 251 #[.val (.int p1), .val (.int p2), .val (.int p3), .val (.int p4), .val (.int (p1 &&& (3 : Int32))), .val (.ref bs0), .val (.ref bs1), .val (.ref bs2), .val (.ref br), .val (.ref ba), .val (.int ((((1 : Int32) &&& (1 : Int32)) &&& (1 : Int32)) &&& (1 : Int32)))] [(.int (1 : Int32)), (.int ((((1 : Int32) &&& (1 : Int32)) &&& (1 : Int32)) &&& (1 : Int32)))])) _
      refine XS.iand X98.here hx rfl (hb hby at_251) rfl ?_
      show Steps p.tables e below (T98.setTop (mkF m 252 #[.val (.int p1), .val (.int p2), .val (.int p3), .val (.int p4), .val (.int (p1 &&& (3 : Int32))), .val (.ref bs0), .val (.ref bs1), .val (.ref bs2), .val (.ref br), .val (.ref ba), .val (.int ((((1 : Int32) &&& (1 : Int32)) &&& (1 : Int32)) &&& (1 : Int32)))] [(.int (((((1 : Int32) &&& (1 : Int32)) &&& (1 : Int32)) &&& (1 : Int32)) &&& (1 : Int32)))])) _
      refine XS.istore X98.here hx rfl (hb hby at_252) rfl (l' := #[.val (.int p1), .val (.int p2), .val (.int p3), .val (.int p4), .val (.int (p1 &&& (3 : Int32))), .val (.ref bs0), .val (.ref bs1), .val (.ref bs2), .val (.ref br), .val (.ref ba), .val (.int (((((1 : Int32) &&& (1 : Int32)) &&& (1 : Int32)) &&& (1 : Int32)) &&& (1 : Int32)))]) rfl ?_
      show Steps p.tables e below (T98.setTop (mkF m 254 #[.val (.int p1), .val (.int p2), .val (.int p3), .val (.int p4), .val (.int (p1 &&& (3 : Int32))), .val (.ref bs0), .val (.ref bs1), .val (.ref bs2), .val (.ref br), .val (.ref ba), .val (.int (((((1 : Int32) &&& (1 : Int32)) &&& (1 : Int32)) &&& (1 : Int32)) &&& (1 : Int32)))] [])) _
      refine XS.iload X98.here hx rfl (hb hby at_254) rfl ?_
      show Steps p.tables e below (T98.setTop (mkF m 256 #[.val (.int p1), .val (.int p2), .val (.int p3), .val (.int p4), .val (.int (p1 &&& (3 : Int32))), .val (.ref bs0), .val (.ref bs1), .val (.ref bs2), .val (.ref br), .val (.ref ba), .val (.int (((((1 : Int32) &&& (1 : Int32)) &&& (1 : Int32)) &&& (1 : Int32)) &&& (1 : Int32)))] [(.int (((((1 : Int32) &&& (1 : Int32)) &&& (1 : Int32)) &&& (1 : Int32)) &&& (1 : Int32)))])) _
      refine XS.aload X98.here hx rfl (hb hby at_256) rfl rfl ?_
      show Steps p.tables e below (T98.setTop (mkF m 258 #[.val (.int p1), .val (.int p2), .val (.int p3), .val (.int p4), .val (.int (p1 &&& (3 : Int32))), .val (.ref bs0), .val (.ref bs1), .val (.ref bs2), .val (.ref br), .val (.ref ba), .val (.int (((((1 : Int32) &&& (1 : Int32)) &&& (1 : Int32)) &&& (1 : Int32)) &&& (1 : Int32)))] [(.ref ba), (.int (((((1 : Int32) &&& (1 : Int32)) &&& (1 : Int32)) &&& (1 : Int32)) &&& (1 : Int32)))])) _
      exact k)
    obtain ⟨cq101, kq101, q101a, q101b, q101c⟩ := isOf hZ e98 E_ba_96
    obtain ⟨_, _, ⟨T101, L101, k101, n101⟩, -, X101, ⟨Lc101, hQ101, l101, y101, z101⟩, st101⟩ := X98.virtualBack hx (y := (⟨"com/example/arcsieve/arcsieve/Arguments", "hasNext", "()Z"⟩ : MethodName)) (z := (⟨"com/example/arcsieve/arcsieve/Arguments", "hasNext", "()Z"⟩ : MethodName)) hown (mvT hZ (hw _ (List.mem_of_getElem? (i := 51) rfl))) (mvT hZ (hw _ (List.mem_of_getElem? (i := 52) rfl))) (notFace_of_selects (args := #[]) (mvT hZ (hw _ (List.mem_of_getElem? (i := 54) rfl)))) (mvT hZ (hw _ (List.mem_of_getElem? (i := 54) rfl))) (mvT hZ (hw _ (List.mem_of_getElem? (i := 53) rfl))) (by decide) (backOf (W := 1) (rm7 l Z a0 hw [] ba bc (((0 : Int32) + (1 : Int32)) + (1 : Int32)) k64 (2 : Int32) [(.ref bs0), (.ref bs1)] T96.heap n0 (Nat.le_trans Z0 KK96.1) Fn96 Fa96 Vc79_96) hZ (hw _ (List.mem_of_getElem? (i := 55) rfl)) (hw _ (List.mem_of_getElem? (i := 30) rfl)) (by decide) (by decide)) q101a q101c (g := (mkF m 258 #[.val (.int p1), .val (.int p2), .val (.int p3), .val (.int p4), .val (.int (p1 &&& (3 : Int32))), .val (.ref bs0), .val (.ref bs1), .val (.ref bs2), .val (.ref br), .val (.ref ba), .val (.int (((((1 : Int32) &&& (1 : Int32)) &&& (1 : Int32)) &&& (1 : Int32)) &&& (1 : Int32)))] [(.ref ba), (.int (((((1 : Int32) &&& (1 : Int32)) &&& (1 : Int32)) &&& (1 : Int32)) &&& (1 : Int32)))])) rfl (by rw [hml]; rfl) (Steps.refl _) (argsL := []) (rest := [(.int (((((1 : Int32) &&& (1 : Int32)) &&& (1 : Int32)) &&& (1 : Int32)) &&& (1 : Int32)))]) (lenOf pdx_5 rfl) rfl (by show 2 * 0 + _ ≤ _; exact Nat.le_of_eq rfl) (hb hby at_258) (fun _ _ => ⟨rfl, e98, (by decide : 11 + 0 ≤ _), (by decide : 39 + 0 ≤ _)⟩)
    dsimp only [Pt.U, Pt.locs, Pt.cells, Pt.slots] at X101 l101 y101 z101 st101 hQ101
    subst l101 y101 z101
    obtain ⟨rfl, N101q, e101⟩ := hQ101
    have N101 := Fr.app N98 N101q
    have pre102 : ∀ t, Steps p.tables e below (T101.setTop (mkF m 261 #[.val (.int p1), .val (.int p2), .val (.int p3), .val (.int p4), .val (.int (p1 &&& (3 : Int32))), .val (.ref bs0), .val (.ref bs1), .val (.ref bs2), .val (.ref br), .val (.ref ba), .val (.int (((((1 : Int32) &&& (1 : Int32)) &&& (1 : Int32)) &&& (1 : Int32)) &&& (1 : Int32)))] [(.int (own_has (((0 : Int32) + (1 : Int32)) + (1 : Int32)) (2 : Int32))), (.int (((((1 : Int32) &&& (1 : Int32)) &&& (1 : Int32)) &&& (1 : Int32)) &&& (1 : Int32)))])) t → Steps p.tables e below (s₁.setTop (entryFrame m #[(.int p1), (.int p2), (.int p3), (.int p4)] maxLocals)) t := fun t k => pre100 t (by
      show Steps p.tables e below (T98.setTop (mkF m 258 #[.val (.int p1), .val (.int p2), .val (.int p3), .val (.int p4), .val (.int (p1 &&& (3 : Int32))), .val (.ref bs0), .val (.ref bs1), .val (.ref bs2), .val (.ref br), .val (.ref ba), .val (.int (((((1 : Int32) &&& (1 : Int32)) &&& (1 : Int32)) &&& (1 : Int32)) &&& (1 : Int32)))] [(.ref ba), (.int (((((1 : Int32) &&& (1 : Int32)) &&& (1 : Int32)) &&& (1 : Int32)) &&& (1 : Int32)))])) t
      refine st101.trans ?_
      show Steps p.tables e below (T101.setTop (mkF m 261 #[.val (.int p1), .val (.int p2), .val (.int p3), .val (.int p4), .val (.int (p1 &&& (3 : Int32))), .val (.ref bs0), .val (.ref bs1), .val (.ref bs2), .val (.ref br), .val (.ref ba), .val (.int (((((1 : Int32) &&& (1 : Int32)) &&& (1 : Int32)) &&& (1 : Int32)) &&& (1 : Int32)))] [(.int (own_has (((0 : Int32) + (1 : Int32)) + (1 : Int32)) (2 : Int32))), (.int (((((1 : Int32) &&& (1 : Int32)) &&& (1 : Int32)) &&& (1 : Int32)) &&& (1 : Int32)))])) t
      exact k)
    have pre103 : ∀ t, Steps p.tables e below (T101.setTop (mkF m 324 #[.val (.int p1), .val (.int p2), .val (.int p3), .val (.int p4), .val (.int (p1 &&& (3 : Int32))), .val (.ref bs0), .val (.ref bs1), .val (.ref bs2), .val (.ref br), .val (.ref ba), .val (.int ((((((1 : Int32) &&& (1 : Int32)) &&& (1 : Int32)) &&& (1 : Int32)) &&& (1 : Int32)) &&& (1 : Int32)))] [(.int ((((((1 : Int32) &&& (1 : Int32)) &&& (1 : Int32)) &&& (1 : Int32)) &&& (1 : Int32)) &&& (1 : Int32)))])) t → Steps p.tables e below (s₁.setTop (entryFrame m #[(.int p1), (.int p2), (.int p3), (.int p4)] maxLocals)) t := fun t k => pre102 t (by
      show Steps p.tables e below (T101.setTop (mkF m 261 #[.val (.int p1), .val (.int p2), .val (.int p3), .val (.int p4), .val (.int (p1 &&& (3 : Int32))), .val (.ref bs0), .val (.ref bs1), .val (.ref bs2), .val (.ref br), .val (.ref ba), .val (.int (((((1 : Int32) &&& (1 : Int32)) &&& (1 : Int32)) &&& (1 : Int32)) &&& (1 : Int32)))] [(.int (own_has (((0 : Int32) + (1 : Int32)) + (1 : Int32)) (2 : Int32))), (.int (((((1 : Int32) &&& (1 : Int32)) &&& (1 : Int32)) &&& (1 : Int32)) &&& (1 : Int32)))])) _
      refine XS.iload X101.here hx rfl (hb hby at_261) rfl ?_
      show Steps p.tables e below (T101.setTop (mkF m 263 #[.val (.int p1), .val (.int p2), .val (.int p3), .val (.int p4), .val (.int (p1 &&& (3 : Int32))), .val (.ref bs0), .val (.ref bs1), .val (.ref bs2), .val (.ref br), .val (.ref ba), .val (.int (((((1 : Int32) &&& (1 : Int32)) &&& (1 : Int32)) &&& (1 : Int32)) &&& (1 : Int32)))] [(.int (p1 &&& (3 : Int32))), (.int (own_has (((0 : Int32) + (1 : Int32)) + (1 : Int32)) (2 : Int32))), (.int (((((1 : Int32) &&& (1 : Int32)) &&& (1 : Int32)) &&& (1 : Int32)) &&& (1 : Int32)))])) _
      refine XS.iconst X101.here hx rfl (hb hby at_263) ?_
      show Steps p.tables e below (T101.setTop (mkF m 264 #[.val (.int p1), .val (.int p2), .val (.int p3), .val (.int p4), .val (.int (p1 &&& (3 : Int32))), .val (.ref bs0), .val (.ref bs1), .val (.ref bs2), .val (.ref br), .val (.ref ba), .val (.int (((((1 : Int32) &&& (1 : Int32)) &&& (1 : Int32)) &&& (1 : Int32)) &&& (1 : Int32)))] [(.int (2 : Int32)), (.int (p1 &&& (3 : Int32))), (.int (own_has (((0 : Int32) + (1 : Int32)) + (1 : Int32)) (2 : Int32))), (.int (((((1 : Int32) &&& (1 : Int32)) &&& (1 : Int32)) &&& (1 : Int32)) &&& (1 : Int32)))])) _
      refine XS.icmpYes X101.here hx rfl (pc0 := 264) (pc' := 271) rfl (hb hby at_264) rfl (flt (by rw [hn]; decide)).2.2.2 (by decide) (by decide) ?_
      show Steps p.tables e below (T101.setTop (mkF m 271 #[.val (.int p1), .val (.int p2), .val (.int p3), .val (.int p4), .val (.int (p1 &&& (3 : Int32))), .val (.ref bs0), .val (.ref bs1), .val (.ref bs2), .val (.ref br), .val (.ref ba), .val (.int (((((1 : Int32) &&& (1 : Int32)) &&& (1 : Int32)) &&& (1 : Int32)) &&& (1 : Int32)))] [(.int (own_has (((0 : Int32) + (1 : Int32)) + (1 : Int32)) (2 : Int32))), (.int (((((1 : Int32) &&& (1 : Int32)) &&& (1 : Int32)) &&& (1 : Int32)) &&& (1 : Int32)))])) _
      refine XS.iconst X101.here hx rfl (hb hby at_271) ?_
      show Steps p.tables e below (T101.setTop (mkF m 272 #[.val (.int p1), .val (.int p2), .val (.int p3), .val (.int p4), .val (.int (p1 &&& (3 : Int32))), .val (.ref bs0), .val (.ref bs1), .val (.ref bs2), .val (.ref br), .val (.ref ba), .val (.int (((((1 : Int32) &&& (1 : Int32)) &&& (1 : Int32)) &&& (1 : Int32)) &&& (1 : Int32)))] [(.int (0 : Int32)), (.int (own_has (((0 : Int32) + (1 : Int32)) + (1 : Int32)) (2 : Int32))), (.int (((((1 : Int32) &&& (1 : Int32)) &&& (1 : Int32)) &&& (1 : Int32)) &&& (1 : Int32)))])) _
      refine XS.icmpNo X101.here hx rfl (hb hby at_272) rfl (teq (by decide)).2 ?_
      show Steps p.tables e below (T101.setTop (mkF m 275 #[.val (.int p1), .val (.int p2), .val (.int p3), .val (.int p4), .val (.int (p1 &&& (3 : Int32))), .val (.ref bs0), .val (.ref bs1), .val (.ref bs2), .val (.ref br), .val (.ref ba), .val (.int (((((1 : Int32) &&& (1 : Int32)) &&& (1 : Int32)) &&& (1 : Int32)) &&& (1 : Int32)))] [(.int (((((1 : Int32) &&& (1 : Int32)) &&& (1 : Int32)) &&& (1 : Int32)) &&& (1 : Int32)))])) _
      refine XS.iconst X101.here hx rfl (hb hby at_275) ?_
      show Steps p.tables e below (T101.setTop (mkF m 276 #[.val (.int p1), .val (.int p2), .val (.int p3), .val (.int p4), .val (.int (p1 &&& (3 : Int32))), .val (.ref bs0), .val (.ref bs1), .val (.ref bs2), .val (.ref br), .val (.ref ba), .val (.int (((((1 : Int32) &&& (1 : Int32)) &&& (1 : Int32)) &&& (1 : Int32)) &&& (1 : Int32)))] [(.int (1 : Int32)), (.int (((((1 : Int32) &&& (1 : Int32)) &&& (1 : Int32)) &&& (1 : Int32)) &&& (1 : Int32)))])) _
      refine XS.goto X101.here hx rfl (pc0 := 276) (pc' := 280) rfl (hb hby at_276) (by decide) (by decide) ?_
      show Steps p.tables e below (T101.setTop (mkF m 280 #[.val (.int p1), .val (.int p2), .val (.int p3), .val (.int p4), .val (.int (p1 &&& (3 : Int32))), .val (.ref bs0), .val (.ref bs1), .val (.ref bs2), .val (.ref br), .val (.ref ba), .val (.int (((((1 : Int32) &&& (1 : Int32)) &&& (1 : Int32)) &&& (1 : Int32)) &&& (1 : Int32)))] [(.int (1 : Int32)), (.int (((((1 : Int32) &&& (1 : Int32)) &&& (1 : Int32)) &&& (1 : Int32)) &&& (1 : Int32)))])) _
      refine XS.iand X101.here hx rfl (hb hby at_280) rfl ?_
      show Steps p.tables e below (T101.setTop (mkF m 281 #[.val (.int p1), .val (.int p2), .val (.int p3), .val (.int p4), .val (.int (p1 &&& (3 : Int32))), .val (.ref bs0), .val (.ref bs1), .val (.ref bs2), .val (.ref br), .val (.ref ba), .val (.int (((((1 : Int32) &&& (1 : Int32)) &&& (1 : Int32)) &&& (1 : Int32)) &&& (1 : Int32)))] [(.int ((((((1 : Int32) &&& (1 : Int32)) &&& (1 : Int32)) &&& (1 : Int32)) &&& (1 : Int32)) &&& (1 : Int32)))])) _
      refine XS.istore X101.here hx rfl (hb hby at_281) rfl (l' := #[.val (.int p1), .val (.int p2), .val (.int p3), .val (.int p4), .val (.int (p1 &&& (3 : Int32))), .val (.ref bs0), .val (.ref bs1), .val (.ref bs2), .val (.ref br), .val (.ref ba), .val (.int ((((((1 : Int32) &&& (1 : Int32)) &&& (1 : Int32)) &&& (1 : Int32)) &&& (1 : Int32)) &&& (1 : Int32)))]) rfl ?_
      show Steps p.tables e below (T101.setTop (mkF m 283 #[.val (.int p1), .val (.int p2), .val (.int p3), .val (.int p4), .val (.int (p1 &&& (3 : Int32))), .val (.ref bs0), .val (.ref bs1), .val (.ref bs2), .val (.ref br), .val (.ref ba), .val (.int ((((((1 : Int32) &&& (1 : Int32)) &&& (1 : Int32)) &&& (1 : Int32)) &&& (1 : Int32)) &&& (1 : Int32)))] [])) _
      refine XS.iload X101.here hx rfl (hb hby at_283) rfl ?_
      show Steps p.tables e below (T101.setTop (mkF m 285 #[.val (.int p1), .val (.int p2), .val (.int p3), .val (.int p4), .val (.int (p1 &&& (3 : Int32))), .val (.ref bs0), .val (.ref bs1), .val (.ref bs2), .val (.ref br), .val (.ref ba), .val (.int ((((((1 : Int32) &&& (1 : Int32)) &&& (1 : Int32)) &&& (1 : Int32)) &&& (1 : Int32)) &&& (1 : Int32)))] [(.int (p1 &&& (3 : Int32)))])) _
      refine XS.iconst X101.here hx rfl (hb hby at_285) ?_
      show Steps p.tables e below (T101.setTop (mkF m 286 #[.val (.int p1), .val (.int p2), .val (.int p3), .val (.int p4), .val (.int (p1 &&& (3 : Int32))), .val (.ref bs0), .val (.ref bs1), .val (.ref bs2), .val (.ref br), .val (.ref ba), .val (.int ((((((1 : Int32) &&& (1 : Int32)) &&& (1 : Int32)) &&& (1 : Int32)) &&& (1 : Int32)) &&& (1 : Int32)))] [(.int (2 : Int32)), (.int (p1 &&& (3 : Int32)))])) _
      refine XS.icmpYes X101.here hx rfl (pc0 := 286) (pc' := 322) rfl (hb hby at_286) rfl (flt (by rw [hn]; decide)).2.2.2 (by decide) (by decide) ?_
      show Steps p.tables e below (T101.setTop (mkF m 322 #[.val (.int p1), .val (.int p2), .val (.int p3), .val (.int p4), .val (.int (p1 &&& (3 : Int32))), .val (.ref bs0), .val (.ref bs1), .val (.ref bs2), .val (.ref br), .val (.ref ba), .val (.int ((((((1 : Int32) &&& (1 : Int32)) &&& (1 : Int32)) &&& (1 : Int32)) &&& (1 : Int32)) &&& (1 : Int32)))] [])) _
      refine XS.iload X101.here hx rfl (hb hby at_322) rfl ?_
      show Steps p.tables e below (T101.setTop (mkF m 324 #[.val (.int p1), .val (.int p2), .val (.int p3), .val (.int p4), .val (.int (p1 &&& (3 : Int32))), .val (.ref bs0), .val (.ref bs1), .val (.ref bs2), .val (.ref br), .val (.ref ba), .val (.int ((((((1 : Int32) &&& (1 : Int32)) &&& (1 : Int32)) &&& (1 : Int32)) &&& (1 : Int32)) &&& (1 : Int32)))] [(.int ((((((1 : Int32) &&& (1 : Int32)) &&& (1 : Int32)) &&& (1 : Int32)) &&& (1 : Int32)) &&& (1 : Int32)))])) _
      exact k)
    obtain ⟨fs, hr, hrun, hended, hend⟩ := X101.leaveW hSs (show k1 ≤ T101.heap.size by first | exact hkk96 | (rw [e101]; exact hkk96)) (v := some (.int (1 : Int32))) (fun h => by rw [Bd.returns] at h; cases h)
    refine ⟨_, _, pre103 _ ?_, hrun, hended, _, _, rfl, ⟨rfl, N101⟩, ⟨hend.1, hend.2.1, hend.2.2.1, hend.2.2.2.mono (by decide) (by decide)⟩⟩
    show Steps p.tables e below (T101.setTop (mkF m 324 #[.val (.int p1), .val (.int p2), .val (.int p3), .val (.int p4), .val (.int (p1 &&& (3 : Int32))), .val (.ref bs0), .val (.ref bs1), .val (.ref bs2), .val (.ref br), .val (.ref ba), .val (.int ((((((1 : Int32) &&& (1 : Int32)) &&& (1 : Int32)) &&& (1 : Int32)) &&& (1 : Int32)) &&& (1 : Int32)))] [(.int ((((((1 : Int32) &&& (1 : Int32)) &&& (1 : Int32)) &&& (1 : Int32)) &&& (1 : Int32)) &&& (1 : Int32)))])) _
    exact retN X101 hx (t := .boolean) Bd.returns (by simp) (hb hby at_324) hr
  have hn2 := hn; clear hn
  have hn := own_three p1 hn0 hn1 hn2
  have pre104 : ∀ t, Steps p.tables e below (T11.setTop (mkF m 98 #[.val (.int p1), .val (.int p2), .val (.int p3), .val (.int p4), .val (.int (p1 &&& (3 : Int32))), .val (.ref bs0), .val (.ref bs1), .val (.ref bs2), .unset, .unset, .unset] [(.int (3 : Int32))])) t → Steps p.tables e below (s₁.setTop (entryFrame m #[(.int p1), (.int p2), (.int p3), (.int p4)] maxLocals)) t := fun t k => pre13 t (by
    show Steps p.tables e below (T11.setTop (mkF m 40 #[.val (.int p1), .val (.int p2), .val (.int p3), .val (.int p4), .val (.int (p1 &&& (3 : Int32))), .val (.ref bs0), .val (.ref bs1), .val (.ref bs2), .unset, .unset, .unset] [(.int (p1 &&& (3 : Int32)))])) _
    refine XS.ifYes X11.here hx rfl (pc0 := 40) (pc' := 52) rfl (hb hby at_40) rfl ((if0 _ _).trans (feq (by rw [hn]; decide)).2) (by decide) (by decide) ?_
    show Steps p.tables e below (T11.setTop (mkF m 52 #[.val (.int p1), .val (.int p2), .val (.int p3), .val (.int p4), .val (.int (p1 &&& (3 : Int32))), .val (.ref bs0), .val (.ref bs1), .val (.ref bs2), .unset, .unset, .unset] [])) _
    refine XS.iload X11.here hx rfl (hb hby at_52) rfl ?_
    show Steps p.tables e below (T11.setTop (mkF m 54 #[.val (.int p1), .val (.int p2), .val (.int p3), .val (.int p4), .val (.int (p1 &&& (3 : Int32))), .val (.ref bs0), .val (.ref bs1), .val (.ref bs2), .unset, .unset, .unset] [(.int (p1 &&& (3 : Int32)))])) _
    refine XS.iconst X11.here hx rfl (hb hby at_54) ?_
    show Steps p.tables e below (T11.setTop (mkF m 55 #[.val (.int p1), .val (.int p2), .val (.int p3), .val (.int p4), .val (.int (p1 &&& (3 : Int32))), .val (.ref bs0), .val (.ref bs1), .val (.ref bs2), .unset, .unset, .unset] [(.int (1 : Int32)), (.int (p1 &&& (3 : Int32)))])) _
    refine XS.icmpYes X11.here hx rfl (pc0 := 55) (pc' := 72) rfl (hb hby at_55) rfl (feq (by rw [hn]; decide)).2 (by decide) (by decide) ?_
    show Steps p.tables e below (T11.setTop (mkF m 72 #[.val (.int p1), .val (.int p2), .val (.int p3), .val (.int p4), .val (.int (p1 &&& (3 : Int32))), .val (.ref bs0), .val (.ref bs1), .val (.ref bs2), .unset, .unset, .unset] [])) _
    refine XS.iload X11.here hx rfl (hb hby at_72) rfl ?_
    show Steps p.tables e below (T11.setTop (mkF m 74 #[.val (.int p1), .val (.int p2), .val (.int p3), .val (.int p4), .val (.int (p1 &&& (3 : Int32))), .val (.ref bs0), .val (.ref bs1), .val (.ref bs2), .unset, .unset, .unset] [(.int (p1 &&& (3 : Int32)))])) _
    refine XS.iconst X11.here hx rfl (hb hby at_74) ?_
    show Steps p.tables e below (T11.setTop (mkF m 75 #[.val (.int p1), .val (.int p2), .val (.int p3), .val (.int p4), .val (.int (p1 &&& (3 : Int32))), .val (.ref bs0), .val (.ref bs1), .val (.ref bs2), .unset, .unset, .unset] [(.int (2 : Int32)), (.int (p1 &&& (3 : Int32)))])) _
    refine XS.icmpYes X11.here hx rfl (pc0 := 75) (pc' := 97) rfl (hb hby at_75) rfl (feq (by rw [hn]; decide)).2 (by decide) (by decide) ?_
    show Steps p.tables e below (T11.setTop (mkF m 97 #[.val (.int p1), .val (.int p2), .val (.int p3), .val (.int p4), .val (.int (p1 &&& (3 : Int32))), .val (.ref bs0), .val (.ref bs1), .val (.ref bs2), .unset, .unset, .unset] [])) _
    refine XS.iconst X11.here hx rfl (hb hby at_97) ?_
    show Steps p.tables e below (T11.setTop (mkF m 98 #[.val (.int p1), .val (.int p2), .val (.int p3), .val (.int p4), .val (.int (p1 &&& (3 : Int32))), .val (.ref bs0), .val (.ref bs1), .val (.ref bs2), .unset, .unset, .unset] [(.int (3 : Int32))])) _
    exact k)
  obtain ⟨T105, h105, k105, X105, e105, E105, A105, Ea105, O105, st105⟩ := newRE X11 hx hZ hown (hw _ (List.mem_of_getElem? (i := 26) rfl)) (hw _ (List.mem_of_getElem? (i := 27) rfl)) rfl (g := (mkF m 98 #[.val (.int p1), .val (.int p2), .val (.int p3), .val (.int p4), .val (.int (p1 &&& (3 : Int32))), .val (.ref bs0), .val (.ref bs1), .val (.ref bs2), .unset, .unset, .unset] [(.int (3 : Int32))])) rfl (hb hby at_98) rfl (by decide) (cap := 3) (by decide) (by decide) (by decide) (by decide) (ad := "[Ljava/lang/String;") (by decide)
  obtain ⟨br, ge105⟩ : ∃ z, z = T11.heap.size := ⟨_, rfl⟩
  rw [← ge105] at A105 Ea105 st105
  have gq105 := Nat.le_of_eq ge105.symm
  have o_bs0_br : bs0 < br := Nat.lt_of_lt_of_le E_bs0_11.lt gq105
  have o_bs1_br : bs1 < br := Nat.lt_of_lt_of_le E_bs1_11.lt gq105
  have o_bs2_br : bs2 < br := Nat.lt_of_lt_of_le E_bs2.lt gq105
  have g_br : n0 ≤ br := Nat.le_trans Z0 (Nat.le_trans KK11.1 gq105)
  have sz_br : h0.size ≤ br := Nat.le_trans KK11.1 gq105
  have E_bs0_105 := E_bs0_11.ext E105
  have E_bs1_105 := E_bs1_11.ext E105
  have E_bs2_105 := E_bs2.ext E105
  have KK105 := KK11.ext E105
  have V_br : Arv Z h105 br k105 (.object "java/lang/String") (3 : Int32) [.null, .null, .null] .null := (Arv.new A105 (by decide)).pad (pad_rep [] .null 3)
  have X_br := Ea105
  have pre106 : ∀ t, Steps p.tables e below (T105.setTop (mkF m 101 #[.val (.int p1), .val (.int p2), .val (.int p3), .val (.int p4), .val (.int (p1 &&& (3 : Int32))), .val (.ref bs0), .val (.ref bs1), .val (.ref bs2), .unset, .unset, .unset] [(.ref br)])) t → Steps p.tables e below (s₁.setTop (entryFrame m #[(.int p1), (.int p2), (.int p3), (.int p4)] maxLocals)) t := fun t k => pre104 t (by
    show Steps p.tables e below (T11.setTop (mkF m 98 #[.val (.int p1), .val (.int p2), .val (.int p3), .val (.int p4), .val (.int (p1 &&& (3 : Int32))), .val (.ref bs0), .val (.ref bs1), .val (.ref bs2), .unset, .unset, .unset] [(.int (3 : Int32))])) t
    refine st105 _ ?_
    show Steps p.tables e below (T105.setTop (mkF m 101 #[.val (.int p1), .val (.int p2), .val (.int p3), .val (.int p4), .val (.int (p1 &&& (3 : Int32))), .val (.ref bs0), .val (.ref bs1), .val (.ref bs2), .unset, .unset, .unset] [(.ref br)])) t
    exact k)
  have pre107 : ∀ t, Steps p.tables e below (T105.setTop (mkF m 105 #[.val (.int p1), .val (.int p2), .val (.int p3), .val (.int p4), .val (.int (p1 &&& (3 : Int32))), .val (.ref bs0), .val (.ref bs1), .val (.ref bs2), .unset, .unset, .unset] [(.ref bs0), (.int (0 : Int32)), (.ref br), (.ref br)])) t → Steps p.tables e below (s₁.setTop (entryFrame m #[(.int p1), (.int p2), (.int p3), (.int p4)] maxLocals)) t := fun t k => pre106 t (by
    show Steps p.tables e below (T105.setTop (mkF m 101 #[.val (.int p1), .val (.int p2), .val (.int p3), .val (.int p4), .val (.int (p1 &&& (3 : Int32))), .val (.ref bs0), .val (.ref bs1), .val (.ref bs2), .unset, .unset, .unset] [(.ref br)])) _
    refine XS.dup X105.here hx rfl (hb hby at_101) rfl rfl ?_
    show Steps p.tables e below (T105.setTop (mkF m 102 #[.val (.int p1), .val (.int p2), .val (.int p3), .val (.int p4), .val (.int (p1 &&& (3 : Int32))), .val (.ref bs0), .val (.ref bs1), .val (.ref bs2), .unset, .unset, .unset] [(.ref br), (.ref br)])) _
    refine XS.iconst X105.here hx rfl (hb hby at_102) ?_
    show Steps p.tables e below (T105.setTop (mkF m 103 #[.val (.int p1), .val (.int p2), .val (.int p3), .val (.int p4), .val (.int (p1 &&& (3 : Int32))), .val (.ref bs0), .val (.ref bs1), .val (.ref bs2), .unset, .unset, .unset] [(.int (0 : Int32)), (.ref br), (.ref br)])) _
    refine XS.aload X105.here hx rfl (hb hby at_103) rfl rfl ?_
    show Steps p.tables e below (T105.setTop (mkF m 105 #[.val (.int p1), .val (.int p2), .val (.int p3), .val (.int p4), .val (.int (p1 &&& (3 : Int32))), .val (.ref bs0), .val (.ref bs1), .val (.ref bs2), .unset, .unset, .unset] [(.ref bs0), (.int (0 : Int32)), (.ref br), (.ref br)])) _
    exact k)
  obtain ⟨cl108, Ar108, q108, Sz108, Nn108, Hh108, Gg108⟩ := V_br
  have hin108 : ¬ ((0 : Int32) < 0 ∨ cl108.slots.size ≤ ((0 : Int32)).toNatClampNeg) := inb_of Sz108 ⟨by decide, by decide⟩
  obtain ⟨T108, h108, X108, e108, W108, st108⟩ := stR X105 hx hZ e105 Ar108 (j := (0 : Int32)) hin108 rfl (Sto.ofV Ar108 q108 O105 (Ins.self E_bs0_105)) (g := (mkF m 105 #[.val (.int p1), .val (.int p2), .val (.int p3), .val (.int p4), .val (.int (p1 &&& (3 : Int32))), .val (.ref bs0), .val (.ref bs1), .val (.ref bs2), .unset, .unset, .unset] [(.ref bs0), (.int (0 : Int32)), (.ref br), (.ref br)])) rfl rfl (hb hby at_105)
  have E_bs0_108 := E_bs0_105.wr W108
  have E_bs1_108 := E_bs1_105.wr W108
  have E_bs2_108 := E_bs2_105.wr W108
  have X_br_108 := X_br.wr W108
  have KK108 := KK105.wr W108 (Or.inr sz_br)
  have V_br_108 : Arv Z h108 br k105 (.object "java/lang/String") (3 : Int32) [(.ref bs0), .null, .null] .null := Arv.set Ar108 q108 Sz108 Nn108 Hh108 Gg108 rfl W108 0 rfl (Nat.le_of_ble_eq_true rfl)
  have N108 := Fr.snoc X108 N11 g_br
  have pre109 : ∀ t, Steps p.tables e below (T108.setTop (mkF m 106 #[.val (.int p1), .val (.int p2), .val (.int p3), .val (.int p4), .val (.int (p1 &&& (3 : Int32))), .val (.ref bs0), .val (.ref bs1), .val (.ref bs2), .unset, .unset, .unset] [(.ref br)])) t → Steps p.tables e below (s₁.setTop (entryFrame m #[(.int p1), (.int p2), (.int p3), (.int p4)] maxLocals)) t := fun t k => pre107 t (by
    show Steps p.tables e below (T105.setTop (mkF m 105 #[.val (.int p1), .val (.int p2), .val (.int p3), .val (.int p4), .val (.int (p1 &&& (3 : Int32))), .val (.ref bs0), .val (.ref bs1), .val (.ref bs2), .unset, .unset, .unset] [(.ref bs0), (.int (0 : Int32)), (.ref br), (.ref br)])) t
    refine st108 _ ?_
    show Steps p.tables e below (T108.setTop (mkF m 106 #[.val (.int p1), .val (.int p2), .val (.int p3), .val (.int p4), .val (.int (p1 &&& (3 : Int32))), .val (.ref bs0), .val (.ref bs1), .val (.ref bs2), .unset, .unset, .unset] [(.ref br)])) t
    exact k)
  have pre110 : ∀ t, Steps p.tables e below (T108.setTop (mkF m 110 #[.val (.int p1), .val (.int p2), .val (.int p3), .val (.int p4), .val (.int (p1 &&& (3 : Int32))), .val (.ref bs0), .val (.ref bs1), .val (.ref bs2), .unset, .unset, .unset] [(.ref bs1), (.int (1 : Int32)), (.ref br), (.ref br)])) t → Steps p.tables e below (s₁.setTop (entryFrame m #[(.int p1), (.int p2), (.int p3), (.int p4)] maxLocals)) t := fun t k => pre109 t (by
    show Steps p.tables e below (T108.setTop (mkF m 106 #[.val (.int p1), .val (.int p2), .val (.int p3), .val (.int p4), .val (.int (p1 &&& (3 : Int32))), .val (.ref bs0), .val (.ref bs1), .val (.ref bs2), .unset, .unset, .unset] [(.ref br)])) _
    refine XS.dup X108.here hx rfl (hb hby at_106) rfl rfl ?_
    show Steps p.tables e below (T108.setTop (mkF m 107 #[.val (.int p1), .val (.int p2), .val (.int p3), .val (.int p4), .val (.int (p1 &&& (3 : Int32))), .val (.ref bs0), .val (.ref bs1), .val (.ref bs2), .unset, .unset, .unset] [(.ref br), (.ref br)])) _
    refine XS.iconst X108.here hx rfl (hb hby at_107) ?_
    show Steps p.tables e below (T108.setTop (mkF m 108 #[.val (.int p1), .val (.int p2), .val (.int p3), .val (.int p4), .val (.int (p1 &&& (3 : Int32))), .val (.ref bs0), .val (.ref bs1), .val (.ref bs2), .unset, .unset, .unset] [(.int (1 : Int32)), (.ref br), (.ref br)])) _
    refine XS.aload X108.here hx rfl (hb hby at_108) rfl rfl ?_
    show Steps p.tables e below (T108.setTop (mkF m 110 #[.val (.int p1), .val (.int p2), .val (.int p3), .val (.int p4), .val (.int (p1 &&& (3 : Int32))), .val (.ref bs0), .val (.ref bs1), .val (.ref bs2), .unset, .unset, .unset] [(.ref bs1), (.int (1 : Int32)), (.ref br), (.ref br)])) _
    exact k)
  obtain ⟨cl111, Ar111, q111, Sz111, Nn111, Hh111, Gg111⟩ := V_br_108
  have hin111 : ¬ ((1 : Int32) < 0 ∨ cl111.slots.size ≤ ((1 : Int32)).toNatClampNeg) := inb_of Sz111 ⟨by decide, by decide⟩
  obtain ⟨T111, h111, X111, e111, W111, st111⟩ := stR X108 hx hZ e108 Ar111 (j := (1 : Int32)) hin111 rfl (Sto.ofV Ar111 q111 O105 (Ins.self E_bs1_108)) (g := (mkF m 110 #[.val (.int p1), .val (.int p2), .val (.int p3), .val (.int p4), .val (.int (p1 &&& (3 : Int32))), .val (.ref bs0), .val (.ref bs1), .val (.ref bs2), .unset, .unset, .unset] [(.ref bs1), (.int (1 : Int32)), (.ref br), (.ref br)])) rfl rfl (hb hby at_110)
  have E_bs0_111 := E_bs0_108.wr W111
  have E_bs1_111 := E_bs1_108.wr W111
  have E_bs2_111 := E_bs2_108.wr W111
  have X_br_111 := X_br_108.wr W111
  have KK111 := KK108.wr W111 (Or.inr sz_br)
  have V_br_111 : Arv Z h111 br k105 (.object "java/lang/String") (3 : Int32) [(.ref bs0), (.ref bs1), .null] .null := Arv.set Ar111 q111 Sz111 Nn111 Hh111 Gg111 rfl W111 1 rfl (Nat.le_of_ble_eq_true rfl)
  have N111 := Fr.snoc X111 N108 g_br
  have pre112 : ∀ t, Steps p.tables e below (T111.setTop (mkF m 111 #[.val (.int p1), .val (.int p2), .val (.int p3), .val (.int p4), .val (.int (p1 &&& (3 : Int32))), .val (.ref bs0), .val (.ref bs1), .val (.ref bs2), .unset, .unset, .unset] [(.ref br)])) t → Steps p.tables e below (s₁.setTop (entryFrame m #[(.int p1), (.int p2), (.int p3), (.int p4)] maxLocals)) t := fun t k => pre110 t (by
    show Steps p.tables e below (T108.setTop (mkF m 110 #[.val (.int p1), .val (.int p2), .val (.int p3), .val (.int p4), .val (.int (p1 &&& (3 : Int32))), .val (.ref bs0), .val (.ref bs1), .val (.ref bs2), .unset, .unset, .unset] [(.ref bs1), (.int (1 : Int32)), (.ref br), (.ref br)])) t
    refine st111 _ ?_
    show Steps p.tables e below (T111.setTop (mkF m 111 #[.val (.int p1), .val (.int p2), .val (.int p3), .val (.int p4), .val (.int (p1 &&& (3 : Int32))), .val (.ref bs0), .val (.ref bs1), .val (.ref bs2), .unset, .unset, .unset] [(.ref br)])) t
    exact k)
  have pre113 : ∀ t, Steps p.tables e below (T111.setTop (mkF m 115 #[.val (.int p1), .val (.int p2), .val (.int p3), .val (.int p4), .val (.int (p1 &&& (3 : Int32))), .val (.ref bs0), .val (.ref bs1), .val (.ref bs2), .unset, .unset, .unset] [(.ref bs2), (.int (2 : Int32)), (.ref br), (.ref br)])) t → Steps p.tables e below (s₁.setTop (entryFrame m #[(.int p1), (.int p2), (.int p3), (.int p4)] maxLocals)) t := fun t k => pre112 t (by
    show Steps p.tables e below (T111.setTop (mkF m 111 #[.val (.int p1), .val (.int p2), .val (.int p3), .val (.int p4), .val (.int (p1 &&& (3 : Int32))), .val (.ref bs0), .val (.ref bs1), .val (.ref bs2), .unset, .unset, .unset] [(.ref br)])) _
    refine XS.dup X111.here hx rfl (hb hby at_111) rfl rfl ?_
    show Steps p.tables e below (T111.setTop (mkF m 112 #[.val (.int p1), .val (.int p2), .val (.int p3), .val (.int p4), .val (.int (p1 &&& (3 : Int32))), .val (.ref bs0), .val (.ref bs1), .val (.ref bs2), .unset, .unset, .unset] [(.ref br), (.ref br)])) _
    refine XS.iconst X111.here hx rfl (hb hby at_112) ?_
    show Steps p.tables e below (T111.setTop (mkF m 113 #[.val (.int p1), .val (.int p2), .val (.int p3), .val (.int p4), .val (.int (p1 &&& (3 : Int32))), .val (.ref bs0), .val (.ref bs1), .val (.ref bs2), .unset, .unset, .unset] [(.int (2 : Int32)), (.ref br), (.ref br)])) _
    refine XS.aload X111.here hx rfl (hb hby at_113) rfl rfl ?_
    show Steps p.tables e below (T111.setTop (mkF m 115 #[.val (.int p1), .val (.int p2), .val (.int p3), .val (.int p4), .val (.int (p1 &&& (3 : Int32))), .val (.ref bs0), .val (.ref bs1), .val (.ref bs2), .unset, .unset, .unset] [(.ref bs2), (.int (2 : Int32)), (.ref br), (.ref br)])) _
    exact k)
  obtain ⟨cl114, Ar114, q114, Sz114, Nn114, Hh114, Gg114⟩ := V_br_111
  have hin114 : ¬ ((2 : Int32) < 0 ∨ cl114.slots.size ≤ ((2 : Int32)).toNatClampNeg) := inb_of Sz114 ⟨by decide, by decide⟩
  obtain ⟨T114, h114, X114, e114, W114, st114⟩ := stR X111 hx hZ e111 Ar114 (j := (2 : Int32)) hin114 rfl (Sto.ofV Ar114 q114 O105 (Ins.self E_bs2_111)) (g := (mkF m 115 #[.val (.int p1), .val (.int p2), .val (.int p3), .val (.int p4), .val (.int (p1 &&& (3 : Int32))), .val (.ref bs0), .val (.ref bs1), .val (.ref bs2), .unset, .unset, .unset] [(.ref bs2), (.int (2 : Int32)), (.ref br), (.ref br)])) rfl rfl (hb hby at_115)
  have E_bs0_114 := E_bs0_111.wr W114
  have E_bs1_114 := E_bs1_111.wr W114
  have E_bs2_114 := E_bs2_111.wr W114
  have X_br_114 := X_br_111.wr W114
  have KK114 := KK111.wr W114 (Or.inr sz_br)
  have V_br_114 : Arv Z h114 br k105 (.object "java/lang/String") (3 : Int32) [(.ref bs0), (.ref bs1), (.ref bs2)] .null := Arv.set Ar114 q114 Sz114 Nn114 Hh114 Gg114 rfl W114 2 rfl (Nat.le_of_ble_eq_true rfl)
  have N114 := Fr.snoc X114 N111 g_br
  have pre115 : ∀ t, Steps p.tables e below (T114.setTop (mkF m 116 #[.val (.int p1), .val (.int p2), .val (.int p3), .val (.int p4), .val (.int (p1 &&& (3 : Int32))), .val (.ref bs0), .val (.ref bs1), .val (.ref bs2), .unset, .unset, .unset] [(.ref br)])) t → Steps p.tables e below (s₁.setTop (entryFrame m #[(.int p1), (.int p2), (.int p3), (.int p4)] maxLocals)) t := fun t k => pre113 t (by
    show Steps p.tables e below (T111.setTop (mkF m 115 #[.val (.int p1), .val (.int p2), .val (.int p3), .val (.int p4), .val (.int (p1 &&& (3 : Int32))), .val (.ref bs0), .val (.ref bs1), .val (.ref bs2), .unset, .unset, .unset] [(.ref bs2), (.int (2 : Int32)), (.ref br), (.ref br)])) t
    refine st114 _ ?_
    show Steps p.tables e below (T114.setTop (mkF m 116 #[.val (.int p1), .val (.int p2), .val (.int p3), .val (.int p4), .val (.int (p1 &&& (3 : Int32))), .val (.ref bs0), .val (.ref bs1), .val (.ref bs2), .unset, .unset, .unset] [(.ref br)])) t
    exact k)
  have pre116 : ∀ t, Steps p.tables e below (T114.setTop (mkF m 118 #[.val (.int p1), .val (.int p2), .val (.int p3), .val (.int p4), .val (.int (p1 &&& (3 : Int32))), .val (.ref bs0), .val (.ref bs1), .val (.ref bs2), .val (.ref br), .unset, .unset] [])) t → Steps p.tables e below (s₁.setTop (entryFrame m #[(.int p1), (.int p2), (.int p3), (.int p4)] maxLocals)) t := fun t k => pre115 t (by
    show Steps p.tables e below (T114.setTop (mkF m 116 #[.val (.int p1), .val (.int p2), .val (.int p3), .val (.int p4), .val (.int (p1 &&& (3 : Int32))), .val (.ref bs0), .val (.ref bs1), .val (.ref bs2), .unset, .unset, .unset] [(.ref br)])) _
    refine XS.astore X114.here hx rfl (hb hby at_116) rfl rfl (l' := #[.val (.int p1), .val (.int p2), .val (.int p3), .val (.int p4), .val (.int (p1 &&& (3 : Int32))), .val (.ref bs0), .val (.ref bs1), .val (.ref bs2), .val (.ref br), .unset, .unset]) rfl ?_
    show Steps p.tables e below (T114.setTop (mkF m 118 #[.val (.int p1), .val (.int p2), .val (.int p3), .val (.int p4), .val (.int (p1 &&& (3 : Int32))), .val (.ref bs0), .val (.ref bs1), .val (.ref bs2), .val (.ref br), .unset, .unset] [])) _
    exact k)
  obtain ⟨T117, h117, X117, e117, E117, A117, D117, -, st117⟩ := newO X114 hx hZ hown (hw _ (List.mem_of_getElem? (i := 28) rfl)) (hw _ (List.mem_of_getElem? (i := 29) rfl)) (hw _ (List.mem_of_getElem? (i := 30) rfl)) e114 (g := (mkF m 118 #[.val (.int p1), .val (.int p2), .val (.int p3), .val (.int p4), .val (.int (p1 &&& (3 : Int32))), .val (.ref bs0), .val (.ref bs1), .val (.ref bs2), .val (.ref br), .unset, .unset] [])) rfl (hb hby at_118) (by decide) (by decide)
  obtain ⟨ba, ge117⟩ : ∃ z, z = h114.size := ⟨_, rfl⟩
  rw [← ge117] at A117 D117 st117
  have gq117 := Nat.le_of_eq ge117.symm
  have o_bs0_ba : bs0 < ba := Nat.lt_of_lt_of_le E_bs0_114.lt gq117
  have o_bs1_ba : bs1 < ba := Nat.lt_of_lt_of_le E_bs1_114.lt gq117
  have o_bs2_ba : bs2 < ba := Nat.lt_of_lt_of_le E_bs2_114.lt gq117
  have o_br_ba : br < ba := Nat.lt_of_lt_of_le V_br_114.lt gq117
  have g_ba : n0 ≤ ba := Nat.le_trans Z0 (Nat.le_trans KK114.1 gq117)
  have sz_ba : h0.size ≤ ba := Nat.le_trans KK114.1 gq117
  have E_bs0_117 := E_bs0_114.ext E117
  have E_bs1_117 := E_bs1_114.ext E117
  have E_bs2_117 := E_bs2_114.ext E117
  have V_br_117 := V_br_114.ext E117
  have X_br_117 := X_br_114.ext E117
  have KK117 := KK114.ext E117
  have E_ba : Exa Z h117 ba "com/example/arcsieve/arcsieve/Arguments" := A117
  have F_command_ba : Fld Z h117 ba "com/example/arcsieve/arcsieve/Arguments" "command" "Ljava/lang/String;" .null := D117 (Or.inr (hw _ (List.mem_of_getElem? (i := 39) rfl))) (ty := (.object "java/lang/String")) (by decide)
  have F_args_ba : Fld Z h117 ba "com/example/arcsieve/arcsieve/Arguments" "args" "[Ljava/lang/String;" .null := D117 (Or.inr (hw _ (List.mem_of_getElem? (i := 50) rfl))) (ty := (.array (.object "java/lang/String"))) (by decide)
  have F_next_ba : Fld Z h117 ba "com/example/arcsieve/arcsieve/Arguments" "next" "I" (.int (0 : Int32)) := D117 (Or.inl (hw _ (List.mem_of_getElem? (i := 57) rfl))) (ty := .int) (by decide)
  have pre118 : ∀ t, Steps p.tables e below (T117.setTop (mkF m 121 #[.val (.int p1), .val (.int p2), .val (.int p3), .val (.int p4), .val (.int (p1 &&& (3 : Int32))), .val (.ref bs0), .val (.ref bs1), .val (.ref bs2), .val (.ref br), .unset, .unset] [(.ref ba)])) t → Steps p.tables e below (s₁.setTop (entryFrame m #[(.int p1), (.int p2), (.int p3), (.int p4)] maxLocals)) t := fun t k => pre116 t (by
    show Steps p.tables e below (T114.setTop (mkF m 118 #[.val (.int p1), .val (.int p2), .val (.int p3), .val (.int p4), .val (.int (p1 &&& (3 : Int32))), .val (.ref bs0), .val (.ref bs1), .val (.ref bs2), .val (.ref br), .unset, .unset] [])) t
    refine st117 _ ?_
    show Steps p.tables e below (T117.setTop (mkF m 121 #[.val (.int p1), .val (.int p2), .val (.int p3), .val (.int p4), .val (.int (p1 &&& (3 : Int32))), .val (.ref bs0), .val (.ref bs1), .val (.ref bs2), .val (.ref br), .unset, .unset] [(.ref ba)])) t
    exact k)
  have pre119 : ∀ t, Steps p.tables e below (T117.setTop (mkF m 122 #[.val (.int p1), .val (.int p2), .val (.int p3), .val (.int p4), .val (.int (p1 &&& (3 : Int32))), .val (.ref bs0), .val (.ref bs1), .val (.ref bs2), .val (.ref br), .unset, .unset] [(.ref ba), (.ref ba)])) t → Steps p.tables e below (s₁.setTop (entryFrame m #[(.int p1), (.int p2), (.int p3), (.int p4)] maxLocals)) t := fun t k => pre118 t (by
    show Steps p.tables e below (T117.setTop (mkF m 121 #[.val (.int p1), .val (.int p2), .val (.int p3), .val (.int p4), .val (.int (p1 &&& (3 : Int32))), .val (.ref bs0), .val (.ref bs1), .val (.ref bs2), .val (.ref br), .unset, .unset] [(.ref ba)])) _
    refine XS.dup X117.here hx rfl (hb hby at_121) rfl rfl ?_
    show Steps p.tables e below (T117.setTop (mkF m 122 #[.val (.int p1), .val (.int p2), .val (.int p3), .val (.int p4), .val (.int (p1 &&& (3 : Int32))), .val (.ref bs0), .val (.ref bs1), .val (.ref bs2), .val (.ref br), .unset, .unset] [(.ref ba), (.ref ba)])) _
    exact k)
  have wS120 : ∀ d ∈ Bundle.stringAtoms, d.before a0 Z = true := fun d hd => by
    simp only [Bundle.stringAtoms, List.mem_cons, List.not_mem_nil, or_false] at hd
    rcases hd with rfl | rfl | rfl | rfl | rfl | rfl | rfl
    · exact (hw _ (List.mem_of_getElem? (i := 2) rfl))
    · exact (hw _ (List.mem_of_getElem? (i := 10) rfl))
    · exact (hw _ (List.mem_of_getElem? (i := 14) rfl))
    · exact (hw _ (List.mem_of_getElem? (i := 23) rfl))
    · exact (hw _ (List.mem_of_getElem? (i := 25) rfl))
    · exact (hw _ (List.mem_of_getElem? (i := 32) rfl))
    · exact (hw _ (List.mem_of_getElem? (i := 33) rfl))
  obtain ⟨cs, T120, h120, k1, X120, e120, E120, hSs, hk1, hZ, hown, st120⟩ := ldcS (s := s) (vm0 := s.vm) X117 hx hZ hown (hw _ (List.mem_of_getElem? (i := 31) rfl)) wS120 e117 (k0 := 0) ((State.WarmedH.refl s).since 0) (Nat.zero_le _) (g := (mkF m 122 #[.val (.int p1), .val (.int p2), .val (.int p3), .val (.int p4), .val (.int (p1 &&& (3 : Int32))), .val (.ref bs0), .val (.ref bs1), .val (.ref bs2), .val (.ref br), .unset, .unset] [(.ref ba), (.ref ba)])) rfl (hb hby at_122) (n := 12) (by decide) (by decide) (by decide) (by decide)
  have E_bs0_120 := E_bs0_117.ext E120
  have E_bs1_120 := E_bs1_117.ext E120
  have E_bs2_120 := E_bs2_117.ext E120
  have V_br_120 := V_br_117.ext E120
  have X_br_120 := X_br_117.ext E120
  have E_ba_120 := E_ba.ext E120
  have F_command_ba_120 := F_command_ba.ext E120
  have F_args_ba_120 := F_args_ba.ext E120
  have F_next_ba_120 := F_next_ba.ext E120
  have KK120 := KK117.ext E120
  have hkk : Keep h120 h120 [] := Keep.refl _ _
  have pre121 : ∀ t, Steps p.tables e below (T120.setTop (mkF m 124 #[.val (.int p1), .val (.int p2), .val (.int p3), .val (.int p4), .val (.int (p1 &&& (3 : Int32))), .val (.ref bs0), .val (.ref bs1), .val (.ref bs2), .val (.ref br), .unset, .unset] [(.ref cs), (.ref ba), (.ref ba)])) t → Steps p.tables e below (s₁.setTop (entryFrame m #[(.int p1), (.int p2), (.int p3), (.int p4)] maxLocals)) t := fun t k => pre119 t (by
    show Steps p.tables e below (T117.setTop (mkF m 122 #[.val (.int p1), .val (.int p2), .val (.int p3), .val (.int p4), .val (.int (p1 &&& (3 : Int32))), .val (.ref bs0), .val (.ref bs1), .val (.ref bs2), .val (.ref br), .unset, .unset] [(.ref ba), (.ref ba)])) t
    refine st120 _ ?_
    show Steps p.tables e below (T120.setTop (mkF m 124 #[.val (.int p1), .val (.int p2), .val (.int p3), .val (.int p4), .val (.int (p1 &&& (3 : Int32))), .val (.ref bs0), .val (.ref bs1), .val (.ref bs2), .val (.ref br), .unset, .unset] [(.ref cs), (.ref ba), (.ref ba)])) t
    exact k)
  have pre122 : ∀ t, Steps p.tables e below (T120.setTop (mkF m 126 #[.val (.int p1), .val (.int p2), .val (.int p3), .val (.int p4), .val (.int (p1 &&& (3 : Int32))), .val (.ref bs0), .val (.ref bs1), .val (.ref bs2), .val (.ref br), .unset, .unset] [(.ref br), (.ref cs), (.ref ba), (.ref ba)])) t → Steps p.tables e below (s₁.setTop (entryFrame m #[(.int p1), (.int p2), (.int p3), (.int p4)] maxLocals)) t := fun t k => pre121 t (by
    show Steps p.tables e below (T120.setTop (mkF m 124 #[.val (.int p1), .val (.int p2), .val (.int p3), .val (.int p4), .val (.int (p1 &&& (3 : Int32))), .val (.ref bs0), .val (.ref bs1), .val (.ref bs2), .val (.ref br), .unset, .unset] [(.ref cs), (.ref ba), (.ref ba)])) _
    refine XS.aload X120.here hx rfl (hb hby at_124) rfl rfl ?_
    show Steps p.tables e below (T120.setTop (mkF m 126 #[.val (.int p1), .val (.int p2), .val (.int p3), .val (.int p4), .val (.int (p1 &&& (3 : Int32))), .val (.ref bs0), .val (.ref bs1), .val (.ref bs2), .val (.ref br), .unset, .unset] [(.ref br), (.ref cs), (.ref ba), (.ref ba)])) _
    exact k)
  obtain ⟨_, _, ⟨T123, L123, k123, n123⟩, -, X123, ⟨Lc123, hQ123, l123, y123, z123⟩, st123⟩ := X120.specialBack hx (y := (⟨"com/example/arcsieve/arcsieve/Arguments", "<init>", "(Ljava/lang/String;[Ljava/lang/String;)V"⟩ : MethodName)) rfl hown (mvT hZ (hw _ (List.mem_of_getElem? (i := 34) rfl))) (mvT hZ (hw _ (List.mem_of_getElem? (i := 35) rfl))) (mvT hZ (hw _ (List.mem_of_getElem? (i := 36) rfl))) (by decide) (backOf (W := 1) (rm6 l Z a0 hw [] ba cs br k105 (3 : Int32) [(.ref bs0), (.ref bs1), (.ref bs2)] h120 n0 (Nat.le_trans Z0 KK120.1) E_ba_120 F_command_ba_120 F_args_ba_120 F_next_ba_120 V_br_120 X_br_120 (by decide) g_ba o_br_ba) hZ (hw _ (List.mem_of_getElem? (i := 36) rfl)) (hw _ (List.mem_of_getElem? (i := 30) rfl)) (by decide) (by decide)) (g := (mkF m 126 #[.val (.int p1), .val (.int p2), .val (.int p3), .val (.int p4), .val (.int (p1 &&& (3 : Int32))), .val (.ref bs0), .val (.ref bs1), .val (.ref bs2), .val (.ref br), .unset, .unset] [(.ref br), (.ref cs), (.ref ba), (.ref ba)])) rfl (by rw [hml]; rfl) (Steps.refl _) (a := ba) (argsL := [(.ref cs), (.ref br)]) (rest := [(.ref ba)]) (lenOf pdx_4 rfl) rfl (by show 2 * 0 + _ ≤ _; exact Nat.le_of_eq rfl) (hb hby at_126) (fun _ _ => ⟨rfl, e120, (by decide : 10 + 1 ≤ _), (by decide : 37 + 3 ≤ _)⟩)
  dsimp only [Pt.U, Pt.locs, Pt.cells, Pt.slots] at X123 l123 y123 z123 st123 hQ123
  subst l123 y123 z123
  obtain ⟨bc, rfl, N123q, s123, K123, Ex123, Fa123, Fn123, Vc123⟩ := hQ123
  have N123 := Fr.app N114 N123q
  have pre124 : ∀ t, Steps p.tables e below (T123.setTop (mkF m 129 #[.val (.int p1), .val (.int p2), .val (.int p3), .val (.int p4), .val (.int (p1 &&& (3 : Int32))), .val (.ref bs0), .val (.ref bs1), .val (.ref bs2), .val (.ref br), .unset, .unset] [(.ref ba)])) t → Steps p.tables e below (s₁.setTop (entryFrame m #[(.int p1), (.int p2), (.int p3), (.int p4)] maxLocals)) t := fun t k => pre122 t (by
    show Steps p.tables e below (T120.setTop (mkF m 126 #[.val (.int p1), .val (.int p2), .val (.int p3), .val (.int p4), .val (.int (p1 &&& (3 : Int32))), .val (.ref bs0), .val (.ref bs1), .val (.ref bs2), .val (.ref br), .unset, .unset] [(.ref br), (.ref cs), (.ref ba), (.ref ba)])) t
    refine st123.trans ?_
    show Steps p.tables e below (T123.setTop (mkF m 129 #[.val (.int p1), .val (.int p2), .val (.int p3), .val (.int p4), .val (.int (p1 &&& (3 : Int32))), .val (.ref bs0), .val (.ref bs1), .val (.ref bs2), .val (.ref br), .unset, .unset] [(.ref ba)])) t
    exact k)
  have o_bs0_bc : bs0 < bc := Nat.lt_of_lt_of_le E_bs0_120.lt s123
  have o_bs1_bc : bs1 < bc := Nat.lt_of_lt_of_le E_bs1_120.lt s123
  have o_bs2_bc : bs2 < bc := Nat.lt_of_lt_of_le E_bs2_120.lt s123
  have o_ba_bc : ba < bc := Nat.lt_of_lt_of_le E_ba_120.lt s123
  have g_bc : n0 ≤ bc := Nat.le_trans Z0 (Nat.le_trans KK120.1 s123)
  have sz_bc : h0.size ≤ bc := Nat.le_trans KK120.1 s123
  have E_bs0_123 := E_bs0_120.keep K123
  have E_bs1_123 := E_bs1_120.keep K123
  have E_bs2_123 := E_bs2_120.keep K123
  have E_ba_123 := E_ba_120.keep K123
  have KK123 := KK120.trans K123 (own_k1 (Or.inr sz_ba))
  have hkk123 := Nat.le_trans hk1 K123.1
  have pre125 : ∀ t, Steps p.tables e below (T123.setTop (mkF m 133 #[.val (.int p1), .val (.int p2), .val (.int p3), .val (.int p4), .val (.int (p1 &&& (3 : Int32))), .val (.ref bs0), .val (.ref bs1), .val (.ref bs2), .val (.ref br), .val (.ref ba), .unset] [(.ref ba)])) t → Steps p.tables e below (s₁.setTop (entryFrame m #[(.int p1), (.int p2), (.int p3), (.int p4)] maxLocals)) t := fun t k => pre124 t (by
    show Steps p.tables e below (T123.setTop (mkF m 129 #[.val (.int p1), .val (.int p2), .val (.int p3), .val (.int p4), .val (.int (p1 &&& (3 : Int32))), .val (.ref bs0), .val (.ref bs1), .val (.ref bs2), .val (.ref br), .unset, .unset] [(.ref ba)])) _
    refine XS.astore X123.here hx rfl (hb hby at_129) rfl rfl (l' := #[.val (.int p1), .val (.int p2), .val (.int p3), .val (.int p4), .val (.int (p1 &&& (3 : Int32))), .val (.ref bs0), .val (.ref bs1), .val (.ref bs2), .val (.ref br), .val (.ref ba), .unset]) rfl ?_
    show Steps p.tables e below (T123.setTop (mkF m 131 #[.val (.int p1), .val (.int p2), .val (.int p3), .val (.int p4), .val (.int (p1 &&& (3 : Int32))), .val (.ref bs0), .val (.ref bs1), .val (.ref bs2), .val (.ref br), .val (.ref ba), .unset] [])) _
    refine XS.aload X123.here hx rfl (hb hby at_131) rfl rfl ?_
    show Steps p.tables e below (T123.setTop (mkF m 133 #[.val (.int p1), .val (.int p2), .val (.int p3), .val (.int p4), .val (.int (p1 &&& (3 : Int32))), .val (.ref bs0), .val (.ref bs1), .val (.ref bs2), .val (.ref br), .val (.ref ba), .unset] [(.ref ba)])) _
    exact k)
  obtain ⟨cq126, kq126, q126a, q126b, q126c⟩ := isOf hZ rfl E_ba_123
  obtain ⟨_, _, ⟨T126, L126, k126, n126⟩, -, X126, ⟨Lc126, hQ126, l126, y126, z126⟩, st126⟩ := X123.virtualBack hx (y := (⟨"com/example/arcsieve/arcsieve/Arguments", "hasNext", "()Z"⟩ : MethodName)) (z := (⟨"com/example/arcsieve/arcsieve/Arguments", "hasNext", "()Z"⟩ : MethodName)) hown (mvT hZ (hw _ (List.mem_of_getElem? (i := 51) rfl))) (mvT hZ (hw _ (List.mem_of_getElem? (i := 52) rfl))) (notFace_of_selects (args := #[]) (mvT hZ (hw _ (List.mem_of_getElem? (i := 54) rfl)))) (mvT hZ (hw _ (List.mem_of_getElem? (i := 54) rfl))) (mvT hZ (hw _ (List.mem_of_getElem? (i := 53) rfl))) (by decide) (backOf (W := 0) (rm7 l Z a0 hw [] ba bc (0 : Int32) k105 (3 : Int32) [(.ref bs0), (.ref bs1), (.ref bs2)] T123.heap n0 (Nat.le_trans Z0 KK123.1) Fn123 Fa123 Vc123) hZ (hw _ (List.mem_of_getElem? (i := 55) rfl)) (hw _ (List.mem_of_getElem? (i := 30) rfl)) (by decide) (by decide)) q126a q126c (g := (mkF m 133 #[.val (.int p1), .val (.int p2), .val (.int p3), .val (.int p4), .val (.int (p1 &&& (3 : Int32))), .val (.ref bs0), .val (.ref bs1), .val (.ref bs2), .val (.ref br), .val (.ref ba), .unset] [(.ref ba)])) rfl (by rw [hml]; rfl) (Steps.refl _) (argsL := []) (rest := []) (lenOf pdx_5 rfl) rfl (by show 2 * 0 + _ ≤ _; exact Nat.le_of_eq rfl) (hb hby at_133) (fun _ _ => ⟨rfl, rfl, (by decide : 11 + 0 ≤ _), (by decide : 40 + 0 ≤ _)⟩)
  dsimp only [Pt.U, Pt.locs, Pt.cells, Pt.slots] at X126 l126 y126 z126 st126 hQ126
  subst l126 y126 z126
  obtain ⟨rfl, N126q, e126⟩ := hQ126
  have N126 := Fr.app N123 N126q
  have pre127 : ∀ t, Steps p.tables e below (T126.setTop (mkF m 136 #[.val (.int p1), .val (.int p2), .val (.int p3), .val (.int p4), .val (.int (p1 &&& (3 : Int32))), .val (.ref bs0), .val (.ref bs1), .val (.ref bs2), .val (.ref br), .val (.ref ba), .unset] [(.int (own_has (0 : Int32) (3 : Int32)))])) t → Steps p.tables e below (s₁.setTop (entryFrame m #[(.int p1), (.int p2), (.int p3), (.int p4)] maxLocals)) t := fun t k => pre125 t (by
    show Steps p.tables e below (T123.setTop (mkF m 133 #[.val (.int p1), .val (.int p2), .val (.int p3), .val (.int p4), .val (.int (p1 &&& (3 : Int32))), .val (.ref bs0), .val (.ref bs1), .val (.ref bs2), .val (.ref br), .val (.ref ba), .unset] [(.ref ba)])) t
    refine st126.trans ?_
    show Steps p.tables e below (T126.setTop (mkF m 136 #[.val (.int p1), .val (.int p2), .val (.int p3), .val (.int p4), .val (.int (p1 &&& (3 : Int32))), .val (.ref bs0), .val (.ref bs1), .val (.ref bs2), .val (.ref br), .val (.ref ba), .unset] [(.int (own_has (0 : Int32) (3 : Int32)))])) t
    exact k)
  have pre128 : ∀ t, Steps p.tables e below (T126.setTop (mkF m 160 #[.val (.int p1), .val (.int p2), .val (.int p3), .val (.int p4), .val (.int (p1 &&& (3 : Int32))), .val (.ref bs0), .val (.ref bs1), .val (.ref bs2), .val (.ref br), .val (.ref ba), .val (.int (1 : Int32))] [(.ref ba), (.int (1 : Int32))])) t → Steps p.tables e below (s₁.setTop (entryFrame m #[(.int p1), (.int p2), (.int p3), (.int p4)] maxLocals)) t := fun t k => pre127 t (by
    show Steps p.tables e below (T126.setTop (mkF m 136 #[.val (.int p1), .val (.int p2), .val (.int p3), .val (.int p4), .val (.int (p1 &&& (3 : Int32))), .val (.ref bs0), .val (.ref bs1), .val (.ref bs2), .val (.ref br), .val (.ref ba), .unset] [(.int (own_has (0 : Int32) (3 : Int32)))])) _
    refine XS.iload X126.here hx rfl (hb hby at_136) rfl ?_
    show Steps p.tables e below (T126.setTop (mkF m 138 #[.val (.int p1), .val (.int p2), .val (.int p3), .val (.int p4), .val (.int (p1 &&& (3 : Int32))), .val (.ref bs0), .val (.ref bs1), .val (.ref bs2), .val (.ref br), .val (.ref ba), .unset] [(.int (p1 &&& (3 : Int32))), (.int (own_has (0 : Int32) (3 : Int32)))])) _
    refine XS.ifNo X126.here hx rfl (hb hby at_138) rfl ((if0 _ _).trans (tlt (by rw [hn]; decide)).2.2.2) ?_
    show Steps p.tables e below (T126.setTop (mkF m 141 #[.val (.int p1), .val (.int p2), .val (.int p3), .val (.int p4), .val (.int (p1 &&& (3 : Int32))), .val (.ref bs0), .val (.ref bs1), .val (.ref bs2), .val (.ref br), .val (.ref ba), .unset] [(.int (own_has (0 : Int32) (3 : Int32)))])) _
    refine XS.iconst X126.here hx rfl (hb hby at_141) ?_
    show Steps p.tables e below (T126.setTop (mkF m 142 #[.val (.int p1), .val (.int p2), .val (.int p3), .val (.int p4), .val (.int (p1 &&& (3 : Int32))), .val (.ref bs0), .val (.ref bs1), .val (.ref bs2), .val (.ref br), .val (.ref ba), .unset] [(.int (1 : Int32)), (.int (own_has (0 : Int32) (3 : Int32)))])) _
    refine XS.goto X126.here hx rfl (pc0 := 142) (pc' := 146) rfl (hb hby at_142) (by decide) (by decide) ?_
    show Steps p.tables e below (T126.setTop (mkF m 146 #[.val (.int p1), .val (.int p2), .val (.int p3), .val (.int p4), .val (.int (p1 &&& (3 : Int32))), .val (.ref bs0), .val (.ref bs1), .val (.ref bs2), .val (.ref br), .val (.ref ba), .unset] [(.int (1 : Int32)), (.int (own_has (0 : Int32) (3 : Int32)))])) _
    refine XS.icmpNo X126.here hx rfl (hb hby at_146) rfl (teq (by decide)).2 ?_
    show Steps p.tables e below (T126.setTop (mkF m 149 #[.val (.int p1), .val (.int p2), .val (.int p3), .val (.int p4), .val (.int (p1 &&& (3 : Int32))), .val (.ref bs0), .val (.ref bs1), .val (.ref bs2), .val (.ref br), .val (.ref ba), .unset] [])) _
    refine XS.iconst X126.here hx rfl (hb hby at_149) ?_
    show Steps p.tables e below (T126.setTop (mkF m 150 #[.val (.int p1), .val (.int p2), .val (.int p3), .val (.int p4), .val (.int (p1 &&& (3 : Int32))), .val (.ref bs0), .val (.ref bs1), .val (.ref bs2), .val (.ref br), .val (.ref ba), .unset] [(.int (1 : Int32))])) _
    refine XS.goto X126.here hx rfl (pc0 := 150) (pc' := 154) rfl (hb hby at_150) (by decide) (by decide) ?_
    show Steps p.tables e below (T126.setTop (mkF m 154 #[.val (.int p1), .val (.int p2), .val (.int p3), .val (.int p4), .val (.int (p1 &&& (3 : Int32))), .val (.ref bs0), .val (.ref bs1), .val (.ref bs2), .val (.ref br), .val (.ref ba), .unset] [(.int (1 : Int32))])) _
    refine XS.istore X126.here hx rfl (hb hby at_154) rfl (l' := #[.val (.int p1), .val (.int p2), .val (.int p3), .val (.int p4), .val (.int (p1 &&& (3 : Int32))), .val (.ref bs0), .val (.ref bs1), .val (.ref bs2), .val (.ref br), .val (.ref ba), .val (.int (1 : Int32))]) rfl ?_
    show Steps p.tables e below (T126.setTop (mkF m 156 #[.val (.int p1), .val (.int p2), .val (.int p3), .val (.int p4), .val (.int (p1 &&& (3 : Int32))), .val (.ref bs0), .val (.ref bs1), .val (.ref bs2), .val (.ref br), .val (.ref ba), .val (.int (1 : Int32))] [])) _
    refine XS.iload X126.here hx rfl (hb hby at_156) rfl ?_
    show Steps p.tables e below (T126.setTop (mkF m 158 #[.val (.int p1), .val (.int p2), .val (.int p3), .val (.int p4), .val (.int (p1 &&& (3 : Int32))), .val (.ref bs0), .val (.ref bs1), .val (.ref bs2), .val (.ref br), .val (.ref ba), .val (.int (1 : Int32))] [(.int (1 : Int32))])) _
    refine XS.aload X126.here hx rfl (hb hby at_158) rfl rfl ?_
    show Steps p.tables e below (T126.setTop (mkF m 160 #[.val (.int p1), .val (.int p2), .val (.int p3), .val (.int p4), .val (.int (p1 &&& (3 : Int32))), .val (.ref bs0), .val (.ref bs1), .val (.ref bs2), .val (.ref br), .val (.ref ba), .val (.int (1 : Int32))] [(.ref ba), (.int (1 : Int32))])) _
    exact k)
  obtain ⟨cq129, kq129, q129a, q129b, q129c⟩ := isOf hZ e126 E_ba_123
  obtain ⟨_, _, ⟨T129, L129, k129, n129⟩, -, X129, ⟨Lc129, hQ129, l129, y129, z129⟩, st129⟩ := X126.virtualBack hx (y := (⟨"com/example/arcsieve/arcsieve/Arguments", "hasNext", "()Z"⟩ : MethodName)) (z := (⟨"com/example/arcsieve/arcsieve/Arguments", "hasNext", "()Z"⟩ : MethodName)) hown (mvT hZ (hw _ (List.mem_of_getElem? (i := 51) rfl))) (mvT hZ (hw _ (List.mem_of_getElem? (i := 52) rfl))) (notFace_of_selects (args := #[]) (mvT hZ (hw _ (List.mem_of_getElem? (i := 54) rfl)))) (mvT hZ (hw _ (List.mem_of_getElem? (i := 54) rfl))) (mvT hZ (hw _ (List.mem_of_getElem? (i := 53) rfl))) (by decide) (backOf (W := 1) (rm7 l Z a0 hw [] ba bc (0 : Int32) k105 (3 : Int32) [(.ref bs0), (.ref bs1), (.ref bs2)] T123.heap n0 (Nat.le_trans Z0 KK123.1) Fn123 Fa123 Vc123) hZ (hw _ (List.mem_of_getElem? (i := 55) rfl)) (hw _ (List.mem_of_getElem? (i := 30) rfl)) (by decide) (by decide)) q129a q129c (g := (mkF m 160 #[.val (.int p1), .val (.int p2), .val (.int p3), .val (.int p4), .val (.int (p1 &&& (3 : Int32))), .val (.ref bs0), .val (.ref bs1), .val (.ref bs2), .val (.ref br), .val (.ref ba), .val (.int (1 : Int32))] [(.ref ba), (.int (1 : Int32))])) rfl (by rw [hml]; rfl) (Steps.refl _) (argsL := []) (rest := [(.int (1 : Int32))]) (lenOf pdx_5 rfl) rfl (by show 2 * 0 + _ ≤ _; exact Nat.le_of_eq rfl) (hb hby at_160) (fun _ _ => ⟨rfl, e126, (by decide : 11 + 0 ≤ _), (by decide : 40 + 0 ≤ _)⟩)
  dsimp only [Pt.U, Pt.locs, Pt.cells, Pt.slots] at X129 l129 y129 z129 st129 hQ129
  subst l129 y129 z129
  obtain ⟨rfl, N129q, e129⟩ := hQ129
  have N129 := Fr.app N126 N129q
  have pre130 : ∀ t, Steps p.tables e below (T129.setTop (mkF m 163 #[.val (.int p1), .val (.int p2), .val (.int p3), .val (.int p4), .val (.int (p1 &&& (3 : Int32))), .val (.ref bs0), .val (.ref bs1), .val (.ref bs2), .val (.ref br), .val (.ref ba), .val (.int (1 : Int32))] [(.int (own_has (0 : Int32) (3 : Int32))), (.int (1 : Int32))])) t → Steps p.tables e below (s₁.setTop (entryFrame m #[(.int p1), (.int p2), (.int p3), (.int p4)] maxLocals)) t := fun t k => pre128 t (by
    show Steps p.tables e below (T126.setTop (mkF m 160 #[.val (.int p1), .val (.int p2), .val (.int p3), .val (.int p4), .val (.int (p1 &&& (3 : Int32))), .val (.ref bs0), .val (.ref bs1), .val (.ref bs2), .val (.ref br), .val (.ref ba), .val (.int (1 : Int32))] [(.ref ba), (.int (1 : Int32))])) t
    refine st129.trans ?_
    show Steps p.tables e below (T129.setTop (mkF m 163 #[.val (.int p1), .val (.int p2), .val (.int p3), .val (.int p4), .val (.int (p1 &&& (3 : Int32))), .val (.ref bs0), .val (.ref bs1), .val (.ref bs2), .val (.ref br), .val (.ref ba), .val (.int (1 : Int32))] [(.int (own_has (0 : Int32) (3 : Int32))), (.int (1 : Int32))])) t
    exact k)
  have pre131 : ∀ t, Steps p.tables e below (T129.setTop (mkF m 195 #[.val (.int p1), .val (.int p2), .val (.int p3), .val (.int p4), .val (.int (p1 &&& (3 : Int32))), .val (.ref bs0), .val (.ref bs1), .val (.ref bs2), .val (.ref br), .val (.ref ba), .val (.int ((1 : Int32) &&& (1 : Int32)))] [(.ref ba), (.ref bs0), (.int ((1 : Int32) &&& (1 : Int32)))])) t → Steps p.tables e below (s₁.setTop (entryFrame m #[(.int p1), (.int p2), (.int p3), (.int p4)] maxLocals)) t := fun t k => pre130 t (by
    show Steps p.tables e below (T129.setTop (mkF m 163 #[.val (.int p1), .val (.int p2), .val (.int p3), .val (.int p4), .val (.int (p1 &&& (3 : Int32))), .val (.ref bs0), .val (.ref bs1), .val (.ref bs2), .val (.ref br), .val (.ref ba), .val (.int (1 : Int32))] [(.int (own_has (0 : Int32) (3 : Int32))), (.int (1 : Int32))])) _
    refine XS.iload X129.here hx rfl (hb hby at_163) rfl ?_
    show Steps p.tables e below (T129.setTop (mkF m 165 #[.val (.int p1), .val (.int p2), .val (.int p3), .val (.int p4), .val (.int (p1 &&& (3 : Int32))), .val (.ref bs0), .val (.ref bs1), .val (.ref bs2), .val (.ref br), .val (.ref ba), .val (.int (1 : Int32))] [(.int (p1 &&& (3 : Int32))), (.int (own_has (0 : Int32) (3 : Int32))), (.int (1 : Int32))])) _
    refine XS.ifNo X129.here hx rfl (hb hby at_165) rfl ((if0 _ _).trans (tlt (by rw [hn]; decide)).2.2.2) ?_
    show Steps p.tables e below (T129.setTop (mkF m 168 #[.val (.int p1), .val (.int p2), .val (.int p3), .val (.int p4), .val (.int (p1 &&& (3 : Int32))), .val (.ref bs0), .val (.ref bs1), .val (.ref bs2), .val (.ref br), .val (.ref ba), .val (.int (1 : Int32))] [(.int (own_has (0 : Int32) (3 : Int32))), (.int (1 : Int32))])) _
    refine XS.iconst X129.here hx rfl (hb hby at_168) ?_
    show Steps p.tables e below (T129.setTop (mkF m 169 #[.val (.int p1), .val (.int p2), .val (.int p3), .val (.int p4), .val (.int (p1 &&& (3 : Int32))), .val (.ref bs0), .val (.ref bs1), .val (.ref bs2), .val (.ref br), .val (.ref ba), .val (.int (1 : Int32))] [(.int (1 : Int32)), (.int (own_has (0 : Int32) (3 : Int32))), (.int (1 : Int32))])) _
    refine XS.goto X129.here hx rfl (pc0 := 169) (pc' := 173) rfl (hb hby at_169) (by decide) (by decide) ?_
    show Steps p.tables e below (T129.setTop (mkF m 173 #[.val (.int p1), .val (.int p2), .val (.int p3), .val (.int p4), .val (.int (p1 &&& (3 : Int32))), .val (.ref bs0), .val (.ref bs1), .val (.ref bs2), .val (.ref br), .val (.ref ba), .val (.int (1 : Int32))] [(.int (1 : Int32)), (.int (own_has (0 : Int32) (3 : Int32))), (.int (1 : Int32))])) _
    refine XS.icmpNo X129.here hx rfl (hb hby at_173) rfl (teq (by decide)).2 ?_
    show Steps p.tables e below (T129.setTop (mkF m 176 #[.val (.int p1), .val (.int p2), .val (.int p3), .val (.int p4), .val (.int (p1 &&& (3 : Int32))), .val (.ref bs0), .val (.ref bs1), .val (.ref bs2), .val (.ref br), .val (.ref ba), .val (.int (1 : Int32))] [(.int (1 : Int32))])) _
    refine XS.iconst X129.here hx rfl (hb hby at_176) ?_
    show Steps p.tables e below (T129.setTop (mkF m 177 #[.val (.int p1), .val (.int p2), .val (.int p3), .val (.int p4), .val (.int (p1 &&& (3 : Int32))), .val (.ref bs0), .val (.ref bs1), .val (.ref bs2), .val (.ref br), .val (.ref ba), .val (.int (1 : Int32))] [(.int (1 : Int32)), (.int (1 : Int32))])) _
    refine XS.goto X129.here hx rfl (pc0 := 177) (pc' := 181) rfl (hb hby at_177) (by decide) (by decide) ?_
    show Steps p.tables e below (T129.setTop (mkF m 181 #[.val (.int p1), .val (.int p2), .val (.int p3), .val (.int p4), .val (.int (p1 &&& (3 : Int32))), .val (.ref bs0), .val (.ref bs1), .val (.ref bs2), .val (.ref br), .val (.ref ba), .val (.int (1 : Int32))] [(.int (1 : Int32)), (.int (1 : Int32))])) _
    refine XS.iand X129.here hx rfl (hb hby at_181) rfl ?_
    show Steps p.tables e below (T129.setTop (mkF m 182 #[.val (.int p1), .val (.int p2), .val (.int p3), .val (.int p4), .val (.int (p1 &&& (3 : Int32))), .val (.ref bs0), .val (.ref bs1), .val (.ref bs2), .val (.ref br), .val (.ref ba), .val (.int (1 : Int32))] [(.int ((1 : Int32) &&& (1 : Int32)))])) _
    refine XS.istore X129.here hx rfl (hb hby at_182) rfl (l' := #[.val (.int p1), .val (.int p2), .val (.int p3), .val (.int p4), .val (.int (p1 &&& (3 : Int32))), .val (.ref bs0), .val (.ref bs1), .val (.ref bs2), .val (.ref br), .val (.ref ba), .val (.int ((1 : Int32) &&& (1 : Int32)))]) rfl ?_
    show Steps p.tables e below (T129.setTop (mkF m 184 #[.val (.int p1), .val (.int p2), .val (.int p3), .val (.int p4), .val (.int (p1 &&& (3 : Int32))), .val (.ref bs0), .val (.ref bs1), .val (.ref bs2), .val (.ref br), .val (.ref ba), .val (.int ((1 : Int32) &&& (1 : Int32)))] [])) _
    refine XS.iload X129.here hx rfl (hb hby at_184) rfl ?_
    show Steps p.tables e below (T129.setTop (mkF m 186 #[.val (.int p1), .val (.int p2), .val (.int p3), .val (.int p4), .val (.int (p1 &&& (3 : Int32))), .val (.ref bs0), .val (.ref bs1), .val (.ref bs2), .val (.ref br), .val (.ref ba), .val (.int ((1 : Int32) &&& (1 : Int32)))] [(.int (p1 &&& (3 : Int32)))])) _
    refine XS.ifNo X129.here hx rfl (hb hby at_186) rfl ((if0 _ _).trans (tlt (by rw [hn]; decide)).2.2.2) ?_
    show Steps p.tables e below (T129.setTop (mkF m 189 #[.val (.int p1), .val (.int p2), .val (.int p3), .val (.int p4), .val (.int (p1 &&& (3 : Int32))), .val (.ref bs0), .val (.ref bs1), .val (.ref bs2), .val (.ref br), .val (.ref ba), .val (.int ((1 : Int32) &&& (1 : Int32)))] [])) _
    refine XS.iload X129.here hx rfl (hb hby at_189) rfl ?_
    show Steps p.tables e below (T129.setTop (mkF m 191 #[.val (.int p1), .val (.int p2), .val (.int p3), .val (.int p4), .val (.int (p1 &&& (3 : Int32))), .val (.ref bs0), .val (.ref bs1), .val (.ref bs2), .val (.ref br), .val (.ref ba), .val (.int ((1 : Int32) &&& (1 : Int32)))] [(.int ((1 : Int32) &&& (1 : Int32)))])) _
    refine XS.aload X129.here hx rfl (hb hby at_191) rfl rfl ?_
    show Steps p.tables e below (T129.setTop (mkF m 193 #[.val (.int p1), .val (.int p2), .val (.int p3), .val (.int p4), .val (.int (p1 &&& (3 : Int32))), .val (.ref bs0), .val (.ref bs1), .val (.ref bs2), .val (.ref br), .val (.ref ba), .val (.int ((1 : Int32) &&& (1 : Int32)))] [(.ref bs0), (.int ((1 : Int32) &&& (1 : Int32)))])) _
    refine XS.aload X129.here hx rfl (hb hby at_193) rfl rfl ?_
    show Steps p.tables e below (T129.setTop (mkF m 195 #[.val (.int p1), .val (.int p2), .val (.int p3), .val (.int p4), .val (.int (p1 &&& (3 : Int32))), .val (.ref bs0), .val (.ref bs1), .val (.ref bs2), .val (.ref br), .val (.ref ba), .val (.int ((1 : Int32) &&& (1 : Int32)))] [(.ref ba), (.ref bs0), (.int ((1 : Int32) &&& (1 : Int32)))])) _
    exact k)
  obtain ⟨cq132, kq132, q132a, q132b, q132c⟩ := isOf hZ e129 E_ba_123
  obtain ⟨_, _, ⟨T132, L132, k132, n132⟩, -, X132, ⟨Lc132, hQ132, l132, y132, z132⟩, st132⟩ := X129.virtualBack hx (y := (⟨"com/example/arcsieve/arcsieve/Arguments", "next", "()Ljava/lang/String;"⟩ : MethodName)) (z := (⟨"com/example/arcsieve/arcsieve/Arguments", "next", "()Ljava/lang/String;"⟩ : MethodName)) hown (mvT hZ (hw _ (List.mem_of_getElem? (i := 58) rfl))) (mvT hZ (hw _ (List.mem_of_getElem? (i := 59) rfl))) (notFace_of_selects (args := #[]) (mvT hZ (hw _ (List.mem_of_getElem? (i := 61) rfl)))) (mvT hZ (hw _ (List.mem_of_getElem? (i := 61) rfl))) (mvT hZ (hw _ (List.mem_of_getElem? (i := 60) rfl))) (by decide) (backOf (W := 2) (rm8 l Z a0 hw [] ba bc bs0 (0 : Int32) k105 (3 : Int32) [(.ref bs0), (.ref bs1), (.ref bs2)] T123.heap n0 (Nat.le_trans Z0 KK123.1) E_ba_123 Fn123 Fa123 Vc123 ⟨by decide, by decide⟩ rfl g_ba o_ba_bc) hZ (hw _ (List.mem_of_getElem? (i := 62) rfl)) (hw _ (List.mem_of_getElem? (i := 30) rfl)) (by decide) (by decide)) q132a q132c (g := (mkF m 195 #[.val (.int p1), .val (.int p2), .val (.int p3), .val (.int p4), .val (.int (p1 &&& (3 : Int32))), .val (.ref bs0), .val (.ref bs1), .val (.ref bs2), .val (.ref br), .val (.ref ba), .val (.int ((1 : Int32) &&& (1 : Int32)))] [(.ref ba), (.ref bs0), (.int ((1 : Int32) &&& (1 : Int32)))])) rfl (by rw [hml]; rfl) (Steps.refl _) (argsL := []) (rest := [(.ref bs0), (.int ((1 : Int32) &&& (1 : Int32)))]) (lenOf pdx_6 rfl) rfl (by show 2 * 0 + _ ≤ _; exact Nat.le_of_eq rfl) (hb hby at_195) (fun _ _ => ⟨rfl, e129, (by decide : 11 + 0 ≤ _), (by decide : 40 + 0 ≤ _)⟩)
  dsimp only [Pt.U, Pt.locs, Pt.cells, Pt.slots] at X132 l132 y132 z132 st132 hQ132
  subst l132 y132 z132
  obtain ⟨rfl, N132q, K132, Fn132, Fa132⟩ := hQ132
  have N132 := Fr.app N129 N132q
  have pre133 : ∀ t, Steps p.tables e below (T132.setTop (mkF m 198 #[.val (.int p1), .val (.int p2), .val (.int p3), .val (.int p4), .val (.int (p1 &&& (3 : Int32))), .val (.ref bs0), .val (.ref bs1), .val (.ref bs2), .val (.ref br), .val (.ref ba), .val (.int ((1 : Int32) &&& (1 : Int32)))] [(.ref bs0), (.ref bs0), (.int ((1 : Int32) &&& (1 : Int32)))])) t → Steps p.tables e below (s₁.setTop (entryFrame m #[(.int p1), (.int p2), (.int p3), (.int p4)] maxLocals)) t := fun t k => pre131 t (by
    show Steps p.tables e below (T129.setTop (mkF m 195 #[.val (.int p1), .val (.int p2), .val (.int p3), .val (.int p4), .val (.int (p1 &&& (3 : Int32))), .val (.ref bs0), .val (.ref bs1), .val (.ref bs2), .val (.ref br), .val (.ref ba), .val (.int ((1 : Int32) &&& (1 : Int32)))] [(.ref ba), (.ref bs0), (.int ((1 : Int32) &&& (1 : Int32)))])) t
    refine st132.trans ?_
    show Steps p.tables e below (T132.setTop (mkF m 198 #[.val (.int p1), .val (.int p2), .val (.int p3), .val (.int p4), .val (.int (p1 &&& (3 : Int32))), .val (.ref bs0), .val (.ref bs1), .val (.ref bs2), .val (.ref br), .val (.ref ba), .val (.int ((1 : Int32) &&& (1 : Int32)))] [(.ref bs0), (.ref bs0), (.int ((1 : Int32) &&& (1 : Int32)))])) t
    exact k)
  have E_bs0_132 := E_bs0_123.keep K132
  have E_bs1_132 := E_bs1_123.keep K132
  have E_bs2_132 := E_bs2_123.keep K132
  have E_ba_132 := E_ba_123.keep K132
  have Vc123_132 := Vc123.keep K132 (List.not_mem_cons_of_ne_of_not_mem (Nat.ne_of_gt o_ba_bc) List.not_mem_nil)
  have KK132 := KK123.trans K132 (own_k1 (Or.inr sz_ba))
  have hkk132 := Nat.le_trans hkk123 K132.1
  obtain ⟨cq134, kq134, q134a, q134b, q134c⟩ := isOf hZ rfl E_bs0_132
  obtain ⟨_, _, ⟨T134, L134, k134, n134⟩, -, X134, ⟨Lc134, hQ134, l134, y134, z134⟩, st134⟩ := X132.virtualBack hx (y := (⟨"java/lang/String", "equals", "(Ljava/lang/Object;)Z"⟩ : MethodName)) (z := (⟨"java/lang/String", "equals", "(Ljava/lang/Object;)Z"⟩ : MethodName)) hown (mvT hZ (hw _ (List.mem_of_getElem? (i := 63) rfl))) (mvT hZ (hw _ (List.mem_of_getElem? (i := 64) rfl))) (notFace_of_selects (args := #[]) (mvT hZ (hw _ (List.mem_of_getElem? (i := 66) rfl)))) (mvT hZ (hw _ (List.mem_of_getElem? (i := 66) rfl))) (mvT hZ (hw _ (List.mem_of_getElem? (i := 65) rfl))) (by decide) (backOf (W := 1) (rm9 l Z a0 hw [] bs0 bs0  T132.heap n0 (Nat.le_trans Z0 KK132.1) rfl) hZ (hw _ (List.mem_of_getElem? (i := 67) rfl)) (hw _ (List.mem_of_getElem? (i := 2) rfl)) (by decide) (by decide)) q134a q134c (g := (mkF m 198 #[.val (.int p1), .val (.int p2), .val (.int p3), .val (.int p4), .val (.int (p1 &&& (3 : Int32))), .val (.ref bs0), .val (.ref bs1), .val (.ref bs2), .val (.ref br), .val (.ref ba), .val (.int ((1 : Int32) &&& (1 : Int32)))] [(.ref bs0), (.ref bs0), (.int ((1 : Int32) &&& (1 : Int32)))])) rfl (by rw [hml]; rfl) (Steps.refl _) (argsL := [(.ref bs0)]) (rest := [(.int ((1 : Int32) &&& (1 : Int32)))]) (lenOf pdx_7 rfl) rfl (by show 2 * 0 + _ ≤ _; exact Nat.le_of_eq rfl) (hb hby at_198) (fun _ _ => ⟨rfl, rfl, (by decide : 11 + 0 ≤ _), (by decide : 40 + 0 ≤ _)⟩)
  dsimp only [Pt.U, Pt.locs, Pt.cells, Pt.slots] at X134 l134 y134 z134 st134 hQ134
  subst l134 y134 z134
  obtain ⟨rfl, N134q, e134⟩ := hQ134
  have N134 := Fr.app N132 N134q
  have pre135 : ∀ t, Steps p.tables e below (T134.setTop (mkF m 201 #[.val (.int p1), .val (.int p2), .val (.int p3), .val (.int p4), .val (.int (p1 &&& (3 : Int32))), .val (.ref bs0), .val (.ref bs1), .val (.ref bs2), .val (.ref br), .val (.ref ba), .val (.int ((1 : Int32) &&& (1 : Int32)))] [(.int (1 : Int32)), (.int ((1 : Int32) &&& (1 : Int32)))])) t → Steps p.tables e below (s₁.setTop (entryFrame m #[(.int p1), (.int p2), (.int p3), (.int p4)] maxLocals)) t := fun t k => pre133 t (by
    show Steps p.tables e below (T132.setTop (mkF m 198 #[.val (.int p1), .val (.int p2), .val (.int p3), .val (.int p4), .val (.int (p1 &&& (3 : Int32))), .val (.ref bs0), .val (.ref bs1), .val (.ref bs2), .val (.ref br), .val (.ref ba), .val (.int ((1 : Int32) &&& (1 : Int32)))] [(.ref bs0), (.ref bs0), (.int ((1 : Int32) &&& (1 : Int32)))])) t
    refine st134.trans ?_
    show Steps p.tables e below (T134.setTop (mkF m 201 #[.val (.int p1), .val (.int p2), .val (.int p3), .val (.int p4), .val (.int (p1 &&& (3 : Int32))), .val (.ref bs0), .val (.ref bs1), .val (.ref bs2), .val (.ref br), .val (.ref ba), .val (.int ((1 : Int32) &&& (1 : Int32)))] [(.int (1 : Int32)), (.int ((1 : Int32) &&& (1 : Int32)))])) t
    exact k)
  have pre136 : ∀ t, Steps p.tables e below (T134.setTop (mkF m 208 #[.val (.int p1), .val (.int p2), .val (.int p3), .val (.int p4), .val (.int (p1 &&& (3 : Int32))), .val (.ref bs0), .val (.ref bs1), .val (.ref bs2), .val (.ref br), .val (.ref ba), .val (.int (((1 : Int32) &&& (1 : Int32)) &&& (1 : Int32)))] [(.ref ba), (.int (((1 : Int32) &&& (1 : Int32)) &&& (1 : Int32)))])) t → Steps p.tables e below (s₁.setTop (entryFrame m #[(.int p1), (.int p2), (.int p3), (.int p4)] maxLocals)) t := fun t k => pre135 t (by
    show Steps p.tables e below (T134.setTop (mkF m 201 #[.val (.int p1), .val (.int p2), .val (.int p3), .val (.int p4), .val (.int (p1 &&& (3 : Int32))), .val (.ref bs0), .val (.ref bs1), .val (.ref bs2), .val (.ref br), .val (.ref ba), .val (.int ((1 : Int32) &&& (1 : Int32)))] [(.int (1 : Int32)), (.int ((1 : Int32) &&& (1 : Int32)))])) _
    refine XS.iand X134.here hx rfl (hb hby at_201) rfl ?_
    show Steps p.tables e below (T134.setTop (mkF m 202 #[.val (.int p1), .val (.int p2), .val (.int p3), .val (.int p4), .val (.int (p1 &&& (3 : Int32))), .val (.ref bs0), .val (.ref bs1), .val (.ref bs2), .val (.ref br), .val (.ref ba), .val (.int ((1 : Int32) &&& (1 : Int32)))] [(.int (((1 : Int32) &&& (1 : Int32)) &&& (1 : Int32)))])) _
    refine XS.istore X134.here hx rfl (hb hby at_202) rfl (l' := #[.val (.int p1), .val (.int p2), .val (.int p3), .val (.int p4), .val (.int (p1 &&& (3 : Int32))), .val (.ref bs0), .val (.ref bs1), .val (.ref bs2), .val (.ref br), .val (.ref ba), .val (.int (((1 : Int32) &&& (1 : Int32)) &&& (1 : Int32)))]) rfl ?_
    show Steps p.tables e below (T134.setTop (mkF m 204 #[.val (.int p1), .val (.int p2), .val (.int p3), .val (.int p4), .val (.int (p1 &&& (3 : Int32))), .val (.ref bs0), .val (.ref bs1), .val (.ref bs2), .val (.ref br), .val (.ref ba), .val (.int (((1 : Int32) &&& (1 : Int32)) &&& (1 : Int32)))] [])) _
    refine XS.iload X134.here hx rfl (hb hby at_204) rfl ?_
    show Steps p.tables e below (T134.setTop (mkF m 206 #[.val (.int p1), .val (.int p2), .val (.int p3), .val (.int p4), .val (.int (p1 &&& (3 : Int32))), .val (.ref bs0), .val (.ref bs1), .val (.ref bs2), .val (.ref br), .val (.ref ba), .val (.int (((1 : Int32) &&& (1 : Int32)) &&& (1 : Int32)))] [(.int (((1 : Int32) &&& (1 : Int32)) &&& (1 : Int32)))])) _
    refine XS.aload X134.here hx rfl (hb hby at_206) rfl rfl ?_
    show Steps p.tables e below (T134.setTop (mkF m 208 #[.val (.int p1), .val (.int p2), .val (.int p3), .val (.int p4), .val (.int (p1 &&& (3 : Int32))), .val (.ref bs0), .val (.ref bs1), .val (.ref bs2), .val (.ref br), .val (.ref ba), .val (.int (((1 : Int32) &&& (1 : Int32)) &&& (1 : Int32)))] [(.ref ba), (.int (((1 : Int32) &&& (1 : Int32)) &&& (1 : Int32)))])) _
    exact k)
  obtain ⟨cq137, kq137, q137a, q137b, q137c⟩ := isOf hZ e134 E_ba_132
  obtain ⟨_, _, ⟨T137, L137, k137, n137⟩, -, X137, ⟨Lc137, hQ137, l137, y137, z137⟩, st137⟩ := X134.virtualBack hx (y := (⟨"com/example/arcsieve/arcsieve/Arguments", "hasNext", "()Z"⟩ : MethodName)) (z := (⟨"com/example/arcsieve/arcsieve/Arguments", "hasNext", "()Z"⟩ : MethodName)) hown (mvT hZ (hw _ (List.mem_of_getElem? (i := 51) rfl))) (mvT hZ (hw _ (List.mem_of_getElem? (i := 52) rfl))) (notFace_of_selects (args := #[]) (mvT hZ (hw _ (List.mem_of_getElem? (i := 54) rfl)))) (mvT hZ (hw _ (List.mem_of_getElem? (i := 54) rfl))) (mvT hZ (hw _ (List.mem_of_getElem? (i := 53) rfl))) (by decide) (backOf (W := 1) (rm7 l Z a0 hw [] ba bc ((0 : Int32) + (1 : Int32)) k105 (3 : Int32) [(.ref bs0), (.ref bs1), (.ref bs2)] T132.heap n0 (Nat.le_trans Z0 KK132.1) Fn132 Fa132 Vc123_132) hZ (hw _ (List.mem_of_getElem? (i := 55) rfl)) (hw _ (List.mem_of_getElem? (i := 30) rfl)) (by decide) (by decide)) q137a q137c (g := (mkF m 208 #[.val (.int p1), .val (.int p2), .val (.int p3), .val (.int p4), .val (.int (p1 &&& (3 : Int32))), .val (.ref bs0), .val (.ref bs1), .val (.ref bs2), .val (.ref br), .val (.ref ba), .val (.int (((1 : Int32) &&& (1 : Int32)) &&& (1 : Int32)))] [(.ref ba), (.int (((1 : Int32) &&& (1 : Int32)) &&& (1 : Int32)))])) rfl (by rw [hml]; rfl) (Steps.refl _) (argsL := []) (rest := [(.int (((1 : Int32) &&& (1 : Int32)) &&& (1 : Int32)))]) (lenOf pdx_5 rfl) rfl (by show 2 * 0 + _ ≤ _; exact Nat.le_of_eq rfl) (hb hby at_208) (fun _ _ => ⟨rfl, e134, (by decide : 11 + 0 ≤ _), (by decide : 40 + 0 ≤ _)⟩)
  dsimp only [Pt.U, Pt.locs, Pt.cells, Pt.slots] at X137 l137 y137 z137 st137 hQ137
  subst l137 y137 z137
  obtain ⟨rfl, N137q, e137⟩ := hQ137
  have N137 := Fr.app N134 N137q
  have pre138 : ∀ t, Steps p.tables e below (T137.setTop (mkF m 211 #[.val (.int p1), .val (.int p2), .val (.int p3), .val (.int p4), .val (.int (p1 &&& (3 : Int32))), .val (.ref bs0), .val (.ref bs1), .val (.ref bs2), .val (.ref br), .val (.ref ba), .val (.int (((1 : Int32) &&& (1 : Int32)) &&& (1 : Int32)))] [(.int (own_has ((0 : Int32) + (1 : Int32)) (3 : Int32))), (.int (((1 : Int32) &&& (1 : Int32)) &&& (1 : Int32)))])) t → Steps p.tables e below (s₁.setTop (entryFrame m #[(.int p1), (.int p2), (.int p3), (.int p4)] maxLocals)) t := fun t k => pre136 t (by
    show Steps p.tables e below (T134.setTop (mkF m 208 #[.val (.int p1), .val (.int p2), .val (.int p3), .val (.int p4), .val (.int (p1 &&& (3 : Int32))), .val (.ref bs0), .val (.ref bs1), .val (.ref bs2), .val (.ref br), .val (.ref ba), .val (.int (((1 : Int32) &&& (1 : Int32)) &&& (1 : Int32)))] [(.ref ba), (.int (((1 : Int32) &&& (1 : Int32)) &&& (1 : Int32)))])) t
    refine st137.trans ?_
    show Steps p.tables e below (T137.setTop (mkF m 211 #[.val (.int p1), .val (.int p2), .val (.int p3), .val (.int p4), .val (.int (p1 &&& (3 : Int32))), .val (.ref bs0), .val (.ref bs1), .val (.ref bs2), .val (.ref br), .val (.ref ba), .val (.int (((1 : Int32) &&& (1 : Int32)) &&& (1 : Int32)))] [(.int (own_has ((0 : Int32) + (1 : Int32)) (3 : Int32))), (.int (((1 : Int32) &&& (1 : Int32)) &&& (1 : Int32)))])) t
    exact k)
  have pre139 : ∀ t, Steps p.tables e below (T137.setTop (mkF m 245 #[.val (.int p1), .val (.int p2), .val (.int p3), .val (.int p4), .val (.int (p1 &&& (3 : Int32))), .val (.ref bs0), .val (.ref bs1), .val (.ref bs2), .val (.ref br), .val (.ref ba), .val (.int ((((1 : Int32) &&& (1 : Int32)) &&& (1 : Int32)) &&& (1 : Int32)))] [(.ref ba), (.ref bs1), (.int ((((1 : Int32) &&& (1 : Int32)) &&& (1 : Int32)) &&& (1 : Int32)))])) t → Steps p.tables e below (s₁.setTop (entryFrame m #[(.int p1), (.int p2), (.int p3), (.int p4)] maxLocals)) t := fun t k => pre138 t (by
    show Steps p.tables e below (T137.setTop (mkF m 211 #[.val (.int p1), .val (.int p2), .val (.int p3), .val (.int p4), .val (.int (p1 &&& (3 : Int32))), .val (.ref bs0), .val (.ref bs1), .val (.ref bs2), .val (.ref br), .val (.ref ba), .val (.int (((1 : Int32) &&& (1 : Int32)) &&& (1 : Int32)))] [(.int (own_has ((0 : Int32) + (1 : Int32)) (3 : Int32))), (.int (((1 : Int32) &&& (1 : Int32)) &&& (1 : Int32)))])) _
    refine XS.iload X137.here hx rfl (hb hby at_211) rfl ?_
    show Steps p.tables e below (T137.setTop (mkF m 213 #[.val (.int p1), .val (.int p2), .val (.int p3), .val (.int p4), .val (.int (p1 &&& (3 : Int32))), .val (.ref bs0), .val (.ref bs1), .val (.ref bs2), .val (.ref br), .val (.ref ba), .val (.int (((1 : Int32) &&& (1 : Int32)) &&& (1 : Int32)))] [(.int (p1 &&& (3 : Int32))), (.int (own_has ((0 : Int32) + (1 : Int32)) (3 : Int32))), (.int (((1 : Int32) &&& (1 : Int32)) &&& (1 : Int32)))])) _
    refine XS.iconst X137.here hx rfl (hb hby at_213) ?_
    show Steps p.tables e below (T137.setTop (mkF m 214 #[.val (.int p1), .val (.int p2), .val (.int p3), .val (.int p4), .val (.int (p1 &&& (3 : Int32))), .val (.ref bs0), .val (.ref bs1), .val (.ref bs2), .val (.ref br), .val (.ref ba), .val (.int (((1 : Int32) &&& (1 : Int32)) &&& (1 : Int32)))] [(.int (1 : Int32)), (.int (p1 &&& (3 : Int32))), (.int (own_has ((0 : Int32) + (1 : Int32)) (3 : Int32))), (.int (((1 : Int32) &&& (1 : Int32)) &&& (1 : Int32)))])) _
    refine XS.icmpNo X137.here hx rfl (hb hby at_214) rfl (tlt (by rw [hn]; decide)).2.2.2 ?_
    show Steps p.tables e below (T137.setTop (mkF m 217 #[.val (.int p1), .val (.int p2), .val (.int p3), .val (.int p4), .val (.int (p1 &&& (3 : Int32))), .val (.ref bs0), .val (.ref bs1), .val (.ref bs2), .val (.ref br), .val (.ref ba), .val (.int (((1 : Int32) &&& (1 : Int32)) &&& (1 : Int32)))] [(.int (own_has ((0 : Int32) + (1 : Int32)) (3 : Int32))), (.int (((1 : Int32) &&& (1 : Int32)) &&& (1 : Int32)))])) _
    refine XS.iconst X137.here hx rfl (hb hby at_217) ?_
    show Steps p.tables e below (T137.setTop (mkF m 218 #[.val (.int p1), .val (.int p2), .val (.int p3), .val (.int p4), .val (.int (p1 &&& (3 : Int32))), .val (.ref bs0), .val (.ref bs1), .val (.ref bs2), .val (.ref br), .val (.ref ba), .val (.int (((1 : Int32) &&& (1 : Int32)) &&& (1 : Int32)))] [(.int (1 : Int32)), (.int (own_has ((0 : Int32) + (1 : Int32)) (3 : Int32))), (.int (((1 : Int32) &&& (1 : Int32)) &&& (1 : Int32)))])) _
    refine XS.goto X137.here hx rfl (pc0 := 218) (pc' := 222) rfl (hb hby at_218) (by decide) (by decide) ?_
    show Steps p.tables e below (T137.setTop (mkF m 222 #[.val (.int p1), .val (.int p2), .val (.int p3), .val (.int p4), .val (.int (p1 &&& (3 : Int32))), .val (.ref bs0), .val (.ref bs1), .val (.ref bs2), .val (.ref br), .val (.ref ba), .val (.int (((1 : Int32) &&& (1 : Int32)) &&& (1 : Int32)))] [(.int (1 : Int32)), (.int (own_has ((0 : Int32) + (1 : Int32)) (3 : Int32))), (.int (((1 : Int32) &&& (1 : Int32)) &&& (1 : Int32)))])) _
    refine XS.icmpNo X137.here hx rfl (hb hby at_222) rfl (teq (by decide)).2 ?_
    show Steps p.tables e below (T137.setTop (mkF m 225 #[.val (.int p1), .val (.int p2), .val (.int p3), .val (.int p4), .val (.int (p1 &&& (3 : Int32))), .val (.ref bs0), .val (.ref bs1), .val (.ref bs2), .val (.ref br), .val (.ref ba), .val (.int (((1 : Int32) &&& (1 : Int32)) &&& (1 : Int32)))] [(.int (((1 : Int32) &&& (1 : Int32)) &&& (1 : Int32)))])) _
    refine XS.iconst X137.here hx rfl (hb hby at_225) ?_
    show Steps p.tables e below (T137.setTop (mkF m 226 #[.val (.int p1), .val (.int p2), .val (.int p3), .val (.int p4), .val (.int (p1 &&& (3 : Int32))), .val (.ref bs0), .val (.ref bs1), .val (.ref bs2), .val (.ref br), .val (.ref ba), .val (.int (((1 : Int32) &&& (1 : Int32)) &&& (1 : Int32)))] [(.int (1 : Int32)), (.int (((1 : Int32) &&& (1 : Int32)) &&& (1 : Int32)))])) _
    refine XS.goto X137.here hx rfl (pc0 := 226) (pc' := 230) rfl (hb hby at_226) (by decide) (by decide) ?_
    show Steps p.tables e below (T137.setTop (mkF m 230 #[.val (.int p1), .val (.int p2), .val (.int p3), .val (.int p4), .val (.int (p1 &&& (3 : Int32))), .val (.ref bs0), .val (.ref bs1), .val (.ref bs2), .val (.ref br), .val (.ref ba), .val (.int (((1 : Int32) &&& (1 : Int32)) &&& (1 : Int32)))] [(.int (1 : Int32)), (.int (((1 : Int32) &&& (1 : Int32)) &&& (1 : Int32)))])) _
    refine XS.iand X137.here hx rfl (hb hby at_230) rfl ?_
    show Steps p.tables e below (T137.setTop (mkF m 231 #[.val (.int p1), .val (.int p2), .val (.int p3), .val (.int p4), .val (.int (p1 &&& (3 : Int32))), .val (.ref bs0), .val (.ref bs1), .val (.ref bs2), .val (.ref br), .val (.ref ba), .val (.int (((1 : Int32) &&& (1 : Int32)) &&& (1 : Int32)))] [(.int ((((1 : Int32) &&& (1 : Int32)) &&& (1 : Int32)) &&& (1 : Int32)))])) _
    refine XS.istore X137.here hx rfl (hb hby at_231) rfl (l' := #[.val (.int p1), .val (.int p2), .val (.int p3), .val (.int p4), .val (.int (p1 &&& (3 : Int32))), .val (.ref bs0), .val (.ref bs1), .val (.ref bs2), .val (.ref br), .val (.ref ba), .val (.int ((((1 : Int32) &&& (1 : Int32)) &&& (1 : Int32)) &&& (1 : Int32)))]) rfl ?_
    show Steps p.tables e below (T137.setTop (mkF m 233 #[.val (.int p1), .val (.int p2), .val (.int p3), .val (.int p4), .val (.int (p1 &&& (3 : Int32))), .val (.ref bs0), .val (.ref bs1), .val (.ref bs2), .val (.ref br), .val (.ref ba), .val (.int ((((1 : Int32) &&& (1 : Int32)) &&& (1 : Int32)) &&& (1 : Int32)))] [])) _
    refine XS.iload X137.here hx rfl (hb hby at_233) rfl ?_
    show Steps p.tables e below (T137.setTop (mkF m 235 #[.val (.int p1), .val (.int p2), .val (.int p3), .val (.int p4), .val (.int (p1 &&& (3 : Int32))), .val (.ref bs0), .val (.ref bs1), .val (.ref bs2), .val (.ref br), .val (.ref ba), .val (.int ((((1 : Int32) &&& (1 : Int32)) &&& (1 : Int32)) &&& (1 : Int32)))] [(.int (p1 &&& (3 : Int32)))])) _
    refine XS.iconst X137.here hx rfl (hb hby at_235) ?_
    show Steps p.tables e below (T137.setTop (mkF m 236 #[.val (.int p1), .val (.int p2), .val (.int p3), .val (.int p4), .val (.int (p1 &&& (3 : Int32))), .val (.ref bs0), .val (.ref bs1), .val (.ref bs2), .val (.ref br), .val (.ref ba), .val (.int ((((1 : Int32) &&& (1 : Int32)) &&& (1 : Int32)) &&& (1 : Int32)))] [(.int (1 : Int32)), (.int (p1 &&& (3 : Int32)))])) _
    refine XS.icmpNo X137.here hx rfl (hb hby at_236) rfl (tlt (by rw [hn]; decide)).2.2.2 ?_
    show Steps p.tables e below (T137.setTop (mkF m 239 #[.val (.int p1), .val (.int p2), .val (.int p3), .val (.int p4), .val (.int (p1 &&& (3 : Int32))), .val (.ref bs0), .val (.ref bs1), .val (.ref bs2), .val (.ref br), .val (.ref ba), .val (.int ((((1 : Int32) &&& (1 : Int32)) &&& (1 : Int32)) &&& (1 : Int32)))] [])) _
    refine XS.iload X137.here hx rfl (hb hby at_239) rfl ?_
    show Steps p.tables e below (T137.setTop (mkF m 241 #[.val (.int p1), .val (.int p2), .val (.int p3), .val (.int p4), .val (.int (p1 &&& (3 : Int32))), .val (.ref bs0), .val (.ref bs1), .val (.ref bs2), .val (.ref br), .val (.ref ba), .val (.int ((((1 : Int32) &&& (1 : Int32)) &&& (1 : Int32)) &&& (1 : Int32)))] [(.int ((((1 : Int32) &&& (1 : Int32)) &&& (1 : Int32)) &&& (1 : Int32)))])) _
    refine XS.aload X137.here hx rfl (hb hby at_241) rfl rfl ?_
    show Steps p.tables e below (T137.setTop (mkF m 243 #[.val (.int p1), .val (.int p2), .val (.int p3), .val (.int p4), .val (.int (p1 &&& (3 : Int32))), .val (.ref bs0), .val (.ref bs1), .val (.ref bs2), .val (.ref br), .val (.ref ba), .val (.int ((((1 : Int32) &&& (1 : Int32)) &&& (1 : Int32)) &&& (1 : Int32)))] [(.ref bs1), (.int ((((1 : Int32) &&& (1 : Int32)) &&& (1 : Int32)) &&& (1 : Int32)))])) _
    refine XS.aload X137.here hx rfl (hb hby at_243) rfl rfl ?_
    show Steps p.tables e below (T137.setTop (mkF m 245 #[.val (.int p1), .val (.int p2), .val (.int p3), .val (.int p4), .val (.int (p1 &&& (3 : Int32))), .val (.ref bs0), .val (.ref bs1), .val (.ref bs2), .val (.ref br), .val (.ref ba), .val (.int ((((1 : Int32) &&& (1 : Int32)) &&& (1 : Int32)) &&& (1 : Int32)))] [(.ref ba), (.ref bs1), (.int ((((1 : Int32) &&& (1 : Int32)) &&& (1 : Int32)) &&& (1 : Int32)))])) _
    exact k)
  obtain ⟨cq140, kq140, q140a, q140b, q140c⟩ := isOf hZ e137 E_ba_132
  obtain ⟨_, _, ⟨T140, L140, k140, n140⟩, -, X140, ⟨Lc140, hQ140, l140, y140, z140⟩, st140⟩ := X137.virtualBack hx (y := (⟨"com/example/arcsieve/arcsieve/Arguments", "next", "()Ljava/lang/String;"⟩ : MethodName)) (z := (⟨"com/example/arcsieve/arcsieve/Arguments", "next", "()Ljava/lang/String;"⟩ : MethodName)) hown (mvT hZ (hw _ (List.mem_of_getElem? (i := 58) rfl))) (mvT hZ (hw _ (List.mem_of_getElem? (i := 59) rfl))) (notFace_of_selects (args := #[]) (mvT hZ (hw _ (List.mem_of_getElem? (i := 61) rfl)))) (mvT hZ (hw _ (List.mem_of_getElem? (i := 61) rfl))) (mvT hZ (hw _ (List.mem_of_getElem? (i := 60) rfl))) (by decide) (backOf (W := 2) (rm8 l Z a0 hw [] ba bc bs1 ((0 : Int32) + (1 : Int32)) k105 (3 : Int32) [(.ref bs0), (.ref bs1), (.ref bs2)] T132.heap n0 (Nat.le_trans Z0 KK132.1) E_ba_132 Fn132 Fa132 Vc123_132 ⟨by decide, by decide⟩ rfl g_ba o_ba_bc) hZ (hw _ (List.mem_of_getElem? (i := 62) rfl)) (hw _ (List.mem_of_getElem? (i := 30) rfl)) (by decide) (by decide)) q140a q140c (g := (mkF m 245 #[.val (.int p1), .val (.int p2), .val (.int p3), .val (.int p4), .val (.int (p1 &&& (3 : Int32))), .val (.ref bs0), .val (.ref bs1), .val (.ref bs2), .val (.ref br), .val (.ref ba), .val (.int ((((1 : Int32) &&& (1 : Int32)) &&& (1 : Int32)) &&& (1 : Int32)))] [(.ref ba), (.ref bs1), (.int ((((1 : Int32) &&& (1 : Int32)) &&& (1 : Int32)) &&& (1 : Int32)))])) rfl (by rw [hml]; rfl) (Steps.refl _) (argsL := []) (rest := [(.ref bs1), (.int ((((1 : Int32) &&& (1 : Int32)) &&& (1 : Int32)) &&& (1 : Int32)))]) (lenOf pdx_6 rfl) rfl (by show 2 * 0 + _ ≤ _; exact Nat.le_of_eq rfl) (hb hby at_245) (fun _ _ => ⟨rfl, e137, (by decide : 11 + 0 ≤ _), (by decide : 40 + 0 ≤ _)⟩)
  dsimp only [Pt.U, Pt.locs, Pt.cells, Pt.slots] at X140 l140 y140 z140 st140 hQ140
  subst l140 y140 z140
  obtain ⟨rfl, N140q, K140, Fn140, Fa140⟩ := hQ140
  have N140 := Fr.app N137 N140q
  have pre141 : ∀ t, Steps p.tables e below (T140.setTop (mkF m 248 #[.val (.int p1), .val (.int p2), .val (.int p3), .val (.int p4), .val (.int (p1 &&& (3 : Int32))), .val (.ref bs0), .val (.ref bs1), .val (.ref bs2), .val (.ref br), .val (.ref ba), .val (.int ((((1 : Int32) &&& (1 : Int32)) &&& (1 : Int32)) &&& (1 : Int32)))] [(.ref bs1), (.ref bs1), (.int ((((1 : Int32) &&& (1 : Int32)) &&& (1 : Int32)) &&& (1 : Int32)))])) t → Steps p.tables e below (s₁.setTop (entryFrame m #[(.int p1), (.int p2), (.int p3), (.int p4)] maxLocals)) t := fun t k => pre139 t (by
    show Steps p.tables e below (T137.setTop (mkF m 245 #[.val (.int p1), .val (.int p2), .val (.int p3), .val (.int p4), .val (.int (p1 &&& (3 : Int32))), .val (.ref bs0), .val (.ref bs1), .val (.ref bs2), .val (.ref br), .val (.ref ba), .val (.int ((((1 : Int32) &&& (1 : Int32)) &&& (1 : Int32)) &&& (1 : Int32)))] [(.ref ba), (.ref bs1), (.int ((((1 : Int32) &&& (1 : Int32)) &&& (1 : Int32)) &&& (1 : Int32)))])) t
    refine st140.trans ?_
    show Steps p.tables e below (T140.setTop (mkF m 248 #[.val (.int p1), .val (.int p2), .val (.int p3), .val (.int p4), .val (.int (p1 &&& (3 : Int32))), .val (.ref bs0), .val (.ref bs1), .val (.ref bs2), .val (.ref br), .val (.ref ba), .val (.int ((((1 : Int32) &&& (1 : Int32)) &&& (1 : Int32)) &&& (1 : Int32)))] [(.ref bs1), (.ref bs1), (.int ((((1 : Int32) &&& (1 : Int32)) &&& (1 : Int32)) &&& (1 : Int32)))])) t
    exact k)
  have E_bs0_140 := E_bs0_132.keep K140
  have E_bs1_140 := E_bs1_132.keep K140
  have E_bs2_140 := E_bs2_132.keep K140
  have E_ba_140 := E_ba_132.keep K140
  have Vc123_140 := Vc123_132.keep K140 (List.not_mem_cons_of_ne_of_not_mem (Nat.ne_of_gt o_ba_bc) List.not_mem_nil)
  have KK140 := KK132.trans K140 (own_k1 (Or.inr sz_ba))
  have hkk140 := Nat.le_trans hkk132 K140.1
  obtain ⟨cq142, kq142, q142a, q142b, q142c⟩ := isOf hZ rfl E_bs1_140
  obtain ⟨_, _, ⟨T142, L142, k142, n142⟩, -, X142, ⟨Lc142, hQ142, l142, y142, z142⟩, st142⟩ := X140.virtualBack hx (y := (⟨"java/lang/String", "equals", "(Ljava/lang/Object;)Z"⟩ : MethodName)) (z := (⟨"java/lang/String", "equals", "(Ljava/lang/Object;)Z"⟩ : MethodName)) hown (mvT hZ (hw _ (List.mem_of_getElem? (i := 63) rfl))) (mvT hZ (hw _ (List.mem_of_getElem? (i := 64) rfl))) (notFace_of_selects (args := #[]) (mvT hZ (hw _ (List.mem_of_getElem? (i := 66) rfl)))) (mvT hZ (hw _ (List.mem_of_getElem? (i := 66) rfl))) (mvT hZ (hw _ (List.mem_of_getElem? (i := 65) rfl))) (by decide) (backOf (W := 1) (rm9 l Z a0 hw [] bs1 bs1  T140.heap n0 (Nat.le_trans Z0 KK140.1) rfl) hZ (hw _ (List.mem_of_getElem? (i := 67) rfl)) (hw _ (List.mem_of_getElem? (i := 2) rfl)) (by decide) (by decide)) q142a q142c (g := (mkF m 248 #[.val (.int p1), .val (.int p2), .val (.int p3), .val (.int p4), .val (.int (p1 &&& (3 : Int32))), .val (.ref bs0), .val (.ref bs1), .val (.ref bs2), .val (.ref br), .val (.ref ba), .val (.int ((((1 : Int32) &&& (1 : Int32)) &&& (1 : Int32)) &&& (1 : Int32)))] [(.ref bs1), (.ref bs1), (.int ((((1 : Int32) &&& (1 : Int32)) &&& (1 : Int32)) &&& (1 : Int32)))])) rfl (by rw [hml]; rfl) (Steps.refl _) (argsL := [(.ref bs1)]) (rest := [(.int ((((1 : Int32) &&& (1 : Int32)) &&& (1 : Int32)) &&& (1 : Int32)))]) (lenOf pdx_7 rfl) rfl (by show 2 * 0 + _ ≤ _; exact Nat.le_of_eq rfl) (hb hby at_248) (fun _ _ => ⟨rfl, rfl, (by decide : 11 + 0 ≤ _), (by decide : 40 + 0 ≤ _)⟩)
  dsimp only [Pt.U, Pt.locs, Pt.cells, Pt.slots] at X142 l142 y142 z142 st142 hQ142
  subst l142 y142 z142
  obtain ⟨rfl, N142q, e142⟩ := hQ142
  have N142 := Fr.app N140 N142q
  have pre143 : ∀ t, Steps p.tables e below (T142.setTop (mkF m 251 #[.val (.int p1), .val (.int p2), .val (.int p3), .val (.int p4), .val (.int (p1 &&& (3 : Int32))), .val (.ref bs0), .val (.ref bs1), .val (.ref bs2), .val (.ref br), .val (.ref ba), .val (.int ((((1 : Int32) &&& (1 : Int32)) &&& (1 : Int32)) &&& (1 : Int32)))] [(.int (1 : Int32)), (.int ((((1 : Int32) &&& (1 : Int32)) &&& (1 : Int32)) &&& (1 : Int32)))])) t → Steps p.tables e below (s₁.setTop (entryFrame m #[(.int p1), (.int p2), (.int p3), (.int p4)] maxLocals)) t := fun t k => pre141 t (by
    show Steps p.tables e below (T140.setTop (mkF m 248 #[.val (.int p1), .val (.int p2), .val (.int p3), .val (.int p4), .val (.int (p1 &&& (3 : Int32))), .val (.ref bs0), .val (.ref bs1), .val (.ref bs2), .val (.ref br), .val (.ref ba), .val (.int ((((1 : Int32) &&& (1 : Int32)) &&& (1 : Int32)) &&& (1 : Int32)))] [(.ref bs1), (.ref bs1), (.int ((((1 : Int32) &&& (1 : Int32)) &&& (1 : Int32)) &&& (1 : Int32)))])) t
    refine st142.trans ?_
    show Steps p.tables e below (T142.setTop (mkF m 251 #[.val (.int p1), .val (.int p2), .val (.int p3), .val (.int p4), .val (.int (p1 &&& (3 : Int32))), .val (.ref bs0), .val (.ref bs1), .val (.ref bs2), .val (.ref br), .val (.ref ba), .val (.int ((((1 : Int32) &&& (1 : Int32)) &&& (1 : Int32)) &&& (1 : Int32)))] [(.int (1 : Int32)), (.int ((((1 : Int32) &&& (1 : Int32)) &&& (1 : Int32)) &&& (1 : Int32)))])) t
    exact k)
  have pre144 : ∀ t, Steps p.tables e below (T142.setTop (mkF m 258 #[.val (.int p1), .val (.int p2), .val (.int p3), .val (.int p4), .val (.int (p1 &&& (3 : Int32))), .val (.ref bs0), .val (.ref bs1), .val (.ref bs2), .val (.ref br), .val (.ref ba), .val (.int (((((1 : Int32) &&& (1 : Int32)) &&& (1 : Int32)) &&& (1 : Int32)) &&& (1 : Int32)))] [(.ref ba), (.int (((((1 : Int32) &&& (1 : Int32)) &&& (1 : Int32)) &&& (1 : Int32)) &&& (1 : Int32)))])) t → Steps p.tables e below (s₁.setTop (entryFrame m #[(.int p1), (.int p2), (.int p3), (.int p4)] maxLocals)) t := fun t k => pre143 t (by
    show Steps p.tables e below (T142.setTop (mkF m 251 #[.val (.int p1), .val (.int p2), .val (.int p3), .val (.int p4), .val (.int (p1 &&& (3 : Int32))), .val (.ref bs0), .val (.ref bs1), .val (.ref bs2), .val (.ref br), .val (.ref ba), .val (.int ((((1 : Int32) &&& (1 : Int32)) &&& (1 : Int32)) &&& (1 : Int32)))] [(.int (1 : Int32)), (.int ((((1 : Int32) &&& (1 : Int32)) &&& (1 : Int32)) &&& (1 : Int32)))])) _
    refine XS.iand X142.here hx rfl (hb hby at_251) rfl ?_
    show Steps p.tables e below (T142.setTop (mkF m 252 #[.val (.int p1), .val (.int p2), .val (.int p3), .val (.int p4), .val (.int (p1 &&& (3 : Int32))), .val (.ref bs0), .val (.ref bs1), .val (.ref bs2), .val (.ref br), .val (.ref ba), .val (.int ((((1 : Int32) &&& (1 : Int32)) &&& (1 : Int32)) &&& (1 : Int32)))] [(.int (((((1 : Int32) &&& (1 : Int32)) &&& (1 : Int32)) &&& (1 : Int32)) &&& (1 : Int32)))])) _
    refine XS.istore X142.here hx rfl (hb hby at_252) rfl (l' := #[.val (.int p1), .val (.int p2), .val (.int p3), .val (.int p4), .val (.int (p1 &&& (3 : Int32))), .val (.ref bs0), .val (.ref bs1), .val (.ref bs2), .val (.ref br), .val (.ref ba), .val (.int (((((1 : Int32) &&& (1 : Int32)) &&& (1 : Int32)) &&& (1 : Int32)) &&& (1 : Int32)))]) rfl ?_
    show Steps p.tables e below (T142.setTop (mkF m 254 #[.val (.int p1), .val (.int p2), .val (.int p3), .val (.int p4), .val (.int (p1 &&& (3 : Int32))), .val (.ref bs0), .val (.ref bs1), .val (.ref bs2), .val (.ref br), .val (.ref ba), .val (.int (((((1 : Int32) &&& (1 : Int32)) &&& (1 : Int32)) &&& (1 : Int32)) &&& (1 : Int32)))] [])) _
    refine XS.iload X142.here hx rfl (hb hby at_254) rfl ?_
    show Steps p.tables e below (T142.setTop (mkF m 256 #[.val (.int p1), .val (.int p2), .val (.int p3), .val (.int p4), .val (.int (p1 &&& (3 : Int32))), .val (.ref bs0), .val (.ref bs1), .val (.ref bs2), .val (.ref br), .val (.ref ba), .val (.int (((((1 : Int32) &&& (1 : Int32)) &&& (1 : Int32)) &&& (1 : Int32)) &&& (1 : Int32)))] [(.int (((((1 : Int32) &&& (1 : Int32)) &&& (1 : Int32)) &&& (1 : Int32)) &&& (1 : Int32)))])) _
    refine XS.aload X142.here hx rfl (hb hby at_256) rfl rfl ?_
    show Steps p.tables e below (T142.setTop (mkF m 258 #[.val (.int p1), .val (.int p2), .val (.int p3), .val (.int p4), .val (.int (p1 &&& (3 : Int32))), .val (.ref bs0), .val (.ref bs1), .val (.ref bs2), .val (.ref br), .val (.ref ba), .val (.int (((((1 : Int32) &&& (1 : Int32)) &&& (1 : Int32)) &&& (1 : Int32)) &&& (1 : Int32)))] [(.ref ba), (.int (((((1 : Int32) &&& (1 : Int32)) &&& (1 : Int32)) &&& (1 : Int32)) &&& (1 : Int32)))])) _
    exact k)
  obtain ⟨cq145, kq145, q145a, q145b, q145c⟩ := isOf hZ e142 E_ba_140
  obtain ⟨_, _, ⟨T145, L145, k145, n145⟩, -, X145, ⟨Lc145, hQ145, l145, y145, z145⟩, st145⟩ := X142.virtualBack hx (y := (⟨"com/example/arcsieve/arcsieve/Arguments", "hasNext", "()Z"⟩ : MethodName)) (z := (⟨"com/example/arcsieve/arcsieve/Arguments", "hasNext", "()Z"⟩ : MethodName)) hown (mvT hZ (hw _ (List.mem_of_getElem? (i := 51) rfl))) (mvT hZ (hw _ (List.mem_of_getElem? (i := 52) rfl))) (notFace_of_selects (args := #[]) (mvT hZ (hw _ (List.mem_of_getElem? (i := 54) rfl)))) (mvT hZ (hw _ (List.mem_of_getElem? (i := 54) rfl))) (mvT hZ (hw _ (List.mem_of_getElem? (i := 53) rfl))) (by decide) (backOf (W := 1) (rm7 l Z a0 hw [] ba bc (((0 : Int32) + (1 : Int32)) + (1 : Int32)) k105 (3 : Int32) [(.ref bs0), (.ref bs1), (.ref bs2)] T140.heap n0 (Nat.le_trans Z0 KK140.1) Fn140 Fa140 Vc123_140) hZ (hw _ (List.mem_of_getElem? (i := 55) rfl)) (hw _ (List.mem_of_getElem? (i := 30) rfl)) (by decide) (by decide)) q145a q145c (g := (mkF m 258 #[.val (.int p1), .val (.int p2), .val (.int p3), .val (.int p4), .val (.int (p1 &&& (3 : Int32))), .val (.ref bs0), .val (.ref bs1), .val (.ref bs2), .val (.ref br), .val (.ref ba), .val (.int (((((1 : Int32) &&& (1 : Int32)) &&& (1 : Int32)) &&& (1 : Int32)) &&& (1 : Int32)))] [(.ref ba), (.int (((((1 : Int32) &&& (1 : Int32)) &&& (1 : Int32)) &&& (1 : Int32)) &&& (1 : Int32)))])) rfl (by rw [hml]; rfl) (Steps.refl _) (argsL := []) (rest := [(.int (((((1 : Int32) &&& (1 : Int32)) &&& (1 : Int32)) &&& (1 : Int32)) &&& (1 : Int32)))]) (lenOf pdx_5 rfl) rfl (by show 2 * 0 + _ ≤ _; exact Nat.le_of_eq rfl) (hb hby at_258) (fun _ _ => ⟨rfl, e142, (by decide : 11 + 0 ≤ _), (by decide : 40 + 0 ≤ _)⟩)
  dsimp only [Pt.U, Pt.locs, Pt.cells, Pt.slots] at X145 l145 y145 z145 st145 hQ145
  subst l145 y145 z145
  obtain ⟨rfl, N145q, e145⟩ := hQ145
  have N145 := Fr.app N142 N145q
  have pre146 : ∀ t, Steps p.tables e below (T145.setTop (mkF m 261 #[.val (.int p1), .val (.int p2), .val (.int p3), .val (.int p4), .val (.int (p1 &&& (3 : Int32))), .val (.ref bs0), .val (.ref bs1), .val (.ref bs2), .val (.ref br), .val (.ref ba), .val (.int (((((1 : Int32) &&& (1 : Int32)) &&& (1 : Int32)) &&& (1 : Int32)) &&& (1 : Int32)))] [(.int (own_has (((0 : Int32) + (1 : Int32)) + (1 : Int32)) (3 : Int32))), (.int (((((1 : Int32) &&& (1 : Int32)) &&& (1 : Int32)) &&& (1 : Int32)) &&& (1 : Int32)))])) t → Steps p.tables e below (s₁.setTop (entryFrame m #[(.int p1), (.int p2), (.int p3), (.int p4)] maxLocals)) t := fun t k => pre144 t (by
    show Steps p.tables e below (T142.setTop (mkF m 258 #[.val (.int p1), .val (.int p2), .val (.int p3), .val (.int p4), .val (.int (p1 &&& (3 : Int32))), .val (.ref bs0), .val (.ref bs1), .val (.ref bs2), .val (.ref br), .val (.ref ba), .val (.int (((((1 : Int32) &&& (1 : Int32)) &&& (1 : Int32)) &&& (1 : Int32)) &&& (1 : Int32)))] [(.ref ba), (.int (((((1 : Int32) &&& (1 : Int32)) &&& (1 : Int32)) &&& (1 : Int32)) &&& (1 : Int32)))])) t
    refine st145.trans ?_
    show Steps p.tables e below (T145.setTop (mkF m 261 #[.val (.int p1), .val (.int p2), .val (.int p3), .val (.int p4), .val (.int (p1 &&& (3 : Int32))), .val (.ref bs0), .val (.ref bs1), .val (.ref bs2), .val (.ref br), .val (.ref ba), .val (.int (((((1 : Int32) &&& (1 : Int32)) &&& (1 : Int32)) &&& (1 : Int32)) &&& (1 : Int32)))] [(.int (own_has (((0 : Int32) + (1 : Int32)) + (1 : Int32)) (3 : Int32))), (.int (((((1 : Int32) &&& (1 : Int32)) &&& (1 : Int32)) &&& (1 : Int32)) &&& (1 : Int32)))])) t
    exact k)
  have pre147 : ∀ t, Steps p.tables e below (T145.setTop (mkF m 295 #[.val (.int p1), .val (.int p2), .val (.int p3), .val (.int p4), .val (.int (p1 &&& (3 : Int32))), .val (.ref bs0), .val (.ref bs1), .val (.ref bs2), .val (.ref br), .val (.ref ba), .val (.int ((((((1 : Int32) &&& (1 : Int32)) &&& (1 : Int32)) &&& (1 : Int32)) &&& (1 : Int32)) &&& (1 : Int32)))] [(.ref ba), (.ref bs2), (.int ((((((1 : Int32) &&& (1 : Int32)) &&& (1 : Int32)) &&& (1 : Int32)) &&& (1 : Int32)) &&& (1 : Int32)))])) t → Steps p.tables e below (s₁.setTop (entryFrame m #[(.int p1), (.int p2), (.int p3), (.int p4)] maxLocals)) t := fun t k => pre146 t (by
    show Steps p.tables e below (T145.setTop (mkF m 261 #[.val (.int p1), .val (.int p2), .val (.int p3), .val (.int p4), .val (.int (p1 &&& (3 : Int32))), .val (.ref bs0), .val (.ref bs1), .val (.ref bs2), .val (.ref br), .val (.ref ba), .val (.int (((((1 : Int32) &&& (1 : Int32)) &&& (1 : Int32)) &&& (1 : Int32)) &&& (1 : Int32)))] [(.int (own_has (((0 : Int32) + (1 : Int32)) + (1 : Int32)) (3 : Int32))), (.int (((((1 : Int32) &&& (1 : Int32)) &&& (1 : Int32)) &&& (1 : Int32)) &&& (1 : Int32)))])) _
    refine XS.iload X145.here hx rfl (hb hby at_261) rfl ?_
    show Steps p.tables e below (T145.setTop (mkF m 263 #[.val (.int p1), .val (.int p2), .val (.int p3), .val (.int p4), .val (.int (p1 &&& (3 : Int32))), .val (.ref bs0), .val (.ref bs1), .val (.ref bs2), .val (.ref br), .val (.ref ba), .val (.int (((((1 : Int32) &&& (1 : Int32)) &&& (1 : Int32)) &&& (1 : Int32)) &&& (1 : Int32)))] [(.int (p1 &&& (3 : Int32))), (.int (own_has (((0 : Int32) + (1 : Int32)) + (1 : Int32)) (3 : Int32))), (.int (((((1 : Int32) &&& (1 : Int32)) &&& (1 : Int32)) &&& (1 : Int32)) &&& (1 : Int32)))])) _
    refine XS.iconst X145.here hx rfl (hb hby at_263) ?_
    show Steps p.tables e below (T145.setTop (mkF m 264 #[.val (.int p1), .val (.int p2), .val (.int p3), .val (.int p4), .val (.int (p1 &&& (3 : Int32))), .val (.ref bs0), .val (.ref bs1), .val (.ref bs2), .val (.ref br), .val (.ref ba), .val (.int (((((1 : Int32) &&& (1 : Int32)) &&& (1 : Int32)) &&& (1 : Int32)) &&& (1 : Int32)))] [(.int (2 : Int32)), (.int (p1 &&& (3 : Int32))), (.int (own_has (((0 : Int32) + (1 : Int32)) + (1 : Int32)) (3 : Int32))), (.int (((((1 : Int32) &&& (1 : Int32)) &&& (1 : Int32)) &&& (1 : Int32)) &&& (1 : Int32)))])) _
    refine XS.icmpNo X145.here hx rfl (hb hby at_264) rfl (tlt (by rw [hn]; decide)).2.2.2 ?_
    show Steps p.tables e below (T145.setTop (mkF m 267 #[.val (.int p1), .val (.int p2), .val (.int p3), .val (.int p4), .val (.int (p1 &&& (3 : Int32))), .val (.ref bs0), .val (.ref bs1), .val (.ref bs2), .val (.ref br), .val (.ref ba), .val (.int (((((1 : Int32) &&& (1 : Int32)) &&& (1 : Int32)) &&& (1 : Int32)) &&& (1 : Int32)))] [(.int (own_has (((0 : Int32) + (1 : Int32)) + (1 : Int32)) (3 : Int32))), (.int (((((1 : Int32) &&& (1 : Int32)) &&& (1 : Int32)) &&& (1 : Int32)) &&& (1 : Int32)))])) _
    refine XS.iconst X145.here hx rfl (hb hby at_267) ?_
    show Steps p.tables e below (T145.setTop (mkF m 268 #[.val (.int p1), .val (.int p2), .val (.int p3), .val (.int p4), .val (.int (p1 &&& (3 : Int32))), .val (.ref bs0), .val (.ref bs1), .val (.ref bs2), .val (.ref br), .val (.ref ba), .val (.int (((((1 : Int32) &&& (1 : Int32)) &&& (1 : Int32)) &&& (1 : Int32)) &&& (1 : Int32)))] [(.int (1 : Int32)), (.int (own_has (((0 : Int32) + (1 : Int32)) + (1 : Int32)) (3 : Int32))), (.int (((((1 : Int32) &&& (1 : Int32)) &&& (1 : Int32)) &&& (1 : Int32)) &&& (1 : Int32)))])) _
    refine XS.goto X145.here hx rfl (pc0 := 268) (pc' := 272) rfl (hb hby at_268) (by decide) (by decide) ?_
    show Steps p.tables e below (T145.setTop (mkF m 272 #[.val (.int p1), .val (.int p2), .val (.int p3), .val (.int p4), .val (.int (p1 &&& (3 : Int32))), .val (.ref bs0), .val (.ref bs1), .val (.ref bs2), .val (.ref br), .val (.ref ba), .val (.int (((((1 : Int32) &&& (1 : Int32)) &&& (1 : Int32)) &&& (1 : Int32)) &&& (1 : Int32)))] [(.int (1 : Int32)), (.int (own_has (((0 : Int32) + (1 : Int32)) + (1 : Int32)) (3 : Int32))), (.int (((((1 : Int32) &&& (1 : Int32)) &&& (1 : Int32)) &&& (1 : Int32)) &&& (1 : Int32)))])) _
    refine XS.icmpNo X145.here hx rfl (hb hby at_272) rfl (teq (by decide)).2 ?_
    show Steps p.tables e below (T145.setTop (mkF m 275 #[.val (.int p1), .val (.int p2), .val (.int p3), .val (.int p4), .val (.int (p1 &&& (3 : Int32))), .val (.ref bs0), .val (.ref bs1), .val (.ref bs2), .val (.ref br), .val (.ref ba), .val (.int (((((1 : Int32) &&& (1 : Int32)) &&& (1 : Int32)) &&& (1 : Int32)) &&& (1 : Int32)))] [(.int (((((1 : Int32) &&& (1 : Int32)) &&& (1 : Int32)) &&& (1 : Int32)) &&& (1 : Int32)))])) _
    refine XS.iconst X145.here hx rfl (hb hby at_275) ?_
    show Steps p.tables e below (T145.setTop (mkF m 276 #[.val (.int p1), .val (.int p2), .val (.int p3), .val (.int p4), .val (.int (p1 &&& (3 : Int32))), .val (.ref bs0), .val (.ref bs1), .val (.ref bs2), .val (.ref br), .val (.ref ba), .val (.int (((((1 : Int32) &&& (1 : Int32)) &&& (1 : Int32)) &&& (1 : Int32)) &&& (1 : Int32)))] [(.int (1 : Int32)), (.int (((((1 : Int32) &&& (1 : Int32)) &&& (1 : Int32)) &&& (1 : Int32)) &&& (1 : Int32)))])) _
    refine XS.goto X145.here hx rfl (pc0 := 276) (pc' := 280) rfl (hb hby at_276) (by decide) (by decide) ?_
    show Steps p.tables e below (T145.setTop (mkF m 280 #[.val (.int p1), .val (.int p2), .val (.int p3), .val (.int p4), .val (.int (p1 &&& (3 : Int32))), .val (.ref bs0), .val (.ref bs1), .val (.ref bs2), .val (.ref br), .val (.ref ba), .val (.int (((((1 : Int32) &&& (1 : Int32)) &&& (1 : Int32)) &&& (1 : Int32)) &&& (1 : Int32)))] [(.int (1 : Int32)), (.int (((((1 : Int32) &&& (1 : Int32)) &&& (1 : Int32)) &&& (1 : Int32)) &&& (1 : Int32)))])) _
    refine XS.iand X145.here hx rfl (hb hby at_280) rfl ?_
    show Steps p.tables e below (T145.setTop (mkF m 281 #[.val (.int p1), .val (.int p2), .val (.int p3), .val (.int p4), .val (.int (p1 &&& (3 : Int32))), .val (.ref bs0), .val (.ref bs1), .val (.ref bs2), .val (.ref br), .val (.ref ba), .val (.int (((((1 : Int32) &&& (1 : Int32)) &&& (1 : Int32)) &&& (1 : Int32)) &&& (1 : Int32)))] [(.int ((((((1 : Int32) &&& (1 : Int32)) &&& (1 : Int32)) &&& (1 : Int32)) &&& (1 : Int32)) &&& (1 : Int32)))])) _
    refine XS.istore X145.here hx rfl (hb hby at_281) rfl (l' := #[.val (.int p1), .val (.int p2), .val (.int p3), .val (.int p4), .val (.int (p1 &&& (3 : Int32))), .val (.ref bs0), .val (.ref bs1), .val (.ref bs2), .val (.ref br), .val (.ref ba), .val (.int ((((((1 : Int32) &&& (1 : Int32)) &&& (1 : Int32)) &&& (1 : Int32)) &&& (1 : Int32)) &&& (1 : Int32)))]) rfl ?_
    show Steps p.tables e below (T145.setTop (mkF m 283 #[.val (.int p1), .val (.int p2), .val (.int p3), .val (.int p4), .val (.int (p1 &&& (3 : Int32))), .val (.ref bs0), .val (.ref bs1), .val (.ref bs2), .val (.ref br), .val (.ref ba), .val (.int ((((((1 : Int32) &&& (1 : Int32)) &&& (1 : Int32)) &&& (1 : Int32)) &&& (1 : Int32)) &&& (1 : Int32)))] [])) _
    refine XS.iload X145.here hx rfl (hb hby at_283) rfl ?_
    show Steps p.tables e below (T145.setTop (mkF m 285 #[.val (.int p1), .val (.int p2), .val (.int p3), .val (.int p4), .val (.int (p1 &&& (3 : Int32))), .val (.ref bs0), .val (.ref bs1), .val (.ref bs2), .val (.ref br), .val (.ref ba), .val (.int ((((((1 : Int32) &&& (1 : Int32)) &&& (1 : Int32)) &&& (1 : Int32)) &&& (1 : Int32)) &&& (1 : Int32)))] [(.int (p1 &&& (3 : Int32)))])) _
    refine XS.iconst X145.here hx rfl (hb hby at_285) ?_
    show Steps p.tables e below (T145.setTop (mkF m 286 #[.val (.int p1), .val (.int p2), .val (.int p3), .val (.int p4), .val (.int (p1 &&& (3 : Int32))), .val (.ref bs0), .val (.ref bs1), .val (.ref bs2), .val (.ref br), .val (.ref ba), .val (.int ((((((1 : Int32) &&& (1 : Int32)) &&& (1 : Int32)) &&& (1 : Int32)) &&& (1 : Int32)) &&& (1 : Int32)))] [(.int (2 : Int32)), (.int (p1 &&& (3 : Int32)))])) _
    refine XS.icmpNo X145.here hx rfl (hb hby at_286) rfl (tlt (by rw [hn]; decide)).2.2.2 ?_
    show Steps p.tables e below (T145.setTop (mkF m 289 #[.val (.int p1), .val (.int p2), .val (.int p3), .val (.int p4), .val (.int (p1 &&& (3 : Int32))), .val (.ref bs0), .val (.ref bs1), .val (.ref bs2), .val (.ref br), .val (.ref ba), .val (.int ((((((1 : Int32) &&& (1 : Int32)) &&& (1 : Int32)) &&& (1 : Int32)) &&& (1 : Int32)) &&& (1 : Int32)))] [])) _
    refine XS.iload X145.here hx rfl (hb hby at_289) rfl ?_
    show Steps p.tables e below (T145.setTop (mkF m 291 #[.val (.int p1), .val (.int p2), .val (.int p3), .val (.int p4), .val (.int (p1 &&& (3 : Int32))), .val (.ref bs0), .val (.ref bs1), .val (.ref bs2), .val (.ref br), .val (.ref ba), .val (.int ((((((1 : Int32) &&& (1 : Int32)) &&& (1 : Int32)) &&& (1 : Int32)) &&& (1 : Int32)) &&& (1 : Int32)))] [(.int ((((((1 : Int32) &&& (1 : Int32)) &&& (1 : Int32)) &&& (1 : Int32)) &&& (1 : Int32)) &&& (1 : Int32)))])) _
    refine XS.aload X145.here hx rfl (hb hby at_291) rfl rfl ?_
    show Steps p.tables e below (T145.setTop (mkF m 293 #[.val (.int p1), .val (.int p2), .val (.int p3), .val (.int p4), .val (.int (p1 &&& (3 : Int32))), .val (.ref bs0), .val (.ref bs1), .val (.ref bs2), .val (.ref br), .val (.ref ba), .val (.int ((((((1 : Int32) &&& (1 : Int32)) &&& (1 : Int32)) &&& (1 : Int32)) &&& (1 : Int32)) &&& (1 : Int32)))] [(.ref bs2), (.int ((((((1 : Int32) &&& (1 : Int32)) &&& (1 : Int32)) &&& (1 : Int32)) &&& (1 : Int32)) &&& (1 : Int32)))])) _
    refine XS.aload X145.here hx rfl (hb hby at_293) rfl rfl ?_
    show Steps p.tables e below (T145.setTop (mkF m 295 #[.val (.int p1), .val (.int p2), .val (.int p3), .val (.int p4), .val (.int (p1 &&& (3 : Int32))), .val (.ref bs0), .val (.ref bs1), .val (.ref bs2), .val (.ref br), .val (.ref ba), .val (.int ((((((1 : Int32) &&& (1 : Int32)) &&& (1 : Int32)) &&& (1 : Int32)) &&& (1 : Int32)) &&& (1 : Int32)))] [(.ref ba), (.ref bs2), (.int ((((((1 : Int32) &&& (1 : Int32)) &&& (1 : Int32)) &&& (1 : Int32)) &&& (1 : Int32)) &&& (1 : Int32)))])) _
    exact k)
  obtain ⟨cq148, kq148, q148a, q148b, q148c⟩ := isOf hZ e145 E_ba_140
  obtain ⟨_, _, ⟨T148, L148, k148, n148⟩, -, X148, ⟨Lc148, hQ148, l148, y148, z148⟩, st148⟩ := X145.virtualBack hx (y := (⟨"com/example/arcsieve/arcsieve/Arguments", "next", "()Ljava/lang/String;"⟩ : MethodName)) (z := (⟨"com/example/arcsieve/arcsieve/Arguments", "next", "()Ljava/lang/String;"⟩ : MethodName)) hown (mvT hZ (hw _ (List.mem_of_getElem? (i := 58) rfl))) (mvT hZ (hw _ (List.mem_of_getElem? (i := 59) rfl))) (notFace_of_selects (args := #[]) (mvT hZ (hw _ (List.mem_of_getElem? (i := 61) rfl)))) (mvT hZ (hw _ (List.mem_of_getElem? (i := 61) rfl))) (mvT hZ (hw _ (List.mem_of_getElem? (i := 60) rfl))) (by decide) (backOf (W := 2) (rm8 l Z a0 hw [] ba bc bs2 (((0 : Int32) + (1 : Int32)) + (1 : Int32)) k105 (3 : Int32) [(.ref bs0), (.ref bs1), (.ref bs2)] T140.heap n0 (Nat.le_trans Z0 KK140.1) E_ba_140 Fn140 Fa140 Vc123_140 ⟨by decide, by decide⟩ rfl g_ba o_ba_bc) hZ (hw _ (List.mem_of_getElem? (i := 62) rfl)) (hw _ (List.mem_of_getElem? (i := 30) rfl)) (by decide) (by decide)) q148a q148c (g := (mkF m 295 #[.val (.int p1), .val (.int p2), .val (.int p3), .val (.int p4), .val (.int (p1 &&& (3 : Int32))), .val (.ref bs0), .val (.ref bs1), .val (.ref bs2), .val (.ref br), .val (.ref ba), .val (.int ((((((1 : Int32) &&& (1 : Int32)) &&& (1 : Int32)) &&& (1 : Int32)) &&& (1 : Int32)) &&& (1 : Int32)))] [(.ref ba), (.ref bs2), (.int ((((((1 : Int32) &&& (1 : Int32)) &&& (1 : Int32)) &&& (1 : Int32)) &&& (1 : Int32)) &&& (1 : Int32)))])) rfl (by rw [hml]; rfl) (Steps.refl _) (argsL := []) (rest := [(.ref bs2), (.int ((((((1 : Int32) &&& (1 : Int32)) &&& (1 : Int32)) &&& (1 : Int32)) &&& (1 : Int32)) &&& (1 : Int32)))]) (lenOf pdx_6 rfl) rfl (by show 2 * 0 + _ ≤ _; exact Nat.le_of_eq rfl) (hb hby at_295) (fun _ _ => ⟨rfl, e145, (by decide : 11 + 0 ≤ _), (by decide : 40 + 0 ≤ _)⟩)
  dsimp only [Pt.U, Pt.locs, Pt.cells, Pt.slots] at X148 l148 y148 z148 st148 hQ148
  subst l148 y148 z148
  obtain ⟨rfl, N148q, K148, Fn148, Fa148⟩ := hQ148
  have N148 := Fr.app N145 N148q
  have pre149 : ∀ t, Steps p.tables e below (T148.setTop (mkF m 298 #[.val (.int p1), .val (.int p2), .val (.int p3), .val (.int p4), .val (.int (p1 &&& (3 : Int32))), .val (.ref bs0), .val (.ref bs1), .val (.ref bs2), .val (.ref br), .val (.ref ba), .val (.int ((((((1 : Int32) &&& (1 : Int32)) &&& (1 : Int32)) &&& (1 : Int32)) &&& (1 : Int32)) &&& (1 : Int32)))] [(.ref bs2), (.ref bs2), (.int ((((((1 : Int32) &&& (1 : Int32)) &&& (1 : Int32)) &&& (1 : Int32)) &&& (1 : Int32)) &&& (1 : Int32)))])) t → Steps p.tables e below (s₁.setTop (entryFrame m #[(.int p1), (.int p2), (.int p3), (.int p4)] maxLocals)) t := fun t k => pre147 t (by
    show Steps p.tables e below (T145.setTop (mkF m 295 #[.val (.int p1), .val (.int p2), .val (.int p3), .val (.int p4), .val (.int (p1 &&& (3 : Int32))), .val (.ref bs0), .val (.ref bs1), .val (.ref bs2), .val (.ref br), .val (.ref ba), .val (.int ((((((1 : Int32) &&& (1 : Int32)) &&& (1 : Int32)) &&& (1 : Int32)) &&& (1 : Int32)) &&& (1 : Int32)))] [(.ref ba), (.ref bs2), (.int ((((((1 : Int32) &&& (1 : Int32)) &&& (1 : Int32)) &&& (1 : Int32)) &&& (1 : Int32)) &&& (1 : Int32)))])) t
    refine st148.trans ?_
    show Steps p.tables e below (T148.setTop (mkF m 298 #[.val (.int p1), .val (.int p2), .val (.int p3), .val (.int p4), .val (.int (p1 &&& (3 : Int32))), .val (.ref bs0), .val (.ref bs1), .val (.ref bs2), .val (.ref br), .val (.ref ba), .val (.int ((((((1 : Int32) &&& (1 : Int32)) &&& (1 : Int32)) &&& (1 : Int32)) &&& (1 : Int32)) &&& (1 : Int32)))] [(.ref bs2), (.ref bs2), (.int ((((((1 : Int32) &&& (1 : Int32)) &&& (1 : Int32)) &&& (1 : Int32)) &&& (1 : Int32)) &&& (1 : Int32)))])) t
    exact k)
  have E_bs0_148 := E_bs0_140.keep K148
  have E_bs1_148 := E_bs1_140.keep K148
  have E_bs2_148 := E_bs2_140.keep K148
  have E_ba_148 := E_ba_140.keep K148
  have Vc123_148 := Vc123_140.keep K148 (List.not_mem_cons_of_ne_of_not_mem (Nat.ne_of_gt o_ba_bc) List.not_mem_nil)
  have KK148 := KK140.trans K148 (own_k1 (Or.inr sz_ba))
  have hkk148 := Nat.le_trans hkk140 K148.1
  obtain ⟨cq150, kq150, q150a, q150b, q150c⟩ := isOf hZ rfl E_bs2_148
  obtain ⟨_, _, ⟨T150, L150, k150, n150⟩, -, X150, ⟨Lc150, hQ150, l150, y150, z150⟩, st150⟩ := X148.virtualBack hx (y := (⟨"java/lang/String", "equals", "(Ljava/lang/Object;)Z"⟩ : MethodName)) (z := (⟨"java/lang/String", "equals", "(Ljava/lang/Object;)Z"⟩ : MethodName)) hown (mvT hZ (hw _ (List.mem_of_getElem? (i := 63) rfl))) (mvT hZ (hw _ (List.mem_of_getElem? (i := 64) rfl))) (notFace_of_selects (args := #[]) (mvT hZ (hw _ (List.mem_of_getElem? (i := 66) rfl)))) (mvT hZ (hw _ (List.mem_of_getElem? (i := 66) rfl))) (mvT hZ (hw _ (List.mem_of_getElem? (i := 65) rfl))) (by decide) (backOf (W := 1) (rm9 l Z a0 hw [] bs2 bs2  T148.heap n0 (Nat.le_trans Z0 KK148.1) rfl) hZ (hw _ (List.mem_of_getElem? (i := 67) rfl)) (hw _ (List.mem_of_getElem? (i := 2) rfl)) (by decide) (by decide)) q150a q150c (g := (mkF m 298 #[.val (.int p1), .val (.int p2), .val (.int p3), .val (.int p4), .val (.int (p1 &&& (3 : Int32))), .val (.ref bs0), .val (.ref bs1), .val (.ref bs2), .val (.ref br), .val (.ref ba), .val (.int ((((((1 : Int32) &&& (1 : Int32)) &&& (1 : Int32)) &&& (1 : Int32)) &&& (1 : Int32)) &&& (1 : Int32)))] [(.ref bs2), (.ref bs2), (.int ((((((1 : Int32) &&& (1 : Int32)) &&& (1 : Int32)) &&& (1 : Int32)) &&& (1 : Int32)) &&& (1 : Int32)))])) rfl (by rw [hml]; rfl) (Steps.refl _) (argsL := [(.ref bs2)]) (rest := [(.int ((((((1 : Int32) &&& (1 : Int32)) &&& (1 : Int32)) &&& (1 : Int32)) &&& (1 : Int32)) &&& (1 : Int32)))]) (lenOf pdx_7 rfl) rfl (by show 2 * 0 + _ ≤ _; exact Nat.le_of_eq rfl) (hb hby at_298) (fun _ _ => ⟨rfl, rfl, (by decide : 11 + 0 ≤ _), (by decide : 40 + 0 ≤ _)⟩)
  dsimp only [Pt.U, Pt.locs, Pt.cells, Pt.slots] at X150 l150 y150 z150 st150 hQ150
  subst l150 y150 z150
  obtain ⟨rfl, N150q, e150⟩ := hQ150
  have N150 := Fr.app N148 N150q
  have pre151 : ∀ t, Steps p.tables e below (T150.setTop (mkF m 301 #[.val (.int p1), .val (.int p2), .val (.int p3), .val (.int p4), .val (.int (p1 &&& (3 : Int32))), .val (.ref bs0), .val (.ref bs1), .val (.ref bs2), .val (.ref br), .val (.ref ba), .val (.int ((((((1 : Int32) &&& (1 : Int32)) &&& (1 : Int32)) &&& (1 : Int32)) &&& (1 : Int32)) &&& (1 : Int32)))] [(.int (1 : Int32)), (.int ((((((1 : Int32) &&& (1 : Int32)) &&& (1 : Int32)) &&& (1 : Int32)) &&& (1 : Int32)) &&& (1 : Int32)))])) t → Steps p.tables e below (s₁.setTop (entryFrame m #[(.int p1), (.int p2), (.int p3), (.int p4)] maxLocals)) t := fun t k => pre149 t (by
    show Steps p.tables e below (T148.setTop (mkF m 298 #[.val (.int p1), .val (.int p2), .val (.int p3), .val (.int p4), .val (.int (p1 &&& (3 : Int32))), .val (.ref bs0), .val (.ref bs1), .val (.ref bs2), .val (.ref br), .val (.ref ba), .val (.int ((((((1 : Int32) &&& (1 : Int32)) &&& (1 : Int32)) &&& (1 : Int32)) &&& (1 : Int32)) &&& (1 : Int32)))] [(.ref bs2), (.ref bs2), (.int ((((((1 : Int32) &&& (1 : Int32)) &&& (1 : Int32)) &&& (1 : Int32)) &&& (1 : Int32)) &&& (1 : Int32)))])) t
    refine st150.trans ?_
    show Steps p.tables e below (T150.setTop (mkF m 301 #[.val (.int p1), .val (.int p2), .val (.int p3), .val (.int p4), .val (.int (p1 &&& (3 : Int32))), .val (.ref bs0), .val (.ref bs1), .val (.ref bs2), .val (.ref br), .val (.ref ba), .val (.int ((((((1 : Int32) &&& (1 : Int32)) &&& (1 : Int32)) &&& (1 : Int32)) &&& (1 : Int32)) &&& (1 : Int32)))] [(.int (1 : Int32)), (.int ((((((1 : Int32) &&& (1 : Int32)) &&& (1 : Int32)) &&& (1 : Int32)) &&& (1 : Int32)) &&& (1 : Int32)))])) t
    exact k)
  have pre152 : ∀ t, Steps p.tables e below (T150.setTop (mkF m 308 #[.val (.int p1), .val (.int p2), .val (.int p3), .val (.int p4), .val (.int (p1 &&& (3 : Int32))), .val (.ref bs0), .val (.ref bs1), .val (.ref bs2), .val (.ref br), .val (.ref ba), .val (.int (((((((1 : Int32) &&& (1 : Int32)) &&& (1 : Int32)) &&& (1 : Int32)) &&& (1 : Int32)) &&& (1 : Int32)) &&& (1 : Int32)))] [(.ref ba), (.int (((((((1 : Int32) &&& (1 : Int32)) &&& (1 : Int32)) &&& (1 : Int32)) &&& (1 : Int32)) &&& (1 : Int32)) &&& (1 : Int32)))])) t → Steps p.tables e below (s₁.setTop (entryFrame m #[(.int p1), (.int p2), (.int p3), (.int p4)] maxLocals)) t := fun t k => pre151 t (by
    show Steps p.tables e below (T150.setTop (mkF m 301 #[.val (.int p1), .val (.int p2), .val (.int p3), .val (.int p4), .val (.int (p1 &&& (3 : Int32))), .val (.ref bs0), .val (.ref bs1), .val (.ref bs2), .val (.ref br), .val (.ref ba), .val (.int ((((((1 : Int32) &&& (1 : Int32)) &&& (1 : Int32)) &&& (1 : Int32)) &&& (1 : Int32)) &&& (1 : Int32)))] [(.int (1 : Int32)), (.int ((((((1 : Int32) &&& (1 : Int32)) &&& (1 : Int32)) &&& (1 : Int32)) &&& (1 : Int32)) &&& (1 : Int32)))])) _
    refine XS.iand X150.here hx rfl (hb hby at_301) rfl ?_
    show Steps p.tables e below (T150.setTop (mkF m 302 #[.val (.int p1), .val (.int p2), .val (.int p3), .val (.int p4), .val (.int (p1 &&& (3 : Int32))), .val (.ref bs0), .val (.ref bs1), .val (.ref bs2), .val (.ref br), .val (.ref ba), .val (.int ((((((1 : Int32) &&& (1 : Int32)) &&& (1 : Int32)) &&& (1 : Int32)) &&& (1 : Int32)) &&& (1 : Int32)))] [(.int (((((((1 : Int32) &&& (1 : Int32)) &&& (1 : Int32)) &&& (1 : Int32)) &&& (1 : Int32)) &&& (1 : Int32)) &&& (1 : Int32)))])) _
    refine XS.istore X150.here hx rfl (hb hby at_302) rfl (l' := #[.val (.int p1), .val (.int p2), .val (.int p3), .val (.int p4), .val (.int (p1 &&& (3 : Int32))), .val (.ref bs0), .val (.ref bs1), .val (.ref bs2), .val (.ref br), .val (.ref ba), .val (.int (((((((1 : Int32) &&& (1 : Int32)) &&& (1 : Int32)) &&& (1 : Int32)) &&& (1 : Int32)) &&& (1 : Int32)) &&& (1 : Int32)))]) rfl ?_
    show Steps p.tables e below (T150.setTop (mkF m 304 #[.val (.int p1), .val (.int p2), .val (.int p3), .val (.int p4), .val (.int (p1 &&& (3 : Int32))), .val (.ref bs0), .val (.ref bs1), .val (.ref bs2), .val (.ref br), .val (.ref ba), .val (.int (((((((1 : Int32) &&& (1 : Int32)) &&& (1 : Int32)) &&& (1 : Int32)) &&& (1 : Int32)) &&& (1 : Int32)) &&& (1 : Int32)))] [])) _
    refine XS.iload X150.here hx rfl (hb hby at_304) rfl ?_
    show Steps p.tables e below (T150.setTop (mkF m 306 #[.val (.int p1), .val (.int p2), .val (.int p3), .val (.int p4), .val (.int (p1 &&& (3 : Int32))), .val (.ref bs0), .val (.ref bs1), .val (.ref bs2), .val (.ref br), .val (.ref ba), .val (.int (((((((1 : Int32) &&& (1 : Int32)) &&& (1 : Int32)) &&& (1 : Int32)) &&& (1 : Int32)) &&& (1 : Int32)) &&& (1 : Int32)))] [(.int (((((((1 : Int32) &&& (1 : Int32)) &&& (1 : Int32)) &&& (1 : Int32)) &&& (1 : Int32)) &&& (1 : Int32)) &&& (1 : Int32)))])) _
    refine XS.aload X150.here hx rfl (hb hby at_306) rfl rfl ?_
    show Steps p.tables e below (T150.setTop (mkF m 308 #[.val (.int p1), .val (.int p2), .val (.int p3), .val (.int p4), .val (.int (p1 &&& (3 : Int32))), .val (.ref bs0), .val (.ref bs1), .val (.ref bs2), .val (.ref br), .val (.ref ba), .val (.int (((((((1 : Int32) &&& (1 : Int32)) &&& (1 : Int32)) &&& (1 : Int32)) &&& (1 : Int32)) &&& (1 : Int32)) &&& (1 : Int32)))] [(.ref ba), (.int (((((((1 : Int32) &&& (1 : Int32)) &&& (1 : Int32)) &&& (1 : Int32)) &&& (1 : Int32)) &&& (1 : Int32)) &&& (1 : Int32)))])) _
    exact k)
  obtain ⟨cq153, kq153, q153a, q153b, q153c⟩ := isOf hZ e150 E_ba_148
  obtain ⟨_, _, ⟨T153, L153, k153, n153⟩, -, X153, ⟨Lc153, hQ153, l153, y153, z153⟩, st153⟩ := X150.virtualBack hx (y := (⟨"com/example/arcsieve/arcsieve/Arguments", "hasNext", "()Z"⟩ : MethodName)) (z := (⟨"com/example/arcsieve/arcsieve/Arguments", "hasNext", "()Z"⟩ : MethodName)) hown (mvT hZ (hw _ (List.mem_of_getElem? (i := 51) rfl))) (mvT hZ (hw _ (List.mem_of_getElem? (i := 52) rfl))) (notFace_of_selects (args := #[]) (mvT hZ (hw _ (List.mem_of_getElem? (i := 54) rfl)))) (mvT hZ (hw _ (List.mem_of_getElem? (i := 54) rfl))) (mvT hZ (hw _ (List.mem_of_getElem? (i := 53) rfl))) (by decide) (backOf (W := 1) (rm7 l Z a0 hw [] ba bc ((((0 : Int32) + (1 : Int32)) + (1 : Int32)) + (1 : Int32)) k105 (3 : Int32) [(.ref bs0), (.ref bs1), (.ref bs2)] T148.heap n0 (Nat.le_trans Z0 KK148.1) Fn148 Fa148 Vc123_148) hZ (hw _ (List.mem_of_getElem? (i := 55) rfl)) (hw _ (List.mem_of_getElem? (i := 30) rfl)) (by decide) (by decide)) q153a q153c (g := (mkF m 308 #[.val (.int p1), .val (.int p2), .val (.int p3), .val (.int p4), .val (.int (p1 &&& (3 : Int32))), .val (.ref bs0), .val (.ref bs1), .val (.ref bs2), .val (.ref br), .val (.ref ba), .val (.int (((((((1 : Int32) &&& (1 : Int32)) &&& (1 : Int32)) &&& (1 : Int32)) &&& (1 : Int32)) &&& (1 : Int32)) &&& (1 : Int32)))] [(.ref ba), (.int (((((((1 : Int32) &&& (1 : Int32)) &&& (1 : Int32)) &&& (1 : Int32)) &&& (1 : Int32)) &&& (1 : Int32)) &&& (1 : Int32)))])) rfl (by rw [hml]; rfl) (Steps.refl _) (argsL := []) (rest := [(.int (((((((1 : Int32) &&& (1 : Int32)) &&& (1 : Int32)) &&& (1 : Int32)) &&& (1 : Int32)) &&& (1 : Int32)) &&& (1 : Int32)))]) (lenOf pdx_5 rfl) rfl (by show 2 * 0 + _ ≤ _; exact Nat.le_of_eq rfl) (hb hby at_308) (fun _ _ => ⟨rfl, e150, (by decide : 11 + 0 ≤ _), (by decide : 40 + 0 ≤ _)⟩)
  dsimp only [Pt.U, Pt.locs, Pt.cells, Pt.slots] at X153 l153 y153 z153 st153 hQ153
  subst l153 y153 z153
  obtain ⟨rfl, N153q, e153⟩ := hQ153
  have N153 := Fr.app N150 N153q
  have pre154 : ∀ t, Steps p.tables e below (T153.setTop (mkF m 311 #[.val (.int p1), .val (.int p2), .val (.int p3), .val (.int p4), .val (.int (p1 &&& (3 : Int32))), .val (.ref bs0), .val (.ref bs1), .val (.ref bs2), .val (.ref br), .val (.ref ba), .val (.int (((((((1 : Int32) &&& (1 : Int32)) &&& (1 : Int32)) &&& (1 : Int32)) &&& (1 : Int32)) &&& (1 : Int32)) &&& (1 : Int32)))] [(.int (own_has ((((0 : Int32) + (1 : Int32)) + (1 : Int32)) + (1 : Int32)) (3 : Int32))), (.int (((((((1 : Int32) &&& (1 : Int32)) &&& (1 : Int32)) &&& (1 : Int32)) &&& (1 : Int32)) &&& (1 : Int32)) &&& (1 : Int32)))])) t → Steps p.tables e below (s₁.setTop (entryFrame m #[(.int p1), (.int p2), (.int p3), (.int p4)] maxLocals)) t := fun t k => pre152 t (by
    show Steps p.tables e below (T150.setTop (mkF m 308 #[.val (.int p1), .val (.int p2), .val (.int p3), .val (.int p4), .val (.int (p1 &&& (3 : Int32))), .val (.ref bs0), .val (.ref bs1), .val (.ref bs2), .val (.ref br), .val (.ref ba), .val (.int (((((((1 : Int32) &&& (1 : Int32)) &&& (1 : Int32)) &&& (1 : Int32)) &&& (1 : Int32)) &&& (1 : Int32)) &&& (1 : Int32)))] [(.ref ba), (.int (((((((1 : Int32) &&& (1 : Int32)) &&& (1 : Int32)) &&& (1 : Int32)) &&& (1 : Int32)) &&& (1 : Int32)) &&& (1 : Int32)))])) t
    refine st153.trans ?_
    show Steps p.tables e below (T153.setTop (mkF m 311 #[.val (.int p1), .val (.int p2), .val (.int p3), .val (.int p4), .val (.int (p1 &&& (3 : Int32))), .val (.ref bs0), .val (.ref bs1), .val (.ref bs2), .val (.ref br), .val (.ref ba), .val (.int (((((((1 : Int32) &&& (1 : Int32)) &&& (1 : Int32)) &&& (1 : Int32)) &&& (1 : Int32)) &&& (1 : Int32)) &&& (1 : Int32)))] [(.int (own_has ((((0 : Int32) + (1 : Int32)) + (1 : Int32)) + (1 : Int32)) (3 : Int32))), (.int (((((((1 : Int32) &&& (1 : Int32)) &&& (1 : Int32)) &&& (1 : Int32)) &&& (1 : Int32)) &&& (1 : Int32)) &&& (1 : Int32)))])) t
    exact k)
  have pre155 : ∀ t, Steps p.tables e below (T153.setTop (mkF m 324 #[.val (.int p1), .val (.int p2), .val (.int p3), .val (.int p4), .val (.int (p1 &&& (3 : Int32))), .val (.ref bs0), .val (.ref bs1), .val (.ref bs2), .val (.ref br), .val (.ref ba), .val (.int ((((((((1 : Int32) &&& (1 : Int32)) &&& (1 : Int32)) &&& (1 : Int32)) &&& (1 : Int32)) &&& (1 : Int32)) &&& (1 : Int32)) &&& (1 : Int32)))] [(.int ((((((((1 : Int32) &&& (1 : Int32)) &&& (1 : Int32)) &&& (1 : Int32)) &&& (1 : Int32)) &&& (1 : Int32)) &&& (1 : Int32)) &&& (1 : Int32)))])) t → Steps p.tables e below (s₁.setTop (entryFrame m #[(.int p1), (.int p2), (.int p3), (.int p4)] maxLocals)) t := fun t k => pre154 t (by
    show Steps p.tables e below (T153.setTop (mkF m 311 #[.val (.int p1), .val (.int p2), .val (.int p3), .val (.int p4), .val (.int (p1 &&& (3 : Int32))), .val (.ref bs0), .val (.ref bs1), .val (.ref bs2), .val (.ref br), .val (.ref ba), .val (.int (((((((1 : Int32) &&& (1 : Int32)) &&& (1 : Int32)) &&& (1 : Int32)) &&& (1 : Int32)) &&& (1 : Int32)) &&& (1 : Int32)))] [(.int (own_has ((((0 : Int32) + (1 : Int32)) + (1 : Int32)) + (1 : Int32)) (3 : Int32))), (.int (((((((1 : Int32) &&& (1 : Int32)) &&& (1 : Int32)) &&& (1 : Int32)) &&& (1 : Int32)) &&& (1 : Int32)) &&& (1 : Int32)))])) _
    refine XS.ifNo X153.here hx rfl (hb hby at_311) rfl ((if0 _ _).trans (teq (by decide)).2) ?_
    show Steps p.tables e below (T153.setTop (mkF m 314 #[.val (.int p1), .val (.int p2), .val (.int p3), .val (.int p4), .val (.int (p1 &&& (3 : Int32))), .val (.ref bs0), .val (.ref bs1), .val (.ref bs2), .val (.ref br), .val (.ref ba), .val (.int (((((((1 : Int32) &&& (1 : Int32)) &&& (1 : Int32)) &&& (1 : Int32)) &&& (1 : Int32)) &&& (1 : Int32)) &&& (1 : Int32)))] [(.int (((((((1 : Int32) &&& (1 : Int32)) &&& (1 : Int32)) &&& (1 : Int32)) &&& (1 : Int32)) &&& (1 : Int32)) &&& (1 : Int32)))])) _
    refine XS.iconst X153.here hx rfl (hb hby at_314) ?_
    show Steps p.tables e below (T153.setTop (mkF m 315 #[.val (.int p1), .val (.int p2), .val (.int p3), .val (.int p4), .val (.int (p1 &&& (3 : Int32))), .val (.ref bs0), .val (.ref bs1), .val (.ref bs2), .val (.ref br), .val (.ref ba), .val (.int (((((((1 : Int32) &&& (1 : Int32)) &&& (1 : Int32)) &&& (1 : Int32)) &&& (1 : Int32)) &&& (1 : Int32)) &&& (1 : Int32)))] [(.int (1 : Int32)), (.int (((((((1 : Int32) &&& (1 : Int32)) &&& (1 : Int32)) &&& (1 : Int32)) &&& (1 : Int32)) &&& (1 : Int32)) &&& (1 : Int32)))])) _
    refine XS.goto X153.here hx rfl (pc0 := 315) (pc' := 319) rfl (hb hby at_315) (by decide) (by decide) ?_
    show Steps p.tables e below (T153.setTop (mkF m 319 #[.val (.int p1), .val (.int p2), .val (.int p3), .val (.int p4), .val (.int (p1 &&& (3 : Int32))), .val (.ref bs0), .val (.ref bs1), .val (.ref bs2), .val (.ref br), .val (.ref ba), .val (.int (((((((1 : Int32) &&& (1 : Int32)) &&& (1 : Int32)) &&& (1 : Int32)) &&& (1 : Int32)) &&& (1 : Int32)) &&& (1 : Int32)))] [(.int (1 : Int32)), (.int (((((((1 : Int32) &&& (1 : Int32)) &&& (1 : Int32)) &&& (1 : Int32)) &&& (1 : Int32)) &&& (1 : Int32)) &&& (1 : Int32)))])) _
    refine XS.iand X153.here hx rfl (hb hby at_319) rfl ?_
    show Steps p.tables e below (T153.setTop (mkF m 320 #[.val (.int p1), .val (.int p2), .val (.int p3), .val (.int p4), .val (.int (p1 &&& (3 : Int32))), .val (.ref bs0), .val (.ref bs1), .val (.ref bs2), .val (.ref br), .val (.ref ba), .val (.int (((((((1 : Int32) &&& (1 : Int32)) &&& (1 : Int32)) &&& (1 : Int32)) &&& (1 : Int32)) &&& (1 : Int32)) &&& (1 : Int32)))] [(.int ((((((((1 : Int32) &&& (1 : Int32)) &&& (1 : Int32)) &&& (1 : Int32)) &&& (1 : Int32)) &&& (1 : Int32)) &&& (1 : Int32)) &&& (1 : Int32)))])) _
    refine XS.istore X153.here hx rfl (hb hby at_320) rfl (l' := #[.val (.int p1), .val (.int p2), .val (.int p3), .val (.int p4), .val (.int (p1 &&& (3 : Int32))), .val (.ref bs0), .val (.ref bs1), .val (.ref bs2), .val (.ref br), .val (.ref ba), .val (.int ((((((((1 : Int32) &&& (1 : Int32)) &&& (1 : Int32)) &&& (1 : Int32)) &&& (1 : Int32)) &&& (1 : Int32)) &&& (1 : Int32)) &&& (1 : Int32)))]) rfl ?_
    show Steps p.tables e below (T153.setTop (mkF m 322 #[.val (.int p1), .val (.int p2), .val (.int p3), .val (.int p4), .val (.int (p1 &&& (3 : Int32))), .val (.ref bs0), .val (.ref bs1), .val (.ref bs2), .val (.ref br), .val (.ref ba), .val (.int ((((((((1 : Int32) &&& (1 : Int32)) &&& (1 : Int32)) &&& (1 : Int32)) &&& (1 : Int32)) &&& (1 : Int32)) &&& (1 : Int32)) &&& (1 : Int32)))] [])) _
    refine XS.iload X153.here hx rfl (hb hby at_322) rfl ?_
    show Steps p.tables e below (T153.setTop (mkF m 324 #[.val (.int p1), .val (.int p2), .val (.int p3), .val (.int p4), .val (.int (p1 &&& (3 : Int32))), .val (.ref bs0), .val (.ref bs1), .val (.ref bs2), .val (.ref br), .val (.ref ba), .val (.int ((((((((1 : Int32) &&& (1 : Int32)) &&& (1 : Int32)) &&& (1 : Int32)) &&& (1 : Int32)) &&& (1 : Int32)) &&& (1 : Int32)) &&& (1 : Int32)))] [(.int ((((((((1 : Int32) &&& (1 : Int32)) &&& (1 : Int32)) &&& (1 : Int32)) &&& (1 : Int32)) &&& (1 : Int32)) &&& (1 : Int32)) &&& (1 : Int32)))])) _
    exact k)
  obtain ⟨fs, hr, hrun, hended, hend⟩ := X153.leaveW hSs (show k1 ≤ T153.heap.size by first | exact hkk148 | (rw [e153]; exact hkk148)) (v := some (.int (1 : Int32))) (fun h => by rw [Bd.returns] at h; cases h)
  refine ⟨_, _, pre155 _ ?_, hrun, hended, _, _, rfl, ⟨rfl, N153⟩, ⟨hend.1, hend.2.1, hend.2.2.1, hend.2.2.2.mono (by decide) (by decide)⟩⟩
  show Steps p.tables e below (T153.setTop (mkF m 324 #[.val (.int p1), .val (.int p2), .val (.int p3), .val (.int p4), .val (.int (p1 &&& (3 : Int32))), .val (.ref bs0), .val (.ref bs1), .val (.ref bs2), .val (.ref br), .val (.ref ba), .val (.int ((((((((1 : Int32) &&& (1 : Int32)) &&& (1 : Int32)) &&& (1 : Int32)) &&& (1 : Int32)) &&& (1 : Int32)) &&& (1 : Int32)) &&& (1 : Int32)))] [(.int ((((((((1 : Int32) &&& (1 : Int32)) &&& (1 : Int32)) &&& (1 : Int32)) &&& (1 : Int32)) &&& (1 : Int32)) &&& (1 : Int32)) &&& (1 : Int32)))])) _
  exact retN X153 hx (t := .boolean) Bd.returns (by simp) (hb hby at_324) hr
set_option maxRecDepth 65536 in
set_option maxHeartbeats 40000000 in
theorem comes_1 {Post : Tables → Env → Array Value → State → Outcome → State → Prop} (hpost : ∀ tb e args s v u, (limb_1_1.after args s (.returned v) u = true ∧ limb_1_2.after args s (.returned v) u = true ∧ True) → FramedW s (.returned v) u (Jvm.fieldLocs frame_1_writes args s ++ Jvm.arrayLocs frame_1_arrays args s ++ Jvm.staticLocs frame_1_statics s) 32 1152 → Post tb e args s (.returned v) u) :
    ArmFor flags0 classFile x code maxLocals ret World_1 tables_1 room_1 Calls_1 rest_1 Pre_1 Post := by
  intro l hfl _ _ p e ha hc hk s m args below hf hA hF happ hP
  obtain ⟨hcalls, hrest, hpre⟩ := hP
  obtain ⟨-, -, -, hnamed, -, -, -, hat⟩ := (Spec.applies_iff hf).mp happ
  obtain ⟨hg, hn⟩ := and_e (Cond.before_iff.mp (show (Jvm.Cond.and given_1 narrow_1).before args s = true from hpre))
  obtain ⟨gc, ga0⟩ := and_e hg
  obtain ⟨gb0, ga1⟩ := and_e ga0
  obtain ⟨gb1, ga2⟩ := and_e ga1
  obtain ⟨gb2, ga3⟩ := and_e ga2
  obtain ⟨w0, w1, w2, w3, rfl⟩ : ∃ w0 w1 w2 w3 : Value, args = #[w0, w1, w2, w3] := by
    have hs : args.size = 4 := by simpa [Cond.value, given_1] using gc
    obtain ⟨L⟩ := args
    match L, hs with
    | [w0, w1, w2, w3], _ => exact ⟨w0, w1, w2, w3, rfl⟩
  have hw := fun d (hd : d ∈ tables_1) => atoms_spec (ws := Jvm.Cond.code x code maxLocals ret :: tables_1) hat d (List.mem_cons_of_mem _ hd)
  obtain ⟨i0, ei0⟩ := is_v gb0
  obtain rfl : w0 = (.int i0) := Option.some.inj ei0
  obtain ⟨i1, ei1⟩ := is_v gb1
  obtain rfl : w1 = (.int i1) := Option.some.inj ei1
  obtain ⟨i2, ei2⟩ := is_v gb2
  obtain rfl : w2 = (.int i2) := Option.some.inj ei2
  obtain ⟨i3, ei3⟩ := is_v ga3
  obtain rfl : w3 = (.int i3) := Option.some.inj ei3
  obtain ⟨hsets, hown0⟩ := atoms_of _ (rest_1_c_eq ▸ (show rest_1_c.before _ s = true from hrest))
  have hn3 := not_v (Cond.before_iff.mp (hsets _ (List.mem_of_getElem? (i := 2) rfl)))
  obtain ⟨cs7, ecs⟩ := is_v (Cond.before_iff.mp (hsets _ (List.mem_of_getElem? (i := 1) rfl)))
  have S8 : Sta s s.heap "java/lang/String" "COMPACT_STRINGS" "Z" (.int cs7) := Sta.start ecs (Or.inl (hsets _ (List.mem_of_getElem? (i := 0) rfl)))
  have c9 : ¬ (cs7 = (0 : Int32)) := gotF (Cond.eq_ints ecs (Term.int_eval (0))) hn3
  obtain ⟨n, o, h1, h2, h3, _, L, rfl, ⟨rfl, N⟩, hq⟩ := rm0 l s _ hw tables_1 i0 i1 i2 i3 cs7 s.heap s.heap.size (Nat.le_refl _) S8 c9  p e ha hc hk s m _ below hf ((Spec.applies_iff_loose hf).mp happ).1 ⟨rfl, State.Warmed39.refl s, rfl⟩ trivial
  refine ⟨n, _, h1, h2, h3, hpost _ _ _ _ _ _ ⟨Cond.after_iff.mpr rfl, Cond.after_iff.mpr (eq_i res_at (Term.int_eval (1)) rfl), trivial⟩ ⟨hq.1, hq.2.1, hq.2.2.1, (hq.2.2.2.sift fun y hy => Or.inr (N y hy)).mono (by decide) (by decide)⟩⟩
theorem main_1_1 : Claimed_1_1 := comes_1 fun _ _ _ _ _ _ h hF => ⟨h.1, hF⟩
theorem main_1_2 : Claimed_1_2 := comes_1 fun _ _ _ _ _ _ h hF => ⟨h.2.1, hF⟩
end Jvm.Pilot.@@N@@
namespace Jvm.Pilot.@@N@@
open Jvm Jvm.ClassFile Sem Op Lib Jvm.Free Jvm.Stand Jvm.Pilot.@@N@@.Jvm.D
/-! MADE BY PROGRAM (witnessworld.py) out of the Statement's table words and the real class files: 18 classes; the members and pool entries that the words name. The judged class is class 1, her method 1. -/
namespace start1
open Jvm.ClassFile
def u (s : String) : CpInfo := .utf8 (stringToUtf16 s)
/-- a pool by its gaps: so many unusable entries, then the entry; so many at the end -/
def gap : Nat → List CpInfo → List CpInfo
  | 0, r => r
  | n + 1, r => .unusable :: gap n r
def poolList (es : List (Nat × CpInfo)) (last : Nat) : List CpInfo := es.foldr (fun e r => gap e.1 (e.2 :: r)) (gap last [])
def pool (es : List (Nat × CpInfo)) (last : Nat) : Array CpInfo := ⟨poolList es last⟩
def fileOf (pool : Array CpInfo) (this : Nat) (attrs : Array Attribute := #[]) (ms : Array MethodInfo := #[]) (fl : Nat := 33) (sup : Nat := 0) (ifs : Array Nat := #[]) (fds : Array FieldInfo := #[]) : ClassFile where
  minorVersion := 0
  majorVersion := 65
  constantPool := pool
  accessFlags := fl
  thisClass := this
  superClass := sup
  interfaces := ifs
  fields := fds
  methods := ms
  attributes := attrs
def plain (name : String) (sup : Option ClassId) : Class where
  name := name
  kind := .ordinary
  loader := none
  accessFlags := 33
  super := sup
  interfaces := #[]
  cf := none
  fields := #[]
  methods := #[]
  instanceTypes := #[]
  staticTypes := #[]
  resolved := #[]
  callSites := []
  init := .initialized
  statics := none
  mirror := none

def pool0 : Array CpInfo := pool [(5, u "<init>"), (0, u "()V"), (1, .class_ 10), (1, u "java/lang/Object"), (85, u "clone"), (0, u "()Ljava/lang/Object;")] 26

def k0c0 : Code := { maxStack := 0, maxLocals := 1, code := object_method_1_code, exceptionTable := #[], attributes := #[] }
def k0m0 : Method := { name := "<init>", desc := "()V", sig := { parameters := [], returnType := none }, accessFlags := 1, code := some k0c0 }
def k0m1 : Method := { name := "clone", desc := "()Ljava/lang/Object;", sig := { parameters := [], returnType := some (.object "java/lang/Object") }, accessFlags := 260, code := none }
/-- java/lang/Object -/
def k0 : Class := { plain "java/lang/Object" none with
  accessFlags := 33
  interfaces := #[]
  cf := some (fileOf pool0 8 #[] #[{ accessFlags := 1, nameIndex := 5, descriptorIndex := 6, attributes := #[] }, { accessFlags := 260, nameIndex := 96, descriptorIndex := 97, attributes := #[] }] 33 0 #[] #[])
  fields := #[]
  methods := #[k0m0, k0m1]
  instanceTypes := #[]
  staticTypes := #[]
  resolved := Array.replicate 124 none
  statics := none }

def pool1 : Array CpInfo := pool [(2, .class_ 4), (1, u "java/lang/Object"), (0, u "<init>"), (0, u "()V"), (0, .methodref 8 9), (0, .class_ 10), (0, .nameAndType 11 12), (0, u "java/lang/String"), (0, u "valueOf"), (0, u "(C)Ljava/lang/String;"), (0, .class_ 14), (0, u "com/example/arcsieve/arcsieve/Arguments"), (0, .string 16), (0, u "cmd"), (0, .methodref 13 18), (0, .nameAndType 5 19), (0, u "(Ljava/lang/String;[Ljava/lang/String;)V"), (0, .methodref 13 21), (0, .nameAndType 22 23), (0, u "hasNext"), (0, u "()Z"), (0, .methodref 13 25), (0, .nameAndType 26 27), (0, u "next"), (0, u "()Ljava/lang/String;"), (0, .methodref 8 29), (0, .nameAndType 30 31), (0, u "equals"), (0, u "(Ljava/lang/Object;)Z"), (0, .class_ 33), (0, u "com/example/arcsieve/arcsieve/ArgumentsHasNextPinLaw"), (2, u "law"), (0, u "(IIII)Z")] 5

def k1m0 : Method := { name := "<init>", desc := "()V", sig := { parameters := [], returnType := none }, accessFlags := 1, code := none }
def k1c1 : Code := { maxStack := 4, maxLocals := 11, code := code, exceptionTable := #[], attributes := #[] }
def k1m1 : Method := { name := "law", desc := "(IIII)Z", sig := { parameters := [.int, .int, .int, .int], returnType := some .boolean }, accessFlags := 9, code := some k1c1 }
/-- com/example/arcsieve/arcsieve/ArgumentsHasNextPinLaw -/
def k1 : Class := { plain "com/example/arcsieve/arcsieve/ArgumentsHasNextPinLaw" (some 0) with
  accessFlags := 49
  interfaces := #[]
  cf := some (fileOf pool1 32 #[] #[{ accessFlags := 1, nameIndex := 5, descriptorIndex := 6, attributes := #[] }, { accessFlags := 9, nameIndex := 36, descriptorIndex := 37, attributes := #[] }] 49 2 #[] #[])
  fields := #[]
  methods := #[k1m0, k1m1]
  instanceTypes := #[]
  staticTypes := #[]
  resolved := Array.replicate 43 none
  statics := none }

def pool2 : Array CpInfo := pool [(1, .class_ 2), (0, u "java/io/Serializable"), (0, .class_ 4), (0, u "java/lang/Object")] 2

/-- java/io/Serializable -/
def k2 : Class := { plain "java/io/Serializable" (some 0) with
  accessFlags := 1537
  interfaces := #[]
  cf := some (fileOf pool2 1 #[] #[] 1537 3 #[] #[])
  fields := #[]
  methods := #[]
  instanceTypes := #[]
  staticTypes := #[]
  resolved := Array.replicate 7 none
  statics := none }

def pool3 : Array CpInfo := pool [(1, .class_ 2), (0, u "java/lang/Comparable"), (0, .class_ 4), (0, u "java/lang/Object")] 7

/-- java/lang/Comparable -/
def k3 : Class := { plain "java/lang/Comparable" (some 0) with
  accessFlags := 1537
  interfaces := #[]
  cf := some (fileOf pool3 1 #[] #[] 1537 3 #[] #[])
  fields := #[]
  methods := #[]
  instanceTypes := #[]
  staticTypes := #[]
  resolved := Array.replicate 12 none
  statics := none }

def pool4 : Array CpInfo := pool [(2, .class_ 4), (1, u "java/lang/CharSequence"), (42, .class_ 48), (0, u "java/lang/CharSequence$1CodePointIterator"), (10, .class_ 60), (0, u "java/lang/CharSequence$1CharIterator"), (5, .class_ 67), (0, u "java/lang/Object")] 63

/-- java/lang/CharSequence -/
def k4 : Class := { plain "java/lang/CharSequence" (some 0) with
  accessFlags := 1537
  interfaces := #[]
  cf := some (fileOf pool4 2 #[.nestMembers #[47, 59]] #[] 1537 66 #[] #[])
  fields := #[]
  methods := #[]
  instanceTypes := #[]
  staticTypes := #[]
  resolved := Array.replicate 131 none
  statics := none }

def pool5 : Array CpInfo := pool [(1, .class_ 2), (0, u "java/lang/constant/Constable"), (0, .class_ 4), (0, u "java/lang/Object")] 6

/-- java/lang/constant/Constable -/
def k5 : Class := { plain "java/lang/constant/Constable" (some 0) with
  accessFlags := 1537
  interfaces := #[]
  cf := some (fileOf pool5 1 #[] #[] 1537 3 #[] #[])
  fields := #[]
  methods := #[]
  instanceTypes := #[]
  staticTypes := #[]
  resolved := Array.replicate 11 none
  statics := none }

def pool6 : Array CpInfo := pool [(1, .class_ 2), (0, u "java/lang/constant/ConstantDesc"), (0, .class_ 4), (0, u "java/lang/Object")] 32

/-- java/lang/constant/ConstantDesc -/
def k6 : Class := { plain "java/lang/constant/ConstantDesc" (some 0) with
  accessFlags := 1537
  interfaces := #[]
  cf := some (fileOf pool6 1 #[] #[] 1537 3 #[] #[])
  fields := #[]
  methods := #[]
  instanceTypes := #[]
  staticTypes := #[]
  resolved := Array.replicate 37 none
  statics := none }

def pool7 : Array CpInfo := pool [(1, .methodref 2 3), (0, .class_ 4), (0, .nameAndType 5 6), (0, u "java/lang/Object"), (0, u "<init>"), (0, u "()V"), (2, .fieldref 10 11), (0, .class_ 12), (0, .nameAndType 13 14), (0, u "java/lang/String"), (0, u "value"), (0, u "[B"), (0, .fieldref 10 16), (0, .nameAndType 17 18), (0, u "coder"), (0, u "B"), (2, u "hash"), (0, u "I"), (2, u "hashIsZero"), (0, u "Z"), (11, .fieldref 10 39), (0, .nameAndType 40 26), (0, u "COMPACT_STRINGS"), (12, u "toBytes"), (53, .class_ 109), (1, u "java/lang/StringLatin1"), (99, .methodref 10 210), (0, .nameAndType 5 211), (0, u "([BB)V"), (157, u "(C)Z"), (173, u "equals"), (29, u "(Ljava/lang/Object;)Z"), (1, .class_ 576), (0, u "java/lang/CharSequence"), (22, u "CASE_INSENSITIVE_ORDER"), (0, u "Ljava/util/Comparator;"), (181, u "valueOf"), (0, u "(C)Ljava/lang/String;"), (231, .methodref 107 1016), (0, .nameAndType 1017 369), (0, u "canEncode"), (0, .methodref 107 1019), (0, .nameAndType 53 1020), (0, u "(C)[B"), (80, u "serialPersistentFields"), (0, u "[Ljava/io/ObjectStreamField;"), (0, .class_ 1104), (0, u "java/lang/String$CaseInsensitiveComparator"), (1, .class_ 1107), (0, u "java/io/Serializable"), (0, .class_ 1109), (0, u "java/lang/Comparable"), (0, .class_ 1111), (0, u "java/lang/constant/Constable"), (0, .class_ 1113), (0, u "java/lang/constant/ConstantDesc"), (2, u "serialVersionUID"), (0, u "J"), (3, u "REPL"), (0, u "C"), (2, u "LATIN1"), (1, u "UTF16")] 323

def k7m0 : Method := { name := "<init>", desc := "()V", sig := { parameters := [], returnType := none }, accessFlags := 1, code := none }
def k7c1 : Code := { maxStack := 2, maxLocals := 3, code := jdk_42_method_66_code, exceptionTable := #[], attributes := #[] }
def k7m1 : Method := { name := "equals", desc := "(Ljava/lang/Object;)Z", sig := { parameters := [(.object "java/lang/Object")], returnType := some .boolean }, accessFlags := 1, code := some k7c1 }
def k7c2 : Code := { maxStack := 4, maxLocals := 1, code := jdk_42_method_139_code, exceptionTable := #[], attributes := #[] }
def k7m2 : Method := { name := "valueOf", desc := "(C)Ljava/lang/String;", sig := { parameters := [.char], returnType := some (.object "java/lang/String") }, accessFlags := 9, code := some k7c2 }
def k7c3 : Code := { maxStack := 2, maxLocals := 3, code := jdk_42_method_151_code, exceptionTable := #[], attributes := #[] }
def k7m3 : Method := { name := "<init>", desc := "([BB)V", sig := { parameters := [(.array .byte), .byte], returnType := none }, accessFlags := 0, code := some k7c3 }
/-- java/lang/String -/
def k7 : Class := { plain "java/lang/String" (some 0) with
  accessFlags := 49
  interfaces := #[2, 3, 4, 5, 6]
  cf := some (fileOf pool7 10 #[.nestMembers #[1103]] #[{ accessFlags := 1, nameIndex := 5, descriptorIndex := 6, attributes := #[] }, { accessFlags := 1, nameIndex := 543, descriptorIndex := 573, attributes := #[] }, { accessFlags := 9, nameIndex := 782, descriptorIndex := 783, attributes := #[] }, { accessFlags := 0, nameIndex := 5, descriptorIndex := 211, attributes := #[] }] 49 2 #[1106, 1108, 575, 1110, 1112] #[{ accessFlags := 18, nameIndex := 13, descriptorIndex := 14, attributes := #[] }, { accessFlags := 18, nameIndex := 17, descriptorIndex := 18, attributes := #[] }, { accessFlags := 2, nameIndex := 21, descriptorIndex := 22, attributes := #[] }, { accessFlags := 2, nameIndex := 25, descriptorIndex := 26, attributes := #[] }, { accessFlags := 26, nameIndex := 1116, descriptorIndex := 1117, attributes := #[] }, { accessFlags := 24, nameIndex := 40, descriptorIndex := 26, attributes := #[] }, { accessFlags := 26, nameIndex := 1101, descriptorIndex := 1102, attributes := #[] }, { accessFlags := 26, nameIndex := 1121, descriptorIndex := 1122, attributes := #[] }, { accessFlags := 25, nameIndex := 599, descriptorIndex := 600, attributes := #[] }, { accessFlags := 24, nameIndex := 1125, descriptorIndex := 18, attributes := #[] }, { accessFlags := 24, nameIndex := 1127, descriptorIndex := 18, attributes := #[] }])
  fields := #[{ name := "value", type := (.array .byte), accessFlags := 18, slot := 0, constantValue := 0 }, { name := "coder", type := .byte, accessFlags := 18, slot := 1, constantValue := 0 }, { name := "hash", type := .int, accessFlags := 2, slot := 2, constantValue := 0 }, { name := "hashIsZero", type := .boolean, accessFlags := 2, slot := 3, constantValue := 0 }, { name := "serialVersionUID", type := .long, accessFlags := 26, slot := 0, constantValue := 0 }, { name := "COMPACT_STRINGS", type := .boolean, accessFlags := 24, slot := 1, constantValue := 0 }, { name := "serialPersistentFields", type := (.array (.object "java/io/ObjectStreamField")), accessFlags := 26, slot := 2, constantValue := 0 }, { name := "REPL", type := .char, accessFlags := 26, slot := 3, constantValue := 0 }, { name := "CASE_INSENSITIVE_ORDER", type := (.object "java/util/Comparator"), accessFlags := 25, slot := 4, constantValue := 0 }, { name := "LATIN1", type := .byte, accessFlags := 24, slot := 5, constantValue := 0 }, { name := "UTF16", type := .byte, accessFlags := 24, slot := 6, constantValue := 0 }]
  methods := #[k7m0, k7m1, k7m2, k7m3]
  instanceTypes := #[(.array .byte), .byte, .int, .boolean]
  staticTypes := #[.long, .boolean, (.array (.object "java/io/ObjectStreamField")), .char, (.object "java/util/Comparator"), .byte, .byte]
  resolved := Array.replicate 1451 none
  statics := some 0 }

def pool8 : Array CpInfo := pool [(4, .class_ 6), (1, u "java/lang/Object"), (0, u "<init>"), (0, u "()V"), (5, .class_ 16), (1, u "java/lang/StringLatin1"), (73, u "canEncode"), (14, u "(C)Z"), (15, u "$assertionsDisabled"), (0, u "Z"), (98, .class_ 223), (1, u "java/lang/StringLatin1$LinesSpliterator"), (156, u "toBytes"), (1, u "(C)[B"), (7, .class_ 391), (0, u "java/lang/StringLatin1$CharsSpliterator")] 3

def k8m0 : Method := { name := "<init>", desc := "()V", sig := { parameters := [], returnType := none }, accessFlags := 0, code := none }
def k8c1 : Code := { maxStack := 2, maxLocals := 1, code := jdk_43_method_3_code, exceptionTable := #[], attributes := #[] }
def k8m1 : Method := { name := "canEncode", desc := "(C)Z", sig := { parameters := [.char], returnType := some .boolean }, accessFlags := 9, code := some k8c1 }
def k8c2 : Code := { maxStack := 4, maxLocals := 1, code := jdk_43_method_46_code, exceptionTable := #[], attributes := #[] }
def k8m2 : Method := { name := "toBytes", desc := "(C)[B", sig := { parameters := [.char], returnType := some (.array .byte) }, accessFlags := 9, code := some k8c2 }
/-- java/lang/StringLatin1 -/
def k8 : Class := { plain "java/lang/StringLatin1" (some 0) with
  accessFlags := 48
  interfaces := #[]
  cf := some (fileOf pool8 14 #[.nestMembers #[390, 221]] #[{ accessFlags := 0, nameIndex := 7, descriptorIndex := 8, attributes := #[] }, { accessFlags := 9, nameIndex := 90, descriptorIndex := 105, attributes := #[] }, { accessFlags := 9, nameIndex := 380, descriptorIndex := 382, attributes := #[] }] 48 4 #[] #[{ accessFlags := 4120, nameIndex := 121, descriptorIndex := 122, attributes := #[] }])
  fields := #[{ name := "$assertionsDisabled", type := .boolean, accessFlags := 4120, slot := 0, constantValue := 0 }]
  methods := #[k8m0, k8m1, k8m2]
  instanceTypes := #[]
  staticTypes := #[.boolean]
  resolved := Array.replicate 395 none
  statics := none }

def pool9 : Array CpInfo := pool [(1, .methodref 2 3), (0, .class_ 4), (0, .nameAndType 5 6), (0, u "java/lang/Object"), (0, u "<init>"), (0, u "()V"), (0, .fieldref 8 9), (0, .class_ 10), (0, .nameAndType 11 12), (0, u "com/example/arcsieve/arcsieve/Arguments"), (0, u "command"), (0, u "Ljava/lang/String;"), (0, .methodref 14 15), (0, .class_ 16), (0, .nameAndType 17 18), (0, u "[Ljava/lang/String;"), (0, u "clone"), (0, u "()Ljava/lang/Object;"), (0, .fieldref 8 20), (0, .nameAndType 21 16), (0, u "args"), (0, .fieldref 8 23), (0, .nameAndType 24 25), (0, u "next"), (0, u "I"), (10, u "hasNext"), (0, u "()Z"), (9, u "()Ljava/lang/String;"), (117, u "(Ljava/lang/String;[Ljava/lang/String;)V")] 65

def k9c0 : Code := { maxStack := 2, maxLocals := 3, code := prog_1_method_1_code, exceptionTable := #[], attributes := #[] }
def k9m0 : Method := { name := "<init>", desc := "(Ljava/lang/String;[Ljava/lang/String;)V", sig := { parameters := [(.object "java/lang/String"), (.array (.object "java/lang/String"))], returnType := none }, accessFlags := 0, code := some k9c0 }
def k9c1 : Code := { maxStack := 2, maxLocals := 1, code := prog_1_method_2_code, exceptionTable := #[], attributes := #[] }
def k9m1 : Method := { name := "hasNext", desc := "()Z", sig := { parameters := [], returnType := some .boolean }, accessFlags := 0, code := some k9c1 }
def k9c2 : Code := { maxStack := 5, maxLocals := 1, code := prog_1_method_3_code, exceptionTable := #[], attributes := #[] }
def k9m2 : Method := { name := "next", desc := "()Ljava/lang/String;", sig := { parameters := [], returnType := some (.object "java/lang/String") }, accessFlags := 0, code := some k9c2 }
/-- com/example/arcsieve/arcsieve/Arguments -/
def k9 : Class := { plain "com/example/arcsieve/arcsieve/Arguments" (some 0) with
  accessFlags := 48
  interfaces := #[]
  cf := some (fileOf pool9 8 #[] #[{ accessFlags := 0, nameIndex := 5, descriptorIndex := 165, attributes := #[] }, { accessFlags := 0, nameIndex := 36, descriptorIndex := 37, attributes := #[] }, { accessFlags := 0, nameIndex := 24, descriptorIndex := 47, attributes := #[] }] 48 2 #[] #[{ accessFlags := 18, nameIndex := 11, descriptorIndex := 12, attributes := #[] }, { accessFlags := 18, nameIndex := 21, descriptorIndex := 16, attributes := #[] }, { accessFlags := 2, nameIndex := 24, descriptorIndex := 25, attributes := #[] }])
  fields := #[{ name := "command", type := (.object "java/lang/String"), accessFlags := 18, slot := 0, constantValue := 0 }, { name := "args", type := (.array (.object "java/lang/String")), accessFlags := 18, slot := 1, constantValue := 0 }, { name := "next", type := .int, accessFlags := 2, slot := 2, constantValue := 0 }]
  methods := #[k9m0, k9m1, k9m2]
  instanceTypes := #[(.object "java/lang/String"), (.array (.object "java/lang/String")), .int]
  staticTypes := #[]
  resolved := Array.replicate 231 none
  statics := none }

def pool10 : Array CpInfo := pool [(1, .class_ 2), (0, u "java/lang/Cloneable"), (0, .class_ 4), (0, u "java/lang/Object")] 2

/-- java/lang/Cloneable -/
def k10 : Class := { plain "java/lang/Cloneable" (some 0) with
  accessFlags := 1537
  interfaces := #[]
  cf := some (fileOf pool10 1 #[] #[] 1537 3 #[] #[])
  fields := #[]
  methods := #[]
  instanceTypes := #[]
  staticTypes := #[]
  resolved := Array.replicate 7 none
  statics := none }

def pool11 : Array CpInfo := pool [(2, .class_ 4), (1, u "java/lang/Object"), (0, u "<init>"), (0, u "()V"), (17, .class_ 26), (1, u "jdk/internal/util/Preconditions"), (28, .class_ 56), (0, u "jdk/internal/util/Preconditions$4"), (57, .class_ 115), (0, u "jdk/internal/util/Preconditions$1"), (7, u "SIOOBE_FORMATTER"), (0, u "Ljava/util/function/BiFunction;"), (0, .class_ 126), (0, u "jdk/internal/util/Preconditions$2"), (3, u "AIOOBE_FORMATTER"), (0, .class_ 132), (0, u "jdk/internal/util/Preconditions$3"), (3, u "IOOBE_FORMATTER")] 57

def k11m0 : Method := { name := "<init>", desc := "()V", sig := { parameters := [], returnType := none }, accessFlags := 1, code := none }
/-- jdk/internal/util/Preconditions -/
def k11 : Class := { plain "jdk/internal/util/Preconditions" (some 0) with
  accessFlags := 33
  interfaces := #[]
  cf := some (fileOf pool11 24 #[.nestMembers #[55, 131, 125, 114]] #[{ accessFlags := 1, nameIndex := 5, descriptorIndex := 6, attributes := #[] }] 33 2 #[] #[{ accessFlags := 25, nameIndex := 123, descriptorIndex := 124, attributes := #[] }, { accessFlags := 25, nameIndex := 130, descriptorIndex := 124, attributes := #[] }, { accessFlags := 25, nameIndex := 136, descriptorIndex := 124, attributes := #[] }])
  fields := #[{ name := "SIOOBE_FORMATTER", type := (.object "java/util/function/BiFunction"), accessFlags := 25, slot := 0, constantValue := 0 }, { name := "AIOOBE_FORMATTER", type := (.object "java/util/function/BiFunction"), accessFlags := 25, slot := 1, constantValue := 0 }, { name := "IOOBE_FORMATTER", type := (.object "java/util/function/BiFunction"), accessFlags := 25, slot := 2, constantValue := 0 }]
  methods := #[k11m0]
  instanceTypes := #[]
  staticTypes := #[(.object "java/util/function/BiFunction"), (.object "java/util/function/BiFunction"), (.object "java/util/function/BiFunction")]
  resolved := Array.replicate 194 none
  statics := some 1 }

def pool12 : Array CpInfo := pool [(9, u "<init>"), (6, .class_ 18), (1, u "java/lang/Object"), (0, u "()V"), (1, .class_ 23), (1, u "jdk/internal/util/ArraysSupport"), (0, u "LOG2_ARRAY_LONG_INDEX_SCALE"), (0, u "I"), (2, u "U"), (0, u "Ljdk/internal/misc/Unsafe;"), (8, u "BIG_ENDIAN"), (0, u "Z"), (8, u "LOG2_BYTE_BIT_SIZE"), (4, u "LOG2_ARRAY_INT_INDEX_SCALE"), (54, u "JLA"), (0, u "Ljdk/internal/access/JavaLangAccess;"), (11, u "LOG2_ARRAY_BOOLEAN_INDEX_SCALE"), (9, u "LOG2_ARRAY_BYTE_INDEX_SCALE"), (5, u "LOG2_ARRAY_CHAR_INDEX_SCALE"), (5, u "LOG2_ARRAY_SHORT_INDEX_SCALE"), (18, u "LOG2_ARRAY_FLOAT_INDEX_SCALE"), (24, u "LOG2_ARRAY_DOUBLE_INDEX_SCALE"), (89, u "T_BOOLEAN"), (2, u "T_CHAR"), (1, u "T_FLOAT"), (1, u "T_DOUBLE"), (1, u "T_BYTE"), (1, u "T_SHORT"), (1, u "T_INT"), (1, u "T_LONG"), (1, u "SOFT_MAX_ARRAY_LENGTH")] 83

def k12m0 : Method := { name := "<init>", desc := "()V", sig := { parameters := [], returnType := none }, accessFlags := 2, code := none }
/-- jdk/internal/util/ArraysSupport -/
def k12 : Class := { plain "jdk/internal/util/ArraysSupport" (some 0) with
  accessFlags := 33
  interfaces := #[]
  cf := some (fileOf pool12 21 #[] #[{ accessFlags := 2, nameIndex := 9, descriptorIndex := 19, attributes := #[] }] 33 16 #[] #[{ accessFlags := 24, nameIndex := 28, descriptorIndex := 29, attributes := #[] }, { accessFlags := 26, nameIndex := 38, descriptorIndex := 39, attributes := #[] }, { accessFlags := 25, nameIndex := 121, descriptorIndex := 25, attributes := #[] }, { accessFlags := 25, nameIndex := 131, descriptorIndex := 25, attributes := #[] }, { accessFlags := 25, nameIndex := 137, descriptorIndex := 25, attributes := #[] }, { accessFlags := 25, nameIndex := 143, descriptorIndex := 25, attributes := #[] }, { accessFlags := 25, nameIndex := 53, descriptorIndex := 25, attributes := #[] }, { accessFlags := 25, nameIndex := 24, descriptorIndex := 25, attributes := #[] }, { accessFlags := 25, nameIndex := 162, descriptorIndex := 25, attributes := #[] }, { accessFlags := 25, nameIndex := 187, descriptorIndex := 25, attributes := #[] }, { accessFlags := 26, nameIndex := 48, descriptorIndex := 25, attributes := #[] }, { accessFlags := 25, nameIndex := 277, descriptorIndex := 25, attributes := #[] }, { accessFlags := 25, nameIndex := 280, descriptorIndex := 25, attributes := #[] }, { accessFlags := 25, nameIndex := 282, descriptorIndex := 25, attributes := #[] }, { accessFlags := 25, nameIndex := 284, descriptorIndex := 25, attributes := #[] }, { accessFlags := 25, nameIndex := 286, descriptorIndex := 25, attributes := #[] }, { accessFlags := 25, nameIndex := 288, descriptorIndex := 25, attributes := #[] }, { accessFlags := 25, nameIndex := 290, descriptorIndex := 25, attributes := #[] }, { accessFlags := 25, nameIndex := 292, descriptorIndex := 25, attributes := #[] }, { accessFlags := 26, nameIndex := 108, descriptorIndex := 109, attributes := #[] }, { accessFlags := 25, nameIndex := 294, descriptorIndex := 25, attributes := #[] }])
  fields := #[{ name := "U", type := (.object "jdk/internal/misc/Unsafe"), accessFlags := 24, slot := 0, constantValue := 0 }, { name := "BIG_ENDIAN", type := .boolean, accessFlags := 26, slot := 1, constantValue := 0 }, { name := "LOG2_ARRAY_BOOLEAN_INDEX_SCALE", type := .int, accessFlags := 25, slot := 2, constantValue := 0 }, { name := "LOG2_ARRAY_BYTE_INDEX_SCALE", type := .int, accessFlags := 25, slot := 3, constantValue := 0 }, { name := "LOG2_ARRAY_CHAR_INDEX_SCALE", type := .int, accessFlags := 25, slot := 4, constantValue := 0 }, { name := "LOG2_ARRAY_SHORT_INDEX_SCALE", type := .int, accessFlags := 25, slot := 5, constantValue := 0 }, { name := "LOG2_ARRAY_INT_INDEX_SCALE", type := .int, accessFlags := 25, slot := 6, constantValue := 0 }, { name := "LOG2_ARRAY_LONG_INDEX_SCALE", type := .int, accessFlags := 25, slot := 7, constantValue := 0 }, { name := "LOG2_ARRAY_FLOAT_INDEX_SCALE", type := .int, accessFlags := 25, slot := 8, constantValue := 0 }, { name := "LOG2_ARRAY_DOUBLE_INDEX_SCALE", type := .int, accessFlags := 25, slot := 9, constantValue := 0 }, { name := "LOG2_BYTE_BIT_SIZE", type := .int, accessFlags := 26, slot := 10, constantValue := 0 }, { name := "T_BOOLEAN", type := .int, accessFlags := 25, slot := 11, constantValue := 0 }, { name := "T_CHAR", type := .int, accessFlags := 25, slot := 12, constantValue := 0 }, { name := "T_FLOAT", type := .int, accessFlags := 25, slot := 13, constantValue := 0 }, { name := "T_DOUBLE", type := .int, accessFlags := 25, slot := 14, constantValue := 0 }, { name := "T_BYTE", type := .int, accessFlags := 25, slot := 15, constantValue := 0 }, { name := "T_SHORT", type := .int, accessFlags := 25, slot := 16, constantValue := 0 }, { name := "T_INT", type := .int, accessFlags := 25, slot := 17, constantValue := 0 }, { name := "T_LONG", type := .int, accessFlags := 25, slot := 18, constantValue := 0 }, { name := "JLA", type := (.object "jdk/internal/access/JavaLangAccess"), accessFlags := 26, slot := 19, constantValue := 0 }, { name := "SOFT_MAX_ARRAY_LENGTH", type := .int, accessFlags := 25, slot := 20, constantValue := 0 }]
  methods := #[k12m0]
  instanceTypes := #[]
  staticTypes := #[(.object "jdk/internal/misc/Unsafe"), .boolean, .int, .int, .int, .int, .int, .int, .int, .int, .int, .int, .int, .int, .int, .int, .int, .int, .int, (.object "jdk/internal/access/JavaLangAccess"), .int]
  resolved := Array.replicate 378 none
  statics := none }

/-- the primitive byte -/
def k13 : Class := { plain "byte" none with kind := .primitive 'B', accessFlags := 0x411 }
/-- [B -/
def k14 : Class := { plain "[B" (some 0) with kind := .array 13 .byte, interfaces := #[10, 2], accessFlags := 1041 }

/-- the primitive int -/
def k15 : Class := { plain "int" none with kind := .primitive 'I', accessFlags := 0x411 }
/-- [I -/
def k16 : Class := { plain "[I" (some 0) with kind := .array 15 .int, interfaces := #[10, 2], accessFlags := 1041 }

/-- [Ljava/lang/String; -/
def k17 : Class := { plain "[Ljava/lang/String;" (some 0) with kind := .array 7 (.object "java/lang/String"), interfaces := #[10, 2], accessFlags := 1041 }

def heap : Heap := #[{ cls := 7, slots := #[.long 0, .int 1, .null, .int 0, .null, .int 0, .int 0], vm := .statics 7 },
  { cls := 11, slots := #[.null, .null, .null], vm := .statics 11 }]
def classes : Array Class := #[k0, k1, k2, k3, k4, k5, k6, k7, k8, k9, k10, k11, k12, k13, k14, k15, k16, k17]
def interned : List (Array UInt16 × Addr) := []
def slotsUsed : Nat := 10
def theMethod : MethodId := ⟨1, 1⟩
def args0 : Array Value := #[.int 2, .int 65, .int 66, .int 67]
def aboutOver (below : List Frame) : State where
  vm := { classes := classes, interned := interned.toArray }
  heap := heap
  slotsUsed := slotsUsed
  threads := #[{ frames := .invoking theMethod args0 :: below }]
def below0 : List Frame := [.native { method := ⟨0, 0⟩, args := #[] }]
def about1 : State := aboutOver below0
def p0 : Program := .bare "" "" ""
def e0 : Env := launch0.env 0 0 0
theorem w_frames : about1.frames = Frame.invoking theMethod args0 :: below0 := rfl
set_option maxRecDepth 65536 in
theorem w_args : argsFit about1.vm theMethod args0 = true := by decide +kernel
set_option maxRecDepth 65536 in
theorem w_heap : heapFits about1 = true := by decide +kernel
set_option maxRecDepth 65536 in
theorem w_runnable : about1.curStatus? = some .runnable := by decide +kernel
set_option maxRecDepth 65536 in
theorem w_alone : about1.alone = true := by decide +kernel
set_option maxRecDepth 65536 in
theorem w_named : about1.methodNamed? x = some theMethod := by decide +kernel
set_option maxRecDepth 65536 in
theorem w_hears : about1.hears theMethod below0 = true := by decide +kernel
set_option maxRecDepth 65536 in
theorem w_ripe : about1.ripe theMethod args0 below0 = true := by decide +kernel
theorem w_running : about1.status = .running := rfl
set_option maxRecDepth 65536 in
theorem w_room : about1.hasRoom e0.platform room_1 = true :=
  launch0.hasRoom_least _ room_1 (by decide +kernel) (by decide +kernel) (by decide +kernel) (by decide +kernel) (by decide +kernel) (by decide +kernel)
theorem allAtoms_all (ts : List Jvm.Cond) (a : Array Jvm.Value) (st : Jvm.State) : (allAtoms ts).before a st = ts.all (fun c => c.before a st) := by
  induction ts with
  | nil => rfl
  | cons c t ih =>
    show (Jvm.Cond.and c (allAtoms t)).before a st = _
    rw [Jvm.Cond.before_and, ih, List.all_cons]
def words1 : List Jvm.Cond := Jvm.Cond.code x code maxLocals ret :: tables_1
/-- a 'code' word, met by the world's own term for the bytes: nothing is compared byte by byte -/
theorem code_word {y : MethodName} {bytes : ByteArray} {mx : Nat} {rt : Option FieldType} {a : Array Value} {s : State} {m : MethodId} {meth : Method} {c : Code} (h1 : s.methodNamed? y = some m) (h2 : s.vm.method? m = some meth) (h3 : meth.code = some c) (h4 : c.code = bytes)
    (h5 : (c.maxLocals == mx && c.exceptionTable.isEmpty && decide (c.maxStack ≤ mostOperands) && decide (meth.sig.returnType = rt) && !meth.locks && decide (parseMethodDescriptor y.desc = some meth.sig)) = true) : (Jvm.Cond.code y bytes mx rt).before a s = true := by
  simp only [Bool.and_eq_true, beq_iff_eq, Bool.not_eq_true', decide_eq_true_eq] at h5
  obtain ⟨⟨⟨⟨⟨g1, g2⟩, g3⟩, g4⟩, g5⟩, g6⟩ := h5
  simp [Cond.before, Cond.holds, Cond.value, h1, h2, h3, h4, g1, g2, g3, g4, g5, g6]
def isCode : Jvm.Cond → Bool
  | .code _ _ _ _ => true
  | _ => false
theorem all_split {L : List Jvm.Cond} {P : Jvm.Cond → Bool} (h1 : L.all (fun c => isCode c || P c) = true) (h2 : ∀ c ∈ L.filter isCode, P c = true) : L.all P = true := by
  refine List.all_eq_true.mpr fun c hc => ?_
  have h := List.all_eq_true.mp h1 c hc
  rcases Bool.eq_false_or_eq_true (isCode c) with hi | hi
  · exact h2 c (List.mem_filter.mpr ⟨hc, hi⟩)
  · simpa [hi] using h
set_option maxRecDepth 65536 in
theorem w_c0 : (Jvm.Cond.code x code maxLocals ret).before args0 about1 = true := code_word (m := ⟨1, 1⟩) (meth := k1m1) (c := k1c1) (by decide +kernel) rfl rfl rfl (by decide +kernel)
set_option maxRecDepth 65536 in
theorem w_c1 : (Jvm.Cond.code ({ cls := "java/lang/String", name := "valueOf", desc := "(C)Ljava/lang/String;" } : Jvm.MethodName) jdk_42_method_139_code (1 : Nat) (Option.some (Jvm.ClassFile.FieldType.object "java/lang/String"))).before args0 about1 = true := code_word (m := ⟨7, 2⟩) (meth := k7m2) (c := k7c2) (by decide +kernel) rfl rfl rfl (by decide +kernel)
set_option maxRecDepth 65536 in
theorem w_c2 : (Jvm.Cond.code ({ cls := "java/lang/StringLatin1", name := "canEncode", desc := "(C)Z" } : Jvm.MethodName) jdk_43_method_3_code (1 : Nat) (Option.some Jvm.ClassFile.FieldType.boolean)).before args0 about1 = true := code_word (m := ⟨8, 1⟩) (meth := k8m1) (c := k8c1) (by decide +kernel) rfl rfl rfl (by decide +kernel)
set_option maxRecDepth 65536 in
theorem w_c3 : (Jvm.Cond.code ({ cls := "java/lang/StringLatin1", name := "toBytes", desc := "(C)[B" } : Jvm.MethodName) jdk_43_method_46_code (1 : Nat) (Option.some (Jvm.ClassFile.FieldType.array Jvm.ClassFile.FieldType.byte))).before args0 about1 = true := code_word (m := ⟨8, 2⟩) (meth := k8m2) (c := k8c2) (by decide +kernel) rfl rfl rfl (by decide +kernel)
set_option maxRecDepth 65536 in
theorem w_c4 : (Jvm.Cond.code ({ cls := "java/lang/String", name := "<init>", desc := "([BB)V" } : Jvm.MethodName) jdk_42_method_151_code (3 : Nat) (Option.none : Option Jvm.ClassFile.FieldType)).before args0 about1 = true := code_word (m := ⟨7, 3⟩) (meth := k7m3) (c := k7c3) (by decide +kernel) rfl rfl rfl (by decide +kernel)
set_option maxRecDepth 65536 in
theorem w_c5 : (Jvm.Cond.code ({ cls := "java/lang/Object", name := "<init>", desc := "()V" } : Jvm.MethodName) object_method_1_code (1 : Nat) (Option.none : Option Jvm.ClassFile.FieldType)).before args0 about1 = true := code_word (m := ⟨0, 0⟩) (meth := k0m0) (c := k0c0) (by decide +kernel) rfl rfl rfl (by decide +kernel)
set_option maxRecDepth 65536 in
theorem w_c6 : (Jvm.Cond.code ({ cls := "com/example/arcsieve/arcsieve/Arguments", name := "<init>", desc := "(Ljava/lang/String;[Ljava/lang/String;)V" } : Jvm.MethodName) prog_1_method_1_code (3 : Nat) (Option.none : Option Jvm.ClassFile.FieldType)).before args0 about1 = true := code_word (m := ⟨9, 0⟩) (meth := k9m0) (c := k9c0) (by decide +kernel) rfl rfl rfl (by decide +kernel)
set_option maxRecDepth 65536 in
theorem w_c7 : (Jvm.Cond.code ({ cls := "com/example/arcsieve/arcsieve/Arguments", name := "hasNext", desc := "()Z" } : Jvm.MethodName) prog_1_method_2_code (1 : Nat) (Option.some Jvm.ClassFile.FieldType.boolean)).before args0 about1 = true := code_word (m := ⟨9, 1⟩) (meth := k9m1) (c := k9c1) (by decide +kernel) rfl rfl rfl (by decide +kernel)
set_option maxRecDepth 65536 in
theorem w_c8 : (Jvm.Cond.code ({ cls := "com/example/arcsieve/arcsieve/Arguments", name := "next", desc := "()Ljava/lang/String;" } : Jvm.MethodName) prog_1_method_3_code (1 : Nat) (Option.some (Jvm.ClassFile.FieldType.object "java/lang/String"))).before args0 about1 = true := code_word (m := ⟨9, 2⟩) (meth := k9m2) (c := k9c2) (by decide +kernel) rfl rfl rfl (by decide +kernel)
set_option maxRecDepth 65536 in
theorem w_c9 : (Jvm.Cond.code ({ cls := "java/lang/String", name := "equals", desc := "(Ljava/lang/Object;)Z" } : Jvm.MethodName) jdk_42_method_66_code (3 : Nat) (Option.some Jvm.ClassFile.FieldType.boolean)).before args0 about1 = true := code_word (m := ⟨7, 1⟩) (meth := k7m1) (c := k7c1) (by decide +kernel) rfl rfl rfl (by decide +kernel)
def codes1 : List Jvm.Cond := [Jvm.Cond.code x code maxLocals ret, Jvm.Cond.code ({ cls := "java/lang/String", name := "valueOf", desc := "(C)Ljava/lang/String;" } : Jvm.MethodName) jdk_42_method_139_code (1 : Nat) (Option.some (Jvm.ClassFile.FieldType.object "java/lang/String")), Jvm.Cond.code ({ cls := "java/lang/StringLatin1", name := "canEncode", desc := "(C)Z" } : Jvm.MethodName) jdk_43_method_3_code (1 : Nat) (Option.some Jvm.ClassFile.FieldType.boolean), Jvm.Cond.code ({ cls := "java/lang/StringLatin1", name := "toBytes", desc := "(C)[B" } : Jvm.MethodName) jdk_43_method_46_code (1 : Nat) (Option.some (Jvm.ClassFile.FieldType.array Jvm.ClassFile.FieldType.byte)), Jvm.Cond.code ({ cls := "java/lang/String", name := "<init>", desc := "([BB)V" } : Jvm.MethodName) jdk_42_method_151_code (3 : Nat) (Option.none : Option Jvm.ClassFile.FieldType), Jvm.Cond.code ({ cls := "java/lang/Object", name := "<init>", desc := "()V" } : Jvm.MethodName) object_method_1_code (1 : Nat) (Option.none : Option Jvm.ClassFile.FieldType), Jvm.Cond.code ({ cls := "com/example/arcsieve/arcsieve/Arguments", name := "<init>", desc := "(Ljava/lang/String;[Ljava/lang/String;)V" } : Jvm.MethodName) prog_1_method_1_code (3 : Nat) (Option.none : Option Jvm.ClassFile.FieldType), Jvm.Cond.code ({ cls := "com/example/arcsieve/arcsieve/Arguments", name := "hasNext", desc := "()Z" } : Jvm.MethodName) prog_1_method_2_code (1 : Nat) (Option.some Jvm.ClassFile.FieldType.boolean), Jvm.Cond.code ({ cls := "com/example/arcsieve/arcsieve/Arguments", name := "next", desc := "()Ljava/lang/String;" } : Jvm.MethodName) prog_1_method_3_code (1 : Nat) (Option.some (Jvm.ClassFile.FieldType.object "java/lang/String")), Jvm.Cond.code ({ cls := "java/lang/String", name := "equals", desc := "(Ljava/lang/Object;)Z" } : Jvm.MethodName) jdk_42_method_66_code (3 : Nat) (Option.some Jvm.ClassFile.FieldType.boolean)]
set_option maxRecDepth 65536 in
theorem codes_eq : words1.filter isCode = codes1 := rfl
theorem w_codes : ∀ c ∈ words1.filter isCode, c.before args0 about1 = true := by
  rw [codes_eq]
  intro c hc
  simp only [codes1, List.mem_cons, List.not_mem_nil, or_false] at hc
  rcases hc with rfl | rfl | rfl | rfl | rfl | rfl | rfl | rfl | rfl | rfl
  · exact w_c0
  · exact w_c1
  · exact w_c2
  · exact w_c3
  · exact w_c4
  · exact w_c5
  · exact w_c6
  · exact w_c7
  · exact w_c8
  · exact w_c9
set_option maxRecDepth 65536 in
theorem w_t1 : (words1.take 24).all (fun c => isCode c || c.before args0 about1) = true := by decide +kernel
set_option maxRecDepth 65536 in
theorem w_t2 : ((words1.drop 24).take 24).all (fun c => isCode c || c.before args0 about1) = true := by decide +kernel
set_option maxRecDepth 65536 in
theorem w_t3 : ((words1.drop 24).drop 24).all (fun c => isCode c || c.before args0 about1) = true := by decide +kernel
theorem w_tables : (allAtoms (Jvm.Cond.code x code maxLocals ret :: tables_1)).before args0 about1 = true := by
  rw [allAtoms_all]
  show words1.all (fun c => c.before args0 about1) = true
  refine all_split ?_ w_codes
  rw [← List.take_append_drop 24 words1, List.all_append, w_t1, ← List.take_append_drop 24 (words1.drop 24), List.all_append, w_t2, w_t3]
  rfl
set_option maxRecDepth 65536 in
theorem w_rest : rest_1_c.before args0 about1 = true := by decide +kernel
set_option maxRecDepth 65536 in
theorem w_case : (Jvm.Cond.and given_1 narrow_1).before args0 about1 = true := by decide +kernel
theorem w_applies : (headSpec (Jvm.Cond.code x code maxLocals ret :: tables_1) room_1).applies x e0.platform about1 = true :=
  (Spec.applies_iff w_frames).mpr ⟨w_running, w_runnable, w_alone, w_named, w_hears, w_ripe, w_room, w_tables⟩
theorem atStart : AtStart classFile x code maxLocals ret World_1 tables_1 room_1 Calls_1 rest_1 Pre_1 launch0 p0 e0 about1 theMethod args0 below0 :=
  ⟨lists_1, trivial, launch0.admits_env _ _ _, launch0.least_env, fairChoices_fair.cas, fairChoices_fair.clock, w_frames, w_args, w_heap, w_applies, trivial, w_rest, w_case⟩
end start1
theorem witness_1 : WitnessClaimed_1 := ⟨start1.p0, start1.e0, start1.about1, start1.theMethod, start1.args0, start1.below0, start1.atStart⟩
end Jvm.Pilot.@@N@@
