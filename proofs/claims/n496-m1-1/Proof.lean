import JvmDerived
import JvmDerived.Pilot.@@N@@Statement
import JvmDerived.Pilot.@@N@@Code
set_option linter.unusedVariables false
set_option linter.unusedSimpArgs false
namespace Jvm.RoadKit
open Sem ClassFile Op Lib Jvm.Stand Jvm.Free Jvm.LawKit
section New
variable {p : Program} {l : Launch} {e : Env} {R : Room} {s : State} {m : MethodId} {args : Array Value} {below : List Frame} {meth : Method} {c : Code} {T : State} {locs : List Loc} {cells slots : Nat}
theorem retI (X : Stand p l e R s m args below meth c T locs cells slots) (hx : p.tables.exec = Jvm.exec) {pc : Nat} {Ls : Array Slot} {z : Int32} {rest : List Value} (hret : meth.sig.returnType = some .int) (hd : decode c.code pc = .ok (.ireturn, 1)) {fs : List Frame}
    (hl : ∀ (f : JFrame) (acts : List Action), f.method = m → f.locked = none → f.entered = [] → (doReturn e (T.setTop f) acts (some (.int z))).1 = T.setFrames fs) : Steps p.tables e below (T.setTop (mkF m pc Ls (.int z :: rest))) (T.setFrames fs) := by
  have hm' : T.vm.method? m = some meth := X.method'
  have hn : narrow .int (.int z) = .int z := rfl
  show Steps p.tables e below (T.setTop { method := m, pc := pc, locals := Ls, stack := _ :: rest, locked := none }) _
  jvm_step X.here [X.here.top, hx, hd, hm', hret, hn]
  first | (intro acts; rw [hl _ acts rfl rfl rfl]) | rw [hl _ _ rfl rfl rfl]
  exact Steps.refl _
end New
end Jvm.RoadKit
namespace Jvm.Pilot.@@N@@
open Jvm Jvm.ClassFile Sem Op Lib Jvm.Free Jvm.Stand Jvm.LawKit Jvm.RoadKit Bundle Jvm.Pilot.@@N@@.Jvm.D
def own_w (c : Int32) : Int32 := if (¬ c < 97 ∧ ¬ 122 < c) ∨ (¬ c < 65 ∧ ¬ 90 < c) ∨ (¬ c < 48 ∧ ¬ 57 < c) ∨ c = 95 ∨ c = 36 ∨ ¬ c < 128 then 1 else 0
def own_l (c : Int32) : Int32 := if ¬ ((c ||| 32) - 97 < 0) ∧ (c ||| 32) - 97 < 26 then 1 else 0
def own_g (c : Int32) : Int32 := if ¬ (c - 48 < 0) ∧ c - 48 < 10 then 1 else 0
def own_x (c : Int32) : Int32 := if c < 128 then (if ¬ own_l c = 0 ∨ ¬ own_g c = 0 ∨ c = 95 ∨ c = 36 then 1 else 0) else 1
theorem own_small : ∀ k : Fin 128, own_w (Int32.ofNat k) = own_x (Int32.ofNat k) := by decide +kernel
theorem own_same (c : Int32) (h0 : 0 ≤ c.toInt) : own_w c = own_x c := by
  by_cases h : c < 128
  · have h1 := h
    rw [Int32.lt_iff_toInt_lt, show (128 : Int32).toInt = 128 by decide] at h1
    have := own_small ⟨c.toInt.toNat, by omega⟩
    have e : Int32.ofNat c.toInt.toNat = c := by
      have e2 : Int32.ofInt ((c.toInt.toNat : Nat) : Int) = c := by rw [Int.toNat_of_nonneg h0]; exact Int32.ofInt_toInt c
      exact e2
    simpa only [e] using this
  · simp only [own_w, own_x, h, if_false, not_false_eq_true, or_true, if_true]
def own_c (x : Int32) : Int32 := (x &&& (65535 : Int32)).toUInt32.toUInt16.toUInt32.toInt32
theorem d1_0 : decode prog_42_method_9_code 0 = .ok (.iload_n 0, 1) := by decide +kernel
theorem d1_1 : decode prog_42_method_9_code 1 = .ok (.bipush 97, 2) := by decide +kernel
theorem d1_3 : decode prog_42_method_9_code 3 = .ok (.if_icmp .lt 9, 3) := by decide +kernel
theorem d1_6 : decode prog_42_method_9_code 6 = .ok (.iload_n 0, 1) := by decide +kernel
theorem d1_7 : decode prog_42_method_9_code 7 = .ok (.bipush 122, 2) := by decide +kernel
theorem d1_9 : decode prog_42_method_9_code 9 = .ok (.if_icmp .le 46, 3) := by decide +kernel
theorem d1_12 : decode prog_42_method_9_code 12 = .ok (.iload_n 0, 1) := by decide +kernel
theorem d1_13 : decode prog_42_method_9_code 13 = .ok (.bipush 65, 2) := by decide +kernel
theorem d1_15 : decode prog_42_method_9_code 15 = .ok (.if_icmp .lt 9, 3) := by decide +kernel
theorem d1_18 : decode prog_42_method_9_code 18 = .ok (.iload_n 0, 1) := by decide +kernel
theorem d1_19 : decode prog_42_method_9_code 19 = .ok (.bipush 90, 2) := by decide +kernel
theorem d1_21 : decode prog_42_method_9_code 21 = .ok (.if_icmp .le 34, 3) := by decide +kernel
theorem d1_24 : decode prog_42_method_9_code 24 = .ok (.iload_n 0, 1) := by decide +kernel
theorem d1_25 : decode prog_42_method_9_code 25 = .ok (.bipush 48, 2) := by decide +kernel
theorem d1_27 : decode prog_42_method_9_code 27 = .ok (.if_icmp .lt 9, 3) := by decide +kernel
theorem d1_30 : decode prog_42_method_9_code 30 = .ok (.iload_n 0, 1) := by decide +kernel
theorem d1_31 : decode prog_42_method_9_code 31 = .ok (.bipush 57, 2) := by decide +kernel
theorem d1_33 : decode prog_42_method_9_code 33 = .ok (.if_icmp .le 22, 3) := by decide +kernel
theorem d1_36 : decode prog_42_method_9_code 36 = .ok (.iload_n 0, 1) := by decide +kernel
theorem d1_37 : decode prog_42_method_9_code 37 = .ok (.bipush 95, 2) := by decide +kernel
theorem d1_39 : decode prog_42_method_9_code 39 = .ok (.if_icmp .eq 16, 3) := by decide +kernel
theorem d1_42 : decode prog_42_method_9_code 42 = .ok (.iload_n 0, 1) := by decide +kernel
theorem d1_43 : decode prog_42_method_9_code 43 = .ok (.bipush 36, 2) := by decide +kernel
theorem d1_45 : decode prog_42_method_9_code 45 = .ok (.if_icmp .eq 10, 3) := by decide +kernel
theorem d1_48 : decode prog_42_method_9_code 48 = .ok (.iload_n 0, 1) := by decide +kernel
theorem d1_49 : decode prog_42_method_9_code 49 = .ok (.sipush 128, 3) := by decide +kernel
theorem d1_52 : decode prog_42_method_9_code 52 = .ok (.if_icmp .lt 7, 3) := by decide +kernel
theorem d1_55 : decode prog_42_method_9_code 55 = .ok (.iconst 1, 1) := by decide +kernel
theorem d1_56 : decode prog_42_method_9_code 56 = .ok (.goto 4, 3) := by decide +kernel
theorem d1_59 : decode prog_42_method_9_code 59 = .ok (.iconst 0, 1) := by decide +kernel
theorem d1_60 : decode prog_42_method_9_code 60 = .ok (.ireturn, 1) := by decide +kernel
theorem pn_1 : plainName "com/example/tables_to_vault/tablestovault/database/SqlTokens" = true := by first | (simp [plainName, overriddenIn]; done) | decide +kernel
theorem ef_1 (m : MethodId) (x0 : Int32) : entryFrame m #[(.int x0)] 1 = mkF m 0 #[.val (.int x0)] [] := by first | (simp [entryFrame, mkF, argsToLocals, Value.category]; done) | rfl
def Q1 (Z : State) (p1 : Int32) (h0 : Heap) (n0 : Nat) (v : Option Value) (h : Heap) (L : List Loc) : Prop := v = some (.int (own_w p1)) ∧ Fr n0 L ∧ h = h0
set_option maxRecDepth 65536 in
set_option maxHeartbeats 40000000 in
theorem rm1 (l : Launch) (Z : State) (a0 : Array Value) (hw : ∀ d ∈ tables_1, d.before a0 Z = true) (ws : List Jvm.Cond) (p1 : Int32) (h0 : Heap) (n0 : Nat) (Z0 : n0 ≤ h0.size) :
    MetFree l (⟨"com/example/tables_to_vault/tablestovault/database/SqlTokens", "isWordPart", "(C)Z"⟩ : MethodName) (head1 (Jvm.Cond.code (⟨"com/example/tables_to_vault/tablestovault/database/SqlTokens", "isWordPart", "(C)Z"⟩ : MethodName) prog_42_method_9_code 1 (some .boolean) :: ws) ({ frames := 0, cells := 0, slots := 0, locals := 0 } : Room)) (fun a U => a = #[(.int p1)] ∧ Z.Warmed39 U.vm ∧ U.heap = h0) (fun _ _ _ _ _ => True) (fun _ U o U' => ∃ v L, o = .returned v ∧ Q1 Z p1 h0 n0 v U'.heap L ∧ FrameEnd U o U' L ({ frames := 0, cells := 0, slots := 0, locals := 0 } : Room).cells ({ frames := 0, cells := 0, slots := 0, locals := 0 } : Room).slots) := by
  refine MetFree.of_bodySF (plainFor_of_name pn_1) hisR ?_
  intro p e s m args below meth c s₁ Bd hml0 hP hK
  obtain ⟨rfl, hZ, hh⟩ := hP
  have hx := Bd.exec
  have hby := Bd.bytes
  have hml : c.maxLocals = 1 := hml0
  have hown : s.vm.findClass "com/example/tables_to_vault/tablestovault/database/SqlTokens" = some m.cls := findClass_of_methodNamed Bd.named
  have hnm := (name_of_methodNamed Bd.named Bd.method).1
  have X0 : Stand p l e ({ frames := 0, cells := 0, slots := 0, locals := 0 } : Room) s m #[(.int p1)] below meth c s₁ [] 0 0 := Stand.of_body Bd
  have e0 : s₁.heap = h0 := by rw [← hh, Bd.state]; rfl
  have N0 := Fr.nil n0
  have pre0 : ∀ t, Steps p.tables e below (s₁.setTop (mkF m 0 #[.val (.int p1)] [])) t → Steps p.tables e below (s₁.setTop (entryFrame m #[(.int p1)] 1)) t := fun t k => castTop (ef_1 m p1) k
  by_cases hA0 : (¬ p1 < (97 : Int32) ∧ ¬ (122 : Int32) < p1)
  · skip
    have pre1 : ∀ t, Steps p.tables e below (s₁.setTop (mkF m 60 #[.val (.int p1)] [(.int (1 : Int32))])) t → Steps p.tables e below (s₁.setTop (entryFrame m #[(.int p1)] 1)) t := fun t k => pre0 t (by
      show Steps p.tables e below (s₁.setTop (mkF m 0 #[.val (.int p1)] [])) _
      refine XS.iloadN X0.here hx rfl (hb hby d1_0) rfl ?_
      show Steps p.tables e below (s₁.setTop (mkF m 1 #[.val (.int p1)] [(.int p1)])) _
      refine XS.bipush X0.here hx rfl (hb hby d1_1) ?_
      show Steps p.tables e below (s₁.setTop (mkF m 3 #[.val (.int p1)] [(.int (97 : Int32)), (.int p1)])) _
      refine XS.icmpNo X0.here hx rfl (hb hby d1_3) rfl (flt hA0.1).1 ?_
      show Steps p.tables e below (s₁.setTop (mkF m 6 #[.val (.int p1)] [])) _
      refine XS.iloadN X0.here hx rfl (hb hby d1_6) rfl ?_
      show Steps p.tables e below (s₁.setTop (mkF m 7 #[.val (.int p1)] [(.int p1)])) _
      refine XS.bipush X0.here hx rfl (hb hby d1_7) ?_
      show Steps p.tables e below (s₁.setTop (mkF m 9 #[.val (.int p1)] [(.int (122 : Int32)), (.int p1)])) _
      refine XS.icmpYes X0.here hx rfl (pc0 := 9) (pc' := 55) rfl (hb hby d1_9) rfl (flt hA0.2).2.2.2 (by decide) (by decide) ?_
      show Steps p.tables e below (s₁.setTop (mkF m 55 #[.val (.int p1)] [])) _
      refine XS.iconst X0.here hx rfl (hb hby d1_55) ?_
      show Steps p.tables e below (s₁.setTop (mkF m 56 #[.val (.int p1)] [(.int (1 : Int32))])) _
      refine XS.goto X0.here hx rfl (pc0 := 56) (pc' := 60) rfl (hb hby d1_56) (by decide) (by decide) ?_
      show Steps p.tables e below (s₁.setTop (mkF m 60 #[.val (.int p1)] [(.int (1 : Int32))])) _
      exact k)
    obtain ⟨fs, hr, hrun, hended, hW, hsame⟩ := X0.leave (v := some (.int (1 : Int32))) (fun h => by rw [Bd.returns] at h; cases h)
    refine ⟨_, _, pre1 _ ?_, hrun, hended, _, _, rfl, ?_, ⟨_, rfl⟩, hW, hsame.mono (by decide) (by decide)⟩
    · show Steps p.tables e below (s₁.setTop (mkF m 60 #[.val (.int p1)] [(.int (1 : Int32))])) _
      exact retN X0 hx (t := .boolean) Bd.returns (by simp) (hb hby d1_60) hr
    · show Q1 Z p1 h0 n0 _ s₁.heap _
      rw [e0]
      exact ⟨congrArg (fun z => some (Value.int z)) (Eq.symm (if_pos ((Or.inl) hA0))), N0, rfl⟩
  · skip
    have pre2 : ∀ t, Steps p.tables e below (s₁.setTop (mkF m 12 #[.val (.int p1)] [])) t → Steps p.tables e below (s₁.setTop (entryFrame m #[(.int p1)] 1)) t := fun t k => pre0 t (by
      by_cases hB : p1 < (97 : Int32)
      · skip
        show Steps p.tables e below (s₁.setTop (mkF m 0 #[.val (.int p1)] [])) _
        refine XS.iloadN X0.here hx rfl (hb hby d1_0) rfl ?_
        show Steps p.tables e below (s₁.setTop (mkF m 1 #[.val (.int p1)] [(.int p1)])) _
        refine XS.bipush X0.here hx rfl (hb hby d1_1) ?_
        show Steps p.tables e below (s₁.setTop (mkF m 3 #[.val (.int p1)] [(.int (97 : Int32)), (.int p1)])) _
        refine XS.icmpYes X0.here hx rfl (pc0 := 3) (pc' := 12) rfl (hb hby d1_3) rfl (tlt hB).1 (by decide) (by decide) ?_
        show Steps p.tables e below (s₁.setTop (mkF m 12 #[.val (.int p1)] [])) _
        exact k
      · skip
        show Steps p.tables e below (s₁.setTop (mkF m 0 #[.val (.int p1)] [])) _
        refine XS.iloadN X0.here hx rfl (hb hby d1_0) rfl ?_
        show Steps p.tables e below (s₁.setTop (mkF m 1 #[.val (.int p1)] [(.int p1)])) _
        refine XS.bipush X0.here hx rfl (hb hby d1_1) ?_
        show Steps p.tables e below (s₁.setTop (mkF m 3 #[.val (.int p1)] [(.int (97 : Int32)), (.int p1)])) _
        refine XS.icmpNo X0.here hx rfl (hb hby d1_3) rfl (flt hB).1 ?_
        show Steps p.tables e below (s₁.setTop (mkF m 6 #[.val (.int p1)] [])) _
        refine XS.iloadN X0.here hx rfl (hb hby d1_6) rfl ?_
        show Steps p.tables e below (s₁.setTop (mkF m 7 #[.val (.int p1)] [(.int p1)])) _
        refine XS.bipush X0.here hx rfl (hb hby d1_7) ?_
        show Steps p.tables e below (s₁.setTop (mkF m 9 #[.val (.int p1)] [(.int (122 : Int32)), (.int p1)])) _
        refine XS.icmpNo X0.here hx rfl (hb hby d1_9) rfl (tlt (Classical.byContradiction fun q => hA0 ⟨hB, q⟩)).2.2.2 ?_
        show Steps p.tables e below (s₁.setTop (mkF m 12 #[.val (.int p1)] [])) _
        exact k)
    by_cases hA1 : (¬ p1 < (65 : Int32) ∧ ¬ (90 : Int32) < p1)
    · skip
      have pre3 : ∀ t, Steps p.tables e below (s₁.setTop (mkF m 60 #[.val (.int p1)] [(.int (1 : Int32))])) t → Steps p.tables e below (s₁.setTop (entryFrame m #[(.int p1)] 1)) t := fun t k => pre2 t (by
        show Steps p.tables e below (s₁.setTop (mkF m 12 #[.val (.int p1)] [])) _
        refine XS.iloadN X0.here hx rfl (hb hby d1_12) rfl ?_
        show Steps p.tables e below (s₁.setTop (mkF m 13 #[.val (.int p1)] [(.int p1)])) _
        refine XS.bipush X0.here hx rfl (hb hby d1_13) ?_
        show Steps p.tables e below (s₁.setTop (mkF m 15 #[.val (.int p1)] [(.int (65 : Int32)), (.int p1)])) _
        refine XS.icmpNo X0.here hx rfl (hb hby d1_15) rfl (flt hA1.1).1 ?_
        show Steps p.tables e below (s₁.setTop (mkF m 18 #[.val (.int p1)] [])) _
        refine XS.iloadN X0.here hx rfl (hb hby d1_18) rfl ?_
        show Steps p.tables e below (s₁.setTop (mkF m 19 #[.val (.int p1)] [(.int p1)])) _
        refine XS.bipush X0.here hx rfl (hb hby d1_19) ?_
        show Steps p.tables e below (s₁.setTop (mkF m 21 #[.val (.int p1)] [(.int (90 : Int32)), (.int p1)])) _
        refine XS.icmpYes X0.here hx rfl (pc0 := 21) (pc' := 55) rfl (hb hby d1_21) rfl (flt hA1.2).2.2.2 (by decide) (by decide) ?_
        show Steps p.tables e below (s₁.setTop (mkF m 55 #[.val (.int p1)] [])) _
        refine XS.iconst X0.here hx rfl (hb hby d1_55) ?_
        show Steps p.tables e below (s₁.setTop (mkF m 56 #[.val (.int p1)] [(.int (1 : Int32))])) _
        refine XS.goto X0.here hx rfl (pc0 := 56) (pc' := 60) rfl (hb hby d1_56) (by decide) (by decide) ?_
        show Steps p.tables e below (s₁.setTop (mkF m 60 #[.val (.int p1)] [(.int (1 : Int32))])) _
        exact k)
      obtain ⟨fs, hr, hrun, hended, hW, hsame⟩ := X0.leave (v := some (.int (1 : Int32))) (fun h => by rw [Bd.returns] at h; cases h)
      refine ⟨_, _, pre3 _ ?_, hrun, hended, _, _, rfl, ?_, ⟨_, rfl⟩, hW, hsame.mono (by decide) (by decide)⟩
      · show Steps p.tables e below (s₁.setTop (mkF m 60 #[.val (.int p1)] [(.int (1 : Int32))])) _
        exact retN X0 hx (t := .boolean) Bd.returns (by simp) (hb hby d1_60) hr
      · show Q1 Z p1 h0 n0 _ s₁.heap _
        rw [e0]
        exact ⟨congrArg (fun z => some (Value.int z)) (Eq.symm (if_pos ((fun q => Or.inr (Or.inl q)) hA1))), N0, rfl⟩
    · skip
      have pre4 : ∀ t, Steps p.tables e below (s₁.setTop (mkF m 24 #[.val (.int p1)] [])) t → Steps p.tables e below (s₁.setTop (entryFrame m #[(.int p1)] 1)) t := fun t k => pre2 t (by
        by_cases hB : p1 < (65 : Int32)
        · skip
          show Steps p.tables e below (s₁.setTop (mkF m 12 #[.val (.int p1)] [])) _
          refine XS.iloadN X0.here hx rfl (hb hby d1_12) rfl ?_
          show Steps p.tables e below (s₁.setTop (mkF m 13 #[.val (.int p1)] [(.int p1)])) _
          refine XS.bipush X0.here hx rfl (hb hby d1_13) ?_
          show Steps p.tables e below (s₁.setTop (mkF m 15 #[.val (.int p1)] [(.int (65 : Int32)), (.int p1)])) _
          refine XS.icmpYes X0.here hx rfl (pc0 := 15) (pc' := 24) rfl (hb hby d1_15) rfl (tlt hB).1 (by decide) (by decide) ?_
          show Steps p.tables e below (s₁.setTop (mkF m 24 #[.val (.int p1)] [])) _
          exact k
        · skip
          show Steps p.tables e below (s₁.setTop (mkF m 12 #[.val (.int p1)] [])) _
          refine XS.iloadN X0.here hx rfl (hb hby d1_12) rfl ?_
          show Steps p.tables e below (s₁.setTop (mkF m 13 #[.val (.int p1)] [(.int p1)])) _
          refine XS.bipush X0.here hx rfl (hb hby d1_13) ?_
          show Steps p.tables e below (s₁.setTop (mkF m 15 #[.val (.int p1)] [(.int (65 : Int32)), (.int p1)])) _
          refine XS.icmpNo X0.here hx rfl (hb hby d1_15) rfl (flt hB).1 ?_
          show Steps p.tables e below (s₁.setTop (mkF m 18 #[.val (.int p1)] [])) _
          refine XS.iloadN X0.here hx rfl (hb hby d1_18) rfl ?_
          show Steps p.tables e below (s₁.setTop (mkF m 19 #[.val (.int p1)] [(.int p1)])) _
          refine XS.bipush X0.here hx rfl (hb hby d1_19) ?_
          show Steps p.tables e below (s₁.setTop (mkF m 21 #[.val (.int p1)] [(.int (90 : Int32)), (.int p1)])) _
          refine XS.icmpNo X0.here hx rfl (hb hby d1_21) rfl (tlt (Classical.byContradiction fun q => hA1 ⟨hB, q⟩)).2.2.2 ?_
          show Steps p.tables e below (s₁.setTop (mkF m 24 #[.val (.int p1)] [])) _
          exact k)
      by_cases hA2 : (¬ p1 < (48 : Int32) ∧ ¬ (57 : Int32) < p1)
      · skip
        have pre5 : ∀ t, Steps p.tables e below (s₁.setTop (mkF m 60 #[.val (.int p1)] [(.int (1 : Int32))])) t → Steps p.tables e below (s₁.setTop (entryFrame m #[(.int p1)] 1)) t := fun t k => pre4 t (by
          show Steps p.tables e below (s₁.setTop (mkF m 24 #[.val (.int p1)] [])) _
          refine XS.iloadN X0.here hx rfl (hb hby d1_24) rfl ?_
          show Steps p.tables e below (s₁.setTop (mkF m 25 #[.val (.int p1)] [(.int p1)])) _
          refine XS.bipush X0.here hx rfl (hb hby d1_25) ?_
          show Steps p.tables e below (s₁.setTop (mkF m 27 #[.val (.int p1)] [(.int (48 : Int32)), (.int p1)])) _
          refine XS.icmpNo X0.here hx rfl (hb hby d1_27) rfl (flt hA2.1).1 ?_
          show Steps p.tables e below (s₁.setTop (mkF m 30 #[.val (.int p1)] [])) _
          refine XS.iloadN X0.here hx rfl (hb hby d1_30) rfl ?_
          show Steps p.tables e below (s₁.setTop (mkF m 31 #[.val (.int p1)] [(.int p1)])) _
          refine XS.bipush X0.here hx rfl (hb hby d1_31) ?_
          show Steps p.tables e below (s₁.setTop (mkF m 33 #[.val (.int p1)] [(.int (57 : Int32)), (.int p1)])) _
          refine XS.icmpYes X0.here hx rfl (pc0 := 33) (pc' := 55) rfl (hb hby d1_33) rfl (flt hA2.2).2.2.2 (by decide) (by decide) ?_
          show Steps p.tables e below (s₁.setTop (mkF m 55 #[.val (.int p1)] [])) _
          refine XS.iconst X0.here hx rfl (hb hby d1_55) ?_
          show Steps p.tables e below (s₁.setTop (mkF m 56 #[.val (.int p1)] [(.int (1 : Int32))])) _
          refine XS.goto X0.here hx rfl (pc0 := 56) (pc' := 60) rfl (hb hby d1_56) (by decide) (by decide) ?_
          show Steps p.tables e below (s₁.setTop (mkF m 60 #[.val (.int p1)] [(.int (1 : Int32))])) _
          exact k)
        obtain ⟨fs, hr, hrun, hended, hW, hsame⟩ := X0.leave (v := some (.int (1 : Int32))) (fun h => by rw [Bd.returns] at h; cases h)
        refine ⟨_, _, pre5 _ ?_, hrun, hended, _, _, rfl, ?_, ⟨_, rfl⟩, hW, hsame.mono (by decide) (by decide)⟩
        · show Steps p.tables e below (s₁.setTop (mkF m 60 #[.val (.int p1)] [(.int (1 : Int32))])) _
          exact retN X0 hx (t := .boolean) Bd.returns (by simp) (hb hby d1_60) hr
        · show Q1 Z p1 h0 n0 _ s₁.heap _
          rw [e0]
          exact ⟨congrArg (fun z => some (Value.int z)) (Eq.symm (if_pos ((fun q => Or.inr (Or.inr (Or.inl q))) hA2))), N0, rfl⟩
      · skip
        have pre6 : ∀ t, Steps p.tables e below (s₁.setTop (mkF m 36 #[.val (.int p1)] [])) t → Steps p.tables e below (s₁.setTop (entryFrame m #[(.int p1)] 1)) t := fun t k => pre4 t (by
          by_cases hB : p1 < (48 : Int32)
          · skip
            show Steps p.tables e below (s₁.setTop (mkF m 24 #[.val (.int p1)] [])) _
            refine XS.iloadN X0.here hx rfl (hb hby d1_24) rfl ?_
            show Steps p.tables e below (s₁.setTop (mkF m 25 #[.val (.int p1)] [(.int p1)])) _
            refine XS.bipush X0.here hx rfl (hb hby d1_25) ?_
            show Steps p.tables e below (s₁.setTop (mkF m 27 #[.val (.int p1)] [(.int (48 : Int32)), (.int p1)])) _
            refine XS.icmpYes X0.here hx rfl (pc0 := 27) (pc' := 36) rfl (hb hby d1_27) rfl (tlt hB).1 (by decide) (by decide) ?_
            show Steps p.tables e below (s₁.setTop (mkF m 36 #[.val (.int p1)] [])) _
            exact k
          · skip
            show Steps p.tables e below (s₁.setTop (mkF m 24 #[.val (.int p1)] [])) _
            refine XS.iloadN X0.here hx rfl (hb hby d1_24) rfl ?_
            show Steps p.tables e below (s₁.setTop (mkF m 25 #[.val (.int p1)] [(.int p1)])) _
            refine XS.bipush X0.here hx rfl (hb hby d1_25) ?_
            show Steps p.tables e below (s₁.setTop (mkF m 27 #[.val (.int p1)] [(.int (48 : Int32)), (.int p1)])) _
            refine XS.icmpNo X0.here hx rfl (hb hby d1_27) rfl (flt hB).1 ?_
            show Steps p.tables e below (s₁.setTop (mkF m 30 #[.val (.int p1)] [])) _
            refine XS.iloadN X0.here hx rfl (hb hby d1_30) rfl ?_
            show Steps p.tables e below (s₁.setTop (mkF m 31 #[.val (.int p1)] [(.int p1)])) _
            refine XS.bipush X0.here hx rfl (hb hby d1_31) ?_
            show Steps p.tables e below (s₁.setTop (mkF m 33 #[.val (.int p1)] [(.int (57 : Int32)), (.int p1)])) _
            refine XS.icmpNo X0.here hx rfl (hb hby d1_33) rfl (tlt (Classical.byContradiction fun q => hA2 ⟨hB, q⟩)).2.2.2 ?_
            show Steps p.tables e below (s₁.setTop (mkF m 36 #[.val (.int p1)] [])) _
            exact k)
        by_cases hE95 : p1 = (95 : Int32)
        · skip
          have pre7 : ∀ t, Steps p.tables e below (s₁.setTop (mkF m 60 #[.val (.int p1)] [(.int (1 : Int32))])) t → Steps p.tables e below (s₁.setTop (entryFrame m #[(.int p1)] 1)) t := fun t k => pre6 t (by
            show Steps p.tables e below (s₁.setTop (mkF m 36 #[.val (.int p1)] [])) _
            refine XS.iloadN X0.here hx rfl (hb hby d1_36) rfl ?_
            show Steps p.tables e below (s₁.setTop (mkF m 37 #[.val (.int p1)] [(.int p1)])) _
            refine XS.bipush X0.here hx rfl (hb hby d1_37) ?_
            show Steps p.tables e below (s₁.setTop (mkF m 39 #[.val (.int p1)] [(.int (95 : Int32)), (.int p1)])) _
            refine XS.icmpYes X0.here hx rfl (pc0 := 39) (pc' := 55) rfl (hb hby d1_39) rfl (teq hE95).1 (by decide) (by decide) ?_
            show Steps p.tables e below (s₁.setTop (mkF m 55 #[.val (.int p1)] [])) _
            refine XS.iconst X0.here hx rfl (hb hby d1_55) ?_
            show Steps p.tables e below (s₁.setTop (mkF m 56 #[.val (.int p1)] [(.int (1 : Int32))])) _
            refine XS.goto X0.here hx rfl (pc0 := 56) (pc' := 60) rfl (hb hby d1_56) (by decide) (by decide) ?_
            show Steps p.tables e below (s₁.setTop (mkF m 60 #[.val (.int p1)] [(.int (1 : Int32))])) _
            exact k)
          obtain ⟨fs, hr, hrun, hended, hW, hsame⟩ := X0.leave (v := some (.int (1 : Int32))) (fun h => by rw [Bd.returns] at h; cases h)
          refine ⟨_, _, pre7 _ ?_, hrun, hended, _, _, rfl, ?_, ⟨_, rfl⟩, hW, hsame.mono (by decide) (by decide)⟩
          · show Steps p.tables e below (s₁.setTop (mkF m 60 #[.val (.int p1)] [(.int (1 : Int32))])) _
            exact retN X0 hx (t := .boolean) Bd.returns (by simp) (hb hby d1_60) hr
          · show Q1 Z p1 h0 n0 _ s₁.heap _
            rw [e0]
            exact ⟨congrArg (fun z => some (Value.int z)) (Eq.symm (if_pos (Or.inr (Or.inr (Or.inr (Or.inl hE95)))))), N0, rfl⟩
        · skip
          by_cases hE36 : p1 = (36 : Int32)
          · skip
            have pre8 : ∀ t, Steps p.tables e below (s₁.setTop (mkF m 60 #[.val (.int p1)] [(.int (1 : Int32))])) t → Steps p.tables e below (s₁.setTop (entryFrame m #[(.int p1)] 1)) t := fun t k => pre6 t (by
              show Steps p.tables e below (s₁.setTop (mkF m 36 #[.val (.int p1)] [])) _
              refine XS.iloadN X0.here hx rfl (hb hby d1_36) rfl ?_
              show Steps p.tables e below (s₁.setTop (mkF m 37 #[.val (.int p1)] [(.int p1)])) _
              refine XS.bipush X0.here hx rfl (hb hby d1_37) ?_
              show Steps p.tables e below (s₁.setTop (mkF m 39 #[.val (.int p1)] [(.int (95 : Int32)), (.int p1)])) _
              refine XS.icmpNo X0.here hx rfl (hb hby d1_39) rfl (feq hE95).1 ?_
              show Steps p.tables e below (s₁.setTop (mkF m 42 #[.val (.int p1)] [])) _
              refine XS.iloadN X0.here hx rfl (hb hby d1_42) rfl ?_
              show Steps p.tables e below (s₁.setTop (mkF m 43 #[.val (.int p1)] [(.int p1)])) _
              refine XS.bipush X0.here hx rfl (hb hby d1_43) ?_
              show Steps p.tables e below (s₁.setTop (mkF m 45 #[.val (.int p1)] [(.int (36 : Int32)), (.int p1)])) _
              refine XS.icmpYes X0.here hx rfl (pc0 := 45) (pc' := 55) rfl (hb hby d1_45) rfl (teq hE36).1 (by decide) (by decide) ?_
              show Steps p.tables e below (s₁.setTop (mkF m 55 #[.val (.int p1)] [])) _
              refine XS.iconst X0.here hx rfl (hb hby d1_55) ?_
              show Steps p.tables e below (s₁.setTop (mkF m 56 #[.val (.int p1)] [(.int (1 : Int32))])) _
              refine XS.goto X0.here hx rfl (pc0 := 56) (pc' := 60) rfl (hb hby d1_56) (by decide) (by decide) ?_
              show Steps p.tables e below (s₁.setTop (mkF m 60 #[.val (.int p1)] [(.int (1 : Int32))])) _
              exact k)
            obtain ⟨fs, hr, hrun, hended, hW, hsame⟩ := X0.leave (v := some (.int (1 : Int32))) (fun h => by rw [Bd.returns] at h; cases h)
            refine ⟨_, _, pre8 _ ?_, hrun, hended, _, _, rfl, ?_, ⟨_, rfl⟩, hW, hsame.mono (by decide) (by decide)⟩
            · show Steps p.tables e below (s₁.setTop (mkF m 60 #[.val (.int p1)] [(.int (1 : Int32))])) _
              exact retN X0 hx (t := .boolean) Bd.returns (by simp) (hb hby d1_60) hr
            · show Q1 Z p1 h0 n0 _ s₁.heap _
              rw [e0]
              exact ⟨congrArg (fun z => some (Value.int z)) (Eq.symm (if_pos (Or.inr (Or.inr (Or.inr (Or.inr (Or.inl hE36))))))), N0, rfl⟩
          · skip
            by_cases hF : p1 < (128 : Int32)
            · skip
              have pre9 : ∀ t, Steps p.tables e below (s₁.setTop (mkF m 60 #[.val (.int p1)] [(.int (0 : Int32))])) t → Steps p.tables e below (s₁.setTop (entryFrame m #[(.int p1)] 1)) t := fun t k => pre6 t (by
                show Steps p.tables e below (s₁.setTop (mkF m 36 #[.val (.int p1)] [])) _
                refine XS.iloadN X0.here hx rfl (hb hby d1_36) rfl ?_
                show Steps p.tables e below (s₁.setTop (mkF m 37 #[.val (.int p1)] [(.int p1)])) _
                refine XS.bipush X0.here hx rfl (hb hby d1_37) ?_
                show Steps p.tables e below (s₁.setTop (mkF m 39 #[.val (.int p1)] [(.int (95 : Int32)), (.int p1)])) _
                refine XS.icmpNo X0.here hx rfl (hb hby d1_39) rfl (feq hE95).1 ?_
                show Steps p.tables e below (s₁.setTop (mkF m 42 #[.val (.int p1)] [])) _
                refine XS.iloadN X0.here hx rfl (hb hby d1_42) rfl ?_
                show Steps p.tables e below (s₁.setTop (mkF m 43 #[.val (.int p1)] [(.int p1)])) _
                refine XS.bipush X0.here hx rfl (hb hby d1_43) ?_
                show Steps p.tables e below (s₁.setTop (mkF m 45 #[.val (.int p1)] [(.int (36 : Int32)), (.int p1)])) _
                refine XS.icmpNo X0.here hx rfl (hb hby d1_45) rfl (feq hE36).1 ?_
                show Steps p.tables e below (s₁.setTop (mkF m 48 #[.val (.int p1)] [])) _
                refine XS.iloadN X0.here hx rfl (hb hby d1_48) rfl ?_
                show Steps p.tables e below (s₁.setTop (mkF m 49 #[.val (.int p1)] [(.int p1)])) _
                refine XS.sipush X0.here hx rfl (hb hby d1_49) ?_
                show Steps p.tables e below (s₁.setTop (mkF m 52 #[.val (.int p1)] [(.int (128 : Int32)), (.int p1)])) _
                refine XS.icmpYes X0.here hx rfl (pc0 := 52) (pc' := 59) rfl (hb hby d1_52) rfl (tlt hF).1 (by decide) (by decide) ?_
                show Steps p.tables e below (s₁.setTop (mkF m 59 #[.val (.int p1)] [])) _
                refine XS.iconst X0.here hx rfl (hb hby d1_59) ?_
                show Steps p.tables e below (s₁.setTop (mkF m 60 #[.val (.int p1)] [(.int (0 : Int32))])) _
                exact k)
              obtain ⟨fs, hr, hrun, hended, hW, hsame⟩ := X0.leave (v := some (.int (0 : Int32))) (fun h => by rw [Bd.returns] at h; cases h)
              refine ⟨_, _, pre9 _ ?_, hrun, hended, _, _, rfl, ?_, ⟨_, rfl⟩, hW, hsame.mono (by decide) (by decide)⟩
              · show Steps p.tables e below (s₁.setTop (mkF m 60 #[.val (.int p1)] [(.int (0 : Int32))])) _
                exact retN X0 hx (t := .boolean) Bd.returns (by simp) (hb hby d1_60) hr
              · show Q1 Z p1 h0 n0 _ s₁.heap _
                rw [e0]
                exact ⟨congrArg (fun z => some (Value.int z)) (Eq.symm (if_neg (by rintro (q | q | q | q | q | q) <;> first | exact hA0 q | exact hA1 q | exact hA2 q | exact hE95 q | exact hE36 q | exact q hF))), N0, rfl⟩
            · skip
              have pre10 : ∀ t, Steps p.tables e below (s₁.setTop (mkF m 60 #[.val (.int p1)] [(.int (1 : Int32))])) t → Steps p.tables e below (s₁.setTop (entryFrame m #[(.int p1)] 1)) t := fun t k => pre6 t (by
                show Steps p.tables e below (s₁.setTop (mkF m 36 #[.val (.int p1)] [])) _
                refine XS.iloadN X0.here hx rfl (hb hby d1_36) rfl ?_
                show Steps p.tables e below (s₁.setTop (mkF m 37 #[.val (.int p1)] [(.int p1)])) _
                refine XS.bipush X0.here hx rfl (hb hby d1_37) ?_
                show Steps p.tables e below (s₁.setTop (mkF m 39 #[.val (.int p1)] [(.int (95 : Int32)), (.int p1)])) _
                refine XS.icmpNo X0.here hx rfl (hb hby d1_39) rfl (feq hE95).1 ?_
                show Steps p.tables e below (s₁.setTop (mkF m 42 #[.val (.int p1)] [])) _
                refine XS.iloadN X0.here hx rfl (hb hby d1_42) rfl ?_
                show Steps p.tables e below (s₁.setTop (mkF m 43 #[.val (.int p1)] [(.int p1)])) _
                refine XS.bipush X0.here hx rfl (hb hby d1_43) ?_
                show Steps p.tables e below (s₁.setTop (mkF m 45 #[.val (.int p1)] [(.int (36 : Int32)), (.int p1)])) _
                refine XS.icmpNo X0.here hx rfl (hb hby d1_45) rfl (feq hE36).1 ?_
                show Steps p.tables e below (s₁.setTop (mkF m 48 #[.val (.int p1)] [])) _
                refine XS.iloadN X0.here hx rfl (hb hby d1_48) rfl ?_
                show Steps p.tables e below (s₁.setTop (mkF m 49 #[.val (.int p1)] [(.int p1)])) _
                refine XS.sipush X0.here hx rfl (hb hby d1_49) ?_
                show Steps p.tables e below (s₁.setTop (mkF m 52 #[.val (.int p1)] [(.int (128 : Int32)), (.int p1)])) _
                refine XS.icmpNo X0.here hx rfl (hb hby d1_52) rfl (flt hF).1 ?_
                show Steps p.tables e below (s₁.setTop (mkF m 55 #[.val (.int p1)] [])) _
                refine XS.iconst X0.here hx rfl (hb hby d1_55) ?_
                show Steps p.tables e below (s₁.setTop (mkF m 56 #[.val (.int p1)] [(.int (1 : Int32))])) _
                refine XS.goto X0.here hx rfl (pc0 := 56) (pc' := 60) rfl (hb hby d1_56) (by decide) (by decide) ?_
                show Steps p.tables e below (s₁.setTop (mkF m 60 #[.val (.int p1)] [(.int (1 : Int32))])) _
                exact k)
              obtain ⟨fs, hr, hrun, hended, hW, hsame⟩ := X0.leave (v := some (.int (1 : Int32))) (fun h => by rw [Bd.returns] at h; cases h)
              refine ⟨_, _, pre10 _ ?_, hrun, hended, _, _, rfl, ?_, ⟨_, rfl⟩, hW, hsame.mono (by decide) (by decide)⟩
              · show Steps p.tables e below (s₁.setTop (mkF m 60 #[.val (.int p1)] [(.int (1 : Int32))])) _
                exact retN X0 hx (t := .boolean) Bd.returns (by simp) (hb hby d1_60) hr
              · show Q1 Z p1 h0 n0 _ s₁.heap _
                rw [e0]
                exact ⟨congrArg (fun z => some (Value.int z)) (Eq.symm (if_pos (Or.inr (Or.inr (Or.inr (Or.inr (Or.inr hF))))))), N0, rfl⟩
theorem d2_0 : decode method_2_code 0 = .ok (.iload_n 0, 1) := by decide +kernel
theorem d2_1 : decode method_2_code 1 = .ok (.sipush 128, 3) := by decide +kernel
theorem d2_4 : decode method_2_code 4 = .ok (.if_icmp .lt 5, 3) := by decide +kernel
theorem d2_7 : decode method_2_code 7 = .ok (.iconst 1, 1) := by decide +kernel
theorem d2_8 : decode method_2_code 8 = .ok (.ireturn, 1) := by decide +kernel
theorem d2_9 : decode method_2_code 9 = .ok (.iload_n 0, 1) := by decide +kernel
theorem d2_10 : decode method_2_code 10 = .ok (.bipush 32, 2) := by decide +kernel
theorem d2_12 : decode method_2_code 12 = .ok (.ior, 1) := by decide +kernel
theorem d2_13 : decode method_2_code 13 = .ok (.bipush 97, 2) := by decide +kernel
theorem d2_15 : decode method_2_code 15 = .ok (.isub, 1) := by decide +kernel
theorem d2_16 : decode method_2_code 16 = .ok (.istore_n 1, 1) := by decide +kernel
theorem d2_17 : decode method_2_code 17 = .ok (.iload_n 1, 1) := by decide +kernel
theorem d2_18 : decode method_2_code 18 = .ok (.ifCond .lt 13, 3) := by decide +kernel
theorem d2_21 : decode method_2_code 21 = .ok (.iload_n 1, 1) := by decide +kernel
theorem d2_22 : decode method_2_code 22 = .ok (.bipush 26, 2) := by decide +kernel
theorem d2_24 : decode method_2_code 24 = .ok (.if_icmp .ge 7, 3) := by decide +kernel
theorem d2_27 : decode method_2_code 27 = .ok (.iconst 1, 1) := by decide +kernel
theorem d2_28 : decode method_2_code 28 = .ok (.goto 4, 3) := by decide +kernel
theorem d2_31 : decode method_2_code 31 = .ok (.iconst 0, 1) := by decide +kernel
theorem d2_32 : decode method_2_code 32 = .ok (.istore_n 2, 1) := by decide +kernel
theorem d2_33 : decode method_2_code 33 = .ok (.iload_n 0, 1) := by decide +kernel
theorem d2_34 : decode method_2_code 34 = .ok (.bipush 48, 2) := by decide +kernel
theorem d2_36 : decode method_2_code 36 = .ok (.isub, 1) := by decide +kernel
theorem d2_37 : decode method_2_code 37 = .ok (.istore_n 3, 1) := by decide +kernel
theorem d2_38 : decode method_2_code 38 = .ok (.iload_n 3, 1) := by decide +kernel
theorem d2_39 : decode method_2_code 39 = .ok (.ifCond .lt 13, 3) := by decide +kernel
theorem d2_42 : decode method_2_code 42 = .ok (.iload_n 3, 1) := by decide +kernel
theorem d2_43 : decode method_2_code 43 = .ok (.bipush 10, 2) := by decide +kernel
theorem d2_45 : decode method_2_code 45 = .ok (.if_icmp .ge 7, 3) := by decide +kernel
theorem d2_48 : decode method_2_code 48 = .ok (.iconst 1, 1) := by decide +kernel
theorem d2_49 : decode method_2_code 49 = .ok (.goto 4, 3) := by decide +kernel
theorem d2_52 : decode method_2_code 52 = .ok (.iconst 0, 1) := by decide +kernel
theorem d2_53 : decode method_2_code 53 = .ok (.istore 4, 2) := by decide +kernel
theorem d2_55 : decode method_2_code 55 = .ok (.iload_n 2, 1) := by decide +kernel
theorem d2_56 : decode method_2_code 56 = .ok (.ifCond .ne 20, 3) := by decide +kernel
theorem d2_59 : decode method_2_code 59 = .ok (.iload 4, 2) := by decide +kernel
theorem d2_61 : decode method_2_code 61 = .ok (.ifCond .ne 15, 3) := by decide +kernel
theorem d2_64 : decode method_2_code 64 = .ok (.iload_n 0, 1) := by decide +kernel
theorem d2_65 : decode method_2_code 65 = .ok (.bipush 95, 2) := by decide +kernel
theorem d2_67 : decode method_2_code 67 = .ok (.if_icmp .eq 9, 3) := by decide +kernel
theorem d2_70 : decode method_2_code 70 = .ok (.iload_n 0, 1) := by decide +kernel
theorem d2_71 : decode method_2_code 71 = .ok (.bipush 36, 2) := by decide +kernel
theorem d2_73 : decode method_2_code 73 = .ok (.if_icmp .ne 7, 3) := by decide +kernel
theorem d2_76 : decode method_2_code 76 = .ok (.iconst 1, 1) := by decide +kernel
theorem d2_77 : decode method_2_code 77 = .ok (.goto 4, 3) := by decide +kernel
theorem d2_80 : decode method_2_code 80 = .ok (.iconst 0, 1) := by decide +kernel
theorem d2_81 : decode method_2_code 81 = .ok (.ireturn, 1) := by decide +kernel
theorem pn_2 : plainName "com/example/tables_to_vault/tablestovault/database/SqlTokensIsWordPartPinLaw" = true := by first | (simp [plainName, overriddenIn]; done) | decide +kernel
theorem ef_2 (m : MethodId) (x0 : Int32) : entryFrame m #[(.int x0)] 5 = mkF m 0 #[.val (.int x0), .unset, .unset, .unset, .unset] [] := by first | (simp [entryFrame, mkF, argsToLocals, Value.category]; done) | rfl
def Q2 (Z : State) (p1 : Int32) (h0 : Heap) (n0 : Nat) (v : Option Value) (h : Heap) (L : List Loc) : Prop := v = some (.int (own_x p1)) ∧ Fr n0 L ∧ h = h0
set_option maxRecDepth 65536 in
set_option maxHeartbeats 40000000 in
theorem rm2 (l : Launch) (Z : State) (a0 : Array Value) (hw : ∀ d ∈ tables_1, d.before a0 Z = true) (ws : List Jvm.Cond) (p1 : Int32) (h0 : Heap) (n0 : Nat) (Z0 : n0 ≤ h0.size) :
    MetFree l (⟨"com/example/tables_to_vault/tablestovault/database/SqlTokensIsWordPartPinLaw", "expected", "(C)Z"⟩ : MethodName) (head1 (Jvm.Cond.code (⟨"com/example/tables_to_vault/tablestovault/database/SqlTokensIsWordPartPinLaw", "expected", "(C)Z"⟩ : MethodName) method_2_code 5 (some .boolean) :: ws) ({ frames := 0, cells := 0, slots := 0, locals := 0 } : Room)) (fun a U => a = #[(.int p1)] ∧ Z.Warmed39 U.vm ∧ U.heap = h0) (fun _ _ _ _ _ => True) (fun _ U o U' => ∃ v L, o = .returned v ∧ Q2 Z p1 h0 n0 v U'.heap L ∧ FrameEnd U o U' L ({ frames := 0, cells := 0, slots := 0, locals := 0 } : Room).cells ({ frames := 0, cells := 0, slots := 0, locals := 0 } : Room).slots) := by
  refine MetFree.of_bodySF (plainFor_of_name pn_2) hisR ?_
  intro p e s m args below meth c s₁ Bd hml0 hP hK
  obtain ⟨rfl, hZ, hh⟩ := hP
  have hx := Bd.exec
  have hby := Bd.bytes
  have hml : c.maxLocals = 5 := hml0
  have hown : s.vm.findClass "com/example/tables_to_vault/tablestovault/database/SqlTokensIsWordPartPinLaw" = some m.cls := findClass_of_methodNamed Bd.named
  have hnm := (name_of_methodNamed Bd.named Bd.method).1
  have X0 : Stand p l e ({ frames := 0, cells := 0, slots := 0, locals := 0 } : Room) s m #[(.int p1)] below meth c s₁ [] 0 0 := Stand.of_body Bd
  have e0 : s₁.heap = h0 := by rw [← hh, Bd.state]; rfl
  have N0 := Fr.nil n0
  have pre0 : ∀ t, Steps p.tables e below (s₁.setTop (mkF m 0 #[.val (.int p1), .unset, .unset, .unset, .unset] [])) t → Steps p.tables e below (s₁.setTop (entryFrame m #[(.int p1)] 5)) t := fun t k => castTop (ef_2 m p1) k
  by_cases h0x : p1 < (128 : Int32)
  · skip
    have pre1 : ∀ t, Steps p.tables e below (s₁.setTop (mkF m 18 #[.val (.int p1), .val (.int ((p1 ||| (32 : Int32)) - (97 : Int32))), .unset, .unset, .unset] [(.int ((p1 ||| (32 : Int32)) - (97 : Int32)))])) t → Steps p.tables e below (s₁.setTop (entryFrame m #[(.int p1)] 5)) t := fun t k => pre0 t (by
      show Steps p.tables e below (s₁.setTop (mkF m 0 #[.val (.int p1), .unset, .unset, .unset, .unset] [])) _
      refine XS.iloadN X0.here hx rfl (hb hby d2_0) rfl ?_
      show Steps p.tables e below (s₁.setTop (mkF m 1 #[.val (.int p1), .unset, .unset, .unset, .unset] [(.int p1)])) _
      refine XS.sipush X0.here hx rfl (hb hby d2_1) ?_
      show Steps p.tables e below (s₁.setTop (mkF m 4 #[.val (.int p1), .unset, .unset, .unset, .unset] [(.int (128 : Int32)), (.int p1)])) _
      refine XS.icmpYes X0.here hx rfl (pc0 := 4) (pc' := 9) rfl (hb hby d2_4) rfl (tlt h0x).1 (by decide) (by decide) ?_
      show Steps p.tables e below (s₁.setTop (mkF m 9 #[.val (.int p1), .unset, .unset, .unset, .unset] [])) _
      refine XS.iloadN X0.here hx rfl (hb hby d2_9) rfl ?_
      show Steps p.tables e below (s₁.setTop (mkF m 10 #[.val (.int p1), .unset, .unset, .unset, .unset] [(.int p1)])) _
      refine XS.bipush X0.here hx rfl (hb hby d2_10) ?_
      show Steps p.tables e below (s₁.setTop (mkF m 12 #[.val (.int p1), .unset, .unset, .unset, .unset] [(.int (32 : Int32)), (.int p1)])) _
      refine XS.ior X0.here hx rfl (hb hby d2_12) rfl ?_
      show Steps p.tables e below (s₁.setTop (mkF m 13 #[.val (.int p1), .unset, .unset, .unset, .unset] [(.int (p1 ||| (32 : Int32)))])) _
      refine XS.bipush X0.here hx rfl (hb hby d2_13) ?_
      show Steps p.tables e below (s₁.setTop (mkF m 15 #[.val (.int p1), .unset, .unset, .unset, .unset] [(.int (97 : Int32)), (.int (p1 ||| (32 : Int32)))])) _
      refine XS.isub X0.here hx rfl (hb hby d2_15) rfl ?_
      show Steps p.tables e below (s₁.setTop (mkF m 16 #[.val (.int p1), .unset, .unset, .unset, .unset] [(.int ((p1 ||| (32 : Int32)) - (97 : Int32)))])) _
      refine XS.istoreN X0.here hx rfl (hb hby d2_16) rfl (l' := #[.val (.int p1), .val (.int ((p1 ||| (32 : Int32)) - (97 : Int32))), .unset, .unset, .unset]) rfl ?_
      show Steps p.tables e below (s₁.setTop (mkF m 17 #[.val (.int p1), .val (.int ((p1 ||| (32 : Int32)) - (97 : Int32))), .unset, .unset, .unset] [])) _
      refine XS.iloadN X0.here hx rfl (hb hby d2_17) rfl ?_
      show Steps p.tables e below (s₁.setTop (mkF m 18 #[.val (.int p1), .val (.int ((p1 ||| (32 : Int32)) - (97 : Int32))), .unset, .unset, .unset] [(.int ((p1 ||| (32 : Int32)) - (97 : Int32)))])) _
      exact k)
    have hx1 : own_x p1 = (if ¬ own_l p1 = 0 ∨ ¬ own_g p1 = 0 ∨ p1 = 95 ∨ p1 = 36 then 1 else 0) := if_pos h0x
    have pre2 : ∀ t, Steps p.tables e below (s₁.setTop (mkF m 33 #[.val (.int p1), .val (.int ((p1 ||| (32 : Int32)) - (97 : Int32))), .val (.int (own_l p1)), .unset, .unset] [])) t → Steps p.tables e below (s₁.setTop (entryFrame m #[(.int p1)] 5)) t := fun t k => pre1 t (by
      by_cases hB : ((p1 ||| (32 : Int32)) - (97 : Int32)) < (0 : Int32)
      · skip
        show Steps p.tables e below (s₁.setTop (mkF m 18 #[.val (.int p1), .val (.int ((p1 ||| (32 : Int32)) - (97 : Int32))), .unset, .unset, .unset] [(.int ((p1 ||| (32 : Int32)) - (97 : Int32)))])) _
        refine XS.ifYes X0.here hx rfl (pc0 := 18) (pc' := 31) rfl (hb hby d2_18) rfl ((if0 _ _).trans (tlt hB).1) (by decide) (by decide) ?_
        show Steps p.tables e below (s₁.setTop (mkF m 31 #[.val (.int p1), .val (.int ((p1 ||| (32 : Int32)) - (97 : Int32))), .unset, .unset, .unset] [])) _
        refine XS.iconst X0.here hx rfl (hb hby d2_31) ?_
        show Steps p.tables e below (s₁.setTop (mkF m 32 #[.val (.int p1), .val (.int ((p1 ||| (32 : Int32)) - (97 : Int32))), .unset, .unset, .unset] [(.int (0 : Int32))])) _
        refine XS.istoreN X0.here hx rfl (hb hby d2_32) rfl (l' := #[.val (.int p1), .val (.int ((p1 ||| (32 : Int32)) - (97 : Int32))), .val (.int (0 : Int32)), .unset, .unset]) rfl ?_
        show Steps p.tables e below (s₁.setTop (mkF m 33 #[.val (.int p1), .val (.int ((p1 ||| (32 : Int32)) - (97 : Int32))), .val (.int (0 : Int32)), .unset, .unset] [])) _
        rw [show own_l p1 = (0 : Int32) from if_neg (fun q => q.1 hB)] at k
        exact k
      · skip
        by_cases hD : ((p1 ||| (32 : Int32)) - (97 : Int32)) < (26 : Int32)
        · skip
          show Steps p.tables e below (s₁.setTop (mkF m 18 #[.val (.int p1), .val (.int ((p1 ||| (32 : Int32)) - (97 : Int32))), .unset, .unset, .unset] [(.int ((p1 ||| (32 : Int32)) - (97 : Int32)))])) _
          refine XS.ifNo X0.here hx rfl (hb hby d2_18) rfl ((if0 _ _).trans (flt hB).1) ?_
          show Steps p.tables e below (s₁.setTop (mkF m 21 #[.val (.int p1), .val (.int ((p1 ||| (32 : Int32)) - (97 : Int32))), .unset, .unset, .unset] [])) _
          refine XS.iloadN X0.here hx rfl (hb hby d2_21) rfl ?_
          show Steps p.tables e below (s₁.setTop (mkF m 22 #[.val (.int p1), .val (.int ((p1 ||| (32 : Int32)) - (97 : Int32))), .unset, .unset, .unset] [(.int ((p1 ||| (32 : Int32)) - (97 : Int32)))])) _
          refine XS.bipush X0.here hx rfl (hb hby d2_22) ?_
          show Steps p.tables e below (s₁.setTop (mkF m 24 #[.val (.int p1), .val (.int ((p1 ||| (32 : Int32)) - (97 : Int32))), .unset, .unset, .unset] [(.int (26 : Int32)), (.int ((p1 ||| (32 : Int32)) - (97 : Int32)))])) _
          refine XS.icmpNo X0.here hx rfl (hb hby d2_24) rfl (tlt hD).2.1 ?_
          show Steps p.tables e below (s₁.setTop (mkF m 27 #[.val (.int p1), .val (.int ((p1 ||| (32 : Int32)) - (97 : Int32))), .unset, .unset, .unset] [])) _
          refine XS.iconst X0.here hx rfl (hb hby d2_27) ?_
          show Steps p.tables e below (s₁.setTop (mkF m 28 #[.val (.int p1), .val (.int ((p1 ||| (32 : Int32)) - (97 : Int32))), .unset, .unset, .unset] [(.int (1 : Int32))])) _
          refine XS.goto X0.here hx rfl (pc0 := 28) (pc' := 32) rfl (hb hby d2_28) (by decide) (by decide) ?_
          show Steps p.tables e below (s₁.setTop (mkF m 32 #[.val (.int p1), .val (.int ((p1 ||| (32 : Int32)) - (97 : Int32))), .unset, .unset, .unset] [(.int (1 : Int32))])) _
          refine XS.istoreN X0.here hx rfl (hb hby d2_32) rfl (l' := #[.val (.int p1), .val (.int ((p1 ||| (32 : Int32)) - (97 : Int32))), .val (.int (1 : Int32)), .unset, .unset]) rfl ?_
          show Steps p.tables e below (s₁.setTop (mkF m 33 #[.val (.int p1), .val (.int ((p1 ||| (32 : Int32)) - (97 : Int32))), .val (.int (1 : Int32)), .unset, .unset] [])) _
          rw [show own_l p1 = (1 : Int32) from if_pos ⟨hB, hD⟩] at k
          exact k
        · skip
          show Steps p.tables e below (s₁.setTop (mkF m 18 #[.val (.int p1), .val (.int ((p1 ||| (32 : Int32)) - (97 : Int32))), .unset, .unset, .unset] [(.int ((p1 ||| (32 : Int32)) - (97 : Int32)))])) _
          refine XS.ifNo X0.here hx rfl (hb hby d2_18) rfl ((if0 _ _).trans (flt hB).1) ?_
          show Steps p.tables e below (s₁.setTop (mkF m 21 #[.val (.int p1), .val (.int ((p1 ||| (32 : Int32)) - (97 : Int32))), .unset, .unset, .unset] [])) _
          refine XS.iloadN X0.here hx rfl (hb hby d2_21) rfl ?_
          show Steps p.tables e below (s₁.setTop (mkF m 22 #[.val (.int p1), .val (.int ((p1 ||| (32 : Int32)) - (97 : Int32))), .unset, .unset, .unset] [(.int ((p1 ||| (32 : Int32)) - (97 : Int32)))])) _
          refine XS.bipush X0.here hx rfl (hb hby d2_22) ?_
          show Steps p.tables e below (s₁.setTop (mkF m 24 #[.val (.int p1), .val (.int ((p1 ||| (32 : Int32)) - (97 : Int32))), .unset, .unset, .unset] [(.int (26 : Int32)), (.int ((p1 ||| (32 : Int32)) - (97 : Int32)))])) _
          refine XS.icmpYes X0.here hx rfl (pc0 := 24) (pc' := 31) rfl (hb hby d2_24) rfl (flt hD).2.1 (by decide) (by decide) ?_
          show Steps p.tables e below (s₁.setTop (mkF m 31 #[.val (.int p1), .val (.int ((p1 ||| (32 : Int32)) - (97 : Int32))), .unset, .unset, .unset] [])) _
          refine XS.iconst X0.here hx rfl (hb hby d2_31) ?_
          show Steps p.tables e below (s₁.setTop (mkF m 32 #[.val (.int p1), .val (.int ((p1 ||| (32 : Int32)) - (97 : Int32))), .unset, .unset, .unset] [(.int (0 : Int32))])) _
          refine XS.istoreN X0.here hx rfl (hb hby d2_32) rfl (l' := #[.val (.int p1), .val (.int ((p1 ||| (32 : Int32)) - (97 : Int32))), .val (.int (0 : Int32)), .unset, .unset]) rfl ?_
          show Steps p.tables e below (s₁.setTop (mkF m 33 #[.val (.int p1), .val (.int ((p1 ||| (32 : Int32)) - (97 : Int32))), .val (.int (0 : Int32)), .unset, .unset] [])) _
          rw [show own_l p1 = (0 : Int32) from if_neg (fun q => hD q.2)] at k
          exact k)
    have pre3 : ∀ t, Steps p.tables e below (s₁.setTop (mkF m 55 #[.val (.int p1), .val (.int ((p1 ||| (32 : Int32)) - (97 : Int32))), .val (.int (own_l p1)), .val (.int (p1 - (48 : Int32))), .val (.int (own_g p1))] [])) t → Steps p.tables e below (s₁.setTop (entryFrame m #[(.int p1)] 5)) t := fun t k => pre2 t (by
      by_cases hB : (p1 - (48 : Int32)) < (0 : Int32)
      · skip
        show Steps p.tables e below (s₁.setTop (mkF m 33 #[.val (.int p1), .val (.int ((p1 ||| (32 : Int32)) - (97 : Int32))), .val (.int (own_l p1)), .unset, .unset] [])) _
        refine XS.iloadN X0.here hx rfl (hb hby d2_33) rfl ?_
        show Steps p.tables e below (s₁.setTop (mkF m 34 #[.val (.int p1), .val (.int ((p1 ||| (32 : Int32)) - (97 : Int32))), .val (.int (own_l p1)), .unset, .unset] [(.int p1)])) _
        refine XS.bipush X0.here hx rfl (hb hby d2_34) ?_
        show Steps p.tables e below (s₁.setTop (mkF m 36 #[.val (.int p1), .val (.int ((p1 ||| (32 : Int32)) - (97 : Int32))), .val (.int (own_l p1)), .unset, .unset] [(.int (48 : Int32)), (.int p1)])) _
        refine XS.isub X0.here hx rfl (hb hby d2_36) rfl ?_
        show Steps p.tables e below (s₁.setTop (mkF m 37 #[.val (.int p1), .val (.int ((p1 ||| (32 : Int32)) - (97 : Int32))), .val (.int (own_l p1)), .unset, .unset] [(.int (p1 - (48 : Int32)))])) _
        refine XS.istoreN X0.here hx rfl (hb hby d2_37) rfl (l' := #[.val (.int p1), .val (.int ((p1 ||| (32 : Int32)) - (97 : Int32))), .val (.int (own_l p1)), .val (.int (p1 - (48 : Int32))), .unset]) rfl ?_
        show Steps p.tables e below (s₁.setTop (mkF m 38 #[.val (.int p1), .val (.int ((p1 ||| (32 : Int32)) - (97 : Int32))), .val (.int (own_l p1)), .val (.int (p1 - (48 : Int32))), .unset] [])) _
        refine XS.iloadN X0.here hx rfl (hb hby d2_38) rfl ?_
        show Steps p.tables e below (s₁.setTop (mkF m 39 #[.val (.int p1), .val (.int ((p1 ||| (32 : Int32)) - (97 : Int32))), .val (.int (own_l p1)), .val (.int (p1 - (48 : Int32))), .unset] [(.int (p1 - (48 : Int32)))])) _
        refine XS.ifYes X0.here hx rfl (pc0 := 39) (pc' := 52) rfl (hb hby d2_39) rfl ((if0 _ _).trans (tlt hB).1) (by decide) (by decide) ?_
        show Steps p.tables e below (s₁.setTop (mkF m 52 #[.val (.int p1), .val (.int ((p1 ||| (32 : Int32)) - (97 : Int32))), .val (.int (own_l p1)), .val (.int (p1 - (48 : Int32))), .unset] [])) _
        refine XS.iconst X0.here hx rfl (hb hby d2_52) ?_
        show Steps p.tables e below (s₁.setTop (mkF m 53 #[.val (.int p1), .val (.int ((p1 ||| (32 : Int32)) - (97 : Int32))), .val (.int (own_l p1)), .val (.int (p1 - (48 : Int32))), .unset] [(.int (0 : Int32))])) _
        refine XS.istore X0.here hx rfl (hb hby d2_53) rfl (l' := #[.val (.int p1), .val (.int ((p1 ||| (32 : Int32)) - (97 : Int32))), .val (.int (own_l p1)), .val (.int (p1 - (48 : Int32))), .val (.int (0 : Int32))]) rfl ?_
        show Steps p.tables e below (s₁.setTop (mkF m 55 #[.val (.int p1), .val (.int ((p1 ||| (32 : Int32)) - (97 : Int32))), .val (.int (own_l p1)), .val (.int (p1 - (48 : Int32))), .val (.int (0 : Int32))] [])) _
        rw [show own_g p1 = (0 : Int32) from if_neg (fun q => q.1 hB)] at k
        exact k
      · skip
        by_cases hD : (p1 - (48 : Int32)) < (10 : Int32)
        · skip
          show Steps p.tables e below (s₁.setTop (mkF m 33 #[.val (.int p1), .val (.int ((p1 ||| (32 : Int32)) - (97 : Int32))), .val (.int (own_l p1)), .unset, .unset] [])) _
          refine XS.iloadN X0.here hx rfl (hb hby d2_33) rfl ?_
          show Steps p.tables e below (s₁.setTop (mkF m 34 #[.val (.int p1), .val (.int ((p1 ||| (32 : Int32)) - (97 : Int32))), .val (.int (own_l p1)), .unset, .unset] [(.int p1)])) _
          refine XS.bipush X0.here hx rfl (hb hby d2_34) ?_
          show Steps p.tables e below (s₁.setTop (mkF m 36 #[.val (.int p1), .val (.int ((p1 ||| (32 : Int32)) - (97 : Int32))), .val (.int (own_l p1)), .unset, .unset] [(.int (48 : Int32)), (.int p1)])) _
          refine XS.isub X0.here hx rfl (hb hby d2_36) rfl ?_
          show Steps p.tables e below (s₁.setTop (mkF m 37 #[.val (.int p1), .val (.int ((p1 ||| (32 : Int32)) - (97 : Int32))), .val (.int (own_l p1)), .unset, .unset] [(.int (p1 - (48 : Int32)))])) _
          refine XS.istoreN X0.here hx rfl (hb hby d2_37) rfl (l' := #[.val (.int p1), .val (.int ((p1 ||| (32 : Int32)) - (97 : Int32))), .val (.int (own_l p1)), .val (.int (p1 - (48 : Int32))), .unset]) rfl ?_
          show Steps p.tables e below (s₁.setTop (mkF m 38 #[.val (.int p1), .val (.int ((p1 ||| (32 : Int32)) - (97 : Int32))), .val (.int (own_l p1)), .val (.int (p1 - (48 : Int32))), .unset] [])) _
          refine XS.iloadN X0.here hx rfl (hb hby d2_38) rfl ?_
          show Steps p.tables e below (s₁.setTop (mkF m 39 #[.val (.int p1), .val (.int ((p1 ||| (32 : Int32)) - (97 : Int32))), .val (.int (own_l p1)), .val (.int (p1 - (48 : Int32))), .unset] [(.int (p1 - (48 : Int32)))])) _
          refine XS.ifNo X0.here hx rfl (hb hby d2_39) rfl ((if0 _ _).trans (flt hB).1) ?_
          show Steps p.tables e below (s₁.setTop (mkF m 42 #[.val (.int p1), .val (.int ((p1 ||| (32 : Int32)) - (97 : Int32))), .val (.int (own_l p1)), .val (.int (p1 - (48 : Int32))), .unset] [])) _
          refine XS.iloadN X0.here hx rfl (hb hby d2_42) rfl ?_
          show Steps p.tables e below (s₁.setTop (mkF m 43 #[.val (.int p1), .val (.int ((p1 ||| (32 : Int32)) - (97 : Int32))), .val (.int (own_l p1)), .val (.int (p1 - (48 : Int32))), .unset] [(.int (p1 - (48 : Int32)))])) _
          refine XS.bipush X0.here hx rfl (hb hby d2_43) ?_
          show Steps p.tables e below (s₁.setTop (mkF m 45 #[.val (.int p1), .val (.int ((p1 ||| (32 : Int32)) - (97 : Int32))), .val (.int (own_l p1)), .val (.int (p1 - (48 : Int32))), .unset] [(.int (10 : Int32)), (.int (p1 - (48 : Int32)))])) _
          refine XS.icmpNo X0.here hx rfl (hb hby d2_45) rfl (tlt hD).2.1 ?_
          show Steps p.tables e below (s₁.setTop (mkF m 48 #[.val (.int p1), .val (.int ((p1 ||| (32 : Int32)) - (97 : Int32))), .val (.int (own_l p1)), .val (.int (p1 - (48 : Int32))), .unset] [])) _
          refine XS.iconst X0.here hx rfl (hb hby d2_48) ?_
          show Steps p.tables e below (s₁.setTop (mkF m 49 #[.val (.int p1), .val (.int ((p1 ||| (32 : Int32)) - (97 : Int32))), .val (.int (own_l p1)), .val (.int (p1 - (48 : Int32))), .unset] [(.int (1 : Int32))])) _
          refine XS.goto X0.here hx rfl (pc0 := 49) (pc' := 53) rfl (hb hby d2_49) (by decide) (by decide) ?_
          show Steps p.tables e below (s₁.setTop (mkF m 53 #[.val (.int p1), .val (.int ((p1 ||| (32 : Int32)) - (97 : Int32))), .val (.int (own_l p1)), .val (.int (p1 - (48 : Int32))), .unset] [(.int (1 : Int32))])) _
          refine XS.istore X0.here hx rfl (hb hby d2_53) rfl (l' := #[.val (.int p1), .val (.int ((p1 ||| (32 : Int32)) - (97 : Int32))), .val (.int (own_l p1)), .val (.int (p1 - (48 : Int32))), .val (.int (1 : Int32))]) rfl ?_
          show Steps p.tables e below (s₁.setTop (mkF m 55 #[.val (.int p1), .val (.int ((p1 ||| (32 : Int32)) - (97 : Int32))), .val (.int (own_l p1)), .val (.int (p1 - (48 : Int32))), .val (.int (1 : Int32))] [])) _
          rw [show own_g p1 = (1 : Int32) from if_pos ⟨hB, hD⟩] at k
          exact k
        · skip
          show Steps p.tables e below (s₁.setTop (mkF m 33 #[.val (.int p1), .val (.int ((p1 ||| (32 : Int32)) - (97 : Int32))), .val (.int (own_l p1)), .unset, .unset] [])) _
          refine XS.iloadN X0.here hx rfl (hb hby d2_33) rfl ?_
          show Steps p.tables e below (s₁.setTop (mkF m 34 #[.val (.int p1), .val (.int ((p1 ||| (32 : Int32)) - (97 : Int32))), .val (.int (own_l p1)), .unset, .unset] [(.int p1)])) _
          refine XS.bipush X0.here hx rfl (hb hby d2_34) ?_
          show Steps p.tables e below (s₁.setTop (mkF m 36 #[.val (.int p1), .val (.int ((p1 ||| (32 : Int32)) - (97 : Int32))), .val (.int (own_l p1)), .unset, .unset] [(.int (48 : Int32)), (.int p1)])) _
          refine XS.isub X0.here hx rfl (hb hby d2_36) rfl ?_
          show Steps p.tables e below (s₁.setTop (mkF m 37 #[.val (.int p1), .val (.int ((p1 ||| (32 : Int32)) - (97 : Int32))), .val (.int (own_l p1)), .unset, .unset] [(.int (p1 - (48 : Int32)))])) _
          refine XS.istoreN X0.here hx rfl (hb hby d2_37) rfl (l' := #[.val (.int p1), .val (.int ((p1 ||| (32 : Int32)) - (97 : Int32))), .val (.int (own_l p1)), .val (.int (p1 - (48 : Int32))), .unset]) rfl ?_
          show Steps p.tables e below (s₁.setTop (mkF m 38 #[.val (.int p1), .val (.int ((p1 ||| (32 : Int32)) - (97 : Int32))), .val (.int (own_l p1)), .val (.int (p1 - (48 : Int32))), .unset] [])) _
          refine XS.iloadN X0.here hx rfl (hb hby d2_38) rfl ?_
          show Steps p.tables e below (s₁.setTop (mkF m 39 #[.val (.int p1), .val (.int ((p1 ||| (32 : Int32)) - (97 : Int32))), .val (.int (own_l p1)), .val (.int (p1 - (48 : Int32))), .unset] [(.int (p1 - (48 : Int32)))])) _
          refine XS.ifNo X0.here hx rfl (hb hby d2_39) rfl ((if0 _ _).trans (flt hB).1) ?_
          show Steps p.tables e below (s₁.setTop (mkF m 42 #[.val (.int p1), .val (.int ((p1 ||| (32 : Int32)) - (97 : Int32))), .val (.int (own_l p1)), .val (.int (p1 - (48 : Int32))), .unset] [])) _
          refine XS.iloadN X0.here hx rfl (hb hby d2_42) rfl ?_
          show Steps p.tables e below (s₁.setTop (mkF m 43 #[.val (.int p1), .val (.int ((p1 ||| (32 : Int32)) - (97 : Int32))), .val (.int (own_l p1)), .val (.int (p1 - (48 : Int32))), .unset] [(.int (p1 - (48 : Int32)))])) _
          refine XS.bipush X0.here hx rfl (hb hby d2_43) ?_
          show Steps p.tables e below (s₁.setTop (mkF m 45 #[.val (.int p1), .val (.int ((p1 ||| (32 : Int32)) - (97 : Int32))), .val (.int (own_l p1)), .val (.int (p1 - (48 : Int32))), .unset] [(.int (10 : Int32)), (.int (p1 - (48 : Int32)))])) _
          refine XS.icmpYes X0.here hx rfl (pc0 := 45) (pc' := 52) rfl (hb hby d2_45) rfl (flt hD).2.1 (by decide) (by decide) ?_
          show Steps p.tables e below (s₁.setTop (mkF m 52 #[.val (.int p1), .val (.int ((p1 ||| (32 : Int32)) - (97 : Int32))), .val (.int (own_l p1)), .val (.int (p1 - (48 : Int32))), .unset] [])) _
          refine XS.iconst X0.here hx rfl (hb hby d2_52) ?_
          show Steps p.tables e below (s₁.setTop (mkF m 53 #[.val (.int p1), .val (.int ((p1 ||| (32 : Int32)) - (97 : Int32))), .val (.int (own_l p1)), .val (.int (p1 - (48 : Int32))), .unset] [(.int (0 : Int32))])) _
          refine XS.istore X0.here hx rfl (hb hby d2_53) rfl (l' := #[.val (.int p1), .val (.int ((p1 ||| (32 : Int32)) - (97 : Int32))), .val (.int (own_l p1)), .val (.int (p1 - (48 : Int32))), .val (.int (0 : Int32))]) rfl ?_
          show Steps p.tables e below (s₁.setTop (mkF m 55 #[.val (.int p1), .val (.int ((p1 ||| (32 : Int32)) - (97 : Int32))), .val (.int (own_l p1)), .val (.int (p1 - (48 : Int32))), .val (.int (0 : Int32))] [])) _
          rw [show own_g p1 = (0 : Int32) from if_neg (fun q => hD q.2)] at k
          exact k)
    by_cases hK0 : own_l p1 = (0 : Int32)
    · skip
      by_cases hK1 : own_g p1 = (0 : Int32)
      · skip
        by_cases hK2 : p1 = (95 : Int32)
        · skip
          have pre4 : ∀ t, Steps p.tables e below (s₁.setTop (mkF m 81 #[.val (.int p1), .val (.int ((p1 ||| (32 : Int32)) - (97 : Int32))), .val (.int (own_l p1)), .val (.int (p1 - (48 : Int32))), .val (.int (own_g p1))] [(.int (1 : Int32))])) t → Steps p.tables e below (s₁.setTop (entryFrame m #[(.int p1)] 5)) t := fun t k => pre3 t (by
            show Steps p.tables e below (s₁.setTop (mkF m 55 #[.val (.int p1), .val (.int ((p1 ||| (32 : Int32)) - (97 : Int32))), .val (.int (own_l p1)), .val (.int (p1 - (48 : Int32))), .val (.int (own_g p1))] [])) _
            refine XS.iloadN X0.here hx rfl (hb hby d2_55) rfl ?_
            show Steps p.tables e below (s₁.setTop (mkF m 56 #[.val (.int p1), .val (.int ((p1 ||| (32 : Int32)) - (97 : Int32))), .val (.int (own_l p1)), .val (.int (p1 - (48 : Int32))), .val (.int (own_g p1))] [(.int (own_l p1))])) _
            refine XS.ifNo X0.here hx rfl (hb hby d2_56) rfl ((if0 _ _).trans (teq hK0).2) ?_
            show Steps p.tables e below (s₁.setTop (mkF m 59 #[.val (.int p1), .val (.int ((p1 ||| (32 : Int32)) - (97 : Int32))), .val (.int (own_l p1)), .val (.int (p1 - (48 : Int32))), .val (.int (own_g p1))] [])) _
            refine XS.iload X0.here hx rfl (hb hby d2_59) rfl ?_
            show Steps p.tables e below (s₁.setTop (mkF m 61 #[.val (.int p1), .val (.int ((p1 ||| (32 : Int32)) - (97 : Int32))), .val (.int (own_l p1)), .val (.int (p1 - (48 : Int32))), .val (.int (own_g p1))] [(.int (own_g p1))])) _
            refine XS.ifNo X0.here hx rfl (hb hby d2_61) rfl ((if0 _ _).trans (teq hK1).2) ?_
            show Steps p.tables e below (s₁.setTop (mkF m 64 #[.val (.int p1), .val (.int ((p1 ||| (32 : Int32)) - (97 : Int32))), .val (.int (own_l p1)), .val (.int (p1 - (48 : Int32))), .val (.int (own_g p1))] [])) _
            refine XS.iloadN X0.here hx rfl (hb hby d2_64) rfl ?_
            show Steps p.tables e below (s₁.setTop (mkF m 65 #[.val (.int p1), .val (.int ((p1 ||| (32 : Int32)) - (97 : Int32))), .val (.int (own_l p1)), .val (.int (p1 - (48 : Int32))), .val (.int (own_g p1))] [(.int p1)])) _
            refine XS.bipush X0.here hx rfl (hb hby d2_65) ?_
            show Steps p.tables e below (s₁.setTop (mkF m 67 #[.val (.int p1), .val (.int ((p1 ||| (32 : Int32)) - (97 : Int32))), .val (.int (own_l p1)), .val (.int (p1 - (48 : Int32))), .val (.int (own_g p1))] [(.int (95 : Int32)), (.int p1)])) _
            refine XS.icmpYes X0.here hx rfl (pc0 := 67) (pc' := 76) rfl (hb hby d2_67) rfl (teq hK2).1 (by decide) (by decide) ?_
            show Steps p.tables e below (s₁.setTop (mkF m 76 #[.val (.int p1), .val (.int ((p1 ||| (32 : Int32)) - (97 : Int32))), .val (.int (own_l p1)), .val (.int (p1 - (48 : Int32))), .val (.int (own_g p1))] [])) _
            refine XS.iconst X0.here hx rfl (hb hby d2_76) ?_
            show Steps p.tables e below (s₁.setTop (mkF m 77 #[.val (.int p1), .val (.int ((p1 ||| (32 : Int32)) - (97 : Int32))), .val (.int (own_l p1)), .val (.int (p1 - (48 : Int32))), .val (.int (own_g p1))] [(.int (1 : Int32))])) _
            refine XS.goto X0.here hx rfl (pc0 := 77) (pc' := 81) rfl (hb hby d2_77) (by decide) (by decide) ?_
            show Steps p.tables e below (s₁.setTop (mkF m 81 #[.val (.int p1), .val (.int ((p1 ||| (32 : Int32)) - (97 : Int32))), .val (.int (own_l p1)), .val (.int (p1 - (48 : Int32))), .val (.int (own_g p1))] [(.int (1 : Int32))])) _
            exact k)
          obtain ⟨fs, hr, hrun, hended, hW, hsame⟩ := X0.leave (v := some (.int (1 : Int32))) (fun h => by rw [Bd.returns] at h; cases h)
          refine ⟨_, _, pre4 _ ?_, hrun, hended, _, _, rfl, ?_, ⟨_, rfl⟩, hW, hsame.mono (by decide) (by decide)⟩
          · show Steps p.tables e below (s₁.setTop (mkF m 81 #[.val (.int p1), .val (.int ((p1 ||| (32 : Int32)) - (97 : Int32))), .val (.int (own_l p1)), .val (.int (p1 - (48 : Int32))), .val (.int (own_g p1))] [(.int (1 : Int32))])) _
            exact retN X0 hx (t := .boolean) Bd.returns (by simp) (hb hby d2_81) hr
          · show Q2 Z p1 h0 n0 _ s₁.heap _
            rw [e0]
            exact ⟨congrArg (fun z => some (Value.int z)) (Eq.symm (hx1.trans (if_pos (Or.inr (Or.inr (Or.inl hK2)))))), N0, rfl⟩
        · skip
          by_cases hK3 : p1 = (36 : Int32)
          · skip
            have pre5 : ∀ t, Steps p.tables e below (s₁.setTop (mkF m 81 #[.val (.int p1), .val (.int ((p1 ||| (32 : Int32)) - (97 : Int32))), .val (.int (own_l p1)), .val (.int (p1 - (48 : Int32))), .val (.int (own_g p1))] [(.int (1 : Int32))])) t → Steps p.tables e below (s₁.setTop (entryFrame m #[(.int p1)] 5)) t := fun t k => pre3 t (by
              show Steps p.tables e below (s₁.setTop (mkF m 55 #[.val (.int p1), .val (.int ((p1 ||| (32 : Int32)) - (97 : Int32))), .val (.int (own_l p1)), .val (.int (p1 - (48 : Int32))), .val (.int (own_g p1))] [])) _
              refine XS.iloadN X0.here hx rfl (hb hby d2_55) rfl ?_
              show Steps p.tables e below (s₁.setTop (mkF m 56 #[.val (.int p1), .val (.int ((p1 ||| (32 : Int32)) - (97 : Int32))), .val (.int (own_l p1)), .val (.int (p1 - (48 : Int32))), .val (.int (own_g p1))] [(.int (own_l p1))])) _
              refine XS.ifNo X0.here hx rfl (hb hby d2_56) rfl ((if0 _ _).trans (teq hK0).2) ?_
              show Steps p.tables e below (s₁.setTop (mkF m 59 #[.val (.int p1), .val (.int ((p1 ||| (32 : Int32)) - (97 : Int32))), .val (.int (own_l p1)), .val (.int (p1 - (48 : Int32))), .val (.int (own_g p1))] [])) _
              refine XS.iload X0.here hx rfl (hb hby d2_59) rfl ?_
              show Steps p.tables e below (s₁.setTop (mkF m 61 #[.val (.int p1), .val (.int ((p1 ||| (32 : Int32)) - (97 : Int32))), .val (.int (own_l p1)), .val (.int (p1 - (48 : Int32))), .val (.int (own_g p1))] [(.int (own_g p1))])) _
              refine XS.ifNo X0.here hx rfl (hb hby d2_61) rfl ((if0 _ _).trans (teq hK1).2) ?_
              show Steps p.tables e below (s₁.setTop (mkF m 64 #[.val (.int p1), .val (.int ((p1 ||| (32 : Int32)) - (97 : Int32))), .val (.int (own_l p1)), .val (.int (p1 - (48 : Int32))), .val (.int (own_g p1))] [])) _
              refine XS.iloadN X0.here hx rfl (hb hby d2_64) rfl ?_
              show Steps p.tables e below (s₁.setTop (mkF m 65 #[.val (.int p1), .val (.int ((p1 ||| (32 : Int32)) - (97 : Int32))), .val (.int (own_l p1)), .val (.int (p1 - (48 : Int32))), .val (.int (own_g p1))] [(.int p1)])) _
              refine XS.bipush X0.here hx rfl (hb hby d2_65) ?_
              show Steps p.tables e below (s₁.setTop (mkF m 67 #[.val (.int p1), .val (.int ((p1 ||| (32 : Int32)) - (97 : Int32))), .val (.int (own_l p1)), .val (.int (p1 - (48 : Int32))), .val (.int (own_g p1))] [(.int (95 : Int32)), (.int p1)])) _
              refine XS.icmpNo X0.here hx rfl (hb hby d2_67) rfl (feq hK2).1 ?_
              show Steps p.tables e below (s₁.setTop (mkF m 70 #[.val (.int p1), .val (.int ((p1 ||| (32 : Int32)) - (97 : Int32))), .val (.int (own_l p1)), .val (.int (p1 - (48 : Int32))), .val (.int (own_g p1))] [])) _
              refine XS.iloadN X0.here hx rfl (hb hby d2_70) rfl ?_
              show Steps p.tables e below (s₁.setTop (mkF m 71 #[.val (.int p1), .val (.int ((p1 ||| (32 : Int32)) - (97 : Int32))), .val (.int (own_l p1)), .val (.int (p1 - (48 : Int32))), .val (.int (own_g p1))] [(.int p1)])) _
              refine XS.bipush X0.here hx rfl (hb hby d2_71) ?_
              show Steps p.tables e below (s₁.setTop (mkF m 73 #[.val (.int p1), .val (.int ((p1 ||| (32 : Int32)) - (97 : Int32))), .val (.int (own_l p1)), .val (.int (p1 - (48 : Int32))), .val (.int (own_g p1))] [(.int (36 : Int32)), (.int p1)])) _
              refine XS.icmpNo X0.here hx rfl (hb hby d2_73) rfl (teq hK3).2 ?_
              show Steps p.tables e below (s₁.setTop (mkF m 76 #[.val (.int p1), .val (.int ((p1 ||| (32 : Int32)) - (97 : Int32))), .val (.int (own_l p1)), .val (.int (p1 - (48 : Int32))), .val (.int (own_g p1))] [])) _
              refine XS.iconst X0.here hx rfl (hb hby d2_76) ?_
              show Steps p.tables e below (s₁.setTop (mkF m 77 #[.val (.int p1), .val (.int ((p1 ||| (32 : Int32)) - (97 : Int32))), .val (.int (own_l p1)), .val (.int (p1 - (48 : Int32))), .val (.int (own_g p1))] [(.int (1 : Int32))])) _
              refine XS.goto X0.here hx rfl (pc0 := 77) (pc' := 81) rfl (hb hby d2_77) (by decide) (by decide) ?_
              show Steps p.tables e below (s₁.setTop (mkF m 81 #[.val (.int p1), .val (.int ((p1 ||| (32 : Int32)) - (97 : Int32))), .val (.int (own_l p1)), .val (.int (p1 - (48 : Int32))), .val (.int (own_g p1))] [(.int (1 : Int32))])) _
              exact k)
            obtain ⟨fs, hr, hrun, hended, hW, hsame⟩ := X0.leave (v := some (.int (1 : Int32))) (fun h => by rw [Bd.returns] at h; cases h)
            refine ⟨_, _, pre5 _ ?_, hrun, hended, _, _, rfl, ?_, ⟨_, rfl⟩, hW, hsame.mono (by decide) (by decide)⟩
            · show Steps p.tables e below (s₁.setTop (mkF m 81 #[.val (.int p1), .val (.int ((p1 ||| (32 : Int32)) - (97 : Int32))), .val (.int (own_l p1)), .val (.int (p1 - (48 : Int32))), .val (.int (own_g p1))] [(.int (1 : Int32))])) _
              exact retN X0 hx (t := .boolean) Bd.returns (by simp) (hb hby d2_81) hr
            · show Q2 Z p1 h0 n0 _ s₁.heap _
              rw [e0]
              exact ⟨congrArg (fun z => some (Value.int z)) (Eq.symm (hx1.trans (if_pos (Or.inr (Or.inr (Or.inr hK3)))))), N0, rfl⟩
          · skip
            have pre6 : ∀ t, Steps p.tables e below (s₁.setTop (mkF m 81 #[.val (.int p1), .val (.int ((p1 ||| (32 : Int32)) - (97 : Int32))), .val (.int (own_l p1)), .val (.int (p1 - (48 : Int32))), .val (.int (own_g p1))] [(.int (0 : Int32))])) t → Steps p.tables e below (s₁.setTop (entryFrame m #[(.int p1)] 5)) t := fun t k => pre3 t (by
              show Steps p.tables e below (s₁.setTop (mkF m 55 #[.val (.int p1), .val (.int ((p1 ||| (32 : Int32)) - (97 : Int32))), .val (.int (own_l p1)), .val (.int (p1 - (48 : Int32))), .val (.int (own_g p1))] [])) _
              refine XS.iloadN X0.here hx rfl (hb hby d2_55) rfl ?_
              show Steps p.tables e below (s₁.setTop (mkF m 56 #[.val (.int p1), .val (.int ((p1 ||| (32 : Int32)) - (97 : Int32))), .val (.int (own_l p1)), .val (.int (p1 - (48 : Int32))), .val (.int (own_g p1))] [(.int (own_l p1))])) _
              refine XS.ifNo X0.here hx rfl (hb hby d2_56) rfl ((if0 _ _).trans (teq hK0).2) ?_
              show Steps p.tables e below (s₁.setTop (mkF m 59 #[.val (.int p1), .val (.int ((p1 ||| (32 : Int32)) - (97 : Int32))), .val (.int (own_l p1)), .val (.int (p1 - (48 : Int32))), .val (.int (own_g p1))] [])) _
              refine XS.iload X0.here hx rfl (hb hby d2_59) rfl ?_
              show Steps p.tables e below (s₁.setTop (mkF m 61 #[.val (.int p1), .val (.int ((p1 ||| (32 : Int32)) - (97 : Int32))), .val (.int (own_l p1)), .val (.int (p1 - (48 : Int32))), .val (.int (own_g p1))] [(.int (own_g p1))])) _
              refine XS.ifNo X0.here hx rfl (hb hby d2_61) rfl ((if0 _ _).trans (teq hK1).2) ?_
              show Steps p.tables e below (s₁.setTop (mkF m 64 #[.val (.int p1), .val (.int ((p1 ||| (32 : Int32)) - (97 : Int32))), .val (.int (own_l p1)), .val (.int (p1 - (48 : Int32))), .val (.int (own_g p1))] [])) _
              refine XS.iloadN X0.here hx rfl (hb hby d2_64) rfl ?_
              show Steps p.tables e below (s₁.setTop (mkF m 65 #[.val (.int p1), .val (.int ((p1 ||| (32 : Int32)) - (97 : Int32))), .val (.int (own_l p1)), .val (.int (p1 - (48 : Int32))), .val (.int (own_g p1))] [(.int p1)])) _
              refine XS.bipush X0.here hx rfl (hb hby d2_65) ?_
              show Steps p.tables e below (s₁.setTop (mkF m 67 #[.val (.int p1), .val (.int ((p1 ||| (32 : Int32)) - (97 : Int32))), .val (.int (own_l p1)), .val (.int (p1 - (48 : Int32))), .val (.int (own_g p1))] [(.int (95 : Int32)), (.int p1)])) _
              refine XS.icmpNo X0.here hx rfl (hb hby d2_67) rfl (feq hK2).1 ?_
              show Steps p.tables e below (s₁.setTop (mkF m 70 #[.val (.int p1), .val (.int ((p1 ||| (32 : Int32)) - (97 : Int32))), .val (.int (own_l p1)), .val (.int (p1 - (48 : Int32))), .val (.int (own_g p1))] [])) _
              refine XS.iloadN X0.here hx rfl (hb hby d2_70) rfl ?_
              show Steps p.tables e below (s₁.setTop (mkF m 71 #[.val (.int p1), .val (.int ((p1 ||| (32 : Int32)) - (97 : Int32))), .val (.int (own_l p1)), .val (.int (p1 - (48 : Int32))), .val (.int (own_g p1))] [(.int p1)])) _
              refine XS.bipush X0.here hx rfl (hb hby d2_71) ?_
              show Steps p.tables e below (s₁.setTop (mkF m 73 #[.val (.int p1), .val (.int ((p1 ||| (32 : Int32)) - (97 : Int32))), .val (.int (own_l p1)), .val (.int (p1 - (48 : Int32))), .val (.int (own_g p1))] [(.int (36 : Int32)), (.int p1)])) _
              refine XS.icmpYes X0.here hx rfl (pc0 := 73) (pc' := 80) rfl (hb hby d2_73) rfl (feq hK3).2 (by decide) (by decide) ?_
              show Steps p.tables e below (s₁.setTop (mkF m 80 #[.val (.int p1), .val (.int ((p1 ||| (32 : Int32)) - (97 : Int32))), .val (.int (own_l p1)), .val (.int (p1 - (48 : Int32))), .val (.int (own_g p1))] [])) _
              refine XS.iconst X0.here hx rfl (hb hby d2_80) ?_
              show Steps p.tables e below (s₁.setTop (mkF m 81 #[.val (.int p1), .val (.int ((p1 ||| (32 : Int32)) - (97 : Int32))), .val (.int (own_l p1)), .val (.int (p1 - (48 : Int32))), .val (.int (own_g p1))] [(.int (0 : Int32))])) _
              exact k)
            obtain ⟨fs, hr, hrun, hended, hW, hsame⟩ := X0.leave (v := some (.int (0 : Int32))) (fun h => by rw [Bd.returns] at h; cases h)
            refine ⟨_, _, pre6 _ ?_, hrun, hended, _, _, rfl, ?_, ⟨_, rfl⟩, hW, hsame.mono (by decide) (by decide)⟩
            · show Steps p.tables e below (s₁.setTop (mkF m 81 #[.val (.int p1), .val (.int ((p1 ||| (32 : Int32)) - (97 : Int32))), .val (.int (own_l p1)), .val (.int (p1 - (48 : Int32))), .val (.int (own_g p1))] [(.int (0 : Int32))])) _
              exact retN X0 hx (t := .boolean) Bd.returns (by simp) (hb hby d2_81) hr
            · show Q2 Z p1 h0 n0 _ s₁.heap _
              rw [e0]
              exact ⟨congrArg (fun z => some (Value.int z)) (Eq.symm (hx1.trans (if_neg (by rintro (q | q | q | q) <;> first | exact q hK0 | exact q hK1 | exact hK2 q | exact hK3 q)))), N0, rfl⟩
      · skip
        have pre7 : ∀ t, Steps p.tables e below (s₁.setTop (mkF m 81 #[.val (.int p1), .val (.int ((p1 ||| (32 : Int32)) - (97 : Int32))), .val (.int (own_l p1)), .val (.int (p1 - (48 : Int32))), .val (.int (own_g p1))] [(.int (1 : Int32))])) t → Steps p.tables e below (s₁.setTop (entryFrame m #[(.int p1)] 5)) t := fun t k => pre3 t (by
          show Steps p.tables e below (s₁.setTop (mkF m 55 #[.val (.int p1), .val (.int ((p1 ||| (32 : Int32)) - (97 : Int32))), .val (.int (own_l p1)), .val (.int (p1 - (48 : Int32))), .val (.int (own_g p1))] [])) _
          refine XS.iloadN X0.here hx rfl (hb hby d2_55) rfl ?_
          show Steps p.tables e below (s₁.setTop (mkF m 56 #[.val (.int p1), .val (.int ((p1 ||| (32 : Int32)) - (97 : Int32))), .val (.int (own_l p1)), .val (.int (p1 - (48 : Int32))), .val (.int (own_g p1))] [(.int (own_l p1))])) _
          refine XS.ifNo X0.here hx rfl (hb hby d2_56) rfl ((if0 _ _).trans (teq hK0).2) ?_
          show Steps p.tables e below (s₁.setTop (mkF m 59 #[.val (.int p1), .val (.int ((p1 ||| (32 : Int32)) - (97 : Int32))), .val (.int (own_l p1)), .val (.int (p1 - (48 : Int32))), .val (.int (own_g p1))] [])) _
          refine XS.iload X0.here hx rfl (hb hby d2_59) rfl ?_
          show Steps p.tables e below (s₁.setTop (mkF m 61 #[.val (.int p1), .val (.int ((p1 ||| (32 : Int32)) - (97 : Int32))), .val (.int (own_l p1)), .val (.int (p1 - (48 : Int32))), .val (.int (own_g p1))] [(.int (own_g p1))])) _
          refine XS.ifYes X0.here hx rfl (pc0 := 61) (pc' := 76) rfl (hb hby d2_61) rfl ((if0 _ _).trans (feq hK1).2) (by decide) (by decide) ?_
          show Steps p.tables e below (s₁.setTop (mkF m 76 #[.val (.int p1), .val (.int ((p1 ||| (32 : Int32)) - (97 : Int32))), .val (.int (own_l p1)), .val (.int (p1 - (48 : Int32))), .val (.int (own_g p1))] [])) _
          refine XS.iconst X0.here hx rfl (hb hby d2_76) ?_
          show Steps p.tables e below (s₁.setTop (mkF m 77 #[.val (.int p1), .val (.int ((p1 ||| (32 : Int32)) - (97 : Int32))), .val (.int (own_l p1)), .val (.int (p1 - (48 : Int32))), .val (.int (own_g p1))] [(.int (1 : Int32))])) _
          refine XS.goto X0.here hx rfl (pc0 := 77) (pc' := 81) rfl (hb hby d2_77) (by decide) (by decide) ?_
          show Steps p.tables e below (s₁.setTop (mkF m 81 #[.val (.int p1), .val (.int ((p1 ||| (32 : Int32)) - (97 : Int32))), .val (.int (own_l p1)), .val (.int (p1 - (48 : Int32))), .val (.int (own_g p1))] [(.int (1 : Int32))])) _
          exact k)
        obtain ⟨fs, hr, hrun, hended, hW, hsame⟩ := X0.leave (v := some (.int (1 : Int32))) (fun h => by rw [Bd.returns] at h; cases h)
        refine ⟨_, _, pre7 _ ?_, hrun, hended, _, _, rfl, ?_, ⟨_, rfl⟩, hW, hsame.mono (by decide) (by decide)⟩
        · show Steps p.tables e below (s₁.setTop (mkF m 81 #[.val (.int p1), .val (.int ((p1 ||| (32 : Int32)) - (97 : Int32))), .val (.int (own_l p1)), .val (.int (p1 - (48 : Int32))), .val (.int (own_g p1))] [(.int (1 : Int32))])) _
          exact retN X0 hx (t := .boolean) Bd.returns (by simp) (hb hby d2_81) hr
        · show Q2 Z p1 h0 n0 _ s₁.heap _
          rw [e0]
          exact ⟨congrArg (fun z => some (Value.int z)) (Eq.symm (hx1.trans (if_pos (Or.inr (Or.inl hK1))))), N0, rfl⟩
    · skip
      have pre8 : ∀ t, Steps p.tables e below (s₁.setTop (mkF m 81 #[.val (.int p1), .val (.int ((p1 ||| (32 : Int32)) - (97 : Int32))), .val (.int (own_l p1)), .val (.int (p1 - (48 : Int32))), .val (.int (own_g p1))] [(.int (1 : Int32))])) t → Steps p.tables e below (s₁.setTop (entryFrame m #[(.int p1)] 5)) t := fun t k => pre3 t (by
        show Steps p.tables e below (s₁.setTop (mkF m 55 #[.val (.int p1), .val (.int ((p1 ||| (32 : Int32)) - (97 : Int32))), .val (.int (own_l p1)), .val (.int (p1 - (48 : Int32))), .val (.int (own_g p1))] [])) _
        refine XS.iloadN X0.here hx rfl (hb hby d2_55) rfl ?_
        show Steps p.tables e below (s₁.setTop (mkF m 56 #[.val (.int p1), .val (.int ((p1 ||| (32 : Int32)) - (97 : Int32))), .val (.int (own_l p1)), .val (.int (p1 - (48 : Int32))), .val (.int (own_g p1))] [(.int (own_l p1))])) _
        refine XS.ifYes X0.here hx rfl (pc0 := 56) (pc' := 76) rfl (hb hby d2_56) rfl ((if0 _ _).trans (feq hK0).2) (by decide) (by decide) ?_
        show Steps p.tables e below (s₁.setTop (mkF m 76 #[.val (.int p1), .val (.int ((p1 ||| (32 : Int32)) - (97 : Int32))), .val (.int (own_l p1)), .val (.int (p1 - (48 : Int32))), .val (.int (own_g p1))] [])) _
        refine XS.iconst X0.here hx rfl (hb hby d2_76) ?_
        show Steps p.tables e below (s₁.setTop (mkF m 77 #[.val (.int p1), .val (.int ((p1 ||| (32 : Int32)) - (97 : Int32))), .val (.int (own_l p1)), .val (.int (p1 - (48 : Int32))), .val (.int (own_g p1))] [(.int (1 : Int32))])) _
        refine XS.goto X0.here hx rfl (pc0 := 77) (pc' := 81) rfl (hb hby d2_77) (by decide) (by decide) ?_
        show Steps p.tables e below (s₁.setTop (mkF m 81 #[.val (.int p1), .val (.int ((p1 ||| (32 : Int32)) - (97 : Int32))), .val (.int (own_l p1)), .val (.int (p1 - (48 : Int32))), .val (.int (own_g p1))] [(.int (1 : Int32))])) _
        exact k)
      obtain ⟨fs, hr, hrun, hended, hW, hsame⟩ := X0.leave (v := some (.int (1 : Int32))) (fun h => by rw [Bd.returns] at h; cases h)
      refine ⟨_, _, pre8 _ ?_, hrun, hended, _, _, rfl, ?_, ⟨_, rfl⟩, hW, hsame.mono (by decide) (by decide)⟩
      · show Steps p.tables e below (s₁.setTop (mkF m 81 #[.val (.int p1), .val (.int ((p1 ||| (32 : Int32)) - (97 : Int32))), .val (.int (own_l p1)), .val (.int (p1 - (48 : Int32))), .val (.int (own_g p1))] [(.int (1 : Int32))])) _
        exact retN X0 hx (t := .boolean) Bd.returns (by simp) (hb hby d2_81) hr
      · show Q2 Z p1 h0 n0 _ s₁.heap _
        rw [e0]
        exact ⟨congrArg (fun z => some (Value.int z)) (Eq.symm (hx1.trans (if_pos (Or.inl hK0)))), N0, rfl⟩
  · skip
    have pre9 : ∀ t, Steps p.tables e below (s₁.setTop (mkF m 8 #[.val (.int p1), .unset, .unset, .unset, .unset] [(.int (1 : Int32))])) t → Steps p.tables e below (s₁.setTop (entryFrame m #[(.int p1)] 5)) t := fun t k => pre0 t (by
      show Steps p.tables e below (s₁.setTop (mkF m 0 #[.val (.int p1), .unset, .unset, .unset, .unset] [])) _
      refine XS.iloadN X0.here hx rfl (hb hby d2_0) rfl ?_
      show Steps p.tables e below (s₁.setTop (mkF m 1 #[.val (.int p1), .unset, .unset, .unset, .unset] [(.int p1)])) _
      refine XS.sipush X0.here hx rfl (hb hby d2_1) ?_
      show Steps p.tables e below (s₁.setTop (mkF m 4 #[.val (.int p1), .unset, .unset, .unset, .unset] [(.int (128 : Int32)), (.int p1)])) _
      refine XS.icmpNo X0.here hx rfl (hb hby d2_4) rfl (flt h0x).1 ?_
      show Steps p.tables e below (s₁.setTop (mkF m 7 #[.val (.int p1), .unset, .unset, .unset, .unset] [])) _
      refine XS.iconst X0.here hx rfl (hb hby d2_7) ?_
      show Steps p.tables e below (s₁.setTop (mkF m 8 #[.val (.int p1), .unset, .unset, .unset, .unset] [(.int (1 : Int32))])) _
      exact k)
    obtain ⟨fs, hr, hrun, hended, hW, hsame⟩ := X0.leave (v := some (.int (1 : Int32))) (fun h => by rw [Bd.returns] at h; cases h)
    refine ⟨_, _, pre9 _ ?_, hrun, hended, _, _, rfl, ?_, ⟨_, rfl⟩, hW, hsame.mono (by decide) (by decide)⟩
    · show Steps p.tables e below (s₁.setTop (mkF m 8 #[.val (.int p1), .unset, .unset, .unset, .unset] [(.int (1 : Int32))])) _
      exact retN X0 hx (t := .boolean) Bd.returns (by simp) (hb hby d2_8) hr
    · show Q2 Z p1 h0 n0 _ s₁.heap _
      rw [e0]
      exact ⟨congrArg (fun z => some (Value.int z)) (Eq.symm (if_neg h0x)), N0, rfl⟩
theorem pdx_0 : parseMethodDescriptor "(C)Z" = some ⟨[.char], some .boolean⟩ := by decide +kernel
theorem pn_0 : plainName "com/example/tables_to_vault/tablestovault/database/SqlTokensIsWordPartPinLaw" = true := by first | (simp [plainName, overriddenIn]; done) | decide +kernel
theorem ef_0 (m : MethodId) (x0 : Int32) : entryFrame m #[(.int x0)] maxLocals = mkF m 0 #[.val (.int x0), .unset] [] := by first | (simp [entryFrame, mkF, argsToLocals, Value.category, maxLocals]; done) | rfl
def Q0 (Z : State) (p1 : Int32) (h0 : Heap) (n0 : Nat) (v : Option Value) (h : Heap) (L : List Loc) : Prop := v = some (.int (1 : Int32)) ∧ Fr n0 L
set_option maxRecDepth 65536 in
set_option maxHeartbeats 40000000 in
theorem rm0 (l : Launch) (Z : State) (a0 : Array Value) (hw : ∀ d ∈ tables_1, d.before a0 Z = true) (ws : List Jvm.Cond) (p1 : Int32) (h0 : Heap) (n0 : Nat) (Z0 : n0 ≤ h0.size) :
    MetFree l x (head1 (Jvm.Cond.code x code maxLocals ret :: ws) room_1) (fun a U => a = #[(.int p1)] ∧ Z.Warmed39 U.vm ∧ U.heap = h0) (fun _ _ _ _ _ => True) (fun _ U o U' => ∃ v L, o = .returned v ∧ Q0 Z p1 h0 n0 v U'.heap L ∧ FrameEnd U o U' L room_1.cells room_1.slots) := by
  refine MetFree.of_bodySF (plainFor_of_name pn_0) hisR ?_
  intro p e s m args below meth c s₁ Bd hml0 hP hK
  obtain ⟨rfl, hZ, hh⟩ := hP
  have hx := Bd.exec
  have hby := Bd.bytes
  have hml : c.maxLocals = 2 := hml0
  have hown : s.vm.findClass "com/example/tables_to_vault/tablestovault/database/SqlTokensIsWordPartPinLaw" = some m.cls := findClass_of_methodNamed Bd.named
  have hnm := (name_of_methodNamed Bd.named Bd.method).1
  have X0 : Stand p l e room_1 s m #[(.int p1)] below meth c s₁ [] 0 0 := Stand.of_body Bd
  have e0 : s₁.heap = h0 := by rw [← hh, Bd.state]; rfl
  have N0 := Fr.nil n0
  have pre0 : ∀ t, Steps p.tables e below (s₁.setTop (mkF m 0 #[.val (.int p1), .unset] [])) t → Steps p.tables e below (s₁.setTop (entryFrame m #[(.int p1)] maxLocals)) t := fun t k => castTop (ef_0 m p1) k
  have pre1 : ∀ t, Steps p.tables e below (s₁.setTop (mkF m 7 #[.val (.int p1), .val (.int (own_c p1))] [(.int (own_c p1))])) t → Steps p.tables e below (s₁.setTop (entryFrame m #[(.int p1)] maxLocals)) t := fun t k => pre0 t (by
    show Steps p.tables e below (s₁.setTop (mkF m 0 #[.val (.int p1), .unset] [])) _
    refine XS.iloadN X0.here hx rfl (hb hby at_0) rfl ?_
    show Steps p.tables e below (s₁.setTop (mkF m 1 #[.val (.int p1), .unset] [(.int p1)])) _
    refine X0.ldcInt hx hown (mvT hZ (hw _ (List.mem_of_getElem? (i := 0) rfl))) (g := (mkF m 1 #[.val (.int p1), .unset] [(.int p1)])) rfl (hb hby at_1) _ ?_
    show Steps p.tables e below (s₁.setTop (mkF m 3 #[.val (.int p1), .unset] [(.int (65535 : Int32)), (.int p1)])) _
    refine XS.iand X0.here hx rfl (hb hby at_3) rfl ?_
    show Steps p.tables e below (s₁.setTop (mkF m 4 #[.val (.int p1), .unset] [(.int (p1 &&& (65535 : Int32)))])) _
    refine XS.i2c X0.here hx rfl (hb hby at_4) rfl ?_
    show Steps p.tables e below (s₁.setTop (mkF m 5 #[.val (.int p1), .unset] [(.int ((p1 &&& (65535 : Int32)).toUInt32.toUInt16.toUInt32.toInt32))])) _
    refine XS.istoreN X0.here hx rfl (hb hby at_5) rfl (l' := #[.val (.int p1), .val (.int (own_c p1))]) rfl ?_
    show Steps p.tables e below (s₁.setTop (mkF m 6 #[.val (.int p1), .val (.int (own_c p1))] [])) _
    refine XS.iloadN X0.here hx rfl (hb hby at_6) rfl ?_
    show Steps p.tables e below (s₁.setTop (mkF m 7 #[.val (.int p1), .val (.int (own_c p1))] [(.int (own_c p1))])) _
    exact k)
  obtain ⟨_, _, ⟨T2, L2, k2, n2⟩, -, X2, ⟨Lc2, hQ2, l2, y2, z2⟩, st2⟩ := Jvm.LawKit.callS X0 hx (y := (⟨"com/example/tables_to_vault/tablestovault/database/SqlTokens", "isWordPart", "(C)Z"⟩ : MethodName)) hown (mvT hZ (hw _ (List.mem_of_getElem? (i := 1) rfl))) (mvT hZ (hw _ (List.mem_of_getElem? (i := 2) rfl))) (mvT hZ (hw _ (List.mem_of_getElem? (i := 3) rfl))) (mvT hZ (hw _ (List.mem_of_getElem? (i := 4) rfl))) (by decide) (backOf (W := 0) (rm1 l Z a0 hw [] (own_c p1)  h0 n0 Z0) hZ (hw _ (List.mem_of_getElem? (i := 4) rfl)) (hw _ (List.mem_of_getElem? (i := 3) rfl)) (by decide) (by decide)) (g := (mkF m 7 #[.val (.int p1), .val (.int (own_c p1))] [(.int (own_c p1))])) rfl (by rw [hml]; rfl) (argsL := [(.int (own_c p1))]) (rest := []) (lenOf pdx_0 rfl) rfl (by show 2 * 0 + _ ≤ _; exact Nat.le_of_eq rfl) (hb hby at_7) (fun _ _ => ⟨rfl, e0, (by decide : 0 + 0 ≤ _), (by decide : 0 + 0 ≤ _)⟩)
  dsimp only [Pt.U, Pt.locs, Pt.cells, Pt.slots] at X2 l2 y2 z2 st2 hQ2
  subst l2 y2 z2
  obtain ⟨rfl, N2q, e2⟩ := hQ2
  have N2 := Fr.app N0 N2q
  have pre3 : ∀ t, Steps p.tables e below (T2.setTop (mkF m 10 #[.val (.int p1), .val (.int (own_c p1))] [(.int (own_w (own_c p1)))])) t → Steps p.tables e below (s₁.setTop (entryFrame m #[(.int p1)] maxLocals)) t := fun t k => pre1 t (by
    show Steps p.tables e below (s₁.setTop (mkF m 7 #[.val (.int p1), .val (.int (own_c p1))] [(.int (own_c p1))])) t
    refine st2 _ ?_
    show Steps p.tables e below (T2.setTop (mkF m 10 #[.val (.int p1), .val (.int (own_c p1))] [(.int (own_w (own_c p1)))])) t
    exact k)
  have pre4 : ∀ t, Steps p.tables e below (T2.setTop (mkF m 11 #[.val (.int p1), .val (.int (own_c p1))] [(.int (own_c p1)), (.int (own_w (own_c p1)))])) t → Steps p.tables e below (s₁.setTop (entryFrame m #[(.int p1)] maxLocals)) t := fun t k => pre3 t (by
    show Steps p.tables e below (T2.setTop (mkF m 10 #[.val (.int p1), .val (.int (own_c p1))] [(.int (own_w (own_c p1)))])) _
    refine XS.iloadN X2.here hx rfl (hb hby at_10) rfl ?_
    show Steps p.tables e below (T2.setTop (mkF m 11 #[.val (.int p1), .val (.int (own_c p1))] [(.int (own_c p1)), (.int (own_w (own_c p1)))])) _
    exact k)
  obtain ⟨_, _, ⟨T5, L5, k5, n5⟩, -, X5, ⟨Lc5, hQ5, l5, y5, z5⟩, st5⟩ := Jvm.LawKit.callS X2 hx (y := (⟨"com/example/tables_to_vault/tablestovault/database/SqlTokensIsWordPartPinLaw", "expected", "(C)Z"⟩ : MethodName)) hown (mvT hZ (hw _ (List.mem_of_getElem? (i := 5) rfl))) (mvT hZ (hw _ (List.mem_of_getElem? (i := 6) rfl))) (mvT hZ (hw _ (List.mem_of_getElem? (i := 7) rfl))) (mvT hZ (hw _ (List.mem_of_getElem? (i := 8) rfl))) (by decide) (backOf (W := 1) (rm2 l Z a0 hw [] (own_c p1)  h0 n0 Z0) hZ (hw _ (List.mem_of_getElem? (i := 8) rfl)) (hw _ (List.mem_of_getElem? (i := 7) rfl)) (by decide) (by decide)) (g := (mkF m 11 #[.val (.int p1), .val (.int (own_c p1))] [(.int (own_c p1)), (.int (own_w (own_c p1)))])) rfl (by rw [hml]; rfl) (argsL := [(.int (own_c p1))]) (rest := [(.int (own_w (own_c p1)))]) (lenOf pdx_0 rfl) rfl (by show 2 * 0 + _ ≤ _; exact Nat.le_of_eq rfl) (hb hby at_11) (fun _ _ => ⟨rfl, e2, (by decide : 0 + 0 ≤ _), (by decide : 0 + 0 ≤ _)⟩)
  dsimp only [Pt.U, Pt.locs, Pt.cells, Pt.slots] at X5 l5 y5 z5 st5 hQ5
  subst l5 y5 z5
  obtain ⟨rfl, N5q, e5⟩ := hQ5
  have N5 := Fr.app N2 N5q
  have pre6 : ∀ t, Steps p.tables e below (T5.setTop (mkF m 14 #[.val (.int p1), .val (.int (own_c p1))] [(.int (own_x (own_c p1))), (.int (own_w (own_c p1)))])) t → Steps p.tables e below (s₁.setTop (entryFrame m #[(.int p1)] maxLocals)) t := fun t k => pre4 t (by
    show Steps p.tables e below (T2.setTop (mkF m 11 #[.val (.int p1), .val (.int (own_c p1))] [(.int (own_c p1)), (.int (own_w (own_c p1)))])) t
    refine st5 _ ?_
    show Steps p.tables e below (T5.setTop (mkF m 14 #[.val (.int p1), .val (.int (own_c p1))] [(.int (own_x (own_c p1))), (.int (own_w (own_c p1)))])) t
    exact k)
  have pre7 : ∀ t, Steps p.tables e below (T5.setTop (mkF m 22 #[.val (.int p1), .val (.int (own_c p1))] [(.int (1 : Int32))])) t → Steps p.tables e below (s₁.setTop (entryFrame m #[(.int p1)] maxLocals)) t := fun t k => pre6 t (by
    show Steps p.tables e below (T5.setTop (mkF m 14 #[.val (.int p1), .val (.int (own_c p1))] [(.int (own_x (own_c p1))), (.int (own_w (own_c p1)))])) _
    refine XS.icmpNo X5.here hx rfl (hb hby at_14) rfl (teq (own_same (own_c p1) (c_i2c _).2.1)).2 ?_
    show Steps p.tables e below (T5.setTop (mkF m 17 #[.val (.int p1), .val (.int (own_c p1))] [])) _
    refine XS.iconst X5.here hx rfl (hb hby at_17) ?_
    show Steps p.tables e below (T5.setTop (mkF m 18 #[.val (.int p1), .val (.int (own_c p1))] [(.int (1 : Int32))])) _
    refine XS.goto X5.here hx rfl (pc0 := 18) (pc' := 22) rfl (hb hby at_18) (by decide) (by decide) ?_
    show Steps p.tables e below (T5.setTop (mkF m 22 #[.val (.int p1), .val (.int (own_c p1))] [(.int (1 : Int32))])) _
    exact k)
  obtain ⟨fs, hr, hrun, hended, hW, hsame⟩ := X5.leave (v := some (.int (1 : Int32))) (fun h => by rw [Bd.returns] at h; cases h)
  refine ⟨_, _, pre7 _ ?_, hrun, hended, _, _, rfl, ?_, ⟨_, rfl⟩, hW, hsame.mono (by decide) (by decide)⟩
  · show Steps p.tables e below (T5.setTop (mkF m 22 #[.val (.int p1), .val (.int (own_c p1))] [(.int (1 : Int32))])) _
    exact retN X5 hx (t := .boolean) Bd.returns (by simp) (hb hby at_22) hr
  · show Q0 Z p1 h0 n0 _ T5.heap _
    rw [e5]
    exact ⟨rfl, N5⟩
set_option maxRecDepth 65536 in
set_option maxHeartbeats 40000000 in
theorem comes_1 {Post : Tables → Env → Array Value → State → Outcome → State → Prop} (hpost : ∀ tb e args s v u, (limb_1_1.after args s (.returned v) u = true ∧ limb_1_2.after args s (.returned v) u = true ∧ True) → FrameEnd s (.returned v) u (Jvm.fieldLocs frame_1_writes args s ++ Jvm.arrayLocs frame_1_arrays args s ++ Jvm.staticLocs frame_1_statics s) 0 0 → Post tb e args s (.returned v) u) :
    ArmFor flags0 classFile x code maxLocals ret World_1 tables_1 room_1 Calls_1 rest_1 Pre_1 Post := by
  intro l hfl _ _ p e ha hc hk s m args below hf hA hF happ hP
  obtain ⟨hcalls, hrest, hpre⟩ := hP
  obtain ⟨-, -, -, hnamed, -, -, -, hat⟩ := (Spec.applies_iff hf).mp happ
  obtain ⟨hg, hn⟩ := and_e (Cond.before_iff.mp (show (Jvm.Cond.and given_1 narrow_1).before args s = true from hpre))
  obtain ⟨g4, g5⟩ := and_e hg
  obtain ⟨w0, rfl⟩ : ∃ w0 : Value, args = #[w0] := by
    have hs : args.size = 1 := by simpa [Cond.value, given_1] using g4
    obtain ⟨L⟩ := args
    match L, hs with
    | [w0], _ => exact ⟨w0, rfl⟩
  have hw := fun d (hd : d ∈ tables_1) => atoms_spec (ws := Jvm.Cond.code x code maxLocals ret :: tables_1) hat d (List.mem_cons_of_mem _ hd)
  have hfit : Fit s := fun {y c} hc i hi => by
    obtain ⟨ha, rfl⟩ := Array.getElem?_eq_some_iff.mp hc
    have q := List.all_eq_true.mp ((Array.all_eq_true_iff_forall_mem.mp hF) _ (Array.getElem_mem ha)) i (List.mem_range.mpr hi)
    simpa [Array.getElem?_eq_getElem hi] using q
  obtain ⟨i0, ei0⟩ := is_v g5
  obtain rfl : w0 = (.int i0) := Option.some.inj ei0
  obtain ⟨n, o, h1, h2, h3, _, L, rfl, ⟨rfl, N⟩, hq⟩ := rm0 l s _ hw tables_1 i0 s.heap s.heap.size (Nat.le_refl _) p e ha hc hk s m _ below hf ((Spec.applies_iff_loose hf).mp happ).1 ⟨rfl, State.Warmed39.refl s, rfl⟩ trivial
  refine ⟨n, _, h1, h2, h3, hpost _ _ _ _ _ _ ⟨Cond.after_iff.mpr rfl, Cond.after_iff.mpr (eq_i res_at (Term.int_eval (1)) rfl), trivial⟩ ⟨hq.1, hq.2.1, (hq.2.2.sift fun y hy => Or.inr (N y hy)).mono (by decide) (by decide)⟩⟩
theorem main_1_1 : Claimed_1_1 := comes_1 fun _ _ _ _ _ _ h hF => ⟨h.1, hF⟩
theorem main_1_2 : Claimed_1_2 := comes_1 fun _ _ _ _ _ _ h hF => ⟨h.2.1, hF⟩
end Jvm.Pilot.@@N@@
namespace Jvm.Pilot.@@N@@
open Jvm Jvm.ClassFile Sem Op Lib Jvm.Free Jvm.Stand Jvm.Pilot.@@N@@.Jvm.D
/-! MADE BY PROGRAM (witnessworld.py) out of the Statement's table words and the real class files: 9 classes; the members and pool entries that the words name. The judged class is class 1, her method 2. -/
namespace start1
open Jvm.ClassFile
def u (s : String) : CpInfo := .utf8 (stringToUtf16 s)
/-- a pool by its gaps: so many unusable entries, then the entry; so many at the end -/
def gap : Nat → List CpInfo → List CpInfo
  | 0, r => r
  | n + 1, r => .unusable :: gap n r
def poolList (es : List (Nat × CpInfo)) (last : Nat) : List CpInfo := es.foldr (fun e r => gap e.1 (e.2 :: r)) (gap last [])
def pool (es : List (Nat × CpInfo)) (last : Nat) : Array CpInfo := ⟨poolList es last⟩
def fileOf (pool : Array CpInfo) (this : Nat) (attrs : Array Attribute := #[]) (ms : Array MethodInfo := #[]) (fl : Nat := 33) (sup : Nat := 0) (ifs : Array Nat := #[]) (fds : Array FieldInfo := #[]) : ClassFile where
  minorVersion := 0
  majorVersion := 65
  constantPool := pool
  accessFlags := fl
  thisClass := this
  superClass := sup
  interfaces := ifs
  fields := fds
  methods := ms
  attributes := attrs
def plain (name : String) (sup : Option ClassId) : Class where
  name := name
  kind := .ordinary
  loader := none
  accessFlags := 33
  super := sup
  interfaces := #[]
  cf := none
  fields := #[]
  methods := #[]
  instanceTypes := #[]
  staticTypes := #[]
  resolved := #[]
  callSites := []
  init := .initialized
  statics := none
  mirror := none

def pool0 : Array CpInfo := pool [(5, u "<init>"), (0, u "()V"), (1, .class_ 10), (1, u "java/lang/Object")] 113

def k0m0 : Method := { name := "<init>", desc := "()V", sig := { parameters := [], returnType := none }, accessFlags := 1, code := none }
/-- java/lang/Object -/
def k0 : Class := { plain "java/lang/Object" none with
  accessFlags := 33
  interfaces := #[]
  cf := some (fileOf pool0 8 #[] #[{ accessFlags := 1, nameIndex := 5, descriptorIndex := 6, attributes := #[] }] 33 0 #[] #[])
  fields := #[]
  methods := #[k0m0]
  instanceTypes := #[]
  staticTypes := #[]
  resolved := Array.replicate 124 none
  statics := none }

def pool1 : Array CpInfo := pool [(2, .class_ 4), (1, u "java/lang/Object"), (0, u "<init>"), (0, u "()V"), (0, .integer 65535), (0, .methodref 9 10), (0, .class_ 11), (0, .nameAndType 12 13), (0, u "com/example/tables_to_vault/tablestovault/database/SqlTokens"), (0, u "isWordPart"), (0, u "(C)Z"), (0, .methodref 15 16), (0, .class_ 17), (0, .nameAndType 18 13), (0, u "com/example/tables_to_vault/tablestovault/database/SqlTokensIsWordPartPinLaw"), (0, u "expected"), (3, u "law"), (0, u "(I)Z")] 2

def k1m0 : Method := { name := "<init>", desc := "()V", sig := { parameters := [], returnType := none }, accessFlags := 2, code := none }
def k1c1 : Code := { maxStack := 2, maxLocals := 5, code := method_2_code, exceptionTable := #[], attributes := #[] }
def k1m1 : Method := { name := "expected", desc := "(C)Z", sig := { parameters := [.char], returnType := some .boolean }, accessFlags := 10, code := some k1c1 }
def k1c2 : Code := { maxStack := 2, maxLocals := 2, code := code, exceptionTable := #[], attributes := #[] }
def k1m2 : Method := { name := "law", desc := "(I)Z", sig := { parameters := [.int], returnType := some .boolean }, accessFlags := 9, code := some k1c2 }
/-- com/example/tables_to_vault/tablestovault/database/SqlTokensIsWordPartPinLaw -/
def k1 : Class := { plain "com/example/tables_to_vault/tablestovault/database/SqlTokensIsWordPartPinLaw" (some 0) with
  accessFlags := 49
  interfaces := #[]
  cf := some (fileOf pool1 15 #[] #[{ accessFlags := 2, nameIndex := 5, descriptorIndex := 6, attributes := #[] }, { accessFlags := 10, nameIndex := 18, descriptorIndex := 13, attributes := #[] }, { accessFlags := 9, nameIndex := 22, descriptorIndex := 23, attributes := #[] }] 49 2 #[] #[])
  fields := #[]
  methods := #[k1m0, k1m1, k1m2]
  instanceTypes := #[]
  staticTypes := #[]
  resolved := Array.replicate 26 none
  statics := none }

def pool2 : Array CpInfo := pool [(2, .class_ 4), (1, u "java/lang/Object"), (6, .class_ 13), (1, u "com/example/tables_to_vault/tablestovault/database/SqlTokens"), (0, u "tokens"), (0, u "Ljava/util/List;"), (2, u "text"), (0, u "Ljava/lang/String;"), (7, .class_ 29), (1, u "com/example/tables_to_vault/tablestovault/database/SqlTokens$Lexer"), (3, .class_ 35), (1, u "com/example/tables_to_vault/tablestovault/database/SqlTokens$Piece"), (17, .class_ 54), (0, u "com/example/tables_to_vault/tablestovault/database/SqlTokens$Token"), (9, u "unclosed"), (2, u "lexedOverreach"), (2, u "tokensBeforeLexedOverreach"), (0, u "I"), (52, u "isWordPart"), (0, u "(C)Z")] 35

def k2c0 : Code := { maxStack := 2, maxLocals := 1, code := prog_42_method_9_code, exceptionTable := #[], attributes := #[] }
def k2m0 : Method := { name := "isWordPart", desc := "(C)Z", sig := { parameters := [.char], returnType := some .boolean }, accessFlags := 8, code := some k2c0 }
/-- com/example/tables_to_vault/tablestovault/database/SqlTokens -/
def k2 : Class := { plain "com/example/tables_to_vault/tablestovault/database/SqlTokens" (some 0) with
  accessFlags := 48
  interfaces := #[]
  cf := some (fileOf pool2 11 #[.nestMembers #[53, 33, 27]] #[{ accessFlags := 8, nameIndex := 124, descriptorIndex := 125, attributes := #[] }] 48 2 #[] #[{ accessFlags := 18, nameIndex := 18, descriptorIndex := 19, attributes := #[] }, { accessFlags := 18, nameIndex := 14, descriptorIndex := 15, attributes := #[] }, { accessFlags := 18, nameIndex := 64, descriptorIndex := 19, attributes := #[] }, { accessFlags := 18, nameIndex := 67, descriptorIndex := 19, attributes := #[] }, { accessFlags := 18, nameIndex := 70, descriptorIndex := 71, attributes := #[] }])
  fields := #[{ name := "text", type := (.object "java/lang/String"), accessFlags := 18, slot := 0, constantValue := 0 }, { name := "tokens", type := (.object "java/util/List"), accessFlags := 18, slot := 1, constantValue := 0 }, { name := "unclosed", type := (.object "java/lang/String"), accessFlags := 18, slot := 2, constantValue := 0 }, { name := "lexedOverreach", type := (.object "java/lang/String"), accessFlags := 18, slot := 3, constantValue := 0 }, { name := "tokensBeforeLexedOverreach", type := .int, accessFlags := 18, slot := 4, constantValue := 0 }]
  methods := #[k2m0]
  instanceTypes := #[(.object "java/lang/String"), (.object "java/util/List"), (.object "java/lang/String"), (.object "java/lang/String"), .int]
  staticTypes := #[]
  resolved := Array.replicate 161 none
  statics := none }

def pool3 : Array CpInfo := pool [(1, u "java/lang/Cloneable"), (0, .class_ 1), (0, u "java/lang/Object"), (0, .class_ 3)] 3

/-- java/lang/Cloneable -/
def k3 : Class := { plain "java/lang/Cloneable" (some 0) with
  accessFlags := 1537
  interfaces := #[]
  cf := some (fileOf pool3 2 #[] #[] 1537 4 #[] #[])
  fields := #[]
  methods := #[]
  instanceTypes := #[]
  staticTypes := #[]
  resolved := Array.replicate 8 none
  statics := none }

def pool4 : Array CpInfo := pool [(1, u "java/io/Serializable"), (0, .class_ 1), (0, u "java/lang/Object"), (0, .class_ 3)] 3

/-- java/io/Serializable -/
def k4 : Class := { plain "java/io/Serializable" (some 0) with
  accessFlags := 1537
  interfaces := #[]
  cf := some (fileOf pool4 2 #[] #[] 1537 4 #[] #[])
  fields := #[]
  methods := #[]
  instanceTypes := #[]
  staticTypes := #[]
  resolved := Array.replicate 8 none
  statics := none }

/-- the primitive byte -/
def k5 : Class := { plain "byte" none with kind := .primitive 'B', accessFlags := 0x411 }
/-- [B -/
def k6 : Class := { plain "[B" (some 0) with kind := .array 5 .byte, interfaces := #[3, 4], accessFlags := 1041 }

/-- the primitive int -/
def k7 : Class := { plain "int" none with kind := .primitive 'I', accessFlags := 0x411 }
/-- [I -/
def k8 : Class := { plain "[I" (some 0) with kind := .array 7 .int, interfaces := #[3, 4], accessFlags := 1041 }

def heap : Heap := #[]
def classes : Array Class := #[k0, k1, k2, k3, k4, k5, k6, k7, k8]
def interned : List (Array UInt16 × Addr) := []
def slotsUsed : Nat := 0
def theMethod : MethodId := ⟨1, 2⟩
def args0 : Array Value := #[.int 65]
def aboutOver (below : List Frame) : State where
  vm := { classes := classes, interned := interned.toArray }
  heap := heap
  slotsUsed := slotsUsed
  threads := #[{ frames := .invoking theMethod args0 :: below }]
def below0 : List Frame := [.native { method := ⟨0, 0⟩, args := #[] }]
def about1 : State := aboutOver below0
def p0 : Program := .bare "" "" ""
def e0 : Env := launch0.env 0 0 0
theorem w_frames : about1.frames = Frame.invoking theMethod args0 :: below0 := rfl
set_option maxRecDepth 65536 in
theorem w_args : argsFit about1.vm theMethod args0 = true := by decide +kernel
set_option maxRecDepth 65536 in
theorem w_heap : heapFits about1 = true := by decide +kernel
set_option maxRecDepth 65536 in
theorem w_runnable : about1.curStatus? = some .runnable := by decide +kernel
set_option maxRecDepth 65536 in
theorem w_alone : about1.alone = true := by decide +kernel
set_option maxRecDepth 65536 in
theorem w_named : about1.methodNamed? x = some theMethod := by decide +kernel
set_option maxRecDepth 65536 in
theorem w_hears : about1.hears theMethod below0 = true := by decide +kernel
set_option maxRecDepth 65536 in
theorem w_ripe : about1.ripe theMethod args0 below0 = true := by decide +kernel
theorem w_running : about1.status = .running := rfl
set_option maxRecDepth 65536 in
theorem w_room : about1.hasRoom e0.platform room_1 = true :=
  launch0.hasRoom_least _ room_1 (by decide +kernel) (by decide +kernel) (by decide +kernel) (by decide +kernel) (by decide +kernel) (by decide +kernel)
theorem allAtoms_all (ts : List Jvm.Cond) (a : Array Jvm.Value) (st : Jvm.State) : (allAtoms ts).before a st = ts.all (fun c => c.before a st) := by
  induction ts with
  | nil => rfl
  | cons c t ih =>
    show (Jvm.Cond.and c (allAtoms t)).before a st = _
    rw [Jvm.Cond.before_and, ih, List.all_cons]
def words1 : List Jvm.Cond := Jvm.Cond.code x code maxLocals ret :: tables_1
/-- a 'code' word, met by the world's own term for the bytes: nothing is compared byte by byte -/
theorem code_word {y : MethodName} {bytes : ByteArray} {mx : Nat} {rt : Option FieldType} {a : Array Value} {s : State} {m : MethodId} {meth : Method} {c : Code} (h1 : s.methodNamed? y = some m) (h2 : s.vm.method? m = some meth) (h3 : meth.code = some c) (h4 : c.code = bytes)
    (h5 : (c.maxLocals == mx && c.exceptionTable.isEmpty && decide (c.maxStack ≤ mostOperands) && decide (meth.sig.returnType = rt) && !meth.locks && decide (parseMethodDescriptor y.desc = some meth.sig)) = true) : (Jvm.Cond.code y bytes mx rt).before a s = true := by
  simp only [Bool.and_eq_true, beq_iff_eq, Bool.not_eq_true', decide_eq_true_eq] at h5
  obtain ⟨⟨⟨⟨⟨g1, g2⟩, g3⟩, g4⟩, g5⟩, g6⟩ := h5
  simp [Cond.before, Cond.holds, Cond.value, h1, h2, h3, h4, g1, g2, g3, g4, g5, g6]
def isCode : Jvm.Cond → Bool
  | .code _ _ _ _ => true
  | _ => false
theorem all_split {L : List Jvm.Cond} {P : Jvm.Cond → Bool} (h1 : L.all (fun c => isCode c || P c) = true) (h2 : ∀ c ∈ L.filter isCode, P c = true) : L.all P = true := by
  refine List.all_eq_true.mpr fun c hc => ?_
  have h := List.all_eq_true.mp h1 c hc
  rcases Bool.eq_false_or_eq_true (isCode c) with hi | hi
  · exact h2 c (List.mem_filter.mpr ⟨hc, hi⟩)
  · simpa [hi] using h
set_option maxRecDepth 65536 in
theorem w_c0 : (Jvm.Cond.code x code maxLocals ret).before args0 about1 = true := code_word (m := ⟨1, 2⟩) (meth := k1m2) (c := k1c2) (by decide +kernel) rfl rfl rfl (by decide +kernel)
set_option maxRecDepth 65536 in
theorem w_c1 : (Jvm.Cond.code ({ cls := "com/example/tables_to_vault/tablestovault/database/SqlTokens", name := "isWordPart", desc := "(C)Z" } : Jvm.MethodName) prog_42_method_9_code (1 : Nat) (Option.some Jvm.ClassFile.FieldType.boolean)).before args0 about1 = true := code_word (m := ⟨2, 0⟩) (meth := k2m0) (c := k2c0) (by decide +kernel) rfl rfl rfl (by decide +kernel)
set_option maxRecDepth 65536 in
theorem w_c2 : (Jvm.Cond.code ({ cls := "com/example/tables_to_vault/tablestovault/database/SqlTokensIsWordPartPinLaw", name := "expected", desc := "(C)Z" } : Jvm.MethodName) method_2_code (5 : Nat) (Option.some Jvm.ClassFile.FieldType.boolean)).before args0 about1 = true := code_word (m := ⟨1, 1⟩) (meth := k1m1) (c := k1c1) (by decide +kernel) rfl rfl rfl (by decide +kernel)
def codes1 : List Jvm.Cond := [Jvm.Cond.code x code maxLocals ret, Jvm.Cond.code ({ cls := "com/example/tables_to_vault/tablestovault/database/SqlTokens", name := "isWordPart", desc := "(C)Z" } : Jvm.MethodName) prog_42_method_9_code (1 : Nat) (Option.some Jvm.ClassFile.FieldType.boolean), Jvm.Cond.code ({ cls := "com/example/tables_to_vault/tablestovault/database/SqlTokensIsWordPartPinLaw", name := "expected", desc := "(C)Z" } : Jvm.MethodName) method_2_code (5 : Nat) (Option.some Jvm.ClassFile.FieldType.boolean)]
set_option maxRecDepth 65536 in
theorem codes_eq : words1.filter isCode = codes1 := rfl
theorem w_codes : ∀ c ∈ words1.filter isCode, c.before args0 about1 = true := by
  rw [codes_eq]
  intro c hc
  simp only [codes1, List.mem_cons, List.not_mem_nil, or_false] at hc
  rcases hc with rfl | rfl | rfl
  · exact w_c0
  · exact w_c1
  · exact w_c2
set_option maxRecDepth 65536 in
theorem w_t1 : words1.all (fun c => isCode c || c.before args0 about1) = true := by decide +kernel
theorem w_tables : (allAtoms (Jvm.Cond.code x code maxLocals ret :: tables_1)).before args0 about1 = true := by
  rw [allAtoms_all]
  show words1.all (fun c => c.before args0 about1) = true
  refine all_split ?_ w_codes
  rw [w_t1]
set_option maxRecDepth 65536 in
theorem w_case : (Jvm.Cond.and given_1 narrow_1).before args0 about1 = true := by decide +kernel
theorem w_applies : (headSpec (Jvm.Cond.code x code maxLocals ret :: tables_1) room_1).applies x e0.platform about1 = true :=
  (Spec.applies_iff w_frames).mpr ⟨w_running, w_runnable, w_alone, w_named, w_hears, w_ripe, w_room, w_tables⟩
theorem atStart : AtStart classFile x code maxLocals ret World_1 tables_1 room_1 Calls_1 rest_1 Pre_1 launch0 p0 e0 about1 theMethod args0 below0 :=
  ⟨lists_1, trivial, launch0.admits_env _ _ _, launch0.least_env, fairChoices_fair.cas, fairChoices_fair.clock, w_frames, w_args, w_heap, w_applies, trivial, trivial, w_case⟩
end start1
theorem witness_1 : WitnessClaimed_1 := ⟨start1.p0, start1.e0, start1.about1, start1.theMethod, start1.args0, start1.below0, start1.atStart⟩
end Jvm.Pilot.@@N@@
