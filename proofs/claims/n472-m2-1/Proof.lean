import JvmDerived
import JvmDerived.Pilot.@@N@@Statement
import JvmDerived.Pilot.@@N@@Code
set_option linter.unusedVariables false
set_option linter.unusedSimpArgs false
namespace Jvm.RoadKit
open Sem ClassFile Op Lib Jvm.Stand Jvm.Free Jvm.LawKit
section New
variable {p : Program} {l : Launch} {e : Env} {R : Room} {s : State} {m : MethodId} {args : Array Value} {below : List Frame} {meth : Method} {c : Code} {T : State} {locs : List Loc} {cells slots : Nat}
theorem retI (X : Stand p l e R s m args below meth c T locs cells slots) (hx : p.tables.exec = Jvm.exec) {pc : Nat} {Ls : Array Slot} {z : Int32} {rest : List Value} (hret : meth.sig.returnType = some .int) (hd : decode c.code pc = .ok (.ireturn, 1)) {fs : List Frame}
    (hl : ∀ (f : JFrame) (acts : List Action), f.method = m → f.locked = none → f.entered = [] → (doReturn e (T.setTop f) acts (some (.int z))).1 = T.setFrames fs) : Steps p.tables e below (T.setTop (mkF m pc Ls (.int z :: rest))) (T.setFrames fs) := by
  have hm' : T.vm.method? m = some meth := X.method'
  have hn : narrow .int (.int z) = .int z := rfl
  show Steps p.tables e below (T.setTop { method := m, pc := pc, locals := Ls, stack := _ :: rest, locked := none }) _
  jvm_step X.here [X.here.top, hx, hd, hm', hret, hn]
  first | (intro acts; rw [hl _ acts rfl rfl rfl]) | rw [hl _ _ rfl rfl rfl]
  exact Steps.refl _
end New
end Jvm.RoadKit
namespace Jvm.Pilot.@@N@@
open Jvm Jvm.ClassFile Sem Op Lib Jvm.Free Jvm.Stand Jvm.LawKit Jvm.RoadKit Bundle Jvm.Pilot.@@N@@.Jvm.D
def own_sh (z : Int64) (k : Int32) : Int64 := ((z.toUInt64 >>> (k &&& 0x3f).toInt64.toUInt64).toInt64)
def own_a (n : Int32) : Int64 := ((n.toInt64) + (1 : Int64)) * (-7046029254386353131 : Int64)
def own_b (z : Int64) : Int64 := (z ^^^ own_sh z 30) * (-4658895280553007687 : Int64)
def own_c (z : Int64) : Int64 := (z ^^^ own_sh z 27) * (-7723592293110705685 : Int64)
def own_d (z : Int64) : Int64 := z ^^^ own_sh z 31
def own_e (z : Int64) : Int64 := ((z ^^^ own_sh z 31) ^^^ own_sh z 62) * (3573116690164977347 : Int64)
def own_f (z : Int64) : Int64 := ((z ^^^ own_sh z 27) ^^^ own_sh z 54) * (-7575587736534282103 : Int64)
def own_g (z : Int64) : Int64 := (z ^^^ own_sh z 30) ^^^ own_sh z 60
def own_h (z : Int64) : Int64 := z * (-1018231460777725123 : Int64)
theorem own_unx (y : BitVec 64) (k : Nat) (h : 21 < k) : (y ^^^ (y >>> k)) ^^^ ((y ^^^ (y >>> k)) >>> k) ^^^ ((y ^^^ (y >>> k)) >>> (2 * k)) = y := by
  apply BitVec.eq_of_getLsbD_eq
  intro i hi
  have h3 : y.getLsbD (2 * k + (k + i)) = false := by
    apply BitVec.getLsbD_of_ge; omega
  have e : k + (k + i) = 2 * k + i := by omega
  have e2 : k + (2 * k + i) = 2 * k + (k + i) := by omega
  simp only [BitVec.getLsbD_xor, BitVec.getLsbD_ushiftRight, e, e2, h3]
  cases y.getLsbD i <;> cases y.getLsbD (k + i) <;> cases y.getLsbD (2 * k + i) <;> rfl
theorem own_shb (z : Int64) (k : Int32) (j : Nat) (hk : ((k &&& 0x3f).toInt64.toUInt64.toBitVec % 64#64) = BitVec.ofNat 64 j) (hj : j < 64) : (own_sh z k).toBitVec = z.toBitVec >>> j := by
  show z.toBitVec >>> ((k &&& 0x3f).toInt64.toUInt64.toBitVec % 64#64) = _
  rw [hk, BitVec.ushiftRight_eq', BitVec.toNat_ofNat, Nat.mod_eq_of_lt (by omega)]
theorem own_inv (y : Int64) (k k2 : Int32) (j : Nat) (h1 : ((k &&& 0x3f).toInt64.toUInt64.toBitVec % 64#64) = BitVec.ofNat 64 j) (h2 : ((k2 &&& 0x3f).toInt64.toUInt64.toBitVec % 64#64) = BitVec.ofNat 64 (2 * j)) (hj : 21 < j) (hj2 : 2 * j < 64) :
    ((y ^^^ own_sh y k) ^^^ own_sh (y ^^^ own_sh y k) k) ^^^ own_sh (y ^^^ own_sh y k) k2 = y := by
  apply Int64.toBitVec_inj.mp
  rw [Int64.toBitVec_xor, Int64.toBitVec_xor, own_shb _ k j h1 (by omega), own_shb _ k2 (2 * j) h2 (by omega), Int64.toBitVec_xor, own_shb _ k j h1 (by omega)]
  exact own_unx _ _ hj
theorem own_law (n : Int32) : own_h (own_g (own_f (own_e (own_d (own_c (own_b (own_a n))))))) = n.toInt64 + 1 := by
  have e1 : own_e (own_d (own_c (own_b (own_a n)))) = own_b (own_a n) ^^^ own_sh (own_b (own_a n)) 27 := by
    show ((own_d (own_c (own_b (own_a n))) ^^^ own_sh (own_d (own_c (own_b (own_a n)))) 31) ^^^ own_sh (own_d (own_c (own_b (own_a n)))) 62) * (3573116690164977347 : Int64) = _
    rw [own_d, own_inv _ 31 62 31 (by decide) (by decide) (by decide) (by decide), own_c, Int64.mul_assoc, show ((-7723592293110705685 : Int64) * 3573116690164977347) = 1 by decide, Int64.mul_one]
  have e2 : own_f (own_b (own_a n) ^^^ own_sh (own_b (own_a n)) 27) = own_a n ^^^ own_sh (own_a n) 30 := by
    rw [own_f, own_inv _ 27 54 27 (by decide) (by decide) (by decide) (by decide), own_b, Int64.mul_assoc, show ((-4658895280553007687 : Int64) * (-7575587736534282103)) = 1 by decide, Int64.mul_one]
  rw [e1, e2, own_g, own_inv _ 30 60 30 (by decide) (by decide) (by decide) (by decide), own_h, own_a, Int64.mul_assoc, show ((-7046029254386353131 : Int64) * (-1018231460777725123)) = 1 by decide, Int64.mul_one]
theorem d1_0 : decode prog_73_method_26_code 0 = .ok (.iload_n 0, 1) := by decide +kernel
theorem d1_1 : decode prog_73_method_26_code 1 = .ok (.i2l, 1) := by decide +kernel
theorem d1_2 : decode prog_73_method_26_code 2 = .ok (.lconst 1, 1) := by decide +kernel
theorem d1_3 : decode prog_73_method_26_code 3 = .ok (.ladd, 1) := by decide +kernel
theorem d1_4 : decode prog_73_method_26_code 4 = .ok (.ldc2_w 187, 3) := by decide +kernel
theorem d1_7 : decode prog_73_method_26_code 7 = .ok (.lmul, 1) := by decide +kernel
theorem d1_8 : decode prog_73_method_26_code 8 = .ok (.lstore_n 1, 1) := by decide +kernel
theorem d1_9 : decode prog_73_method_26_code 9 = .ok (.lload_n 1, 1) := by decide +kernel
theorem d1_10 : decode prog_73_method_26_code 10 = .ok (.lload_n 1, 1) := by decide +kernel
theorem d1_11 : decode prog_73_method_26_code 11 = .ok (.bipush 30, 2) := by decide +kernel
theorem d1_13 : decode prog_73_method_26_code 13 = .ok (.lushr, 1) := by decide +kernel
theorem d1_14 : decode prog_73_method_26_code 14 = .ok (.lxor, 1) := by decide +kernel
theorem d1_15 : decode prog_73_method_26_code 15 = .ok (.ldc2_w 189, 3) := by decide +kernel
theorem d1_18 : decode prog_73_method_26_code 18 = .ok (.lmul, 1) := by decide +kernel
theorem d1_19 : decode prog_73_method_26_code 19 = .ok (.lstore_n 1, 1) := by decide +kernel
theorem d1_20 : decode prog_73_method_26_code 20 = .ok (.lload_n 1, 1) := by decide +kernel
theorem d1_21 : decode prog_73_method_26_code 21 = .ok (.lload_n 1, 1) := by decide +kernel
theorem d1_22 : decode prog_73_method_26_code 22 = .ok (.bipush 27, 2) := by decide +kernel
theorem d1_24 : decode prog_73_method_26_code 24 = .ok (.lushr, 1) := by decide +kernel
theorem d1_25 : decode prog_73_method_26_code 25 = .ok (.lxor, 1) := by decide +kernel
theorem d1_26 : decode prog_73_method_26_code 26 = .ok (.ldc2_w 191, 3) := by decide +kernel
theorem d1_29 : decode prog_73_method_26_code 29 = .ok (.lmul, 1) := by decide +kernel
theorem d1_30 : decode prog_73_method_26_code 30 = .ok (.lstore_n 1, 1) := by decide +kernel
theorem d1_31 : decode prog_73_method_26_code 31 = .ok (.lload_n 1, 1) := by decide +kernel
theorem d1_32 : decode prog_73_method_26_code 32 = .ok (.lload_n 1, 1) := by decide +kernel
theorem d1_33 : decode prog_73_method_26_code 33 = .ok (.bipush 31, 2) := by decide +kernel
theorem d1_35 : decode prog_73_method_26_code 35 = .ok (.lushr, 1) := by decide +kernel
theorem d1_36 : decode prog_73_method_26_code 36 = .ok (.lxor, 1) := by decide +kernel
theorem d1_37 : decode prog_73_method_26_code 37 = .ok (.lreturn, 1) := by decide +kernel
theorem pn_1 : plainName "com/example/berchta/berchta/learn/Automaton" = true := by first | (simp [plainName, overriddenIn]; done) | decide +kernel
theorem ef_1 (m : MethodId) (x0 : Int32) : entryFrame m #[(.int x0)] 3 = mkF m 0 #[.val (.int x0), .unset, .unset] [] := by first | (simp [entryFrame, mkF, argsToLocals, Value.category]; done) | rfl
def Q1 (Z : State) (p1 : Int32) (h0 : Heap) (n0 : Nat) (v : Option Value) (h : Heap) (L : List Loc) : Prop := v = some (.long (own_d (own_c (own_b (own_a p1))))) ∧ Fr n0 L ∧ h = h0
set_option maxRecDepth 65536 in
set_option maxHeartbeats 40000000 in
theorem rm1 (l : Launch) (Z : State) (a0 : Array Value) (hw : ∀ d ∈ tables_1, d.before a0 Z = true) (ws : List Jvm.Cond) (p1 : Int32) (h0 : Heap) (n0 : Nat) (Z0 : n0 ≤ h0.size) :
    MetFree l (⟨"com/example/berchta/berchta/learn/Automaton", "code", "(I)J"⟩ : MethodName) (head1 (Jvm.Cond.code (⟨"com/example/berchta/berchta/learn/Automaton", "code", "(I)J"⟩ : MethodName) prog_73_method_26_code 3 (some .long) :: ws) ({ frames := 0, cells := 0, slots := 0, locals := 0 } : Room)) (fun a U => a = #[(.int p1)] ∧ Z.Warmed39 U.vm ∧ U.heap = h0) (fun _ _ _ _ _ => True) (fun _ U o U' => ∃ v L, o = .returned v ∧ Q1 Z p1 h0 n0 v U'.heap L ∧ FrameEnd U o U' L ({ frames := 0, cells := 0, slots := 0, locals := 0 } : Room).cells ({ frames := 0, cells := 0, slots := 0, locals := 0 } : Room).slots) := by
  refine MetFree.of_bodySF (plainFor_of_name pn_1) hisR ?_
  intro p e s m args below meth c s₁ Bd hml0 hP hK
  obtain ⟨rfl, hZ, hh⟩ := hP
  have hx := Bd.exec
  have hby := Bd.bytes
  have hml : c.maxLocals = 3 := hml0
  have hown : s.vm.findClass "com/example/berchta/berchta/learn/Automaton" = some m.cls := findClass_of_methodNamed Bd.named
  have hnm := (name_of_methodNamed Bd.named Bd.method).1
  have X0 : Stand p l e ({ frames := 0, cells := 0, slots := 0, locals := 0 } : Room) s m #[(.int p1)] below meth c s₁ [] 0 0 := Stand.of_body Bd
  have e0 : s₁.heap = h0 := by rw [← hh, Bd.state]; rfl
  have N0 := Fr.nil n0
  have pre0 : ∀ t, Steps p.tables e below (s₁.setTop (mkF m 0 #[.val (.int p1), .unset, .unset] [])) t → Steps p.tables e below (s₁.setTop (entryFrame m #[(.int p1)] 3)) t := fun t k => castTop (ef_1 m p1) k
  have pre1 : ∀ t, Steps p.tables e below (s₁.setTop (mkF m 37 #[.val (.int p1), .val (.long (own_c (own_b (own_a p1)))), .second] [(.long (own_d (own_c (own_b (own_a p1)))))])) t → Steps p.tables e below (s₁.setTop (entryFrame m #[(.int p1)] 3)) t := fun t k => pre0 t (by
    show Steps p.tables e below (s₁.setTop (mkF m 0 #[.val (.int p1), .unset, .unset] [])) _
    refine XS.iloadN X0.here hx rfl (hb hby d1_0) rfl ?_
    show Steps p.tables e below (s₁.setTop (mkF m 1 #[.val (.int p1), .unset, .unset] [(.int p1)])) _
    refine XS.i2l X0.here hx rfl (hb hby d1_1) rfl ?_
    show Steps p.tables e below (s₁.setTop (mkF m 2 #[.val (.int p1), .unset, .unset] [(.long (p1.toInt64))])) _
    refine XS.lconst X0.here hx rfl (hb hby d1_2) ?_
    show Steps p.tables e below (s₁.setTop (mkF m 3 #[.val (.int p1), .unset, .unset] [(.long (1 : Int64)), (.long (p1.toInt64))])) _
    refine XS.ladd X0.here hx rfl (hb hby d1_3) rfl ?_
    show Steps p.tables e below (s₁.setTop (mkF m 4 #[.val (.int p1), .unset, .unset] [(.long ((p1.toInt64) + (1 : Int64)))])) _
    refine X0.ldc2Long hx hown (mvT hZ (hw _ (List.mem_of_getElem? (i := 4) rfl))) (g := (mkF m 4 #[.val (.int p1), .unset, .unset] [(.long ((p1.toInt64) + (1 : Int64)))])) rfl (hb hby d1_4) _ ?_
    show Steps p.tables e below (s₁.setTop (mkF m 7 #[.val (.int p1), .unset, .unset] [(.long (-7046029254386353131 : Int64)), (.long ((p1.toInt64) + (1 : Int64)))])) _
    refine XS.lmul X0.here hx rfl (hb hby d1_7) rfl ?_
    show Steps p.tables e below (s₁.setTop (mkF m 8 #[.val (.int p1), .unset, .unset] [(.long (((p1.toInt64) + (1 : Int64)) * (-7046029254386353131 : Int64)))])) _
    refine XS.lstoreN X0.here hx rfl (hb hby d1_8) rfl (l' := #[.val (.int p1), .val (.long (own_a p1)), .second]) rfl ?_
    show Steps p.tables e below (s₁.setTop (mkF m 9 #[.val (.int p1), .val (.long (own_a p1)), .second] [])) _
    refine XS.lloadN X0.here hx rfl (hb hby d1_9) rfl ?_
    show Steps p.tables e below (s₁.setTop (mkF m 10 #[.val (.int p1), .val (.long (own_a p1)), .second] [(.long (own_a p1))])) _
    refine XS.lloadN X0.here hx rfl (hb hby d1_10) rfl ?_
    show Steps p.tables e below (s₁.setTop (mkF m 11 #[.val (.int p1), .val (.long (own_a p1)), .second] [(.long (own_a p1)), (.long (own_a p1))])) _
    refine XS.bipush X0.here hx rfl (hb hby d1_11) ?_
    show Steps p.tables e below (s₁.setTop (mkF m 13 #[.val (.int p1), .val (.long (own_a p1)), .second] [(.int (30 : Int32)), (.long (own_a p1)), (.long (own_a p1))])) _
    refine XS.lushr X0.here hx rfl (hb hby d1_13) rfl ?_
    show Steps p.tables e below (s₁.setTop (mkF m 14 #[.val (.int p1), .val (.long (own_a p1)), .second] [(.long (((own_a p1).toUInt64 >>> ((30 : Int32) &&& 0x3f).toInt64.toUInt64).toInt64)), (.long (own_a p1))])) _
    refine XS.lxor X0.here hx rfl (hb hby d1_14) rfl ?_
    show Steps p.tables e below (s₁.setTop (mkF m 15 #[.val (.int p1), .val (.long (own_a p1)), .second] [(.long ((own_a p1) ^^^ (((own_a p1).toUInt64 >>> ((30 : Int32) &&& 0x3f).toInt64.toUInt64).toInt64)))])) _
    refine X0.ldc2Long hx hown (mvT hZ (hw _ (List.mem_of_getElem? (i := 5) rfl))) (g := (mkF m 15 #[.val (.int p1), .val (.long (own_a p1)), .second] [(.long ((own_a p1) ^^^ (((own_a p1).toUInt64 >>> ((30 : Int32) &&& 0x3f).toInt64.toUInt64).toInt64)))])) rfl (hb hby d1_15) _ ?_
    show Steps p.tables e below (s₁.setTop (mkF m 18 #[.val (.int p1), .val (.long (own_a p1)), .second] [(.long (-4658895280553007687 : Int64)), (.long ((own_a p1) ^^^ (((own_a p1).toUInt64 >>> ((30 : Int32) &&& 0x3f).toInt64.toUInt64).toInt64)))])) _
    refine XS.lmul X0.here hx rfl (hb hby d1_18) rfl ?_
    show Steps p.tables e below (s₁.setTop (mkF m 19 #[.val (.int p1), .val (.long (own_a p1)), .second] [(.long (((own_a p1) ^^^ (((own_a p1).toUInt64 >>> ((30 : Int32) &&& 0x3f).toInt64.toUInt64).toInt64)) * (-4658895280553007687 : Int64)))])) _
    refine XS.lstoreN X0.here hx rfl (hb hby d1_19) rfl (l' := #[.val (.int p1), .val (.long (own_b (own_a p1))), .second]) rfl ?_
    show Steps p.tables e below (s₁.setTop (mkF m 20 #[.val (.int p1), .val (.long (own_b (own_a p1))), .second] [])) _
    refine XS.lloadN X0.here hx rfl (hb hby d1_20) rfl ?_
    show Steps p.tables e below (s₁.setTop (mkF m 21 #[.val (.int p1), .val (.long (own_b (own_a p1))), .second] [(.long (own_b (own_a p1)))])) _
    refine XS.lloadN X0.here hx rfl (hb hby d1_21) rfl ?_
    show Steps p.tables e below (s₁.setTop (mkF m 22 #[.val (.int p1), .val (.long (own_b (own_a p1))), .second] [(.long (own_b (own_a p1))), (.long (own_b (own_a p1)))])) _
    refine XS.bipush X0.here hx rfl (hb hby d1_22) ?_
    show Steps p.tables e below (s₁.setTop (mkF m 24 #[.val (.int p1), .val (.long (own_b (own_a p1))), .second] [(.int (27 : Int32)), (.long (own_b (own_a p1))), (.long (own_b (own_a p1)))])) _
    refine XS.lushr X0.here hx rfl (hb hby d1_24) rfl ?_
    show Steps p.tables e below (s₁.setTop (mkF m 25 #[.val (.int p1), .val (.long (own_b (own_a p1))), .second] [(.long (((own_b (own_a p1)).toUInt64 >>> ((27 : Int32) &&& 0x3f).toInt64.toUInt64).toInt64)), (.long (own_b (own_a p1)))])) _
    refine XS.lxor X0.here hx rfl (hb hby d1_25) rfl ?_
    show Steps p.tables e below (s₁.setTop (mkF m 26 #[.val (.int p1), .val (.long (own_b (own_a p1))), .second] [(.long ((own_b (own_a p1)) ^^^ (((own_b (own_a p1)).toUInt64 >>> ((27 : Int32) &&& 0x3f).toInt64.toUInt64).toInt64)))])) _
    refine X0.ldc2Long hx hown (mvT hZ (hw _ (List.mem_of_getElem? (i := 6) rfl))) (g := (mkF m 26 #[.val (.int p1), .val (.long (own_b (own_a p1))), .second] [(.long ((own_b (own_a p1)) ^^^ (((own_b (own_a p1)).toUInt64 >>> ((27 : Int32) &&& 0x3f).toInt64.toUInt64).toInt64)))])) rfl (hb hby d1_26) _ ?_
    show Steps p.tables e below (s₁.setTop (mkF m 29 #[.val (.int p1), .val (.long (own_b (own_a p1))), .second] [(.long (-7723592293110705685 : Int64)), (.long ((own_b (own_a p1)) ^^^ (((own_b (own_a p1)).toUInt64 >>> ((27 : Int32) &&& 0x3f).toInt64.toUInt64).toInt64)))])) _
    refine XS.lmul X0.here hx rfl (hb hby d1_29) rfl ?_
    show Steps p.tables e below (s₁.setTop (mkF m 30 #[.val (.int p1), .val (.long (own_b (own_a p1))), .second] [(.long (((own_b (own_a p1)) ^^^ (((own_b (own_a p1)).toUInt64 >>> ((27 : Int32) &&& 0x3f).toInt64.toUInt64).toInt64)) * (-7723592293110705685 : Int64)))])) _
    refine XS.lstoreN X0.here hx rfl (hb hby d1_30) rfl (l' := #[.val (.int p1), .val (.long (own_c (own_b (own_a p1)))), .second]) rfl ?_
    show Steps p.tables e below (s₁.setTop (mkF m 31 #[.val (.int p1), .val (.long (own_c (own_b (own_a p1)))), .second] [])) _
    refine XS.lloadN X0.here hx rfl (hb hby d1_31) rfl ?_
    show Steps p.tables e below (s₁.setTop (mkF m 32 #[.val (.int p1), .val (.long (own_c (own_b (own_a p1)))), .second] [(.long (own_c (own_b (own_a p1))))])) _
    refine XS.lloadN X0.here hx rfl (hb hby d1_32) rfl ?_
    show Steps p.tables e below (s₁.setTop (mkF m 33 #[.val (.int p1), .val (.long (own_c (own_b (own_a p1)))), .second] [(.long (own_c (own_b (own_a p1)))), (.long (own_c (own_b (own_a p1))))])) _
    refine XS.bipush X0.here hx rfl (hb hby d1_33) ?_
    show Steps p.tables e below (s₁.setTop (mkF m 35 #[.val (.int p1), .val (.long (own_c (own_b (own_a p1)))), .second] [(.int (31 : Int32)), (.long (own_c (own_b (own_a p1)))), (.long (own_c (own_b (own_a p1))))])) _
    refine XS.lushr X0.here hx rfl (hb hby d1_35) rfl ?_
    show Steps p.tables e below (s₁.setTop (mkF m 36 #[.val (.int p1), .val (.long (own_c (own_b (own_a p1)))), .second] [(.long (((own_c (own_b (own_a p1))).toUInt64 >>> ((31 : Int32) &&& 0x3f).toInt64.toUInt64).toInt64)), (.long (own_c (own_b (own_a p1))))])) _
    refine XS.lxor X0.here hx rfl (hb hby d1_36) rfl ?_
    show Steps p.tables e below (s₁.setTop (mkF m 37 #[.val (.int p1), .val (.long (own_c (own_b (own_a p1)))), .second] [(.long (own_d (own_c (own_b (own_a p1)))))])) _
    exact k)
  obtain ⟨fs, hr, hrun, hended, hW, hsame⟩ := X0.leave (v := some (.long (own_d (own_c (own_b (own_a p1)))))) (fun h => by rw [Bd.returns] at h; cases h)
  refine ⟨_, _, pre1 _ ?_, hrun, hended, _, _, rfl, ?_, ⟨_, rfl⟩, hW, hsame.mono (by decide) (by decide)⟩
  · show Steps p.tables e below (s₁.setTop (mkF m 37 #[.val (.int p1), .val (.long (own_c (own_b (own_a p1)))), .second] [(.long (own_d (own_c (own_b (own_a p1)))))])) _
    jvm_step X0.here [X0.here.top, hx, (hb hby d1_37), X0.method', Bd.returns, narrow]
    first | (intro acts; rw [hr _ acts rfl rfl rfl]) | rw [hr _ _ rfl rfl rfl]
    exact Steps.refl _
  · show Q1 Z p1 h0 n0 _ s₁.heap _
    rw [e0]
    exact ⟨rfl, N0, rfl⟩
theorem pdx_0 : parseMethodDescriptor "(I)J" = some ⟨[.int], some .long⟩ := by decide +kernel
theorem pn_0 : plainName "com/example/berchta/berchta/learn/AutomatonCodePinLaw" = true := by first | (simp [plainName, overriddenIn]; done) | decide +kernel
theorem ef_0 (m : MethodId) (x0 : Int32) : entryFrame m #[(.int x0)] maxLocals = mkF m 0 #[.val (.int x0), .unset, .unset] [] := by first | (simp [entryFrame, mkF, argsToLocals, Value.category, maxLocals]; done) | rfl
def Q0 (Z : State) (p1 : Int32) (h0 : Heap) (n0 : Nat) (v : Option Value) (h : Heap) (L : List Loc) : Prop := v = some (.int (1 : Int32)) ∧ Fr n0 L
set_option maxRecDepth 65536 in
set_option maxHeartbeats 40000000 in
theorem rm0 (l : Launch) (Z : State) (a0 : Array Value) (hw : ∀ d ∈ tables_1, d.before a0 Z = true) (ws : List Jvm.Cond) (p1 : Int32) (h0 : Heap) (n0 : Nat) (Z0 : n0 ≤ h0.size) :
    MetFree l x (head1 (Jvm.Cond.code x code maxLocals ret :: ws) room_1) (fun a U => a = #[(.int p1)] ∧ Z.Warmed39 U.vm ∧ U.heap = h0) (fun _ _ _ _ _ => True) (fun _ U o U' => ∃ v L, o = .returned v ∧ Q0 Z p1 h0 n0 v U'.heap L ∧ FrameEnd U o U' L room_1.cells room_1.slots) := by
  refine MetFree.of_bodySF (plainFor_of_name pn_0) hisR ?_
  intro p e s m args below meth c s₁ Bd hml0 hP hK
  obtain ⟨rfl, hZ, hh⟩ := hP
  have hx := Bd.exec
  have hby := Bd.bytes
  have hml : c.maxLocals = 3 := hml0
  have hown : s.vm.findClass "com/example/berchta/berchta/learn/AutomatonCodePinLaw" = some m.cls := findClass_of_methodNamed Bd.named
  have hnm := (name_of_methodNamed Bd.named Bd.method).1
  have X0 : Stand p l e room_1 s m #[(.int p1)] below meth c s₁ [] 0 0 := Stand.of_body Bd
  have e0 : s₁.heap = h0 := by rw [← hh, Bd.state]; rfl
  have N0 := Fr.nil n0
  have pre0 : ∀ t, Steps p.tables e below (s₁.setTop (mkF m 0 #[.val (.int p1), .unset, .unset] [])) t → Steps p.tables e below (s₁.setTop (entryFrame m #[(.int p1)] maxLocals)) t := fun t k => castTop (ef_0 m p1) k
  have pre1 : ∀ t, Steps p.tables e below (s₁.setTop (mkF m 1 #[.val (.int p1), .unset, .unset] [(.int p1)])) t → Steps p.tables e below (s₁.setTop (entryFrame m #[(.int p1)] maxLocals)) t := fun t k => pre0 t (by
    show Steps p.tables e below (s₁.setTop (mkF m 0 #[.val (.int p1), .unset, .unset] [])) _
    refine XS.iloadN X0.here hx rfl (hb hby at_0) rfl ?_
    show Steps p.tables e below (s₁.setTop (mkF m 1 #[.val (.int p1), .unset, .unset] [(.int p1)])) _
    exact k)
  obtain ⟨_, _, ⟨T2, L2, k2, n2⟩, -, X2, ⟨Lc2, hQ2, l2, y2, z2⟩, st2⟩ := Jvm.LawKit.callS X0 hx (y := (⟨"com/example/berchta/berchta/learn/Automaton", "code", "(I)J"⟩ : MethodName)) hown (mvT hZ (hw _ (List.mem_of_getElem? (i := 0) rfl))) (mvT hZ (hw _ (List.mem_of_getElem? (i := 1) rfl))) (mvT hZ (hw _ (List.mem_of_getElem? (i := 2) rfl))) (mvT hZ (hw _ (List.mem_of_getElem? (i := 3) rfl))) (by decide) (backOf (W := 0) (rm1 l Z a0 hw [] p1  h0 n0 Z0) hZ (hw _ (List.mem_of_getElem? (i := 3) rfl)) (hw _ (List.mem_of_getElem? (i := 2) rfl)) (by decide) (by decide)) (g := (mkF m 1 #[.val (.int p1), .unset, .unset] [(.int p1)])) rfl (by rw [hml]; rfl) (argsL := [(.int p1)]) (rest := []) (lenOf pdx_0 rfl) rfl (by show 2 * 0 + _ ≤ _; exact Nat.le_of_eq rfl) (hb hby at_1) (fun _ _ => ⟨rfl, e0, (by decide : 0 + 0 ≤ _), (by decide : 0 + 0 ≤ _)⟩)
  dsimp only [Pt.U, Pt.locs, Pt.cells, Pt.slots] at X2 l2 y2 z2 st2 hQ2
  subst l2 y2 z2
  obtain ⟨rfl, N2q, e2⟩ := hQ2
  have N2 := Fr.app N0 N2q
  have pre3 : ∀ t, Steps p.tables e below (T2.setTop (mkF m 4 #[.val (.int p1), .unset, .unset] [(.long (own_d (own_c (own_b (own_a p1)))))])) t → Steps p.tables e below (s₁.setTop (entryFrame m #[(.int p1)] maxLocals)) t := fun t k => pre1 t (by
    show Steps p.tables e below (s₁.setTop (mkF m 1 #[.val (.int p1), .unset, .unset] [(.int p1)])) t
    refine st2 _ ?_
    show Steps p.tables e below (T2.setTop (mkF m 4 #[.val (.int p1), .unset, .unset] [(.long (own_d (own_c (own_b (own_a p1)))))])) t
    exact k)
  have pre4 : ∀ t, Steps p.tables e below (T2.setTop (mkF m 69 #[.val (.int p1), .val (.long (own_h (own_g (own_f (own_e (own_d (own_c (own_b (own_a p1))))))))), .second] [(.int (1 : Int32))])) t → Steps p.tables e below (s₁.setTop (entryFrame m #[(.int p1)] maxLocals)) t := fun t k => pre3 t (by
    show Steps p.tables e below (T2.setTop (mkF m 4 #[.val (.int p1), .unset, .unset] [(.long (own_d (own_c (own_b (own_a p1)))))])) _
    refine XS.lstoreN X2.here hx rfl (hb hby at_4) rfl (l' := #[.val (.int p1), .val (.long (own_d (own_c (own_b (own_a p1))))), .second]) rfl ?_
    show Steps p.tables e below (T2.setTop (mkF m 5 #[.val (.int p1), .val (.long (own_d (own_c (own_b (own_a p1))))), .second] [])) _
    refine XS.lloadN X2.here hx rfl (hb hby at_5) rfl ?_
    show Steps p.tables e below (T2.setTop (mkF m 6 #[.val (.int p1), .val (.long (own_d (own_c (own_b (own_a p1))))), .second] [(.long (own_d (own_c (own_b (own_a p1)))))])) _
    refine XS.lloadN X2.here hx rfl (hb hby at_6) rfl ?_
    show Steps p.tables e below (T2.setTop (mkF m 7 #[.val (.int p1), .val (.long (own_d (own_c (own_b (own_a p1))))), .second] [(.long (own_d (own_c (own_b (own_a p1))))), (.long (own_d (own_c (own_b (own_a p1)))))])) _
    refine XS.bipush X2.here hx rfl (hb hby at_7) ?_
    show Steps p.tables e below (T2.setTop (mkF m 9 #[.val (.int p1), .val (.long (own_d (own_c (own_b (own_a p1))))), .second] [(.int (31 : Int32)), (.long (own_d (own_c (own_b (own_a p1))))), (.long (own_d (own_c (own_b (own_a p1)))))])) _
    refine XS.lushr X2.here hx rfl (hb hby at_9) rfl ?_
    show Steps p.tables e below (T2.setTop (mkF m 10 #[.val (.int p1), .val (.long (own_d (own_c (own_b (own_a p1))))), .second] [(.long (((own_d (own_c (own_b (own_a p1)))).toUInt64 >>> ((31 : Int32) &&& 0x3f).toInt64.toUInt64).toInt64)), (.long (own_d (own_c (own_b (own_a p1)))))])) _
    refine XS.lxor X2.here hx rfl (hb hby at_10) rfl ?_
    show Steps p.tables e below (T2.setTop (mkF m 11 #[.val (.int p1), .val (.long (own_d (own_c (own_b (own_a p1))))), .second] [(.long ((own_d (own_c (own_b (own_a p1)))) ^^^ (((own_d (own_c (own_b (own_a p1)))).toUInt64 >>> ((31 : Int32) &&& 0x3f).toInt64.toUInt64).toInt64)))])) _
    refine XS.lloadN X2.here hx rfl (hb hby at_11) rfl ?_
    show Steps p.tables e below (T2.setTop (mkF m 12 #[.val (.int p1), .val (.long (own_d (own_c (own_b (own_a p1))))), .second] [(.long (own_d (own_c (own_b (own_a p1))))), (.long ((own_d (own_c (own_b (own_a p1)))) ^^^ (((own_d (own_c (own_b (own_a p1)))).toUInt64 >>> ((31 : Int32) &&& 0x3f).toInt64.toUInt64).toInt64)))])) _
    refine XS.bipush X2.here hx rfl (hb hby at_12) ?_
    show Steps p.tables e below (T2.setTop (mkF m 14 #[.val (.int p1), .val (.long (own_d (own_c (own_b (own_a p1))))), .second] [(.int (62 : Int32)), (.long (own_d (own_c (own_b (own_a p1))))), (.long ((own_d (own_c (own_b (own_a p1)))) ^^^ (((own_d (own_c (own_b (own_a p1)))).toUInt64 >>> ((31 : Int32) &&& 0x3f).toInt64.toUInt64).toInt64)))])) _
    refine XS.lushr X2.here hx rfl (hb hby at_14) rfl ?_
    show Steps p.tables e below (T2.setTop (mkF m 15 #[.val (.int p1), .val (.long (own_d (own_c (own_b (own_a p1))))), .second] [(.long (((own_d (own_c (own_b (own_a p1)))).toUInt64 >>> ((62 : Int32) &&& 0x3f).toInt64.toUInt64).toInt64)), (.long ((own_d (own_c (own_b (own_a p1)))) ^^^ (((own_d (own_c (own_b (own_a p1)))).toUInt64 >>> ((31 : Int32) &&& 0x3f).toInt64.toUInt64).toInt64)))])) _
    refine XS.lxor X2.here hx rfl (hb hby at_15) rfl ?_
    show Steps p.tables e below (T2.setTop (mkF m 16 #[.val (.int p1), .val (.long (own_d (own_c (own_b (own_a p1))))), .second] [(.long (((own_d (own_c (own_b (own_a p1)))) ^^^ (((own_d (own_c (own_b (own_a p1)))).toUInt64 >>> ((31 : Int32) &&& 0x3f).toInt64.toUInt64).toInt64)) ^^^ (((own_d (own_c (own_b (own_a p1)))).toUInt64 >>> ((62 : Int32) &&& 0x3f).toInt64.toUInt64).toInt64)))])) _
    refine X2.ldc2Long hx hown (mvT hZ (hw _ (List.mem_of_getElem? (i := 7) rfl))) (g := (mkF m 16 #[.val (.int p1), .val (.long (own_d (own_c (own_b (own_a p1))))), .second] [(.long (((own_d (own_c (own_b (own_a p1)))) ^^^ (((own_d (own_c (own_b (own_a p1)))).toUInt64 >>> ((31 : Int32) &&& 0x3f).toInt64.toUInt64).toInt64)) ^^^ (((own_d (own_c (own_b (own_a p1)))).toUInt64 >>> ((62 : Int32) &&& 0x3f).toInt64.toUInt64).toInt64)))])) rfl (hb hby at_16) _ ?_
    show Steps p.tables e below (T2.setTop (mkF m 19 #[.val (.int p1), .val (.long (own_d (own_c (own_b (own_a p1))))), .second] [(.long (3573116690164977347 : Int64)), (.long (((own_d (own_c (own_b (own_a p1)))) ^^^ (((own_d (own_c (own_b (own_a p1)))).toUInt64 >>> ((31 : Int32) &&& 0x3f).toInt64.toUInt64).toInt64)) ^^^ (((own_d (own_c (own_b (own_a p1)))).toUInt64 >>> ((62 : Int32) &&& 0x3f).toInt64.toUInt64).toInt64)))])) _
    refine XS.lmul X2.here hx rfl (hb hby at_19) rfl ?_
    show Steps p.tables e below (T2.setTop (mkF m 20 #[.val (.int p1), .val (.long (own_d (own_c (own_b (own_a p1))))), .second] [(.long ((((own_d (own_c (own_b (own_a p1)))) ^^^ (((own_d (own_c (own_b (own_a p1)))).toUInt64 >>> ((31 : Int32) &&& 0x3f).toInt64.toUInt64).toInt64)) ^^^ (((own_d (own_c (own_b (own_a p1)))).toUInt64 >>> ((62 : Int32) &&& 0x3f).toInt64.toUInt64).toInt64)) * (3573116690164977347 : Int64)))])) _
    refine XS.lstoreN X2.here hx rfl (hb hby at_20) rfl (l' := #[.val (.int p1), .val (.long (own_e (own_d (own_c (own_b (own_a p1)))))), .second]) rfl ?_
    show Steps p.tables e below (T2.setTop (mkF m 21 #[.val (.int p1), .val (.long (own_e (own_d (own_c (own_b (own_a p1)))))), .second] [])) _
    refine XS.lloadN X2.here hx rfl (hb hby at_21) rfl ?_
    show Steps p.tables e below (T2.setTop (mkF m 22 #[.val (.int p1), .val (.long (own_e (own_d (own_c (own_b (own_a p1)))))), .second] [(.long (own_e (own_d (own_c (own_b (own_a p1))))))])) _
    refine XS.lloadN X2.here hx rfl (hb hby at_22) rfl ?_
    show Steps p.tables e below (T2.setTop (mkF m 23 #[.val (.int p1), .val (.long (own_e (own_d (own_c (own_b (own_a p1)))))), .second] [(.long (own_e (own_d (own_c (own_b (own_a p1)))))), (.long (own_e (own_d (own_c (own_b (own_a p1))))))])) _
    refine XS.bipush X2.here hx rfl (hb hby at_23) ?_
    show Steps p.tables e below (T2.setTop (mkF m 25 #[.val (.int p1), .val (.long (own_e (own_d (own_c (own_b (own_a p1)))))), .second] [(.int (27 : Int32)), (.long (own_e (own_d (own_c (own_b (own_a p1)))))), (.long (own_e (own_d (own_c (own_b (own_a p1))))))])) _
    refine XS.lushr X2.here hx rfl (hb hby at_25) rfl ?_
    show Steps p.tables e below (T2.setTop (mkF m 26 #[.val (.int p1), .val (.long (own_e (own_d (own_c (own_b (own_a p1)))))), .second] [(.long (((own_e (own_d (own_c (own_b (own_a p1))))).toUInt64 >>> ((27 : Int32) &&& 0x3f).toInt64.toUInt64).toInt64)), (.long (own_e (own_d (own_c (own_b (own_a p1))))))])) _
    refine XS.lxor X2.here hx rfl (hb hby at_26) rfl ?_
    show Steps p.tables e below (T2.setTop (mkF m 27 #[.val (.int p1), .val (.long (own_e (own_d (own_c (own_b (own_a p1)))))), .second] [(.long ((own_e (own_d (own_c (own_b (own_a p1))))) ^^^ (((own_e (own_d (own_c (own_b (own_a p1))))).toUInt64 >>> ((27 : Int32) &&& 0x3f).toInt64.toUInt64).toInt64)))])) _
    refine XS.lloadN X2.here hx rfl (hb hby at_27) rfl ?_
    show Steps p.tables e below (T2.setTop (mkF m 28 #[.val (.int p1), .val (.long (own_e (own_d (own_c (own_b (own_a p1)))))), .second] [(.long (own_e (own_d (own_c (own_b (own_a p1)))))), (.long ((own_e (own_d (own_c (own_b (own_a p1))))) ^^^ (((own_e (own_d (own_c (own_b (own_a p1))))).toUInt64 >>> ((27 : Int32) &&& 0x3f).toInt64.toUInt64).toInt64)))])) _
    refine XS.bipush X2.here hx rfl (hb hby at_28) ?_
    show Steps p.tables e below (T2.setTop (mkF m 30 #[.val (.int p1), .val (.long (own_e (own_d (own_c (own_b (own_a p1)))))), .second] [(.int (54 : Int32)), (.long (own_e (own_d (own_c (own_b (own_a p1)))))), (.long ((own_e (own_d (own_c (own_b (own_a p1))))) ^^^ (((own_e (own_d (own_c (own_b (own_a p1))))).toUInt64 >>> ((27 : Int32) &&& 0x3f).toInt64.toUInt64).toInt64)))])) _
    refine XS.lushr X2.here hx rfl (hb hby at_30) rfl ?_
    show Steps p.tables e below (T2.setTop (mkF m 31 #[.val (.int p1), .val (.long (own_e (own_d (own_c (own_b (own_a p1)))))), .second] [(.long (((own_e (own_d (own_c (own_b (own_a p1))))).toUInt64 >>> ((54 : Int32) &&& 0x3f).toInt64.toUInt64).toInt64)), (.long ((own_e (own_d (own_c (own_b (own_a p1))))) ^^^ (((own_e (own_d (own_c (own_b (own_a p1))))).toUInt64 >>> ((27 : Int32) &&& 0x3f).toInt64.toUInt64).toInt64)))])) _
    refine XS.lxor X2.here hx rfl (hb hby at_31) rfl ?_
    show Steps p.tables e below (T2.setTop (mkF m 32 #[.val (.int p1), .val (.long (own_e (own_d (own_c (own_b (own_a p1)))))), .second] [(.long (((own_e (own_d (own_c (own_b (own_a p1))))) ^^^ (((own_e (own_d (own_c (own_b (own_a p1))))).toUInt64 >>> ((27 : Int32) &&& 0x3f).toInt64.toUInt64).toInt64)) ^^^ (((own_e (own_d (own_c (own_b (own_a p1))))).toUInt64 >>> ((54 : Int32) &&& 0x3f).toInt64.toUInt64).toInt64)))])) _
    refine X2.ldc2Long hx hown (mvT hZ (hw _ (List.mem_of_getElem? (i := 8) rfl))) (g := (mkF m 32 #[.val (.int p1), .val (.long (own_e (own_d (own_c (own_b (own_a p1)))))), .second] [(.long (((own_e (own_d (own_c (own_b (own_a p1))))) ^^^ (((own_e (own_d (own_c (own_b (own_a p1))))).toUInt64 >>> ((27 : Int32) &&& 0x3f).toInt64.toUInt64).toInt64)) ^^^ (((own_e (own_d (own_c (own_b (own_a p1))))).toUInt64 >>> ((54 : Int32) &&& 0x3f).toInt64.toUInt64).toInt64)))])) rfl (hb hby at_32) _ ?_
    show Steps p.tables e below (T2.setTop (mkF m 35 #[.val (.int p1), .val (.long (own_e (own_d (own_c (own_b (own_a p1)))))), .second] [(.long (-7575587736534282103 : Int64)), (.long (((own_e (own_d (own_c (own_b (own_a p1))))) ^^^ (((own_e (own_d (own_c (own_b (own_a p1))))).toUInt64 >>> ((27 : Int32) &&& 0x3f).toInt64.toUInt64).toInt64)) ^^^ (((own_e (own_d (own_c (own_b (own_a p1))))).toUInt64 >>> ((54 : Int32) &&& 0x3f).toInt64.toUInt64).toInt64)))])) _
    refine XS.lmul X2.here hx rfl (hb hby at_35) rfl ?_
    show Steps p.tables e below (T2.setTop (mkF m 36 #[.val (.int p1), .val (.long (own_e (own_d (own_c (own_b (own_a p1)))))), .second] [(.long ((((own_e (own_d (own_c (own_b (own_a p1))))) ^^^ (((own_e (own_d (own_c (own_b (own_a p1))))).toUInt64 >>> ((27 : Int32) &&& 0x3f).toInt64.toUInt64).toInt64)) ^^^ (((own_e (own_d (own_c (own_b (own_a p1))))).toUInt64 >>> ((54 : Int32) &&& 0x3f).toInt64.toUInt64).toInt64)) * (-7575587736534282103 : Int64)))])) _
    refine XS.lstoreN X2.here hx rfl (hb hby at_36) rfl (l' := #[.val (.int p1), .val (.long (own_f (own_e (own_d (own_c (own_b (own_a p1))))))), .second]) rfl ?_
    show Steps p.tables e below (T2.setTop (mkF m 37 #[.val (.int p1), .val (.long (own_f (own_e (own_d (own_c (own_b (own_a p1))))))), .second] [])) _
    refine XS.lloadN X2.here hx rfl (hb hby at_37) rfl ?_
    show Steps p.tables e below (T2.setTop (mkF m 38 #[.val (.int p1), .val (.long (own_f (own_e (own_d (own_c (own_b (own_a p1))))))), .second] [(.long (own_f (own_e (own_d (own_c (own_b (own_a p1)))))))])) _
    refine XS.lloadN X2.here hx rfl (hb hby at_38) rfl ?_
    show Steps p.tables e below (T2.setTop (mkF m 39 #[.val (.int p1), .val (.long (own_f (own_e (own_d (own_c (own_b (own_a p1))))))), .second] [(.long (own_f (own_e (own_d (own_c (own_b (own_a p1))))))), (.long (own_f (own_e (own_d (own_c (own_b (own_a p1)))))))])) _
    refine XS.bipush X2.here hx rfl (hb hby at_39) ?_
    show Steps p.tables e below (T2.setTop (mkF m 41 #[.val (.int p1), .val (.long (own_f (own_e (own_d (own_c (own_b (own_a p1))))))), .second] [(.int (30 : Int32)), (.long (own_f (own_e (own_d (own_c (own_b (own_a p1))))))), (.long (own_f (own_e (own_d (own_c (own_b (own_a p1)))))))])) _
    refine XS.lushr X2.here hx rfl (hb hby at_41) rfl ?_
    show Steps p.tables e below (T2.setTop (mkF m 42 #[.val (.int p1), .val (.long (own_f (own_e (own_d (own_c (own_b (own_a p1))))))), .second] [(.long (((own_f (own_e (own_d (own_c (own_b (own_a p1)))))).toUInt64 >>> ((30 : Int32) &&& 0x3f).toInt64.toUInt64).toInt64)), (.long (own_f (own_e (own_d (own_c (own_b (own_a p1)))))))])) _
    refine XS.lxor X2.here hx rfl (hb hby at_42) rfl ?_
    show Steps p.tables e below (T2.setTop (mkF m 43 #[.val (.int p1), .val (.long (own_f (own_e (own_d (own_c (own_b (own_a p1))))))), .second] [(.long ((own_f (own_e (own_d (own_c (own_b (own_a p1)))))) ^^^ (((own_f (own_e (own_d (own_c (own_b (own_a p1)))))).toUInt64 >>> ((30 : Int32) &&& 0x3f).toInt64.toUInt64).toInt64)))])) _
    refine XS.lloadN X2.here hx rfl (hb hby at_43) rfl ?_
    show Steps p.tables e below (T2.setTop (mkF m 44 #[.val (.int p1), .val (.long (own_f (own_e (own_d (own_c (own_b (own_a p1))))))), .second] [(.long (own_f (own_e (own_d (own_c (own_b (own_a p1))))))), (.long ((own_f (own_e (own_d (own_c (own_b (own_a p1)))))) ^^^ (((own_f (own_e (own_d (own_c (own_b (own_a p1)))))).toUInt64 >>> ((30 : Int32) &&& 0x3f).toInt64.toUInt64).toInt64)))])) _
    refine XS.bipush X2.here hx rfl (hb hby at_44) ?_
    show Steps p.tables e below (T2.setTop (mkF m 46 #[.val (.int p1), .val (.long (own_f (own_e (own_d (own_c (own_b (own_a p1))))))), .second] [(.int (60 : Int32)), (.long (own_f (own_e (own_d (own_c (own_b (own_a p1))))))), (.long ((own_f (own_e (own_d (own_c (own_b (own_a p1)))))) ^^^ (((own_f (own_e (own_d (own_c (own_b (own_a p1)))))).toUInt64 >>> ((30 : Int32) &&& 0x3f).toInt64.toUInt64).toInt64)))])) _
    refine XS.lushr X2.here hx rfl (hb hby at_46) rfl ?_
    show Steps p.tables e below (T2.setTop (mkF m 47 #[.val (.int p1), .val (.long (own_f (own_e (own_d (own_c (own_b (own_a p1))))))), .second] [(.long (((own_f (own_e (own_d (own_c (own_b (own_a p1)))))).toUInt64 >>> ((60 : Int32) &&& 0x3f).toInt64.toUInt64).toInt64)), (.long ((own_f (own_e (own_d (own_c (own_b (own_a p1)))))) ^^^ (((own_f (own_e (own_d (own_c (own_b (own_a p1)))))).toUInt64 >>> ((30 : Int32) &&& 0x3f).toInt64.toUInt64).toInt64)))])) _
    refine XS.lxor X2.here hx rfl (hb hby at_47) rfl ?_
    show Steps p.tables e below (T2.setTop (mkF m 48 #[.val (.int p1), .val (.long (own_f (own_e (own_d (own_c (own_b (own_a p1))))))), .second] [(.long (((own_f (own_e (own_d (own_c (own_b (own_a p1)))))) ^^^ (((own_f (own_e (own_d (own_c (own_b (own_a p1)))))).toUInt64 >>> ((30 : Int32) &&& 0x3f).toInt64.toUInt64).toInt64)) ^^^ (((own_f (own_e (own_d (own_c (own_b (own_a p1)))))).toUInt64 >>> ((60 : Int32) &&& 0x3f).toInt64.toUInt64).toInt64)))])) _
    refine XS.lstoreN X2.here hx rfl (hb hby at_48) rfl (l' := #[.val (.int p1), .val (.long (own_g (own_f (own_e (own_d (own_c (own_b (own_a p1)))))))), .second]) rfl ?_
    show Steps p.tables e below (T2.setTop (mkF m 49 #[.val (.int p1), .val (.long (own_g (own_f (own_e (own_d (own_c (own_b (own_a p1)))))))), .second] [])) _
    refine XS.lloadN X2.here hx rfl (hb hby at_49) rfl ?_
    show Steps p.tables e below (T2.setTop (mkF m 50 #[.val (.int p1), .val (.long (own_g (own_f (own_e (own_d (own_c (own_b (own_a p1)))))))), .second] [(.long (own_g (own_f (own_e (own_d (own_c (own_b (own_a p1))))))))])) _
    refine X2.ldc2Long hx hown (mvT hZ (hw _ (List.mem_of_getElem? (i := 9) rfl))) (g := (mkF m 50 #[.val (.int p1), .val (.long (own_g (own_f (own_e (own_d (own_c (own_b (own_a p1)))))))), .second] [(.long (own_g (own_f (own_e (own_d (own_c (own_b (own_a p1))))))))])) rfl (hb hby at_50) _ ?_
    show Steps p.tables e below (T2.setTop (mkF m 53 #[.val (.int p1), .val (.long (own_g (own_f (own_e (own_d (own_c (own_b (own_a p1)))))))), .second] [(.long (-1018231460777725123 : Int64)), (.long (own_g (own_f (own_e (own_d (own_c (own_b (own_a p1))))))))])) _
    refine XS.lmul X2.here hx rfl (hb hby at_53) rfl ?_
    show Steps p.tables e below (T2.setTop (mkF m 54 #[.val (.int p1), .val (.long (own_g (own_f (own_e (own_d (own_c (own_b (own_a p1)))))))), .second] [(.long ((own_g (own_f (own_e (own_d (own_c (own_b (own_a p1))))))) * (-1018231460777725123 : Int64)))])) _
    refine XS.lstoreN X2.here hx rfl (hb hby at_54) rfl (l' := #[.val (.int p1), .val (.long (own_h (own_g (own_f (own_e (own_d (own_c (own_b (own_a p1))))))))), .second]) rfl ?_
    show Steps p.tables e below (T2.setTop (mkF m 55 #[.val (.int p1), .val (.long (own_h (own_g (own_f (own_e (own_d (own_c (own_b (own_a p1))))))))), .second] [])) _
    refine XS.lloadN X2.here hx rfl (hb hby at_55) rfl ?_
    show Steps p.tables e below (T2.setTop (mkF m 56 #[.val (.int p1), .val (.long (own_h (own_g (own_f (own_e (own_d (own_c (own_b (own_a p1))))))))), .second] [(.long (own_h (own_g (own_f (own_e (own_d (own_c (own_b (own_a p1)))))))))])) _
    refine XS.iloadN X2.here hx rfl (hb hby at_56) rfl ?_
    show Steps p.tables e below (T2.setTop (mkF m 57 #[.val (.int p1), .val (.long (own_h (own_g (own_f (own_e (own_d (own_c (own_b (own_a p1))))))))), .second] [(.int p1), (.long (own_h (own_g (own_f (own_e (own_d (own_c (own_b (own_a p1)))))))))])) _
    refine XS.i2l X2.here hx rfl (hb hby at_57) rfl ?_
    show Steps p.tables e below (T2.setTop (mkF m 58 #[.val (.int p1), .val (.long (own_h (own_g (own_f (own_e (own_d (own_c (own_b (own_a p1))))))))), .second] [(.long (p1.toInt64)), (.long (own_h (own_g (own_f (own_e (own_d (own_c (own_b (own_a p1)))))))))])) _
    refine XS.lconst X2.here hx rfl (hb hby at_58) ?_
    show Steps p.tables e below (T2.setTop (mkF m 59 #[.val (.int p1), .val (.long (own_h (own_g (own_f (own_e (own_d (own_c (own_b (own_a p1))))))))), .second] [(.long (1 : Int64)), (.long (p1.toInt64)), (.long (own_h (own_g (own_f (own_e (own_d (own_c (own_b (own_a p1)))))))))])) _
    refine XS.ladd X2.here hx rfl (hb hby at_59) rfl ?_
    show Steps p.tables e below (T2.setTop (mkF m 60 #[.val (.int p1), .val (.long (own_h (own_g (own_f (own_e (own_d (own_c (own_b (own_a p1))))))))), .second] [(.long ((p1.toInt64) + (1 : Int64))), (.long (own_h (own_g (own_f (own_e (own_d (own_c (own_b (own_a p1)))))))))])) _
    refine XS.lcmp X2.here hx rfl (hb hby at_60) rfl ?_
    show Steps p.tables e below (T2.setTop (mkF m 61 #[.val (.int p1), .val (.long (own_h (own_g (own_f (own_e (own_d (own_c (own_b (own_a p1))))))))), .second] [(.int (lcmpW (own_h (own_g (own_f (own_e (own_d (own_c (own_b (own_a p1)))))))) ((p1.toInt64) + (1 : Int64))))])) _
    refine XS.ifNo X2.here hx rfl (hb hby at_61) rfl ((if0 _ _).trans (teq ((lw_eq _ _).mpr (own_law p1))).2) ?_
    show Steps p.tables e below (T2.setTop (mkF m 64 #[.val (.int p1), .val (.long (own_h (own_g (own_f (own_e (own_d (own_c (own_b (own_a p1))))))))), .second] [])) _
    refine XS.iconst X2.here hx rfl (hb hby at_64) ?_
    show Steps p.tables e below (T2.setTop (mkF m 65 #[.val (.int p1), .val (.long (own_h (own_g (own_f (own_e (own_d (own_c (own_b (own_a p1))))))))), .second] [(.int (1 : Int32))])) _
    refine XS.goto X2.here hx rfl (pc0 := 65) (pc' := 69) rfl (hb hby at_65) (by decide) (by decide) ?_
    show Steps p.tables e below (T2.setTop (mkF m 69 #[.val (.int p1), .val (.long (own_h (own_g (own_f (own_e (own_d (own_c (own_b (own_a p1))))))))), .second] [(.int (1 : Int32))])) _
    exact k)
  obtain ⟨fs, hr, hrun, hended, hW, hsame⟩ := X2.leave (v := some (.int (1 : Int32))) (fun h => by rw [Bd.returns] at h; cases h)
  refine ⟨_, _, pre4 _ ?_, hrun, hended, _, _, rfl, ?_, ⟨_, rfl⟩, hW, hsame.mono (by decide) (by decide)⟩
  · show Steps p.tables e below (T2.setTop (mkF m 69 #[.val (.int p1), .val (.long (own_h (own_g (own_f (own_e (own_d (own_c (own_b (own_a p1))))))))), .second] [(.int (1 : Int32))])) _
    exact retN X2 hx (t := .boolean) Bd.returns (by simp) (hb hby at_69) hr
  · show Q0 Z p1 h0 n0 _ T2.heap _
    rw [e2]
    exact ⟨rfl, N2⟩
set_option maxRecDepth 65536 in
set_option maxHeartbeats 40000000 in
theorem comes_1 {Post : Tables → Env → Array Value → State → Outcome → State → Prop} (hpost : ∀ tb e args s v u, (limb_1_1.after args s (.returned v) u = true ∧ limb_1_2.after args s (.returned v) u = true ∧ True) → FrameEnd s (.returned v) u (Jvm.fieldLocs frame_1_writes args s ++ Jvm.arrayLocs frame_1_arrays args s ++ Jvm.staticLocs frame_1_statics s) 0 0 → Post tb e args s (.returned v) u) :
    ArmFor flags0 classFile x code maxLocals ret World_1 tables_1 room_1 Calls_1 rest_1 Pre_1 Post := by
  intro l hfl _ _ p e ha hc hk s m args below hf hA hF happ hP
  obtain ⟨hcalls, hrest, hpre⟩ := hP
  obtain ⟨-, -, -, hnamed, -, -, -, hat⟩ := (Spec.applies_iff hf).mp happ
  obtain ⟨hg, hn⟩ := and_e (Cond.before_iff.mp (show (Jvm.Cond.and given_1 narrow_1).before args s = true from hpre))
  obtain ⟨g3, g4⟩ := and_e hg
  obtain ⟨w0, rfl⟩ : ∃ w0 : Value, args = #[w0] := by
    have hs : args.size = 1 := by simpa [Cond.value, given_1] using g3
    obtain ⟨L⟩ := args
    match L, hs with
    | [w0], _ => exact ⟨w0, rfl⟩
  have hw := fun d (hd : d ∈ tables_1) => atoms_spec (ws := Jvm.Cond.code x code maxLocals ret :: tables_1) hat d (List.mem_cons_of_mem _ hd)
  have hfit : Fit s := fun {y c} hc i hi => by
    obtain ⟨ha, rfl⟩ := Array.getElem?_eq_some_iff.mp hc
    have q := List.all_eq_true.mp ((Array.all_eq_true_iff_forall_mem.mp hF) _ (Array.getElem_mem ha)) i (List.mem_range.mpr hi)
    simpa [Array.getElem?_eq_getElem hi] using q
  obtain ⟨i0, ei0⟩ := is_v g4
  obtain rfl : w0 = (.int i0) := Option.some.inj ei0
  obtain ⟨n, o, h1, h2, h3, _, L, rfl, ⟨rfl, N⟩, hq⟩ := rm0 l s _ hw tables_1 i0 s.heap s.heap.size (Nat.le_refl _) p e ha hc hk s m _ below hf ((Spec.applies_iff_loose hf).mp happ).1 ⟨rfl, State.Warmed39.refl s, rfl⟩ trivial
  refine ⟨n, _, h1, h2, h3, hpost _ _ _ _ _ _ ⟨Cond.after_iff.mpr rfl, Cond.after_iff.mpr (eq_i res_at (Term.int_eval (1)) rfl), trivial⟩ ⟨hq.1, hq.2.1, (hq.2.2.sift fun y hy => Or.inr (N y hy)).mono (by decide) (by decide)⟩⟩
theorem main_1_1 : Claimed_1_1 := comes_1 fun _ _ _ _ _ _ h hF => ⟨h.1, hF⟩
theorem main_1_2 : Claimed_1_2 := comes_1 fun _ _ _ _ _ _ h hF => ⟨h.2.1, hF⟩
end Jvm.Pilot.@@N@@
namespace Jvm.Pilot.@@N@@
open Jvm Jvm.ClassFile Sem Op Lib Jvm.Free Jvm.Stand Jvm.Pilot.@@N@@.Jvm.D
/-! MADE BY PROGRAM (witnessworld.py) out of the Statement's table words and the real class files: 7 classes; the members and pool entries that the words name. The judged class is class 1, her method 1. -/
namespace start1
open Jvm.ClassFile
def u (s : String) : CpInfo := .utf8 (stringToUtf16 s)
/-- a pool by its gaps: so many unusable entries, then the entry; so many at the end -/
def gap : Nat → List CpInfo → List CpInfo
  | 0, r => r
  | n + 1, r => .unusable :: gap n r
def poolList (es : List (Nat × CpInfo)) (last : Nat) : List CpInfo := es.foldr (fun e r => gap e.1 (e.2 :: r)) (gap last [])
def pool (es : List (Nat × CpInfo)) (last : Nat) : Array CpInfo := ⟨poolList es last⟩
def fileOf (pool : Array CpInfo) (this : Nat) (attrs : Array Attribute := #[]) (ms : Array MethodInfo := #[]) (fl : Nat := 33) (sup : Nat := 0) (ifs : Array Nat := #[]) (fds : Array FieldInfo := #[]) : ClassFile where
  minorVersion := 0
  majorVersion := 65
  constantPool := pool
  accessFlags := fl
  thisClass := this
  superClass := sup
  interfaces := ifs
  fields := fds
  methods := ms
  attributes := attrs
def plain (name : String) (sup : Option ClassId) : Class where
  name := name
  kind := .ordinary
  loader := none
  accessFlags := 33
  super := sup
  interfaces := #[]
  cf := none
  fields := #[]
  methods := #[]
  instanceTypes := #[]
  staticTypes := #[]
  resolved := #[]
  callSites := []
  init := .initialized
  statics := none
  mirror := none

def pool0 : Array CpInfo := pool [(5, u "<init>"), (0, u "()V"), (1, .class_ 10), (1, u "java/lang/Object")] 113

def k0m0 : Method := { name := "<init>", desc := "()V", sig := { parameters := [], returnType := none }, accessFlags := 1, code := none }
/-- java/lang/Object -/
def k0 : Class := { plain "java/lang/Object" none with
  accessFlags := 33
  interfaces := #[]
  cf := some (fileOf pool0 8 #[] #[{ accessFlags := 1, nameIndex := 5, descriptorIndex := 6, attributes := #[] }] 33 0 #[] #[])
  fields := #[]
  methods := #[k0m0]
  instanceTypes := #[]
  staticTypes := #[]
  resolved := Array.replicate 124 none
  statics := none }

def pool1 : Array CpInfo := pool [(2, .class_ 4), (1, u "java/lang/Object"), (0, u "<init>"), (0, u "()V"), (0, .methodref 8 9), (0, .class_ 10), (0, .nameAndType 11 12), (0, u "com/example/berchta/berchta/learn/Automaton"), (0, u "code"), (0, u "(I)J"), (0, .long 3573116690164977347), (1, .long 10871156337175269513), (1, .long 17428512612931826493), (1, .class_ 20), (0, u "com/example/berchta/berchta/learn/AutomatonCodePinLaw"), (2, u "law"), (0, u "(I)Z")] 3

def k1m0 : Method := { name := "<init>", desc := "()V", sig := { parameters := [], returnType := none }, accessFlags := 2, code := none }
def k1c1 : Code := { maxStack := 6, maxLocals := 3, code := code, exceptionTable := #[], attributes := #[] }
def k1m1 : Method := { name := "law", desc := "(I)Z", sig := { parameters := [.int], returnType := some .boolean }, accessFlags := 9, code := some k1c1 }
/-- com/example/berchta/berchta/learn/AutomatonCodePinLaw -/
def k1 : Class := { plain "com/example/berchta/berchta/learn/AutomatonCodePinLaw" (some 0) with
  accessFlags := 49
  interfaces := #[]
  cf := some (fileOf pool1 19 #[] #[{ accessFlags := 2, nameIndex := 5, descriptorIndex := 6, attributes := #[] }, { accessFlags := 9, nameIndex := 23, descriptorIndex := 24, attributes := #[] }] 49 2 #[] #[])
  fields := #[]
  methods := #[k1m0, k1m1]
  instanceTypes := #[]
  staticTypes := #[]
  resolved := Array.replicate 28 none
  statics := none }

def pool2 : Array CpInfo := pool [(2, .class_ 4), (1, u "java/lang/Object"), (0, u "<init>"), (0, u "()V"), (4, .class_ 13), (1, u "com/example/berchta/berchta/learn/Automaton"), (0, u "labels"), (0, u "Ljava/util/List;"), (2, u "successors"), (2, u "predecessors"), (5, u "iterations"), (0, u "Ljava/util/BitSet;"), (2, u "inner"), (2, u "loops"), (2, u "watchers"), (2, u "edgeWatchers"), (2, u "scanned"), (0, u "Z"), (93, .class_ 139), (0, u "com/example/berchta/berchta/learn/Automaton$Neighbours"), (15, u "I"), (29, u "code"), (0, u "J"), (0, .long 11400714819323198485), (1, .long 13787848793156543929), (1, .long 10723151780598845931), (10, u "groups"), (0, u "Lcom/example/berchta/berchta/learn/Groups;"), (8, u "changes"), (59, .class_ 273), (0, u "com/example/berchta/berchta/learn/Automaton$EdgeConsumer"), (78, .class_ 354), (1, u "com/example/berchta/berchta/learn/Automaton$Components"), (102, u "SOURCE"), (2, u "SINK"), (1, u "MOST_SCANNED"), (27, u "(I)J"), (52, .class_ 544), (0, u "com/example/berchta/berchta/learn/Automaton$Pair")] 71

def k2m0 : Method := { name := "<init>", desc := "()V", sig := { parameters := [], returnType := none }, accessFlags := 2, code := none }
def k2c1 : Code := { maxStack := 5, maxLocals := 3, code := prog_73_method_26_code, exceptionTable := #[], attributes := #[] }
def k2m1 : Method := { name := "code", desc := "(I)J", sig := { parameters := [.int], returnType := some .long }, accessFlags := 8, code := some k2c1 }
/-- com/example/berchta/berchta/learn/Automaton -/
def k2 : Class := { plain "com/example/berchta/berchta/learn/Automaton" (some 0) with
  accessFlags := 32
  interfaces := #[]
  cf := some (fileOf pool2 11 #[.nestMembers #[138, 352, 272, 543]] #[{ accessFlags := 2, nameIndex := 5, descriptorIndex := 6, attributes := #[] }, { accessFlags := 8, nameIndex := 185, descriptorIndex := 490, attributes := #[] }] 32 2 #[] #[{ accessFlags := 24, nameIndex := 457, descriptorIndex := 155, attributes := #[] }, { accessFlags := 24, nameIndex := 460, descriptorIndex := 155, attributes := #[] }, { accessFlags := 24, nameIndex := 462, descriptorIndex := 155, attributes := #[] }, { accessFlags := 18, nameIndex := 14, descriptorIndex := 15, attributes := #[] }, { accessFlags := 18, nameIndex := 18, descriptorIndex := 15, attributes := #[] }, { accessFlags := 18, nameIndex := 21, descriptorIndex := 15, attributes := #[] }, { accessFlags := 18, nameIndex := 27, descriptorIndex := 28, attributes := #[] }, { accessFlags := 18, nameIndex := 31, descriptorIndex := 28, attributes := #[] }, { accessFlags := 18, nameIndex := 34, descriptorIndex := 28, attributes := #[] }, { accessFlags := 18, nameIndex := 37, descriptorIndex := 15, attributes := #[] }, { accessFlags := 18, nameIndex := 40, descriptorIndex := 15, attributes := #[] }, { accessFlags := 18, nameIndex := 43, descriptorIndex := 44, attributes := #[] }, { accessFlags := 2, nameIndex := 202, descriptorIndex := 203, attributes := #[] }, { accessFlags := 2, nameIndex := 212, descriptorIndex := 186, attributes := #[] }])
  fields := #[{ name := "SOURCE", type := .int, accessFlags := 24, slot := 0, constantValue := 0 }, { name := "SINK", type := .int, accessFlags := 24, slot := 1, constantValue := 0 }, { name := "MOST_SCANNED", type := .int, accessFlags := 24, slot := 2, constantValue := 0 }, { name := "labels", type := (.object "java/util/List"), accessFlags := 18, slot := 0, constantValue := 0 }, { name := "successors", type := (.object "java/util/List"), accessFlags := 18, slot := 1, constantValue := 0 }, { name := "predecessors", type := (.object "java/util/List"), accessFlags := 18, slot := 2, constantValue := 0 }, { name := "iterations", type := (.object "java/util/BitSet"), accessFlags := 18, slot := 3, constantValue := 0 }, { name := "inner", type := (.object "java/util/BitSet"), accessFlags := 18, slot := 4, constantValue := 0 }, { name := "loops", type := (.object "java/util/BitSet"), accessFlags := 18, slot := 5, constantValue := 0 }, { name := "watchers", type := (.object "java/util/List"), accessFlags := 18, slot := 6, constantValue := 0 }, { name := "edgeWatchers", type := (.object "java/util/List"), accessFlags := 18, slot := 7, constantValue := 0 }, { name := "scanned", type := .boolean, accessFlags := 18, slot := 8, constantValue := 0 }, { name := "groups", type := (.object "com/example/berchta/berchta/learn/Groups"), accessFlags := 2, slot := 9, constantValue := 0 }, { name := "changes", type := .long, accessFlags := 2, slot := 10, constantValue := 0 }]
  methods := #[k2m0, k2m1]
  instanceTypes := #[(.object "java/util/List"), (.object "java/util/List"), (.object "java/util/List"), (.object "java/util/BitSet"), (.object "java/util/BitSet"), (.object "java/util/BitSet"), (.object "java/util/List"), (.object "java/util/List"), .boolean, (.object "com/example/berchta/berchta/learn/Groups"), .long]
  staticTypes := #[.int, .int, .int]
  resolved := Array.replicate 616 none
  statics := none }

def pool3 : Array CpInfo := pool [(1, u "java/lang/Cloneable"), (0, .class_ 1), (0, u "java/lang/Object"), (0, .class_ 3)] 3

/-- java/lang/Cloneable -/
def k3 : Class := { plain "java/lang/Cloneable" (some 0) with
  accessFlags := 1537
  interfaces := #[]
  cf := some (fileOf pool3 2 #[] #[] 1537 4 #[] #[])
  fields := #[]
  methods := #[]
  instanceTypes := #[]
  staticTypes := #[]
  resolved := Array.replicate 8 none
  statics := none }

def pool4 : Array CpInfo := pool [(1, u "java/io/Serializable"), (0, .class_ 1), (0, u "java/lang/Object"), (0, .class_ 3)] 3

/-- java/io/Serializable -/
def k4 : Class := { plain "java/io/Serializable" (some 0) with
  accessFlags := 1537
  interfaces := #[]
  cf := some (fileOf pool4 2 #[] #[] 1537 4 #[] #[])
  fields := #[]
  methods := #[]
  instanceTypes := #[]
  staticTypes := #[]
  resolved := Array.replicate 8 none
  statics := none }

/-- the primitive byte -/
def k5 : Class := { plain "byte" none with kind := .primitive 'B', accessFlags := 0x411 }
/-- [B -/
def k6 : Class := { plain "[B" (some 0) with kind := .array 5 .byte, interfaces := #[3, 4], accessFlags := 1041 }

def heap : Heap := #[]
def classes : Array Class := #[k0, k1, k2, k3, k4, k5, k6]
def interned : List (Array UInt16 × Addr) := []
def slotsUsed : Nat := 0
def theMethod : MethodId := ⟨1, 1⟩
def args0 : Array Value := #[.int 5]
def aboutOver (below : List Frame) : State where
  vm := { classes := classes, interned := interned.toArray }
  heap := heap
  slotsUsed := slotsUsed
  threads := #[{ frames := .invoking theMethod args0 :: below }]
def below0 : List Frame := [.native { method := ⟨0, 0⟩, args := #[] }]
def about1 : State := aboutOver below0
def p0 : Program := .bare "" "" ""
def e0 : Env := launch0.env 0 0 0
theorem w_frames : about1.frames = Frame.invoking theMethod args0 :: below0 := rfl
set_option maxRecDepth 65536 in
theorem w_args : argsFit about1.vm theMethod args0 = true := by decide +kernel
set_option maxRecDepth 65536 in
theorem w_heap : heapFits about1 = true := by decide +kernel
set_option maxRecDepth 65536 in
theorem w_runnable : about1.curStatus? = some .runnable := by decide +kernel
set_option maxRecDepth 65536 in
theorem w_alone : about1.alone = true := by decide +kernel
set_option maxRecDepth 65536 in
theorem w_named : about1.methodNamed? x = some theMethod := by decide +kernel
set_option maxRecDepth 65536 in
theorem w_hears : about1.hears theMethod below0 = true := by decide +kernel
set_option maxRecDepth 65536 in
theorem w_ripe : about1.ripe theMethod args0 below0 = true := by decide +kernel
theorem w_running : about1.status = .running := rfl
set_option maxRecDepth 65536 in
theorem w_room : about1.hasRoom e0.platform room_1 = true :=
  launch0.hasRoom_least _ room_1 (by decide +kernel) (by decide +kernel) (by decide +kernel) (by decide +kernel) (by decide +kernel) (by decide +kernel)
theorem allAtoms_all (ts : List Jvm.Cond) (a : Array Jvm.Value) (st : Jvm.State) : (allAtoms ts).before a st = ts.all (fun c => c.before a st) := by
  induction ts with
  | nil => rfl
  | cons c t ih =>
    show (Jvm.Cond.and c (allAtoms t)).before a st = _
    rw [Jvm.Cond.before_and, ih, List.all_cons]
def words1 : List Jvm.Cond := Jvm.Cond.code x code maxLocals ret :: tables_1
/-- a 'code' word, met by the world's own term for the bytes: nothing is compared byte by byte -/
theorem code_word {y : MethodName} {bytes : ByteArray} {mx : Nat} {rt : Option FieldType} {a : Array Value} {s : State} {m : MethodId} {meth : Method} {c : Code} (h1 : s.methodNamed? y = some m) (h2 : s.vm.method? m = some meth) (h3 : meth.code = some c) (h4 : c.code = bytes)
    (h5 : (c.maxLocals == mx && c.exceptionTable.isEmpty && decide (c.maxStack ≤ mostOperands) && decide (meth.sig.returnType = rt) && !meth.locks && decide (parseMethodDescriptor y.desc = some meth.sig)) = true) : (Jvm.Cond.code y bytes mx rt).before a s = true := by
  simp only [Bool.and_eq_true, beq_iff_eq, Bool.not_eq_true', decide_eq_true_eq] at h5
  obtain ⟨⟨⟨⟨⟨g1, g2⟩, g3⟩, g4⟩, g5⟩, g6⟩ := h5
  simp [Cond.before, Cond.holds, Cond.value, h1, h2, h3, h4, g1, g2, g3, g4, g5, g6]
def isCode : Jvm.Cond → Bool
  | .code _ _ _ _ => true
  | _ => false
theorem all_split {L : List Jvm.Cond} {P : Jvm.Cond → Bool} (h1 : L.all (fun c => isCode c || P c) = true) (h2 : ∀ c ∈ L.filter isCode, P c = true) : L.all P = true := by
  refine List.all_eq_true.mpr fun c hc => ?_
  have h := List.all_eq_true.mp h1 c hc
  rcases Bool.eq_false_or_eq_true (isCode c) with hi | hi
  · exact h2 c (List.mem_filter.mpr ⟨hc, hi⟩)
  · simpa [hi] using h
set_option maxRecDepth 65536 in
theorem w_c0 : (Jvm.Cond.code x code maxLocals ret).before args0 about1 = true := code_word (m := ⟨1, 1⟩) (meth := k1m1) (c := k1c1) (by decide +kernel) rfl rfl rfl (by decide +kernel)
set_option maxRecDepth 65536 in
theorem w_c1 : (Jvm.Cond.code ({ cls := "com/example/berchta/berchta/learn/Automaton", name := "code", desc := "(I)J" } : Jvm.MethodName) prog_73_method_26_code (3 : Nat) (Option.some Jvm.ClassFile.FieldType.long)).before args0 about1 = true := code_word (m := ⟨2, 1⟩) (meth := k2m1) (c := k2c1) (by decide +kernel) rfl rfl rfl (by decide +kernel)
def codes1 : List Jvm.Cond := [Jvm.Cond.code x code maxLocals ret, Jvm.Cond.code ({ cls := "com/example/berchta/berchta/learn/Automaton", name := "code", desc := "(I)J" } : Jvm.MethodName) prog_73_method_26_code (3 : Nat) (Option.some Jvm.ClassFile.FieldType.long)]
set_option maxRecDepth 65536 in
theorem codes_eq : words1.filter isCode = codes1 := rfl
theorem w_codes : ∀ c ∈ words1.filter isCode, c.before args0 about1 = true := by
  rw [codes_eq]
  intro c hc
  simp only [codes1, List.mem_cons, List.not_mem_nil, or_false] at hc
  rcases hc with rfl | rfl
  · exact w_c0
  · exact w_c1
set_option maxRecDepth 65536 in
theorem w_t1 : words1.all (fun c => isCode c || c.before args0 about1) = true := by decide +kernel
theorem w_tables : (allAtoms (Jvm.Cond.code x code maxLocals ret :: tables_1)).before args0 about1 = true := by
  rw [allAtoms_all]
  show words1.all (fun c => c.before args0 about1) = true
  refine all_split ?_ w_codes
  rw [w_t1]
set_option maxRecDepth 65536 in
theorem w_case : (Jvm.Cond.and given_1 narrow_1).before args0 about1 = true := by decide +kernel
theorem w_applies : (headSpec (Jvm.Cond.code x code maxLocals ret :: tables_1) room_1).applies x e0.platform about1 = true :=
  (Spec.applies_iff w_frames).mpr ⟨w_running, w_runnable, w_alone, w_named, w_hears, w_ripe, w_room, w_tables⟩
theorem atStart : AtStart classFile x code maxLocals ret World_1 tables_1 room_1 Calls_1 rest_1 Pre_1 launch0 p0 e0 about1 theMethod args0 below0 :=
  ⟨lists_1, trivial, launch0.admits_env _ _ _, launch0.least_env, fairChoices_fair.cas, fairChoices_fair.clock, w_frames, w_args, w_heap, w_applies, trivial, trivial, w_case⟩
end start1
theorem witness_1 : WitnessClaimed_1 := ⟨start1.p0, start1.e0, start1.about1, start1.theMethod, start1.args0, start1.below0, start1.atStart⟩
end Jvm.Pilot.@@N@@
