import JvmDerived
import JvmDerived.Pilot.@@N@@Statement
import JvmDerived.Pilot.@@N@@Code
set_option linter.unusedVariables false
set_option linter.unusedSimpArgs false
namespace Jvm.RoadKit
open Sem ClassFile Op Lib Jvm.Stand Jvm.Free Jvm.LawKit
section New
variable {p : Program} {l : Launch} {e : Env} {R : Room} {s : State} {m : MethodId} {args : Array Value} {below : List Frame} {meth : Method} {c : Code} {T : State} {locs : List Loc} {cells slots : Nat}
theorem retI (X : Stand p l e R s m args below meth c T locs cells slots) (hx : p.tables.exec = Jvm.exec) {pc : Nat} {Ls : Array Slot} {z : Int32} {rest : List Value} (hret : meth.sig.returnType = some .int) (hd : decode c.code pc = .ok (.ireturn, 1)) {fs : List Frame}
    (hl : ∀ (f : JFrame) (acts : List Action), f.method = m → f.locked = none → f.entered = [] → (doReturn e (T.setTop f) acts (some (.int z))).1 = T.setFrames fs) : Steps p.tables e below (T.setTop (mkF m pc Ls (.int z :: rest))) (T.setFrames fs) := by
  have hm' : T.vm.method? m = some meth := X.method'
  have hn : narrow .int (.int z) = .int z := rfl
  show Steps p.tables e below (T.setTop { method := m, pc := pc, locals := Ls, stack := _ :: rest, locked := none }) _
  jvm_step X.here [X.here.top, hx, hd, hm', hret, hn]
  first | (intro acts; rw [hl _ acts rfl rfl rfl]) | rw [hl _ _ rfl rfl rfl]
  exact Steps.refl _
end New
end Jvm.RoadKit
namespace Jvm.Pilot.@@N@@
open Jvm Jvm.ClassFile Sem Op Lib Jvm.Free Jvm.Stand Jvm.LawKit Jvm.RoadKit Bundle Jvm.Pilot.@@N@@.Jvm.D
def own_wd (p : Int32) : Int32 := (p.toUInt32 >>> ((6 : Int32) &&& 31).toUInt32).toInt32
def own_bo (p : Int32) : Int64 := (1 : Int64) <<< (p &&& 0x3f).toInt64
def own_bt (v : Int64) (k : Nat) : Bool := v.toBitVec.getLsbD k
def own_lo (p : Int32) : Nat := p.toBitVec.toNat % 64
def own_ix (p : Int32) : Nat := (own_wd p).toNatClampNeg
theorem own_wd_nat (p : Int32) : (own_wd p).toBitVec.toNat = p.toBitVec.toNat / 64 := by
  show (p.toUInt32 >>> ((6 : Int32) &&& 31).toUInt32).toNat = _
  rw [UInt32.toNat_shiftRight]
  show p.toBitVec.toNat >>> (6 % 32) = _
  rw [Nat.shiftRight_eq_div_pow]
theorem own_wd_int (p : Int32) : (own_wd p).toInt = ((p.toBitVec.toNat / 64 : Nat) : Int) := by
  have h := own_wd_nat p
  have h2 := p.toBitVec.isLt
  show (own_wd p).toBitVec.toInt = _
  rw [BitVec.toInt_eq_toNat_cond, h, if_pos (by omega)]
theorem own_wd_pos (p : Int32) : ¬ own_wd p < 0 := by
  rw [Int32.lt_iff_toInt_lt, own_wd_int, show (0 : Int32).toInt = 0 by decide]; omega
theorem own_ix_eq (p : Int32) : own_ix p = p.toBitVec.toNat / 64 := by
  unfold own_ix Int32.toNatClampNeg; rw [own_wd_int]; rfl
theorem own_bo_bv (p : Int32) : (own_bo p).toBitVec = 1#64 <<< own_lo p := by
  have h := sm64 p (own_lo p) rfl
  show (1 : Int64).toBitVec <<< ((p &&& 0x3f).toInt64.toBitVec.smod 64) = _
  rw [h.1, BitVec.shiftLeft_eq', smod64 _ h.2]; rfl
theorem own_bt_bo (p : Int32) (k : Nat) : own_bt (own_bo p) k = decide (k = own_lo p) := by
  unfold own_bt
  have h2 : own_lo p < 64 := Nat.mod_lt _ (by decide)
  rw [own_bo_bv, BitVec.getLsbD_shiftLeft]
  by_cases h : k = own_lo p
  · subst h; simp [h2]
  · by_cases h3 : k < own_lo p
    · simp [h3, h]
    · have : k - own_lo p ≠ 0 := by omega
      simp [h, BitVec.getLsbD_one, this]
theorem own_bt_or (a b : Int64) (k : Nat) : own_bt (a ||| b) k = (own_bt a k || own_bt b k) := by simp [own_bt]
theorem own_bt_and (a b : Int64) (k : Nat) : own_bt (a &&& b) k = (own_bt a k && own_bt b k) := by simp [own_bt]
theorem own_bt_not (a : Int64) (k : Nat) (h : k < 64) : own_bt (a ^^^ (-1 : Int64)) k = !own_bt a k := by
  have : (-1 : Int64).toBitVec = BitVec.allOnes 64 := by decide
  simp [own_bt, this, h]
theorem own_bt_ge (a : Int64) (k : Nat) (h : 64 ≤ k) : own_bt a k = false := BitVec.getLsbD_of_ge _ _ h
theorem own_bt_zero (k : Nat) : own_bt 0 k = false := by simp [own_bt]
theorem own_ext {a b : Int64} (h : ∀ k, k < 64 → own_bt a k = own_bt b k) : a = b := by
  apply Int64.toBitVec_inj.mp
  apply BitVec.eq_of_getLsbD_eq
  intro i hi; exact h i hi
theorem own_lo_lt (p : Int32) : own_lo p < 64 := Nat.mod_lt _ (by decide)
theorem own_or_same (v : Int64) (p : Int32) : v ||| own_bo p = v ↔ own_bt v (own_lo p) = true := by
  constructor
  · intro h; rw [← h, own_bt_or, own_bt_bo]; simp
  · intro h; apply own_ext; intro k hk; rw [own_bt_or, own_bt_bo]
    by_cases e : k = own_lo p
    · subst e; simp [h]
    · simp [e]
theorem own_and_same (v : Int64) (p : Int32) : v &&& (own_bo p ^^^ (-1 : Int64)) = v ↔ own_bt v (own_lo p) = false := by
  constructor
  · intro h; rw [← h, own_bt_and, own_bt_not _ _ (own_lo_lt p), own_bt_bo]; simp
  · intro h; apply own_ext; intro k hk; rw [own_bt_and, own_bt_not _ _ hk, own_bt_bo]
    by_cases e : k = own_lo p
    · subst e; simp [h]
    · simp [e]
theorem own_and_zero (v : Int64) (p : Int32) : v &&& own_bo p = 0 ↔ own_bt v (own_lo p) = false := by
  constructor
  · intro h; have := own_bt_and v (own_bo p) (own_lo p); rw [h, own_bt_zero, own_bt_bo] at this; simpa using this.symm
  · intro h; apply own_ext; intro k hk; rw [own_bt_and, own_bt_bo, own_bt_zero]
    by_cases e : k = own_lo p
    · subst e; simp [h]
    · simp [e]
def own_upd (f : Nat → Int64) (i : Nat) (v : Int64) : Nat → Int64 := fun j => if j = i then v else f j
def own_mem (f : Nat → Int64) (p : Int32) : Bool := own_bt (f (own_ix p)) (own_lo p)
def own_add (f : Nat → Int64) (p : Int32) : Nat → Int64 := own_upd f (own_ix p) (f (own_ix p) ||| own_bo p)
def own_rem (f : Nat → Int64) (p : Int32) : Nat → Int64 := own_upd f (own_ix p) (f (own_ix p) &&& (own_bo p ^^^ (-1 : Int64)))
theorem own_pq (p q : Int32) : (own_ix p = own_ix q ∧ own_lo p = own_lo q) ↔ p = q := by
  constructor
  · rintro ⟨h1, h2⟩
    rw [own_ix_eq, own_ix_eq] at h1
    unfold own_lo at h2
    apply Int32.toBitVec_inj.mp
    apply BitVec.eq_of_toNat_eq
    omega
  · rintro rfl; exact ⟨rfl, rfl⟩
theorem own_mem_add (f : Nat → Int64) (p q : Int32) : own_mem (own_add f p) q = (own_mem f q || decide (q = p)) := by
  unfold own_mem own_add own_upd
  by_cases h : own_ix q = own_ix p
  · rw [if_pos h, own_bt_or, own_bt_bo, h]
    congr 1
    by_cases h2 : own_lo q = own_lo p
    · simp [h2, (own_pq q p).mp ⟨h, h2⟩]
    · have : ¬ q = p := fun e => h2 (by rw [e])
      simp [h2, this]
  · have : ¬ q = p := fun e => h (by rw [e])
    simp [h, this]
theorem own_mem_rem (f : Nat → Int64) (p q : Int32) : own_mem (own_rem f p) q = (own_mem f q && !decide (q = p)) := by
  unfold own_mem own_rem own_upd
  by_cases h : own_ix q = own_ix p
  · rw [if_pos h, own_bt_and, own_bt_not _ _ (own_lo_lt q), own_bt_bo, h]
    congr 2
    by_cases h2 : own_lo q = own_lo p
    · simp [h2, (own_pq q p).mp ⟨h, h2⟩]
    · have : ¬ q = p := fun e => h2 (by rw [e])
      simp [h2, this]
  · have : ¬ q = p := fun e => h (by rw [e])
    simp [h, this]
def own_max (a b : Int32) : Int32 := if a < b then b else a
def own_min (a b : Int32) : Int32 := if b < a then b else a
def own_nf (f : Nat → Int64) (z i r : Int32) : Prop := (r = -1 ∧ ∀ j, i.toNatClampNeg ≤ j → j < z.toNatClampNeg → f j = 0) ∨ (¬ r < i ∧ r < z ∧ ¬ f r.toNatClampNeg = 0 ∧ ∀ j, i.toNatClampNeg ≤ j → j < r.toNatClampNeg → f j = 0)
theorem own_irr (i : Int32) : ¬ i < i := by rw [Int32.lt_iff_toInt_lt]; omega
theorem own_nf_out {f : Nat → Int64} {i z : Int32} (hi : ¬ i < 0) (hc : ¬ i < z) : ∀ j, i.toNatClampNeg ≤ j → j < z.toNatClampNeg → f j = 0 := fun j p q => by
  rw [Int32.lt_iff_toInt_lt] at hc; simp only [Int32.toNatClampNeg] at p q; omega
theorem own_succ {i z : Int32} (hi : ¬ i < 0) (hc : i < z) : ¬ i + (1 : Int32) < 0 ∧ (i + (1 : Int32)).toInt = i.toInt + 1 ∧ (i + (1 : Int32)).toNatClampNeg = i.toNatClampNeg + 1 := by
  rw [Int32.lt_iff_toInt_lt] at hi hc
  rw [show (0 : Int32).toInt = 0 by decide] at hi
  have hz := Int32.toInt_lt z
  have e : (i + (1 : Int32)).toInt = i.toInt + 1 := by
    rw [Int32.toInt_add, show (1 : Int32).toInt = 1 by decide]; exact Int.bmod_eq_of_le (by omega) (by omega)
  refine ⟨?_, e, ?_⟩
  · rw [Int32.lt_iff_toInt_lt, e, show (0 : Int32).toInt = 0 by decide]; omega
  · simp only [Int32.toNatClampNeg, e]; omega
theorem own_nf_step {f : Nat → Int64} {i z r : Int32} (hi : ¬ i < 0) (hq : f i.toNatClampNeg = 0) (hn : (i + (1 : Int32)).toNatClampNeg = i.toNatClampNeg + 1) (hk : (i + (1 : Int32)).toInt = i.toInt + 1) (h : own_nf f z (i + (1 : Int32)) r) : own_nf f z i r := by
  have st : ∀ j, i.toNatClampNeg ≤ j → (i.toNatClampNeg + 1 ≤ j → f j = 0) → f j = 0 := fun j p q => by
    rcases Nat.eq_or_lt_of_le p with e | e
    · rw [← e]; exact hq
    · exact q e
  rcases h with ⟨e, h⟩ | ⟨h1, h2, h3, h4⟩
  · exact Or.inl ⟨e, fun j p q => st j p fun u => h j (by rw [hn]; exact u) q⟩
  · refine Or.inr ⟨?_, h2, h3, fun j p q => st j p fun u => h4 j (by rw [hn]; exact u) q⟩
    rw [Int32.lt_iff_toInt_lt] at h1 ⊢; omega
theorem own_sel {Z : State} {a0 : Array Value} {y z : MethodName} (hcls : y.cls = z.cls) (ws : (Cond.selects z.cls z z).before a0 Z = true) (wi : (Cond.instanceMethod y).before a0 Z = true) (wp : (Cond.privateMethod y).before a0 Z = true) (hy : y.cls ≠ "java/lang/invoke/MethodHandle" ∧ y.cls ≠ "java/lang/invoke/VarHandle") : (Cond.selects y.cls y y).before a0 Z = true := by
  obtain ⟨c2, r2, m2, q1, q2, q3, q4, kP, hkP, hkPi⟩ := Cond.selects_spec ws
  exact selects_self_of_private (by rw [hcls]; exact findClass_of_methodNamed q3) hkP hkPi (Cond.privateMethod_at wp) wi hy
def own_has (f : Nat → Int64) (p : Int32) : Int32 := if own_mem f p = true then 1 else 0
theorem own_and_ne {f : Nat → Int64} {p : Int32} (h : own_mem f p = true) : ¬ f (own_ix p) &&& own_bo p = 0 := fun q => by
  have := (own_and_zero _ _).mp q
  unfold own_mem at h; rw [h] at this; cases this
theorem own_ge {z j : Int32} (h : ¬ j < z) : z.toNatClampNeg ≤ j.toNatClampNeg := by
  rw [Int32.lt_iff_toInt_lt] at h; simp only [Int32.toNatClampNeg]; omega
theorem own_lt {z j : Int32} (h0 : ¬ j < 0) (h : j < z) : j.toNatClampNeg < z.toNatClampNeg := by
  rw [Int32.lt_iff_toInt_lt] at h0 h; rw [show (0 : Int32).toInt = 0 by decide] at h0; simp only [Int32.toNatClampNeg]; omega
theorem own_mem_out {f : Nat → Int64} {z p : Int32} (hf : ∀ i, z.toNatClampNeg ≤ i → f i = 0) (h : ¬ own_wd p < z) : ¬ own_mem f p = true := by
  show ¬ own_bt (f (own_wd p).toNatClampNeg) _ = true; rw [hf _ (own_ge h), own_bt_zero]; decide
theorem own_add_id {f : Nat → Int64} {p : Int32} (h : own_bt (f (own_ix p)) (own_lo p) = true) : own_add f p = f := by
  funext i; unfold own_add own_upd; split
  · next e => rw [e]; exact (own_or_same _ _).mpr h
  · rfl
theorem own_rem_id {f : Nat → Int64} {p : Int32} (h : own_bt (f (own_ix p)) (own_lo p) = false) : own_rem f p = f := by
  funext i; unfold own_rem own_upd; split
  · next e => rw [e]; exact (own_and_same _ _).mpr h
  · rfl
theorem own_rem_far {f : Nat → Int64} {z p : Int32} (hf : ∀ i, z.toNatClampNeg ≤ i → f i = 0) (h : ¬ own_wd p < z) : own_rem f p = f :=
  own_rem_id (by show own_bt (f (own_wd p).toNatClampNeg) _ = false; rw [hf _ (own_ge h), own_bt_zero])
theorem own_upd_out {f : Nat → Int64} {z p : Int32} {x : Int64} (hf : ∀ i, z.toNatClampNeg ≤ i → f i = 0) (h : own_wd p < z) : ∀ i, z.toNatClampNeg ≤ i → own_upd f (own_ix p) x i = 0 := fun i q => by
  have := own_lt (own_wd_pos p) h
  unfold own_upd own_ix; rw [if_neg (by omega)]; exact hf i q
theorem own_add_out {f : Nat → Int64} {z p : Int32} (hf : ∀ i, z.toNatClampNeg ≤ i → f i = 0) (h : own_wd p < z) : ∀ i, z.toNatClampNeg ≤ i → own_add f p i = 0 := own_upd_out hf h
theorem own_rem_out {f : Nat → Int64} {z p : Int32} (hf : ∀ i, z.toNatClampNeg ≤ i → f i = 0) (h : own_wd p < z) : ∀ i, z.toNatClampNeg ≤ i → own_rem f p i = 0 := own_upd_out hf h
theorem own_leaf_grow {z p : Int32} (hz : z = 1 ∨ z = 2) (hp : ¬ p < 0 ∧ p < 128) (hc : ¬ own_wd p < z) : z = 1 ∧ own_wd p = 1 := by
  have e := own_wd_int p
  have b := p.toBitVec.isLt
  obtain ⟨h0, h1⟩ := hp
  rw [Int32.lt_iff_toInt_lt] at h0 h1 hc
  rw [show (0 : Int32).toInt = 0 by decide] at h0
  rw [show (128 : Int32).toInt = 128 by decide] at h1
  have e2 : p.toInt = (p.toBitVec.toNat : Int) := by
    have : p.toInt = p.toBitVec.toInt := rfl
    rw [this, BitVec.toInt_eq_toNat_cond] at h0 h1 ⊢
    split at h0 <;> omega
  rcases hz with rfl | rfl
  · refine ⟨rfl, Int32.toInt_inj.mp ?_⟩
    rw [show (1 : Int32).toInt = 1 by decide] at hc ⊢
    omega
  · rw [show (2 : Int32).toInt = 2 by decide] at hc; omega
theorem own_k1 {h0 : Heap} {ws : List Addr} {b : Addr} (h : b ∈ ws ∨ h0.size ≤ b) : ∀ x ∈ [b], x ∈ ws ∨ h0.size ≤ x := fun x q => by cases List.mem_singleton.mp q; exact h
theorem own_k2 {h0 : Heap} {ws : List Addr} {b c : Addr} (h : b ∈ ws ∨ h0.size ≤ b) (h' : c ∈ ws ∨ h0.size ≤ c) : ∀ x ∈ [b, c], x ∈ ws ∨ h0.size ≤ x := fun x q => by
  rcases List.mem_cons.mp q with rfl | q
  · exact h
  · cases List.mem_singleton.mp q; exact h'
theorem own_rep (n i : Nat) : (List.replicate n (Value.long (0 : Int64))).getD i (.long (0 : Int64)) = .long (0 : Int64) := by
  rw [List.getD_eq_getElem?_getD, List.getElem?_replicate]; split <;> rfl
theorem own_cpl {vs : List Value} {f : Nat → Int64} {nn n : Nat} (G : ∀ i, vs.getD i (.long (0 : Int64)) = .long (f i)) (hf : ∀ i, nn ≤ i → f i = 0) (i : Nat) :
    ((List.replicate n (Value.long (0 : Int64))).take (0 : Int32).toNatClampNeg ++ (List.range nn).map (fun i => vs.getD ((0 : Int32).toNatClampNeg + i) (.long (0 : Int64))) ++ (List.replicate n (Value.long (0 : Int64))).drop ((0 : Int32).toNatClampNeg + nn)).getD i (.long (0 : Int64)) = .long (f i) := by
  rw [show (0 : Int32).toNatClampNeg = 0 from rfl, List.take_zero, List.nil_append, List.getD_eq_getElem?_getD]
  by_cases h : i < nn
  · rw [List.getElem?_append_left (by simpa using h)]
    simp only [Nat.zero_add, List.getElem?_map, List.getElem?_range h, Option.map_some, Option.getD_some]; exact G i
  · rw [List.getElem?_append_right (by simpa using h), hf i (by omega), List.drop_replicate, List.getElem?_replicate]; split <;> rfl
theorem own_minz {z p : Int32} (h : ¬ z < 0) (q : z < p) : ¬ p = z ∧ ¬ p < 0 ∧ own_min z p = z ∧ (¬ z < 0 ∧ z.toNatClampNeg ≤ p.toNatClampNeg) := by
  rw [Int32.lt_iff_toInt_lt] at h q
  rw [show (0 : Int32).toInt = 0 by decide] at h
  refine ⟨fun e => by rw [e] at q; omega, ?_, if_neg ?_, ?_, ?_⟩
  · rw [Int32.lt_iff_toInt_lt, show (0 : Int32).toInt = 0 by decide]; omega
  · rw [Int32.lt_iff_toInt_lt]; omega
  · rw [Int32.lt_iff_toInt_lt, show (0 : Int32).toInt = 0 by decide]; omega
  · simp only [Int32.toNatClampNeg]; omega
def own_wds (Z : State) (h : Heap) (w : Addr) (z : Int32) (f : Nat → Int64) : Prop := ∃ (k : ClassId) (vs : List Value), Arv Z h w k .long z vs (.long (0 : Int64)) ∧ ∀ i, vs.getD i (.long (0 : Int64)) = .long (f i)
section Heaps
variable {Z : State} {h h' : Heap} {w a : Addr} {z j : Int32} {f : Nat → Int64} {sl : Nat} {v : Value} {ws : List Addr}
theorem own_wds.lt (F : own_wds Z h w z f) : w < h.size := by obtain ⟨k, vs, A, -⟩ := F; exact A.lt
theorem own_wds.ext (F : own_wds Z h w z f) (E : Ext h h') : own_wds Z h' w z f := by obtain ⟨k, vs, A, G⟩ := F; exact ⟨k, vs, A.ext E, G⟩
theorem own_wds.other (F : own_wds Z h w z f) (W : Wr h h' a sl v) (q : w ≠ a) : own_wds Z h' w z f := by obtain ⟨k, vs, A, G⟩ := F; exact ⟨k, vs, A.other W q, G⟩
theorem own_wds.keep (F : own_wds Z h w z f) (K : Keep h h' ws) (q : w ∉ ws) : own_wds Z h' w z f := by obtain ⟨k, vs, A, G⟩ := F; exact ⟨k, vs, A.keep K q, G⟩
theorem own_wds_len (F : own_wds Z h w z f) : ∃ cl : Cell, RoadKit.Arr Z h w cl .long ∧ cl.slots.size = z.toNatClampNeg ∧ ¬ z < 0 := by
  obtain ⟨k, vs, ⟨cl, A, -, S, N, -, -⟩, -⟩ := F; exact ⟨cl, A, S, N⟩
theorem own_wds_get (F : own_wds Z h w z f) (hj : ¬ j < 0 ∧ j < z) : ∃ cl : Cell, RoadKit.Arr Z h w cl .long ∧ ¬ (j < 0 ∨ cl.slots.size ≤ j.toNatClampNeg) ∧ cl.slots[j.toNatClampNeg]? = some (.long (f j.toNatClampNeg)) := by
  obtain ⟨k, vs, ⟨cl, A, -, S, N, H, -⟩, G⟩ := F
  have hin := inb_of S hj
  exact ⟨cl, A, hin, by rw [← G]; exact H _ (Nat.lt_of_not_le fun q => hin (Or.inr q))⟩
theorem own_wds_set {x : Int64} (F : own_wds Z h w z f) (W : Wr h h' w j.toNatClampNeg (.long x)) : own_wds Z h' w z (own_upd f j.toNatClampNeg x) := by
  obtain ⟨k, vs, A, G⟩ := F
  obtain ⟨cl, Ar, q, S, N, H, T⟩ := A.pad (pad_rep vs (.long (0 : Int64)) (j.toNatClampNeg + 1))
  refine ⟨k, _, Arv.set Ar q S N H T rfl W j.toNatClampNeg rfl (by simp; omega), fun i => ?_⟩
  have e := pad_rep vs (.long (0 : Int64)) (j.toNatClampNeg + 1) i
  rw [List.getD_eq_getElem?_getD] at e ⊢
  rw [List.getElem?_set]
  unfold own_upd
  by_cases c : j.toNatClampNeg = i
  · subst c
    rw [if_pos rfl, if_pos rfl, if_pos (by simp; omega)]; rfl
  · rw [if_neg c, if_neg (fun q => c q.symm), e, G]
theorem own_wds_new {k : ClassId} {n : Int32} (A : RoadKit.Arr Z h w (newA k .long n) .long) (q : ¬ n < 0) : own_wds Z h w n (fun _ => 0) :=
  ⟨k, [], Arv.new A q, fun i => by simp⟩
end Heaps
def own_rel (f g : Nat → Int64) : Prop := ∀ j : Int32, ¬ j < 0 → j < 128 → own_mem g j = !decide (f j.toNatClampNeg = 0)
def own_leaf (Z : State) (h : Heap) (n0 : Nat) (b fw : Addr) (zf : Int32) (g : Nat → Int64) (s2 : Int32) : Prop :=
  Exa Z h b "com/example/berchta/berchta/learn/NodeSet" ∧ Fld Z h b "com/example/berchta/berchta/learn/NodeSet" "words" "[J" (.ref fw) ∧ Fld Z h b "com/example/berchta/berchta/learn/NodeSet" "filled" "Lcom/example/berchta/berchta/learn/NodeSet;" .null ∧ Fld Z h b "com/example/berchta/berchta/learn/NodeSet" "size" "I" (.int s2) ∧ own_wds Z h fw zf g ∧ (zf = 1 ∨ zf = 2) ∧ (∀ i, zf.toNatClampNeg ≤ i → g i = 0) ∧ n0 ≤ b ∧ n0 ≤ fw ∧ b ≠ fw
def own_fil (Z : State) (h : Heap) (n0 : Nat) (a w : Addr) (z : Int32) (f : Nat → Int64) (fl : Value) : Prop :=
  (fl = .null ∧ ¬ (64 : Int32) < z) ∨ ∃ (b fw : Addr) (zf : Int32) (g : Nat → Int64) (s2 : Int32), fl = .ref b ∧ own_leaf Z h n0 b fw zf g s2 ∧ own_rel f g ∧ a ≠ b ∧ a ≠ fw ∧ w ≠ b ∧ w ≠ fw
def own_top (Z : State) (h : Heap) (n0 : Nat) (a w : Addr) (z : Int32) (f : Nat → Int64) (sz : Int32) (fl : Value) : Prop :=
  Exa Z h a "com/example/berchta/berchta/learn/NodeSet" ∧ Fld Z h a "com/example/berchta/berchta/learn/NodeSet" "words" "[J" (.ref w) ∧ Fld Z h a "com/example/berchta/berchta/learn/NodeSet" "filled" "Lcom/example/berchta/berchta/learn/NodeSet;" fl ∧ Fld Z h a "com/example/berchta/berchta/learn/NodeSet" "size" "I" (.int sz) ∧ own_wds Z h w z f ∧ (¬ z < 1 ∧ ¬ (254 : Int32) < z) ∧ (∀ i, z.toNatClampNeg ≤ i → f i = 0) ∧ (∀ i, 128 ≤ i → f i = 0) ∧ n0 ≤ a ∧ n0 ≤ w ∧ a ≠ w ∧ own_fil Z h n0 a w z f fl
section Heaps2
variable {Z : State} {h h' : Heap} {n0 : Nat} {a b w fw x : Addr} {z zf s2 : Int32} {f g : Nat → Int64} {sl : Nat} {v fl : Value} {ws : List Addr}
theorem own_leaf.other (F : own_leaf Z h n0 b fw zf g s2) (W : Wr h h' x sl v) (q1 : b ≠ x) (q2 : fw ≠ x) : own_leaf Z h' n0 b fw zf g s2 := by
  obtain ⟨h1, h2, h3, h4, h5, r⟩ := F
  exact ⟨h1.wr W, h2.other W (Or.inl q1), h3.other W (Or.inl q1), h4.other W (Or.inl q1), h5.other W q2, r⟩
theorem own_leaf.keep (F : own_leaf Z h n0 b fw zf g s2) (K : Keep h h' ws) (q1 : b ∉ ws) (q2 : fw ∉ ws) : own_leaf Z h' n0 b fw zf g s2 := by
  obtain ⟨h1, h2, h3, h4, h5, r⟩ := F
  exact ⟨h1.keep K, h2.keep K q1, h3.keep K q1, h4.keep K q1, h5.keep K q2, r⟩
theorem own_leaf.ext (F : own_leaf Z h n0 b fw zf g s2) (E : Ext h h') : own_leaf Z h' n0 b fw zf g s2 := by
  obtain ⟨h1, h2, h3, h4, h5, r⟩ := F
  exact ⟨h1.ext E, h2.ext E, h3.ext E, h4.ext E, h5.ext E, r⟩
theorem own_fil.wr (F : own_fil Z h n0 a w z f fl) (W : Wr h h' x sl v) (q : x = a ∨ x = w) : own_fil Z h' n0 a w z f fl := by
  rcases F with F | ⟨b, fw, zf, g, s2, e, L, r, n1, n2, n3, n4⟩
  · exact Or.inl F
  · refine Or.inr ⟨b, fw, zf, g, s2, e, L.other W ?_ ?_, r, n1, n2, n3, n4⟩
    · rcases q with rfl | rfl <;> first | exact fun c => n1 c.symm | exact fun c => n3 c.symm
    · rcases q with rfl | rfl <;> first | exact fun c => n2 c.symm | exact fun c => n4 c.symm
theorem own_fil.ext (F : own_fil Z h n0 a w z f fl) (E : Ext h h') : own_fil Z h' n0 a w z f fl := by
  rcases F with F | ⟨b, fw, zf, g, s2, e, L, r⟩
  · exact Or.inl F
  · exact Or.inr ⟨b, fw, zf, g, s2, e, L.ext E, r⟩
theorem own_fil.keep0 (F : own_fil Z h n0 a w z f fl) (K : Keep h h' []) : own_fil Z h' n0 a w z f fl := by
  rcases F with F | ⟨b, fw, zf, g, s2, e, L, r⟩
  · exact Or.inl F
  · exact Or.inr ⟨b, fw, zf, g, s2, e, L.keep K List.not_mem_nil List.not_mem_nil, r⟩
/-- the same words hold a node -/
theorem own_fil_same {f' : Nat → Int64} (F : own_fil Z h n0 a w z f fl) (e : ∀ i, f' i = 0 ↔ f i = 0) : own_fil Z h n0 a w z f' fl := by
  rcases F with F | ⟨b, fw, zf, g, s2, c, L, r, n⟩
  · exact Or.inl F
  · exact Or.inr ⟨b, fw, zf, g, s2, c, L, fun j p q => by rw [r j p q]; simp [e], n⟩
/-- another array, fresh, or a length more -/
theorem own_fil_move {w' : Addr} {z' : Int32} (F : own_fil Z h n0 a w z f fl) (q : h.size ≤ w') (c : fl = .null → ¬ (64 : Int32) < z') : own_fil Z h n0 a w' z' f fl := by
  rcases F with F | ⟨b, fw, zf, g, s2, e, L, r, n1, n2, -, -⟩
  · exact Or.inl ⟨F.1, c F.1⟩
  · have l1 := L.1.lt; have l2 := L.2.2.2.2.1.lt
    exact Or.inr ⟨b, fw, zf, g, s2, e, L, r, n1, n2, Nat.ne_of_gt (Nat.lt_of_lt_of_le l1 q), Nat.ne_of_gt (Nat.lt_of_lt_of_le l2 q)⟩
end Heaps2
def own_gst (Z : State) (h : Heap) (n0 : Nat) (a w : Addr) (N : Int32) (f : Nat → Int64) (sz : Int32) (b fw : Addr) (zf : Int32) (g : Nat → Int64) (s2 : Int32) : Prop :=
  Exa Z h a "com/example/berchta/berchta/learn/NodeSet" ∧ Fld Z h a "com/example/berchta/berchta/learn/NodeSet" "words" "[J" (.ref w) ∧ Fld Z h a "com/example/berchta/berchta/learn/NodeSet" "filled" "Lcom/example/berchta/berchta/learn/NodeSet;" (.ref b) ∧ Fld Z h a "com/example/berchta/berchta/learn/NodeSet" "size" "I" (.int sz) ∧ own_wds Z h w N f ∧ own_leaf Z h n0 b fw zf g s2 ∧ a ≠ b ∧ a ≠ fw ∧ w ≠ b ∧ w ≠ fw
def own_relp (f g : Nat → Int64) (i : Int32) : Prop := ∀ j : Int32, ¬ j < 0 → j < 128 → own_mem g j = (!decide (f j.toNatClampNeg = 0) && (decide (i < 0) || decide (j < i)))
def own_held (f : Nat → Int64) (N i : Int32) : Prop := i < 0 ∨ (i < N ∧ ¬ f i.toNatClampNeg = 0)
theorem own_relp_done {f g : Nat → Int64} {i : Int32} (hc : i < 0) (h : own_relp f g i) : own_rel f g := fun j p q => by rw [h j p q]; simp [hc]
theorem own_held_zero {f : Nat → Int64} {N i : Int32} (h : own_held f N i) (hk : i < 0 ∨ N.toInt - i.toInt ≤ (0 : Nat)) : i < 0 := by
  rcases h with h | ⟨h, -⟩
  · exact h
  · rcases hk with q | q
    · exact q
    · rw [Int32.lt_iff_toInt_lt] at h; omega
theorem own_held_in {f : Nat → Int64} {N i : Int32} (hf : ∀ i, 128 ≤ i → f i = 0) (h : own_held f N i) (hc : ¬ i < 0) : ¬ i < 0 ∧ i < 128 ∧ i < N := by
  rcases h with h | ⟨h, q⟩
  · exact absurd h hc
  · refine ⟨hc, ?_, h⟩
    rw [Int32.lt_iff_toInt_lt, show (128 : Int32).toInt = 128 by decide]
    have : ¬ 128 ≤ i.toNatClampNeg := fun u => q (hf _ u)
    simp only [Int32.toNatClampNeg] at this; omega
theorem own_held_nf {f : Nat → Int64} {N i r : Int32} (h : own_nf f N i r) : own_held f N r := by
  rcases h with ⟨e, -⟩ | ⟨-, h2, h3, -⟩
  · exact Or.inl (by rw [e]; decide)
  · exact Or.inr ⟨h2, h3⟩
theorem own_nf_dec {f : Nat → Int64} {N i r : Int32} {k : Nat} (hi : ¬ i < 0) (hN : i < N) (hk : i < 0 ∨ N.toInt - i.toInt ≤ (k + 1 : Nat)) (h : own_nf f N (i + (1 : Int32)) r) : r < 0 ∨ N.toInt - r.toInt ≤ k := by
  have e := (own_succ hi hN).2.1
  have hk2 := hk.resolve_left hi
  rcases h with ⟨e1, -⟩ | ⟨h1, -, -, -⟩
  · exact Or.inl (by rw [e1]; decide)
  · rw [Int32.lt_iff_toInt_lt] at h1; exact Or.inr (by omega)
theorem own_tn {j : Int32} (h : ¬ j < 0) : (j.toNatClampNeg : Int) = j.toInt := by
  rw [Int32.lt_iff_toInt_lt, show (0 : Int32).toInt = 0 by decide] at h; simp only [Int32.toNatClampNeg]; omega
theorem own_relp_first {f : Nat → Int64} {N r : Int32} (hf : ∀ i, N.toNatClampNeg ≤ i → f i = 0) (h : own_nf f N 0 r) : own_relp f (fun _ => 0) r := fun j p q => by
  have z : own_mem (fun _ => 0) j = false := own_bt_zero _
  rw [z]
  by_cases c : f j.toNatClampNeg = 0
  · simp [c]
  · rcases h with ⟨e1, h⟩ | ⟨r0, -, -, h4⟩
    · exact absurd (if l : j.toNatClampNeg < N.toNatClampNeg then h _ (Nat.zero_le _) l else hf _ (by omega)) c
    · have l : ¬ j.toNatClampNeg < r.toNatClampNeg := fun l => c (h4 _ (Nat.zero_le _) l)
      have t1 := own_tn p; have t2 := own_tn r0
      have l2 : ¬ j < r := by rw [Int32.lt_iff_toInt_lt]; omega
      simp [r0, l2]
theorem own_relp_step {f g : Nat → Int64} {N i r : Int32} (hf : ∀ i, N.toNatClampNeg ≤ i → f i = 0) (hi : ¬ i < 0) (h128 : i < 128) (hN : i < N) (hh : own_held f N i) (hc : ¬ i < 0) (hr : own_relp f g i) (h : own_nf f N (i + (1 : Int32)) r) : own_relp f (own_add g i) r := fun j p q => by
  have fi : ¬ f i.toNatClampNeg = 0 := by rcases hh with z | z; exact absurd z hc; exact z.2
  obtain ⟨s1, s2, s3⟩ := own_succ hi hN
  have t1 := own_tn p; have t2 := own_tn hi
  rw [own_mem_add, hr j p q]
  by_cases e : j = i
  · subst e
    have : r < 0 ∨ j < r := by
      rcases h with ⟨e1, -⟩ | ⟨h1, -, -, -⟩
      · exact Or.inl (by rw [e1]; decide)
      · rw [Int32.lt_iff_toInt_lt] at h1; exact Or.inr (by rw [Int32.lt_iff_toInt_lt]; omega)
    simp [fi, this]
  · by_cases l : j < i
    · have : r < 0 ∨ j < r := by
        rcases h with ⟨e1, -⟩ | ⟨h1, -, -, -⟩
        · exact Or.inl (by rw [e1]; decide)
        · rw [Int32.lt_iff_toInt_lt] at h1 l; exact Or.inr (by rw [Int32.lt_iff_toInt_lt]; omega)
      simp [e, l, this]
    · have g : i.toInt + 1 ≤ j.toInt := by
        rw [Int32.lt_iff_toInt_lt] at l
        have : ¬ j.toInt = i.toInt := fun u => e (Int32.toInt_inj.mp u)
        omega
      by_cases c : f j.toNatClampNeg = 0
      · simp [e, c]
      · have : ¬ (r < 0 ∨ j < r) := by
          rcases h with ⟨e1, h⟩ | ⟨h1, -, -, h4⟩
          · exact absurd (if l : j.toNatClampNeg < N.toNatClampNeg then h _ (by omega) l else hf _ (by omega)) c
          · rw [Int32.lt_iff_toInt_lt] at h1
            have r0 : ¬ r < 0 := by rw [Int32.lt_iff_toInt_lt, show (0 : Int32).toInt = 0 by decide]; omega
            have t3 := own_tn r0
            rintro (u | u)
            · exact r0 u
            · rw [Int32.lt_iff_toInt_lt] at u
              exact c (h4 _ (by omega) (by omega))
        simp only [not_or] at this
        simp [e, l, hc, this.1, this.2]
theorem own_gcase {zf i : Int32} {cc ss : Nat} (hz : zf = 1 ∨ zf = 2) (hi : ¬ i < 0 ∧ i < 128) (hcc : zf = 1 ∧ cc = 3 ∧ ss = 258 ∨ zf = 2 ∧ cc = 4 ∧ ss = 260) :
    ∃ cq sq : Nat, (¬ own_wd i < zf → 1 ≤ cq ∧ 2 ≤ sq) ∧ cc + cq ≤ 4 ∧ ss + sq ≤ 260 ∧ ∀ z' : Int32, (z' = 1 ∨ z' = 2) → (own_wd i < zf → z' = zf) → own_wd i < z' → (z' = 1 ∧ cc + cq = 3 ∧ ss + sq = 258 ∨ z' = 2 ∧ cc + cq = 4 ∧ ss + sq = 260) := by
  by_cases c : own_wd i < zf
  · exact ⟨0, 0, fun q => absurd c q, by omega, by omega, fun z' _ e _ => by rw [e c]; exact hcc⟩
  · obtain ⟨e1, e2⟩ := own_leaf_grow hz hi c
    subst e1
    have hcc2 : cc = 3 ∧ ss = 258 := by
      rcases hcc with h | h
      · exact h.2
      · exact absurd h.1 (by decide)
    refine ⟨1, 2, fun _ => ⟨Nat.le_refl _, Nat.le_refl _⟩, by omega, by omega, fun z' hz' _ hl => Or.inr ⟨?_, by omega, by omega⟩⟩
    rcases hz' with rfl | rfl
    · rw [e2] at hl; exact absurd hl (by decide)
    · rfl
theorem own_ne_new {a fw fw' : Addr} {h : Heap} (n : a ≠ fw) (l : a < h.size) (q : fw' = fw ∨ h.size ≤ fw') : a ≠ fw' := by
  rcases q with rfl | q
  · exact n
  · exact Nat.ne_of_lt (Nat.lt_of_lt_of_le l q)
theorem own_pos1 {z : Int32} (h : ¬ z < 1) : ¬ z < 0 := by
  rw [Int32.lt_iff_toInt_lt] at h ⊢; rw [show (1 : Int32).toInt = 1 by decide] at h; rw [show (0 : Int32).toInt = 0 by decide]; omega
theorem own_grow_n {z p : Int32} (hz : ¬ z < 1 ∧ ¬ (254 : Int32) < z) (hj : ¬ p < z ∧ p < 128) : z < own_max ((2 : Int32) * z) (p + (1 : Int32)) ∧ ¬ own_max ((2 : Int32) * z) (p + (1 : Int32)) < 0 ∧ (own_max ((2 : Int32) * z) (p + (1 : Int32))).toNatClampNeg ≤ 254 ∧ p < own_max ((2 : Int32) * z) (p + (1 : Int32)) ∧ ¬ own_max ((2 : Int32) * z) (p + (1 : Int32)) < 1 ∧ ¬ (254 : Int32) < own_max ((2 : Int32) * z) (p + (1 : Int32)) := by
  obtain ⟨h1, -⟩ := hz
  obtain ⟨h2, h3⟩ := hj
  have c0 : (0 : Int32).toInt = 0 := by decide
  have c1 : (1 : Int32).toInt = 1 := by decide
  have c2 : (254 : Int32).toInt = 254 := by decide
  rw [Int32.lt_iff_toInt_lt, c1] at h1
  rw [Int32.lt_iff_toInt_lt] at h2
  rw [Int32.lt_iff_toInt_lt, show (128 : Int32).toInt = 128 by decide] at h3
  have e1 : ((2 : Int32) * z).toInt = 2 * z.toInt := by
    rw [Int32.toInt_mul, show (2 : Int32).toInt = 2 by decide]; exact Int.bmod_eq_of_le (by omega) (by omega)
  have e2 : (p + (1 : Int32)).toInt = p.toInt + 1 := by
    rw [Int32.toInt_add, c1]; exact Int.bmod_eq_of_le (by omega) (by omega)
  have e3 : ∃ n : Int, (own_max ((2 : Int32) * z) (p + (1 : Int32))).toInt = n ∧ z.toInt < n ∧ p.toInt < n ∧ n ≤ 254 := by
    unfold own_max; split
    · next q => rw [Int32.lt_iff_toInt_lt, e1, e2] at q; exact ⟨_, e2, by omega, by omega, by omega⟩
    · next q => rw [Int32.lt_iff_toInt_lt, e1, e2] at q; exact ⟨_, e1, by omega, by omega, by omega⟩
  obtain ⟨n, e, q1, q2, q3⟩ := e3
  simp only [Int32.lt_iff_toInt_lt, Int32.toNatClampNeg, e, c0, c1, c2]
  omega
theorem own_wd_128 {p : Int32} (hp : ¬ p < 0 ∧ p < 8192) : own_wd p < 128 := by
  have e := own_wd_int p
  obtain ⟨h0, h1⟩ := hp
  rw [Int32.lt_iff_toInt_lt, show (0 : Int32).toInt = 0 by decide] at h0
  rw [Int32.lt_iff_toInt_lt, show (8192 : Int32).toInt = 8192 by decide] at h1
  have e2 : p.toInt = (p.toBitVec.toNat : Int) := by
    have : p.toInt = p.toBitVec.toInt := rfl
    rw [this, BitVec.toInt_eq_toNat_cond] at h0 h1 ⊢
    split at h0 <;> omega
  rw [Int32.lt_iff_toInt_lt, e, show (128 : Int32).toInt = 128 by decide]; omega
theorem own_wd_nz {f : Nat → Int64} {p : Int32} (hf : ∀ i, 128 ≤ i → f i = 0) (h : own_bt (f (own_ix p)) (own_lo p) = true) : own_wd p < 128 := by
  have : ¬ 128 ≤ own_ix p := fun q => by rw [hf _ q, own_bt_zero] at h; cases h
  have t := own_tn (own_wd_pos p)
  have : ¬ 128 ≤ (own_wd p).toNatClampNeg := this
  rw [Int32.lt_iff_toInt_lt, show (128 : Int32).toInt = 128 by decide]; omega
theorem own_or_nz (v : Int64) (p : Int32) : ¬ v ||| own_bo p = 0 := fun q => by
  have := own_bt_or v (own_bo p) (own_lo p)
  rw [q, own_bt_zero, own_bt_bo] at this; simp at this
theorem own_add_zero {f : Nat → Int64} {p : Int32} (h : ¬ f (own_ix p) = 0) : ∀ i, own_add f p i = 0 ↔ f i = 0 := fun i => by
  unfold own_add own_upd; split
  · next e => rw [e]; exact ⟨fun q => absurd q (own_or_nz _ _), fun q => absurd q h⟩
  · exact Iff.rfl
theorem own_rem_zero {f : Nat → Int64} {p : Int32} (h : ¬ f (own_ix p) &&& (own_bo p ^^^ (-1 : Int64)) = 0) : ∀ i, own_rem f p i = 0 ↔ f i = 0 := fun i => by
  unfold own_rem own_upd; split
  · next e => rw [e]; exact ⟨fun q => absurd q h, fun q => by rw [q]; exact Int64.zero_and⟩
  · exact Iff.rfl
theorem own_tn_inj {j : Int32} {p : Int32} (hj : ¬ j < 0) (e : j.toNatClampNeg = own_ix p) : j = own_wd p := by
  have t1 := own_tn hj; have t2 := own_tn (own_wd_pos p)
  have : (own_wd p).toNatClampNeg = own_ix p := rfl
  exact Int32.toInt_inj.mp (by omega)
theorem own_rel_add {f g : Nat → Int64} {p : Int32} (r : own_rel f g) (h : f (own_ix p) = 0) : own_rel (own_add f p) (own_add g (own_wd p)) := fun j a b => by
  rw [own_mem_add, r j a b]
  by_cases e : j = own_wd p
  · subst e
    have : ¬ own_add f p (own_wd p).toNatClampNeg = 0 := by
      show ¬ own_upd f (own_ix p) _ (own_ix p) = 0
      unfold own_upd; rw [if_pos rfl]; exact own_or_nz _ _
    simp [this]
  · have : own_add f p j.toNatClampNeg = f j.toNatClampNeg := by
      unfold own_add own_upd; rw [if_neg fun q => e (own_tn_inj a q)]
    simp [this, e]
theorem own_rel_rem {f g : Nat → Int64} {p : Int32} (r : own_rel f g) (h : f (own_ix p) &&& (own_bo p ^^^ (-1 : Int64)) = 0) : own_rel (own_rem f p) (own_rem g (own_wd p)) := fun j a b => by
  rw [own_mem_rem, r j a b]
  by_cases e : j = own_wd p
  · subst e
    have : own_rem f p (own_wd p).toNatClampNeg = 0 := by
      show own_upd f (own_ix p) _ (own_ix p) = 0
      unfold own_upd; rw [if_pos rfl]; exact h
    simp [this]
  · have : own_rem f p j.toNatClampNeg = f j.toNatClampNeg := by
      unfold own_rem own_upd; rw [if_neg fun q => e (own_tn_inj a q)]
    simp [this, e]
def own_us (x k : Int32) : Int32 := ((x.toUInt32 >>> (k &&& 31).toUInt32).toInt32)
def own_i0 (a : Int32) : Int32 := (a ^^^ (-1 : Int32)) &&& (a - (1 : Int32))
def own_c1 (i : Int32) : Int32 := if (65536 : Int32) < i then own_us i 16 else i
def own_n1 (i : Int32) : Int32 := if (65536 : Int32) < i then (1 : Int32) + (16 : Int32) else (1 : Int32)
def own_c2 (i : Int32) : Int32 := if (256 : Int32) < own_c1 i then own_us (own_c1 i) 8 else own_c1 i
def own_n2 (i : Int32) : Int32 := if (256 : Int32) < own_c1 i then own_n1 i + (8 : Int32) else own_n1 i
def own_c3 (i : Int32) : Int32 := if (16 : Int32) < own_c2 i then own_us (own_c2 i) 4 else own_c2 i
def own_n3 (i : Int32) : Int32 := if (16 : Int32) < own_c2 i then own_n2 i + (4 : Int32) else own_n2 i
def own_c4 (i : Int32) : Int32 := if (4 : Int32) < own_c3 i then own_us (own_c3 i) 2 else own_c3 i
def own_n4 (i : Int32) : Int32 := if (4 : Int32) < own_c3 i then own_n3 i + (2 : Int32) else own_n3 i
def own_tI (i : Int32) : Int32 := if (0 : Int32) < i then own_n4 i + own_us (own_c4 i) 1 else i &&& (32 : Int32)
def own_ctzI (a : Int32) : Int32 := own_tI (own_i0 a)
def own_hi (v : Int64) : Int32 := ((v.toUInt64 >>> ((32 : Int32) &&& 0x3f).toInt64.toUInt64).toInt64).toInt32
def own_ctz (v : Int64) : Int32 := if v.toInt32 = (0 : Int32) then (32 : Int32) + own_ctzI (own_hi v) else own_ctzI v.toInt32
theorem own_tI_pow : ∀ k : Fin 32, (own_tI (Int32.ofBitVec (BitVec.ofNat 32 (2 ^ k.val - 1)))).toInt = k.val := by decide +kernel
theorem own_pow1 : ∀ k : Fin 32, (1#32 <<< k.val) = BitVec.ofNat 32 (2 ^ k.val - 1) + 1#32 := by decide +kernel
theorem own_powb : ∀ k i : Fin 32, (BitVec.ofNat 32 (2 ^ k.val - 1)).getLsbD i.val = decide (i.val < k.val) := by decide +kernel
theorem own_low (a : BitVec 32) (k : Nat) (hk : k < 32) (h1 : a.getLsbD k = true) (h2 : ∀ j, j < k → a.getLsbD j = false) : (a ^^^ BitVec.allOnes 32) &&& (a - 1#32) = BitVec.ofNat 32 (2 ^ k - 1) := by
  let p : BitVec 32 := 1#32 <<< k
  let m : BitVec 32 := BitVec.ofNat 32 (2 ^ k - 1)
  let c : BitVec 32 := a ^^^ p
  have pb : ∀ i, i < 32 → p.getLsbD i = decide (i = k) := fun i hi => by
    show (1#32 <<< k).getLsbD i = _
    rw [BitVec.getLsbD_shiftLeft]
    by_cases e : i = k
    · subst e; simp [hi]
    · by_cases l : i < k
      · simp [l, e]
      · have : i - k ≠ 0 := by omega
        simp [e, BitVec.getLsbD_one, this]
  have mb : ∀ i, i < 32 → m.getLsbD i = decide (i < k) := fun i hi => own_powb ⟨k, hk⟩ ⟨i, hi⟩
  have cb : ∀ i, i < 32 → c.getLsbD i = (a.getLsbD i && decide (k < i)) := fun i hi => by
    show (a ^^^ p).getLsbD i = _
    rw [BitVec.getLsbD_xor, pb i hi]
    by_cases e : i = k
    · subst e; simp [h1]
    · by_cases l : i < k
      · simp [e, h2 i l]
      · have : k < i := by omega
        simp [e, this]
  have d1 : c &&& p = 0#32 := by
    apply BitVec.eq_of_getLsbD_eq; intro i hi
    rw [BitVec.getLsbD_and, cb i hi, pb i hi]
    by_cases e : i = k
    · subst e; simp
    · simp [e]
  have d2 : c &&& m = 0#32 := by
    apply BitVec.eq_of_getLsbD_eq; intro i hi
    rw [BitVec.getLsbD_and, cb i hi, mb i hi]
    by_cases e : i < k
    · have : ¬ k < i := by omega
      simp [e, this]
    · simp [e]
  have e1 : a = c + p := by
    rw [BitVec.add_eq_or_of_and_eq_zero _ _ d1]
    apply BitVec.eq_of_getLsbD_eq; intro i hi
    rw [BitVec.getLsbD_or, cb i hi, pb i hi]
    by_cases e : i = k
    · subst e; simp [h1]
    · by_cases l : i < k
      · simp [e, h2 i l]
      · have : k < i := by omega
        simp [e, this]
  have e2 : a - 1#32 = c ||| m := by
    rw [← BitVec.add_eq_or_of_and_eq_zero _ _ d2]
    have : p = m + 1#32 := own_pow1 ⟨k, hk⟩
    rw [this, ← BitVec.add_assoc] at e1
    calc a - 1#32 = (c + m + 1#32) - 1#32 := congrArg (· - 1#32) e1
      _ = c + m := BitVec.add_sub_cancel _ _
  rw [e2]
  apply BitVec.eq_of_getLsbD_eq; intro i hi
  show _ = m.getLsbD i
  rw [BitVec.getLsbD_and, BitVec.getLsbD_xor, BitVec.getLsbD_or, cb i hi, mb i hi, BitVec.getLsbD_allOnes]
  by_cases e : i = k
  · subst e; simp [h1]
  · by_cases l : i < k
    · rw [h2 i l]; simp [l, hi]
    · have : k < i := by omega
      simp [l, this, hi]
theorem own_ctzI_eq (a : Int32) (k : Nat) (hk : k < 32) (h1 : a.toBitVec.getLsbD k = true) (h2 : ∀ j, j < k → a.toBitVec.getLsbD j = false) : (own_ctzI a).toInt = k := by
  have e : own_i0 a = Int32.ofBitVec (BitVec.ofNat 32 (2 ^ k - 1)) := by
    apply Int32.toBitVec_inj.mp
    show (a.toBitVec ^^^ (-1 : Int32).toBitVec) &&& (a.toBitVec - (1 : Int32).toBitVec) = _
    rw [show (-1 : Int32).toBitVec = BitVec.allOnes 32 by decide]
    exact own_low _ k hk h1 h2
  unfold own_ctzI; rw [e]; exact own_tI_pow ⟨k, hk⟩
theorem own_first (P : Nat → Bool) (n : Nat) (h : ∃ k, k < n ∧ P k = true) : ∃ k, k < n ∧ P k = true ∧ ∀ j, j < k → P j = false := by
  induction n with
  | zero => obtain ⟨k, q, -⟩ := h; omega
  | succ n ih =>
    by_cases c : ∃ k, k < n ∧ P k = true
    · obtain ⟨k, q1, q2, q3⟩ := ih c; exact ⟨k, by omega, q2, q3⟩
    · obtain ⟨k, q1, q2⟩ := h
      have : k = n := by
        by_cases l : k < n
        · exact absurd ⟨k, l, q2⟩ c
        · omega
      subst this
      refine ⟨k, q1, q2, fun j l => ?_⟩
      cases e : P j
      · rfl
      · exact absurd ⟨j, l, e⟩ c
theorem own_nz_bit {v : Int64} (h : ¬ v = 0) : ∃ k, k < 64 ∧ own_bt v k = true := by
  by_cases c : ∃ k, k < 64 ∧ own_bt v k = true
  · exact c
  · refine absurd (own_ext fun k hk => ?_) h
    rw [own_bt_zero]
    cases e : own_bt v k
    · rfl
    · exact absurd ⟨k, hk, e⟩ c
theorem own_lo32 (v : Int64) (i : Nat) : v.toInt32.toBitVec.getLsbD i = (decide (i < 32) && own_bt v i) := by
  show (v.toBitVec.signExtend 32).getLsbD i = _
  rw [BitVec.signExtend_eq_setWidth_of_le _ (by decide), BitVec.getLsbD_setWidth]; rfl
theorem own_hi32 (v : Int64) (i : Nat) : (own_hi v).toBitVec.getLsbD i = (decide (i < 32) && own_bt v (32 + i)) := by
  unfold own_hi
  rw [own_lo32]
  show (_ && (v.toBitVec >>> (((32 : Int32) &&& 0x3f).toInt64.toUInt64.toBitVec % 64#64)).getLsbD i) = _
  rw [show (((32 : Int32) &&& 0x3f).toInt64.toUInt64.toBitVec % 64#64) = 32#64 by decide, BitVec.ushiftRight_eq', BitVec.getLsbD_ushiftRight]; rfl
theorem own_ctz_eq {v : Int64} (h : ¬ v = 0) : ∃ k, k < 64 ∧ own_bt v k = true ∧ (∀ j, j < k → own_bt v j = false) ∧ (own_ctz v).toInt = k := by
  obtain ⟨k, q1, q2, q3⟩ := own_first _ _ (own_nz_bit h)
  refine ⟨k, q1, q2, q3, ?_⟩
  unfold own_ctz
  by_cases c : v.toInt32 = (0 : Int32)
  · rw [if_pos c]
    have k32 : 32 ≤ k := by
      by_cases l : k < 32
      · have := own_lo32 v k
        rw [c, q2] at this; simp [l] at this
      · omega
    have e := own_ctzI_eq (own_hi v) (k - 32) (by omega) (by rw [own_hi32, show 32 + (k - 32) = k by omega, q2]; simp; omega) (fun j l => by rw [own_hi32, q3 _ (by omega)]; simp)
    rw [Int32.toInt_add, e, show (32 : Int32).toInt = 32 by decide, Int.bmod_eq_of_le (by omega) (by omega)]; omega
  · rw [if_neg c]
    have k32 : k < 32 := by
      by_cases l : k < 32
      · exact l
      · refine absurd (Int32.toBitVec_inj.mp (BitVec.eq_of_getLsbD_eq fun i hi => ?_)) c
        rw [own_lo32, q3 i (by omega)]; simp
    exact own_ctzI_eq _ k k32 (by rw [own_lo32, q2]; simp [k32]) (fun j l => by rw [own_lo32, q3 j l]; simp)
def own_rs (f : Nat → Int64) (p : Int32) : Int64 := f (own_ix p) &&& ((-1 : Int64) <<< (p &&& 0x3f).toInt64)
theorem own_bt_m1 (p : Int32) (k : Nat) (hk : k < 64) : own_bt ((-1 : Int64) <<< (p &&& 0x3f).toInt64) k = decide (own_lo p ≤ k) := by
  have h := sm64 p (own_lo p) rfl
  unfold own_bt
  show ((-1 : Int64).toBitVec <<< ((p &&& 0x3f).toInt64.toBitVec.smod 64)).getLsbD k = _
  rw [h.1, BitVec.shiftLeft_eq', smod64 _ h.2, show (-1 : Int64).toBitVec = BitVec.allOnes 64 by decide, BitVec.getLsbD_shiftLeft, BitVec.getLsbD_allOnes]
  by_cases l : own_lo p ≤ k
  · have : ¬ k < own_lo p := by omega
    have : k - own_lo p < 64 := by omega
    simp [*]
  · have : k < own_lo p := by omega
    simp [*]
def own_lst (f : Nat → Int64) (B : Int) (r : Int32) : Prop := (r = -1 ∧ ∀ j : Int32, B ≤ j.toInt → own_mem f j = false) ∨ (B ≤ r.toInt ∧ own_mem f r = true ∧ ∀ j : Int32, B ≤ j.toInt → j.toInt < r.toInt → own_mem f j = false)
def own_af (f : Nat → Int64) (r : Int32) : Prop := (r = -1 ∧ ∀ j : Nat, 1 ≤ j → f j = 0) ∨ (1 ≤ r.toInt ∧ r.toInt < 256 ∧ ¬ f r.toNatClampNeg = 0 ∧ ∀ j : Nat, 1 ≤ j → j < r.toNatClampNeg → f j = 0)
def own_cat (a k : Int32) : Int32 := (a <<< ((6 : Int32) &&& 31)) ||| k
theorem own_cat_int {a k : Int32} (h0 : 0 ≤ a.toInt) (h1 : a.toInt < 256) (k0 : 0 ≤ k.toInt) (k1 : k.toInt < 64) : (own_cat a k).toInt = a.toInt * 64 + k.toInt := by
  unfold own_cat
  rw [shlm (m := 64) (by decide)]
  have e : (a * 64).toInt = a.toInt * 64 := by
    rw [Int32.toInt_mul, show (64 : Int32).toInt = 64 by decide]; exact Int.bmod_eq_of_le (by omega) (by omega)
  have c := c_or (a * 64) k 6 (by decide) 64 (by decide) (by rw [e]; omega) k0 k1
  have b1 := Int32.le_toInt (a * 64 ||| k); have b2 := Int32.toInt_lt (a * 64 ||| k)
  rw [e] at c; omega
theorem own_pos {j : Int32} (h : 0 ≤ j.toInt) : j.toInt = (j.toBitVec.toNat : Int) := by
  have : j.toInt = j.toBitVec.toInt := rfl
  rw [this, BitVec.toInt_eq_toNat_cond] at h ⊢
  have := j.toBitVec.isLt
  split at h <;> split <;> omega
theorem own_j {j : Int32} (h : 0 ≤ j.toInt) : j.toInt = (own_ix j : Int) * 64 + own_lo j ∧ own_lo j < 64 := by
  have e := own_pos h
  rw [own_ix_eq]; unfold own_lo; omega
theorem own_ixlo {r : Int32} {a k : Nat} (h : r.toInt = (a : Int) * 64 + k) (hk : k < 64) : own_ix r = a ∧ own_lo r = k := by
  have := own_j (j := r) (by omega)
  omega
theorem own_wd0 {p : Int32} (h0 : 0 ≤ p.toInt) (h1 : p.toInt < 64) : own_wd p = 0 ∧ own_ix p = 0 ∧ (own_lo p : Int) = p.toInt := by
  have e := own_pos h0
  have e2 := own_wd_int p
  refine ⟨Int32.toInt_inj.mp ?_, ?_, ?_⟩
  · rw [e2]; show _ = (0 : Int); omega
  · rw [own_ix_eq]; omega
  · unfold own_lo; omega
theorem own_bt_rs (f : Nat → Int64) {p : Int32} (h0 : 0 ≤ p.toInt) (h1 : p.toInt < 64) (k : Nat) (hk : k < 64) : own_bt (own_rs f p) k = (own_bt (f 0) k && decide (p.toInt ≤ k)) := by
  obtain ⟨-, e1, e2⟩ := own_wd0 h0 h1
  unfold own_rs
  rw [own_bt_and, own_bt_m1 p k hk, e1]
  congr 1
  by_cases c : own_lo p ≤ k
  · have : p.toInt ≤ k := by omega
    simp [c, this]
  · have : ¬ p.toInt ≤ k := by omega
    simp [c, this]
theorem own_lst_lo {f : Nat → Int64} {p : Int32} (h0 : 0 ≤ p.toInt) (h1 : p.toInt < 64) (h : ¬ own_rs f p = 0) : own_lst f p.toInt (own_cat (own_wd p) (own_ctz (own_rs f p))) := by
  obtain ⟨k, q1, q2, q3, q4⟩ := own_ctz_eq h
  obtain ⟨w0, -, -⟩ := own_wd0 h0 h1
  have e : (own_cat (own_wd p) (own_ctz (own_rs f p))).toInt = ((0 : Nat) : Int) * 64 + k := by
    rw [w0, own_cat_int (by decide) (by decide) (by omega) (by omega), q4, show (0 : Int32).toInt = 0 by decide]; omega
  obtain ⟨i1, i2⟩ := own_ixlo e q1
  rw [own_bt_rs f h0 h1 k q1] at q2
  simp only [Bool.and_eq_true, decide_eq_true_eq] at q2
  refine Or.inr ⟨by omega, ?_, fun j a b => ?_⟩
  · unfold own_mem; rw [i1, i2]; exact q2.1
  · obtain ⟨j1, j2⟩ := own_j (j := j) (by omega)
    have jx : own_ix j = 0 := by omega
    have := q3 (own_lo j) (by omega)
    rw [own_bt_rs f h0 h1 _ j2] at this
    unfold own_mem; rw [jx]
    have l : p.toInt ≤ (own_lo j : Int) := by omega
    simpa [l] using this
theorem own_rs0 {f : Nat → Int64} {p : Int32} (h0 : 0 ≤ p.toInt) (h1 : p.toInt < 64) (h : own_rs f p = 0) (k : Nat) (hk : k < 64) (l : p.toInt ≤ k) : own_bt (f 0) k = false := by
  have := own_bt_rs f h0 h1 k hk
  rw [h, own_bt_zero] at this; simpa [l] using this.symm
theorem own_lst_none {f : Nat → Int64} {p r : Int32} (h0 : 0 ≤ p.toInt) (h1 : p.toInt < 64) (h : own_rs f p = 0) (af : own_af f r) (hr : r < 0) : own_lst f p.toInt (-1) := by
  rw [Int32.lt_iff_toInt_lt, show (0 : Int32).toInt = 0 by decide] at hr
  rcases af with ⟨-, a⟩ | ⟨a, -⟩
  · refine Or.inl ⟨rfl, fun j l => ?_⟩
    obtain ⟨j1, j2⟩ := own_j (j := j) (by omega)
    unfold own_mem
    by_cases c : own_ix j = 0
    · rw [c]; exact own_rs0 h0 h1 h _ j2 (by omega)
    · rw [a _ (by omega), own_bt_zero]
  · omega
theorem own_lst_hi {f : Nat → Int64} {p r : Int32} (h0 : 0 ≤ p.toInt) (h1 : p.toInt < 64) (h : own_rs f p = 0) (af : own_af f r) (hr : ¬ r < 0) : own_lst f p.toInt (own_cat r (own_ctz (f r.toNatClampNeg))) := by
  rcases af with ⟨a, -⟩ | ⟨a1, a2, a3, a4⟩
  · rw [a] at hr; exact absurd (by decide) hr
  · obtain ⟨k, q1, q2, q3, q4⟩ := own_ctz_eq a3
    have t := own_tn hr
    have e : (own_cat r (own_ctz (f r.toNatClampNeg))).toInt = (r.toNatClampNeg : Int) * 64 + k := by
      rw [own_cat_int (by omega) a2 (by omega) (by omega), q4]; omega
    obtain ⟨i1, i2⟩ := own_ixlo e q1
    refine Or.inr ⟨by omega, ?_, fun j a b => ?_⟩
    · unfold own_mem; rw [i1, i2]; exact q2
    · obtain ⟨j1, j2⟩ := own_j (j := j) (by omega)
      unfold own_mem
      by_cases c : own_ix j = 0
      · rw [c]; exact own_rs0 h0 h1 h _ j2 (by omega)
      · by_cases d : own_ix j < r.toNatClampNeg
        · rw [a4 _ (by omega) d, own_bt_zero]
        · have : own_ix j = r.toNatClampNeg := by omega
          rw [this]; exact q3 _ (by omega)
theorem own_af_nf {f : Nat → Int64} {p z r : Int32} (h0 : 0 ≤ p.toInt) (h1 : p.toInt < 64) (hf : ∀ i, z.toNatClampNeg ≤ i → f i = 0) (hz : ¬ (254 : Int32) < z) (h : own_nf f z (own_wd p + (1 : Int32)) r) : own_af f r := by
  rw [(own_wd0 h0 h1).1, show (0 : Int32) + (1 : Int32) = 1 by decide] at h
  have c1 : (1 : Int32).toNatClampNeg = 1 := rfl
  rw [Int32.lt_iff_toInt_lt, show (254 : Int32).toInt = 254 by decide] at hz
  rcases h with ⟨e, h⟩ | ⟨q1, q2, q3, q4⟩
  · exact Or.inl ⟨e, fun j l => if u : j < z.toNatClampNeg then h j (by omega) u else hf j (by omega)⟩
  · rw [Int32.lt_iff_toInt_lt, show (1 : Int32).toInt = 1 by decide] at q1
    rw [Int32.lt_iff_toInt_lt] at q2
    exact Or.inr ⟨by omega, by omega, q3, fun j l u => q4 j (by omega) u⟩
theorem own_af_leaf {f g : Nat → Int64} {zf r : Int32} (hf : ∀ i, 128 ≤ i → f i = 0) (rel : own_rel f g) (hz : zf = 1 ∨ zf = 2) (hg : ∀ i, zf.toNatClampNeg ≤ i → g i = 0) (h : own_lst g 1 r) : own_af f r := by
  have key : ∀ j : Nat, j < 128 → 1 ≤ j → (∀ x : Int32, x.toInt = j → own_mem g x = false) → f j = 0 := fun j l1 l2 q => by
    have e : (Int32.ofNat j).toInt = j := Int32.toInt_ofNat_of_lt (by omega)
    have m := q _ e
    rw [rel (Int32.ofNat j) (by rw [Int32.lt_iff_toInt_lt, e, show (0 : Int32).toInt = 0 by decide]; omega) (by rw [Int32.lt_iff_toInt_lt, e, show (128 : Int32).toInt = 128 by decide]; omega)] at m
    have e2 : (Int32.ofNat j).toNatClampNeg = j := by simp only [Int32.toNatClampNeg, e]; omega
    rw [e2] at m; simpa using m
  rcases h with ⟨e, h⟩ | ⟨q1, q2, q3⟩
  · refine Or.inl ⟨e, fun j l => ?_⟩
    by_cases u : j < 128
    · exact key j u l fun x hx => h x (by omega)
    · exact hf j (by omega)
  · obtain ⟨j1, j2⟩ := own_j (j := r) (by omega)
    have ix2 : own_ix r < 2 := by
      by_cases u : own_ix r < 2
      · exact u
      · unfold own_mem at q2
        rw [hg _ (by rcases hz with rfl | rfl; show 1 ≤ _; omega; show 2 ≤ _; omega), own_bt_zero] at q2
        cases q2
    have r0 : ¬ r < 0 := by rw [Int32.lt_iff_toInt_lt, show (0 : Int32).toInt = 0 by decide]; omega
    have t := own_tn r0
    rw [rel r r0 (by rw [Int32.lt_iff_toInt_lt, show (128 : Int32).toInt = 128 by decide]; omega)] at q2
    refine Or.inr ⟨q1, by omega, by simpa using q2, fun j l u => ?_⟩
    exact key j (by omega) l fun x hx => q3 x (by omega) (by omega)
def own_ls (x t m : Int32) : Int32 := if x = t then m else if m < 0 then x else if x < m then x else m
def own_least (x y z t : Int32) : Int32 := own_ls z t (own_ls y t (own_ls x t (-1)))
theorem own_fin {x y z t r : Int32} (hx : 0 ≤ x.toInt) (hy : 0 ≤ y.toInt) (hz : 0 ≤ z.toInt) (h : own_lst (own_rem (own_add (own_add (own_add (fun _ => 0) x) y) z) t) 0 r) : r = own_least x y z t := by
  have mem : ∀ j, own_mem (own_rem (own_add (own_add (own_add (fun _ => 0) x) y) z) t) j = true ↔ (j = x ∨ j = y ∨ j = z) ∧ ¬ j = t := fun j => by
    rw [own_mem_rem, own_mem_add, own_mem_add, own_mem_add, show own_mem (fun _ => 0) j = false from own_bt_zero _]
    simp [or_assoc]
  have memf : ∀ j, own_mem (own_rem (own_add (own_add (own_add (fun _ => 0) x) y) z) t) j = false ↔ ¬ ((j = x ∨ j = y ∨ j = z) ∧ ¬ j = t) := fun j => by
    rw [← mem j]; simp
  have m1 : (-1 : Int32).toInt = -1 := by decide
  have z0 : (0 : Int32).toInt = 0 := by decide
  have inj : ∀ {a b : Int32}, a.toInt = b.toInt → a = b := fun q => Int32.toInt_inj.mp q
  -- what 'least' says
  have L : (own_least x y z t = -1 ∧ x = t ∧ y = t ∧ z = t) ∨ (((own_least x y z t = x ∧ ¬ x = t) ∨ (own_least x y z t = y ∧ ¬ y = t) ∨ (own_least x y z t = z ∧ ¬ z = t)) ∧ (¬ x = t → (own_least x y z t).toInt ≤ x.toInt) ∧ (¬ y = t → (own_least x y z t).toInt ≤ y.toInt) ∧ (¬ z = t → (own_least x y z t).toInt ≤ z.toInt)) := by
    unfold own_least own_ls
    simp only [Int32.lt_iff_toInt_lt, z0]
    by_cases a : x = t <;> by_cases b : y = t <;> by_cases c : z = t <;> simp only [a, b, c, if_true, if_false, m1] <;> (repeat' split) <;> simp_all <;> omega
  rcases h with ⟨e, h⟩ | ⟨q1, q2, q3⟩
  · rcases L with ⟨l, -⟩ | ⟨l, -⟩
    · rw [e, l]
    · rcases l with ⟨-, n⟩ | ⟨-, n⟩ | ⟨-, n⟩
      · exact absurd ⟨Or.inl rfl, n⟩ ((memf x).mp (h x hx))
      · exact absurd ⟨Or.inr (Or.inl rfl), n⟩ ((memf y).mp (h y hy))
      · exact absurd ⟨Or.inr (Or.inr rfl), n⟩ ((memf z).mp (h z hz))
  · obtain ⟨o, nt⟩ := (mem r).mp q2
    rcases L with ⟨-, e1, e2, e3⟩ | ⟨l, l1, l2, l3⟩
    · rcases o with rfl | rfl | rfl
      · exact absurd e1 nt
      · exact absurd e2 nt
      · exact absurd e3 nt
    · have le1 : (own_least x y z t).toInt ≤ r.toInt := by
        rcases o with rfl | rfl | rfl
        · exact l1 nt
        · exact l2 nt
        · exact l3 nt
      have le2 : r.toInt ≤ (own_least x y z t).toInt := by
        have g : ∀ u : Int32, 0 ≤ u.toInt → (u = x ∨ u = y ∨ u = z) → ¬ u = t → r.toInt ≤ u.toInt := fun u u0 uo ut => by
          by_cases c : u.toInt < r.toInt
          · exact absurd ⟨uo, ut⟩ ((memf u).mp (q3 u u0 c))
          · omega
        rcases l with ⟨e, n⟩ | ⟨e, n⟩ | ⟨e, n⟩
        · rw [e]; exact g x hx (Or.inl rfl) n
        · rw [e]; exact g y hy (Or.inr (Or.inl rfl)) n
        · rw [e]; exact g z hz (Or.inr (Or.inr rfl)) n
      exact inj (by omega)
def own_emp (s : Int32) : Int32 := if s = (0 : Int32) then 1 else 0
theorem own_lt01 {z : Int32} (h : ¬ z < 1) : (0 : Int32) < z := by
  rw [Int32.lt_iff_toInt_lt, show (1 : Int32).toInt = 1 by decide] at h
  rw [Int32.lt_iff_toInt_lt, show (0 : Int32).toInt = 0 by decide]; omega
theorem own_af_lt {f : Nat → Int64} {z r : Int32} (h : own_af f r) (hf : ∀ i, z.toNatClampNeg ≤ i → f i = 0) (hr : ¬ r < 0) : r < z := by
  rcases h with ⟨e, -⟩ | ⟨-, -, q, -⟩
  · rw [e] at hr; exact absurd (by decide) hr
  · have : ¬ z.toNatClampNeg ≤ r.toNatClampNeg := fun u => q (hf _ u)
    have t := own_tn hr
    rw [Int32.lt_iff_toInt_lt]; simp only [Int32.toNatClampNeg] at this; omega
def own_em (x y z t : Int32) : Int32 := if x = t then (if y = t then (if z = t then 1 else 0) else 0) else 0
def own_ne (x t : Int32) : Int32 := if x = t then 0 else 1
theorem own_mem_z (p : Int32) : own_mem (fun _ => 0) p = false := own_bt_zero _
theorem own_has_t (f : Nat → Int64) (t : Int32) : own_has (own_rem f t) t = 0 := by
  unfold own_has; rw [own_mem_rem]; simp
theorem own_has_x {f : Nat → Int64} {x t : Int32} (h : own_mem f x = true) : own_has (own_rem f t) x = own_ne x t := by
  unfold own_has own_ne; rw [own_mem_rem, h]
  by_cases c : x = t <;> simp [c]
theorem own_size {x y z t s1 s2 s3 s4 : Int32} (h1 : s1 = if own_mem (fun _ => 0) x = true then 0 else 0 + (1 : Int32)) (h2 : s2 = if own_mem (own_add (fun _ => 0) x) y = true then s1 else s1 + (1 : Int32)) (h3 : s3 = if own_mem (own_add (own_add (fun _ => 0) x) y) z = true then s2 else s2 + (1 : Int32))
    (h4 : s4 = if own_mem (own_add (own_add (own_add (fun _ => 0) x) y) z) t = true then s3 - (1 : Int32) else s3) : own_emp s4 = own_em x y z t := by
  rw [own_mem_z, if_neg (by decide)] at h1
  rw [own_mem_add, own_mem_z] at h2
  rw [own_mem_add, own_mem_add, own_mem_z] at h3
  rw [own_mem_add, own_mem_add, own_mem_add, own_mem_z] at h4
  simp only [Bool.false_or, Bool.or_eq_true, decide_eq_true_eq] at h2 h3 h4
  unfold own_emp own_em
  by_cases a : y = x
  · rw [if_pos a] at h2
    by_cases b : z = x
    · rw [if_pos (Or.inl b)] at h3
      by_cases d : t = x
      · rw [if_pos (Or.inl (Or.inl d))] at h4
        rw [h4, h3, h2, h1, a, b, d]; simp
      · rw [if_neg (by rintro ((q | q) | q); exact d q; exact d (q.trans a); exact d (q.trans b))] at h4
        rw [h4, h3, h2, h1, if_neg (by decide), if_neg (fun q => d q.symm)]
    · rw [if_neg (by rintro (q | q); exact b q; exact b (q.trans a))] at h3
      have n : ¬ (x = t ∧ z = t) := fun q => b (q.2.trans q.1.symm)
      have : ¬ s4 = 0 := by
        rw [h4, h3, h2, h1]; split <;> decide
      rw [if_neg this]
      by_cases d : x = t
      · rw [if_pos d, a, if_pos d, if_neg (fun q => n ⟨d, q⟩)]
      · rw [if_neg d]
  · rw [if_neg a] at h2
    have n : ¬ (x = t ∧ y = t) := fun q => a (q.2.trans q.1.symm)
    have : ¬ s4 = 0 := by
      rw [h4, h3, h2, h1]; repeat' split
      all_goals decide
    rw [if_neg this]
    by_cases d : x = t
    · rw [if_pos d, if_neg (fun q => n ⟨d, q⟩)]
    · rw [if_neg d]
def own_mask (p : Int32) : Int32 := if p &&& (1 : Int32) = (0 : Int32) then 255 else 8191
def own_mx (p m : Int32) : Int32 := p &&& own_mask m
theorem own_mx_in (p m : Int32) : (¬ own_mx p m < 0 ∧ own_mx p m < 8192) ∧ 0 ≤ (own_mx p m).toInt := by
  have h : 0 ≤ (own_mx p m).toInt ∧ (own_mx p m).toInt ≤ 8191 := by
    unfold own_mx own_mask; split
    · have h := c_and p 255 (by decide)
      rw [show (255 : Int32).toInt = 255 by decide] at h; omega
    · have h := c_and p 8191 (by decide)
      rw [show (8191 : Int32).toInt = 8191 by decide] at h; omega
  simp only [Int32.lt_iff_toInt_lt, show (0 : Int32).toInt = 0 by decide, show (8192 : Int32).toInt = 8192 by decide]
  omega
def own_md (p : Int32) : Int32 := ((p.toUInt32 >>> ((1 : Int32) &&& 31).toUInt32).toInt32) &&& (3 : Int32)
def own_t (p1 p2 p4 p5 : Int32) : Int32 := if own_md p5 = (0 : Int32) then own_mx p1 p5 else if own_md p5 = (1 : Int32) then own_mx p2 p5 else if own_md p5 = (2 : Int32) then (own_mx p1 p5 ^^^ (p4 &&& (7 : Int32))) else p4
theorem own_in1 (x y z : Int32) : own_mem (own_add (own_add (own_add (fun _ => 0) x) y) z) x = true := by rw [own_mem_add, own_mem_add, own_mem_add]; simp
theorem own_in2 (x y z : Int32) : own_mem (own_add (own_add (own_add (fun _ => 0) x) y) z) y = true := by rw [own_mem_add, own_mem_add, own_mem_add]; simp
theorem own_in3 (x y z : Int32) : own_mem (own_add (own_add (own_add (fun _ => 0) x) y) z) z = true := by rw [own_mem_add, own_mem_add, own_mem_add]; simp
theorem pdx_0 : parseMethodDescriptor "(II)I" = some ⟨[.int, .int], some .int⟩ := by decide +kernel
theorem pdx_1 : parseMethodDescriptor "([JI)[J" = some ⟨[(.array .long), .int], some (.array .long)⟩ := by decide +kernel
theorem pdx_2 : parseMethodDescriptor "(I)V" = some ⟨[.int], none⟩ := by decide +kernel
theorem pdx_3 : parseMethodDescriptor "(I)I" = some ⟨[.int], some .int⟩ := by decide +kernel
theorem pdx_4 : parseMethodDescriptor "()V" = some ⟨[], none⟩ := by decide +kernel
theorem pdx_5 : parseMethodDescriptor "(J)I" = some ⟨[.long], some .int⟩ := by decide +kernel
theorem pdx_6 : parseMethodDescriptor "(I)Z" = some ⟨[.int], some .boolean⟩ := by decide +kernel
theorem pdx_7 : parseMethodDescriptor "()Z" = some ⟨[], some .boolean⟩ := by decide +kernel
theorem pdx_8 : parseMethodDescriptor "(IIII)I" = some ⟨[.int, .int, .int, .int], some .int⟩ := by decide +kernel
theorem d12_0 : decode jdk_29_method_65_code 0 = .ok (.iload_n 0, 1) := by decide +kernel
theorem d12_1 : decode jdk_29_method_65_code 1 = .ok (.iload_n 1, 1) := by decide +kernel
theorem d12_2 : decode jdk_29_method_65_code 2 = .ok (.if_icmp .lt 7, 3) := by decide +kernel
theorem d12_5 : decode jdk_29_method_65_code 5 = .ok (.iload_n 0, 1) := by decide +kernel
theorem d12_6 : decode jdk_29_method_65_code 6 = .ok (.goto 4, 3) := by decide +kernel
theorem d12_9 : decode jdk_29_method_65_code 9 = .ok (.iload_n 1, 1) := by decide +kernel
theorem d12_10 : decode jdk_29_method_65_code 10 = .ok (.ireturn, 1) := by decide +kernel
theorem ef_12 (m : MethodId) (x0 : Int32) (x1 : Int32) : entryFrame m #[(.int x0), (.int x1)] 2 = mkF m 0 #[.val (.int x0), .val (.int x1)] [] := by first | (simp [entryFrame, mkF, argsToLocals, Value.category]; done) | rfl
def Q12 (Z : State) (p1 p2 : Int32) (h0 : Heap) (n0 : Nat) (v : Option Value) (h : Heap) (L : List Loc) : Prop := v = some (.int (own_max p1 p2)) ∧ Fr n0 L ∧ h = h0
set_option maxRecDepth 65536 in
set_option maxHeartbeats 40000000 in
theorem rm12 (l : Launch) (Z : State) (a0 : Array Value) (hw : ∀ d ∈ tables_1, d.before a0 Z = true) (ws : List Jvm.Cond) (p1 p2 : Int32) (h0 : Heap) (n0 : Nat) (Z0 : n0 ≤ h0.size) :
    MetFree l (⟨"java/lang/Math", "max", "(II)I"⟩ : MethodName) (head1 (Jvm.Cond.code (⟨"java/lang/Math", "max", "(II)I"⟩ : MethodName) jdk_29_method_65_code 2 (some .int) :: ws) ({ frames := 0, cells := 0, slots := 0, locals := 0 } : Room)) (fun a U => a = #[(.int p1), (.int p2)] ∧ Z.Warmed39 U.vm ∧ U.heap = h0) (fun _ _ _ _ _ => True) (fun _ U o U' => ∃ v L, o = .returned v ∧ Q12 Z p1 p2 h0 n0 v U'.heap L ∧ FrameEnd U o U' L ({ frames := 0, cells := 0, slots := 0, locals := 0 } : Room).cells ({ frames := 0, cells := 0, slots := 0, locals := 0 } : Room).slots) := by
  refine MetFree.of_bodySF (Jvm.Free.JP.mathPlain rfl (by decide +kernel)) hisR ?_
  intro p e s m args below meth c s₁ Bd hml0 hP hK
  obtain ⟨rfl, hZ, hh⟩ := hP
  have hx := Bd.exec
  have hby := Bd.bytes
  have hml : c.maxLocals = 2 := hml0
  have hown : s.vm.findClass "java/lang/Math" = some m.cls := findClass_of_methodNamed Bd.named
  have hnm := (name_of_methodNamed Bd.named Bd.method).1
  have X0 : Stand p l e ({ frames := 0, cells := 0, slots := 0, locals := 0 } : Room) s m #[(.int p1), (.int p2)] below meth c s₁ [] 0 0 := Stand.of_body Bd
  have e0 : s₁.heap = h0 := by rw [← hh, Bd.state]; rfl
  have N0 := Fr.nil n0
  have pre0 : ∀ t, Steps p.tables e below (s₁.setTop (mkF m 0 #[.val (.int p1), .val (.int p2)] [])) t → Steps p.tables e below (s₁.setTop (entryFrame m #[(.int p1), (.int p2)] 2)) t := fun t k => castTop (ef_12 m p1 p2) k
  have pre1 : ∀ t, Steps p.tables e below (s₁.setTop (mkF m 2 #[.val (.int p1), .val (.int p2)] [(.int p2), (.int p1)])) t → Steps p.tables e below (s₁.setTop (entryFrame m #[(.int p1), (.int p2)] 2)) t := fun t k => pre0 t (by
    show Steps p.tables e below (s₁.setTop (mkF m 0 #[.val (.int p1), .val (.int p2)] [])) _
    refine XS.iloadN X0.here hx rfl (hb hby d12_0) rfl ?_
    show Steps p.tables e below (s₁.setTop (mkF m 1 #[.val (.int p1), .val (.int p2)] [(.int p1)])) _
    refine XS.iloadN X0.here hx rfl (hb hby d12_1) rfl ?_
    show Steps p.tables e below (s₁.setTop (mkF m 2 #[.val (.int p1), .val (.int p2)] [(.int p2), (.int p1)])) _
    exact k)
  by_cases hc : p1 < p2
  · skip
    have pre2 : ∀ t, Steps p.tables e below (s₁.setTop (mkF m 10 #[.val (.int p1), .val (.int p2)] [(.int p2)])) t → Steps p.tables e below (s₁.setTop (entryFrame m #[(.int p1), (.int p2)] 2)) t := fun t k => pre1 t (by
      show Steps p.tables e below (s₁.setTop (mkF m 2 #[.val (.int p1), .val (.int p2)] [(.int p2), (.int p1)])) _
      refine XS.icmpYes X0.here hx rfl (pc0 := 2) (pc' := 9) rfl (hb hby d12_2) rfl (tlt hc).1 (by decide) (by decide) ?_
      show Steps p.tables e below (s₁.setTop (mkF m 9 #[.val (.int p1), .val (.int p2)] [])) _
      refine XS.iloadN X0.here hx rfl (hb hby d12_9) rfl ?_
      show Steps p.tables e below (s₁.setTop (mkF m 10 #[.val (.int p1), .val (.int p2)] [(.int p2)])) _
      exact k)
    obtain ⟨fs, hr, hrun, hended, hW, hsame⟩ := X0.leave (v := some (.int p2)) (fun h => by rw [Bd.returns] at h; cases h)
    refine ⟨_, _, pre2 _ ?_, hrun, hended, _, _, rfl, ?_, ⟨_, rfl⟩, hW, hsame.mono (by decide) (by decide)⟩
    · show Steps p.tables e below (s₁.setTop (mkF m 10 #[.val (.int p1), .val (.int p2)] [(.int p2)])) _
      exact retI X0 hx Bd.returns (hb hby d12_10) hr
    · show Q12 Z p1 p2 h0 n0 _ s₁.heap _
      rw [e0]
      exact ⟨congrArg (fun z => some (Value.int z)) (Eq.symm (if_pos hc)), N0, rfl⟩
  · skip
    have pre3 : ∀ t, Steps p.tables e below (s₁.setTop (mkF m 10 #[.val (.int p1), .val (.int p2)] [(.int p1)])) t → Steps p.tables e below (s₁.setTop (entryFrame m #[(.int p1), (.int p2)] 2)) t := fun t k => pre1 t (by
      show Steps p.tables e below (s₁.setTop (mkF m 2 #[.val (.int p1), .val (.int p2)] [(.int p2), (.int p1)])) _
      refine XS.icmpNo X0.here hx rfl (hb hby d12_2) rfl (flt hc).1 ?_
      show Steps p.tables e below (s₁.setTop (mkF m 5 #[.val (.int p1), .val (.int p2)] [])) _
      refine XS.iloadN X0.here hx rfl (hb hby d12_5) rfl ?_
      show Steps p.tables e below (s₁.setTop (mkF m 6 #[.val (.int p1), .val (.int p2)] [(.int p1)])) _
      refine XS.goto X0.here hx rfl (pc0 := 6) (pc' := 10) rfl (hb hby d12_6) (by decide) (by decide) ?_
      show Steps p.tables e below (s₁.setTop (mkF m 10 #[.val (.int p1), .val (.int p2)] [(.int p1)])) _
      exact k)
    obtain ⟨fs, hr, hrun, hended, hW, hsame⟩ := X0.leave (v := some (.int p1)) (fun h => by rw [Bd.returns] at h; cases h)
    refine ⟨_, _, pre3 _ ?_, hrun, hended, _, _, rfl, ?_, ⟨_, rfl⟩, hW, hsame.mono (by decide) (by decide)⟩
    · show Steps p.tables e below (s₁.setTop (mkF m 10 #[.val (.int p1), .val (.int p2)] [(.int p1)])) _
      exact retI X0 hx Bd.returns (hb hby d12_10) hr
    · show Q12 Z p1 p2 h0 n0 _ s₁.heap _
      rw [e0]
      exact ⟨congrArg (fun z => some (Value.int z)) (Eq.symm (if_neg hc)), N0, rfl⟩
theorem d14_0 : decode jdk_29_method_69_code 0 = .ok (.iload_n 0, 1) := by decide +kernel
theorem d14_1 : decode jdk_29_method_69_code 1 = .ok (.iload_n 1, 1) := by decide +kernel
theorem d14_2 : decode jdk_29_method_69_code 2 = .ok (.if_icmp .gt 7, 3) := by decide +kernel
theorem d14_5 : decode jdk_29_method_69_code 5 = .ok (.iload_n 0, 1) := by decide +kernel
theorem d14_6 : decode jdk_29_method_69_code 6 = .ok (.goto 4, 3) := by decide +kernel
theorem d14_9 : decode jdk_29_method_69_code 9 = .ok (.iload_n 1, 1) := by decide +kernel
theorem d14_10 : decode jdk_29_method_69_code 10 = .ok (.ireturn, 1) := by decide +kernel
theorem ef_14 (m : MethodId) (x0 : Int32) (x1 : Int32) : entryFrame m #[(.int x0), (.int x1)] 2 = mkF m 0 #[.val (.int x0), .val (.int x1)] [] := by first | (simp [entryFrame, mkF, argsToLocals, Value.category]; done) | rfl
def Q14 (Z : State) (p1 p2 : Int32) (h0 : Heap) (n0 : Nat) (v : Option Value) (h : Heap) (L : List Loc) : Prop := v = some (.int (own_min p1 p2)) ∧ Fr n0 L ∧ h = h0
set_option maxRecDepth 65536 in
set_option maxHeartbeats 40000000 in
theorem rm14 (l : Launch) (Z : State) (a0 : Array Value) (hw : ∀ d ∈ tables_1, d.before a0 Z = true) (ws : List Jvm.Cond) (p1 p2 : Int32) (h0 : Heap) (n0 : Nat) (Z0 : n0 ≤ h0.size) :
    MetFree l (⟨"java/lang/Math", "min", "(II)I"⟩ : MethodName) (head1 (Jvm.Cond.code (⟨"java/lang/Math", "min", "(II)I"⟩ : MethodName) jdk_29_method_69_code 2 (some .int) :: ws) ({ frames := 0, cells := 0, slots := 0, locals := 0 } : Room)) (fun a U => a = #[(.int p1), (.int p2)] ∧ Z.Warmed39 U.vm ∧ U.heap = h0) (fun _ _ _ _ _ => True) (fun _ U o U' => ∃ v L, o = .returned v ∧ Q14 Z p1 p2 h0 n0 v U'.heap L ∧ FrameEnd U o U' L ({ frames := 0, cells := 0, slots := 0, locals := 0 } : Room).cells ({ frames := 0, cells := 0, slots := 0, locals := 0 } : Room).slots) := by
  refine MetFree.of_bodySF (Jvm.Free.JP.mathPlain rfl (by decide +kernel)) hisR ?_
  intro p e s m args below meth c s₁ Bd hml0 hP hK
  obtain ⟨rfl, hZ, hh⟩ := hP
  have hx := Bd.exec
  have hby := Bd.bytes
  have hml : c.maxLocals = 2 := hml0
  have hown : s.vm.findClass "java/lang/Math" = some m.cls := findClass_of_methodNamed Bd.named
  have hnm := (name_of_methodNamed Bd.named Bd.method).1
  have X0 : Stand p l e ({ frames := 0, cells := 0, slots := 0, locals := 0 } : Room) s m #[(.int p1), (.int p2)] below meth c s₁ [] 0 0 := Stand.of_body Bd
  have e0 : s₁.heap = h0 := by rw [← hh, Bd.state]; rfl
  have N0 := Fr.nil n0
  have pre0 : ∀ t, Steps p.tables e below (s₁.setTop (mkF m 0 #[.val (.int p1), .val (.int p2)] [])) t → Steps p.tables e below (s₁.setTop (entryFrame m #[(.int p1), (.int p2)] 2)) t := fun t k => castTop (ef_14 m p1 p2) k
  have pre1 : ∀ t, Steps p.tables e below (s₁.setTop (mkF m 2 #[.val (.int p1), .val (.int p2)] [(.int p2), (.int p1)])) t → Steps p.tables e below (s₁.setTop (entryFrame m #[(.int p1), (.int p2)] 2)) t := fun t k => pre0 t (by
    show Steps p.tables e below (s₁.setTop (mkF m 0 #[.val (.int p1), .val (.int p2)] [])) _
    refine XS.iloadN X0.here hx rfl (hb hby d14_0) rfl ?_
    show Steps p.tables e below (s₁.setTop (mkF m 1 #[.val (.int p1), .val (.int p2)] [(.int p1)])) _
    refine XS.iloadN X0.here hx rfl (hb hby d14_1) rfl ?_
    show Steps p.tables e below (s₁.setTop (mkF m 2 #[.val (.int p1), .val (.int p2)] [(.int p2), (.int p1)])) _
    exact k)
  by_cases hc : p2 < p1
  · skip
    have pre2 : ∀ t, Steps p.tables e below (s₁.setTop (mkF m 10 #[.val (.int p1), .val (.int p2)] [(.int p2)])) t → Steps p.tables e below (s₁.setTop (entryFrame m #[(.int p1), (.int p2)] 2)) t := fun t k => pre1 t (by
      show Steps p.tables e below (s₁.setTop (mkF m 2 #[.val (.int p1), .val (.int p2)] [(.int p2), (.int p1)])) _
      refine XS.icmpYes X0.here hx rfl (pc0 := 2) (pc' := 9) rfl (hb hby d14_2) rfl (tlt hc).2.2.1 (by decide) (by decide) ?_
      show Steps p.tables e below (s₁.setTop (mkF m 9 #[.val (.int p1), .val (.int p2)] [])) _
      refine XS.iloadN X0.here hx rfl (hb hby d14_9) rfl ?_
      show Steps p.tables e below (s₁.setTop (mkF m 10 #[.val (.int p1), .val (.int p2)] [(.int p2)])) _
      exact k)
    obtain ⟨fs, hr, hrun, hended, hW, hsame⟩ := X0.leave (v := some (.int p2)) (fun h => by rw [Bd.returns] at h; cases h)
    refine ⟨_, _, pre2 _ ?_, hrun, hended, _, _, rfl, ?_, ⟨_, rfl⟩, hW, hsame.mono (by decide) (by decide)⟩
    · show Steps p.tables e below (s₁.setTop (mkF m 10 #[.val (.int p1), .val (.int p2)] [(.int p2)])) _
      exact retI X0 hx Bd.returns (hb hby d14_10) hr
    · show Q14 Z p1 p2 h0 n0 _ s₁.heap _
      rw [e0]
      exact ⟨congrArg (fun z => some (Value.int z)) (Eq.symm (if_pos hc)), N0, rfl⟩
  · skip
    have pre3 : ∀ t, Steps p.tables e below (s₁.setTop (mkF m 10 #[.val (.int p1), .val (.int p2)] [(.int p1)])) t → Steps p.tables e below (s₁.setTop (entryFrame m #[(.int p1), (.int p2)] 2)) t := fun t k => pre1 t (by
      show Steps p.tables e below (s₁.setTop (mkF m 2 #[.val (.int p1), .val (.int p2)] [(.int p2), (.int p1)])) _
      refine XS.icmpNo X0.here hx rfl (hb hby d14_2) rfl (flt hc).2.2.1 ?_
      show Steps p.tables e below (s₁.setTop (mkF m 5 #[.val (.int p1), .val (.int p2)] [])) _
      refine XS.iloadN X0.here hx rfl (hb hby d14_5) rfl ?_
      show Steps p.tables e below (s₁.setTop (mkF m 6 #[.val (.int p1), .val (.int p2)] [(.int p1)])) _
      refine XS.goto X0.here hx rfl (pc0 := 6) (pc' := 10) rfl (hb hby d14_6) (by decide) (by decide) ?_
      show Steps p.tables e below (s₁.setTop (mkF m 10 #[.val (.int p1), .val (.int p2)] [(.int p1)])) _
      exact k)
    obtain ⟨fs, hr, hrun, hended, hW, hsame⟩ := X0.leave (v := some (.int p1)) (fun h => by rw [Bd.returns] at h; cases h)
    refine ⟨_, _, pre3 _ ?_, hrun, hended, _, _, rfl, ?_, ⟨_, rfl⟩, hW, hsame.mono (by decide) (by decide)⟩
    · show Steps p.tables e below (s₁.setTop (mkF m 10 #[.val (.int p1), .val (.int p2)] [(.int p1)])) _
      exact retI X0 hx Bd.returns (hb hby d14_10) hr
    · show Q14 Z p1 p2 h0 n0 _ s₁.heap _
      rw [e0]
      exact ⟨congrArg (fun z => some (Value.int z)) (Eq.symm (if_neg hc)), N0, rfl⟩
theorem d1_0 : decode prog_101_method_1_code 0 = .ok (.aload_n 0, 1) := by decide +kernel
theorem d1_1 : decode prog_101_method_1_code 1 = .ok (.invokespecial 1, 3) := by decide +kernel
theorem d1_4 : decode prog_101_method_1_code 4 = .ok (.aload_n 0, 1) := by decide +kernel
theorem d1_5 : decode prog_101_method_1_code 5 = .ok (.iconst 1, 1) := by decide +kernel
theorem d1_6 : decode prog_101_method_1_code 6 = .ok (.newarray .long, 2) := by decide +kernel
theorem d1_8 : decode prog_101_method_1_code 8 = .ok (.putfield 7, 3) := by decide +kernel
theorem d1_11 : decode prog_101_method_1_code 11 = .ok (.return_, 1) := by decide +kernel
theorem pn_1 : plainName "com/example/berchta/berchta/learn/NodeSet" = true := by first | (simp [plainName, overriddenIn]; done) | decide +kernel
theorem ef_1 (m : MethodId) (x0 : Addr) : entryFrame m #[(.ref x0)] 1 = mkF m 0 #[.val (.ref x0)] [] := by first | (simp [entryFrame, mkF, argsToLocals, Value.category]; done) | rfl
def Q1 (Z : State) (a1 : Addr) (h0 : Heap) (n0 : Nat) (v : Option Value) (h : Heap) (L : List Loc) : Prop := ∃ b : Addr, v = none ∧ Fr n0 L ∧ h0.size ≤ b ∧ Keep h0 h [a1] ∧ Exa Z h a1 "com/example/berchta/berchta/learn/NodeSet" ∧ Fld Z h a1 "com/example/berchta/berchta/learn/NodeSet" "words" "[J" (.ref b) ∧ Fld Z h a1 "com/example/berchta/berchta/learn/NodeSet" "filled" "Lcom/example/berchta/berchta/learn/NodeSet;" .null ∧ Fld Z h a1 "com/example/berchta/berchta/learn/NodeSet" "size" "I" (.int (0 : Int32)) ∧ own_wds Z h b 1 (fun _ => 0)
set_option maxRecDepth 65536 in
set_option maxHeartbeats 40000000 in
theorem rm1 (l : Launch) (Z : State) (a0 : Array Value) (hw : ∀ d ∈ tables_1, d.before a0 Z = true) (ws : List Jvm.Cond) (a1 : Addr) (h0 : Heap) (n0 : Nat) (Z0 : n0 ≤ h0.size) (E_a1 : Exa Z h0 a1 "com/example/berchta/berchta/learn/NodeSet") (Fw_a1 : Fld Z h0 a1 "com/example/berchta/berchta/learn/NodeSet" "words" "[J" .null) (Ff_a1 : Fld Z h0 a1 "com/example/berchta/berchta/learn/NodeSet" "filled" "Lcom/example/berchta/berchta/learn/NodeSet;" .null) (Fs_a1 : Fld Z h0 a1 "com/example/berchta/berchta/learn/NodeSet" "size" "I" (.int (0 : Int32))) (g_a1 : n0 ≤ a1) :
    MetFree l (⟨"com/example/berchta/berchta/learn/NodeSet", "<init>", "()V"⟩ : MethodName) (head1 (Jvm.Cond.code (⟨"com/example/berchta/berchta/learn/NodeSet", "<init>", "()V"⟩ : MethodName) prog_101_method_1_code 1 none :: ws) ({ frames := 1, cells := 1, slots := 1, locals := 12 } : Room)) (fun a U => a = #[(.ref a1)] ∧ Z.Warmed39 U.vm ∧ U.heap = h0) (fun _ _ _ _ _ => True) (fun _ U o U' => ∃ v L, o = .returned v ∧ Q1 Z a1 h0 n0 v U'.heap L ∧ FrameEnd U o U' L ({ frames := 1, cells := 1, slots := 1, locals := 12 } : Room).cells ({ frames := 1, cells := 1, slots := 1, locals := 12 } : Room).slots) := by
  refine MetFree.of_bodySF (plainFor_of_name pn_1) hisR ?_
  intro p e s m args below meth c s₁ Bd hml0 hP hK
  obtain ⟨rfl, hZ, hh⟩ := hP
  have hx := Bd.exec
  have hby := Bd.bytes
  have hml : c.maxLocals = 1 := hml0
  have hown : s.vm.findClass "com/example/berchta/berchta/learn/NodeSet" = some m.cls := findClass_of_methodNamed Bd.named
  have hnm := (name_of_methodNamed Bd.named Bd.method).1
  have X0 : Stand p l e ({ frames := 1, cells := 1, slots := 1, locals := 12 } : Room) s m #[(.ref a1)] below meth c s₁ [] 0 0 := Stand.of_body Bd
  have e0 : s₁.heap = h0 := by rw [← hh, Bd.state]; rfl
  have N0 := Fr.nil n0
  have pre0 : ∀ t, Steps p.tables e below (s₁.setTop (mkF m 0 #[.val (.ref a1)] [])) t → Steps p.tables e below (s₁.setTop (entryFrame m #[(.ref a1)] 1)) t := fun t k => castTop (ef_1 m a1) k
  have KK0 : Keep h0 h0 [a1] := Keep.refl h0 [a1]
  have pre1 : ∀ t, Steps p.tables e below (s₁.setTop (mkF m 1 #[.val (.ref a1)] [(.ref a1)])) t → Steps p.tables e below (s₁.setTop (entryFrame m #[(.ref a1)] 1)) t := fun t k => pre0 t (by
    show Steps p.tables e below (s₁.setTop (mkF m 0 #[.val (.ref a1)] [])) _
    refine XS.aloadN X0.here hx rfl (hb hby d1_0) rfl rfl ?_
    show Steps p.tables e below (s₁.setTop (mkF m 1 #[.val (.ref a1)] [(.ref a1)])) _
    exact k)
  obtain ⟨T2, X2, e2, st2⟩ := initO X0 hx hZ hown (hw _ (List.mem_of_getElem? (i := 6) rfl)) (hw _ (List.mem_of_getElem? (i := 7) rfl)) (hw _ (List.mem_of_getElem? (i := 8) rfl)) e0 (g := (mkF m 1 #[.val (.ref a1)] [(.ref a1)])) rfl (by rw [hml]; rfl) rfl (hb hby d1_1) (by decide) (W := 0) (by show 2 * 0 + _ ≤ _; exact Nat.le_of_eq rfl) (by decide)
  have pre3 : ∀ t, Steps p.tables e below (T2.setTop (mkF m 4 #[.val (.ref a1)] [])) t → Steps p.tables e below (s₁.setTop (entryFrame m #[(.ref a1)] 1)) t := fun t k => pre1 t (by
    show Steps p.tables e below (s₁.setTop (mkF m 1 #[.val (.ref a1)] [(.ref a1)])) t
    refine st2 _ ?_
    show Steps p.tables e below (T2.setTop (mkF m 4 #[.val (.ref a1)] [])) t
    exact k)
  have pre4 : ∀ t, Steps p.tables e below (T2.setTop (mkF m 6 #[.val (.ref a1)] [(.int (1 : Int32)), (.ref a1)])) t → Steps p.tables e below (s₁.setTop (entryFrame m #[(.ref a1)] 1)) t := fun t k => pre3 t (by
    show Steps p.tables e below (T2.setTop (mkF m 4 #[.val (.ref a1)] [])) _
    refine XS.aloadN X2.here hx rfl (hb hby d1_4) rfl rfl ?_
    show Steps p.tables e below (T2.setTop (mkF m 5 #[.val (.ref a1)] [(.ref a1)])) _
    refine XS.iconst X2.here hx rfl (hb hby d1_5) ?_
    show Steps p.tables e below (T2.setTop (mkF m 6 #[.val (.ref a1)] [(.int (1 : Int32)), (.ref a1)])) _
    exact k)
  obtain ⟨T5, h5, k5, X5, e5, E5, A5, st5⟩ := newP X2 hx hZ (hw _ (List.mem_of_getElem? (i := 9) rfl)) e2 (g := (mkF m 6 #[.val (.ref a1)] [(.int (1 : Int32)), (.ref a1)])) rfl (hb hby d1_6) rfl (by decide) (cap := 1) (by decide) (by decide) (by decide) (by decide)
  obtain ⟨b, ge5⟩ : ∃ z, z = h0.size := ⟨_, rfl⟩
  rw [← ge5] at A5 st5
  have gq5 := Nat.le_of_eq ge5.symm
  have o_a1_b : a1 < b := Nat.lt_of_lt_of_le E_a1.lt gq5
  have g_b : n0 ≤ b := Nat.le_trans Z0 (Nat.le_trans KK0.1 gq5)
  have sz_b : h0.size ≤ b := Nat.le_trans KK0.1 gq5
  have E_a1_5 := E_a1.ext E5
  have Fw_a1_5 := Fw_a1.ext E5
  have Ff_a1_5 := Ff_a1.ext E5
  have Fs_a1_5 := Fs_a1.ext E5
  have KK5 := KK0.ext E5
  have V_b : own_wds Z h5 b (1 : Int32) (fun _ => 0) := own_wds_new A5 (by decide)
  have pre6 : ∀ t, Steps p.tables e below (T5.setTop (mkF m 8 #[.val (.ref a1)] [(.ref b), (.ref a1)])) t → Steps p.tables e below (s₁.setTop (entryFrame m #[(.ref a1)] 1)) t := fun t k => pre4 t (by
    show Steps p.tables e below (T2.setTop (mkF m 6 #[.val (.ref a1)] [(.int (1 : Int32)), (.ref a1)])) t
    refine st5 _ ?_
    show Steps p.tables e below (T5.setTop (mkF m 8 #[.val (.ref a1)] [(.ref b), (.ref a1)])) t
    exact k)
  obtain ⟨T7, h7, X7, e7, W7, st7⟩ := putF X5 hx hZ hown (host := "") (Or.inl (hw _ (List.mem_of_getElem? (i := 10) rfl))) Via.refl e5 Fw_a1_5 E_a1_5 (Or.inl (hw _ (List.mem_of_getElem? (i := 11) rfl))) (hw _ (List.mem_of_getElem? (i := 1) rfl)) (ty := (.array .long)) (by decide) rfl rfl (g := (mkF m 8 #[.val (.ref a1)] [(.ref b), (.ref a1)])) rfl rfl (hb hby d1_8)
  have E_a1_7 := E_a1_5.wr W7
  have Ff_a1_7 := Ff_a1_5.other W7 (Or.inr (slot_ne (Or.inl (hw _ (List.mem_of_getElem? (i := 20) rfl))) (Or.inl (hw _ (List.mem_of_getElem? (i := 11) rfl))) (by decide) (t := (.object "com/example/berchta/berchta/learn/NodeSet")) (t' := (.array .long)) (by decide) (by decide)))
  have Fs_a1_7 := Fs_a1_5.other W7 (Or.inr (slot_ne (Or.inl (hw _ (List.mem_of_getElem? (i := 18) rfl))) (Or.inl (hw _ (List.mem_of_getElem? (i := 11) rfl))) (by decide) (t := .int) (t' := (.array .long)) (by decide) (by decide)))
  have V_b_7 := V_b.other W7 (Nat.ne_of_gt o_a1_b)
  have KK7 := KK5.wr W7 (Or.inl (List.mem_of_getElem? (i := 0) rfl))
  have Fw_a1_7 := Fw_a1_5.same W7
  have N7 := Fr.snoc X7 N0 g_a1
  have pre8 : ∀ t, Steps p.tables e below (T7.setTop (mkF m 11 #[.val (.ref a1)] [])) t → Steps p.tables e below (s₁.setTop (entryFrame m #[(.ref a1)] 1)) t := fun t k => pre6 t (by
    show Steps p.tables e below (T5.setTop (mkF m 8 #[.val (.ref a1)] [(.ref b), (.ref a1)])) t
    refine st7 _ ?_
    show Steps p.tables e below (T7.setTop (mkF m 11 #[.val (.ref a1)] [])) t
    exact k)
  obtain ⟨fs, hr, hrun, hended, hW, hsame⟩ := X7.leave (v := none) (fun _ => rfl)
  refine ⟨_, _, pre8 _ ?_, hrun, hended, _, _, rfl, ?_, ⟨_, rfl⟩, hW, hsame.mono (by decide) (by decide)⟩
  · show Steps p.tables e below (T7.setTop (mkF m 11 #[.val (.ref a1)] [])) _
    exact X7.returnOut hx Bd.returns (hb hby d1_11) hr
  · show Q1 Z a1 h0 n0 _ T7.heap _
    rw [e7]
    exact ⟨b, rfl, N7, sz_b, KK7, E_a1_7, Fw_a1_7, Ff_a1_7, Fs_a1_7, V_b_7⟩
theorem d13_0 : decode jdk_65_method_124_code 0 = .ok (.iload_n 1, 1) := by decide +kernel
theorem d13_1 : decode jdk_65_method_124_code 1 = .ok (.aload_n 0, 1) := by decide +kernel
theorem d13_2 : decode jdk_65_method_124_code 2 = .ok (.arraylength, 1) := by decide +kernel
theorem d13_3 : decode jdk_65_method_124_code 3 = .ok (.if_icmp .ne 11, 3) := by decide +kernel
theorem d13_6 : decode jdk_65_method_124_code 6 = .ok (.aload_n 0, 1) := by decide +kernel
theorem d13_7 : decode jdk_65_method_124_code 7 = .ok (.invokevirtual 319, 3) := by decide +kernel
theorem d13_10 : decode jdk_65_method_124_code 10 = .ok (.checkcast 320, 3) := by decide +kernel
theorem d13_13 : decode jdk_65_method_124_code 13 = .ok (.areturn, 1) := by decide +kernel
theorem d13_14 : decode jdk_65_method_124_code 14 = .ok (.iload_n 1, 1) := by decide +kernel
theorem d13_15 : decode jdk_65_method_124_code 15 = .ok (.newarray .long, 2) := by decide +kernel
theorem d13_17 : decode jdk_65_method_124_code 17 = .ok (.astore_n 2, 1) := by decide +kernel
theorem d13_18 : decode jdk_65_method_124_code 18 = .ok (.aload_n 0, 1) := by decide +kernel
theorem d13_19 : decode jdk_65_method_124_code 19 = .ok (.iconst 0, 1) := by decide +kernel
theorem d13_20 : decode jdk_65_method_124_code 20 = .ok (.aload_n 2, 1) := by decide +kernel
theorem d13_21 : decode jdk_65_method_124_code 21 = .ok (.iconst 0, 1) := by decide +kernel
theorem d13_22 : decode jdk_65_method_124_code 22 = .ok (.aload_n 0, 1) := by decide +kernel
theorem d13_23 : decode jdk_65_method_124_code 23 = .ok (.arraylength, 1) := by decide +kernel
theorem d13_24 : decode jdk_65_method_124_code 24 = .ok (.iload_n 1, 1) := by decide +kernel
theorem d13_25 : decode jdk_65_method_124_code 25 = .ok (.invokestatic 304, 3) := by decide +kernel
theorem d13_28 : decode jdk_65_method_124_code 28 = .ok (.invokestatic 150, 3) := by decide +kernel
theorem d13_31 : decode jdk_65_method_124_code 31 = .ok (.aload_n 2, 1) := by decide +kernel
theorem d13_32 : decode jdk_65_method_124_code 32 = .ok (.areturn, 1) := by decide +kernel
theorem pn_13 : plainName "java/util/Arrays" = true := by first | (simp [plainName, overriddenIn]; done) | decide +kernel
theorem ef_13 (m : MethodId) (x0 : Addr) (x1 : Int32) : entryFrame m #[(.ref x0), (.int x1)] 3 = mkF m 0 #[.val (.ref x0), .val (.int x1), .unset] [] := by first | (simp [entryFrame, mkF, argsToLocals, Value.category]; done) | rfl
def Q13 (Z : State) (a1 : Addr) (p2 z : Int32) (f : Nat → Int64) (cp : Nat) (h0 : Heap) (n0 : Nat) (v : Option Value) (h : Heap) (L : List Loc) : Prop := ∃ b : Addr, v = some (.ref b) ∧ Fr n0 L ∧ h0.size ≤ b ∧ Keep h0 h [] ∧ own_wds Z h b p2 f
set_option maxRecDepth 65536 in
set_option maxHeartbeats 40000000 in
theorem rm13 (l : Launch) (Z : State) (a0 : Array Value) (hw : ∀ d ∈ tables_1, d.before a0 Z = true) (ws : List Jvm.Cond) (a1 : Addr) (p2 z : Int32) (f : Nat → Int64) (cp : Nat) (h0 : Heap) (n0 : Nat) (Z0 : n0 ≤ h0.size) (Vw : own_wds Z h0 a1 z f) (hzp : z < p2) (hcp : p2.toNatClampNeg ≤ cp) (hc8 : cp * 8 ≤ 536870912) (hf : ∀ i, z.toNatClampNeg ≤ i → f i = 0) :
    MetFree l (⟨"java/util/Arrays", "copyOf", "([JI)[J"⟩ : MethodName) (head1 (Jvm.Cond.code (⟨"java/util/Arrays", "copyOf", "([JI)[J"⟩ : MethodName) jdk_65_method_124_code 3 (some (.array .long)) :: ws) ({ frames := 1, cells := 1, slots := cp, locals := 40 } : Room)) (fun a U => a = #[(.ref a1), (.int p2)] ∧ Z.Warmed39 U.vm ∧ U.heap = h0) (fun _ _ _ _ _ => True) (fun _ U o U' => ∃ v L, o = .returned v ∧ Q13 Z a1 p2 z f cp h0 n0 v U'.heap L ∧ FrameEnd U o U' L ({ frames := 1, cells := 1, slots := cp, locals := 40 } : Room).cells ({ frames := 1, cells := 1, slots := cp, locals := 40 } : Room).slots) := by
  refine MetFree.of_bodySF (plainFor_of_name pn_13) hisR ?_
  intro p e s m args below meth c s₁ Bd hml0 hP hK
  obtain ⟨rfl, hZ, hh⟩ := hP
  have hx := Bd.exec
  have hby := Bd.bytes
  have hml : c.maxLocals = 3 := hml0
  have hown : s.vm.findClass "java/util/Arrays" = some m.cls := findClass_of_methodNamed Bd.named
  have hnm := (name_of_methodNamed Bd.named Bd.method).1
  have X0 : Stand p l e ({ frames := 1, cells := 1, slots := cp, locals := 40 } : Room) s m #[(.ref a1), (.int p2)] below meth c s₁ [] 0 0 := Stand.of_body Bd
  have e0 : s₁.heap = h0 := by rw [← hh, Bd.state]; rfl
  have N0 := Fr.nil n0
  have pre0 : ∀ t, Steps p.tables e below (s₁.setTop (mkF m 0 #[.val (.ref a1), .val (.int p2), .unset] [])) t → Steps p.tables e below (s₁.setTop (entryFrame m #[(.ref a1), (.int p2)] 3)) t := fun t k => castTop (ef_13 m a1 p2) k
  have KK0 : Keep h0 h0 [] := Keep.refl h0 []
  obtain ⟨z0, z1, z2, z3⟩ := own_minz (own_wds_len Vw).choose_spec.2.2 hzp
  have pre1 : ∀ t, Steps p.tables e below (s₁.setTop (mkF m 2 #[.val (.ref a1), .val (.int p2), .unset] [(.ref a1), (.int p2)])) t → Steps p.tables e below (s₁.setTop (entryFrame m #[(.ref a1), (.int p2)] 3)) t := fun t k => pre0 t (by
    show Steps p.tables e below (s₁.setTop (mkF m 0 #[.val (.ref a1), .val (.int p2), .unset] [])) _
    refine XS.iloadN X0.here hx rfl (hb hby d13_0) rfl ?_
    show Steps p.tables e below (s₁.setTop (mkF m 1 #[.val (.ref a1), .val (.int p2), .unset] [(.int p2)])) _
    refine XS.aloadN X0.here hx rfl (hb hby d13_1) rfl rfl ?_
    show Steps p.tables e below (s₁.setTop (mkF m 2 #[.val (.ref a1), .val (.int p2), .unset] [(.ref a1), (.int p2)])) _
    exact k)
  obtain ⟨cl2, Ar2, Sz2, Nz2⟩ := own_wds_len Vw
  have pre3 : ∀ t, Steps p.tables e below (s₁.setTop (mkF m 3 #[.val (.ref a1), .val (.int p2), .unset] [(.int z), (.int p2)])) t → Steps p.tables e below (s₁.setTop (entryFrame m #[(.ref a1), (.int p2)] 3)) t := fun t k => pre1 t (by
    show Steps p.tables e below (s₁.setTop (mkF m 2 #[.val (.ref a1), .val (.int p2), .unset] [(.ref a1), (.int p2)])) t
    refine X0.arraylength hx (by rw [e0]; exact Ar2.1) (State.isArrayOf_alike hZ.alike Ar2.2.1) (g := (mkF m 2 #[.val (.ref a1), .val (.int p2), .unset] [(.ref a1), (.int p2)])) rfl rfl (hb hby d13_2) _ ?_
    rw [len_of Sz2 Nz2]
    exact k)
  have pre4 : ∀ t, Steps p.tables e below (s₁.setTop (mkF m 15 #[.val (.ref a1), .val (.int p2), .unset] [(.int p2)])) t → Steps p.tables e below (s₁.setTop (entryFrame m #[(.ref a1), (.int p2)] 3)) t := fun t k => pre3 t (by
    show Steps p.tables e below (s₁.setTop (mkF m 3 #[.val (.ref a1), .val (.int p2), .unset] [(.int z), (.int p2)])) _
    refine XS.icmpYes X0.here hx rfl (pc0 := 3) (pc' := 14) rfl (hb hby d13_3) rfl (feq z0).2 (by decide) (by decide) ?_
    show Steps p.tables e below (s₁.setTop (mkF m 14 #[.val (.ref a1), .val (.int p2), .unset] [])) _
    refine XS.iloadN X0.here hx rfl (hb hby d13_14) rfl ?_
    show Steps p.tables e below (s₁.setTop (mkF m 15 #[.val (.ref a1), .val (.int p2), .unset] [(.int p2)])) _
    exact k)
  obtain ⟨T5, h5, k5, X5, e5, E5, A5, st5⟩ := newP X0 hx hZ (hw _ (List.mem_of_getElem? (i := 9) rfl)) e0 (g := (mkF m 15 #[.val (.ref a1), .val (.int p2), .unset] [(.int p2)])) rfl (hb hby d13_15) rfl z1 (cap := cp) hcp hc8 (Nat.le_refl 1) (by show 0 + cp ≤ cp; omega)
  obtain ⟨b, ge5⟩ : ∃ z, z = h0.size := ⟨_, rfl⟩
  rw [← ge5] at A5 st5
  have gq5 := Nat.le_of_eq ge5.symm
  have o_a1_b : a1 < b := Nat.lt_of_lt_of_le Vw.lt gq5
  have g_b : n0 ≤ b := Nat.le_trans Z0 (Nat.le_trans KK0.1 gq5)
  have sz_b : h0.size ≤ b := Nat.le_trans KK0.1 gq5
  have Vw_5 := Vw.ext E5
  have KK5 := KK0.ext E5
  have V_b : own_wds Z h5 b p2 (fun _ => 0) := own_wds_new A5 z1
  have pre6 : ∀ t, Steps p.tables e below (T5.setTop (mkF m 17 #[.val (.ref a1), .val (.int p2), .unset] [(.ref b)])) t → Steps p.tables e below (s₁.setTop (entryFrame m #[(.ref a1), (.int p2)] 3)) t := fun t k => pre4 t (by
    show Steps p.tables e below (s₁.setTop (mkF m 15 #[.val (.ref a1), .val (.int p2), .unset] [(.int p2)])) t
    refine st5 _ ?_
    show Steps p.tables e below (T5.setTop (mkF m 17 #[.val (.ref a1), .val (.int p2), .unset] [(.ref b)])) t
    exact k)
  have pre7 : ∀ t, Steps p.tables e below (T5.setTop (mkF m 23 #[.val (.ref a1), .val (.int p2), .val (.ref b)] [(.ref a1), (.int (0 : Int32)), (.ref b), (.int (0 : Int32)), (.ref a1)])) t → Steps p.tables e below (s₁.setTop (entryFrame m #[(.ref a1), (.int p2)] 3)) t := fun t k => pre6 t (by
    show Steps p.tables e below (T5.setTop (mkF m 17 #[.val (.ref a1), .val (.int p2), .unset] [(.ref b)])) _
    refine XS.astoreN X5.here hx rfl (hb hby d13_17) rfl rfl (l' := #[.val (.ref a1), .val (.int p2), .val (.ref b)]) rfl ?_
    show Steps p.tables e below (T5.setTop (mkF m 18 #[.val (.ref a1), .val (.int p2), .val (.ref b)] [])) _
    refine XS.aloadN X5.here hx rfl (hb hby d13_18) rfl rfl ?_
    show Steps p.tables e below (T5.setTop (mkF m 19 #[.val (.ref a1), .val (.int p2), .val (.ref b)] [(.ref a1)])) _
    refine XS.iconst X5.here hx rfl (hb hby d13_19) ?_
    show Steps p.tables e below (T5.setTop (mkF m 20 #[.val (.ref a1), .val (.int p2), .val (.ref b)] [(.int (0 : Int32)), (.ref a1)])) _
    refine XS.aloadN X5.here hx rfl (hb hby d13_20) rfl rfl ?_
    show Steps p.tables e below (T5.setTop (mkF m 21 #[.val (.ref a1), .val (.int p2), .val (.ref b)] [(.ref b), (.int (0 : Int32)), (.ref a1)])) _
    refine XS.iconst X5.here hx rfl (hb hby d13_21) ?_
    show Steps p.tables e below (T5.setTop (mkF m 22 #[.val (.ref a1), .val (.int p2), .val (.ref b)] [(.int (0 : Int32)), (.ref b), (.int (0 : Int32)), (.ref a1)])) _
    refine XS.aloadN X5.here hx rfl (hb hby d13_22) rfl rfl ?_
    show Steps p.tables e below (T5.setTop (mkF m 23 #[.val (.ref a1), .val (.int p2), .val (.ref b)] [(.ref a1), (.int (0 : Int32)), (.ref b), (.int (0 : Int32)), (.ref a1)])) _
    exact k)
  obtain ⟨cl8, Ar8, Sz8, Nz8⟩ := own_wds_len Vw_5
  have pre9 : ∀ t, Steps p.tables e below (T5.setTop (mkF m 24 #[.val (.ref a1), .val (.int p2), .val (.ref b)] [(.int z), (.int (0 : Int32)), (.ref b), (.int (0 : Int32)), (.ref a1)])) t → Steps p.tables e below (s₁.setTop (entryFrame m #[(.ref a1), (.int p2)] 3)) t := fun t k => pre7 t (by
    show Steps p.tables e below (T5.setTop (mkF m 23 #[.val (.ref a1), .val (.int p2), .val (.ref b)] [(.ref a1), (.int (0 : Int32)), (.ref b), (.int (0 : Int32)), (.ref a1)])) t
    refine X5.arraylength hx (by rw [e5]; exact Ar8.1) (State.isArrayOf_alike hZ.alike Ar8.2.1) (g := (mkF m 23 #[.val (.ref a1), .val (.int p2), .val (.ref b)] [(.ref a1), (.int (0 : Int32)), (.ref b), (.int (0 : Int32)), (.ref a1)])) rfl rfl (hb hby d13_23) _ ?_
    rw [len_of Sz8 Nz8]
    exact k)
  have pre10 : ∀ t, Steps p.tables e below (T5.setTop (mkF m 25 #[.val (.ref a1), .val (.int p2), .val (.ref b)] [(.int p2), (.int z), (.int (0 : Int32)), (.ref b), (.int (0 : Int32)), (.ref a1)])) t → Steps p.tables e below (s₁.setTop (entryFrame m #[(.ref a1), (.int p2)] 3)) t := fun t k => pre9 t (by
    show Steps p.tables e below (T5.setTop (mkF m 24 #[.val (.ref a1), .val (.int p2), .val (.ref b)] [(.int z), (.int (0 : Int32)), (.ref b), (.int (0 : Int32)), (.ref a1)])) _
    refine XS.iloadN X5.here hx rfl (hb hby d13_24) rfl ?_
    show Steps p.tables e below (T5.setTop (mkF m 25 #[.val (.ref a1), .val (.int p2), .val (.ref b)] [(.int p2), (.int z), (.int (0 : Int32)), (.ref b), (.int (0 : Int32)), (.ref a1)])) _
    exact k)
  obtain ⟨_, _, ⟨T11, L11, k11, n11⟩, -, X11, ⟨Lc11, hQ11, l11, y11, z11⟩, st11⟩ := Jvm.LawKit.callS X5 hx (y := (⟨"java/lang/Math", "min", "(II)I"⟩ : MethodName)) hown (mvT hZ (hw _ (List.mem_of_getElem? (i := 67) rfl))) (mvT hZ (hw _ (List.mem_of_getElem? (i := 68) rfl))) (mvT hZ (hw _ (List.mem_of_getElem? (i := 61) rfl))) (mvT hZ (hw _ (List.mem_of_getElem? (i := 69) rfl))) (by decide) (backOf (W := 4) (rm14 l Z a0 hw [] z p2  h5 n0 (Nat.le_trans Z0 KK5.1)) hZ (hw _ (List.mem_of_getElem? (i := 69) rfl)) (hw _ (List.mem_of_getElem? (i := 61) rfl)) (Nat.le_of_ble_eq_true rfl) (Nat.le_of_ble_eq_true rfl)) (g := (mkF m 25 #[.val (.ref a1), .val (.int p2), .val (.ref b)] [(.int p2), (.int z), (.int (0 : Int32)), (.ref b), (.int (0 : Int32)), (.ref a1)])) rfl (by rw [hml]; rfl) (argsL := [(.int z), (.int p2)]) (rest := [(.int (0 : Int32)), (.ref b), (.int (0 : Int32)), (.ref a1)]) (lenOf pdx_0 rfl) rfl (by show 2 * 0 + _ ≤ _; exact Nat.le_of_eq rfl) (hb hby d13_25) (fun _ _ => ⟨rfl, e5, (Nat.le_refl 1), (by show 0 + cp + 0 ≤ cp; omega)⟩)
  dsimp only [Pt.U, Pt.locs, Pt.cells, Pt.slots] at X11 l11 y11 z11 st11 hQ11
  subst l11 y11 z11
  obtain ⟨rfl, N11q, e11⟩ := hQ11
  have N11 := Fr.app N0 N11q
  have pre12 : ∀ t, Steps p.tables e below (T11.setTop (mkF m 28 #[.val (.ref a1), .val (.int p2), .val (.ref b)] [(.int (own_min z p2)), (.int (0 : Int32)), (.ref b), (.int (0 : Int32)), (.ref a1)])) t → Steps p.tables e below (s₁.setTop (entryFrame m #[(.ref a1), (.int p2)] 3)) t := fun t k => pre10 t (by
    show Steps p.tables e below (T5.setTop (mkF m 25 #[.val (.ref a1), .val (.int p2), .val (.ref b)] [(.int p2), (.int z), (.int (0 : Int32)), (.ref b), (.int (0 : Int32)), (.ref a1)])) t
    refine st11 _ ?_
    show Steps p.tables e below (T11.setTop (mkF m 28 #[.val (.ref a1), .val (.int p2), .val (.ref b)] [(.int (own_min z p2)), (.int (0 : Int32)), (.ref b), (.int (0 : Int32)), (.ref a1)])) t
    exact k)
  obtain ⟨ka, vs, Aa, Ga⟩ := Vw_5
  obtain ⟨kb, vb, Ab, Gb⟩ := V_b
  have Ab2 : Arv Z h5 b kb .long p2 (List.replicate p2.toNatClampNeg (.long (0 : Int64))) (.long (0 : Int64)) := Ab.pad (fun i => by rw [Gb, own_rep])
  obtain ⟨T13, h13, L13, X13, e13, N13, K13, V13, st13⟩ := cpA X11 hx hZ hown (hw _ (List.mem_of_getElem? (i := 70) rfl)) (hw _ (List.mem_of_getElem? (i := 73) rfl)) (hw _ (List.mem_of_getElem? (i := 71) rfl)) (hw _ (List.mem_of_getElem? (i := 72) rfl)) e11 Aa Ab2 (Or.inl ⟨rfl, rfl⟩) (sp := (0 : Int32)) (dp := (0 : Int32)) (nn := own_min z p2) (by decide) (by decide) (by rw [z2]; exact z3.1) (by rw [z2]; exact Nat.le_of_eq (Nat.zero_add _)) (by rw [z2]; show 0 + _ ≤ _; omega) rfl (by rw [z2, List.length_replicate]; show 0 + _ ≤ _; omega) N11 g_b (g := (mkF m 28 #[.val (.ref a1), .val (.int p2), .val (.ref b)] [(.int (own_min z p2)), (.int (0 : Int32)), (.ref b), (.int (0 : Int32)), (.ref a1)])) rfl (by rw [hml]; rfl) rfl (hb hby d13_28) (Nat.le_refl 1) (W := 0) (by show 2 * 0 + _ ≤ _; exact Nat.le_of_eq rfl) (by show _ ≤ 40; decide)
  have KK13 := KK5.trans K13 (own_k1 (Or.inr sz_b))
  have pre14 : ∀ t, Steps p.tables e below (T13.setTop (mkF m 31 #[.val (.ref a1), .val (.int p2), .val (.ref b)] [])) t → Steps p.tables e below (s₁.setTop (entryFrame m #[(.ref a1), (.int p2)] 3)) t := fun t k => pre12 t (by
    show Steps p.tables e below (T11.setTop (mkF m 28 #[.val (.ref a1), .val (.int p2), .val (.ref b)] [(.int (own_min z p2)), (.int (0 : Int32)), (.ref b), (.int (0 : Int32)), (.ref a1)])) t
    refine st13 _ ?_
    show Steps p.tables e below (T13.setTop (mkF m 31 #[.val (.ref a1), .val (.int p2), .val (.ref b)] [])) t
    exact k)
  have VV : own_wds Z h13 b p2 f := ⟨kb, _, V13, own_cpl Ga (by rw [z2]; exact hf)⟩
  have pre15 : ∀ t, Steps p.tables e below (T13.setTop (mkF m 32 #[.val (.ref a1), .val (.int p2), .val (.ref b)] [(.ref b)])) t → Steps p.tables e below (s₁.setTop (entryFrame m #[(.ref a1), (.int p2)] 3)) t := fun t k => pre14 t (by
    show Steps p.tables e below (T13.setTop (mkF m 31 #[.val (.ref a1), .val (.int p2), .val (.ref b)] [])) _
    refine XS.aloadN X13.here hx rfl (hb hby d13_31) rfl rfl ?_
    show Steps p.tables e below (T13.setTop (mkF m 32 #[.val (.ref a1), .val (.int p2), .val (.ref b)] [(.ref b)])) _
    exact k)
  obtain ⟨fs, hr, hrun, hended, hW, hsame⟩ := X13.leave (v := some (.ref b)) (fun h => by rw [Bd.returns] at h; cases h)
  refine ⟨_, _, pre15 _ ?_, hrun, hended, _, _, rfl, ?_, ⟨_, rfl⟩, hW, hsame.mono (Nat.le_of_ble_eq_true rfl) (by show 0 + cp + 0 ≤ cp; omega)⟩
  · show Steps p.tables e below (T13.setTop (mkF m 32 #[.val (.ref a1), .val (.int p2), .val (.ref b)] [(.ref b)])) _
    jvm_step X13.here [X13.here.top, hx, (hb hby d13_32), X13.method', Bd.returns, Value.isRef, FieldType.isReference]
    first | (intro acts; rw [hr _ acts rfl rfl rfl]) | rw [hr _ _ rfl rfl rfl]
    exact Steps.refl _
  · show Q13 Z a1 p2 z f cp h0 n0 _ T13.heap _
    rw [e13]
    exact ⟨b, rfl, N13, sz_b, KK13, VV⟩
theorem d15_0 : decode prog_101_method_10_code 0 = .ok (.iload_n 1, 1) := by decide +kernel
theorem d15_1 : decode prog_101_method_10_code 1 = .ok (.istore_n 2, 1) := by decide +kernel
theorem d15_2 : decode prog_101_method_10_code 2 = .ok (.iload_n 2, 1) := by decide +kernel
theorem d15_3 : decode prog_101_method_10_code 3 = .ok (.aload_n 0, 1) := by decide +kernel
theorem d15_4 : decode prog_101_method_10_code 4 = .ok (.getfield 7, 3) := by decide +kernel
theorem d15_7 : decode prog_101_method_10_code 7 = .ok (.arraylength, 1) := by decide +kernel
theorem d15_8 : decode prog_101_method_10_code 8 = .ok (.if_icmp .ge 22, 3) := by decide +kernel
theorem d15_11 : decode prog_101_method_10_code 11 = .ok (.aload_n 0, 1) := by decide +kernel
theorem d15_12 : decode prog_101_method_10_code 12 = .ok (.getfield 7, 3) := by decide +kernel
theorem d15_15 : decode prog_101_method_10_code 15 = .ok (.iload_n 2, 1) := by decide +kernel
theorem d15_16 : decode prog_101_method_10_code 16 = .ok (.laload, 1) := by decide +kernel
theorem d15_17 : decode prog_101_method_10_code 17 = .ok (.lconst 0, 1) := by decide +kernel
theorem d15_18 : decode prog_101_method_10_code 18 = .ok (.lcmp, 1) := by decide +kernel
theorem d15_19 : decode prog_101_method_10_code 19 = .ok (.ifCond .eq 5, 3) := by decide +kernel
theorem d15_22 : decode prog_101_method_10_code 22 = .ok (.iload_n 2, 1) := by decide +kernel
theorem d15_23 : decode prog_101_method_10_code 23 = .ok (.ireturn, 1) := by decide +kernel
theorem d15_24 : decode prog_101_method_10_code 24 = .ok (.iinc 2 1, 3) := by decide +kernel
theorem d15_27 : decode prog_101_method_10_code 27 = .ok (.goto (-25), 3) := by decide +kernel
theorem d15_30 : decode prog_101_method_10_code 30 = .ok (.iconst (-1), 1) := by decide +kernel
theorem d15_31 : decode prog_101_method_10_code 31 = .ok (.ireturn, 1) := by decide +kernel
theorem pn_15 : plainName "com/example/berchta/berchta/learn/NodeSet" = true := by first | (simp [plainName, overriddenIn]; done) | decide +kernel
theorem ef_15 (m : MethodId) (x0 : Addr) (x1 : Int32) : entryFrame m #[(.ref x0), (.int x1)] 3 = mkF m 0 #[.val (.ref x0), .val (.int x1), .unset] [] := by first | (simp [entryFrame, mkF, argsToLocals, Value.category]; done) | rfl
set_option maxRecDepth 65536 in
set_option maxHeartbeats 40000000 in
theorem own_nfloop {p : Program} {l : Launch} {e : Env} {s : State} {m : MethodId} {args : Array Value} {below : List Frame} {meth : Method} {c : Code} {Z : State} {a0 : Array Value} {h0 : Heap} {R : Room} {locs : List Loc} {cells slots : Nat} {a1 w : Addr} {p2 z : Int32} {f : Nat → Int64} (hx : p.tables.exec = Jvm.exec) (hZ : Z.Warmed39 s.vm) (hw : ∀ d ∈ tables_1, d.before a0 Z = true) (hby : c.code = prog_101_method_10_code) (hml : c.maxLocals = 3) (hown : s.vm.findClass "com/example/berchta/berchta/learn/NodeSet" = some m.cls) (Fw : Fld Z h0 a1 "com/example/berchta/berchta/learn/NodeSet" "words" "[J" (.ref w)) (Vw : own_wds Z h0 w z f) :
    ∀ (k : Nat) (i : Int32) (T0 : State), ¬ i < 0 → z.toInt - i.toInt ≤ k → Stand p l e R s m args below meth c T0 locs cells slots → T0.heap = h0 → ∃ (r : Int32) (T' : State) (pcr : Nat) (Ls : Array Slot), Stand p l e R s m args below meth c T' locs cells slots ∧ T'.heap = h0 ∧ own_nf f z i r ∧ decode c.code pcr = .ok (.ireturn, 1) ∧ ∀ t, Steps p.tables e below (T'.setTop (mkF m pcr Ls [.int r])) t → Steps p.tables e below (T0.setTop (mkF m 2 #[.val (.ref a1), .val (.int p2), .val (.int i)] [])) t := by
  intro k
  induction k with
  | zero =>
    intro i T0 hi hk X0 e0
    have hc : ¬ i < z := by rw [Int32.lt_iff_toInt_lt]; omega
    · skip
      have pre0 : ∀ t, Steps p.tables e below (T0.setTop (mkF m 2 #[.val (.ref a1), .val (.int p2), .val (.int i)] [])) t → Steps p.tables e below (T0.setTop (mkF m 2 #[.val (.ref a1), .val (.int p2), .val (.int i)] [])) t := fun t k => k
      have preo1 : ∀ t, Steps p.tables e below (T0.setTop (mkF m 4 #[.val (.ref a1), .val (.int p2), .val (.int i)] [(.ref a1), (.int i)])) t → Steps p.tables e below (T0.setTop (mkF m 2 #[.val (.ref a1), .val (.int p2), .val (.int i)] [])) t := fun t k => pre0 t (by
        show Steps p.tables e below (T0.setTop (mkF m 2 #[.val (.ref a1), .val (.int p2), .val (.int i)] [])) _
        refine XS.iloadN X0.here hx rfl (hb hby d15_2) rfl ?_
        show Steps p.tables e below (T0.setTop (mkF m 3 #[.val (.ref a1), .val (.int p2), .val (.int i)] [(.int i)])) _
        refine XS.aloadN X0.here hx rfl (hb hby d15_3) rfl rfl ?_
        show Steps p.tables e below (T0.setTop (mkF m 4 #[.val (.ref a1), .val (.int p2), .val (.int i)] [(.ref a1), (.int i)])) _
        exact k)
      obtain ⟨To2, Xo2, eo2, sto2⟩ := getF X0 hx hZ hown (host := "") (Or.inl (hw _ (List.mem_of_getElem? (i := 10) rfl))) Via.refl e0 Fw (g := (mkF m 4 #[.val (.ref a1), .val (.int p2), .val (.int i)] [(.ref a1), (.int i)])) rfl rfl (hb hby d15_4)
      have preo3 : ∀ t, Steps p.tables e below (To2.setTop (mkF m 7 #[.val (.ref a1), .val (.int p2), .val (.int i)] [(.ref w), (.int i)])) t → Steps p.tables e below (T0.setTop (mkF m 2 #[.val (.ref a1), .val (.int p2), .val (.int i)] [])) t := fun t k => preo1 t (by
        show Steps p.tables e below (T0.setTop (mkF m 4 #[.val (.ref a1), .val (.int p2), .val (.int i)] [(.ref a1), (.int i)])) t
        refine sto2 _ ?_
        show Steps p.tables e below (To2.setTop (mkF m 7 #[.val (.ref a1), .val (.int p2), .val (.int i)] [(.ref w), (.int i)])) t
        exact k)
      obtain ⟨clo4, Aro4, Szo4, Nzo4⟩ := own_wds_len Vw
      have preo5 : ∀ t, Steps p.tables e below (To2.setTop (mkF m 8 #[.val (.ref a1), .val (.int p2), .val (.int i)] [(.int z), (.int i)])) t → Steps p.tables e below (T0.setTop (mkF m 2 #[.val (.ref a1), .val (.int p2), .val (.int i)] [])) t := fun t k => preo3 t (by
        show Steps p.tables e below (To2.setTop (mkF m 7 #[.val (.ref a1), .val (.int p2), .val (.int i)] [(.ref w), (.int i)])) t
        refine Xo2.arraylength hx (by rw [eo2]; exact Aro4.1) (State.isArrayOf_alike hZ.alike Aro4.2.1) (g := (mkF m 7 #[.val (.ref a1), .val (.int p2), .val (.int i)] [(.ref w), (.int i)])) rfl rfl (hb hby d15_7) _ ?_
        rw [len_of Szo4 Nzo4]
        exact k)
      have preo6 : ∀ t, Steps p.tables e below (To2.setTop (mkF m 31 #[.val (.ref a1), .val (.int p2), .val (.int i)] [(.int (-1 : Int32))])) t → Steps p.tables e below (T0.setTop (mkF m 2 #[.val (.ref a1), .val (.int p2), .val (.int i)] [])) t := fun t k => preo5 t (by
        show Steps p.tables e below (To2.setTop (mkF m 8 #[.val (.ref a1), .val (.int p2), .val (.int i)] [(.int z), (.int i)])) _
        refine XS.icmpYes Xo2.here hx rfl (pc0 := 8) (pc' := 30) rfl (hb hby d15_8) rfl (flt hc).2.1 (by decide) (by decide) ?_
        show Steps p.tables e below (To2.setTop (mkF m 30 #[.val (.ref a1), .val (.int p2), .val (.int i)] [])) _
        refine XS.iconst Xo2.here hx rfl (hb hby d15_30) ?_
        show Steps p.tables e below (To2.setTop (mkF m 31 #[.val (.ref a1), .val (.int p2), .val (.int i)] [(.int (-1 : Int32))])) _
        exact k)
      exact ⟨-1, To2, 31, _, Xo2, eo2, Or.inl ⟨rfl, own_nf_out hi hc⟩, (hb hby d15_31), fun t k => preo6 t k⟩
  | succ k ih =>
    intro i T0 hi hk X0 e0
    by_cases hc : i < z
    · skip
      have pre0 : ∀ t, Steps p.tables e below (T0.setTop (mkF m 2 #[.val (.ref a1), .val (.int p2), .val (.int i)] [])) t → Steps p.tables e below (T0.setTop (mkF m 2 #[.val (.ref a1), .val (.int p2), .val (.int i)] [])) t := fun t k => k
      have prei1 : ∀ t, Steps p.tables e below (T0.setTop (mkF m 4 #[.val (.ref a1), .val (.int p2), .val (.int i)] [(.ref a1), (.int i)])) t → Steps p.tables e below (T0.setTop (mkF m 2 #[.val (.ref a1), .val (.int p2), .val (.int i)] [])) t := fun t k => pre0 t (by
        show Steps p.tables e below (T0.setTop (mkF m 2 #[.val (.ref a1), .val (.int p2), .val (.int i)] [])) _
        refine XS.iloadN X0.here hx rfl (hb hby d15_2) rfl ?_
        show Steps p.tables e below (T0.setTop (mkF m 3 #[.val (.ref a1), .val (.int p2), .val (.int i)] [(.int i)])) _
        refine XS.aloadN X0.here hx rfl (hb hby d15_3) rfl rfl ?_
        show Steps p.tables e below (T0.setTop (mkF m 4 #[.val (.ref a1), .val (.int p2), .val (.int i)] [(.ref a1), (.int i)])) _
        exact k)
      obtain ⟨Ti2, Xi2, ei2, sti2⟩ := getF X0 hx hZ hown (host := "") (Or.inl (hw _ (List.mem_of_getElem? (i := 10) rfl))) Via.refl e0 Fw (g := (mkF m 4 #[.val (.ref a1), .val (.int p2), .val (.int i)] [(.ref a1), (.int i)])) rfl rfl (hb hby d15_4)
      have prei3 : ∀ t, Steps p.tables e below (Ti2.setTop (mkF m 7 #[.val (.ref a1), .val (.int p2), .val (.int i)] [(.ref w), (.int i)])) t → Steps p.tables e below (T0.setTop (mkF m 2 #[.val (.ref a1), .val (.int p2), .val (.int i)] [])) t := fun t k => prei1 t (by
        show Steps p.tables e below (T0.setTop (mkF m 4 #[.val (.ref a1), .val (.int p2), .val (.int i)] [(.ref a1), (.int i)])) t
        refine sti2 _ ?_
        show Steps p.tables e below (Ti2.setTop (mkF m 7 #[.val (.ref a1), .val (.int p2), .val (.int i)] [(.ref w), (.int i)])) t
        exact k)
      obtain ⟨cli4, Ari4, Szi4, Nzi4⟩ := own_wds_len Vw
      have prei5 : ∀ t, Steps p.tables e below (Ti2.setTop (mkF m 8 #[.val (.ref a1), .val (.int p2), .val (.int i)] [(.int z), (.int i)])) t → Steps p.tables e below (T0.setTop (mkF m 2 #[.val (.ref a1), .val (.int p2), .val (.int i)] [])) t := fun t k => prei3 t (by
        show Steps p.tables e below (Ti2.setTop (mkF m 7 #[.val (.ref a1), .val (.int p2), .val (.int i)] [(.ref w), (.int i)])) t
        refine Xi2.arraylength hx (by rw [ei2]; exact Ari4.1) (State.isArrayOf_alike hZ.alike Ari4.2.1) (g := (mkF m 7 #[.val (.ref a1), .val (.int p2), .val (.int i)] [(.ref w), (.int i)])) rfl rfl (hb hby d15_7) _ ?_
        rw [len_of Szi4 Nzi4]
        exact k)
      have prei6 : ∀ t, Steps p.tables e below (Ti2.setTop (mkF m 12 #[.val (.ref a1), .val (.int p2), .val (.int i)] [(.ref a1)])) t → Steps p.tables e below (T0.setTop (mkF m 2 #[.val (.ref a1), .val (.int p2), .val (.int i)] [])) t := fun t k => prei5 t (by
        show Steps p.tables e below (Ti2.setTop (mkF m 8 #[.val (.ref a1), .val (.int p2), .val (.int i)] [(.int z), (.int i)])) _
        refine XS.icmpNo Xi2.here hx rfl (hb hby d15_8) rfl (tlt hc).2.1 ?_
        show Steps p.tables e below (Ti2.setTop (mkF m 11 #[.val (.ref a1), .val (.int p2), .val (.int i)] [])) _
        refine XS.aloadN Xi2.here hx rfl (hb hby d15_11) rfl rfl ?_
        show Steps p.tables e below (Ti2.setTop (mkF m 12 #[.val (.ref a1), .val (.int p2), .val (.int i)] [(.ref a1)])) _
        exact k)
      obtain ⟨Ti7, Xi7, ei7, sti7⟩ := getF Xi2 hx hZ hown (host := "") (Or.inl (hw _ (List.mem_of_getElem? (i := 10) rfl))) Via.refl ei2 Fw (g := (mkF m 12 #[.val (.ref a1), .val (.int p2), .val (.int i)] [(.ref a1)])) rfl rfl (hb hby d15_12)
      have prei8 : ∀ t, Steps p.tables e below (Ti7.setTop (mkF m 15 #[.val (.ref a1), .val (.int p2), .val (.int i)] [(.ref w)])) t → Steps p.tables e below (T0.setTop (mkF m 2 #[.val (.ref a1), .val (.int p2), .val (.int i)] [])) t := fun t k => prei6 t (by
        show Steps p.tables e below (Ti2.setTop (mkF m 12 #[.val (.ref a1), .val (.int p2), .val (.int i)] [(.ref a1)])) t
        refine sti7 _ ?_
        show Steps p.tables e below (Ti7.setTop (mkF m 15 #[.val (.ref a1), .val (.int p2), .val (.int i)] [(.ref w)])) t
        exact k)
      have prei9 : ∀ t, Steps p.tables e below (Ti7.setTop (mkF m 16 #[.val (.ref a1), .val (.int p2), .val (.int i)] [(.int i), (.ref w)])) t → Steps p.tables e below (T0.setTop (mkF m 2 #[.val (.ref a1), .val (.int p2), .val (.int i)] [])) t := fun t k => prei8 t (by
        show Steps p.tables e below (Ti7.setTop (mkF m 15 #[.val (.ref a1), .val (.int p2), .val (.int i)] [(.ref w)])) _
        refine XS.iloadN Xi7.here hx rfl (hb hby d15_15) rfl ?_
        show Steps p.tables e below (Ti7.setTop (mkF m 16 #[.val (.ref a1), .val (.int p2), .val (.int i)] [(.int i), (.ref w)])) _
        exact k)
      obtain ⟨cli10, Ari10, hini10, hati10⟩ := own_wds_get Vw ⟨hi, hc⟩
      have prei11 : ∀ t, Steps p.tables e below (Ti7.setTop (mkF m 17 #[.val (.ref a1), .val (.int p2), .val (.int i)] [(.long (f i.toNatClampNeg))])) t → Steps p.tables e below (T0.setTop (mkF m 2 #[.val (.ref a1), .val (.int p2), .val (.int i)] [])) t := fun t k => prei9 t (by
        show Steps p.tables e below (Ti7.setTop (mkF m 16 #[.val (.ref a1), .val (.int p2), .val (.int i)] [(.int i), (.ref w)])) t
        refine Xi7.laload hx (j := i) (v := (.long (f i.toNatClampNeg))) (by rw [ei7]; exact Ari10.1) (State.isArrayOf_alike hZ.alike Ari10.2.1) Ari10.2.2 hini10 hati10 (g := (mkF m 16 #[.val (.ref a1), .val (.int p2), .val (.int i)] [(.int i), (.ref w)])) rfl rfl (hb hby d15_16) _ ?_
        exact k)
      have prei12 : ∀ t, Steps p.tables e below (Ti7.setTop (mkF m 19 #[.val (.ref a1), .val (.int p2), .val (.int i)] [(.int (lcmpW (f i.toNatClampNeg) (0 : Int64)))])) t → Steps p.tables e below (T0.setTop (mkF m 2 #[.val (.ref a1), .val (.int p2), .val (.int i)] [])) t := fun t k => prei11 t (by
        show Steps p.tables e below (Ti7.setTop (mkF m 17 #[.val (.ref a1), .val (.int p2), .val (.int i)] [(.long (f i.toNatClampNeg))])) _
        refine XS.lconst Xi7.here hx rfl (hb hby d15_17) ?_
        show Steps p.tables e below (Ti7.setTop (mkF m 18 #[.val (.ref a1), .val (.int p2), .val (.int i)] [(.long (0 : Int64)), (.long (f i.toNatClampNeg))])) _
        refine XS.lcmp Xi7.here hx rfl (hb hby d15_18) rfl ?_
        show Steps p.tables e below (Ti7.setTop (mkF m 19 #[.val (.ref a1), .val (.int p2), .val (.int i)] [(.int (lcmpW (f i.toNatClampNeg) (0 : Int64)))])) _
        exact k)
      by_cases hq : f i.toNatClampNeg = 0
      · skip
        have prei13 : ∀ t, Steps p.tables e below (Ti7.setTop (mkF m 2 #[.val (.ref a1), .val (.int p2), .val (.int (i + (1 : Int32)))] [])) t → Steps p.tables e below (T0.setTop (mkF m 2 #[.val (.ref a1), .val (.int p2), .val (.int i)] [])) t := fun t k => prei12 t (by
          show Steps p.tables e below (Ti7.setTop (mkF m 19 #[.val (.ref a1), .val (.int p2), .val (.int i)] [(.int (lcmpW (f i.toNatClampNeg) (0 : Int64)))])) _
          refine XS.ifYes Xi7.here hx rfl (pc0 := 19) (pc' := 24) rfl (hb hby d15_19) rfl ((if0 _ _).trans (teq ((lw_eq _ _).mpr hq)).1) (by decide) (by decide) ?_
          show Steps p.tables e below (Ti7.setTop (mkF m 24 #[.val (.ref a1), .val (.int p2), .val (.int i)] [])) _
          refine XS.iinc Xi7.here hx rfl (hb hby d15_24) rfl (l' := #[.val (.ref a1), .val (.int p2), .val (.int (i + (1 : Int32)))]) rfl ?_
          show Steps p.tables e below (Ti7.setTop (mkF m 27 #[.val (.ref a1), .val (.int p2), .val (.int (i + (1 : Int32)))] [])) _
          refine XS.goto Xi7.here hx rfl (pc0 := 27) (pc' := 2) rfl (hb hby d15_27) (by decide) (by decide) ?_
          show Steps p.tables e below (Ti7.setTop (mkF m 2 #[.val (.ref a1), .val (.int p2), .val (.int (i + (1 : Int32)))] [])) _
          exact k)
        obtain ⟨hi2, hk2, hn2⟩ := own_succ hi hc
        obtain ⟨r, T', pcr, Ls, X', e', hr, hd, k2⟩ := ih (i + (1 : Int32)) Ti7 hi2 (by rw [hk2]; omega) Xi7 ei7
        exact ⟨r, T', pcr, Ls, X', e', own_nf_step hi hq hn2 hk2 hr, hd, fun t q => prei13 t (k2 t q)⟩
      · skip
        have prei14 : ∀ t, Steps p.tables e below (Ti7.setTop (mkF m 23 #[.val (.ref a1), .val (.int p2), .val (.int i)] [(.int i)])) t → Steps p.tables e below (T0.setTop (mkF m 2 #[.val (.ref a1), .val (.int p2), .val (.int i)] [])) t := fun t k => prei12 t (by
          show Steps p.tables e below (Ti7.setTop (mkF m 19 #[.val (.ref a1), .val (.int p2), .val (.int i)] [(.int (lcmpW (f i.toNatClampNeg) (0 : Int64)))])) _
          refine XS.ifNo Xi7.here hx rfl (hb hby d15_19) rfl ((if0 _ _).trans (feq (fun q => hq ((lw_eq _ _).mp q))).1) ?_
          show Steps p.tables e below (Ti7.setTop (mkF m 22 #[.val (.ref a1), .val (.int p2), .val (.int i)] [])) _
          refine XS.iloadN Xi7.here hx rfl (hb hby d15_22) rfl ?_
          show Steps p.tables e below (Ti7.setTop (mkF m 23 #[.val (.ref a1), .val (.int p2), .val (.int i)] [(.int i)])) _
          exact k)
        exact ⟨i, Ti7, 23, _, Xi7, ei7, Or.inr ⟨own_irr i, hc, hq, fun j p q => absurd q (Nat.not_lt.mpr p)⟩, (hb hby d15_23), fun t k => prei14 t k⟩
    · skip
      have pre0 : ∀ t, Steps p.tables e below (T0.setTop (mkF m 2 #[.val (.ref a1), .val (.int p2), .val (.int i)] [])) t → Steps p.tables e below (T0.setTop (mkF m 2 #[.val (.ref a1), .val (.int p2), .val (.int i)] [])) t := fun t k => k
      have preo1 : ∀ t, Steps p.tables e below (T0.setTop (mkF m 4 #[.val (.ref a1), .val (.int p2), .val (.int i)] [(.ref a1), (.int i)])) t → Steps p.tables e below (T0.setTop (mkF m 2 #[.val (.ref a1), .val (.int p2), .val (.int i)] [])) t := fun t k => pre0 t (by
        show Steps p.tables e below (T0.setTop (mkF m 2 #[.val (.ref a1), .val (.int p2), .val (.int i)] [])) _
        refine XS.iloadN X0.here hx rfl (hb hby d15_2) rfl ?_
        show Steps p.tables e below (T0.setTop (mkF m 3 #[.val (.ref a1), .val (.int p2), .val (.int i)] [(.int i)])) _
        refine XS.aloadN X0.here hx rfl (hb hby d15_3) rfl rfl ?_
        show Steps p.tables e below (T0.setTop (mkF m 4 #[.val (.ref a1), .val (.int p2), .val (.int i)] [(.ref a1), (.int i)])) _
        exact k)
      obtain ⟨To2, Xo2, eo2, sto2⟩ := getF X0 hx hZ hown (host := "") (Or.inl (hw _ (List.mem_of_getElem? (i := 10) rfl))) Via.refl e0 Fw (g := (mkF m 4 #[.val (.ref a1), .val (.int p2), .val (.int i)] [(.ref a1), (.int i)])) rfl rfl (hb hby d15_4)
      have preo3 : ∀ t, Steps p.tables e below (To2.setTop (mkF m 7 #[.val (.ref a1), .val (.int p2), .val (.int i)] [(.ref w), (.int i)])) t → Steps p.tables e below (T0.setTop (mkF m 2 #[.val (.ref a1), .val (.int p2), .val (.int i)] [])) t := fun t k => preo1 t (by
        show Steps p.tables e below (T0.setTop (mkF m 4 #[.val (.ref a1), .val (.int p2), .val (.int i)] [(.ref a1), (.int i)])) t
        refine sto2 _ ?_
        show Steps p.tables e below (To2.setTop (mkF m 7 #[.val (.ref a1), .val (.int p2), .val (.int i)] [(.ref w), (.int i)])) t
        exact k)
      obtain ⟨clo4, Aro4, Szo4, Nzo4⟩ := own_wds_len Vw
      have preo5 : ∀ t, Steps p.tables e below (To2.setTop (mkF m 8 #[.val (.ref a1), .val (.int p2), .val (.int i)] [(.int z), (.int i)])) t → Steps p.tables e below (T0.setTop (mkF m 2 #[.val (.ref a1), .val (.int p2), .val (.int i)] [])) t := fun t k => preo3 t (by
        show Steps p.tables e below (To2.setTop (mkF m 7 #[.val (.ref a1), .val (.int p2), .val (.int i)] [(.ref w), (.int i)])) t
        refine Xo2.arraylength hx (by rw [eo2]; exact Aro4.1) (State.isArrayOf_alike hZ.alike Aro4.2.1) (g := (mkF m 7 #[.val (.ref a1), .val (.int p2), .val (.int i)] [(.ref w), (.int i)])) rfl rfl (hb hby d15_7) _ ?_
        rw [len_of Szo4 Nzo4]
        exact k)
      have preo6 : ∀ t, Steps p.tables e below (To2.setTop (mkF m 31 #[.val (.ref a1), .val (.int p2), .val (.int i)] [(.int (-1 : Int32))])) t → Steps p.tables e below (T0.setTop (mkF m 2 #[.val (.ref a1), .val (.int p2), .val (.int i)] [])) t := fun t k => preo5 t (by
        show Steps p.tables e below (To2.setTop (mkF m 8 #[.val (.ref a1), .val (.int p2), .val (.int i)] [(.int z), (.int i)])) _
        refine XS.icmpYes Xo2.here hx rfl (pc0 := 8) (pc' := 30) rfl (hb hby d15_8) rfl (flt hc).2.1 (by decide) (by decide) ?_
        show Steps p.tables e below (To2.setTop (mkF m 30 #[.val (.ref a1), .val (.int p2), .val (.int i)] [])) _
        refine XS.iconst Xo2.here hx rfl (hb hby d15_30) ?_
        show Steps p.tables e below (To2.setTop (mkF m 31 #[.val (.ref a1), .val (.int p2), .val (.int i)] [(.int (-1 : Int32))])) _
        exact k)
      exact ⟨-1, To2, 31, _, Xo2, eo2, Or.inl ⟨rfl, own_nf_out hi hc⟩, (hb hby d15_31), fun t k => preo6 t k⟩
def Q15 (Z : State) (a1 : Addr) (p2 : Int32) (w : Addr) (z : Int32) (f : Nat → Int64) (h0 : Heap) (n0 : Nat) (v : Option Value) (h : Heap) (L : List Loc) : Prop := ∃ r : Int32, v = some (.int r) ∧ Fr n0 L ∧ h = h0 ∧ own_nf f z p2 r
set_option maxRecDepth 65536 in
set_option maxHeartbeats 40000000 in
theorem rm15 (l : Launch) (Z : State) (a0 : Array Value) (hw : ∀ d ∈ tables_1, d.before a0 Z = true) (ws : List Jvm.Cond) (a1 : Addr) (p2 : Int32) (w : Addr) (z : Int32) (f : Nat → Int64) (h0 : Heap) (n0 : Nat) (Z0 : n0 ≤ h0.size) (Fw : Fld Z h0 a1 "com/example/berchta/berchta/learn/NodeSet" "words" "[J" (.ref w)) (Vw : own_wds Z h0 w z f) (hi : ¬ p2 < 0) :
    MetFree l (⟨"com/example/berchta/berchta/learn/NodeSet", "nextFilled", "(I)I"⟩ : MethodName) (head1 (Jvm.Cond.code (⟨"com/example/berchta/berchta/learn/NodeSet", "nextFilled", "(I)I"⟩ : MethodName) prog_101_method_10_code 3 (some .int) :: ws) ({ frames := 0, cells := 0, slots := 0, locals := 0 } : Room)) (fun a U => a = #[(.ref a1), (.int p2)] ∧ Z.Warmed39 U.vm ∧ U.heap = h0) (fun _ _ _ _ _ => True) (fun _ U o U' => ∃ v L, o = .returned v ∧ Q15 Z a1 p2 w z f h0 n0 v U'.heap L ∧ FrameEnd U o U' L ({ frames := 0, cells := 0, slots := 0, locals := 0 } : Room).cells ({ frames := 0, cells := 0, slots := 0, locals := 0 } : Room).slots) := by
  refine MetFree.of_bodySF (plainFor_of_name pn_15) hisR ?_
  intro p e s m args below meth c s₁ Bd hml0 hP hK
  obtain ⟨rfl, hZ, hh⟩ := hP
  have hx := Bd.exec
  have hby := Bd.bytes
  have hml : c.maxLocals = 3 := hml0
  have hown : s.vm.findClass "com/example/berchta/berchta/learn/NodeSet" = some m.cls := findClass_of_methodNamed Bd.named
  have hnm := (name_of_methodNamed Bd.named Bd.method).1
  have X0 : Stand p l e ({ frames := 0, cells := 0, slots := 0, locals := 0 } : Room) s m #[(.ref a1), (.int p2)] below meth c s₁ [] 0 0 := Stand.of_body Bd
  have e0 : s₁.heap = h0 := by rw [← hh, Bd.state]; rfl
  have N0 := Fr.nil n0
  have pre0 : ∀ t, Steps p.tables e below (s₁.setTop (mkF m 0 #[.val (.ref a1), .val (.int p2), .unset] [])) t → Steps p.tables e below (s₁.setTop (entryFrame m #[(.ref a1), (.int p2)] 3)) t := fun t k => castTop (ef_15 m a1 p2) k
  have pre1 : ∀ t, Steps p.tables e below (s₁.setTop (mkF m 2 #[.val (.ref a1), .val (.int p2), .val (.int p2)] [])) t → Steps p.tables e below (s₁.setTop (entryFrame m #[(.ref a1), (.int p2)] 3)) t := fun t k => pre0 t (by
    show Steps p.tables e below (s₁.setTop (mkF m 0 #[.val (.ref a1), .val (.int p2), .unset] [])) _
    refine XS.iloadN X0.here hx rfl (hb hby d15_0) rfl ?_
    show Steps p.tables e below (s₁.setTop (mkF m 1 #[.val (.ref a1), .val (.int p2), .unset] [(.int p2)])) _
    refine XS.istoreN X0.here hx rfl (hb hby d15_1) rfl (l' := #[.val (.ref a1), .val (.int p2), .val (.int p2)]) rfl ?_
    show Steps p.tables e below (s₁.setTop (mkF m 2 #[.val (.ref a1), .val (.int p2), .val (.int p2)] [])) _
    exact k)
  obtain ⟨r, T', pcr, Ls, X', e', hrr, hd, k2⟩ := own_nfloop hx hZ hw hby hml hown Fw Vw (z.toInt - p2.toInt).toNat p2 s₁ hi (by omega) X0 e0
  obtain ⟨fs, hr, hrun, hended, hW, hsame⟩ := X'.leave (v := some (.int r)) (fun h => by rw [Bd.returns] at h; cases h)
  refine ⟨_, _, pre1 _ (k2 _ ?_), hrun, hended, _, _, rfl, ?_, ⟨_, rfl⟩, hW, hsame.mono (by decide) (by decide)⟩
  · exact retI X' hx Bd.returns hd hr
  · show Q15 Z a1 p2 w z f h0 n0 _ T'.heap _
    rw [e']
    exact ⟨r, rfl, N0, rfl, hrr⟩
theorem d5_0 : decode prog_101_method_5_code 0 = .ok (.iload_n 1, 1) := by decide +kernel
theorem d5_1 : decode prog_101_method_5_code 1 = .ok (.bipush 6, 2) := by decide +kernel
theorem d5_3 : decode prog_101_method_5_code 3 = .ok (.iushr, 1) := by decide +kernel
theorem d5_4 : decode prog_101_method_5_code 4 = .ok (.istore_n 2, 1) := by decide +kernel
theorem d5_5 : decode prog_101_method_5_code 5 = .ok (.iload_n 2, 1) := by decide +kernel
theorem d5_6 : decode prog_101_method_5_code 6 = .ok (.aload_n 0, 1) := by decide +kernel
theorem d5_7 : decode prog_101_method_5_code 7 = .ok (.getfield 7, 3) := by decide +kernel
theorem d5_10 : decode prog_101_method_5_code 10 = .ok (.arraylength, 1) := by decide +kernel
theorem d5_11 : decode prog_101_method_5_code 11 = .ok (.if_icmp .ge 22, 3) := by decide +kernel
theorem d5_14 : decode prog_101_method_5_code 14 = .ok (.aload_n 0, 1) := by decide +kernel
theorem d5_15 : decode prog_101_method_5_code 15 = .ok (.getfield 7, 3) := by decide +kernel
theorem d5_18 : decode prog_101_method_5_code 18 = .ok (.iload_n 2, 1) := by decide +kernel
theorem d5_19 : decode prog_101_method_5_code 19 = .ok (.laload, 1) := by decide +kernel
theorem d5_20 : decode prog_101_method_5_code 20 = .ok (.lconst 1, 1) := by decide +kernel
theorem d5_21 : decode prog_101_method_5_code 21 = .ok (.iload_n 1, 1) := by decide +kernel
theorem d5_22 : decode prog_101_method_5_code 22 = .ok (.lshl, 1) := by decide +kernel
theorem d5_23 : decode prog_101_method_5_code 23 = .ok (.land, 1) := by decide +kernel
theorem d5_24 : decode prog_101_method_5_code 24 = .ok (.lconst 0, 1) := by decide +kernel
theorem d5_25 : decode prog_101_method_5_code 25 = .ok (.lcmp, 1) := by decide +kernel
theorem d5_26 : decode prog_101_method_5_code 26 = .ok (.ifCond .eq 7, 3) := by decide +kernel
theorem d5_29 : decode prog_101_method_5_code 29 = .ok (.iconst 1, 1) := by decide +kernel
theorem d5_30 : decode prog_101_method_5_code 30 = .ok (.goto 4, 3) := by decide +kernel
theorem d5_33 : decode prog_101_method_5_code 33 = .ok (.iconst 0, 1) := by decide +kernel
theorem d5_34 : decode prog_101_method_5_code 34 = .ok (.ireturn, 1) := by decide +kernel
theorem pn_5 : plainName "com/example/berchta/berchta/learn/NodeSet" = true := by first | (simp [plainName, overriddenIn]; done) | decide +kernel
theorem ef_5 (m : MethodId) (x0 : Addr) (x1 : Int32) : entryFrame m #[(.ref x0), (.int x1)] 3 = mkF m 0 #[.val (.ref x0), .val (.int x1), .unset] [] := by first | (simp [entryFrame, mkF, argsToLocals, Value.category]; done) | rfl
def Q5 (Z : State) (a1 : Addr) (p2 : Int32) (w : Addr) (z : Int32) (f : Nat → Int64) (h0 : Heap) (n0 : Nat) (v : Option Value) (h : Heap) (L : List Loc) : Prop := v = some (.int (own_has f p2)) ∧ Fr n0 L ∧ h = h0
set_option maxRecDepth 65536 in
set_option maxHeartbeats 40000000 in
theorem rm5 (l : Launch) (Z : State) (a0 : Array Value) (hw : ∀ d ∈ tables_1, d.before a0 Z = true) (ws : List Jvm.Cond) (a1 : Addr) (p2 : Int32) (w : Addr) (z : Int32) (f : Nat → Int64) (h0 : Heap) (n0 : Nat) (Z0 : n0 ≤ h0.size) (Fw : Fld Z h0 a1 "com/example/berchta/berchta/learn/NodeSet" "words" "[J" (.ref w)) (Vw : own_wds Z h0 w z f) (hf0 : ∀ i, z.toNatClampNeg ≤ i → f i = 0) :
    MetFree l (⟨"com/example/berchta/berchta/learn/NodeSet", "contains", "(I)Z"⟩ : MethodName) (head1 (Jvm.Cond.code (⟨"com/example/berchta/berchta/learn/NodeSet", "contains", "(I)Z"⟩ : MethodName) prog_101_method_5_code 3 (some .boolean) :: ws) ({ frames := 0, cells := 0, slots := 0, locals := 0 } : Room)) (fun a U => a = #[(.ref a1), (.int p2)] ∧ Z.Warmed39 U.vm ∧ U.heap = h0) (fun _ _ _ _ _ => True) (fun _ U o U' => ∃ v L, o = .returned v ∧ Q5 Z a1 p2 w z f h0 n0 v U'.heap L ∧ FrameEnd U o U' L ({ frames := 0, cells := 0, slots := 0, locals := 0 } : Room).cells ({ frames := 0, cells := 0, slots := 0, locals := 0 } : Room).slots) := by
  refine MetFree.of_bodySF (plainFor_of_name pn_5) hisR ?_
  intro p e s m args below meth c s₁ Bd hml0 hP hK
  obtain ⟨rfl, hZ, hh⟩ := hP
  have hx := Bd.exec
  have hby := Bd.bytes
  have hml : c.maxLocals = 3 := hml0
  have hown : s.vm.findClass "com/example/berchta/berchta/learn/NodeSet" = some m.cls := findClass_of_methodNamed Bd.named
  have hnm := (name_of_methodNamed Bd.named Bd.method).1
  have X0 : Stand p l e ({ frames := 0, cells := 0, slots := 0, locals := 0 } : Room) s m #[(.ref a1), (.int p2)] below meth c s₁ [] 0 0 := Stand.of_body Bd
  have e0 : s₁.heap = h0 := by rw [← hh, Bd.state]; rfl
  have N0 := Fr.nil n0
  have pre0 : ∀ t, Steps p.tables e below (s₁.setTop (mkF m 0 #[.val (.ref a1), .val (.int p2), .unset] [])) t → Steps p.tables e below (s₁.setTop (entryFrame m #[(.ref a1), (.int p2)] 3)) t := fun t k => castTop (ef_5 m a1 p2) k
  have pre1 : ∀ t, Steps p.tables e below (s₁.setTop (mkF m 7 #[.val (.ref a1), .val (.int p2), .val (.int (own_wd p2))] [(.ref a1), (.int (own_wd p2))])) t → Steps p.tables e below (s₁.setTop (entryFrame m #[(.ref a1), (.int p2)] 3)) t := fun t k => pre0 t (by
    show Steps p.tables e below (s₁.setTop (mkF m 0 #[.val (.ref a1), .val (.int p2), .unset] [])) _
    refine XS.iloadN X0.here hx rfl (hb hby d5_0) rfl ?_
    show Steps p.tables e below (s₁.setTop (mkF m 1 #[.val (.ref a1), .val (.int p2), .unset] [(.int p2)])) _
    refine XS.bipush X0.here hx rfl (hb hby d5_1) ?_
    show Steps p.tables e below (s₁.setTop (mkF m 3 #[.val (.ref a1), .val (.int p2), .unset] [(.int (6 : Int32)), (.int p2)])) _
    refine XS.iushr X0.here hx rfl (hb hby d5_3) rfl ?_
    show Steps p.tables e below (s₁.setTop (mkF m 4 #[.val (.ref a1), .val (.int p2), .unset] [(.int ((p2.toUInt32 >>> ((6 : Int32) &&& 31).toUInt32).toInt32))])) _
    refine XS.istoreN X0.here hx rfl (hb hby d5_4) rfl (l' := #[.val (.ref a1), .val (.int p2), .val (.int (own_wd p2))]) rfl ?_
    show Steps p.tables e below (s₁.setTop (mkF m 5 #[.val (.ref a1), .val (.int p2), .val (.int (own_wd p2))] [])) _
    refine XS.iloadN X0.here hx rfl (hb hby d5_5) rfl ?_
    show Steps p.tables e below (s₁.setTop (mkF m 6 #[.val (.ref a1), .val (.int p2), .val (.int (own_wd p2))] [(.int (own_wd p2))])) _
    refine XS.aloadN X0.here hx rfl (hb hby d5_6) rfl rfl ?_
    show Steps p.tables e below (s₁.setTop (mkF m 7 #[.val (.ref a1), .val (.int p2), .val (.int (own_wd p2))] [(.ref a1), (.int (own_wd p2))])) _
    exact k)
  obtain ⟨T2, X2, e2, st2⟩ := getF X0 hx hZ hown (host := "") (Or.inl (hw _ (List.mem_of_getElem? (i := 10) rfl))) Via.refl e0 Fw (g := (mkF m 7 #[.val (.ref a1), .val (.int p2), .val (.int (own_wd p2))] [(.ref a1), (.int (own_wd p2))])) rfl rfl (hb hby d5_7)
  have pre3 : ∀ t, Steps p.tables e below (T2.setTop (mkF m 10 #[.val (.ref a1), .val (.int p2), .val (.int (own_wd p2))] [(.ref w), (.int (own_wd p2))])) t → Steps p.tables e below (s₁.setTop (entryFrame m #[(.ref a1), (.int p2)] 3)) t := fun t k => pre1 t (by
    show Steps p.tables e below (s₁.setTop (mkF m 7 #[.val (.ref a1), .val (.int p2), .val (.int (own_wd p2))] [(.ref a1), (.int (own_wd p2))])) t
    refine st2 _ ?_
    show Steps p.tables e below (T2.setTop (mkF m 10 #[.val (.ref a1), .val (.int p2), .val (.int (own_wd p2))] [(.ref w), (.int (own_wd p2))])) t
    exact k)
  obtain ⟨cl4, Ar4, Sz4, Nz4⟩ := own_wds_len Vw
  have pre5 : ∀ t, Steps p.tables e below (T2.setTop (mkF m 11 #[.val (.ref a1), .val (.int p2), .val (.int (own_wd p2))] [(.int z), (.int (own_wd p2))])) t → Steps p.tables e below (s₁.setTop (entryFrame m #[(.ref a1), (.int p2)] 3)) t := fun t k => pre3 t (by
    show Steps p.tables e below (T2.setTop (mkF m 10 #[.val (.ref a1), .val (.int p2), .val (.int (own_wd p2))] [(.ref w), (.int (own_wd p2))])) t
    refine X2.arraylength hx (by rw [e2]; exact Ar4.1) (State.isArrayOf_alike hZ.alike Ar4.2.1) (g := (mkF m 10 #[.val (.ref a1), .val (.int p2), .val (.int (own_wd p2))] [(.ref w), (.int (own_wd p2))])) rfl rfl (hb hby d5_10) _ ?_
    rw [len_of Sz4 Nz4]
    exact k)
  by_cases hc : own_wd p2 < z
  · skip
    have pre6 : ∀ t, Steps p.tables e below (T2.setTop (mkF m 15 #[.val (.ref a1), .val (.int p2), .val (.int (own_wd p2))] [(.ref a1)])) t → Steps p.tables e below (s₁.setTop (entryFrame m #[(.ref a1), (.int p2)] 3)) t := fun t k => pre5 t (by
      show Steps p.tables e below (T2.setTop (mkF m 11 #[.val (.ref a1), .val (.int p2), .val (.int (own_wd p2))] [(.int z), (.int (own_wd p2))])) _
      refine XS.icmpNo X2.here hx rfl (hb hby d5_11) rfl (tlt hc).2.1 ?_
      show Steps p.tables e below (T2.setTop (mkF m 14 #[.val (.ref a1), .val (.int p2), .val (.int (own_wd p2))] [])) _
      refine XS.aloadN X2.here hx rfl (hb hby d5_14) rfl rfl ?_
      show Steps p.tables e below (T2.setTop (mkF m 15 #[.val (.ref a1), .val (.int p2), .val (.int (own_wd p2))] [(.ref a1)])) _
      exact k)
    obtain ⟨T7, X7, e7, st7⟩ := getF X2 hx hZ hown (host := "") (Or.inl (hw _ (List.mem_of_getElem? (i := 10) rfl))) Via.refl e2 Fw (g := (mkF m 15 #[.val (.ref a1), .val (.int p2), .val (.int (own_wd p2))] [(.ref a1)])) rfl rfl (hb hby d5_15)
    have pre8 : ∀ t, Steps p.tables e below (T7.setTop (mkF m 18 #[.val (.ref a1), .val (.int p2), .val (.int (own_wd p2))] [(.ref w)])) t → Steps p.tables e below (s₁.setTop (entryFrame m #[(.ref a1), (.int p2)] 3)) t := fun t k => pre6 t (by
      show Steps p.tables e below (T2.setTop (mkF m 15 #[.val (.ref a1), .val (.int p2), .val (.int (own_wd p2))] [(.ref a1)])) t
      refine st7 _ ?_
      show Steps p.tables e below (T7.setTop (mkF m 18 #[.val (.ref a1), .val (.int p2), .val (.int (own_wd p2))] [(.ref w)])) t
      exact k)
    have pre9 : ∀ t, Steps p.tables e below (T7.setTop (mkF m 19 #[.val (.ref a1), .val (.int p2), .val (.int (own_wd p2))] [(.int (own_wd p2)), (.ref w)])) t → Steps p.tables e below (s₁.setTop (entryFrame m #[(.ref a1), (.int p2)] 3)) t := fun t k => pre8 t (by
      show Steps p.tables e below (T7.setTop (mkF m 18 #[.val (.ref a1), .val (.int p2), .val (.int (own_wd p2))] [(.ref w)])) _
      refine XS.iloadN X7.here hx rfl (hb hby d5_18) rfl ?_
      show Steps p.tables e below (T7.setTop (mkF m 19 #[.val (.ref a1), .val (.int p2), .val (.int (own_wd p2))] [(.int (own_wd p2)), (.ref w)])) _
      exact k)
    obtain ⟨cl10, Ar10, hin10, hat10⟩ := own_wds_get Vw ⟨own_wd_pos p2, hc⟩
    have pre11 : ∀ t, Steps p.tables e below (T7.setTop (mkF m 20 #[.val (.ref a1), .val (.int p2), .val (.int (own_wd p2))] [(.long (f (own_ix p2)))])) t → Steps p.tables e below (s₁.setTop (entryFrame m #[(.ref a1), (.int p2)] 3)) t := fun t k => pre9 t (by
      show Steps p.tables e below (T7.setTop (mkF m 19 #[.val (.ref a1), .val (.int p2), .val (.int (own_wd p2))] [(.int (own_wd p2)), (.ref w)])) t
      refine X7.laload hx (j := (own_wd p2)) (v := (.long (f (own_ix p2)))) (by rw [e7]; exact Ar10.1) (State.isArrayOf_alike hZ.alike Ar10.2.1) Ar10.2.2 hin10 hat10 (g := (mkF m 19 #[.val (.ref a1), .val (.int p2), .val (.int (own_wd p2))] [(.int (own_wd p2)), (.ref w)])) rfl rfl (hb hby d5_19) _ ?_
      exact k)
    have pre12 : ∀ t, Steps p.tables e below (T7.setTop (mkF m 26 #[.val (.ref a1), .val (.int p2), .val (.int (own_wd p2))] [(.int (lcmpW ((f (own_ix p2)) &&& (own_bo p2)) (0 : Int64)))])) t → Steps p.tables e below (s₁.setTop (entryFrame m #[(.ref a1), (.int p2)] 3)) t := fun t k => pre11 t (by
      show Steps p.tables e below (T7.setTop (mkF m 20 #[.val (.ref a1), .val (.int p2), .val (.int (own_wd p2))] [(.long (f (own_ix p2)))])) _
      refine XS.lconst X7.here hx rfl (hb hby d5_20) ?_
      show Steps p.tables e below (T7.setTop (mkF m 21 #[.val (.ref a1), .val (.int p2), .val (.int (own_wd p2))] [(.long (1 : Int64)), (.long (f (own_ix p2)))])) _
      refine XS.iloadN X7.here hx rfl (hb hby d5_21) rfl ?_
      show Steps p.tables e below (T7.setTop (mkF m 22 #[.val (.ref a1), .val (.int p2), .val (.int (own_wd p2))] [(.int p2), (.long (1 : Int64)), (.long (f (own_ix p2)))])) _
      refine XS.lshl X7.here hx rfl (hb hby d5_22) rfl ?_
      show Steps p.tables e below (T7.setTop (mkF m 23 #[.val (.ref a1), .val (.int p2), .val (.int (own_wd p2))] [(.long (own_bo p2)), (.long (f (own_ix p2)))])) _
      refine XS.land X7.here hx rfl (hb hby d5_23) rfl ?_
      show Steps p.tables e below (T7.setTop (mkF m 24 #[.val (.ref a1), .val (.int p2), .val (.int (own_wd p2))] [(.long ((f (own_ix p2)) &&& (own_bo p2)))])) _
      refine XS.lconst X7.here hx rfl (hb hby d5_24) ?_
      show Steps p.tables e below (T7.setTop (mkF m 25 #[.val (.ref a1), .val (.int p2), .val (.int (own_wd p2))] [(.long (0 : Int64)), (.long ((f (own_ix p2)) &&& (own_bo p2)))])) _
      refine XS.lcmp X7.here hx rfl (hb hby d5_25) rfl ?_
      show Steps p.tables e below (T7.setTop (mkF m 26 #[.val (.ref a1), .val (.int p2), .val (.int (own_wd p2))] [(.int (lcmpW ((f (own_ix p2)) &&& (own_bo p2)) (0 : Int64)))])) _
      exact k)
    by_cases hbit : own_mem f p2 = true
    · skip
      have pre13 : ∀ t, Steps p.tables e below (T7.setTop (mkF m 34 #[.val (.ref a1), .val (.int p2), .val (.int (own_wd p2))] [(.int (1 : Int32))])) t → Steps p.tables e below (s₁.setTop (entryFrame m #[(.ref a1), (.int p2)] 3)) t := fun t k => pre12 t (by
        show Steps p.tables e below (T7.setTop (mkF m 26 #[.val (.ref a1), .val (.int p2), .val (.int (own_wd p2))] [(.int (lcmpW ((f (own_ix p2)) &&& (own_bo p2)) (0 : Int64)))])) _
        refine XS.ifNo X7.here hx rfl (hb hby d5_26) rfl ((if0 _ _).trans (feq (fun q => own_and_ne hbit ((lw_eq _ _).mp q))).1) ?_
        show Steps p.tables e below (T7.setTop (mkF m 29 #[.val (.ref a1), .val (.int p2), .val (.int (own_wd p2))] [])) _
        refine XS.iconst X7.here hx rfl (hb hby d5_29) ?_
        show Steps p.tables e below (T7.setTop (mkF m 30 #[.val (.ref a1), .val (.int p2), .val (.int (own_wd p2))] [(.int (1 : Int32))])) _
        refine XS.goto X7.here hx rfl (pc0 := 30) (pc' := 34) rfl (hb hby d5_30) (by decide) (by decide) ?_
        show Steps p.tables e below (T7.setTop (mkF m 34 #[.val (.ref a1), .val (.int p2), .val (.int (own_wd p2))] [(.int (1 : Int32))])) _
        exact k)
      obtain ⟨fs, hr, hrun, hended, hW, hsame⟩ := X7.leave (v := some (.int (1 : Int32))) (fun h => by rw [Bd.returns] at h; cases h)
      refine ⟨_, _, pre13 _ ?_, hrun, hended, _, _, rfl, ?_, ⟨_, rfl⟩, hW, hsame.mono (by decide) (by decide)⟩
      · show Steps p.tables e below (T7.setTop (mkF m 34 #[.val (.ref a1), .val (.int p2), .val (.int (own_wd p2))] [(.int (1 : Int32))])) _
        exact retN X7 hx (t := .boolean) Bd.returns (by simp) (hb hby d5_34) hr
      · show Q5 Z a1 p2 w z f h0 n0 _ T7.heap _
        rw [e7]
        exact ⟨congrArg (fun z => some (Value.int z)) (Eq.symm (if_pos hbit)), N0, rfl⟩
    · skip
      have pre14 : ∀ t, Steps p.tables e below (T7.setTop (mkF m 34 #[.val (.ref a1), .val (.int p2), .val (.int (own_wd p2))] [(.int (0 : Int32))])) t → Steps p.tables e below (s₁.setTop (entryFrame m #[(.ref a1), (.int p2)] 3)) t := fun t k => pre12 t (by
        show Steps p.tables e below (T7.setTop (mkF m 26 #[.val (.ref a1), .val (.int p2), .val (.int (own_wd p2))] [(.int (lcmpW ((f (own_ix p2)) &&& (own_bo p2)) (0 : Int64)))])) _
        refine XS.ifYes X7.here hx rfl (pc0 := 26) (pc' := 33) rfl (hb hby d5_26) rfl ((if0 _ _).trans (teq ((lw_eq _ _).mpr ((own_and_zero _ _).mpr (Bool.eq_false_iff.mpr hbit)))).1) (by decide) (by decide) ?_
        show Steps p.tables e below (T7.setTop (mkF m 33 #[.val (.ref a1), .val (.int p2), .val (.int (own_wd p2))] [])) _
        refine XS.iconst X7.here hx rfl (hb hby d5_33) ?_
        show Steps p.tables e below (T7.setTop (mkF m 34 #[.val (.ref a1), .val (.int p2), .val (.int (own_wd p2))] [(.int (0 : Int32))])) _
        exact k)
      obtain ⟨fs, hr, hrun, hended, hW, hsame⟩ := X7.leave (v := some (.int (0 : Int32))) (fun h => by rw [Bd.returns] at h; cases h)
      refine ⟨_, _, pre14 _ ?_, hrun, hended, _, _, rfl, ?_, ⟨_, rfl⟩, hW, hsame.mono (by decide) (by decide)⟩
      · show Steps p.tables e below (T7.setTop (mkF m 34 #[.val (.ref a1), .val (.int p2), .val (.int (own_wd p2))] [(.int (0 : Int32))])) _
        exact retN X7 hx (t := .boolean) Bd.returns (by simp) (hb hby d5_34) hr
      · show Q5 Z a1 p2 w z f h0 n0 _ T7.heap _
        rw [e7]
        exact ⟨congrArg (fun z => some (Value.int z)) (Eq.symm (if_neg hbit)), N0, rfl⟩
  · skip
    have pre15 : ∀ t, Steps p.tables e below (T2.setTop (mkF m 34 #[.val (.ref a1), .val (.int p2), .val (.int (own_wd p2))] [(.int (0 : Int32))])) t → Steps p.tables e below (s₁.setTop (entryFrame m #[(.ref a1), (.int p2)] 3)) t := fun t k => pre5 t (by
      show Steps p.tables e below (T2.setTop (mkF m 11 #[.val (.ref a1), .val (.int p2), .val (.int (own_wd p2))] [(.int z), (.int (own_wd p2))])) _
      refine XS.icmpYes X2.here hx rfl (pc0 := 11) (pc' := 33) rfl (hb hby d5_11) rfl (flt hc).2.1 (by decide) (by decide) ?_
      show Steps p.tables e below (T2.setTop (mkF m 33 #[.val (.ref a1), .val (.int p2), .val (.int (own_wd p2))] [])) _
      refine XS.iconst X2.here hx rfl (hb hby d5_33) ?_
      show Steps p.tables e below (T2.setTop (mkF m 34 #[.val (.ref a1), .val (.int p2), .val (.int (own_wd p2))] [(.int (0 : Int32))])) _
      exact k)
    obtain ⟨fs, hr, hrun, hended, hW, hsame⟩ := X2.leave (v := some (.int (0 : Int32))) (fun h => by rw [Bd.returns] at h; cases h)
    refine ⟨_, _, pre15 _ ?_, hrun, hended, _, _, rfl, ?_, ⟨_, rfl⟩, hW, hsame.mono (by decide) (by decide)⟩
    · show Steps p.tables e below (T2.setTop (mkF m 34 #[.val (.ref a1), .val (.int p2), .val (.int (own_wd p2))] [(.int (0 : Int32))])) _
      exact retN X2 hx (t := .boolean) Bd.returns (by simp) (hb hby d5_34) hr
    · show Q5 Z a1 p2 w z f h0 n0 _ T2.heap _
      rw [e2]
      exact ⟨congrArg (fun z => some (Value.int z)) (Eq.symm (if_neg (own_mem_out hf0 hc))), N0, rfl⟩
theorem d11_0 : decode prog_101_method_11_code 0 = .ok (.aload_n 0, 1) := by decide +kernel
theorem d11_1 : decode prog_101_method_11_code 1 = .ok (.aload_n 0, 1) := by decide +kernel
theorem d11_2 : decode prog_101_method_11_code 2 = .ok (.getfield 7, 3) := by decide +kernel
theorem d11_5 : decode prog_101_method_11_code 5 = .ok (.iconst 2, 1) := by decide +kernel
theorem d11_6 : decode prog_101_method_11_code 6 = .ok (.aload_n 0, 1) := by decide +kernel
theorem d11_7 : decode prog_101_method_11_code 7 = .ok (.getfield 7, 3) := by decide +kernel
theorem d11_10 : decode prog_101_method_11_code 10 = .ok (.arraylength, 1) := by decide +kernel
theorem d11_11 : decode prog_101_method_11_code 11 = .ok (.imul, 1) := by decide +kernel
theorem d11_12 : decode prog_101_method_11_code 12 = .ok (.iload_n 1, 1) := by decide +kernel
theorem d11_13 : decode prog_101_method_11_code 13 = .ok (.iconst 1, 1) := by decide +kernel
theorem d11_14 : decode prog_101_method_11_code 14 = .ok (.iadd, 1) := by decide +kernel
theorem d11_15 : decode prog_101_method_11_code 15 = .ok (.invokestatic 64, 3) := by decide +kernel
theorem d11_18 : decode prog_101_method_11_code 18 = .ok (.invokestatic 70, 3) := by decide +kernel
theorem d11_21 : decode prog_101_method_11_code 21 = .ok (.putfield 7, 3) := by decide +kernel
theorem d11_24 : decode prog_101_method_11_code 24 = .ok (.aload_n 0, 1) := by decide +kernel
theorem d11_25 : decode prog_101_method_11_code 25 = .ok (.getfield 19, 3) := by decide +kernel
theorem d11_28 : decode prog_101_method_11_code 28 = .ok (.ifnonnull 53, 3) := by decide +kernel
theorem d11_31 : decode prog_101_method_11_code 31 = .ok (.aload_n 0, 1) := by decide +kernel
theorem d11_32 : decode prog_101_method_11_code 32 = .ok (.getfield 7, 3) := by decide +kernel
theorem d11_35 : decode prog_101_method_11_code 35 = .ok (.arraylength, 1) := by decide +kernel
theorem d11_36 : decode prog_101_method_11_code 36 = .ok (.bipush 64, 2) := by decide +kernel
theorem d11_38 : decode prog_101_method_11_code 38 = .ok (.if_icmp .le 43, 3) := by decide +kernel
theorem d11_41 : decode prog_101_method_11_code 41 = .ok (.aload_n 0, 1) := by decide +kernel
theorem d11_42 : decode prog_101_method_11_code 42 = .ok (.new 8, 3) := by decide +kernel
theorem d11_45 : decode prog_101_method_11_code 45 = .ok (.dup, 1) := by decide +kernel
theorem d11_46 : decode prog_101_method_11_code 46 = .ok (.invokespecial 13, 3) := by decide +kernel
theorem d11_49 : decode prog_101_method_11_code 49 = .ok (.putfield 19, 3) := by decide +kernel
theorem d11_52 : decode prog_101_method_11_code 52 = .ok (.aload_n 0, 1) := by decide +kernel
theorem d11_53 : decode prog_101_method_11_code 53 = .ok (.iconst 0, 1) := by decide +kernel
theorem d11_54 : decode prog_101_method_11_code 54 = .ok (.invokevirtual 49, 3) := by decide +kernel
theorem d11_57 : decode prog_101_method_11_code 57 = .ok (.istore_n 2, 1) := by decide +kernel
theorem d11_58 : decode prog_101_method_11_code 58 = .ok (.iload_n 2, 1) := by decide +kernel
theorem d11_59 : decode prog_101_method_11_code 59 = .ok (.ifCond .lt 22, 3) := by decide +kernel
theorem d11_62 : decode prog_101_method_11_code 62 = .ok (.aload_n 0, 1) := by decide +kernel
theorem d11_63 : decode prog_101_method_11_code 63 = .ok (.getfield 19, 3) := by decide +kernel
theorem d11_66 : decode prog_101_method_11_code 66 = .ok (.iload_n 2, 1) := by decide +kernel
theorem d11_67 : decode prog_101_method_11_code 67 = .ok (.invokevirtual 35, 3) := by decide +kernel
theorem d11_70 : decode prog_101_method_11_code 70 = .ok (.aload_n 0, 1) := by decide +kernel
theorem d11_71 : decode prog_101_method_11_code 71 = .ok (.iload_n 2, 1) := by decide +kernel
theorem d11_72 : decode prog_101_method_11_code 72 = .ok (.iconst 1, 1) := by decide +kernel
theorem d11_73 : decode prog_101_method_11_code 73 = .ok (.iadd, 1) := by decide +kernel
theorem d11_74 : decode prog_101_method_11_code 74 = .ok (.invokevirtual 49, 3) := by decide +kernel
theorem d11_77 : decode prog_101_method_11_code 77 = .ok (.istore_n 2, 1) := by decide +kernel
theorem d11_78 : decode prog_101_method_11_code 78 = .ok (.goto (-20), 3) := by decide +kernel
theorem d11_81 : decode prog_101_method_11_code 81 = .ok (.return_, 1) := by decide +kernel
theorem pn_11 : plainName "com/example/berchta/berchta/learn/NodeSet" = true := by first | (simp [plainName, overriddenIn]; done) | decide +kernel
theorem ef_11 (m : MethodId) (x0 : Addr) (x1 : Int32) : entryFrame m #[(.ref x0), (.int x1)] 3 = mkF m 0 #[.val (.ref x0), .val (.int x1), .unset] [] := by first | (simp [entryFrame, mkF, argsToLocals, Value.category]; done) | rfl
def QGL (Z : State) (a1 : Addr) (p2 : Int32) (w : Addr) (g : Nat → Int64) (s2 : Int32) (h0 : Heap) (n0 : Nat) (v : Option Value) (h : Heap) (L : List Loc) : Prop := ∃ w' : Addr, v = none ∧ Fr n0 L ∧ own_leaf Z h n0 a1 w' 2 g s2 ∧ Keep h0 h [a1] ∧ h0.size ≤ w'
set_option maxRecDepth 65536 in
set_option maxHeartbeats 40000000 in
theorem rmGL (l : Launch) (Z : State) (a0 : Array Value) (hw : ∀ d ∈ tables_1, d.before a0 Z = true) (ws : List Jvm.Cond) (a1 : Addr) (p2 : Int32) (w : Addr) (g : Nat → Int64) (s2 : Int32) (h0 : Heap) (n0 : Nat) (Z0 : n0 ≤ h0.size) (LF : own_leaf Z h0 n0 a1 w 1 g s2) (hp2 : p2 = (1 : Int32)) :
    MetFree l (⟨"com/example/berchta/berchta/learn/NodeSet", "grow", "(I)V"⟩ : MethodName) (head1 (Jvm.Cond.code (⟨"com/example/berchta/berchta/learn/NodeSet", "grow", "(I)V"⟩ : MethodName) prog_101_method_11_code 3 none :: ws) ({ frames := 2, cells := 1, slots := 2, locals := 55 } : Room)) (fun a U => a = #[(.ref a1), (.int p2)] ∧ Z.Warmed39 U.vm ∧ U.heap = h0) (fun _ _ _ _ _ => True) (fun _ U o U' => ∃ v L, o = .returned v ∧ QGL Z a1 p2 w g s2 h0 n0 v U'.heap L ∧ FrameEnd U o U' L ({ frames := 2, cells := 1, slots := 2, locals := 55 } : Room).cells ({ frames := 2, cells := 1, slots := 2, locals := 55 } : Room).slots) := by
  refine MetFree.of_bodySF (plainFor_of_name pn_11) hisR ?_
  intro p e s m args below meth c s₁ Bd hml0 hP hK
  obtain ⟨rfl, hZ, hh⟩ := hP
  have hx := Bd.exec
  have hby := Bd.bytes
  have hml : c.maxLocals = 3 := hml0
  have hown : s.vm.findClass "com/example/berchta/berchta/learn/NodeSet" = some m.cls := findClass_of_methodNamed Bd.named
  have hnm := (name_of_methodNamed Bd.named Bd.method).1
  have X0 : Stand p l e ({ frames := 2, cells := 1, slots := 2, locals := 55 } : Room) s m #[(.ref a1), (.int p2)] below meth c s₁ [] 0 0 := Stand.of_body Bd
  have e0 : s₁.heap = h0 := by rw [← hh, Bd.state]; rfl
  have N0 := Fr.nil n0
  have pre0 : ∀ t, Steps p.tables e below (s₁.setTop (mkF m 0 #[.val (.ref a1), .val (.int p2), .unset] [])) t → Steps p.tables e below (s₁.setTop (entryFrame m #[(.ref a1), (.int p2)] 3)) t := fun t k => castTop (ef_11 m a1 p2) k
  obtain ⟨E_a1, Fw_a1, Ff_a1, Fs_a1, Vw_w, -, hg0, g_a1, gw, naw⟩ := LF
  have hN : (own_max ((2 : Int32) * (1 : Int32)) (p2 + (1 : Int32))) = (2 : Int32) := by rw [hp2]; decide
  have KK0 : Keep h0 h0 [a1] := Keep.refl h0 [a1]
  have pre1 : ∀ t, Steps p.tables e below (s₁.setTop (mkF m 2 #[.val (.ref a1), .val (.int p2), .unset] [(.ref a1), (.ref a1)])) t → Steps p.tables e below (s₁.setTop (entryFrame m #[(.ref a1), (.int p2)] 3)) t := fun t k => pre0 t (by
    show Steps p.tables e below (s₁.setTop (mkF m 0 #[.val (.ref a1), .val (.int p2), .unset] [])) _
    refine XS.aloadN X0.here hx rfl (hb hby d11_0) rfl rfl ?_
    show Steps p.tables e below (s₁.setTop (mkF m 1 #[.val (.ref a1), .val (.int p2), .unset] [(.ref a1)])) _
    refine XS.aloadN X0.here hx rfl (hb hby d11_1) rfl rfl ?_
    show Steps p.tables e below (s₁.setTop (mkF m 2 #[.val (.ref a1), .val (.int p2), .unset] [(.ref a1), (.ref a1)])) _
    exact k)
  obtain ⟨T2, X2, e2, st2⟩ := getF X0 hx hZ hown (host := "") (Or.inl (hw _ (List.mem_of_getElem? (i := 10) rfl))) Via.refl e0 Fw_a1 (g := (mkF m 2 #[.val (.ref a1), .val (.int p2), .unset] [(.ref a1), (.ref a1)])) rfl rfl (hb hby d11_2)
  have pre3 : ∀ t, Steps p.tables e below (T2.setTop (mkF m 5 #[.val (.ref a1), .val (.int p2), .unset] [(.ref w), (.ref a1)])) t → Steps p.tables e below (s₁.setTop (entryFrame m #[(.ref a1), (.int p2)] 3)) t := fun t k => pre1 t (by
    show Steps p.tables e below (s₁.setTop (mkF m 2 #[.val (.ref a1), .val (.int p2), .unset] [(.ref a1), (.ref a1)])) t
    refine st2 _ ?_
    show Steps p.tables e below (T2.setTop (mkF m 5 #[.val (.ref a1), .val (.int p2), .unset] [(.ref w), (.ref a1)])) t
    exact k)
  have pre4 : ∀ t, Steps p.tables e below (T2.setTop (mkF m 7 #[.val (.ref a1), .val (.int p2), .unset] [(.ref a1), (.int (2 : Int32)), (.ref w), (.ref a1)])) t → Steps p.tables e below (s₁.setTop (entryFrame m #[(.ref a1), (.int p2)] 3)) t := fun t k => pre3 t (by
    show Steps p.tables e below (T2.setTop (mkF m 5 #[.val (.ref a1), .val (.int p2), .unset] [(.ref w), (.ref a1)])) _
    refine XS.iconst X2.here hx rfl (hb hby d11_5) ?_
    show Steps p.tables e below (T2.setTop (mkF m 6 #[.val (.ref a1), .val (.int p2), .unset] [(.int (2 : Int32)), (.ref w), (.ref a1)])) _
    refine XS.aloadN X2.here hx rfl (hb hby d11_6) rfl rfl ?_
    show Steps p.tables e below (T2.setTop (mkF m 7 #[.val (.ref a1), .val (.int p2), .unset] [(.ref a1), (.int (2 : Int32)), (.ref w), (.ref a1)])) _
    exact k)
  obtain ⟨T5, X5, e5, st5⟩ := getF X2 hx hZ hown (host := "") (Or.inl (hw _ (List.mem_of_getElem? (i := 10) rfl))) Via.refl e2 Fw_a1 (g := (mkF m 7 #[.val (.ref a1), .val (.int p2), .unset] [(.ref a1), (.int (2 : Int32)), (.ref w), (.ref a1)])) rfl rfl (hb hby d11_7)
  have pre6 : ∀ t, Steps p.tables e below (T5.setTop (mkF m 10 #[.val (.ref a1), .val (.int p2), .unset] [(.ref w), (.int (2 : Int32)), (.ref w), (.ref a1)])) t → Steps p.tables e below (s₁.setTop (entryFrame m #[(.ref a1), (.int p2)] 3)) t := fun t k => pre4 t (by
    show Steps p.tables e below (T2.setTop (mkF m 7 #[.val (.ref a1), .val (.int p2), .unset] [(.ref a1), (.int (2 : Int32)), (.ref w), (.ref a1)])) t
    refine st5 _ ?_
    show Steps p.tables e below (T5.setTop (mkF m 10 #[.val (.ref a1), .val (.int p2), .unset] [(.ref w), (.int (2 : Int32)), (.ref w), (.ref a1)])) t
    exact k)
  obtain ⟨cl7, Ar7, Sz7, Nz7⟩ := own_wds_len Vw_w
  have pre8 : ∀ t, Steps p.tables e below (T5.setTop (mkF m 11 #[.val (.ref a1), .val (.int p2), .unset] [(.int (1 : Int32)), (.int (2 : Int32)), (.ref w), (.ref a1)])) t → Steps p.tables e below (s₁.setTop (entryFrame m #[(.ref a1), (.int p2)] 3)) t := fun t k => pre6 t (by
    show Steps p.tables e below (T5.setTop (mkF m 10 #[.val (.ref a1), .val (.int p2), .unset] [(.ref w), (.int (2 : Int32)), (.ref w), (.ref a1)])) t
    refine X5.arraylength hx (by rw [e5]; exact Ar7.1) (State.isArrayOf_alike hZ.alike Ar7.2.1) (g := (mkF m 10 #[.val (.ref a1), .val (.int p2), .unset] [(.ref w), (.int (2 : Int32)), (.ref w), (.ref a1)])) rfl rfl (hb hby d11_10) _ ?_
    rw [len_of Sz7 Nz7]
    exact k)
  have pre9 : ∀ t, Steps p.tables e below (T5.setTop (mkF m 15 #[.val (.ref a1), .val (.int p2), .unset] [(.int (p2 + (1 : Int32))), (.int ((2 : Int32) * (1 : Int32))), (.ref w), (.ref a1)])) t → Steps p.tables e below (s₁.setTop (entryFrame m #[(.ref a1), (.int p2)] 3)) t := fun t k => pre8 t (by
    show Steps p.tables e below (T5.setTop (mkF m 11 #[.val (.ref a1), .val (.int p2), .unset] [(.int (1 : Int32)), (.int (2 : Int32)), (.ref w), (.ref a1)])) _
    refine XS.imul X5.here hx rfl (hb hby d11_11) rfl ?_
    show Steps p.tables e below (T5.setTop (mkF m 12 #[.val (.ref a1), .val (.int p2), .unset] [(.int ((2 : Int32) * (1 : Int32))), (.ref w), (.ref a1)])) _
    refine XS.iloadN X5.here hx rfl (hb hby d11_12) rfl ?_
    show Steps p.tables e below (T5.setTop (mkF m 13 #[.val (.ref a1), .val (.int p2), .unset] [(.int p2), (.int ((2 : Int32) * (1 : Int32))), (.ref w), (.ref a1)])) _
    refine XS.iconst X5.here hx rfl (hb hby d11_13) ?_
    show Steps p.tables e below (T5.setTop (mkF m 14 #[.val (.ref a1), .val (.int p2), .unset] [(.int (1 : Int32)), (.int p2), (.int ((2 : Int32) * (1 : Int32))), (.ref w), (.ref a1)])) _
    refine XS.iadd X5.here hx rfl (hb hby d11_14) rfl ?_
    show Steps p.tables e below (T5.setTop (mkF m 15 #[.val (.ref a1), .val (.int p2), .unset] [(.int (p2 + (1 : Int32))), (.int ((2 : Int32) * (1 : Int32))), (.ref w), (.ref a1)])) _
    exact k)
  obtain ⟨_, _, ⟨T10, L10, k10, n10⟩, -, X10, ⟨Lc10, hQ10, l10, y10, z10⟩, st10⟩ := Jvm.LawKit.callS X5 hx (y := (⟨"java/lang/Math", "max", "(II)I"⟩ : MethodName)) hown (mvT hZ (hw _ (List.mem_of_getElem? (i := 59) rfl))) (mvT hZ (hw _ (List.mem_of_getElem? (i := 60) rfl))) (mvT hZ (hw _ (List.mem_of_getElem? (i := 61) rfl))) (mvT hZ (hw _ (List.mem_of_getElem? (i := 62) rfl))) (by decide) (backOf (W := 2) (rm12 l Z a0 hw [] ((2 : Int32) * (1 : Int32)) (p2 + (1 : Int32))  h0 n0 Z0) hZ (hw _ (List.mem_of_getElem? (i := 62) rfl)) (hw _ (List.mem_of_getElem? (i := 61) rfl)) (by decide) (by decide)) (g := (mkF m 15 #[.val (.ref a1), .val (.int p2), .unset] [(.int (p2 + (1 : Int32))), (.int ((2 : Int32) * (1 : Int32))), (.ref w), (.ref a1)])) rfl (by rw [hml]; rfl) (argsL := [(.int ((2 : Int32) * (1 : Int32))), (.int (p2 + (1 : Int32)))]) (rest := [(.ref w), (.ref a1)]) (lenOf pdx_0 rfl) rfl (by show 2 * 0 + _ ≤ _; exact Nat.le_of_eq rfl) (hb hby d11_15) (fun _ _ => ⟨rfl, e5, (by decide : 0 + 0 ≤ _), (by decide : 0 + 0 ≤ _)⟩)
  dsimp only [Pt.U, Pt.locs, Pt.cells, Pt.slots] at X10 l10 y10 z10 st10 hQ10
  subst l10 y10 z10
  obtain ⟨rfl, N10q, e10⟩ := hQ10
  have N10 := Fr.app N0 N10q
  have pre11 : ∀ t, Steps p.tables e below (T10.setTop (mkF m 18 #[.val (.ref a1), .val (.int p2), .unset] [(.int (own_max ((2 : Int32) * (1 : Int32)) (p2 + (1 : Int32)))), (.ref w), (.ref a1)])) t → Steps p.tables e below (s₁.setTop (entryFrame m #[(.ref a1), (.int p2)] 3)) t := fun t k => pre9 t (by
    show Steps p.tables e below (T5.setTop (mkF m 15 #[.val (.ref a1), .val (.int p2), .unset] [(.int (p2 + (1 : Int32))), (.int ((2 : Int32) * (1 : Int32))), (.ref w), (.ref a1)])) t
    refine st10 _ ?_
    show Steps p.tables e below (T10.setTop (mkF m 18 #[.val (.ref a1), .val (.int p2), .unset] [(.int (own_max ((2 : Int32) * (1 : Int32)) (p2 + (1 : Int32)))), (.ref w), (.ref a1)])) t
    exact k)
  obtain ⟨_, _, ⟨T12, L12, k12, n12⟩, -, X12, ⟨Lc12, hQ12, l12, y12, z12⟩, st12⟩ := Jvm.LawKit.callS X10 hx (y := (⟨"java/util/Arrays", "copyOf", "([JI)[J"⟩ : MethodName)) hown (mvT hZ (hw _ (List.mem_of_getElem? (i := 63) rfl))) (mvT hZ (hw _ (List.mem_of_getElem? (i := 64) rfl))) (mvT hZ (hw _ (List.mem_of_getElem? (i := 65) rfl))) (mvT hZ (hw _ (List.mem_of_getElem? (i := 66) rfl))) (by decide) (backOf (W := 1) (rm13 l Z a0 hw [] w (own_max ((2 : Int32) * (1 : Int32)) (p2 + (1 : Int32))) (1 : Int32) g 2 h0 n0 Z0 Vw_w (by rw [hN]; decide) (by rw [hN]; decide) (by decide) hg0) hZ (hw _ (List.mem_of_getElem? (i := 66) rfl)) (hw _ (List.mem_of_getElem? (i := 65) rfl)) (by decide) (by decide)) (g := (mkF m 18 #[.val (.ref a1), .val (.int p2), .unset] [(.int (own_max ((2 : Int32) * (1 : Int32)) (p2 + (1 : Int32)))), (.ref w), (.ref a1)])) rfl (by rw [hml]; rfl) (argsL := [(.ref w), (.int (own_max ((2 : Int32) * (1 : Int32)) (p2 + (1 : Int32))))]) (rest := [(.ref a1)]) (lenOf pdx_1 rfl) rfl (by show 2 * 0 + _ ≤ _; exact Nat.le_of_eq rfl) (hb hby d11_18) (fun _ _ => ⟨rfl, e10, (by decide : 0 + 1 ≤ _), (by decide : 0 + 2 ≤ _)⟩)
  dsimp only [Pt.U, Pt.locs, Pt.cells, Pt.slots] at X12 l12 y12 z12 st12 hQ12
  subst l12 y12 z12
  obtain ⟨b, rfl, N12q, s12, K12, V_b⟩ := hQ12
  have N12 := Fr.app N10 N12q
  have pre13 : ∀ t, Steps p.tables e below (T12.setTop (mkF m 21 #[.val (.ref a1), .val (.int p2), .unset] [(.ref b), (.ref a1)])) t → Steps p.tables e below (s₁.setTop (entryFrame m #[(.ref a1), (.int p2)] 3)) t := fun t k => pre11 t (by
    show Steps p.tables e below (T10.setTop (mkF m 18 #[.val (.ref a1), .val (.int p2), .unset] [(.int (own_max ((2 : Int32) * (1 : Int32)) (p2 + (1 : Int32)))), (.ref w), (.ref a1)])) t
    refine st12 _ ?_
    show Steps p.tables e below (T12.setTop (mkF m 21 #[.val (.ref a1), .val (.int p2), .unset] [(.ref b), (.ref a1)])) t
    exact k)
  have o_a1_b : a1 < b := Nat.lt_of_lt_of_le E_a1.lt s12
  have o_w_b : w < b := Nat.lt_of_lt_of_le Vw_w.lt s12
  have g_b : n0 ≤ b := Nat.le_trans Z0 (Nat.le_trans KK0.1 s12)
  have sz_b : h0.size ≤ b := Nat.le_trans KK0.1 s12
  have E_a1_12 := E_a1.keep K12
  have Fw_a1_12 := Fw_a1.keep K12 List.not_mem_nil
  have Ff_a1_12 := Ff_a1.keep K12 List.not_mem_nil
  have Fs_a1_12 := Fs_a1.keep K12 List.not_mem_nil
  have Vw_w_12 := Vw_w.keep K12 List.not_mem_nil
  have KK12 := KK0.trans K12 (fun _ q => nomatch q)
  obtain ⟨T14, h14, X14, e14, W14, st14⟩ := putF X12 hx hZ hown (host := "") (Or.inl (hw _ (List.mem_of_getElem? (i := 10) rfl))) Via.refl rfl Fw_a1_12 E_a1_12 (Or.inl (hw _ (List.mem_of_getElem? (i := 11) rfl))) (hw _ (List.mem_of_getElem? (i := 1) rfl)) (ty := (.array .long)) (by decide) rfl rfl (g := (mkF m 21 #[.val (.ref a1), .val (.int p2), .unset] [(.ref b), (.ref a1)])) rfl rfl (hb hby d11_21)
  have E_a1_14 := E_a1_12.wr W14
  have Ff_a1_14 := Ff_a1_12.other W14 (Or.inr (slot_ne (Or.inl (hw _ (List.mem_of_getElem? (i := 20) rfl))) (Or.inl (hw _ (List.mem_of_getElem? (i := 11) rfl))) (by decide) (t := (.object "com/example/berchta/berchta/learn/NodeSet")) (t' := (.array .long)) (by decide) (by decide)))
  have Fs_a1_14 := Fs_a1_12.other W14 (Or.inr (slot_ne (Or.inl (hw _ (List.mem_of_getElem? (i := 18) rfl))) (Or.inl (hw _ (List.mem_of_getElem? (i := 11) rfl))) (by decide) (t := .int) (t' := (.array .long)) (by decide) (by decide)))
  have Vw_w_14 := Vw_w_12.other W14 (Ne.symm naw)
  have V_b_14 := V_b.other W14 (Nat.ne_of_gt o_a1_b)
  have KK14 := KK12.wr W14 (Or.inl (List.mem_of_getElem? (i := 0) rfl))
  have Fw_a1_14 := Fw_a1_12.same W14
  have N14 := Fr.snoc X14 N12 g_a1
  have pre15 : ∀ t, Steps p.tables e below (T14.setTop (mkF m 24 #[.val (.ref a1), .val (.int p2), .unset] [])) t → Steps p.tables e below (s₁.setTop (entryFrame m #[(.ref a1), (.int p2)] 3)) t := fun t k => pre13 t (by
    show Steps p.tables e below (T12.setTop (mkF m 21 #[.val (.ref a1), .val (.int p2), .unset] [(.ref b), (.ref a1)])) t
    refine st14 _ ?_
    show Steps p.tables e below (T14.setTop (mkF m 24 #[.val (.ref a1), .val (.int p2), .unset] [])) t
    exact k)
  have pre16 : ∀ t, Steps p.tables e below (T14.setTop (mkF m 25 #[.val (.ref a1), .val (.int p2), .unset] [(.ref a1)])) t → Steps p.tables e below (s₁.setTop (entryFrame m #[(.ref a1), (.int p2)] 3)) t := fun t k => pre15 t (by
    show Steps p.tables e below (T14.setTop (mkF m 24 #[.val (.ref a1), .val (.int p2), .unset] [])) _
    refine XS.aloadN X14.here hx rfl (hb hby d11_24) rfl rfl ?_
    show Steps p.tables e below (T14.setTop (mkF m 25 #[.val (.ref a1), .val (.int p2), .unset] [(.ref a1)])) _
    exact k)
  obtain ⟨T17, X17, e17, st17⟩ := getF X14 hx hZ hown (host := "") (Or.inl (hw _ (List.mem_of_getElem? (i := 19) rfl))) Via.refl e14 Ff_a1_14 (g := (mkF m 25 #[.val (.ref a1), .val (.int p2), .unset] [(.ref a1)])) rfl rfl (hb hby d11_25)
  have pre18 : ∀ t, Steps p.tables e below (T17.setTop (mkF m 28 #[.val (.ref a1), .val (.int p2), .unset] [.null])) t → Steps p.tables e below (s₁.setTop (entryFrame m #[(.ref a1), (.int p2)] 3)) t := fun t k => pre16 t (by
    show Steps p.tables e below (T14.setTop (mkF m 25 #[.val (.ref a1), .val (.int p2), .unset] [(.ref a1)])) t
    refine st17 _ ?_
    show Steps p.tables e below (T17.setTop (mkF m 28 #[.val (.ref a1), .val (.int p2), .unset] [.null])) t
    exact k)
  have pre19 : ∀ t, Steps p.tables e below (T17.setTop (mkF m 32 #[.val (.ref a1), .val (.int p2), .unset] [(.ref a1)])) t → Steps p.tables e below (s₁.setTop (entryFrame m #[(.ref a1), (.int p2)] 3)) t := fun t k => pre18 t (by
    show Steps p.tables e below (T17.setTop (mkF m 28 #[.val (.ref a1), .val (.int p2), .unset] [.null])) _
    refine XS.ifnonnullNo X17.here hx rfl (hb hby d11_28) rfl ?_
    show Steps p.tables e below (T17.setTop (mkF m 31 #[.val (.ref a1), .val (.int p2), .unset] [])) _
    refine XS.aloadN X17.here hx rfl (hb hby d11_31) rfl rfl ?_
    show Steps p.tables e below (T17.setTop (mkF m 32 #[.val (.ref a1), .val (.int p2), .unset] [(.ref a1)])) _
    exact k)
  obtain ⟨T20, X20, e20, st20⟩ := getF X17 hx hZ hown (host := "") (Or.inl (hw _ (List.mem_of_getElem? (i := 10) rfl))) Via.refl e17 Fw_a1_14 (g := (mkF m 32 #[.val (.ref a1), .val (.int p2), .unset] [(.ref a1)])) rfl rfl (hb hby d11_32)
  have pre21 : ∀ t, Steps p.tables e below (T20.setTop (mkF m 35 #[.val (.ref a1), .val (.int p2), .unset] [(.ref b)])) t → Steps p.tables e below (s₁.setTop (entryFrame m #[(.ref a1), (.int p2)] 3)) t := fun t k => pre19 t (by
    show Steps p.tables e below (T17.setTop (mkF m 32 #[.val (.ref a1), .val (.int p2), .unset] [(.ref a1)])) t
    refine st20 _ ?_
    show Steps p.tables e below (T20.setTop (mkF m 35 #[.val (.ref a1), .val (.int p2), .unset] [(.ref b)])) t
    exact k)
  obtain ⟨cl22, Ar22, Sz22, Nz22⟩ := own_wds_len V_b_14
  have pre23 : ∀ t, Steps p.tables e below (T20.setTop (mkF m 36 #[.val (.ref a1), .val (.int p2), .unset] [(.int (own_max ((2 : Int32) * (1 : Int32)) (p2 + (1 : Int32))))])) t → Steps p.tables e below (s₁.setTop (entryFrame m #[(.ref a1), (.int p2)] 3)) t := fun t k => pre21 t (by
    show Steps p.tables e below (T20.setTop (mkF m 35 #[.val (.ref a1), .val (.int p2), .unset] [(.ref b)])) t
    refine X20.arraylength hx (by rw [e20]; exact Ar22.1) (State.isArrayOf_alike hZ.alike Ar22.2.1) (g := (mkF m 35 #[.val (.ref a1), .val (.int p2), .unset] [(.ref b)])) rfl rfl (hb hby d11_35) _ ?_
    rw [len_of Sz22 Nz22]
    exact k)
  have pre24 : ∀ t, Steps p.tables e below (T20.setTop (mkF m 81 #[.val (.ref a1), .val (.int p2), .unset] [])) t → Steps p.tables e below (s₁.setTop (entryFrame m #[(.ref a1), (.int p2)] 3)) t := fun t k => pre23 t (by
    show Steps p.tables e below (T20.setTop (mkF m 36 #[.val (.ref a1), .val (.int p2), .unset] [(.int (own_max ((2 : Int32) * (1 : Int32)) (p2 + (1 : Int32))))])) _
    refine XS.bipush X20.here hx rfl (hb hby d11_36) ?_
    show Steps p.tables e below (T20.setTop (mkF m 38 #[.val (.ref a1), .val (.int p2), .unset] [(.int (64 : Int32)), (.int (own_max ((2 : Int32) * (1 : Int32)) (p2 + (1 : Int32))))])) _
    refine XS.icmpYes X20.here hx rfl (pc0 := 38) (pc' := 81) rfl (hb hby d11_38) rfl (flt (by rw [hN]; decide)).2.2.2 (by decide) (by decide) ?_
    show Steps p.tables e below (T20.setTop (mkF m 81 #[.val (.ref a1), .val (.int p2), .unset] [])) _
    exact k)
  obtain ⟨fs, hr, hrun, hended, hW, hsame⟩ := X20.leave (v := none) (fun _ => rfl)
  refine ⟨_, _, pre24 _ ?_, hrun, hended, _, _, rfl, ?_, ⟨_, rfl⟩, hW, hsame.mono (by decide) (by decide)⟩
  · show Steps p.tables e below (T20.setTop (mkF m 81 #[.val (.ref a1), .val (.int p2), .unset] [])) _
    exact X20.returnOut hx Bd.returns (hb hby d11_81) hr
  · show QGL Z a1 p2 w g s2 h0 n0 _ T20.heap _
    rw [e20]
    exact ⟨b, rfl, N14, ⟨E_a1_14, Fw_a1_14, Ff_a1_14, Fs_a1_14, hN ▸ V_b_14, Or.inr rfl, fun i q => hg0 i (Nat.le_trans (by decide) q), g_a1, g_b, Nat.ne_of_lt o_a1_b⟩, KK14, sz_b⟩
theorem d3_0 : decode prog_101_method_3_code 0 = .ok (.iload_n 1, 1) := by decide +kernel
theorem d3_1 : decode prog_101_method_3_code 1 = .ok (.bipush 6, 2) := by decide +kernel
theorem d3_3 : decode prog_101_method_3_code 3 = .ok (.iushr, 1) := by decide +kernel
theorem d3_4 : decode prog_101_method_3_code 4 = .ok (.istore_n 2, 1) := by decide +kernel
theorem d3_5 : decode prog_101_method_3_code 5 = .ok (.iload_n 2, 1) := by decide +kernel
theorem d3_6 : decode prog_101_method_3_code 6 = .ok (.aload_n 0, 1) := by decide +kernel
theorem d3_7 : decode prog_101_method_3_code 7 = .ok (.getfield 7, 3) := by decide +kernel
theorem d3_10 : decode prog_101_method_3_code 10 = .ok (.arraylength, 1) := by decide +kernel
theorem d3_11 : decode prog_101_method_3_code 11 = .ok (.if_icmp .lt 8, 3) := by decide +kernel
theorem d3_14 : decode prog_101_method_3_code 14 = .ok (.aload_n 0, 1) := by decide +kernel
theorem d3_15 : decode prog_101_method_3_code 15 = .ok (.iload_n 2, 1) := by decide +kernel
theorem d3_16 : decode prog_101_method_3_code 16 = .ok (.invokevirtual 31, 3) := by decide +kernel
theorem d3_19 : decode prog_101_method_3_code 19 = .ok (.aload_n 0, 1) := by decide +kernel
theorem d3_20 : decode prog_101_method_3_code 20 = .ok (.getfield 7, 3) := by decide +kernel
theorem d3_23 : decode prog_101_method_3_code 23 = .ok (.iload_n 2, 1) := by decide +kernel
theorem d3_24 : decode prog_101_method_3_code 24 = .ok (.laload, 1) := by decide +kernel
theorem d3_25 : decode prog_101_method_3_code 25 = .ok (.lstore_n 3, 1) := by decide +kernel
theorem d3_26 : decode prog_101_method_3_code 26 = .ok (.lload_n 3, 1) := by decide +kernel
theorem d3_27 : decode prog_101_method_3_code 27 = .ok (.lconst 1, 1) := by decide +kernel
theorem d3_28 : decode prog_101_method_3_code 28 = .ok (.iload_n 1, 1) := by decide +kernel
theorem d3_29 : decode prog_101_method_3_code 29 = .ok (.lshl, 1) := by decide +kernel
theorem d3_30 : decode prog_101_method_3_code 30 = .ok (.lor, 1) := by decide +kernel
theorem d3_31 : decode prog_101_method_3_code 31 = .ok (.lstore 5, 2) := by decide +kernel
theorem d3_33 : decode prog_101_method_3_code 33 = .ok (.lload 5, 2) := by decide +kernel
theorem d3_35 : decode prog_101_method_3_code 35 = .ok (.lload_n 3, 1) := by decide +kernel
theorem d3_36 : decode prog_101_method_3_code 36 = .ok (.lcmp, 1) := by decide +kernel
theorem d3_37 : decode prog_101_method_3_code 37 = .ok (.ifCond .ne 4, 3) := by decide +kernel
theorem d3_40 : decode prog_101_method_3_code 40 = .ok (.return_, 1) := by decide +kernel
theorem d3_41 : decode prog_101_method_3_code 41 = .ok (.aload_n 0, 1) := by decide +kernel
theorem d3_42 : decode prog_101_method_3_code 42 = .ok (.getfield 7, 3) := by decide +kernel
theorem d3_45 : decode prog_101_method_3_code 45 = .ok (.iload_n 2, 1) := by decide +kernel
theorem d3_46 : decode prog_101_method_3_code 46 = .ok (.lload 5, 2) := by decide +kernel
theorem d3_48 : decode prog_101_method_3_code 48 = .ok (.lastore, 1) := by decide +kernel
theorem d3_49 : decode prog_101_method_3_code 49 = .ok (.aload_n 0, 1) := by decide +kernel
theorem d3_50 : decode prog_101_method_3_code 50 = .ok (.dup, 1) := by decide +kernel
theorem d3_51 : decode prog_101_method_3_code 51 = .ok (.getfield 27, 3) := by decide +kernel
theorem d3_54 : decode prog_101_method_3_code 54 = .ok (.iconst 1, 1) := by decide +kernel
theorem d3_55 : decode prog_101_method_3_code 55 = .ok (.iadd, 1) := by decide +kernel
theorem d3_56 : decode prog_101_method_3_code 56 = .ok (.putfield 27, 3) := by decide +kernel
theorem d3_59 : decode prog_101_method_3_code 59 = .ok (.lload_n 3, 1) := by decide +kernel
theorem d3_60 : decode prog_101_method_3_code 60 = .ok (.lconst 0, 1) := by decide +kernel
theorem d3_61 : decode prog_101_method_3_code 61 = .ok (.lcmp, 1) := by decide +kernel
theorem d3_62 : decode prog_101_method_3_code 62 = .ok (.ifCond .ne 18, 3) := by decide +kernel
theorem d3_65 : decode prog_101_method_3_code 65 = .ok (.aload_n 0, 1) := by decide +kernel
theorem d3_66 : decode prog_101_method_3_code 66 = .ok (.getfield 19, 3) := by decide +kernel
theorem d3_69 : decode prog_101_method_3_code 69 = .ok (.ifnull 11, 3) := by decide +kernel
theorem d3_72 : decode prog_101_method_3_code 72 = .ok (.aload_n 0, 1) := by decide +kernel
theorem d3_73 : decode prog_101_method_3_code 73 = .ok (.getfield 19, 3) := by decide +kernel
theorem d3_76 : decode prog_101_method_3_code 76 = .ok (.iload_n 2, 1) := by decide +kernel
theorem d3_77 : decode prog_101_method_3_code 77 = .ok (.invokevirtual 35, 3) := by decide +kernel
theorem d3_80 : decode prog_101_method_3_code 80 = .ok (.return_, 1) := by decide +kernel
theorem pn_3 : plainName "com/example/berchta/berchta/learn/NodeSet" = true := by first | (simp [plainName, overriddenIn]; done) | decide +kernel
theorem ef_3 (m : MethodId) (x0 : Addr) (x1 : Int32) : entryFrame m #[(.ref x0), (.int x1)] 7 = mkF m 0 #[.val (.ref x0), .val (.int x1), .unset, .unset, .unset, .unset, .unset] [] := by first | (simp [entryFrame, mkF, argsToLocals, Value.category]; done) | rfl
def QLadd (Z : State) (a1 : Addr) (p2 : Int32) (w : Addr) (z : Int32) (g : Nat → Int64) (s2 : Int32) (cc ss : Nat) (h0 : Heap) (n0 : Nat) (v : Option Value) (h : Heap) (L : List Loc) : Prop := ∃ (w' : Addr) (z' s' : Int32), v = none ∧ Fr n0 L ∧ own_leaf Z h n0 a1 w' z' (own_add g p2) s' ∧ Keep h0 h [a1, w] ∧ (w' = w ∨ h0.size ≤ w') ∧ (own_wd p2 < z → z' = z) ∧ own_wd p2 < z'
set_option maxRecDepth 65536 in
set_option maxHeartbeats 40000000 in
theorem rmLadd (l : Launch) (Z : State) (a0 : Array Value) (hw : ∀ d ∈ tables_1, d.before a0 Z = true) (ws : List Jvm.Cond) (a1 : Addr) (p2 : Int32) (w : Addr) (z : Int32) (g : Nat → Int64) (s2 : Int32) (cc ss : Nat) (h0 : Heap) (n0 : Nat) (Z0 : n0 ≤ h0.size) (LF : own_leaf Z h0 n0 a1 w z g s2) (hp : ¬ p2 < 0 ∧ p2 < 128) (hcs : ¬ own_wd p2 < z → 1 ≤ cc ∧ 2 ≤ ss) :
    MetFree l (⟨"com/example/berchta/berchta/learn/NodeSet", "add", "(I)V"⟩ : MethodName) (head1 (Jvm.Cond.code (⟨"com/example/berchta/berchta/learn/NodeSet", "add", "(I)V"⟩ : MethodName) prog_101_method_3_code 7 none :: ws) ({ frames := 3, cells := cc, slots := ss, locals := 69 } : Room)) (fun a U => a = #[(.ref a1), (.int p2)] ∧ Z.Warmed39 U.vm ∧ U.heap = h0) (fun _ _ _ _ _ => True) (fun _ U o U' => ∃ v L, o = .returned v ∧ QLadd Z a1 p2 w z g s2 cc ss h0 n0 v U'.heap L ∧ FrameEnd U o U' L ({ frames := 3, cells := cc, slots := ss, locals := 69 } : Room).cells ({ frames := 3, cells := cc, slots := ss, locals := 69 } : Room).slots) := by
  refine MetFree.of_bodySF (plainFor_of_name pn_3) hisR ?_
  intro p e s m args below meth c s₁ Bd hml0 hP hK
  obtain ⟨rfl, hZ, hh⟩ := hP
  have hx := Bd.exec
  have hby := Bd.bytes
  have hml : c.maxLocals = 7 := hml0
  have hown : s.vm.findClass "com/example/berchta/berchta/learn/NodeSet" = some m.cls := findClass_of_methodNamed Bd.named
  have hnm := (name_of_methodNamed Bd.named Bd.method).1
  have X0 : Stand p l e ({ frames := 3, cells := cc, slots := ss, locals := 69 } : Room) s m #[(.ref a1), (.int p2)] below meth c s₁ [] 0 0 := Stand.of_body Bd
  have e0 : s₁.heap = h0 := by rw [← hh, Bd.state]; rfl
  have N0 := Fr.nil n0
  have pre0 : ∀ t, Steps p.tables e below (s₁.setTop (mkF m 0 #[.val (.ref a1), .val (.int p2), .unset, .unset, .unset, .unset, .unset] [])) t → Steps p.tables e below (s₁.setTop (entryFrame m #[(.ref a1), (.int p2)] 7)) t := fun t k => castTop (ef_3 m a1 p2) k
  obtain ⟨E_a1, Fw_a1, Ff_a1, Fs_a1, Vw_w, hz12, hg0, g_a1, g_w, naw⟩ := id LF
  have KK0 : Keep h0 h0 [a1, w] := Keep.refl h0 [a1, w]
  have pre1 : ∀ t, Steps p.tables e below (s₁.setTop (mkF m 7 #[.val (.ref a1), .val (.int p2), .val (.int (own_wd p2)), .unset, .unset, .unset, .unset] [(.ref a1), (.int (own_wd p2))])) t → Steps p.tables e below (s₁.setTop (entryFrame m #[(.ref a1), (.int p2)] 7)) t := fun t k => pre0 t (by
    show Steps p.tables e below (s₁.setTop (mkF m 0 #[.val (.ref a1), .val (.int p2), .unset, .unset, .unset, .unset, .unset] [])) _
    refine XS.iloadN X0.here hx rfl (hb hby d3_0) rfl ?_
    show Steps p.tables e below (s₁.setTop (mkF m 1 #[.val (.ref a1), .val (.int p2), .unset, .unset, .unset, .unset, .unset] [(.int p2)])) _
    refine XS.bipush X0.here hx rfl (hb hby d3_1) ?_
    show Steps p.tables e below (s₁.setTop (mkF m 3 #[.val (.ref a1), .val (.int p2), .unset, .unset, .unset, .unset, .unset] [(.int (6 : Int32)), (.int p2)])) _
    refine XS.iushr X0.here hx rfl (hb hby d3_3) rfl ?_
    show Steps p.tables e below (s₁.setTop (mkF m 4 #[.val (.ref a1), .val (.int p2), .unset, .unset, .unset, .unset, .unset] [(.int ((p2.toUInt32 >>> ((6 : Int32) &&& 31).toUInt32).toInt32))])) _
    refine XS.istoreN X0.here hx rfl (hb hby d3_4) rfl (l' := #[.val (.ref a1), .val (.int p2), .val (.int (own_wd p2)), .unset, .unset, .unset, .unset]) rfl ?_
    show Steps p.tables e below (s₁.setTop (mkF m 5 #[.val (.ref a1), .val (.int p2), .val (.int (own_wd p2)), .unset, .unset, .unset, .unset] [])) _
    refine XS.iloadN X0.here hx rfl (hb hby d3_5) rfl ?_
    show Steps p.tables e below (s₁.setTop (mkF m 6 #[.val (.ref a1), .val (.int p2), .val (.int (own_wd p2)), .unset, .unset, .unset, .unset] [(.int (own_wd p2))])) _
    refine XS.aloadN X0.here hx rfl (hb hby d3_6) rfl rfl ?_
    show Steps p.tables e below (s₁.setTop (mkF m 7 #[.val (.ref a1), .val (.int p2), .val (.int (own_wd p2)), .unset, .unset, .unset, .unset] [(.ref a1), (.int (own_wd p2))])) _
    exact k)
  obtain ⟨T2, X2, e2, st2⟩ := getF X0 hx hZ hown (host := "") (Or.inl (hw _ (List.mem_of_getElem? (i := 10) rfl))) Via.refl e0 Fw_a1 (g := (mkF m 7 #[.val (.ref a1), .val (.int p2), .val (.int (own_wd p2)), .unset, .unset, .unset, .unset] [(.ref a1), (.int (own_wd p2))])) rfl rfl (hb hby d3_7)
  have pre3 : ∀ t, Steps p.tables e below (T2.setTop (mkF m 10 #[.val (.ref a1), .val (.int p2), .val (.int (own_wd p2)), .unset, .unset, .unset, .unset] [(.ref w), (.int (own_wd p2))])) t → Steps p.tables e below (s₁.setTop (entryFrame m #[(.ref a1), (.int p2)] 7)) t := fun t k => pre1 t (by
    show Steps p.tables e below (s₁.setTop (mkF m 7 #[.val (.ref a1), .val (.int p2), .val (.int (own_wd p2)), .unset, .unset, .unset, .unset] [(.ref a1), (.int (own_wd p2))])) t
    refine st2 _ ?_
    show Steps p.tables e below (T2.setTop (mkF m 10 #[.val (.ref a1), .val (.int p2), .val (.int (own_wd p2)), .unset, .unset, .unset, .unset] [(.ref w), (.int (own_wd p2))])) t
    exact k)
  obtain ⟨cl4, Ar4, Sz4, Nz4⟩ := own_wds_len Vw_w
  have pre5 : ∀ t, Steps p.tables e below (T2.setTop (mkF m 11 #[.val (.ref a1), .val (.int p2), .val (.int (own_wd p2)), .unset, .unset, .unset, .unset] [(.int z), (.int (own_wd p2))])) t → Steps p.tables e below (s₁.setTop (entryFrame m #[(.ref a1), (.int p2)] 7)) t := fun t k => pre3 t (by
    show Steps p.tables e below (T2.setTop (mkF m 10 #[.val (.ref a1), .val (.int p2), .val (.int (own_wd p2)), .unset, .unset, .unset, .unset] [(.ref w), (.int (own_wd p2))])) t
    refine X2.arraylength hx (by rw [e2]; exact Ar4.1) (State.isArrayOf_alike hZ.alike Ar4.2.1) (g := (mkF m 10 #[.val (.ref a1), .val (.int p2), .val (.int (own_wd p2)), .unset, .unset, .unset, .unset] [(.ref w), (.int (own_wd p2))])) rfl rfl (hb hby d3_10) _ ?_
    rw [len_of Sz4 Nz4]
    exact k)
  obtain ⟨T1, h1, w1, z1, L1, X1, e1, N1, LF1, K1, hw1, hlt, hz1, preJ⟩ : ∃ (T1 : State) (h1 : Heap) (w1 : Addr) (z1 : Int32) (L1 : List Loc), Stand p l e ({ frames := 3, cells := cc, slots := ss, locals := 69 } : Room) s m #[(.ref a1), (.int p2)] below meth c T1 L1 cc ss ∧ T1.heap = h1 ∧ Fr n0 L1 ∧ own_leaf Z h1 n0 a1 w1 z1 g s2 ∧ Keep h0 h1 [a1, w] ∧ (w1 = w ∨ h0.size ≤ w1) ∧ own_wd p2 < z1 ∧ (own_wd p2 < z → z1 = z) ∧ (∀ t, Steps p.tables e below (T1.setTop (mkF m 19 #[.val (.ref a1), .val (.int p2), .val (.int (own_wd p2)), .unset, .unset, .unset, .unset] [])) t → Steps p.tables e below (s₁.setTop (entryFrame m #[(.ref a1), (.int p2)] 7)) t) := by
    by_cases hc : own_wd p2 < z
    · skip
      have pre6 : ∀ t, Steps p.tables e below (T2.setTop (mkF m 19 #[.val (.ref a1), .val (.int p2), .val (.int (own_wd p2)), .unset, .unset, .unset, .unset] [])) t → Steps p.tables e below (s₁.setTop (entryFrame m #[(.ref a1), (.int p2)] 7)) t := fun t k => pre5 t (by
        show Steps p.tables e below (T2.setTop (mkF m 11 #[.val (.ref a1), .val (.int p2), .val (.int (own_wd p2)), .unset, .unset, .unset, .unset] [(.int z), (.int (own_wd p2))])) _
        refine XS.icmpYes X2.here hx rfl (pc0 := 11) (pc' := 19) rfl (hb hby d3_11) rfl (tlt hc).1 (by decide) (by decide) ?_
        show Steps p.tables e below (T2.setTop (mkF m 19 #[.val (.ref a1), .val (.int p2), .val (.int (own_wd p2)), .unset, .unset, .unset, .unset] [])) _
        exact k)
      exact ⟨T2, h0, w, z, _, X2.more (Nat.zero_le _) (Nat.zero_le _), e2, N0, LF, Keep.refl _ _, Or.inl rfl, hc, fun _ => rfl, pre6⟩
    · skip
      have pre7 : ∀ t, Steps p.tables e below (T2.setTop (mkF m 16 #[.val (.ref a1), .val (.int p2), .val (.int (own_wd p2)), .unset, .unset, .unset, .unset] [(.int (own_wd p2)), (.ref a1)])) t → Steps p.tables e below (s₁.setTop (entryFrame m #[(.ref a1), (.int p2)] 7)) t := fun t k => pre5 t (by
        show Steps p.tables e below (T2.setTop (mkF m 11 #[.val (.ref a1), .val (.int p2), .val (.int (own_wd p2)), .unset, .unset, .unset, .unset] [(.int z), (.int (own_wd p2))])) _
        refine XS.icmpNo X2.here hx rfl (hb hby d3_11) rfl (flt hc).1 ?_
        show Steps p.tables e below (T2.setTop (mkF m 14 #[.val (.ref a1), .val (.int p2), .val (.int (own_wd p2)), .unset, .unset, .unset, .unset] [])) _
        refine XS.aloadN X2.here hx rfl (hb hby d3_14) rfl rfl ?_
        show Steps p.tables e below (T2.setTop (mkF m 15 #[.val (.ref a1), .val (.int p2), .val (.int (own_wd p2)), .unset, .unset, .unset, .unset] [(.ref a1)])) _
        refine XS.iloadN X2.here hx rfl (hb hby d3_15) rfl ?_
        show Steps p.tables e below (T2.setTop (mkF m 16 #[.val (.ref a1), .val (.int p2), .val (.int (own_wd p2)), .unset, .unset, .unset, .unset] [(.int (own_wd p2)), (.ref a1)])) _
        exact k)
      obtain ⟨z1e, wde⟩ := own_leaf_grow hz12 hp hc
      subst z1e
      obtain ⟨cq8, q8, q8'⟩ := E_a1.cell
      obtain ⟨_, _, ⟨T8, L8, k8, n8⟩, -, X8, ⟨Lc8, hQ8, l8, y8, z8⟩, st8⟩ := X2.privateBack hx (y := (⟨"com/example/berchta/berchta/learn/NodeSet", "grow", "(I)V"⟩ : MethodName)) hown (mvT hZ (hw _ (List.mem_of_getElem? (i := 55) rfl))) (mvT hZ (hw _ (List.mem_of_getElem? (i := 56) rfl))) (mvT hZ (own_sel (z := (⟨"com/example/berchta/berchta/learn/NodeSet", "add", "(I)V"⟩ : MethodName)) rfl (hw _ (List.mem_of_getElem? (i := 15) rfl)) (hw _ (List.mem_of_getElem? (i := 56) rfl)) (hw _ (List.mem_of_getElem? (i := 57) rfl)) (by decide))) (Cond.privateMethod_at (mvP hZ (hw _ (List.mem_of_getElem? (i := 57) rfl)) (args := #[]))) (mvT hZ (hw _ (List.mem_of_getElem? (i := 58) rfl))) (by decide) (backOf (W := 0) (rmGL l Z a0 hw [] a1 (own_wd p2) w g s2 h0 n0 Z0 LF wde) hZ (hw _ (List.mem_of_getElem? (i := 58) rfl)) (hw _ (List.mem_of_getElem? (i := 2) rfl)) (Nat.le_of_ble_eq_true rfl) (Nat.le_of_ble_eq_true rfl)) (g := (mkF m 16 #[.val (.ref a1), .val (.int p2), .val (.int (own_wd p2)), .unset, .unset, .unset, .unset] [(.int (own_wd p2)), (.ref a1)])) rfl (by rw [hml]; rfl) (Steps.refl _) (a := a1) (by rw [e2]; exact q8) q8' (argsL := [(.int (own_wd p2))]) (rest := []) (lenOf pdx_2 rfl) rfl (by show 2 * 0 + _ ≤ _; exact Nat.le_of_eq rfl) (hb hby d3_16) (fun _ _ => ⟨rfl, e2, (by show 0 + 1 ≤ cc; have := hcs hc; omega), (by show 0 + 2 ≤ ss; have := hcs hc; omega)⟩)
      dsimp only [Pt.U, Pt.locs, Pt.cells, Pt.slots] at X8 l8 y8 z8 st8 hQ8
      subst l8 y8 z8
      obtain ⟨w1, rfl, N8q, LF1, K8, s8⟩ := hQ8
      have N8 := Fr.app N0 N8q
      have pre9 : ∀ t, Steps p.tables e below (T8.setTop (mkF m 19 #[.val (.ref a1), .val (.int p2), .val (.int (own_wd p2)), .unset, .unset, .unset, .unset] [])) t → Steps p.tables e below (s₁.setTop (entryFrame m #[(.ref a1), (.int p2)] 7)) t := fun t k => pre7 t (by
        show Steps p.tables e below (T2.setTop (mkF m 16 #[.val (.ref a1), .val (.int p2), .val (.int (own_wd p2)), .unset, .unset, .unset, .unset] [(.int (own_wd p2)), (.ref a1)])) t
        refine st8.trans ?_
        show Steps p.tables e below (T8.setTop (mkF m 19 #[.val (.ref a1), .val (.int p2), .val (.int (own_wd p2)), .unset, .unset, .unset, .unset] [])) t
        exact k)
      exact ⟨T8, _, w1, 2, _, X8.more (by have := hcs hc; show 0 + 1 ≤ cc; omega) (by have := hcs hc; show 0 + 2 ≤ ss; omega), rfl, N8, LF1, (Keep.refl _ _).trans K8 (own_k1 (Or.inl (List.mem_of_getElem? (i := 0) rfl))), Or.inr s8, by rw [wde]; decide, fun q => absurd q hc, pre9⟩
  obtain ⟨E_b1, Fw_b1, Ff_b1, Fs_b1, Vw_w1, hz12b, hg0b, -, g_w1, naw1⟩ := LF1
  have inw1 : w1 ∈ [a1, w] ∨ h0.size ≤ w1 := hw1.elim (fun q => Or.inl (q ▸ List.mem_of_getElem? (i := 1) rfl)) Or.inr
  have pre10 : ∀ t, Steps p.tables e below (T1.setTop (mkF m 20 #[.val (.ref a1), .val (.int p2), .val (.int (own_wd p2)), .unset, .unset, .unset, .unset] [(.ref a1)])) t → Steps p.tables e below (s₁.setTop (entryFrame m #[(.ref a1), (.int p2)] 7)) t := fun t k => preJ t (by
    show Steps p.tables e below (T1.setTop (mkF m 19 #[.val (.ref a1), .val (.int p2), .val (.int (own_wd p2)), .unset, .unset, .unset, .unset] [])) _
    refine XS.aloadN X1.here hx rfl (hb hby d3_19) rfl rfl ?_
    show Steps p.tables e below (T1.setTop (mkF m 20 #[.val (.ref a1), .val (.int p2), .val (.int (own_wd p2)), .unset, .unset, .unset, .unset] [(.ref a1)])) _
    exact k)
  obtain ⟨T11, X11, e11, st11⟩ := getF X1 hx hZ hown (host := "") (Or.inl (hw _ (List.mem_of_getElem? (i := 10) rfl))) Via.refl e1 Fw_b1 (g := (mkF m 20 #[.val (.ref a1), .val (.int p2), .val (.int (own_wd p2)), .unset, .unset, .unset, .unset] [(.ref a1)])) rfl rfl (hb hby d3_20)
  have pre12 : ∀ t, Steps p.tables e below (T11.setTop (mkF m 23 #[.val (.ref a1), .val (.int p2), .val (.int (own_wd p2)), .unset, .unset, .unset, .unset] [(.ref w1)])) t → Steps p.tables e below (s₁.setTop (entryFrame m #[(.ref a1), (.int p2)] 7)) t := fun t k => pre10 t (by
    show Steps p.tables e below (T1.setTop (mkF m 20 #[.val (.ref a1), .val (.int p2), .val (.int (own_wd p2)), .unset, .unset, .unset, .unset] [(.ref a1)])) t
    refine st11 _ ?_
    show Steps p.tables e below (T11.setTop (mkF m 23 #[.val (.ref a1), .val (.int p2), .val (.int (own_wd p2)), .unset, .unset, .unset, .unset] [(.ref w1)])) t
    exact k)
  have pre13 : ∀ t, Steps p.tables e below (T11.setTop (mkF m 24 #[.val (.ref a1), .val (.int p2), .val (.int (own_wd p2)), .unset, .unset, .unset, .unset] [(.int (own_wd p2)), (.ref w1)])) t → Steps p.tables e below (s₁.setTop (entryFrame m #[(.ref a1), (.int p2)] 7)) t := fun t k => pre12 t (by
    show Steps p.tables e below (T11.setTop (mkF m 23 #[.val (.ref a1), .val (.int p2), .val (.int (own_wd p2)), .unset, .unset, .unset, .unset] [(.ref w1)])) _
    refine XS.iloadN X11.here hx rfl (hb hby d3_23) rfl ?_
    show Steps p.tables e below (T11.setTop (mkF m 24 #[.val (.ref a1), .val (.int p2), .val (.int (own_wd p2)), .unset, .unset, .unset, .unset] [(.int (own_wd p2)), (.ref w1)])) _
    exact k)
  obtain ⟨cl14, Ar14, hin14, hat14⟩ := own_wds_get Vw_w1 ⟨own_wd_pos p2, hlt⟩
  have pre15 : ∀ t, Steps p.tables e below (T11.setTop (mkF m 25 #[.val (.ref a1), .val (.int p2), .val (.int (own_wd p2)), .unset, .unset, .unset, .unset] [(.long (g (own_ix p2)))])) t → Steps p.tables e below (s₁.setTop (entryFrame m #[(.ref a1), (.int p2)] 7)) t := fun t k => pre13 t (by
    show Steps p.tables e below (T11.setTop (mkF m 24 #[.val (.ref a1), .val (.int p2), .val (.int (own_wd p2)), .unset, .unset, .unset, .unset] [(.int (own_wd p2)), (.ref w1)])) t
    refine X11.laload hx (j := (own_wd p2)) (v := (.long (g (own_ix p2)))) (by rw [e11]; exact Ar14.1) (State.isArrayOf_alike hZ.alike Ar14.2.1) Ar14.2.2 hin14 hat14 (g := (mkF m 24 #[.val (.ref a1), .val (.int p2), .val (.int (own_wd p2)), .unset, .unset, .unset, .unset] [(.int (own_wd p2)), (.ref w1)])) rfl rfl (hb hby d3_24) _ ?_
    exact k)
  have pre16 : ∀ t, Steps p.tables e below (T11.setTop (mkF m 37 #[.val (.ref a1), .val (.int p2), .val (.int (own_wd p2)), .val (.long (g (own_ix p2))), .second, .val (.long ((g (own_ix p2)) ||| (own_bo p2))), .second] [(.int (lcmpW ((g (own_ix p2)) ||| (own_bo p2)) (g (own_ix p2))))])) t → Steps p.tables e below (s₁.setTop (entryFrame m #[(.ref a1), (.int p2)] 7)) t := fun t k => pre15 t (by
    show Steps p.tables e below (T11.setTop (mkF m 25 #[.val (.ref a1), .val (.int p2), .val (.int (own_wd p2)), .unset, .unset, .unset, .unset] [(.long (g (own_ix p2)))])) _
    refine XS.lstoreN X11.here hx rfl (hb hby d3_25) rfl (l' := #[.val (.ref a1), .val (.int p2), .val (.int (own_wd p2)), .val (.long (g (own_ix p2))), .second, .unset, .unset]) rfl ?_
    show Steps p.tables e below (T11.setTop (mkF m 26 #[.val (.ref a1), .val (.int p2), .val (.int (own_wd p2)), .val (.long (g (own_ix p2))), .second, .unset, .unset] [])) _
    refine XS.lloadN X11.here hx rfl (hb hby d3_26) rfl ?_
    show Steps p.tables e below (T11.setTop (mkF m 27 #[.val (.ref a1), .val (.int p2), .val (.int (own_wd p2)), .val (.long (g (own_ix p2))), .second, .unset, .unset] [(.long (g (own_ix p2)))])) _
    refine XS.lconst X11.here hx rfl (hb hby d3_27) ?_
    show Steps p.tables e below (T11.setTop (mkF m 28 #[.val (.ref a1), .val (.int p2), .val (.int (own_wd p2)), .val (.long (g (own_ix p2))), .second, .unset, .unset] [(.long (1 : Int64)), (.long (g (own_ix p2)))])) _
    refine XS.iloadN X11.here hx rfl (hb hby d3_28) rfl ?_
    show Steps p.tables e below (T11.setTop (mkF m 29 #[.val (.ref a1), .val (.int p2), .val (.int (own_wd p2)), .val (.long (g (own_ix p2))), .second, .unset, .unset] [(.int p2), (.long (1 : Int64)), (.long (g (own_ix p2)))])) _
    refine XS.lshl X11.here hx rfl (hb hby d3_29) rfl ?_
    show Steps p.tables e below (T11.setTop (mkF m 30 #[.val (.ref a1), .val (.int p2), .val (.int (own_wd p2)), .val (.long (g (own_ix p2))), .second, .unset, .unset] [(.long (own_bo p2)), (.long (g (own_ix p2)))])) _
    refine XS.lor X11.here hx rfl (hb hby d3_30) rfl ?_
    show Steps p.tables e below (T11.setTop (mkF m 31 #[.val (.ref a1), .val (.int p2), .val (.int (own_wd p2)), .val (.long (g (own_ix p2))), .second, .unset, .unset] [(.long ((g (own_ix p2)) ||| (own_bo p2)))])) _
    refine XS.lstore X11.here hx rfl (hb hby d3_31) rfl (l' := #[.val (.ref a1), .val (.int p2), .val (.int (own_wd p2)), .val (.long (g (own_ix p2))), .second, .val (.long ((g (own_ix p2)) ||| (own_bo p2))), .second]) rfl ?_
    show Steps p.tables e below (T11.setTop (mkF m 33 #[.val (.ref a1), .val (.int p2), .val (.int (own_wd p2)), .val (.long (g (own_ix p2))), .second, .val (.long ((g (own_ix p2)) ||| (own_bo p2))), .second] [])) _
    refine XS.lload X11.here hx rfl (hb hby d3_33) rfl ?_
    show Steps p.tables e below (T11.setTop (mkF m 35 #[.val (.ref a1), .val (.int p2), .val (.int (own_wd p2)), .val (.long (g (own_ix p2))), .second, .val (.long ((g (own_ix p2)) ||| (own_bo p2))), .second] [(.long ((g (own_ix p2)) ||| (own_bo p2)))])) _
    refine XS.lloadN X11.here hx rfl (hb hby d3_35) rfl ?_
    show Steps p.tables e below (T11.setTop (mkF m 36 #[.val (.ref a1), .val (.int p2), .val (.int (own_wd p2)), .val (.long (g (own_ix p2))), .second, .val (.long ((g (own_ix p2)) ||| (own_bo p2))), .second] [(.long (g (own_ix p2))), (.long ((g (own_ix p2)) ||| (own_bo p2)))])) _
    refine XS.lcmp X11.here hx rfl (hb hby d3_36) rfl ?_
    show Steps p.tables e below (T11.setTop (mkF m 37 #[.val (.ref a1), .val (.int p2), .val (.int (own_wd p2)), .val (.long (g (own_ix p2))), .second, .val (.long ((g (own_ix p2)) ||| (own_bo p2))), .second] [(.int (lcmpW ((g (own_ix p2)) ||| (own_bo p2)) (g (own_ix p2))))])) _
    exact k)
  by_cases hbit : own_bt (g (own_ix p2)) (own_lo p2) = true
  · skip
    have pre17 : ∀ t, Steps p.tables e below (T11.setTop (mkF m 40 #[.val (.ref a1), .val (.int p2), .val (.int (own_wd p2)), .val (.long (g (own_ix p2))), .second, .val (.long ((g (own_ix p2)) ||| (own_bo p2))), .second] [])) t → Steps p.tables e below (s₁.setTop (entryFrame m #[(.ref a1), (.int p2)] 7)) t := fun t k => pre16 t (by
      show Steps p.tables e below (T11.setTop (mkF m 37 #[.val (.ref a1), .val (.int p2), .val (.int (own_wd p2)), .val (.long (g (own_ix p2))), .second, .val (.long ((g (own_ix p2)) ||| (own_bo p2))), .second] [(.int (lcmpW ((g (own_ix p2)) ||| (own_bo p2)) (g (own_ix p2))))])) _
      refine XS.ifNo X11.here hx rfl (hb hby d3_37) rfl ((if0 _ _).trans (teq ((lw_eq _ _).mpr ((own_or_same _ _).mpr hbit))).2) ?_
      show Steps p.tables e below (T11.setTop (mkF m 40 #[.val (.ref a1), .val (.int p2), .val (.int (own_wd p2)), .val (.long (g (own_ix p2))), .second, .val (.long ((g (own_ix p2)) ||| (own_bo p2))), .second] [])) _
      exact k)
    obtain ⟨fs, hr, hrun, hended, hW, hsame⟩ := X11.leave (v := none) (fun _ => rfl)
    refine ⟨_, _, pre17 _ ?_, hrun, hended, _, _, rfl, ?_, ⟨_, rfl⟩, hW, hsame.mono (Nat.le_refl _) (Nat.le_refl _)⟩
    · show Steps p.tables e below (T11.setTop (mkF m 40 #[.val (.ref a1), .val (.int p2), .val (.int (own_wd p2)), .val (.long (g (own_ix p2))), .second, .val (.long ((g (own_ix p2)) ||| (own_bo p2))), .second] [])) _
      exact X11.returnOut hx Bd.returns (hb hby d3_40) hr
    · show QLadd Z a1 p2 w z g s2 cc ss h0 n0 _ T11.heap _
      rw [e11]
      exact ⟨w1, z1, s2, rfl, N1, by rw [own_add_id hbit]; exact ⟨E_b1, Fw_b1, Ff_b1, Fs_b1, Vw_w1, hz12b, hg0b, g_a1, g_w1, naw1⟩, K1, hw1, hz1, hlt⟩
  · skip
    have pre18 : ∀ t, Steps p.tables e below (T11.setTop (mkF m 42 #[.val (.ref a1), .val (.int p2), .val (.int (own_wd p2)), .val (.long (g (own_ix p2))), .second, .val (.long ((g (own_ix p2)) ||| (own_bo p2))), .second] [(.ref a1)])) t → Steps p.tables e below (s₁.setTop (entryFrame m #[(.ref a1), (.int p2)] 7)) t := fun t k => pre16 t (by
      show Steps p.tables e below (T11.setTop (mkF m 37 #[.val (.ref a1), .val (.int p2), .val (.int (own_wd p2)), .val (.long (g (own_ix p2))), .second, .val (.long ((g (own_ix p2)) ||| (own_bo p2))), .second] [(.int (lcmpW ((g (own_ix p2)) ||| (own_bo p2)) (g (own_ix p2))))])) _
      refine XS.ifYes X11.here hx rfl (pc0 := 37) (pc' := 41) rfl (hb hby d3_37) rfl ((if0 _ _).trans (feq (fun q => hbit ((own_or_same _ _).mp ((lw_eq _ _).mp q)))).2) (by decide) (by decide) ?_
      show Steps p.tables e below (T11.setTop (mkF m 41 #[.val (.ref a1), .val (.int p2), .val (.int (own_wd p2)), .val (.long (g (own_ix p2))), .second, .val (.long ((g (own_ix p2)) ||| (own_bo p2))), .second] [])) _
      refine XS.aloadN X11.here hx rfl (hb hby d3_41) rfl rfl ?_
      show Steps p.tables e below (T11.setTop (mkF m 42 #[.val (.ref a1), .val (.int p2), .val (.int (own_wd p2)), .val (.long (g (own_ix p2))), .second, .val (.long ((g (own_ix p2)) ||| (own_bo p2))), .second] [(.ref a1)])) _
      exact k)
    obtain ⟨T19, X19, e19, st19⟩ := getF X11 hx hZ hown (host := "") (Or.inl (hw _ (List.mem_of_getElem? (i := 10) rfl))) Via.refl e11 Fw_b1 (g := (mkF m 42 #[.val (.ref a1), .val (.int p2), .val (.int (own_wd p2)), .val (.long (g (own_ix p2))), .second, .val (.long ((g (own_ix p2)) ||| (own_bo p2))), .second] [(.ref a1)])) rfl rfl (hb hby d3_42)
    have pre20 : ∀ t, Steps p.tables e below (T19.setTop (mkF m 45 #[.val (.ref a1), .val (.int p2), .val (.int (own_wd p2)), .val (.long (g (own_ix p2))), .second, .val (.long ((g (own_ix p2)) ||| (own_bo p2))), .second] [(.ref w1)])) t → Steps p.tables e below (s₁.setTop (entryFrame m #[(.ref a1), (.int p2)] 7)) t := fun t k => pre18 t (by
      show Steps p.tables e below (T11.setTop (mkF m 42 #[.val (.ref a1), .val (.int p2), .val (.int (own_wd p2)), .val (.long (g (own_ix p2))), .second, .val (.long ((g (own_ix p2)) ||| (own_bo p2))), .second] [(.ref a1)])) t
      refine st19 _ ?_
      show Steps p.tables e below (T19.setTop (mkF m 45 #[.val (.ref a1), .val (.int p2), .val (.int (own_wd p2)), .val (.long (g (own_ix p2))), .second, .val (.long ((g (own_ix p2)) ||| (own_bo p2))), .second] [(.ref w1)])) t
      exact k)
    have pre21 : ∀ t, Steps p.tables e below (T19.setTop (mkF m 48 #[.val (.ref a1), .val (.int p2), .val (.int (own_wd p2)), .val (.long (g (own_ix p2))), .second, .val (.long ((g (own_ix p2)) ||| (own_bo p2))), .second] [(.long ((g (own_ix p2)) ||| (own_bo p2))), (.int (own_wd p2)), (.ref w1)])) t → Steps p.tables e below (s₁.setTop (entryFrame m #[(.ref a1), (.int p2)] 7)) t := fun t k => pre20 t (by
      show Steps p.tables e below (T19.setTop (mkF m 45 #[.val (.ref a1), .val (.int p2), .val (.int (own_wd p2)), .val (.long (g (own_ix p2))), .second, .val (.long ((g (own_ix p2)) ||| (own_bo p2))), .second] [(.ref w1)])) _
      refine XS.iloadN X19.here hx rfl (hb hby d3_45) rfl ?_
      show Steps p.tables e below (T19.setTop (mkF m 46 #[.val (.ref a1), .val (.int p2), .val (.int (own_wd p2)), .val (.long (g (own_ix p2))), .second, .val (.long ((g (own_ix p2)) ||| (own_bo p2))), .second] [(.int (own_wd p2)), (.ref w1)])) _
      refine XS.lload X19.here hx rfl (hb hby d3_46) rfl ?_
      show Steps p.tables e below (T19.setTop (mkF m 48 #[.val (.ref a1), .val (.int p2), .val (.int (own_wd p2)), .val (.long (g (own_ix p2))), .second, .val (.long ((g (own_ix p2)) ||| (own_bo p2))), .second] [(.long ((g (own_ix p2)) ||| (own_bo p2))), (.int (own_wd p2)), (.ref w1)])) _
      exact k)
    obtain ⟨cl22, Ar22, hin22, hat22⟩ := own_wds_get Vw_w1 ⟨own_wd_pos p2, hlt⟩
    obtain ⟨T22, h22, X22, e22, W22, st22⟩ := stJ X19 hx hZ e19 Ar22 (j := (own_wd p2)) hin22 (g := (mkF m 48 #[.val (.ref a1), .val (.int p2), .val (.int (own_wd p2)), .val (.long (g (own_ix p2))), .second, .val (.long ((g (own_ix p2)) ||| (own_bo p2))), .second] [(.long ((g (own_ix p2)) ||| (own_bo p2))), (.int (own_wd p2)), (.ref w1)])) rfl rfl (hb hby d3_48)
    have E_b1_22 := E_b1.wr W22
    have Fw_b1_22 := Fw_b1.other W22 (Or.inl naw1)
    have Ff_b1_22 := Ff_b1.other W22 (Or.inl naw1)
    have Fs_b1_22 := Fs_b1.other W22 (Or.inl naw1)
    have KK22 := K1.wr W22 inw1
    have Vw_w1_22 := own_wds_set Vw_w1 W22
    have N22 := Fr.snoc X22 N1 g_w1
    have pre23 : ∀ t, Steps p.tables e below (T22.setTop (mkF m 49 #[.val (.ref a1), .val (.int p2), .val (.int (own_wd p2)), .val (.long (g (own_ix p2))), .second, .val (.long ((g (own_ix p2)) ||| (own_bo p2))), .second] [])) t → Steps p.tables e below (s₁.setTop (entryFrame m #[(.ref a1), (.int p2)] 7)) t := fun t k => pre21 t (by
      show Steps p.tables e below (T19.setTop (mkF m 48 #[.val (.ref a1), .val (.int p2), .val (.int (own_wd p2)), .val (.long (g (own_ix p2))), .second, .val (.long ((g (own_ix p2)) ||| (own_bo p2))), .second] [(.long ((g (own_ix p2)) ||| (own_bo p2))), (.int (own_wd p2)), (.ref w1)])) t
      refine st22 _ ?_
      show Steps p.tables e below (T22.setTop (mkF m 49 #[.val (.ref a1), .val (.int p2), .val (.int (own_wd p2)), .val (.long (g (own_ix p2))), .second, .val (.long ((g (own_ix p2)) ||| (own_bo p2))), .second] [])) t
      exact k)
    have pre24 : ∀ t, Steps p.tables e below (T22.setTop (mkF m 51 #[.val (.ref a1), .val (.int p2), .val (.int (own_wd p2)), .val (.long (g (own_ix p2))), .second, .val (.long ((g (own_ix p2)) ||| (own_bo p2))), .second] [(.ref a1), (.ref a1)])) t → Steps p.tables e below (s₁.setTop (entryFrame m #[(.ref a1), (.int p2)] 7)) t := fun t k => pre23 t (by
      show Steps p.tables e below (T22.setTop (mkF m 49 #[.val (.ref a1), .val (.int p2), .val (.int (own_wd p2)), .val (.long (g (own_ix p2))), .second, .val (.long ((g (own_ix p2)) ||| (own_bo p2))), .second] [])) _
      refine XS.aloadN X22.here hx rfl (hb hby d3_49) rfl rfl ?_
      show Steps p.tables e below (T22.setTop (mkF m 50 #[.val (.ref a1), .val (.int p2), .val (.int (own_wd p2)), .val (.long (g (own_ix p2))), .second, .val (.long ((g (own_ix p2)) ||| (own_bo p2))), .second] [(.ref a1)])) _
      refine XS.dup X22.here hx rfl (hb hby d3_50) rfl rfl ?_
      show Steps p.tables e below (T22.setTop (mkF m 51 #[.val (.ref a1), .val (.int p2), .val (.int (own_wd p2)), .val (.long (g (own_ix p2))), .second, .val (.long ((g (own_ix p2)) ||| (own_bo p2))), .second] [(.ref a1), (.ref a1)])) _
      exact k)
    obtain ⟨T25, X25, e25, st25⟩ := getF X22 hx hZ hown (host := "") (Or.inl (hw _ (List.mem_of_getElem? (i := 17) rfl))) Via.refl e22 Fs_b1_22 (g := (mkF m 51 #[.val (.ref a1), .val (.int p2), .val (.int (own_wd p2)), .val (.long (g (own_ix p2))), .second, .val (.long ((g (own_ix p2)) ||| (own_bo p2))), .second] [(.ref a1), (.ref a1)])) rfl rfl (hb hby d3_51)
    have pre26 : ∀ t, Steps p.tables e below (T25.setTop (mkF m 54 #[.val (.ref a1), .val (.int p2), .val (.int (own_wd p2)), .val (.long (g (own_ix p2))), .second, .val (.long ((g (own_ix p2)) ||| (own_bo p2))), .second] [(.int s2), (.ref a1)])) t → Steps p.tables e below (s₁.setTop (entryFrame m #[(.ref a1), (.int p2)] 7)) t := fun t k => pre24 t (by
      show Steps p.tables e below (T22.setTop (mkF m 51 #[.val (.ref a1), .val (.int p2), .val (.int (own_wd p2)), .val (.long (g (own_ix p2))), .second, .val (.long ((g (own_ix p2)) ||| (own_bo p2))), .second] [(.ref a1), (.ref a1)])) t
      refine st25 _ ?_
      show Steps p.tables e below (T25.setTop (mkF m 54 #[.val (.ref a1), .val (.int p2), .val (.int (own_wd p2)), .val (.long (g (own_ix p2))), .second, .val (.long ((g (own_ix p2)) ||| (own_bo p2))), .second] [(.int s2), (.ref a1)])) t
      exact k)
    have pre27 : ∀ t, Steps p.tables e below (T25.setTop (mkF m 56 #[.val (.ref a1), .val (.int p2), .val (.int (own_wd p2)), .val (.long (g (own_ix p2))), .second, .val (.long ((g (own_ix p2)) ||| (own_bo p2))), .second] [(.int (s2 + (1 : Int32))), (.ref a1)])) t → Steps p.tables e below (s₁.setTop (entryFrame m #[(.ref a1), (.int p2)] 7)) t := fun t k => pre26 t (by
      show Steps p.tables e below (T25.setTop (mkF m 54 #[.val (.ref a1), .val (.int p2), .val (.int (own_wd p2)), .val (.long (g (own_ix p2))), .second, .val (.long ((g (own_ix p2)) ||| (own_bo p2))), .second] [(.int s2), (.ref a1)])) _
      refine XS.iconst X25.here hx rfl (hb hby d3_54) ?_
      show Steps p.tables e below (T25.setTop (mkF m 55 #[.val (.ref a1), .val (.int p2), .val (.int (own_wd p2)), .val (.long (g (own_ix p2))), .second, .val (.long ((g (own_ix p2)) ||| (own_bo p2))), .second] [(.int (1 : Int32)), (.int s2), (.ref a1)])) _
      refine XS.iadd X25.here hx rfl (hb hby d3_55) rfl ?_
      show Steps p.tables e below (T25.setTop (mkF m 56 #[.val (.ref a1), .val (.int p2), .val (.int (own_wd p2)), .val (.long (g (own_ix p2))), .second, .val (.long ((g (own_ix p2)) ||| (own_bo p2))), .second] [(.int (s2 + (1 : Int32))), (.ref a1)])) _
      exact k)
    obtain ⟨T28, h28, X28, e28, W28, st28⟩ := putF X25 hx hZ hown (host := "") (Or.inl (hw _ (List.mem_of_getElem? (i := 17) rfl))) Via.refl e25 Fs_b1_22 E_b1_22 (Or.inl (hw _ (List.mem_of_getElem? (i := 18) rfl))) (hw _ (List.mem_of_getElem? (i := 1) rfl)) (ty := .int) (by decide) rfl rfl (g := (mkF m 56 #[.val (.ref a1), .val (.int p2), .val (.int (own_wd p2)), .val (.long (g (own_ix p2))), .second, .val (.long ((g (own_ix p2)) ||| (own_bo p2))), .second] [(.int (s2 + (1 : Int32))), (.ref a1)])) rfl rfl (hb hby d3_56)
    have E_b1_28 := E_b1_22.wr W28
    have Fw_b1_28 := Fw_b1_22.other W28 (Or.inr (slot_ne (Or.inl (hw _ (List.mem_of_getElem? (i := 11) rfl))) (Or.inl (hw _ (List.mem_of_getElem? (i := 18) rfl))) (by decide) (t := (.array .long)) (t' := .int) (by decide) (by decide)))
    have Ff_b1_28 := Ff_b1_22.other W28 (Or.inr (slot_ne (Or.inl (hw _ (List.mem_of_getElem? (i := 20) rfl))) (Or.inl (hw _ (List.mem_of_getElem? (i := 18) rfl))) (by decide) (t := (.object "com/example/berchta/berchta/learn/NodeSet")) (t' := .int) (by decide) (by decide)))
    have Vw_w1_28 := Vw_w1_22.other W28 (Ne.symm naw1)
    have KK28 := KK22.wr W28 (Or.inl (List.mem_of_getElem? (i := 0) rfl))
    have Fs_b1_28 := Fs_b1_22.same W28
    have N28 := Fr.snoc X28 N22 g_a1
    have pre29 : ∀ t, Steps p.tables e below (T28.setTop (mkF m 59 #[.val (.ref a1), .val (.int p2), .val (.int (own_wd p2)), .val (.long (g (own_ix p2))), .second, .val (.long ((g (own_ix p2)) ||| (own_bo p2))), .second] [])) t → Steps p.tables e below (s₁.setTop (entryFrame m #[(.ref a1), (.int p2)] 7)) t := fun t k => pre27 t (by
      show Steps p.tables e below (T25.setTop (mkF m 56 #[.val (.ref a1), .val (.int p2), .val (.int (own_wd p2)), .val (.long (g (own_ix p2))), .second, .val (.long ((g (own_ix p2)) ||| (own_bo p2))), .second] [(.int (s2 + (1 : Int32))), (.ref a1)])) t
      refine st28 _ ?_
      show Steps p.tables e below (T28.setTop (mkF m 59 #[.val (.ref a1), .val (.int p2), .val (.int (own_wd p2)), .val (.long (g (own_ix p2))), .second, .val (.long ((g (own_ix p2)) ||| (own_bo p2))), .second] [])) t
      exact k)
    have pre30 : ∀ t, Steps p.tables e below (T28.setTop (mkF m 62 #[.val (.ref a1), .val (.int p2), .val (.int (own_wd p2)), .val (.long (g (own_ix p2))), .second, .val (.long ((g (own_ix p2)) ||| (own_bo p2))), .second] [(.int (lcmpW (g (own_ix p2)) (0 : Int64)))])) t → Steps p.tables e below (s₁.setTop (entryFrame m #[(.ref a1), (.int p2)] 7)) t := fun t k => pre29 t (by
      show Steps p.tables e below (T28.setTop (mkF m 59 #[.val (.ref a1), .val (.int p2), .val (.int (own_wd p2)), .val (.long (g (own_ix p2))), .second, .val (.long ((g (own_ix p2)) ||| (own_bo p2))), .second] [])) _
      refine XS.lloadN X28.here hx rfl (hb hby d3_59) rfl ?_
      show Steps p.tables e below (T28.setTop (mkF m 60 #[.val (.ref a1), .val (.int p2), .val (.int (own_wd p2)), .val (.long (g (own_ix p2))), .second, .val (.long ((g (own_ix p2)) ||| (own_bo p2))), .second] [(.long (g (own_ix p2)))])) _
      refine XS.lconst X28.here hx rfl (hb hby d3_60) ?_
      show Steps p.tables e below (T28.setTop (mkF m 61 #[.val (.ref a1), .val (.int p2), .val (.int (own_wd p2)), .val (.long (g (own_ix p2))), .second, .val (.long ((g (own_ix p2)) ||| (own_bo p2))), .second] [(.long (0 : Int64)), (.long (g (own_ix p2)))])) _
      refine XS.lcmp X28.here hx rfl (hb hby d3_61) rfl ?_
      show Steps p.tables e below (T28.setTop (mkF m 62 #[.val (.ref a1), .val (.int p2), .val (.int (own_wd p2)), .val (.long (g (own_ix p2))), .second, .val (.long ((g (own_ix p2)) ||| (own_bo p2))), .second] [(.int (lcmpW (g (own_ix p2)) (0 : Int64)))])) _
      exact k)
    by_cases hz0 : (g (own_ix p2)) = 0
    · skip
      have pre31 : ∀ t, Steps p.tables e below (T28.setTop (mkF m 66 #[.val (.ref a1), .val (.int p2), .val (.int (own_wd p2)), .val (.long (g (own_ix p2))), .second, .val (.long ((g (own_ix p2)) ||| (own_bo p2))), .second] [(.ref a1)])) t → Steps p.tables e below (s₁.setTop (entryFrame m #[(.ref a1), (.int p2)] 7)) t := fun t k => pre30 t (by
        show Steps p.tables e below (T28.setTop (mkF m 62 #[.val (.ref a1), .val (.int p2), .val (.int (own_wd p2)), .val (.long (g (own_ix p2))), .second, .val (.long ((g (own_ix p2)) ||| (own_bo p2))), .second] [(.int (lcmpW (g (own_ix p2)) (0 : Int64)))])) _
        refine XS.ifNo X28.here hx rfl (hb hby d3_62) rfl ((if0 _ _).trans (teq ((lw_eq _ _).mpr hz0)).2) ?_
        show Steps p.tables e below (T28.setTop (mkF m 65 #[.val (.ref a1), .val (.int p2), .val (.int (own_wd p2)), .val (.long (g (own_ix p2))), .second, .val (.long ((g (own_ix p2)) ||| (own_bo p2))), .second] [])) _
        refine XS.aloadN X28.here hx rfl (hb hby d3_65) rfl rfl ?_
        show Steps p.tables e below (T28.setTop (mkF m 66 #[.val (.ref a1), .val (.int p2), .val (.int (own_wd p2)), .val (.long (g (own_ix p2))), .second, .val (.long ((g (own_ix p2)) ||| (own_bo p2))), .second] [(.ref a1)])) _
        exact k)
      obtain ⟨T32, X32, e32, st32⟩ := getF X28 hx hZ hown (host := "") (Or.inl (hw _ (List.mem_of_getElem? (i := 19) rfl))) Via.refl e28 Ff_b1_28 (g := (mkF m 66 #[.val (.ref a1), .val (.int p2), .val (.int (own_wd p2)), .val (.long (g (own_ix p2))), .second, .val (.long ((g (own_ix p2)) ||| (own_bo p2))), .second] [(.ref a1)])) rfl rfl (hb hby d3_66)
      have pre33 : ∀ t, Steps p.tables e below (T32.setTop (mkF m 69 #[.val (.ref a1), .val (.int p2), .val (.int (own_wd p2)), .val (.long (g (own_ix p2))), .second, .val (.long ((g (own_ix p2)) ||| (own_bo p2))), .second] [.null])) t → Steps p.tables e below (s₁.setTop (entryFrame m #[(.ref a1), (.int p2)] 7)) t := fun t k => pre31 t (by
        show Steps p.tables e below (T28.setTop (mkF m 66 #[.val (.ref a1), .val (.int p2), .val (.int (own_wd p2)), .val (.long (g (own_ix p2))), .second, .val (.long ((g (own_ix p2)) ||| (own_bo p2))), .second] [(.ref a1)])) t
        refine st32 _ ?_
        show Steps p.tables e below (T32.setTop (mkF m 69 #[.val (.ref a1), .val (.int p2), .val (.int (own_wd p2)), .val (.long (g (own_ix p2))), .second, .val (.long ((g (own_ix p2)) ||| (own_bo p2))), .second] [.null])) t
        exact k)
      have pre34 : ∀ t, Steps p.tables e below (T32.setTop (mkF m 80 #[.val (.ref a1), .val (.int p2), .val (.int (own_wd p2)), .val (.long (g (own_ix p2))), .second, .val (.long ((g (own_ix p2)) ||| (own_bo p2))), .second] [])) t → Steps p.tables e below (s₁.setTop (entryFrame m #[(.ref a1), (.int p2)] 7)) t := fun t k => pre33 t (by
        show Steps p.tables e below (T32.setTop (mkF m 69 #[.val (.ref a1), .val (.int p2), .val (.int (own_wd p2)), .val (.long (g (own_ix p2))), .second, .val (.long ((g (own_ix p2)) ||| (own_bo p2))), .second] [.null])) _
        refine XS.ifnullYes X32.here hx rfl (pc0 := 69) (pc' := 80) rfl (hb hby d3_69) rfl (by decide) (by decide) ?_
        show Steps p.tables e below (T32.setTop (mkF m 80 #[.val (.ref a1), .val (.int p2), .val (.int (own_wd p2)), .val (.long (g (own_ix p2))), .second, .val (.long ((g (own_ix p2)) ||| (own_bo p2))), .second] [])) _
        exact k)
      obtain ⟨fs, hr, hrun, hended, hW, hsame⟩ := X32.leave (v := none) (fun _ => rfl)
      refine ⟨_, _, pre34 _ ?_, hrun, hended, _, _, rfl, ?_, ⟨_, rfl⟩, hW, hsame.mono (Nat.le_refl _) (Nat.le_refl _)⟩
      · show Steps p.tables e below (T32.setTop (mkF m 80 #[.val (.ref a1), .val (.int p2), .val (.int (own_wd p2)), .val (.long (g (own_ix p2))), .second, .val (.long ((g (own_ix p2)) ||| (own_bo p2))), .second] [])) _
        exact X32.returnOut hx Bd.returns (hb hby d3_80) hr
      · show QLadd Z a1 p2 w z g s2 cc ss h0 n0 _ T32.heap _
        rw [e32]
        exact ⟨w1, z1, _, rfl, N28, ⟨E_b1_28, Fw_b1_28, Ff_b1_28, Fs_b1_28, Vw_w1_28, hz12b, own_add_out hg0b hlt, g_a1, g_w1, naw1⟩, KK28, hw1, hz1, hlt⟩
    · skip
      have pre35 : ∀ t, Steps p.tables e below (T28.setTop (mkF m 80 #[.val (.ref a1), .val (.int p2), .val (.int (own_wd p2)), .val (.long (g (own_ix p2))), .second, .val (.long ((g (own_ix p2)) ||| (own_bo p2))), .second] [])) t → Steps p.tables e below (s₁.setTop (entryFrame m #[(.ref a1), (.int p2)] 7)) t := fun t k => pre30 t (by
        show Steps p.tables e below (T28.setTop (mkF m 62 #[.val (.ref a1), .val (.int p2), .val (.int (own_wd p2)), .val (.long (g (own_ix p2))), .second, .val (.long ((g (own_ix p2)) ||| (own_bo p2))), .second] [(.int (lcmpW (g (own_ix p2)) (0 : Int64)))])) _
        refine XS.ifYes X28.here hx rfl (pc0 := 62) (pc' := 80) rfl (hb hby d3_62) rfl ((if0 _ _).trans (feq (fun q => hz0 ((lw_eq _ _).mp q))).2) (by decide) (by decide) ?_
        show Steps p.tables e below (T28.setTop (mkF m 80 #[.val (.ref a1), .val (.int p2), .val (.int (own_wd p2)), .val (.long (g (own_ix p2))), .second, .val (.long ((g (own_ix p2)) ||| (own_bo p2))), .second] [])) _
        exact k)
      obtain ⟨fs, hr, hrun, hended, hW, hsame⟩ := X28.leave (v := none) (fun _ => rfl)
      refine ⟨_, _, pre35 _ ?_, hrun, hended, _, _, rfl, ?_, ⟨_, rfl⟩, hW, hsame.mono (Nat.le_refl _) (Nat.le_refl _)⟩
      · show Steps p.tables e below (T28.setTop (mkF m 80 #[.val (.ref a1), .val (.int p2), .val (.int (own_wd p2)), .val (.long (g (own_ix p2))), .second, .val (.long ((g (own_ix p2)) ||| (own_bo p2))), .second] [])) _
        exact X28.returnOut hx Bd.returns (hb hby d3_80) hr
      · show QLadd Z a1 p2 w z g s2 cc ss h0 n0 _ T28.heap _
        rw [e28]
        exact ⟨w1, z1, _, rfl, N28, ⟨E_b1_28, Fw_b1_28, Ff_b1_28, Fs_b1_28, Vw_w1_28, hz12b, own_add_out hg0b hlt, g_a1, g_w1, naw1⟩, KK28, hw1, hz1, hlt⟩
theorem d4_0 : decode prog_101_method_4_code 0 = .ok (.iload_n 1, 1) := by decide +kernel
theorem d4_1 : decode prog_101_method_4_code 1 = .ok (.bipush 6, 2) := by decide +kernel
theorem d4_3 : decode prog_101_method_4_code 3 = .ok (.iushr, 1) := by decide +kernel
theorem d4_4 : decode prog_101_method_4_code 4 = .ok (.istore_n 2, 1) := by decide +kernel
theorem d4_5 : decode prog_101_method_4_code 5 = .ok (.iload_n 2, 1) := by decide +kernel
theorem d4_6 : decode prog_101_method_4_code 6 = .ok (.aload_n 0, 1) := by decide +kernel
theorem d4_7 : decode prog_101_method_4_code 7 = .ok (.getfield 7, 3) := by decide +kernel
theorem d4_10 : decode prog_101_method_4_code 10 = .ok (.arraylength, 1) := by decide +kernel
theorem d4_11 : decode prog_101_method_4_code 11 = .ok (.if_icmp .lt 4, 3) := by decide +kernel
theorem d4_14 : decode prog_101_method_4_code 14 = .ok (.return_, 1) := by decide +kernel
theorem d4_15 : decode prog_101_method_4_code 15 = .ok (.aload_n 0, 1) := by decide +kernel
theorem d4_16 : decode prog_101_method_4_code 16 = .ok (.getfield 7, 3) := by decide +kernel
theorem d4_19 : decode prog_101_method_4_code 19 = .ok (.iload_n 2, 1) := by decide +kernel
theorem d4_20 : decode prog_101_method_4_code 20 = .ok (.laload, 1) := by decide +kernel
theorem d4_21 : decode prog_101_method_4_code 21 = .ok (.lstore_n 3, 1) := by decide +kernel
theorem d4_22 : decode prog_101_method_4_code 22 = .ok (.lload_n 3, 1) := by decide +kernel
theorem d4_23 : decode prog_101_method_4_code 23 = .ok (.lconst 1, 1) := by decide +kernel
theorem d4_24 : decode prog_101_method_4_code 24 = .ok (.iload_n 1, 1) := by decide +kernel
theorem d4_25 : decode prog_101_method_4_code 25 = .ok (.lshl, 1) := by decide +kernel
theorem d4_26 : decode prog_101_method_4_code 26 = .ok (.ldc2_w 38, 3) := by decide +kernel
theorem d4_29 : decode prog_101_method_4_code 29 = .ok (.lxor, 1) := by decide +kernel
theorem d4_30 : decode prog_101_method_4_code 30 = .ok (.land, 1) := by decide +kernel
theorem d4_31 : decode prog_101_method_4_code 31 = .ok (.lstore 5, 2) := by decide +kernel
theorem d4_33 : decode prog_101_method_4_code 33 = .ok (.lload 5, 2) := by decide +kernel
theorem d4_35 : decode prog_101_method_4_code 35 = .ok (.lload_n 3, 1) := by decide +kernel
theorem d4_36 : decode prog_101_method_4_code 36 = .ok (.lcmp, 1) := by decide +kernel
theorem d4_37 : decode prog_101_method_4_code 37 = .ok (.ifCond .ne 4, 3) := by decide +kernel
theorem d4_40 : decode prog_101_method_4_code 40 = .ok (.return_, 1) := by decide +kernel
theorem d4_41 : decode prog_101_method_4_code 41 = .ok (.aload_n 0, 1) := by decide +kernel
theorem d4_42 : decode prog_101_method_4_code 42 = .ok (.getfield 7, 3) := by decide +kernel
theorem d4_45 : decode prog_101_method_4_code 45 = .ok (.iload_n 2, 1) := by decide +kernel
theorem d4_46 : decode prog_101_method_4_code 46 = .ok (.lload 5, 2) := by decide +kernel
theorem d4_48 : decode prog_101_method_4_code 48 = .ok (.lastore, 1) := by decide +kernel
theorem d4_49 : decode prog_101_method_4_code 49 = .ok (.aload_n 0, 1) := by decide +kernel
theorem d4_50 : decode prog_101_method_4_code 50 = .ok (.dup, 1) := by decide +kernel
theorem d4_51 : decode prog_101_method_4_code 51 = .ok (.getfield 27, 3) := by decide +kernel
theorem d4_54 : decode prog_101_method_4_code 54 = .ok (.iconst 1, 1) := by decide +kernel
theorem d4_55 : decode prog_101_method_4_code 55 = .ok (.isub, 1) := by decide +kernel
theorem d4_56 : decode prog_101_method_4_code 56 = .ok (.putfield 27, 3) := by decide +kernel
theorem d4_59 : decode prog_101_method_4_code 59 = .ok (.lload 5, 2) := by decide +kernel
theorem d4_61 : decode prog_101_method_4_code 61 = .ok (.lconst 0, 1) := by decide +kernel
theorem d4_62 : decode prog_101_method_4_code 62 = .ok (.lcmp, 1) := by decide +kernel
theorem d4_63 : decode prog_101_method_4_code 63 = .ok (.ifCond .ne 18, 3) := by decide +kernel
theorem d4_66 : decode prog_101_method_4_code 66 = .ok (.aload_n 0, 1) := by decide +kernel
theorem d4_67 : decode prog_101_method_4_code 67 = .ok (.getfield 19, 3) := by decide +kernel
theorem d4_70 : decode prog_101_method_4_code 70 = .ok (.ifnull 11, 3) := by decide +kernel
theorem d4_73 : decode prog_101_method_4_code 73 = .ok (.aload_n 0, 1) := by decide +kernel
theorem d4_74 : decode prog_101_method_4_code 74 = .ok (.getfield 19, 3) := by decide +kernel
theorem d4_77 : decode prog_101_method_4_code 77 = .ok (.iload_n 2, 1) := by decide +kernel
theorem d4_78 : decode prog_101_method_4_code 78 = .ok (.invokevirtual 40, 3) := by decide +kernel
theorem d4_81 : decode prog_101_method_4_code 81 = .ok (.return_, 1) := by decide +kernel
theorem pn_4 : plainName "com/example/berchta/berchta/learn/NodeSet" = true := by first | (simp [plainName, overriddenIn]; done) | decide +kernel
theorem ef_4 (m : MethodId) (x0 : Addr) (x1 : Int32) : entryFrame m #[(.ref x0), (.int x1)] 7 = mkF m 0 #[.val (.ref x0), .val (.int x1), .unset, .unset, .unset, .unset, .unset] [] := by first | (simp [entryFrame, mkF, argsToLocals, Value.category]; done) | rfl
def QLremove (Z : State) (a1 : Addr) (p2 : Int32) (w : Addr) (z : Int32) (g : Nat → Int64) (s2 : Int32) (h0 : Heap) (n0 : Nat) (v : Option Value) (h : Heap) (L : List Loc) : Prop := ∃ (w' : Addr) (z' s' : Int32), v = none ∧ Fr n0 L ∧ own_leaf Z h n0 a1 w' z' (own_rem g p2) s' ∧ Keep h0 h [a1, w] ∧ (w' = w ∨ h0.size ≤ w')
set_option maxRecDepth 65536 in
set_option maxHeartbeats 40000000 in
theorem rmLremove (l : Launch) (Z : State) (a0 : Array Value) (hw : ∀ d ∈ tables_1, d.before a0 Z = true) (ws : List Jvm.Cond) (a1 : Addr) (p2 : Int32) (w : Addr) (z : Int32) (g : Nat → Int64) (s2 : Int32) (h0 : Heap) (n0 : Nat) (Z0 : n0 ≤ h0.size) (LF : own_leaf Z h0 n0 a1 w z g s2) (hp : ¬ p2 < 0 ∧ p2 < 128) :
    MetFree l (⟨"com/example/berchta/berchta/learn/NodeSet", "remove", "(I)V"⟩ : MethodName) (head1 (Jvm.Cond.code (⟨"com/example/berchta/berchta/learn/NodeSet", "remove", "(I)V"⟩ : MethodName) prog_101_method_4_code 7 none :: ws) ({ frames := 0, cells := 0, slots := 0, locals := 0 } : Room)) (fun a U => a = #[(.ref a1), (.int p2)] ∧ Z.Warmed39 U.vm ∧ U.heap = h0) (fun _ _ _ _ _ => True) (fun _ U o U' => ∃ v L, o = .returned v ∧ QLremove Z a1 p2 w z g s2 h0 n0 v U'.heap L ∧ FrameEnd U o U' L ({ frames := 0, cells := 0, slots := 0, locals := 0 } : Room).cells ({ frames := 0, cells := 0, slots := 0, locals := 0 } : Room).slots) := by
  refine MetFree.of_bodySF (plainFor_of_name pn_4) hisR ?_
  intro p e s m args below meth c s₁ Bd hml0 hP hK
  obtain ⟨rfl, hZ, hh⟩ := hP
  have hx := Bd.exec
  have hby := Bd.bytes
  have hml : c.maxLocals = 7 := hml0
  have hown : s.vm.findClass "com/example/berchta/berchta/learn/NodeSet" = some m.cls := findClass_of_methodNamed Bd.named
  have hnm := (name_of_methodNamed Bd.named Bd.method).1
  have X0 : Stand p l e ({ frames := 0, cells := 0, slots := 0, locals := 0 } : Room) s m #[(.ref a1), (.int p2)] below meth c s₁ [] 0 0 := Stand.of_body Bd
  have e0 : s₁.heap = h0 := by rw [← hh, Bd.state]; rfl
  have N0 := Fr.nil n0
  have pre0 : ∀ t, Steps p.tables e below (s₁.setTop (mkF m 0 #[.val (.ref a1), .val (.int p2), .unset, .unset, .unset, .unset, .unset] [])) t → Steps p.tables e below (s₁.setTop (entryFrame m #[(.ref a1), (.int p2)] 7)) t := fun t k => castTop (ef_4 m a1 p2) k
  obtain ⟨E_a1, Fw_a1, Ff_a1, Fs_a1, Vw_w, hz12, hg0, g_a1, g_w, naw⟩ := id LF
  have KK0 : Keep h0 h0 [a1, w] := Keep.refl h0 [a1, w]
  have pre1 : ∀ t, Steps p.tables e below (s₁.setTop (mkF m 7 #[.val (.ref a1), .val (.int p2), .val (.int (own_wd p2)), .unset, .unset, .unset, .unset] [(.ref a1), (.int (own_wd p2))])) t → Steps p.tables e below (s₁.setTop (entryFrame m #[(.ref a1), (.int p2)] 7)) t := fun t k => pre0 t (by
    show Steps p.tables e below (s₁.setTop (mkF m 0 #[.val (.ref a1), .val (.int p2), .unset, .unset, .unset, .unset, .unset] [])) _
    refine XS.iloadN X0.here hx rfl (hb hby d4_0) rfl ?_
    show Steps p.tables e below (s₁.setTop (mkF m 1 #[.val (.ref a1), .val (.int p2), .unset, .unset, .unset, .unset, .unset] [(.int p2)])) _
    refine XS.bipush X0.here hx rfl (hb hby d4_1) ?_
    show Steps p.tables e below (s₁.setTop (mkF m 3 #[.val (.ref a1), .val (.int p2), .unset, .unset, .unset, .unset, .unset] [(.int (6 : Int32)), (.int p2)])) _
    refine XS.iushr X0.here hx rfl (hb hby d4_3) rfl ?_
    show Steps p.tables e below (s₁.setTop (mkF m 4 #[.val (.ref a1), .val (.int p2), .unset, .unset, .unset, .unset, .unset] [(.int ((p2.toUInt32 >>> ((6 : Int32) &&& 31).toUInt32).toInt32))])) _
    refine XS.istoreN X0.here hx rfl (hb hby d4_4) rfl (l' := #[.val (.ref a1), .val (.int p2), .val (.int (own_wd p2)), .unset, .unset, .unset, .unset]) rfl ?_
    show Steps p.tables e below (s₁.setTop (mkF m 5 #[.val (.ref a1), .val (.int p2), .val (.int (own_wd p2)), .unset, .unset, .unset, .unset] [])) _
    refine XS.iloadN X0.here hx rfl (hb hby d4_5) rfl ?_
    show Steps p.tables e below (s₁.setTop (mkF m 6 #[.val (.ref a1), .val (.int p2), .val (.int (own_wd p2)), .unset, .unset, .unset, .unset] [(.int (own_wd p2))])) _
    refine XS.aloadN X0.here hx rfl (hb hby d4_6) rfl rfl ?_
    show Steps p.tables e below (s₁.setTop (mkF m 7 #[.val (.ref a1), .val (.int p2), .val (.int (own_wd p2)), .unset, .unset, .unset, .unset] [(.ref a1), (.int (own_wd p2))])) _
    exact k)
  obtain ⟨T2, X2, e2, st2⟩ := getF X0 hx hZ hown (host := "") (Or.inl (hw _ (List.mem_of_getElem? (i := 10) rfl))) Via.refl e0 Fw_a1 (g := (mkF m 7 #[.val (.ref a1), .val (.int p2), .val (.int (own_wd p2)), .unset, .unset, .unset, .unset] [(.ref a1), (.int (own_wd p2))])) rfl rfl (hb hby d4_7)
  have pre3 : ∀ t, Steps p.tables e below (T2.setTop (mkF m 10 #[.val (.ref a1), .val (.int p2), .val (.int (own_wd p2)), .unset, .unset, .unset, .unset] [(.ref w), (.int (own_wd p2))])) t → Steps p.tables e below (s₁.setTop (entryFrame m #[(.ref a1), (.int p2)] 7)) t := fun t k => pre1 t (by
    show Steps p.tables e below (s₁.setTop (mkF m 7 #[.val (.ref a1), .val (.int p2), .val (.int (own_wd p2)), .unset, .unset, .unset, .unset] [(.ref a1), (.int (own_wd p2))])) t
    refine st2 _ ?_
    show Steps p.tables e below (T2.setTop (mkF m 10 #[.val (.ref a1), .val (.int p2), .val (.int (own_wd p2)), .unset, .unset, .unset, .unset] [(.ref w), (.int (own_wd p2))])) t
    exact k)
  obtain ⟨cl4, Ar4, Sz4, Nz4⟩ := own_wds_len Vw_w
  have pre5 : ∀ t, Steps p.tables e below (T2.setTop (mkF m 11 #[.val (.ref a1), .val (.int p2), .val (.int (own_wd p2)), .unset, .unset, .unset, .unset] [(.int z), (.int (own_wd p2))])) t → Steps p.tables e below (s₁.setTop (entryFrame m #[(.ref a1), (.int p2)] 7)) t := fun t k => pre3 t (by
    show Steps p.tables e below (T2.setTop (mkF m 10 #[.val (.ref a1), .val (.int p2), .val (.int (own_wd p2)), .unset, .unset, .unset, .unset] [(.ref w), (.int (own_wd p2))])) t
    refine X2.arraylength hx (by rw [e2]; exact Ar4.1) (State.isArrayOf_alike hZ.alike Ar4.2.1) (g := (mkF m 10 #[.val (.ref a1), .val (.int p2), .val (.int (own_wd p2)), .unset, .unset, .unset, .unset] [(.ref w), (.int (own_wd p2))])) rfl rfl (hb hby d4_10) _ ?_
    rw [len_of Sz4 Nz4]
    exact k)
  by_cases hlt : own_wd p2 < z
  · skip
    have pre6 : ∀ t, Steps p.tables e below (T2.setTop (mkF m 16 #[.val (.ref a1), .val (.int p2), .val (.int (own_wd p2)), .unset, .unset, .unset, .unset] [(.ref a1)])) t → Steps p.tables e below (s₁.setTop (entryFrame m #[(.ref a1), (.int p2)] 7)) t := fun t k => pre5 t (by
      show Steps p.tables e below (T2.setTop (mkF m 11 #[.val (.ref a1), .val (.int p2), .val (.int (own_wd p2)), .unset, .unset, .unset, .unset] [(.int z), (.int (own_wd p2))])) _
      refine XS.icmpYes X2.here hx rfl (pc0 := 11) (pc' := 15) rfl (hb hby d4_11) rfl (tlt hlt).1 (by decide) (by decide) ?_
      show Steps p.tables e below (T2.setTop (mkF m 15 #[.val (.ref a1), .val (.int p2), .val (.int (own_wd p2)), .unset, .unset, .unset, .unset] [])) _
      refine XS.aloadN X2.here hx rfl (hb hby d4_15) rfl rfl ?_
      show Steps p.tables e below (T2.setTop (mkF m 16 #[.val (.ref a1), .val (.int p2), .val (.int (own_wd p2)), .unset, .unset, .unset, .unset] [(.ref a1)])) _
      exact k)
    obtain ⟨T7, X7, e7, st7⟩ := getF X2 hx hZ hown (host := "") (Or.inl (hw _ (List.mem_of_getElem? (i := 10) rfl))) Via.refl e2 Fw_a1 (g := (mkF m 16 #[.val (.ref a1), .val (.int p2), .val (.int (own_wd p2)), .unset, .unset, .unset, .unset] [(.ref a1)])) rfl rfl (hb hby d4_16)
    have pre8 : ∀ t, Steps p.tables e below (T7.setTop (mkF m 19 #[.val (.ref a1), .val (.int p2), .val (.int (own_wd p2)), .unset, .unset, .unset, .unset] [(.ref w)])) t → Steps p.tables e below (s₁.setTop (entryFrame m #[(.ref a1), (.int p2)] 7)) t := fun t k => pre6 t (by
      show Steps p.tables e below (T2.setTop (mkF m 16 #[.val (.ref a1), .val (.int p2), .val (.int (own_wd p2)), .unset, .unset, .unset, .unset] [(.ref a1)])) t
      refine st7 _ ?_
      show Steps p.tables e below (T7.setTop (mkF m 19 #[.val (.ref a1), .val (.int p2), .val (.int (own_wd p2)), .unset, .unset, .unset, .unset] [(.ref w)])) t
      exact k)
    have pre9 : ∀ t, Steps p.tables e below (T7.setTop (mkF m 20 #[.val (.ref a1), .val (.int p2), .val (.int (own_wd p2)), .unset, .unset, .unset, .unset] [(.int (own_wd p2)), (.ref w)])) t → Steps p.tables e below (s₁.setTop (entryFrame m #[(.ref a1), (.int p2)] 7)) t := fun t k => pre8 t (by
      show Steps p.tables e below (T7.setTop (mkF m 19 #[.val (.ref a1), .val (.int p2), .val (.int (own_wd p2)), .unset, .unset, .unset, .unset] [(.ref w)])) _
      refine XS.iloadN X7.here hx rfl (hb hby d4_19) rfl ?_
      show Steps p.tables e below (T7.setTop (mkF m 20 #[.val (.ref a1), .val (.int p2), .val (.int (own_wd p2)), .unset, .unset, .unset, .unset] [(.int (own_wd p2)), (.ref w)])) _
      exact k)
    obtain ⟨cl10, Ar10, hin10, hat10⟩ := own_wds_get Vw_w ⟨own_wd_pos p2, hlt⟩
    have pre11 : ∀ t, Steps p.tables e below (T7.setTop (mkF m 21 #[.val (.ref a1), .val (.int p2), .val (.int (own_wd p2)), .unset, .unset, .unset, .unset] [(.long (g (own_ix p2)))])) t → Steps p.tables e below (s₁.setTop (entryFrame m #[(.ref a1), (.int p2)] 7)) t := fun t k => pre9 t (by
      show Steps p.tables e below (T7.setTop (mkF m 20 #[.val (.ref a1), .val (.int p2), .val (.int (own_wd p2)), .unset, .unset, .unset, .unset] [(.int (own_wd p2)), (.ref w)])) t
      refine X7.laload hx (j := (own_wd p2)) (v := (.long (g (own_ix p2)))) (by rw [e7]; exact Ar10.1) (State.isArrayOf_alike hZ.alike Ar10.2.1) Ar10.2.2 hin10 hat10 (g := (mkF m 20 #[.val (.ref a1), .val (.int p2), .val (.int (own_wd p2)), .unset, .unset, .unset, .unset] [(.int (own_wd p2)), (.ref w)])) rfl rfl (hb hby d4_20) _ ?_
      exact k)
    have pre12 : ∀ t, Steps p.tables e below (T7.setTop (mkF m 37 #[.val (.ref a1), .val (.int p2), .val (.int (own_wd p2)), .val (.long (g (own_ix p2))), .second, .val (.long ((g (own_ix p2)) &&& ((own_bo p2) ^^^ (-1 : Int64)))), .second] [(.int (lcmpW ((g (own_ix p2)) &&& ((own_bo p2) ^^^ (-1 : Int64))) (g (own_ix p2))))])) t → Steps p.tables e below (s₁.setTop (entryFrame m #[(.ref a1), (.int p2)] 7)) t := fun t k => pre11 t (by
      show Steps p.tables e below (T7.setTop (mkF m 21 #[.val (.ref a1), .val (.int p2), .val (.int (own_wd p2)), .unset, .unset, .unset, .unset] [(.long (g (own_ix p2)))])) _
      refine XS.lstoreN X7.here hx rfl (hb hby d4_21) rfl (l' := #[.val (.ref a1), .val (.int p2), .val (.int (own_wd p2)), .val (.long (g (own_ix p2))), .second, .unset, .unset]) rfl ?_
      show Steps p.tables e below (T7.setTop (mkF m 22 #[.val (.ref a1), .val (.int p2), .val (.int (own_wd p2)), .val (.long (g (own_ix p2))), .second, .unset, .unset] [])) _
      refine XS.lloadN X7.here hx rfl (hb hby d4_22) rfl ?_
      show Steps p.tables e below (T7.setTop (mkF m 23 #[.val (.ref a1), .val (.int p2), .val (.int (own_wd p2)), .val (.long (g (own_ix p2))), .second, .unset, .unset] [(.long (g (own_ix p2)))])) _
      refine XS.lconst X7.here hx rfl (hb hby d4_23) ?_
      show Steps p.tables e below (T7.setTop (mkF m 24 #[.val (.ref a1), .val (.int p2), .val (.int (own_wd p2)), .val (.long (g (own_ix p2))), .second, .unset, .unset] [(.long (1 : Int64)), (.long (g (own_ix p2)))])) _
      refine XS.iloadN X7.here hx rfl (hb hby d4_24) rfl ?_
      show Steps p.tables e below (T7.setTop (mkF m 25 #[.val (.ref a1), .val (.int p2), .val (.int (own_wd p2)), .val (.long (g (own_ix p2))), .second, .unset, .unset] [(.int p2), (.long (1 : Int64)), (.long (g (own_ix p2)))])) _
      refine XS.lshl X7.here hx rfl (hb hby d4_25) rfl ?_
      show Steps p.tables e below (T7.setTop (mkF m 26 #[.val (.ref a1), .val (.int p2), .val (.int (own_wd p2)), .val (.long (g (own_ix p2))), .second, .unset, .unset] [(.long (own_bo p2)), (.long (g (own_ix p2)))])) _
      refine X7.ldc2Long hx hown (mvT hZ (hw _ (List.mem_of_getElem? (i := 26) rfl))) (g := (mkF m 26 #[.val (.ref a1), .val (.int p2), .val (.int (own_wd p2)), .val (.long (g (own_ix p2))), .second, .unset, .unset] [(.long (own_bo p2)), (.long (g (own_ix p2)))])) rfl (hb hby d4_26) _ ?_
      show Steps p.tables e below (T7.setTop (mkF m 29 #[.val (.ref a1), .val (.int p2), .val (.int (own_wd p2)), .val (.long (g (own_ix p2))), .second, .unset, .unset] [(.long (-1 : Int64)), (.long (own_bo p2)), (.long (g (own_ix p2)))])) _
      refine XS.lxor X7.here hx rfl (hb hby d4_29) rfl ?_
      show Steps p.tables e below (T7.setTop (mkF m 30 #[.val (.ref a1), .val (.int p2), .val (.int (own_wd p2)), .val (.long (g (own_ix p2))), .second, .unset, .unset] [(.long ((own_bo p2) ^^^ (-1 : Int64))), (.long (g (own_ix p2)))])) _
      refine XS.land X7.here hx rfl (hb hby d4_30) rfl ?_
      show Steps p.tables e below (T7.setTop (mkF m 31 #[.val (.ref a1), .val (.int p2), .val (.int (own_wd p2)), .val (.long (g (own_ix p2))), .second, .unset, .unset] [(.long ((g (own_ix p2)) &&& ((own_bo p2) ^^^ (-1 : Int64))))])) _
      refine XS.lstore X7.here hx rfl (hb hby d4_31) rfl (l' := #[.val (.ref a1), .val (.int p2), .val (.int (own_wd p2)), .val (.long (g (own_ix p2))), .second, .val (.long ((g (own_ix p2)) &&& ((own_bo p2) ^^^ (-1 : Int64)))), .second]) rfl ?_
      show Steps p.tables e below (T7.setTop (mkF m 33 #[.val (.ref a1), .val (.int p2), .val (.int (own_wd p2)), .val (.long (g (own_ix p2))), .second, .val (.long ((g (own_ix p2)) &&& ((own_bo p2) ^^^ (-1 : Int64)))), .second] [])) _
      refine XS.lload X7.here hx rfl (hb hby d4_33) rfl ?_
      show Steps p.tables e below (T7.setTop (mkF m 35 #[.val (.ref a1), .val (.int p2), .val (.int (own_wd p2)), .val (.long (g (own_ix p2))), .second, .val (.long ((g (own_ix p2)) &&& ((own_bo p2) ^^^ (-1 : Int64)))), .second] [(.long ((g (own_ix p2)) &&& ((own_bo p2) ^^^ (-1 : Int64))))])) _
      refine XS.lloadN X7.here hx rfl (hb hby d4_35) rfl ?_
      show Steps p.tables e below (T7.setTop (mkF m 36 #[.val (.ref a1), .val (.int p2), .val (.int (own_wd p2)), .val (.long (g (own_ix p2))), .second, .val (.long ((g (own_ix p2)) &&& ((own_bo p2) ^^^ (-1 : Int64)))), .second] [(.long (g (own_ix p2))), (.long ((g (own_ix p2)) &&& ((own_bo p2) ^^^ (-1 : Int64))))])) _
      refine XS.lcmp X7.here hx rfl (hb hby d4_36) rfl ?_
      show Steps p.tables e below (T7.setTop (mkF m 37 #[.val (.ref a1), .val (.int p2), .val (.int (own_wd p2)), .val (.long (g (own_ix p2))), .second, .val (.long ((g (own_ix p2)) &&& ((own_bo p2) ^^^ (-1 : Int64)))), .second] [(.int (lcmpW ((g (own_ix p2)) &&& ((own_bo p2) ^^^ (-1 : Int64))) (g (own_ix p2))))])) _
      exact k)
    by_cases hbit : own_bt (g (own_ix p2)) (own_lo p2) = true
    · skip
      have pre13 : ∀ t, Steps p.tables e below (T7.setTop (mkF m 42 #[.val (.ref a1), .val (.int p2), .val (.int (own_wd p2)), .val (.long (g (own_ix p2))), .second, .val (.long ((g (own_ix p2)) &&& ((own_bo p2) ^^^ (-1 : Int64)))), .second] [(.ref a1)])) t → Steps p.tables e below (s₁.setTop (entryFrame m #[(.ref a1), (.int p2)] 7)) t := fun t k => pre12 t (by
        show Steps p.tables e below (T7.setTop (mkF m 37 #[.val (.ref a1), .val (.int p2), .val (.int (own_wd p2)), .val (.long (g (own_ix p2))), .second, .val (.long ((g (own_ix p2)) &&& ((own_bo p2) ^^^ (-1 : Int64)))), .second] [(.int (lcmpW ((g (own_ix p2)) &&& ((own_bo p2) ^^^ (-1 : Int64))) (g (own_ix p2))))])) _
        refine XS.ifYes X7.here hx rfl (pc0 := 37) (pc' := 41) rfl (hb hby d4_37) rfl ((if0 _ _).trans (feq (fun q => absurd ((own_and_same _ _).mp ((lw_eq _ _).mp q)) (by rw [hbit]; decide))).2) (by decide) (by decide) ?_
        show Steps p.tables e below (T7.setTop (mkF m 41 #[.val (.ref a1), .val (.int p2), .val (.int (own_wd p2)), .val (.long (g (own_ix p2))), .second, .val (.long ((g (own_ix p2)) &&& ((own_bo p2) ^^^ (-1 : Int64)))), .second] [])) _
        refine XS.aloadN X7.here hx rfl (hb hby d4_41) rfl rfl ?_
        show Steps p.tables e below (T7.setTop (mkF m 42 #[.val (.ref a1), .val (.int p2), .val (.int (own_wd p2)), .val (.long (g (own_ix p2))), .second, .val (.long ((g (own_ix p2)) &&& ((own_bo p2) ^^^ (-1 : Int64)))), .second] [(.ref a1)])) _
        exact k)
      obtain ⟨T14, X14, e14, st14⟩ := getF X7 hx hZ hown (host := "") (Or.inl (hw _ (List.mem_of_getElem? (i := 10) rfl))) Via.refl e7 Fw_a1 (g := (mkF m 42 #[.val (.ref a1), .val (.int p2), .val (.int (own_wd p2)), .val (.long (g (own_ix p2))), .second, .val (.long ((g (own_ix p2)) &&& ((own_bo p2) ^^^ (-1 : Int64)))), .second] [(.ref a1)])) rfl rfl (hb hby d4_42)
      have pre15 : ∀ t, Steps p.tables e below (T14.setTop (mkF m 45 #[.val (.ref a1), .val (.int p2), .val (.int (own_wd p2)), .val (.long (g (own_ix p2))), .second, .val (.long ((g (own_ix p2)) &&& ((own_bo p2) ^^^ (-1 : Int64)))), .second] [(.ref w)])) t → Steps p.tables e below (s₁.setTop (entryFrame m #[(.ref a1), (.int p2)] 7)) t := fun t k => pre13 t (by
        show Steps p.tables e below (T7.setTop (mkF m 42 #[.val (.ref a1), .val (.int p2), .val (.int (own_wd p2)), .val (.long (g (own_ix p2))), .second, .val (.long ((g (own_ix p2)) &&& ((own_bo p2) ^^^ (-1 : Int64)))), .second] [(.ref a1)])) t
        refine st14 _ ?_
        show Steps p.tables e below (T14.setTop (mkF m 45 #[.val (.ref a1), .val (.int p2), .val (.int (own_wd p2)), .val (.long (g (own_ix p2))), .second, .val (.long ((g (own_ix p2)) &&& ((own_bo p2) ^^^ (-1 : Int64)))), .second] [(.ref w)])) t
        exact k)
      have pre16 : ∀ t, Steps p.tables e below (T14.setTop (mkF m 48 #[.val (.ref a1), .val (.int p2), .val (.int (own_wd p2)), .val (.long (g (own_ix p2))), .second, .val (.long ((g (own_ix p2)) &&& ((own_bo p2) ^^^ (-1 : Int64)))), .second] [(.long ((g (own_ix p2)) &&& ((own_bo p2) ^^^ (-1 : Int64)))), (.int (own_wd p2)), (.ref w)])) t → Steps p.tables e below (s₁.setTop (entryFrame m #[(.ref a1), (.int p2)] 7)) t := fun t k => pre15 t (by
        show Steps p.tables e below (T14.setTop (mkF m 45 #[.val (.ref a1), .val (.int p2), .val (.int (own_wd p2)), .val (.long (g (own_ix p2))), .second, .val (.long ((g (own_ix p2)) &&& ((own_bo p2) ^^^ (-1 : Int64)))), .second] [(.ref w)])) _
        refine XS.iloadN X14.here hx rfl (hb hby d4_45) rfl ?_
        show Steps p.tables e below (T14.setTop (mkF m 46 #[.val (.ref a1), .val (.int p2), .val (.int (own_wd p2)), .val (.long (g (own_ix p2))), .second, .val (.long ((g (own_ix p2)) &&& ((own_bo p2) ^^^ (-1 : Int64)))), .second] [(.int (own_wd p2)), (.ref w)])) _
        refine XS.lload X14.here hx rfl (hb hby d4_46) rfl ?_
        show Steps p.tables e below (T14.setTop (mkF m 48 #[.val (.ref a1), .val (.int p2), .val (.int (own_wd p2)), .val (.long (g (own_ix p2))), .second, .val (.long ((g (own_ix p2)) &&& ((own_bo p2) ^^^ (-1 : Int64)))), .second] [(.long ((g (own_ix p2)) &&& ((own_bo p2) ^^^ (-1 : Int64)))), (.int (own_wd p2)), (.ref w)])) _
        exact k)
      obtain ⟨cl17, Ar17, hin17, hat17⟩ := own_wds_get Vw_w ⟨own_wd_pos p2, hlt⟩
      obtain ⟨T17, h17, X17, e17, W17, st17⟩ := stJ X14 hx hZ e14 Ar17 (j := (own_wd p2)) hin17 (g := (mkF m 48 #[.val (.ref a1), .val (.int p2), .val (.int (own_wd p2)), .val (.long (g (own_ix p2))), .second, .val (.long ((g (own_ix p2)) &&& ((own_bo p2) ^^^ (-1 : Int64)))), .second] [(.long ((g (own_ix p2)) &&& ((own_bo p2) ^^^ (-1 : Int64)))), (.int (own_wd p2)), (.ref w)])) rfl rfl (hb hby d4_48)
      have E_a1_17 := E_a1.wr W17
      have Fw_a1_17 := Fw_a1.other W17 (Or.inl naw)
      have Ff_a1_17 := Ff_a1.other W17 (Or.inl naw)
      have Fs_a1_17 := Fs_a1.other W17 (Or.inl naw)
      have KK17 := KK0.wr W17 (Or.inl (List.mem_of_getElem? (i := 1) rfl))
      have Vw_w_17 := own_wds_set Vw_w W17
      have N17 := Fr.snoc X17 N0 g_w
      have pre18 : ∀ t, Steps p.tables e below (T17.setTop (mkF m 49 #[.val (.ref a1), .val (.int p2), .val (.int (own_wd p2)), .val (.long (g (own_ix p2))), .second, .val (.long ((g (own_ix p2)) &&& ((own_bo p2) ^^^ (-1 : Int64)))), .second] [])) t → Steps p.tables e below (s₁.setTop (entryFrame m #[(.ref a1), (.int p2)] 7)) t := fun t k => pre16 t (by
        show Steps p.tables e below (T14.setTop (mkF m 48 #[.val (.ref a1), .val (.int p2), .val (.int (own_wd p2)), .val (.long (g (own_ix p2))), .second, .val (.long ((g (own_ix p2)) &&& ((own_bo p2) ^^^ (-1 : Int64)))), .second] [(.long ((g (own_ix p2)) &&& ((own_bo p2) ^^^ (-1 : Int64)))), (.int (own_wd p2)), (.ref w)])) t
        refine st17 _ ?_
        show Steps p.tables e below (T17.setTop (mkF m 49 #[.val (.ref a1), .val (.int p2), .val (.int (own_wd p2)), .val (.long (g (own_ix p2))), .second, .val (.long ((g (own_ix p2)) &&& ((own_bo p2) ^^^ (-1 : Int64)))), .second] [])) t
        exact k)
      have pre19 : ∀ t, Steps p.tables e below (T17.setTop (mkF m 51 #[.val (.ref a1), .val (.int p2), .val (.int (own_wd p2)), .val (.long (g (own_ix p2))), .second, .val (.long ((g (own_ix p2)) &&& ((own_bo p2) ^^^ (-1 : Int64)))), .second] [(.ref a1), (.ref a1)])) t → Steps p.tables e below (s₁.setTop (entryFrame m #[(.ref a1), (.int p2)] 7)) t := fun t k => pre18 t (by
        show Steps p.tables e below (T17.setTop (mkF m 49 #[.val (.ref a1), .val (.int p2), .val (.int (own_wd p2)), .val (.long (g (own_ix p2))), .second, .val (.long ((g (own_ix p2)) &&& ((own_bo p2) ^^^ (-1 : Int64)))), .second] [])) _
        refine XS.aloadN X17.here hx rfl (hb hby d4_49) rfl rfl ?_
        show Steps p.tables e below (T17.setTop (mkF m 50 #[.val (.ref a1), .val (.int p2), .val (.int (own_wd p2)), .val (.long (g (own_ix p2))), .second, .val (.long ((g (own_ix p2)) &&& ((own_bo p2) ^^^ (-1 : Int64)))), .second] [(.ref a1)])) _
        refine XS.dup X17.here hx rfl (hb hby d4_50) rfl rfl ?_
        show Steps p.tables e below (T17.setTop (mkF m 51 #[.val (.ref a1), .val (.int p2), .val (.int (own_wd p2)), .val (.long (g (own_ix p2))), .second, .val (.long ((g (own_ix p2)) &&& ((own_bo p2) ^^^ (-1 : Int64)))), .second] [(.ref a1), (.ref a1)])) _
        exact k)
      obtain ⟨T20, X20, e20, st20⟩ := getF X17 hx hZ hown (host := "") (Or.inl (hw _ (List.mem_of_getElem? (i := 17) rfl))) Via.refl e17 Fs_a1_17 (g := (mkF m 51 #[.val (.ref a1), .val (.int p2), .val (.int (own_wd p2)), .val (.long (g (own_ix p2))), .second, .val (.long ((g (own_ix p2)) &&& ((own_bo p2) ^^^ (-1 : Int64)))), .second] [(.ref a1), (.ref a1)])) rfl rfl (hb hby d4_51)
      have pre21 : ∀ t, Steps p.tables e below (T20.setTop (mkF m 54 #[.val (.ref a1), .val (.int p2), .val (.int (own_wd p2)), .val (.long (g (own_ix p2))), .second, .val (.long ((g (own_ix p2)) &&& ((own_bo p2) ^^^ (-1 : Int64)))), .second] [(.int s2), (.ref a1)])) t → Steps p.tables e below (s₁.setTop (entryFrame m #[(.ref a1), (.int p2)] 7)) t := fun t k => pre19 t (by
        show Steps p.tables e below (T17.setTop (mkF m 51 #[.val (.ref a1), .val (.int p2), .val (.int (own_wd p2)), .val (.long (g (own_ix p2))), .second, .val (.long ((g (own_ix p2)) &&& ((own_bo p2) ^^^ (-1 : Int64)))), .second] [(.ref a1), (.ref a1)])) t
        refine st20 _ ?_
        show Steps p.tables e below (T20.setTop (mkF m 54 #[.val (.ref a1), .val (.int p2), .val (.int (own_wd p2)), .val (.long (g (own_ix p2))), .second, .val (.long ((g (own_ix p2)) &&& ((own_bo p2) ^^^ (-1 : Int64)))), .second] [(.int s2), (.ref a1)])) t
        exact k)
      have pre22 : ∀ t, Steps p.tables e below (T20.setTop (mkF m 56 #[.val (.ref a1), .val (.int p2), .val (.int (own_wd p2)), .val (.long (g (own_ix p2))), .second, .val (.long ((g (own_ix p2)) &&& ((own_bo p2) ^^^ (-1 : Int64)))), .second] [(.int (s2 - (1 : Int32))), (.ref a1)])) t → Steps p.tables e below (s₁.setTop (entryFrame m #[(.ref a1), (.int p2)] 7)) t := fun t k => pre21 t (by
        show Steps p.tables e below (T20.setTop (mkF m 54 #[.val (.ref a1), .val (.int p2), .val (.int (own_wd p2)), .val (.long (g (own_ix p2))), .second, .val (.long ((g (own_ix p2)) &&& ((own_bo p2) ^^^ (-1 : Int64)))), .second] [(.int s2), (.ref a1)])) _
        refine XS.iconst X20.here hx rfl (hb hby d4_54) ?_
        show Steps p.tables e below (T20.setTop (mkF m 55 #[.val (.ref a1), .val (.int p2), .val (.int (own_wd p2)), .val (.long (g (own_ix p2))), .second, .val (.long ((g (own_ix p2)) &&& ((own_bo p2) ^^^ (-1 : Int64)))), .second] [(.int (1 : Int32)), (.int s2), (.ref a1)])) _
        refine XS.isub X20.here hx rfl (hb hby d4_55) rfl ?_
        show Steps p.tables e below (T20.setTop (mkF m 56 #[.val (.ref a1), .val (.int p2), .val (.int (own_wd p2)), .val (.long (g (own_ix p2))), .second, .val (.long ((g (own_ix p2)) &&& ((own_bo p2) ^^^ (-1 : Int64)))), .second] [(.int (s2 - (1 : Int32))), (.ref a1)])) _
        exact k)
      obtain ⟨T23, h23, X23, e23, W23, st23⟩ := putF X20 hx hZ hown (host := "") (Or.inl (hw _ (List.mem_of_getElem? (i := 17) rfl))) Via.refl e20 Fs_a1_17 E_a1_17 (Or.inl (hw _ (List.mem_of_getElem? (i := 18) rfl))) (hw _ (List.mem_of_getElem? (i := 1) rfl)) (ty := .int) (by decide) rfl rfl (g := (mkF m 56 #[.val (.ref a1), .val (.int p2), .val (.int (own_wd p2)), .val (.long (g (own_ix p2))), .second, .val (.long ((g (own_ix p2)) &&& ((own_bo p2) ^^^ (-1 : Int64)))), .second] [(.int (s2 - (1 : Int32))), (.ref a1)])) rfl rfl (hb hby d4_56)
      have E_a1_23 := E_a1_17.wr W23
      have Fw_a1_23 := Fw_a1_17.other W23 (Or.inr (slot_ne (Or.inl (hw _ (List.mem_of_getElem? (i := 11) rfl))) (Or.inl (hw _ (List.mem_of_getElem? (i := 18) rfl))) (by decide) (t := (.array .long)) (t' := .int) (by decide) (by decide)))
      have Ff_a1_23 := Ff_a1_17.other W23 (Or.inr (slot_ne (Or.inl (hw _ (List.mem_of_getElem? (i := 20) rfl))) (Or.inl (hw _ (List.mem_of_getElem? (i := 18) rfl))) (by decide) (t := (.object "com/example/berchta/berchta/learn/NodeSet")) (t' := .int) (by decide) (by decide)))
      have Vw_w_23 := Vw_w_17.other W23 (Ne.symm naw)
      have KK23 := KK17.wr W23 (Or.inl (List.mem_of_getElem? (i := 0) rfl))
      have Fs_a1_23 := Fs_a1_17.same W23
      have N23 := Fr.snoc X23 N17 g_a1
      have pre24 : ∀ t, Steps p.tables e below (T23.setTop (mkF m 59 #[.val (.ref a1), .val (.int p2), .val (.int (own_wd p2)), .val (.long (g (own_ix p2))), .second, .val (.long ((g (own_ix p2)) &&& ((own_bo p2) ^^^ (-1 : Int64)))), .second] [])) t → Steps p.tables e below (s₁.setTop (entryFrame m #[(.ref a1), (.int p2)] 7)) t := fun t k => pre22 t (by
        show Steps p.tables e below (T20.setTop (mkF m 56 #[.val (.ref a1), .val (.int p2), .val (.int (own_wd p2)), .val (.long (g (own_ix p2))), .second, .val (.long ((g (own_ix p2)) &&& ((own_bo p2) ^^^ (-1 : Int64)))), .second] [(.int (s2 - (1 : Int32))), (.ref a1)])) t
        refine st23 _ ?_
        show Steps p.tables e below (T23.setTop (mkF m 59 #[.val (.ref a1), .val (.int p2), .val (.int (own_wd p2)), .val (.long (g (own_ix p2))), .second, .val (.long ((g (own_ix p2)) &&& ((own_bo p2) ^^^ (-1 : Int64)))), .second] [])) t
        exact k)
      have pre25 : ∀ t, Steps p.tables e below (T23.setTop (mkF m 63 #[.val (.ref a1), .val (.int p2), .val (.int (own_wd p2)), .val (.long (g (own_ix p2))), .second, .val (.long ((g (own_ix p2)) &&& ((own_bo p2) ^^^ (-1 : Int64)))), .second] [(.int (lcmpW ((g (own_ix p2)) &&& ((own_bo p2) ^^^ (-1 : Int64))) (0 : Int64)))])) t → Steps p.tables e below (s₁.setTop (entryFrame m #[(.ref a1), (.int p2)] 7)) t := fun t k => pre24 t (by
        show Steps p.tables e below (T23.setTop (mkF m 59 #[.val (.ref a1), .val (.int p2), .val (.int (own_wd p2)), .val (.long (g (own_ix p2))), .second, .val (.long ((g (own_ix p2)) &&& ((own_bo p2) ^^^ (-1 : Int64)))), .second] [])) _
        refine XS.lload X23.here hx rfl (hb hby d4_59) rfl ?_
        show Steps p.tables e below (T23.setTop (mkF m 61 #[.val (.ref a1), .val (.int p2), .val (.int (own_wd p2)), .val (.long (g (own_ix p2))), .second, .val (.long ((g (own_ix p2)) &&& ((own_bo p2) ^^^ (-1 : Int64)))), .second] [(.long ((g (own_ix p2)) &&& ((own_bo p2) ^^^ (-1 : Int64))))])) _
        refine XS.lconst X23.here hx rfl (hb hby d4_61) ?_
        show Steps p.tables e below (T23.setTop (mkF m 62 #[.val (.ref a1), .val (.int p2), .val (.int (own_wd p2)), .val (.long (g (own_ix p2))), .second, .val (.long ((g (own_ix p2)) &&& ((own_bo p2) ^^^ (-1 : Int64)))), .second] [(.long (0 : Int64)), (.long ((g (own_ix p2)) &&& ((own_bo p2) ^^^ (-1 : Int64))))])) _
        refine XS.lcmp X23.here hx rfl (hb hby d4_62) rfl ?_
        show Steps p.tables e below (T23.setTop (mkF m 63 #[.val (.ref a1), .val (.int p2), .val (.int (own_wd p2)), .val (.long (g (own_ix p2))), .second, .val (.long ((g (own_ix p2)) &&& ((own_bo p2) ^^^ (-1 : Int64)))), .second] [(.int (lcmpW ((g (own_ix p2)) &&& ((own_bo p2) ^^^ (-1 : Int64))) (0 : Int64)))])) _
        exact k)
      by_cases hz0 : ((g (own_ix p2)) &&& (own_bo p2 ^^^ (-1 : Int64))) = 0
      · skip
        have pre26 : ∀ t, Steps p.tables e below (T23.setTop (mkF m 67 #[.val (.ref a1), .val (.int p2), .val (.int (own_wd p2)), .val (.long (g (own_ix p2))), .second, .val (.long ((g (own_ix p2)) &&& ((own_bo p2) ^^^ (-1 : Int64)))), .second] [(.ref a1)])) t → Steps p.tables e below (s₁.setTop (entryFrame m #[(.ref a1), (.int p2)] 7)) t := fun t k => pre25 t (by
          show Steps p.tables e below (T23.setTop (mkF m 63 #[.val (.ref a1), .val (.int p2), .val (.int (own_wd p2)), .val (.long (g (own_ix p2))), .second, .val (.long ((g (own_ix p2)) &&& ((own_bo p2) ^^^ (-1 : Int64)))), .second] [(.int (lcmpW ((g (own_ix p2)) &&& ((own_bo p2) ^^^ (-1 : Int64))) (0 : Int64)))])) _
          refine XS.ifNo X23.here hx rfl (hb hby d4_63) rfl ((if0 _ _).trans (teq ((lw_eq _ _).mpr hz0)).2) ?_
          show Steps p.tables e below (T23.setTop (mkF m 66 #[.val (.ref a1), .val (.int p2), .val (.int (own_wd p2)), .val (.long (g (own_ix p2))), .second, .val (.long ((g (own_ix p2)) &&& ((own_bo p2) ^^^ (-1 : Int64)))), .second] [])) _
          refine XS.aloadN X23.here hx rfl (hb hby d4_66) rfl rfl ?_
          show Steps p.tables e below (T23.setTop (mkF m 67 #[.val (.ref a1), .val (.int p2), .val (.int (own_wd p2)), .val (.long (g (own_ix p2))), .second, .val (.long ((g (own_ix p2)) &&& ((own_bo p2) ^^^ (-1 : Int64)))), .second] [(.ref a1)])) _
          exact k)
        obtain ⟨T27, X27, e27, st27⟩ := getF X23 hx hZ hown (host := "") (Or.inl (hw _ (List.mem_of_getElem? (i := 19) rfl))) Via.refl e23 Ff_a1_23 (g := (mkF m 67 #[.val (.ref a1), .val (.int p2), .val (.int (own_wd p2)), .val (.long (g (own_ix p2))), .second, .val (.long ((g (own_ix p2)) &&& ((own_bo p2) ^^^ (-1 : Int64)))), .second] [(.ref a1)])) rfl rfl (hb hby d4_67)
        have pre28 : ∀ t, Steps p.tables e below (T27.setTop (mkF m 70 #[.val (.ref a1), .val (.int p2), .val (.int (own_wd p2)), .val (.long (g (own_ix p2))), .second, .val (.long ((g (own_ix p2)) &&& ((own_bo p2) ^^^ (-1 : Int64)))), .second] [.null])) t → Steps p.tables e below (s₁.setTop (entryFrame m #[(.ref a1), (.int p2)] 7)) t := fun t k => pre26 t (by
          show Steps p.tables e below (T23.setTop (mkF m 67 #[.val (.ref a1), .val (.int p2), .val (.int (own_wd p2)), .val (.long (g (own_ix p2))), .second, .val (.long ((g (own_ix p2)) &&& ((own_bo p2) ^^^ (-1 : Int64)))), .second] [(.ref a1)])) t
          refine st27 _ ?_
          show Steps p.tables e below (T27.setTop (mkF m 70 #[.val (.ref a1), .val (.int p2), .val (.int (own_wd p2)), .val (.long (g (own_ix p2))), .second, .val (.long ((g (own_ix p2)) &&& ((own_bo p2) ^^^ (-1 : Int64)))), .second] [.null])) t
          exact k)
        have pre29 : ∀ t, Steps p.tables e below (T27.setTop (mkF m 81 #[.val (.ref a1), .val (.int p2), .val (.int (own_wd p2)), .val (.long (g (own_ix p2))), .second, .val (.long ((g (own_ix p2)) &&& ((own_bo p2) ^^^ (-1 : Int64)))), .second] [])) t → Steps p.tables e below (s₁.setTop (entryFrame m #[(.ref a1), (.int p2)] 7)) t := fun t k => pre28 t (by
          show Steps p.tables e below (T27.setTop (mkF m 70 #[.val (.ref a1), .val (.int p2), .val (.int (own_wd p2)), .val (.long (g (own_ix p2))), .second, .val (.long ((g (own_ix p2)) &&& ((own_bo p2) ^^^ (-1 : Int64)))), .second] [.null])) _
          refine XS.ifnullYes X27.here hx rfl (pc0 := 70) (pc' := 81) rfl (hb hby d4_70) rfl (by decide) (by decide) ?_
          show Steps p.tables e below (T27.setTop (mkF m 81 #[.val (.ref a1), .val (.int p2), .val (.int (own_wd p2)), .val (.long (g (own_ix p2))), .second, .val (.long ((g (own_ix p2)) &&& ((own_bo p2) ^^^ (-1 : Int64)))), .second] [])) _
          exact k)
        obtain ⟨fs, hr, hrun, hended, hW, hsame⟩ := X27.leave (v := none) (fun _ => rfl)
        refine ⟨_, _, pre29 _ ?_, hrun, hended, _, _, rfl, ?_, ⟨_, rfl⟩, hW, hsame.mono (by decide) (by decide)⟩
        · show Steps p.tables e below (T27.setTop (mkF m 81 #[.val (.ref a1), .val (.int p2), .val (.int (own_wd p2)), .val (.long (g (own_ix p2))), .second, .val (.long ((g (own_ix p2)) &&& ((own_bo p2) ^^^ (-1 : Int64)))), .second] [])) _
          exact X27.returnOut hx Bd.returns (hb hby d4_81) hr
        · show QLremove Z a1 p2 w z g s2 h0 n0 _ T27.heap _
          rw [e27]
          exact ⟨w, z, _, rfl, N23, ⟨E_a1_23, Fw_a1_23, Ff_a1_23, Fs_a1_23, Vw_w_23, hz12, own_rem_out hg0 hlt, g_a1, g_w, naw⟩, KK23, Or.inl rfl⟩
      · skip
        have pre30 : ∀ t, Steps p.tables e below (T23.setTop (mkF m 81 #[.val (.ref a1), .val (.int p2), .val (.int (own_wd p2)), .val (.long (g (own_ix p2))), .second, .val (.long ((g (own_ix p2)) &&& ((own_bo p2) ^^^ (-1 : Int64)))), .second] [])) t → Steps p.tables e below (s₁.setTop (entryFrame m #[(.ref a1), (.int p2)] 7)) t := fun t k => pre25 t (by
          show Steps p.tables e below (T23.setTop (mkF m 63 #[.val (.ref a1), .val (.int p2), .val (.int (own_wd p2)), .val (.long (g (own_ix p2))), .second, .val (.long ((g (own_ix p2)) &&& ((own_bo p2) ^^^ (-1 : Int64)))), .second] [(.int (lcmpW ((g (own_ix p2)) &&& ((own_bo p2) ^^^ (-1 : Int64))) (0 : Int64)))])) _
          refine XS.ifYes X23.here hx rfl (pc0 := 63) (pc' := 81) rfl (hb hby d4_63) rfl ((if0 _ _).trans (feq (fun q => hz0 ((lw_eq _ _).mp q))).2) (by decide) (by decide) ?_
          show Steps p.tables e below (T23.setTop (mkF m 81 #[.val (.ref a1), .val (.int p2), .val (.int (own_wd p2)), .val (.long (g (own_ix p2))), .second, .val (.long ((g (own_ix p2)) &&& ((own_bo p2) ^^^ (-1 : Int64)))), .second] [])) _
          exact k)
        obtain ⟨fs, hr, hrun, hended, hW, hsame⟩ := X23.leave (v := none) (fun _ => rfl)
        refine ⟨_, _, pre30 _ ?_, hrun, hended, _, _, rfl, ?_, ⟨_, rfl⟩, hW, hsame.mono (by decide) (by decide)⟩
        · show Steps p.tables e below (T23.setTop (mkF m 81 #[.val (.ref a1), .val (.int p2), .val (.int (own_wd p2)), .val (.long (g (own_ix p2))), .second, .val (.long ((g (own_ix p2)) &&& ((own_bo p2) ^^^ (-1 : Int64)))), .second] [])) _
          exact X23.returnOut hx Bd.returns (hb hby d4_81) hr
        · show QLremove Z a1 p2 w z g s2 h0 n0 _ T23.heap _
          rw [e23]
          exact ⟨w, z, _, rfl, N23, ⟨E_a1_23, Fw_a1_23, Ff_a1_23, Fs_a1_23, Vw_w_23, hz12, own_rem_out hg0 hlt, g_a1, g_w, naw⟩, KK23, Or.inl rfl⟩
    · skip
      have pre31 : ∀ t, Steps p.tables e below (T7.setTop (mkF m 40 #[.val (.ref a1), .val (.int p2), .val (.int (own_wd p2)), .val (.long (g (own_ix p2))), .second, .val (.long ((g (own_ix p2)) &&& ((own_bo p2) ^^^ (-1 : Int64)))), .second] [])) t → Steps p.tables e below (s₁.setTop (entryFrame m #[(.ref a1), (.int p2)] 7)) t := fun t k => pre12 t (by
        show Steps p.tables e below (T7.setTop (mkF m 37 #[.val (.ref a1), .val (.int p2), .val (.int (own_wd p2)), .val (.long (g (own_ix p2))), .second, .val (.long ((g (own_ix p2)) &&& ((own_bo p2) ^^^ (-1 : Int64)))), .second] [(.int (lcmpW ((g (own_ix p2)) &&& ((own_bo p2) ^^^ (-1 : Int64))) (g (own_ix p2))))])) _
        refine XS.ifNo X7.here hx rfl (hb hby d4_37) rfl ((if0 _ _).trans (teq ((lw_eq _ _).mpr ((own_and_same _ _).mpr (Bool.eq_false_iff.mpr hbit)))).2) ?_
        show Steps p.tables e below (T7.setTop (mkF m 40 #[.val (.ref a1), .val (.int p2), .val (.int (own_wd p2)), .val (.long (g (own_ix p2))), .second, .val (.long ((g (own_ix p2)) &&& ((own_bo p2) ^^^ (-1 : Int64)))), .second] [])) _
        exact k)
      obtain ⟨fs, hr, hrun, hended, hW, hsame⟩ := X7.leave (v := none) (fun _ => rfl)
      refine ⟨_, _, pre31 _ ?_, hrun, hended, _, _, rfl, ?_, ⟨_, rfl⟩, hW, hsame.mono (by decide) (by decide)⟩
      · show Steps p.tables e below (T7.setTop (mkF m 40 #[.val (.ref a1), .val (.int p2), .val (.int (own_wd p2)), .val (.long (g (own_ix p2))), .second, .val (.long ((g (own_ix p2)) &&& ((own_bo p2) ^^^ (-1 : Int64)))), .second] [])) _
        exact X7.returnOut hx Bd.returns (hb hby d4_40) hr
      · show QLremove Z a1 p2 w z g s2 h0 n0 _ T7.heap _
        rw [e7]
        exact ⟨w, z, s2, rfl, N0, by rw [own_rem_id (Bool.eq_false_iff.mpr hbit)]; exact ⟨E_a1, Fw_a1, Ff_a1, Fs_a1, Vw_w, hz12, hg0, g_a1, g_w, naw⟩, KK0, Or.inl rfl⟩
  · skip
    have pre32 : ∀ t, Steps p.tables e below (T2.setTop (mkF m 14 #[.val (.ref a1), .val (.int p2), .val (.int (own_wd p2)), .unset, .unset, .unset, .unset] [])) t → Steps p.tables e below (s₁.setTop (entryFrame m #[(.ref a1), (.int p2)] 7)) t := fun t k => pre5 t (by
      show Steps p.tables e below (T2.setTop (mkF m 11 #[.val (.ref a1), .val (.int p2), .val (.int (own_wd p2)), .unset, .unset, .unset, .unset] [(.int z), (.int (own_wd p2))])) _
      refine XS.icmpNo X2.here hx rfl (hb hby d4_11) rfl (flt hlt).1 ?_
      show Steps p.tables e below (T2.setTop (mkF m 14 #[.val (.ref a1), .val (.int p2), .val (.int (own_wd p2)), .unset, .unset, .unset, .unset] [])) _
      exact k)
    obtain ⟨fs, hr, hrun, hended, hW, hsame⟩ := X2.leave (v := none) (fun _ => rfl)
    refine ⟨_, _, pre32 _ ?_, hrun, hended, _, _, rfl, ?_, ⟨_, rfl⟩, hW, hsame.mono (by decide) (by decide)⟩
    · show Steps p.tables e below (T2.setTop (mkF m 14 #[.val (.ref a1), .val (.int p2), .val (.int (own_wd p2)), .unset, .unset, .unset, .unset] [])) _
      exact X2.returnOut hx Bd.returns (hb hby d4_14) hr
    · show QLremove Z a1 p2 w z g s2 h0 n0 _ T2.heap _
      rw [e2]
      exact ⟨w, z, s2, rfl, N0, by rw [own_rem_far hg0 hlt]; exact LF, Keep.refl _ _, Or.inl rfl⟩
set_option maxRecDepth 65536 in
set_option maxHeartbeats 40000000 in
theorem own_gloop {p : Program} {l : Launch} {e : Env} {s : State} {m : MethodId} {args : Array Value} {below : List Frame} {meth : Method} {c : Code} {Z : State} {a0 : Array Value} {n0 : Nat} {a1 b w : Addr} {p2 N sz : Int32} {f : Nat → Int64} (hx : p.tables.exec = Jvm.exec) (hZ : Z.Warmed39 s.vm) (hw : ∀ d ∈ tables_1, d.before a0 Z = true) (hby : c.code = prog_101_method_11_code) (hml : c.maxLocals = 3) (hown : s.vm.findClass "com/example/berchta/berchta/learn/NodeSet" = some m.cls) (hf0 : ∀ i, N.toNatClampNeg ≤ i → f i = 0) (hf128 : ∀ i, 128 ≤ i → f i = 0) (g_a1 : n0 ≤ a1) :
    ∀ (k : Nat) (i : Int32) (T0 : State) (hh : Heap) (L0 : List Loc) (fw : Addr) (zf : Int32) (g : Nat → Int64) (s2 : Int32) (cc ss : Nat), Stand p l e ({ frames := 4, cells := 4, slots := 260, locals := 87 } : Room) s m args below meth c T0 L0 cc ss → T0.heap = hh → Fr n0 L0 → own_gst Z hh n0 a1 w N f sz b fw zf g s2 → (zf = 1 ∧ cc = 3 ∧ ss = 258 ∨ zf = 2 ∧ cc = 4 ∧ ss = 260) → own_relp f g i → own_held f N i → (i < 0 ∨ N.toInt - i.toInt ≤ k) →
    ∃ (T' : State) (h' : Heap) (L' : List Loc) (fw' : Addr) (zf' : Int32) (g' : Nat → Int64) (s' i' : Int32), Stand p l e ({ frames := 4, cells := 4, slots := 260, locals := 87 } : Room) s m args below meth c T' L' 4 260 ∧ T'.heap = h' ∧ Fr n0 L' ∧ own_gst Z h' n0 a1 w N f sz b fw' zf' g' s' ∧ own_rel f g' ∧ ∀ t, Steps p.tables e below (T'.setTop (mkF m 81 #[.val (.ref a1), .val (.int p2), .val (.int i')] [])) t → Steps p.tables e below (T0.setTop (mkF m 58 #[.val (.ref a1), .val (.int p2), .val (.int i)] [])) t := by
  intro k
  induction k with
  | zero =>
    intro i T0 hh L0 fw zf g s2 cc ss X0 e0 N0 GS hcc hrel hheld hk
    have hc : i < 0 := own_held_zero hheld hk
    · skip
      have pre0 : ∀ t, Steps p.tables e below (T0.setTop (mkF m 58 #[.val (.ref a1), .val (.int p2), .val (.int i)] [])) t → Steps p.tables e below (T0.setTop (mkF m 58 #[.val (.ref a1), .val (.int p2), .val (.int i)] [])) t := fun t k => k
      have preq1 : ∀ t, Steps p.tables e below (T0.setTop (mkF m 81 #[.val (.ref a1), .val (.int p2), .val (.int i)] [])) t → Steps p.tables e below (T0.setTop (mkF m 58 #[.val (.ref a1), .val (.int p2), .val (.int i)] [])) t := fun t k => pre0 t (by
        show Steps p.tables e below (T0.setTop (mkF m 58 #[.val (.ref a1), .val (.int p2), .val (.int i)] [])) _
        refine XS.iloadN X0.here hx rfl (hb hby d11_58) rfl ?_
        show Steps p.tables e below (T0.setTop (mkF m 59 #[.val (.ref a1), .val (.int p2), .val (.int i)] [(.int i)])) _
        refine XS.ifYes X0.here hx rfl (pc0 := 59) (pc' := 81) rfl (hb hby d11_59) rfl ((if0 _ _).trans (tlt hc).1) (by decide) (by decide) ?_
        show Steps p.tables e below (T0.setTop (mkF m 81 #[.val (.ref a1), .val (.int p2), .val (.int i)] [])) _
        exact k)
      exact ⟨T0, hh, L0, fw, zf, g, s2, i, X0.more (by omega) (by omega), e0, N0, GS, own_relp_done hc hrel, fun t q => preq1 t q⟩
  | succ k ih =>
    intro i T0 hh L0 fw zf g s2 cc ss X0 e0 N0 GS hcc hrel hheld hk
    by_cases hc : i < 0
    · skip
      have pre0 : ∀ t, Steps p.tables e below (T0.setTop (mkF m 58 #[.val (.ref a1), .val (.int p2), .val (.int i)] [])) t → Steps p.tables e below (T0.setTop (mkF m 58 #[.val (.ref a1), .val (.int p2), .val (.int i)] [])) t := fun t k => k
      have preq1 : ∀ t, Steps p.tables e below (T0.setTop (mkF m 81 #[.val (.ref a1), .val (.int p2), .val (.int i)] [])) t → Steps p.tables e below (T0.setTop (mkF m 58 #[.val (.ref a1), .val (.int p2), .val (.int i)] [])) t := fun t k => pre0 t (by
        show Steps p.tables e below (T0.setTop (mkF m 58 #[.val (.ref a1), .val (.int p2), .val (.int i)] [])) _
        refine XS.iloadN X0.here hx rfl (hb hby d11_58) rfl ?_
        show Steps p.tables e below (T0.setTop (mkF m 59 #[.val (.ref a1), .val (.int p2), .val (.int i)] [(.int i)])) _
        refine XS.ifYes X0.here hx rfl (pc0 := 59) (pc' := 81) rfl (hb hby d11_59) rfl ((if0 _ _).trans (tlt hc).1) (by decide) (by decide) ?_
        show Steps p.tables e below (T0.setTop (mkF m 81 #[.val (.ref a1), .val (.int p2), .val (.int i)] [])) _
        exact k)
      exact ⟨T0, hh, L0, fw, zf, g, s2, i, X0.more (by omega) (by omega), e0, N0, GS, own_relp_done hc hrel, fun t q => preq1 t q⟩
    · skip
      have pre0 : ∀ t, Steps p.tables e below (T0.setTop (mkF m 58 #[.val (.ref a1), .val (.int p2), .val (.int i)] [])) t → Steps p.tables e below (T0.setTop (mkF m 58 #[.val (.ref a1), .val (.int p2), .val (.int i)] [])) t := fun t k => k
      obtain ⟨E_a1, Fw_a1, Ff_a1, Fs_a1, Vw_w, LF, n1, n2, n3, n4⟩ := GS
      obtain ⟨hi, hi128, hiN⟩ := own_held_in hf128 hheld hc
      obtain ⟨cq, sq, hcs, hrc, hrs, hnx⟩ := own_gcase (i := i) LF.2.2.2.2.2.1 ⟨hi, hi128⟩ hcc
      have preg1 : ∀ t, Steps p.tables e below (T0.setTop (mkF m 63 #[.val (.ref a1), .val (.int p2), .val (.int i)] [(.ref a1)])) t → Steps p.tables e below (T0.setTop (mkF m 58 #[.val (.ref a1), .val (.int p2), .val (.int i)] [])) t := fun t k => pre0 t (by
        show Steps p.tables e below (T0.setTop (mkF m 58 #[.val (.ref a1), .val (.int p2), .val (.int i)] [])) _
        refine XS.iloadN X0.here hx rfl (hb hby d11_58) rfl ?_
        show Steps p.tables e below (T0.setTop (mkF m 59 #[.val (.ref a1), .val (.int p2), .val (.int i)] [(.int i)])) _
        refine XS.ifNo X0.here hx rfl (hb hby d11_59) rfl ((if0 _ _).trans (flt hc).1) ?_
        show Steps p.tables e below (T0.setTop (mkF m 62 #[.val (.ref a1), .val (.int p2), .val (.int i)] [])) _
        refine XS.aloadN X0.here hx rfl (hb hby d11_62) rfl rfl ?_
        show Steps p.tables e below (T0.setTop (mkF m 63 #[.val (.ref a1), .val (.int p2), .val (.int i)] [(.ref a1)])) _
        exact k)
      obtain ⟨Tg2, Xg2, eg2, stg2⟩ := getF X0 hx hZ hown (host := "") (Or.inl (hw _ (List.mem_of_getElem? (i := 19) rfl))) Via.refl e0 Ff_a1 (g := (mkF m 63 #[.val (.ref a1), .val (.int p2), .val (.int i)] [(.ref a1)])) rfl rfl (hb hby d11_63)
      have preg3 : ∀ t, Steps p.tables e below (Tg2.setTop (mkF m 66 #[.val (.ref a1), .val (.int p2), .val (.int i)] [(.ref b)])) t → Steps p.tables e below (T0.setTop (mkF m 58 #[.val (.ref a1), .val (.int p2), .val (.int i)] [])) t := fun t k => preg1 t (by
        show Steps p.tables e below (T0.setTop (mkF m 63 #[.val (.ref a1), .val (.int p2), .val (.int i)] [(.ref a1)])) t
        refine stg2 _ ?_
        show Steps p.tables e below (Tg2.setTop (mkF m 66 #[.val (.ref a1), .val (.int p2), .val (.int i)] [(.ref b)])) t
        exact k)
      have preg4 : ∀ t, Steps p.tables e below (Tg2.setTop (mkF m 67 #[.val (.ref a1), .val (.int p2), .val (.int i)] [(.int i), (.ref b)])) t → Steps p.tables e below (T0.setTop (mkF m 58 #[.val (.ref a1), .val (.int p2), .val (.int i)] [])) t := fun t k => preg3 t (by
        show Steps p.tables e below (Tg2.setTop (mkF m 66 #[.val (.ref a1), .val (.int p2), .val (.int i)] [(.ref b)])) _
        refine XS.iloadN Xg2.here hx rfl (hb hby d11_66) rfl ?_
        show Steps p.tables e below (Tg2.setTop (mkF m 67 #[.val (.ref a1), .val (.int p2), .val (.int i)] [(.int i), (.ref b)])) _
        exact k)
      obtain ⟨cqg5, kqg5, qg5a, qg5b, qg5c⟩ := isOf hZ eg2 LF.1
      obtain ⟨_, _, ⟨Tg5, Lg5, kg5, ng5⟩, -, Xg5, ⟨Lcg5, hQg5, lg5, yg5, zg5⟩, stg5⟩ := Xg2.virtualBack hx (y := (⟨"com/example/berchta/berchta/learn/NodeSet", "add", "(I)V"⟩ : MethodName)) (z := (⟨"com/example/berchta/berchta/learn/NodeSet", "add", "(I)V"⟩ : MethodName)) hown (mvT hZ (hw _ (List.mem_of_getElem? (i := 80) rfl))) (mvT hZ (hw _ (List.mem_of_getElem? (i := 13) rfl))) (notFace_of_selects (args := #[]) (mvT hZ (hw _ (List.mem_of_getElem? (i := 15) rfl)))) (mvT hZ (hw _ (List.mem_of_getElem? (i := 15) rfl))) (mvT hZ (hw _ (List.mem_of_getElem? (i := 14) rfl))) (by decide) (backOf (W := 0) (rmLadd l Z a0 hw [] b i fw zf g s2 cq sq hh n0 (Nat.le_trans g_a1 (Nat.le_of_lt E_a1.lt)) LF ⟨hi, hi128⟩ hcs) hZ (hw _ (List.mem_of_getElem? (i := 16) rfl)) (hw _ (List.mem_of_getElem? (i := 2) rfl)) (Nat.le_of_ble_eq_true rfl) (Nat.le_of_ble_eq_true rfl)) qg5a qg5c (g := (mkF m 67 #[.val (.ref a1), .val (.int p2), .val (.int i)] [(.int i), (.ref b)])) rfl (by rw [hml]; rfl) (Steps.refl _) (argsL := [(.int i)]) (rest := []) (lenOf pdx_2 rfl) rfl (by show 2 * 0 + _ ≤ _; exact Nat.le_of_eq rfl) (hb hby d11_67) (fun _ _ => ⟨rfl, eg2, hrc, hrs⟩)
      dsimp only [Pt.U, Pt.locs, Pt.cells, Pt.slots] at Xg5 lg5 yg5 zg5 stg5 hQg5
      subst lg5 yg5 zg5
      obtain ⟨fw', z', s', rfl, Ng5q, LF', Kg5, hfw', hz', hlt'⟩ := hQg5
      have Ng5 := Fr.app N0 Ng5q
      have preg6 : ∀ t, Steps p.tables e below (Tg5.setTop (mkF m 70 #[.val (.ref a1), .val (.int p2), .val (.int i)] [])) t → Steps p.tables e below (T0.setTop (mkF m 58 #[.val (.ref a1), .val (.int p2), .val (.int i)] [])) t := fun t k => preg4 t (by
        show Steps p.tables e below (Tg2.setTop (mkF m 67 #[.val (.ref a1), .val (.int p2), .val (.int i)] [(.int i), (.ref b)])) t
        refine stg5.trans ?_
        show Steps p.tables e below (Tg5.setTop (mkF m 70 #[.val (.ref a1), .val (.int p2), .val (.int i)] [])) t
        exact k)
      have E_a1_g5 := E_a1.keep Kg5
      have Fw_a1_g5 := Fw_a1.keep Kg5 (List.not_mem_cons_of_ne_of_not_mem n1 (List.not_mem_cons_of_ne_of_not_mem n2 List.not_mem_nil))
      have Ff_a1_g5 := Ff_a1.keep Kg5 (List.not_mem_cons_of_ne_of_not_mem n1 (List.not_mem_cons_of_ne_of_not_mem n2 List.not_mem_nil))
      have Fs_a1_g5 := Fs_a1.keep Kg5 (List.not_mem_cons_of_ne_of_not_mem n1 (List.not_mem_cons_of_ne_of_not_mem n2 List.not_mem_nil))
      have Vw_w_g5 := Vw_w.keep Kg5 (List.not_mem_cons_of_ne_of_not_mem n3 (List.not_mem_cons_of_ne_of_not_mem n4 List.not_mem_nil))
      have preg7 : ∀ t, Steps p.tables e below (Tg5.setTop (mkF m 74 #[.val (.ref a1), .val (.int p2), .val (.int i)] [(.int (i + (1 : Int32))), (.ref a1)])) t → Steps p.tables e below (T0.setTop (mkF m 58 #[.val (.ref a1), .val (.int p2), .val (.int i)] [])) t := fun t k => preg6 t (by
        show Steps p.tables e below (Tg5.setTop (mkF m 70 #[.val (.ref a1), .val (.int p2), .val (.int i)] [])) _
        refine XS.aloadN Xg5.here hx rfl (hb hby d11_70) rfl rfl ?_
        show Steps p.tables e below (Tg5.setTop (mkF m 71 #[.val (.ref a1), .val (.int p2), .val (.int i)] [(.ref a1)])) _
        refine XS.iloadN Xg5.here hx rfl (hb hby d11_71) rfl ?_
        show Steps p.tables e below (Tg5.setTop (mkF m 72 #[.val (.ref a1), .val (.int p2), .val (.int i)] [(.int i), (.ref a1)])) _
        refine XS.iconst Xg5.here hx rfl (hb hby d11_72) ?_
        show Steps p.tables e below (Tg5.setTop (mkF m 73 #[.val (.ref a1), .val (.int p2), .val (.int i)] [(.int (1 : Int32)), (.int i), (.ref a1)])) _
        refine XS.iadd Xg5.here hx rfl (hb hby d11_73) rfl ?_
        show Steps p.tables e below (Tg5.setTop (mkF m 74 #[.val (.ref a1), .val (.int p2), .val (.int i)] [(.int (i + (1 : Int32))), (.ref a1)])) _
        exact k)
      obtain ⟨cqg8, qg8, qg8'⟩ := E_a1_g5.cell
      obtain ⟨_, _, ⟨Tg8, Lg8, kg8, ng8⟩, -, Xg8, ⟨Lcg8, hQg8, lg8, yg8, zg8⟩, stg8⟩ := Xg5.privateBack hx (y := (⟨"com/example/berchta/berchta/learn/NodeSet", "nextFilled", "(I)I"⟩ : MethodName)) hown (mvT hZ (hw _ (List.mem_of_getElem? (i := 74) rfl))) (mvT hZ (hw _ (List.mem_of_getElem? (i := 75) rfl))) (mvT hZ (own_sel (z := (⟨"com/example/berchta/berchta/learn/NodeSet", "add", "(I)V"⟩ : MethodName)) rfl (hw _ (List.mem_of_getElem? (i := 15) rfl)) (hw _ (List.mem_of_getElem? (i := 75) rfl)) (hw _ (List.mem_of_getElem? (i := 76) rfl)) (by decide))) (Cond.privateMethod_at (mvP hZ (hw _ (List.mem_of_getElem? (i := 76) rfl)) (args := #[]))) (mvT hZ (hw _ (List.mem_of_getElem? (i := 77) rfl))) (by decide) (backOf (W := 0) (rm15 l Z a0 hw [] a1 (i + (1 : Int32)) w N f Tg5.heap n0 (Nat.le_trans g_a1 (Nat.le_of_lt E_a1_g5.lt)) Fw_a1_g5 Vw_w_g5 (own_succ hi hiN).1) hZ (hw _ (List.mem_of_getElem? (i := 77) rfl)) (hw _ (List.mem_of_getElem? (i := 2) rfl)) (Nat.le_of_ble_eq_true rfl) (Nat.le_of_ble_eq_true rfl)) (g := (mkF m 74 #[.val (.ref a1), .val (.int p2), .val (.int i)] [(.int (i + (1 : Int32))), (.ref a1)])) rfl (by rw [hml]; rfl) (Steps.refl _) (a := a1) qg8 qg8' (argsL := [(.int (i + (1 : Int32)))]) (rest := []) (lenOf pdx_3 rfl) rfl (by show 2 * 0 + _ ≤ _; exact Nat.le_of_eq rfl) (hb hby d11_74) (fun _ _ => ⟨rfl, rfl, (by show cc + cq + 0 ≤ 4; exact hrc), (by show ss + sq + 0 ≤ 260; exact hrs)⟩)
      dsimp only [Pt.U, Pt.locs, Pt.cells, Pt.slots] at Xg8 lg8 yg8 zg8 stg8 hQg8
      subst lg8 yg8 zg8
      obtain ⟨r, rfl, Ng8q, eg8, hnf⟩ := hQg8
      have Ng8 := Fr.app Ng5 Ng8q
      have preg9 : ∀ t, Steps p.tables e below (Tg8.setTop (mkF m 77 #[.val (.ref a1), .val (.int p2), .val (.int i)] [(.int r)])) t → Steps p.tables e below (T0.setTop (mkF m 58 #[.val (.ref a1), .val (.int p2), .val (.int i)] [])) t := fun t k => preg7 t (by
        show Steps p.tables e below (Tg5.setTop (mkF m 74 #[.val (.ref a1), .val (.int p2), .val (.int i)] [(.int (i + (1 : Int32))), (.ref a1)])) t
        refine stg8.trans ?_
        show Steps p.tables e below (Tg8.setTop (mkF m 77 #[.val (.ref a1), .val (.int p2), .val (.int i)] [(.int r)])) t
        exact k)
      have preg10 : ∀ t, Steps p.tables e below (Tg8.setTop (mkF m 58 #[.val (.ref a1), .val (.int p2), .val (.int r)] [])) t → Steps p.tables e below (T0.setTop (mkF m 58 #[.val (.ref a1), .val (.int p2), .val (.int i)] [])) t := fun t k => preg9 t (by
        show Steps p.tables e below (Tg8.setTop (mkF m 77 #[.val (.ref a1), .val (.int p2), .val (.int i)] [(.int r)])) _
        refine XS.istoreN Xg8.here hx rfl (hb hby d11_77) rfl (l' := #[.val (.ref a1), .val (.int p2), .val (.int r)]) rfl ?_
        show Steps p.tables e below (Tg8.setTop (mkF m 78 #[.val (.ref a1), .val (.int p2), .val (.int r)] [])) _
        refine XS.goto Xg8.here hx rfl (pc0 := 78) (pc' := 58) rfl (hb hby d11_78) (by decide) (by decide) ?_
        show Steps p.tables e below (Tg8.setTop (mkF m 58 #[.val (.ref a1), .val (.int p2), .val (.int r)] [])) _
        exact k)
      obtain ⟨T', h', L', fw2, zf2, g2, s3, i', X', e', N', G', r', k2⟩ := ih r Tg8 _ _ fw' z' (own_add g i) s' _ _ Xg8 eg8 Ng8 ⟨E_a1_g5, Fw_a1_g5, Ff_a1_g5, Fs_a1_g5, Vw_w_g5, LF', n1, own_ne_new n2 E_a1.lt hfw', n3, own_ne_new n4 Vw_w.lt hfw'⟩ (hnx z' LF'.2.2.2.2.2.1 hz' hlt') (own_relp_step hf0 hi hi128 hiN hheld hc hrel hnf) (own_held_nf hnf) (own_nf_dec hi hiN hk hnf)
      exact ⟨T', h', L', fw2, zf2, g2, s3, i', X', e', N', G', r', fun t q => preg10 t (k2 t q)⟩
def QGT (Z : State) (a1 : Addr) (p2 : Int32) (w : Addr) (z : Int32) (f : Nat → Int64) (sz : Int32) (fl : Value) (h0 : Heap) (n0 : Nat) (v : Option Value) (h : Heap) (L : List Loc) : Prop := ∃ (w' : Addr) (z' : Int32) (fl' : Value), v = none ∧ Fr n0 L ∧ own_top Z h n0 a1 w' z' f sz fl' ∧ p2 < z'
set_option maxRecDepth 65536 in
set_option maxHeartbeats 40000000 in
theorem rmGT (l : Launch) (Z : State) (a0 : Array Value) (hw : ∀ d ∈ tables_1, d.before a0 Z = true) (ws : List Jvm.Cond) (a1 : Addr) (p2 : Int32) (w : Addr) (z : Int32) (f : Nat → Int64) (sz : Int32) (fl : Value) (h0 : Heap) (n0 : Nat) (Z0 : n0 ≤ h0.size) (TP : own_top Z h0 n0 a1 w z f sz fl) (hj : ¬ p2 < z ∧ p2 < 128) :
    MetFree l (⟨"com/example/berchta/berchta/learn/NodeSet", "grow", "(I)V"⟩ : MethodName) (head1 (Jvm.Cond.code (⟨"com/example/berchta/berchta/learn/NodeSet", "grow", "(I)V"⟩ : MethodName) prog_101_method_11_code 3 none :: ws) ({ frames := 4, cells := 4, slots := 260, locals := 87 } : Room)) (fun a U => a = #[(.ref a1), (.int p2)] ∧ Z.Warmed39 U.vm ∧ U.heap = h0) (fun _ _ _ _ _ => True) (fun _ U o U' => ∃ v L, o = .returned v ∧ QGT Z a1 p2 w z f sz fl h0 n0 v U'.heap L ∧ FrameEnd U o U' L ({ frames := 4, cells := 4, slots := 260, locals := 87 } : Room).cells ({ frames := 4, cells := 4, slots := 260, locals := 87 } : Room).slots) := by
  refine MetFree.of_bodySF (plainFor_of_name pn_11) hisR ?_
  intro p e s m args below meth c s₁ Bd hml0 hP hK
  obtain ⟨rfl, hZ, hh⟩ := hP
  have hx := Bd.exec
  have hby := Bd.bytes
  have hml : c.maxLocals = 3 := hml0
  have hown : s.vm.findClass "com/example/berchta/berchta/learn/NodeSet" = some m.cls := findClass_of_methodNamed Bd.named
  have hnm := (name_of_methodNamed Bd.named Bd.method).1
  have X0 : Stand p l e ({ frames := 4, cells := 4, slots := 260, locals := 87 } : Room) s m #[(.ref a1), (.int p2)] below meth c s₁ [] 0 0 := Stand.of_body Bd
  have e0 : s₁.heap = h0 := by rw [← hh, Bd.state]; rfl
  have N0 := Fr.nil n0
  have pre0 : ∀ t, Steps p.tables e below (s₁.setTop (mkF m 0 #[.val (.ref a1), .val (.int p2), .unset] [])) t → Steps p.tables e below (s₁.setTop (entryFrame m #[(.ref a1), (.int p2)] 3)) t := fun t k => castTop (ef_11 m a1 p2) k
  obtain ⟨E_a1, Fw_a1, Ff_a1, Fs_a1, Vw_w, hz, hf0, hf128, g_a1, g_w, naw, HF⟩ := TP
  obtain ⟨hN1, hN2, hN3, hN4, hN5, hN6⟩ := own_grow_n hz hj
  have pre1 : ∀ t, Steps p.tables e below (s₁.setTop (mkF m 2 #[.val (.ref a1), .val (.int p2), .unset] [(.ref a1), (.ref a1)])) t → Steps p.tables e below (s₁.setTop (entryFrame m #[(.ref a1), (.int p2)] 3)) t := fun t k => pre0 t (by
    show Steps p.tables e below (s₁.setTop (mkF m 0 #[.val (.ref a1), .val (.int p2), .unset] [])) _
    refine XS.aloadN X0.here hx rfl (hb hby d11_0) rfl rfl ?_
    show Steps p.tables e below (s₁.setTop (mkF m 1 #[.val (.ref a1), .val (.int p2), .unset] [(.ref a1)])) _
    refine XS.aloadN X0.here hx rfl (hb hby d11_1) rfl rfl ?_
    show Steps p.tables e below (s₁.setTop (mkF m 2 #[.val (.ref a1), .val (.int p2), .unset] [(.ref a1), (.ref a1)])) _
    exact k)
  obtain ⟨T2, X2, e2, st2⟩ := getF X0 hx hZ hown (host := "") (Or.inl (hw _ (List.mem_of_getElem? (i := 10) rfl))) Via.refl e0 Fw_a1 (g := (mkF m 2 #[.val (.ref a1), .val (.int p2), .unset] [(.ref a1), (.ref a1)])) rfl rfl (hb hby d11_2)
  have pre3 : ∀ t, Steps p.tables e below (T2.setTop (mkF m 5 #[.val (.ref a1), .val (.int p2), .unset] [(.ref w), (.ref a1)])) t → Steps p.tables e below (s₁.setTop (entryFrame m #[(.ref a1), (.int p2)] 3)) t := fun t k => pre1 t (by
    show Steps p.tables e below (s₁.setTop (mkF m 2 #[.val (.ref a1), .val (.int p2), .unset] [(.ref a1), (.ref a1)])) t
    refine st2 _ ?_
    show Steps p.tables e below (T2.setTop (mkF m 5 #[.val (.ref a1), .val (.int p2), .unset] [(.ref w), (.ref a1)])) t
    exact k)
  have pre4 : ∀ t, Steps p.tables e below (T2.setTop (mkF m 7 #[.val (.ref a1), .val (.int p2), .unset] [(.ref a1), (.int (2 : Int32)), (.ref w), (.ref a1)])) t → Steps p.tables e below (s₁.setTop (entryFrame m #[(.ref a1), (.int p2)] 3)) t := fun t k => pre3 t (by
    show Steps p.tables e below (T2.setTop (mkF m 5 #[.val (.ref a1), .val (.int p2), .unset] [(.ref w), (.ref a1)])) _
    refine XS.iconst X2.here hx rfl (hb hby d11_5) ?_
    show Steps p.tables e below (T2.setTop (mkF m 6 #[.val (.ref a1), .val (.int p2), .unset] [(.int (2 : Int32)), (.ref w), (.ref a1)])) _
    refine XS.aloadN X2.here hx rfl (hb hby d11_6) rfl rfl ?_
    show Steps p.tables e below (T2.setTop (mkF m 7 #[.val (.ref a1), .val (.int p2), .unset] [(.ref a1), (.int (2 : Int32)), (.ref w), (.ref a1)])) _
    exact k)
  obtain ⟨T5, X5, e5, st5⟩ := getF X2 hx hZ hown (host := "") (Or.inl (hw _ (List.mem_of_getElem? (i := 10) rfl))) Via.refl e2 Fw_a1 (g := (mkF m 7 #[.val (.ref a1), .val (.int p2), .unset] [(.ref a1), (.int (2 : Int32)), (.ref w), (.ref a1)])) rfl rfl (hb hby d11_7)
  have pre6 : ∀ t, Steps p.tables e below (T5.setTop (mkF m 10 #[.val (.ref a1), .val (.int p2), .unset] [(.ref w), (.int (2 : Int32)), (.ref w), (.ref a1)])) t → Steps p.tables e below (s₁.setTop (entryFrame m #[(.ref a1), (.int p2)] 3)) t := fun t k => pre4 t (by
    show Steps p.tables e below (T2.setTop (mkF m 7 #[.val (.ref a1), .val (.int p2), .unset] [(.ref a1), (.int (2 : Int32)), (.ref w), (.ref a1)])) t
    refine st5 _ ?_
    show Steps p.tables e below (T5.setTop (mkF m 10 #[.val (.ref a1), .val (.int p2), .unset] [(.ref w), (.int (2 : Int32)), (.ref w), (.ref a1)])) t
    exact k)
  obtain ⟨cl7, Ar7, Sz7, Nz7⟩ := own_wds_len Vw_w
  have pre8 : ∀ t, Steps p.tables e below (T5.setTop (mkF m 11 #[.val (.ref a1), .val (.int p2), .unset] [(.int z), (.int (2 : Int32)), (.ref w), (.ref a1)])) t → Steps p.tables e below (s₁.setTop (entryFrame m #[(.ref a1), (.int p2)] 3)) t := fun t k => pre6 t (by
    show Steps p.tables e below (T5.setTop (mkF m 10 #[.val (.ref a1), .val (.int p2), .unset] [(.ref w), (.int (2 : Int32)), (.ref w), (.ref a1)])) t
    refine X5.arraylength hx (by rw [e5]; exact Ar7.1) (State.isArrayOf_alike hZ.alike Ar7.2.1) (g := (mkF m 10 #[.val (.ref a1), .val (.int p2), .unset] [(.ref w), (.int (2 : Int32)), (.ref w), (.ref a1)])) rfl rfl (hb hby d11_10) _ ?_
    rw [len_of Sz7 Nz7]
    exact k)
  have pre9 : ∀ t, Steps p.tables e below (T5.setTop (mkF m 15 #[.val (.ref a1), .val (.int p2), .unset] [(.int (p2 + (1 : Int32))), (.int ((2 : Int32) * z)), (.ref w), (.ref a1)])) t → Steps p.tables e below (s₁.setTop (entryFrame m #[(.ref a1), (.int p2)] 3)) t := fun t k => pre8 t (by
    show Steps p.tables e below (T5.setTop (mkF m 11 #[.val (.ref a1), .val (.int p2), .unset] [(.int z), (.int (2 : Int32)), (.ref w), (.ref a1)])) _
    refine XS.imul X5.here hx rfl (hb hby d11_11) rfl ?_
    show Steps p.tables e below (T5.setTop (mkF m 12 #[.val (.ref a1), .val (.int p2), .unset] [(.int ((2 : Int32) * z)), (.ref w), (.ref a1)])) _
    refine XS.iloadN X5.here hx rfl (hb hby d11_12) rfl ?_
    show Steps p.tables e below (T5.setTop (mkF m 13 #[.val (.ref a1), .val (.int p2), .unset] [(.int p2), (.int ((2 : Int32) * z)), (.ref w), (.ref a1)])) _
    refine XS.iconst X5.here hx rfl (hb hby d11_13) ?_
    show Steps p.tables e below (T5.setTop (mkF m 14 #[.val (.ref a1), .val (.int p2), .unset] [(.int (1 : Int32)), (.int p2), (.int ((2 : Int32) * z)), (.ref w), (.ref a1)])) _
    refine XS.iadd X5.here hx rfl (hb hby d11_14) rfl ?_
    show Steps p.tables e below (T5.setTop (mkF m 15 #[.val (.ref a1), .val (.int p2), .unset] [(.int (p2 + (1 : Int32))), (.int ((2 : Int32) * z)), (.ref w), (.ref a1)])) _
    exact k)
  obtain ⟨_, _, ⟨T10, L10, k10, n10⟩, -, X10, ⟨Lc10, hQ10, l10, y10, z10⟩, st10⟩ := Jvm.LawKit.callS X5 hx (y := (⟨"java/lang/Math", "max", "(II)I"⟩ : MethodName)) hown (mvT hZ (hw _ (List.mem_of_getElem? (i := 59) rfl))) (mvT hZ (hw _ (List.mem_of_getElem? (i := 60) rfl))) (mvT hZ (hw _ (List.mem_of_getElem? (i := 61) rfl))) (mvT hZ (hw _ (List.mem_of_getElem? (i := 62) rfl))) (by decide) (backOf (W := 2) (rm12 l Z a0 hw [] ((2 : Int32) * z) (p2 + (1 : Int32))  h0 n0 (Nat.le_trans g_a1 (Nat.le_of_lt E_a1.lt))) hZ (hw _ (List.mem_of_getElem? (i := 62) rfl)) (hw _ (List.mem_of_getElem? (i := 61) rfl)) (by decide) (by decide)) (g := (mkF m 15 #[.val (.ref a1), .val (.int p2), .unset] [(.int (p2 + (1 : Int32))), (.int ((2 : Int32) * z)), (.ref w), (.ref a1)])) rfl (by rw [hml]; rfl) (argsL := [(.int ((2 : Int32) * z)), (.int (p2 + (1 : Int32)))]) (rest := [(.ref w), (.ref a1)]) (lenOf pdx_0 rfl) rfl (by show 2 * 0 + _ ≤ _; exact Nat.le_of_eq rfl) (hb hby d11_15) (fun _ _ => ⟨rfl, e5, (by decide : 0 + 0 ≤ _), (by decide : 0 + 0 ≤ _)⟩)
  dsimp only [Pt.U, Pt.locs, Pt.cells, Pt.slots] at X10 l10 y10 z10 st10 hQ10
  subst l10 y10 z10
  obtain ⟨rfl, N10q, e10⟩ := hQ10
  have N10 := Fr.app N0 N10q
  have pre11 : ∀ t, Steps p.tables e below (T10.setTop (mkF m 18 #[.val (.ref a1), .val (.int p2), .unset] [(.int (own_max ((2 : Int32) * z) (p2 + (1 : Int32)))), (.ref w), (.ref a1)])) t → Steps p.tables e below (s₁.setTop (entryFrame m #[(.ref a1), (.int p2)] 3)) t := fun t k => pre9 t (by
    show Steps p.tables e below (T5.setTop (mkF m 15 #[.val (.ref a1), .val (.int p2), .unset] [(.int (p2 + (1 : Int32))), (.int ((2 : Int32) * z)), (.ref w), (.ref a1)])) t
    refine st10 _ ?_
    show Steps p.tables e below (T10.setTop (mkF m 18 #[.val (.ref a1), .val (.int p2), .unset] [(.int (own_max ((2 : Int32) * z) (p2 + (1 : Int32)))), (.ref w), (.ref a1)])) t
    exact k)
  obtain ⟨_, _, ⟨T12, L12, k12, n12⟩, -, X12, ⟨Lc12, hQ12, l12, y12, z12⟩, st12⟩ := Jvm.LawKit.callS X10 hx (y := (⟨"java/util/Arrays", "copyOf", "([JI)[J"⟩ : MethodName)) hown (mvT hZ (hw _ (List.mem_of_getElem? (i := 63) rfl))) (mvT hZ (hw _ (List.mem_of_getElem? (i := 64) rfl))) (mvT hZ (hw _ (List.mem_of_getElem? (i := 65) rfl))) (mvT hZ (hw _ (List.mem_of_getElem? (i := 66) rfl))) (by decide) (backOf (W := 1) (rm13 l Z a0 hw [] w (own_max ((2 : Int32) * z) (p2 + (1 : Int32))) z f 254 h0 n0 (Nat.le_trans g_a1 (Nat.le_of_lt E_a1.lt)) Vw_w hN1 hN3 (by decide) hf0) hZ (hw _ (List.mem_of_getElem? (i := 66) rfl)) (hw _ (List.mem_of_getElem? (i := 65) rfl)) (by decide) (by decide)) (g := (mkF m 18 #[.val (.ref a1), .val (.int p2), .unset] [(.int (own_max ((2 : Int32) * z) (p2 + (1 : Int32)))), (.ref w), (.ref a1)])) rfl (by rw [hml]; rfl) (argsL := [(.ref w), (.int (own_max ((2 : Int32) * z) (p2 + (1 : Int32))))]) (rest := [(.ref a1)]) (lenOf pdx_1 rfl) rfl (by show 2 * 0 + _ ≤ _; exact Nat.le_of_eq rfl) (hb hby d11_18) (fun _ _ => ⟨rfl, e10, (by decide : 0 + 1 ≤ _), (by decide : 0 + 254 ≤ _)⟩)
  dsimp only [Pt.U, Pt.locs, Pt.cells, Pt.slots] at X12 l12 y12 z12 st12 hQ12
  subst l12 y12 z12
  obtain ⟨b, rfl, N12q, s12, K12, V_b⟩ := hQ12
  have N12 := Fr.app N10 N12q
  have pre13 : ∀ t, Steps p.tables e below (T12.setTop (mkF m 21 #[.val (.ref a1), .val (.int p2), .unset] [(.ref b), (.ref a1)])) t → Steps p.tables e below (s₁.setTop (entryFrame m #[(.ref a1), (.int p2)] 3)) t := fun t k => pre11 t (by
    show Steps p.tables e below (T10.setTop (mkF m 18 #[.val (.ref a1), .val (.int p2), .unset] [(.int (own_max ((2 : Int32) * z) (p2 + (1 : Int32)))), (.ref w), (.ref a1)])) t
    refine st12 _ ?_
    show Steps p.tables e below (T12.setTop (mkF m 21 #[.val (.ref a1), .val (.int p2), .unset] [(.ref b), (.ref a1)])) t
    exact k)
  have o_a1_b : a1 < b := Nat.lt_of_lt_of_le E_a1.lt s12
  have o_w_b : w < b := Nat.lt_of_lt_of_le Vw_w.lt s12
  have g_b : n0 ≤ b := Nat.le_trans g_a1 (Nat.le_of_lt o_a1_b)
  have E_a1_12 := E_a1.keep K12
  have Fw_a1_12 := Fw_a1.keep K12 List.not_mem_nil
  have Ff_a1_12 := Ff_a1.keep K12 List.not_mem_nil
  have Fs_a1_12 := Fs_a1.keep K12 List.not_mem_nil
  have Vw_w_12 := Vw_w.keep K12 List.not_mem_nil
  obtain ⟨T14, h14, X14, e14, W14, st14⟩ := putF X12 hx hZ hown (host := "") (Or.inl (hw _ (List.mem_of_getElem? (i := 10) rfl))) Via.refl rfl Fw_a1_12 E_a1_12 (Or.inl (hw _ (List.mem_of_getElem? (i := 11) rfl))) (hw _ (List.mem_of_getElem? (i := 1) rfl)) (ty := (.array .long)) (by decide) rfl rfl (g := (mkF m 21 #[.val (.ref a1), .val (.int p2), .unset] [(.ref b), (.ref a1)])) rfl rfl (hb hby d11_21)
  have E_a1_14 := E_a1_12.wr W14
  have Ff_a1_14 := Ff_a1_12.other W14 (Or.inr (slot_ne (Or.inl (hw _ (List.mem_of_getElem? (i := 20) rfl))) (Or.inl (hw _ (List.mem_of_getElem? (i := 11) rfl))) (by decide) (t := (.object "com/example/berchta/berchta/learn/NodeSet")) (t' := (.array .long)) (by decide) (by decide)))
  have Fs_a1_14 := Fs_a1_12.other W14 (Or.inr (slot_ne (Or.inl (hw _ (List.mem_of_getElem? (i := 18) rfl))) (Or.inl (hw _ (List.mem_of_getElem? (i := 11) rfl))) (by decide) (t := .int) (t' := (.array .long)) (by decide) (by decide)))
  have Vw_w_14 := Vw_w_12.other W14 (Ne.symm naw)
  have V_b_14 := V_b.other W14 (Nat.ne_of_gt o_a1_b)
  have Fw_a1_14 := Fw_a1_12.same W14
  have N14 := Fr.snoc X14 N12 g_a1
  have pre15 : ∀ t, Steps p.tables e below (T14.setTop (mkF m 24 #[.val (.ref a1), .val (.int p2), .unset] [])) t → Steps p.tables e below (s₁.setTop (entryFrame m #[(.ref a1), (.int p2)] 3)) t := fun t k => pre13 t (by
    show Steps p.tables e below (T12.setTop (mkF m 21 #[.val (.ref a1), .val (.int p2), .unset] [(.ref b), (.ref a1)])) t
    refine st14 _ ?_
    show Steps p.tables e below (T14.setTop (mkF m 24 #[.val (.ref a1), .val (.int p2), .unset] [])) t
    exact k)
  have pre16 : ∀ t, Steps p.tables e below (T14.setTop (mkF m 25 #[.val (.ref a1), .val (.int p2), .unset] [(.ref a1)])) t → Steps p.tables e below (s₁.setTop (entryFrame m #[(.ref a1), (.int p2)] 3)) t := fun t k => pre15 t (by
    show Steps p.tables e below (T14.setTop (mkF m 24 #[.val (.ref a1), .val (.int p2), .unset] [])) _
    refine XS.aloadN X14.here hx rfl (hb hby d11_24) rfl rfl ?_
    show Steps p.tables e below (T14.setTop (mkF m 25 #[.val (.ref a1), .val (.int p2), .unset] [(.ref a1)])) _
    exact k)
  have hf0N : ∀ i, (own_max ((2 : Int32) * z) (p2 + (1 : Int32))).toNatClampNeg ≤ i → f i = 0 := fun i q => hf0 i (Nat.le_trans (Nat.le_of_lt (own_lt (own_pos1 hz.1) hN1)) q)
  rcases HF with ⟨rfl, hz64⟩ | ⟨b0, fw, zf, g, s2, rfl, LF, rel, n1, n2, n3, n4⟩
  · skip
    obtain ⟨T17, X17, e17, st17⟩ := getF X14 hx hZ hown (host := "") (Or.inl (hw _ (List.mem_of_getElem? (i := 19) rfl))) Via.refl e14 Ff_a1_14 (g := (mkF m 25 #[.val (.ref a1), .val (.int p2), .unset] [(.ref a1)])) rfl rfl (hb hby d11_25)
    have pre18 : ∀ t, Steps p.tables e below (T17.setTop (mkF m 28 #[.val (.ref a1), .val (.int p2), .unset] [.null])) t → Steps p.tables e below (s₁.setTop (entryFrame m #[(.ref a1), (.int p2)] 3)) t := fun t k => pre16 t (by
      show Steps p.tables e below (T14.setTop (mkF m 25 #[.val (.ref a1), .val (.int p2), .unset] [(.ref a1)])) t
      refine st17 _ ?_
      show Steps p.tables e below (T17.setTop (mkF m 28 #[.val (.ref a1), .val (.int p2), .unset] [.null])) t
      exact k)
    have pre19 : ∀ t, Steps p.tables e below (T17.setTop (mkF m 32 #[.val (.ref a1), .val (.int p2), .unset] [(.ref a1)])) t → Steps p.tables e below (s₁.setTop (entryFrame m #[(.ref a1), (.int p2)] 3)) t := fun t k => pre18 t (by
      show Steps p.tables e below (T17.setTop (mkF m 28 #[.val (.ref a1), .val (.int p2), .unset] [.null])) _
      refine XS.ifnonnullNo X17.here hx rfl (hb hby d11_28) rfl ?_
      show Steps p.tables e below (T17.setTop (mkF m 31 #[.val (.ref a1), .val (.int p2), .unset] [])) _
      refine XS.aloadN X17.here hx rfl (hb hby d11_31) rfl rfl ?_
      show Steps p.tables e below (T17.setTop (mkF m 32 #[.val (.ref a1), .val (.int p2), .unset] [(.ref a1)])) _
      exact k)
    obtain ⟨T20, X20, e20, st20⟩ := getF X17 hx hZ hown (host := "") (Or.inl (hw _ (List.mem_of_getElem? (i := 10) rfl))) Via.refl e17 Fw_a1_14 (g := (mkF m 32 #[.val (.ref a1), .val (.int p2), .unset] [(.ref a1)])) rfl rfl (hb hby d11_32)
    have pre21 : ∀ t, Steps p.tables e below (T20.setTop (mkF m 35 #[.val (.ref a1), .val (.int p2), .unset] [(.ref b)])) t → Steps p.tables e below (s₁.setTop (entryFrame m #[(.ref a1), (.int p2)] 3)) t := fun t k => pre19 t (by
      show Steps p.tables e below (T17.setTop (mkF m 32 #[.val (.ref a1), .val (.int p2), .unset] [(.ref a1)])) t
      refine st20 _ ?_
      show Steps p.tables e below (T20.setTop (mkF m 35 #[.val (.ref a1), .val (.int p2), .unset] [(.ref b)])) t
      exact k)
    obtain ⟨cl22, Ar22, Sz22, Nz22⟩ := own_wds_len V_b_14
    have pre23 : ∀ t, Steps p.tables e below (T20.setTop (mkF m 36 #[.val (.ref a1), .val (.int p2), .unset] [(.int (own_max ((2 : Int32) * z) (p2 + (1 : Int32))))])) t → Steps p.tables e below (s₁.setTop (entryFrame m #[(.ref a1), (.int p2)] 3)) t := fun t k => pre21 t (by
      show Steps p.tables e below (T20.setTop (mkF m 35 #[.val (.ref a1), .val (.int p2), .unset] [(.ref b)])) t
      refine X20.arraylength hx (by rw [e20]; exact Ar22.1) (State.isArrayOf_alike hZ.alike Ar22.2.1) (g := (mkF m 35 #[.val (.ref a1), .val (.int p2), .unset] [(.ref b)])) rfl rfl (hb hby d11_35) _ ?_
      rw [len_of Sz22 Nz22]
      exact k)
    have pre24 : ∀ t, Steps p.tables e below (T20.setTop (mkF m 38 #[.val (.ref a1), .val (.int p2), .unset] [(.int (64 : Int32)), (.int (own_max ((2 : Int32) * z) (p2 + (1 : Int32))))])) t → Steps p.tables e below (s₁.setTop (entryFrame m #[(.ref a1), (.int p2)] 3)) t := fun t k => pre23 t (by
      show Steps p.tables e below (T20.setTop (mkF m 36 #[.val (.ref a1), .val (.int p2), .unset] [(.int (own_max ((2 : Int32) * z) (p2 + (1 : Int32))))])) _
      refine XS.bipush X20.here hx rfl (hb hby d11_36) ?_
      show Steps p.tables e below (T20.setTop (mkF m 38 #[.val (.ref a1), .val (.int p2), .unset] [(.int (64 : Int32)), (.int (own_max ((2 : Int32) * z) (p2 + (1 : Int32))))])) _
      exact k)
    by_cases h64 : (64 : Int32) < (own_max ((2 : Int32) * z) (p2 + (1 : Int32)))
    · skip
      have pre25 : ∀ t, Steps p.tables e below (T20.setTop (mkF m 42 #[.val (.ref a1), .val (.int p2), .unset] [(.ref a1)])) t → Steps p.tables e below (s₁.setTop (entryFrame m #[(.ref a1), (.int p2)] 3)) t := fun t k => pre24 t (by
        show Steps p.tables e below (T20.setTop (mkF m 38 #[.val (.ref a1), .val (.int p2), .unset] [(.int (64 : Int32)), (.int (own_max ((2 : Int32) * z) (p2 + (1 : Int32))))])) _
        refine XS.icmpNo X20.here hx rfl (hb hby d11_38) rfl (tlt h64).2.2.2 ?_
        show Steps p.tables e below (T20.setTop (mkF m 41 #[.val (.ref a1), .val (.int p2), .unset] [])) _
        refine XS.aloadN X20.here hx rfl (hb hby d11_41) rfl rfl ?_
        show Steps p.tables e below (T20.setTop (mkF m 42 #[.val (.ref a1), .val (.int p2), .unset] [(.ref a1)])) _
        exact k)
      obtain ⟨T26, h26, X26, e26, E26, A26, D26, -, st26⟩ := newO X20 hx hZ hown (hw _ (List.mem_of_getElem? (i := 78) rfl)) (hw _ (List.mem_of_getElem? (i := 1) rfl)) (hw _ (List.mem_of_getElem? (i := 2) rfl)) e20 (g := (mkF m 42 #[.val (.ref a1), .val (.int p2), .unset] [(.ref a1)])) rfl (hb hby d11_42) (by decide) (by decide)
      obtain ⟨bn, ge26⟩ : ∃ z, z = h14.size := ⟨_, rfl⟩
      rw [← ge26] at A26 D26 st26
      have gq26 := Nat.le_of_eq ge26.symm
      have o_a1_bn : a1 < bn := Nat.lt_of_lt_of_le E_a1_14.lt gq26
      have o_w_bn : w < bn := Nat.lt_of_lt_of_le Vw_w_14.lt gq26
      have o_b_bn : b < bn := Nat.lt_of_lt_of_le V_b_14.lt gq26
      have g_bn : n0 ≤ bn := Nat.le_trans g_a1 (Nat.le_of_lt o_a1_bn)
      have E_a1_26 := E_a1_14.ext E26
      have Fw_a1_26 := Fw_a1_14.ext E26
      have Ff_a1_26 := Ff_a1_14.ext E26
      have Fs_a1_26 := Fs_a1_14.ext E26
      have Vw_w_26 := Vw_w_14.ext E26
      have V_b_26 := V_b_14.ext E26
      have E_bn : Exa Z h26 bn "com/example/berchta/berchta/learn/NodeSet" := A26
      have F_words_bn : Fld Z h26 bn "com/example/berchta/berchta/learn/NodeSet" "words" "[J" .null := D26 (Or.inl (hw _ (List.mem_of_getElem? (i := 11) rfl))) (ty := (.array .long)) (by decide)
      have F_size_bn : Fld Z h26 bn "com/example/berchta/berchta/learn/NodeSet" "size" "I" (.int (0 : Int32)) := D26 (Or.inl (hw _ (List.mem_of_getElem? (i := 18) rfl))) (ty := .int) (by decide)
      have F_filled_bn : Fld Z h26 bn "com/example/berchta/berchta/learn/NodeSet" "filled" "Lcom/example/berchta/berchta/learn/NodeSet;" .null := D26 (Or.inl (hw _ (List.mem_of_getElem? (i := 20) rfl))) (ty := (.object "com/example/berchta/berchta/learn/NodeSet")) (by decide)
      have pre27 : ∀ t, Steps p.tables e below (T26.setTop (mkF m 45 #[.val (.ref a1), .val (.int p2), .unset] [(.ref bn), (.ref a1)])) t → Steps p.tables e below (s₁.setTop (entryFrame m #[(.ref a1), (.int p2)] 3)) t := fun t k => pre25 t (by
        show Steps p.tables e below (T20.setTop (mkF m 42 #[.val (.ref a1), .val (.int p2), .unset] [(.ref a1)])) t
        refine st26 _ ?_
        show Steps p.tables e below (T26.setTop (mkF m 45 #[.val (.ref a1), .val (.int p2), .unset] [(.ref bn), (.ref a1)])) t
        exact k)
      have pre28 : ∀ t, Steps p.tables e below (T26.setTop (mkF m 46 #[.val (.ref a1), .val (.int p2), .unset] [(.ref bn), (.ref bn), (.ref a1)])) t → Steps p.tables e below (s₁.setTop (entryFrame m #[(.ref a1), (.int p2)] 3)) t := fun t k => pre27 t (by
        show Steps p.tables e below (T26.setTop (mkF m 45 #[.val (.ref a1), .val (.int p2), .unset] [(.ref bn), (.ref a1)])) _
        refine XS.dup X26.here hx rfl (hb hby d11_45) rfl rfl ?_
        show Steps p.tables e below (T26.setTop (mkF m 46 #[.val (.ref a1), .val (.int p2), .unset] [(.ref bn), (.ref bn), (.ref a1)])) _
        exact k)
      obtain ⟨_, _, ⟨T29, L29, k29, n29⟩, -, X29, ⟨Lc29, hQ29, l29, y29, z29⟩, st29⟩ := X26.specialBack hx (y := (⟨"com/example/berchta/berchta/learn/NodeSet", "<init>", "()V"⟩ : MethodName)) rfl hown (mvT hZ (hw _ (List.mem_of_getElem? (i := 79) rfl))) (mvT hZ (hw _ (List.mem_of_getElem? (i := 4) rfl))) (mvT hZ (hw _ (List.mem_of_getElem? (i := 5) rfl))) (by decide) (backOf (W := 2) (rm1 l Z a0 hw [] bn  h26 n0 (Nat.le_trans g_a1 (Nat.le_of_lt E_a1_26.lt)) E_bn F_words_bn F_filled_bn F_size_bn g_bn) hZ (hw _ (List.mem_of_getElem? (i := 5) rfl)) (hw _ (List.mem_of_getElem? (i := 2) rfl)) (by decide) (by decide)) (g := (mkF m 46 #[.val (.ref a1), .val (.int p2), .unset] [(.ref bn), (.ref bn), (.ref a1)])) rfl (by rw [hml]; rfl) (Steps.refl _) (a := bn) (argsL := []) (rest := [(.ref bn), (.ref a1)]) (lenOf pdx_4 rfl) rfl (by show 2 * 0 + _ ≤ _; exact Nat.le_of_eq rfl) (hb hby d11_46) (fun _ _ => ⟨rfl, e26, (by decide : 2 + 1 ≤ _), (by decide : 257 + 1 ≤ _)⟩)
      dsimp only [Pt.U, Pt.locs, Pt.cells, Pt.slots] at X29 l29 y29 z29 st29 hQ29
      subst l29 y29 z29
      obtain ⟨fn, rfl, N29q, s29, K29, E_bn2, Fw_bn2, Ff_bn2, Fs_bn2, V_fn⟩ := hQ29
      have N29 := Fr.app N14 N29q
      have pre30 : ∀ t, Steps p.tables e below (T29.setTop (mkF m 49 #[.val (.ref a1), .val (.int p2), .unset] [(.ref bn), (.ref a1)])) t → Steps p.tables e below (s₁.setTop (entryFrame m #[(.ref a1), (.int p2)] 3)) t := fun t k => pre28 t (by
        show Steps p.tables e below (T26.setTop (mkF m 46 #[.val (.ref a1), .val (.int p2), .unset] [(.ref bn), (.ref bn), (.ref a1)])) t
        refine st29.trans ?_
        show Steps p.tables e below (T29.setTop (mkF m 49 #[.val (.ref a1), .val (.int p2), .unset] [(.ref bn), (.ref a1)])) t
        exact k)
      have o_a1_fn : a1 < fn := Nat.lt_of_lt_of_le E_a1_26.lt s29
      have o_w_fn : w < fn := Nat.lt_of_lt_of_le Vw_w_26.lt s29
      have o_b_fn : b < fn := Nat.lt_of_lt_of_le V_b_26.lt s29
      have o_bn_fn : bn < fn := Nat.lt_of_lt_of_le E_bn.lt s29
      have g_fn : n0 ≤ fn := Nat.le_trans g_a1 (Nat.le_of_lt o_a1_fn)
      have E_a1_29 := E_a1_26.keep K29
      have Fw_a1_29 := Fw_a1_26.keep K29 (List.not_mem_cons_of_ne_of_not_mem (Nat.ne_of_lt o_a1_bn) List.not_mem_nil)
      have Ff_a1_29 := Ff_a1_26.keep K29 (List.not_mem_cons_of_ne_of_not_mem (Nat.ne_of_lt o_a1_bn) List.not_mem_nil)
      have Fs_a1_29 := Fs_a1_26.keep K29 (List.not_mem_cons_of_ne_of_not_mem (Nat.ne_of_lt o_a1_bn) List.not_mem_nil)
      have Vw_w_29 := Vw_w_26.keep K29 (List.not_mem_cons_of_ne_of_not_mem (Nat.ne_of_lt o_w_bn) List.not_mem_nil)
      have V_b_29 := V_b_26.keep K29 (List.not_mem_cons_of_ne_of_not_mem (Nat.ne_of_lt o_b_bn) List.not_mem_nil)
      obtain ⟨T31, h31, X31, e31, W31, st31⟩ := putF X29 hx hZ hown (host := "") (Or.inl (hw _ (List.mem_of_getElem? (i := 19) rfl))) Via.refl rfl Ff_a1_29 E_a1_29 (Or.inl (hw _ (List.mem_of_getElem? (i := 20) rfl))) (hw _ (List.mem_of_getElem? (i := 1) rfl)) (ty := (.object "com/example/berchta/berchta/learn/NodeSet")) (by decide) rfl rfl (g := (mkF m 49 #[.val (.ref a1), .val (.int p2), .unset] [(.ref bn), (.ref a1)])) rfl rfl (hb hby d11_49)
      have E_a1_31 := E_a1_29.wr W31
      have Fw_a1_31 := Fw_a1_29.other W31 (Or.inr (slot_ne (Or.inl (hw _ (List.mem_of_getElem? (i := 11) rfl))) (Or.inl (hw _ (List.mem_of_getElem? (i := 20) rfl))) (by decide) (t := (.array .long)) (t' := (.object "com/example/berchta/berchta/learn/NodeSet")) (by decide) (by decide)))
      have Fs_a1_31 := Fs_a1_29.other W31 (Or.inr (slot_ne (Or.inl (hw _ (List.mem_of_getElem? (i := 18) rfl))) (Or.inl (hw _ (List.mem_of_getElem? (i := 20) rfl))) (by decide) (t := .int) (t' := (.object "com/example/berchta/berchta/learn/NodeSet")) (by decide) (by decide)))
      have Vw_w_31 := Vw_w_29.other W31 (Ne.symm naw)
      have V_b_31 := V_b_29.other W31 (Nat.ne_of_gt o_a1_b)
      have E_bn2_31 := E_bn2.wr W31
      have Fw_bn2_31 := Fw_bn2.other W31 (Or.inl (Nat.ne_of_gt o_a1_bn))
      have Ff_bn2_31 := Ff_bn2.other W31 (Or.inl (Nat.ne_of_gt o_a1_bn))
      have Fs_bn2_31 := Fs_bn2.other W31 (Or.inl (Nat.ne_of_gt o_a1_bn))
      have V_fn_31 := V_fn.other W31 (Nat.ne_of_gt o_a1_fn)
      have Ff_a1_31 := Ff_a1_29.same W31
      have N31 := Fr.snoc X31 N29 g_a1
      have pre32 : ∀ t, Steps p.tables e below (T31.setTop (mkF m 52 #[.val (.ref a1), .val (.int p2), .unset] [])) t → Steps p.tables e below (s₁.setTop (entryFrame m #[(.ref a1), (.int p2)] 3)) t := fun t k => pre30 t (by
        show Steps p.tables e below (T29.setTop (mkF m 49 #[.val (.ref a1), .val (.int p2), .unset] [(.ref bn), (.ref a1)])) t
        refine st31 _ ?_
        show Steps p.tables e below (T31.setTop (mkF m 52 #[.val (.ref a1), .val (.int p2), .unset] [])) t
        exact k)
      have pre33 : ∀ t, Steps p.tables e below (T31.setTop (mkF m 54 #[.val (.ref a1), .val (.int p2), .unset] [(.int (0 : Int32)), (.ref a1)])) t → Steps p.tables e below (s₁.setTop (entryFrame m #[(.ref a1), (.int p2)] 3)) t := fun t k => pre32 t (by
        show Steps p.tables e below (T31.setTop (mkF m 52 #[.val (.ref a1), .val (.int p2), .unset] [])) _
        refine XS.aloadN X31.here hx rfl (hb hby d11_52) rfl rfl ?_
        show Steps p.tables e below (T31.setTop (mkF m 53 #[.val (.ref a1), .val (.int p2), .unset] [(.ref a1)])) _
        refine XS.iconst X31.here hx rfl (hb hby d11_53) ?_
        show Steps p.tables e below (T31.setTop (mkF m 54 #[.val (.ref a1), .val (.int p2), .unset] [(.int (0 : Int32)), (.ref a1)])) _
        exact k)
      obtain ⟨cq34, q34, q34'⟩ := E_a1_31.cell
      obtain ⟨_, _, ⟨T34, L34, k34, n34⟩, -, X34, ⟨Lc34, hQ34, l34, y34, z34⟩, st34⟩ := X31.privateBack hx (y := (⟨"com/example/berchta/berchta/learn/NodeSet", "nextFilled", "(I)I"⟩ : MethodName)) hown (mvT hZ (hw _ (List.mem_of_getElem? (i := 74) rfl))) (mvT hZ (hw _ (List.mem_of_getElem? (i := 75) rfl))) (mvT hZ (own_sel (z := (⟨"com/example/berchta/berchta/learn/NodeSet", "add", "(I)V"⟩ : MethodName)) rfl (hw _ (List.mem_of_getElem? (i := 15) rfl)) (hw _ (List.mem_of_getElem? (i := 75) rfl)) (hw _ (List.mem_of_getElem? (i := 76) rfl)) (by decide))) (Cond.privateMethod_at (mvP hZ (hw _ (List.mem_of_getElem? (i := 76) rfl)) (args := #[]))) (mvT hZ (hw _ (List.mem_of_getElem? (i := 77) rfl))) (by decide) (backOf (W := 0) (rm15 l Z a0 hw [] a1 (0 : Int32) b (own_max ((2 : Int32) * z) (p2 + (1 : Int32))) f h31 n0 (Nat.le_trans g_a1 (Nat.le_of_lt E_a1_31.lt)) Fw_a1_31 V_b_31 (by decide)) hZ (hw _ (List.mem_of_getElem? (i := 77) rfl)) (hw _ (List.mem_of_getElem? (i := 2) rfl)) (by decide) (by decide)) (g := (mkF m 54 #[.val (.ref a1), .val (.int p2), .unset] [(.int (0 : Int32)), (.ref a1)])) rfl (by rw [hml]; rfl) (Steps.refl _) (a := a1) (by rw [e31]; exact q34) q34' (argsL := [(.int (0 : Int32))]) (rest := []) (lenOf pdx_3 rfl) rfl (by show 2 * 0 + _ ≤ _; exact Nat.le_of_eq rfl) (hb hby d11_54) (fun _ _ => ⟨rfl, e31, (by decide : 3 + 0 ≤ _), (by decide : 258 + 0 ≤ _)⟩)
      dsimp only [Pt.U, Pt.locs, Pt.cells, Pt.slots] at X34 l34 y34 z34 st34 hQ34
      subst l34 y34 z34
      obtain ⟨r, rfl, N34q, e34, hnf⟩ := hQ34
      have N34 := Fr.app N31 N34q
      have pre35 : ∀ t, Steps p.tables e below (T34.setTop (mkF m 57 #[.val (.ref a1), .val (.int p2), .unset] [(.int r)])) t → Steps p.tables e below (s₁.setTop (entryFrame m #[(.ref a1), (.int p2)] 3)) t := fun t k => pre33 t (by
        show Steps p.tables e below (T31.setTop (mkF m 54 #[.val (.ref a1), .val (.int p2), .unset] [(.int (0 : Int32)), (.ref a1)])) t
        refine st34.trans ?_
        show Steps p.tables e below (T34.setTop (mkF m 57 #[.val (.ref a1), .val (.int p2), .unset] [(.int r)])) t
        exact k)
      have pre36 : ∀ t, Steps p.tables e below (T34.setTop (mkF m 58 #[.val (.ref a1), .val (.int p2), .val (.int r)] [])) t → Steps p.tables e below (s₁.setTop (entryFrame m #[(.ref a1), (.int p2)] 3)) t := fun t k => pre35 t (by
        show Steps p.tables e below (T34.setTop (mkF m 57 #[.val (.ref a1), .val (.int p2), .unset] [(.int r)])) _
        refine XS.istoreN X34.here hx rfl (hb hby d11_57) rfl (l' := #[.val (.ref a1), .val (.int p2), .val (.int r)]) rfl ?_
        show Steps p.tables e below (T34.setTop (mkF m 58 #[.val (.ref a1), .val (.int p2), .val (.int r)] [])) _
        exact k)
      obtain ⟨T', h', L', fw2, zf2, g2, s3, i', X', e', N', G', r', k2⟩ := own_gloop (b := bn) hx hZ hw hby hml hown hf0N hf128 g_a1 ((own_max ((2 : Int32) * z) (p2 + (1 : Int32))).toInt - r.toInt).toNat r T34 _ _ fn 1 (fun _ => 0) 0 _ _ X34 e34 N34 ⟨E_a1_31, Fw_a1_31, Ff_a1_31, Fs_a1_31, V_b_31, ⟨E_bn2_31, Fw_bn2_31, Ff_bn2_31, Fs_bn2_31, V_fn_31, Or.inl rfl, fun _ _ => rfl, g_bn, g_fn, Nat.ne_of_lt o_bn_fn⟩, Nat.ne_of_lt o_a1_bn, Nat.ne_of_lt o_a1_fn, Nat.ne_of_lt o_b_bn, Nat.ne_of_lt o_b_fn⟩ (Or.inl ⟨rfl, rfl, rfl⟩) (own_relp_first hf0N hnf) (own_held_nf hnf) (Or.inr (by omega))
      have preE : ∀ t, Steps p.tables e below (T'.setTop (mkF m 81 #[.val (.ref a1), .val (.int p2), .val (.int i')] [])) t → Steps p.tables e below (s₁.setTop (entryFrame m #[(.ref a1), (.int p2)] 3)) t := fun t q => pre36 t (k2 t q)
      obtain ⟨E_c, Fw_c, Ff_c, Fs_c, V_c, LFc, m1, m2, m3, m4⟩ := G'
      obtain ⟨fs, hr, hrun, hended, hW, hsame⟩ := X'.leave (v := none) (fun _ => rfl)
      refine ⟨_, _, preE _ ?_, hrun, hended, _, _, rfl, ?_, ⟨_, rfl⟩, hW, hsame.mono (by decide) (by decide)⟩
      · show Steps p.tables e below (T'.setTop (mkF m 81 #[.val (.ref a1), .val (.int p2), .val (.int i')] [])) _
        exact X'.returnOut hx Bd.returns (hb hby d11_81) hr
      · show QGT Z a1 p2 w z f sz _ h0 n0 _ T'.heap _
        rw [e']
        exact ⟨b, _, _, rfl, N', ⟨E_c, Fw_c, Ff_c, Fs_c, V_c, ⟨hN5, hN6⟩, hf0N, hf128, g_a1, g_b, Nat.ne_of_lt o_a1_b, Or.inr ⟨bn, fw2, zf2, g2, s3, rfl, LFc, r', m1, m2, m3, m4⟩⟩, hN4⟩
    · skip
      have pre37 : ∀ t, Steps p.tables e below (T20.setTop (mkF m 81 #[.val (.ref a1), .val (.int p2), .unset] [])) t → Steps p.tables e below (s₁.setTop (entryFrame m #[(.ref a1), (.int p2)] 3)) t := fun t k => pre24 t (by
        show Steps p.tables e below (T20.setTop (mkF m 38 #[.val (.ref a1), .val (.int p2), .unset] [(.int (64 : Int32)), (.int (own_max ((2 : Int32) * z) (p2 + (1 : Int32))))])) _
        refine XS.icmpYes X20.here hx rfl (pc0 := 38) (pc' := 81) rfl (hb hby d11_38) rfl (flt h64).2.2.2 (by decide) (by decide) ?_
        show Steps p.tables e below (T20.setTop (mkF m 81 #[.val (.ref a1), .val (.int p2), .unset] [])) _
        exact k)
      obtain ⟨fs, hr, hrun, hended, hW, hsame⟩ := X20.leave (v := none) (fun _ => rfl)
      refine ⟨_, _, pre37 _ ?_, hrun, hended, _, _, rfl, ?_, ⟨_, rfl⟩, hW, hsame.mono (by decide) (by decide)⟩
      · show Steps p.tables e below (T20.setTop (mkF m 81 #[.val (.ref a1), .val (.int p2), .unset] [])) _
        exact X20.returnOut hx Bd.returns (hb hby d11_81) hr
      · show QGT Z a1 p2 w z f sz _ h0 n0 _ T20.heap _
        rw [e20]
        exact ⟨b, _, _, rfl, N14, ⟨E_a1_14, Fw_a1_14, Ff_a1_14, Fs_a1_14, V_b_14, ⟨hN5, hN6⟩, hf0N, hf128, g_a1, g_b, Nat.ne_of_lt o_a1_b, Or.inl ⟨rfl, h64⟩⟩, hN4⟩
  · skip
    have lb0 := LF.1.lt; have lfw := LF.2.2.2.2.1.lt
    have LF2 := (LF.keep K12 List.not_mem_nil List.not_mem_nil).other W14 (Ne.symm n1) (Ne.symm n2)
    obtain ⟨T38, X38, e38, st38⟩ := getF X14 hx hZ hown (host := "") (Or.inl (hw _ (List.mem_of_getElem? (i := 19) rfl))) Via.refl e14 Ff_a1_14 (g := (mkF m 25 #[.val (.ref a1), .val (.int p2), .unset] [(.ref a1)])) rfl rfl (hb hby d11_25)
    have pre39 : ∀ t, Steps p.tables e below (T38.setTop (mkF m 28 #[.val (.ref a1), .val (.int p2), .unset] [(.ref b0)])) t → Steps p.tables e below (s₁.setTop (entryFrame m #[(.ref a1), (.int p2)] 3)) t := fun t k => pre16 t (by
      show Steps p.tables e below (T14.setTop (mkF m 25 #[.val (.ref a1), .val (.int p2), .unset] [(.ref a1)])) t
      refine st38 _ ?_
      show Steps p.tables e below (T38.setTop (mkF m 28 #[.val (.ref a1), .val (.int p2), .unset] [(.ref b0)])) t
      exact k)
    have pre40 : ∀ t, Steps p.tables e below (T38.setTop (mkF m 81 #[.val (.ref a1), .val (.int p2), .unset] [])) t → Steps p.tables e below (s₁.setTop (entryFrame m #[(.ref a1), (.int p2)] 3)) t := fun t k => pre39 t (by
      show Steps p.tables e below (T38.setTop (mkF m 28 #[.val (.ref a1), .val (.int p2), .unset] [(.ref b0)])) _
      refine XS.ifnonnullYes X38.here hx rfl (pc0 := 28) (pc' := 81) rfl (hb hby d11_28) rfl (by decide) (by decide) ?_
      show Steps p.tables e below (T38.setTop (mkF m 81 #[.val (.ref a1), .val (.int p2), .unset] [])) _
      exact k)
    obtain ⟨fs, hr, hrun, hended, hW, hsame⟩ := X38.leave (v := none) (fun _ => rfl)
    refine ⟨_, _, pre40 _ ?_, hrun, hended, _, _, rfl, ?_, ⟨_, rfl⟩, hW, hsame.mono (by decide) (by decide)⟩
    · show Steps p.tables e below (T38.setTop (mkF m 81 #[.val (.ref a1), .val (.int p2), .unset] [])) _
      exact X38.returnOut hx Bd.returns (hb hby d11_81) hr
    · show QGT Z a1 p2 w z f sz _ h0 n0 _ T38.heap _
      rw [e38]
      exact ⟨b, _, _, rfl, N14, ⟨E_a1_14, Fw_a1_14, Ff_a1_14, Fs_a1_14, V_b_14, ⟨hN5, hN6⟩, hf0N, hf128, g_a1, g_b, Nat.ne_of_lt o_a1_b, Or.inr ⟨b0, fw, zf, g, s2, rfl, LF2, rel, n1, n2, Nat.ne_of_gt (Nat.lt_of_lt_of_le lb0 s12), Nat.ne_of_gt (Nat.lt_of_lt_of_le lfw s12)⟩⟩, hN4⟩
def QTadd (Z : State) (a1 : Addr) (p2 : Int32) (w : Addr) (z : Int32) (f : Nat → Int64) (sz : Int32) (fl : Value) (h0 : Heap) (n0 : Nat) (v : Option Value) (h : Heap) (L : List Loc) : Prop := ∃ (w' : Addr) (z' s' : Int32) (fl' : Value), v = none ∧ Fr n0 L ∧ own_top Z h n0 a1 w' z' (own_add f p2) s' fl' ∧ s' = (if own_mem f p2 = true then sz else sz + (1 : Int32))
set_option maxRecDepth 65536 in
set_option maxHeartbeats 40000000 in
theorem rmTadd (l : Launch) (Z : State) (a0 : Array Value) (hw : ∀ d ∈ tables_1, d.before a0 Z = true) (ws : List Jvm.Cond) (a1 : Addr) (p2 : Int32) (w : Addr) (z : Int32) (f : Nat → Int64) (sz : Int32) (fl : Value) (h0 : Heap) (n0 : Nat) (Z0 : n0 ≤ h0.size) (TP : own_top Z h0 n0 a1 w z f sz fl) (hp : ¬ p2 < 0 ∧ p2 < 8192) :
    MetFree l (⟨"com/example/berchta/berchta/learn/NodeSet", "add", "(I)V"⟩ : MethodName) (head1 (Jvm.Cond.code (⟨"com/example/berchta/berchta/learn/NodeSet", "add", "(I)V"⟩ : MethodName) prog_101_method_3_code 7 none :: ws) ({ frames := 5, cells := 5, slots := 262, locals := 101 } : Room)) (fun a U => a = #[(.ref a1), (.int p2)] ∧ Z.Warmed39 U.vm ∧ U.heap = h0) (fun _ _ _ _ _ => True) (fun _ U o U' => ∃ v L, o = .returned v ∧ QTadd Z a1 p2 w z f sz fl h0 n0 v U'.heap L ∧ FrameEnd U o U' L ({ frames := 5, cells := 5, slots := 262, locals := 101 } : Room).cells ({ frames := 5, cells := 5, slots := 262, locals := 101 } : Room).slots) := by
  refine MetFree.of_bodySF (plainFor_of_name pn_3) hisR ?_
  intro p e s m args below meth c s₁ Bd hml0 hP hK
  obtain ⟨rfl, hZ, hh⟩ := hP
  have hx := Bd.exec
  have hby := Bd.bytes
  have hml : c.maxLocals = 7 := hml0
  have hown : s.vm.findClass "com/example/berchta/berchta/learn/NodeSet" = some m.cls := findClass_of_methodNamed Bd.named
  have hnm := (name_of_methodNamed Bd.named Bd.method).1
  have X0 : Stand p l e ({ frames := 5, cells := 5, slots := 262, locals := 101 } : Room) s m #[(.ref a1), (.int p2)] below meth c s₁ [] 0 0 := Stand.of_body Bd
  have e0 : s₁.heap = h0 := by rw [← hh, Bd.state]; rfl
  have N0 := Fr.nil n0
  have pre0 : ∀ t, Steps p.tables e below (s₁.setTop (mkF m 0 #[.val (.ref a1), .val (.int p2), .unset, .unset, .unset, .unset, .unset] [])) t → Steps p.tables e below (s₁.setTop (entryFrame m #[(.ref a1), (.int p2)] 7)) t := fun t k => castTop (ef_3 m a1 p2) k
  obtain ⟨E_a1, Fw_a1, Ff_a1, Fs_a1, Vw_w, hz, hf0, hf128, g_a1, g_w, naw, HF⟩ := id TP
  have hwd := own_wd_128 hp
  have pre1 : ∀ t, Steps p.tables e below (s₁.setTop (mkF m 7 #[.val (.ref a1), .val (.int p2), .val (.int (own_wd p2)), .unset, .unset, .unset, .unset] [(.ref a1), (.int (own_wd p2))])) t → Steps p.tables e below (s₁.setTop (entryFrame m #[(.ref a1), (.int p2)] 7)) t := fun t k => pre0 t (by
    show Steps p.tables e below (s₁.setTop (mkF m 0 #[.val (.ref a1), .val (.int p2), .unset, .unset, .unset, .unset, .unset] [])) _
    refine XS.iloadN X0.here hx rfl (hb hby d3_0) rfl ?_
    show Steps p.tables e below (s₁.setTop (mkF m 1 #[.val (.ref a1), .val (.int p2), .unset, .unset, .unset, .unset, .unset] [(.int p2)])) _
    refine XS.bipush X0.here hx rfl (hb hby d3_1) ?_
    show Steps p.tables e below (s₁.setTop (mkF m 3 #[.val (.ref a1), .val (.int p2), .unset, .unset, .unset, .unset, .unset] [(.int (6 : Int32)), (.int p2)])) _
    refine XS.iushr X0.here hx rfl (hb hby d3_3) rfl ?_
    show Steps p.tables e below (s₁.setTop (mkF m 4 #[.val (.ref a1), .val (.int p2), .unset, .unset, .unset, .unset, .unset] [(.int ((p2.toUInt32 >>> ((6 : Int32) &&& 31).toUInt32).toInt32))])) _
    refine XS.istoreN X0.here hx rfl (hb hby d3_4) rfl (l' := #[.val (.ref a1), .val (.int p2), .val (.int (own_wd p2)), .unset, .unset, .unset, .unset]) rfl ?_
    show Steps p.tables e below (s₁.setTop (mkF m 5 #[.val (.ref a1), .val (.int p2), .val (.int (own_wd p2)), .unset, .unset, .unset, .unset] [])) _
    refine XS.iloadN X0.here hx rfl (hb hby d3_5) rfl ?_
    show Steps p.tables e below (s₁.setTop (mkF m 6 #[.val (.ref a1), .val (.int p2), .val (.int (own_wd p2)), .unset, .unset, .unset, .unset] [(.int (own_wd p2))])) _
    refine XS.aloadN X0.here hx rfl (hb hby d3_6) rfl rfl ?_
    show Steps p.tables e below (s₁.setTop (mkF m 7 #[.val (.ref a1), .val (.int p2), .val (.int (own_wd p2)), .unset, .unset, .unset, .unset] [(.ref a1), (.int (own_wd p2))])) _
    exact k)
  obtain ⟨T2, X2, e2, st2⟩ := getF X0 hx hZ hown (host := "") (Or.inl (hw _ (List.mem_of_getElem? (i := 10) rfl))) Via.refl e0 Fw_a1 (g := (mkF m 7 #[.val (.ref a1), .val (.int p2), .val (.int (own_wd p2)), .unset, .unset, .unset, .unset] [(.ref a1), (.int (own_wd p2))])) rfl rfl (hb hby d3_7)
  have pre3 : ∀ t, Steps p.tables e below (T2.setTop (mkF m 10 #[.val (.ref a1), .val (.int p2), .val (.int (own_wd p2)), .unset, .unset, .unset, .unset] [(.ref w), (.int (own_wd p2))])) t → Steps p.tables e below (s₁.setTop (entryFrame m #[(.ref a1), (.int p2)] 7)) t := fun t k => pre1 t (by
    show Steps p.tables e below (s₁.setTop (mkF m 7 #[.val (.ref a1), .val (.int p2), .val (.int (own_wd p2)), .unset, .unset, .unset, .unset] [(.ref a1), (.int (own_wd p2))])) t
    refine st2 _ ?_
    show Steps p.tables e below (T2.setTop (mkF m 10 #[.val (.ref a1), .val (.int p2), .val (.int (own_wd p2)), .unset, .unset, .unset, .unset] [(.ref w), (.int (own_wd p2))])) t
    exact k)
  obtain ⟨cl4, Ar4, Sz4, Nz4⟩ := own_wds_len Vw_w
  have pre5 : ∀ t, Steps p.tables e below (T2.setTop (mkF m 11 #[.val (.ref a1), .val (.int p2), .val (.int (own_wd p2)), .unset, .unset, .unset, .unset] [(.int z), (.int (own_wd p2))])) t → Steps p.tables e below (s₁.setTop (entryFrame m #[(.ref a1), (.int p2)] 7)) t := fun t k => pre3 t (by
    show Steps p.tables e below (T2.setTop (mkF m 10 #[.val (.ref a1), .val (.int p2), .val (.int (own_wd p2)), .unset, .unset, .unset, .unset] [(.ref w), (.int (own_wd p2))])) t
    refine X2.arraylength hx (by rw [e2]; exact Ar4.1) (State.isArrayOf_alike hZ.alike Ar4.2.1) (g := (mkF m 10 #[.val (.ref a1), .val (.int p2), .val (.int (own_wd p2)), .unset, .unset, .unset, .unset] [(.ref w), (.int (own_wd p2))])) rfl rfl (hb hby d3_10) _ ?_
    rw [len_of Sz4 Nz4]
    exact k)
  obtain ⟨T1, h1, w1, z1, fl1, L1, X1, e1, N1, TP1, hlt, preJ⟩ : ∃ (T1 : State) (h1 : Heap) (w1 : Addr) (z1 : Int32) (fl1 : Value) (L1 : List Loc), Stand p l e ({ frames := 5, cells := 5, slots := 262, locals := 101 } : Room) s m #[(.ref a1), (.int p2)] below meth c T1 L1 4 260 ∧ T1.heap = h1 ∧ Fr n0 L1 ∧ own_top Z h1 n0 a1 w1 z1 f sz fl1 ∧ own_wd p2 < z1 ∧ (∀ t, Steps p.tables e below (T1.setTop (mkF m 19 #[.val (.ref a1), .val (.int p2), .val (.int (own_wd p2)), .unset, .unset, .unset, .unset] [])) t → Steps p.tables e below (s₁.setTop (entryFrame m #[(.ref a1), (.int p2)] 7)) t) := by
    by_cases hc : own_wd p2 < z
    · skip
      have pre6 : ∀ t, Steps p.tables e below (T2.setTop (mkF m 19 #[.val (.ref a1), .val (.int p2), .val (.int (own_wd p2)), .unset, .unset, .unset, .unset] [])) t → Steps p.tables e below (s₁.setTop (entryFrame m #[(.ref a1), (.int p2)] 7)) t := fun t k => pre5 t (by
        show Steps p.tables e below (T2.setTop (mkF m 11 #[.val (.ref a1), .val (.int p2), .val (.int (own_wd p2)), .unset, .unset, .unset, .unset] [(.int z), (.int (own_wd p2))])) _
        refine XS.icmpYes X2.here hx rfl (pc0 := 11) (pc' := 19) rfl (hb hby d3_11) rfl (tlt hc).1 (by decide) (by decide) ?_
        show Steps p.tables e below (T2.setTop (mkF m 19 #[.val (.ref a1), .val (.int p2), .val (.int (own_wd p2)), .unset, .unset, .unset, .unset] [])) _
        exact k)
      exact ⟨T2, h0, w, z, fl, _, X2.more (Nat.zero_le _) (Nat.zero_le _), e2, N0, TP, hc, pre6⟩
    · skip
      have pre7 : ∀ t, Steps p.tables e below (T2.setTop (mkF m 16 #[.val (.ref a1), .val (.int p2), .val (.int (own_wd p2)), .unset, .unset, .unset, .unset] [(.int (own_wd p2)), (.ref a1)])) t → Steps p.tables e below (s₁.setTop (entryFrame m #[(.ref a1), (.int p2)] 7)) t := fun t k => pre5 t (by
        show Steps p.tables e below (T2.setTop (mkF m 11 #[.val (.ref a1), .val (.int p2), .val (.int (own_wd p2)), .unset, .unset, .unset, .unset] [(.int z), (.int (own_wd p2))])) _
        refine XS.icmpNo X2.here hx rfl (hb hby d3_11) rfl (flt hc).1 ?_
        show Steps p.tables e below (T2.setTop (mkF m 14 #[.val (.ref a1), .val (.int p2), .val (.int (own_wd p2)), .unset, .unset, .unset, .unset] [])) _
        refine XS.aloadN X2.here hx rfl (hb hby d3_14) rfl rfl ?_
        show Steps p.tables e below (T2.setTop (mkF m 15 #[.val (.ref a1), .val (.int p2), .val (.int (own_wd p2)), .unset, .unset, .unset, .unset] [(.ref a1)])) _
        refine XS.iloadN X2.here hx rfl (hb hby d3_15) rfl ?_
        show Steps p.tables e below (T2.setTop (mkF m 16 #[.val (.ref a1), .val (.int p2), .val (.int (own_wd p2)), .unset, .unset, .unset, .unset] [(.int (own_wd p2)), (.ref a1)])) _
        exact k)
      obtain ⟨cq8, q8, q8'⟩ := E_a1.cell
      obtain ⟨_, _, ⟨T8, L8, k8, n8⟩, -, X8, ⟨Lc8, hQ8, l8, y8, z8⟩, st8⟩ := X2.privateBack hx (y := (⟨"com/example/berchta/berchta/learn/NodeSet", "grow", "(I)V"⟩ : MethodName)) hown (mvT hZ (hw _ (List.mem_of_getElem? (i := 55) rfl))) (mvT hZ (hw _ (List.mem_of_getElem? (i := 56) rfl))) (mvT hZ (own_sel (z := (⟨"com/example/berchta/berchta/learn/NodeSet", "add", "(I)V"⟩ : MethodName)) rfl (hw _ (List.mem_of_getElem? (i := 15) rfl)) (hw _ (List.mem_of_getElem? (i := 56) rfl)) (hw _ (List.mem_of_getElem? (i := 57) rfl)) (by decide))) (Cond.privateMethod_at (mvP hZ (hw _ (List.mem_of_getElem? (i := 57) rfl)) (args := #[]))) (mvT hZ (hw _ (List.mem_of_getElem? (i := 58) rfl))) (by decide) (backOf (W := 0) (rmGT l Z a0 hw [] a1 (own_wd p2) w z f sz fl h0 n0 (Nat.le_trans g_a1 (Nat.le_of_lt E_a1.lt)) TP ⟨hc, hwd⟩) hZ (hw _ (List.mem_of_getElem? (i := 58) rfl)) (hw _ (List.mem_of_getElem? (i := 2) rfl)) (by decide) (by decide)) (g := (mkF m 16 #[.val (.ref a1), .val (.int p2), .val (.int (own_wd p2)), .unset, .unset, .unset, .unset] [(.int (own_wd p2)), (.ref a1)])) rfl (by rw [hml]; rfl) (Steps.refl _) (a := a1) (by rw [e2]; exact q8) q8' (argsL := [(.int (own_wd p2))]) (rest := []) (lenOf pdx_2 rfl) rfl (by show 2 * 0 + _ ≤ _; exact Nat.le_of_eq rfl) (hb hby d3_16) (fun _ _ => ⟨rfl, e2, (by decide : 0 + 4 ≤ _), (by decide : 0 + 260 ≤ _)⟩)
      dsimp only [Pt.U, Pt.locs, Pt.cells, Pt.slots] at X8 l8 y8 z8 st8 hQ8
      subst l8 y8 z8
      obtain ⟨w1, z1, fl1, rfl, N8q, TP1, hlt⟩ := hQ8
      have N8 := Fr.app N0 N8q
      have pre9 : ∀ t, Steps p.tables e below (T8.setTop (mkF m 19 #[.val (.ref a1), .val (.int p2), .val (.int (own_wd p2)), .unset, .unset, .unset, .unset] [])) t → Steps p.tables e below (s₁.setTop (entryFrame m #[(.ref a1), (.int p2)] 7)) t := fun t k => pre7 t (by
        show Steps p.tables e below (T2.setTop (mkF m 16 #[.val (.ref a1), .val (.int p2), .val (.int (own_wd p2)), .unset, .unset, .unset, .unset] [(.int (own_wd p2)), (.ref a1)])) t
        refine st8.trans ?_
        show Steps p.tables e below (T8.setTop (mkF m 19 #[.val (.ref a1), .val (.int p2), .val (.int (own_wd p2)), .unset, .unset, .unset, .unset] [])) t
        exact k)
      exact ⟨T8, _, w1, z1, fl1, _, X8.more (Nat.le_of_ble_eq_true rfl) (Nat.le_of_ble_eq_true rfl), rfl, N8, TP1, hlt, pre9⟩
  obtain ⟨E_b1, Fw_b1, Ff_b1, Fs_b1, Vw_w1, hzb, hf0b, -, -, g_w1, naw1, HFb⟩ := TP1
  have pre10 : ∀ t, Steps p.tables e below (T1.setTop (mkF m 20 #[.val (.ref a1), .val (.int p2), .val (.int (own_wd p2)), .unset, .unset, .unset, .unset] [(.ref a1)])) t → Steps p.tables e below (s₁.setTop (entryFrame m #[(.ref a1), (.int p2)] 7)) t := fun t k => preJ t (by
    show Steps p.tables e below (T1.setTop (mkF m 19 #[.val (.ref a1), .val (.int p2), .val (.int (own_wd p2)), .unset, .unset, .unset, .unset] [])) _
    refine XS.aloadN X1.here hx rfl (hb hby d3_19) rfl rfl ?_
    show Steps p.tables e below (T1.setTop (mkF m 20 #[.val (.ref a1), .val (.int p2), .val (.int (own_wd p2)), .unset, .unset, .unset, .unset] [(.ref a1)])) _
    exact k)
  obtain ⟨T11, X11, e11, st11⟩ := getF X1 hx hZ hown (host := "") (Or.inl (hw _ (List.mem_of_getElem? (i := 10) rfl))) Via.refl e1 Fw_b1 (g := (mkF m 20 #[.val (.ref a1), .val (.int p2), .val (.int (own_wd p2)), .unset, .unset, .unset, .unset] [(.ref a1)])) rfl rfl (hb hby d3_20)
  have pre12 : ∀ t, Steps p.tables e below (T11.setTop (mkF m 23 #[.val (.ref a1), .val (.int p2), .val (.int (own_wd p2)), .unset, .unset, .unset, .unset] [(.ref w1)])) t → Steps p.tables e below (s₁.setTop (entryFrame m #[(.ref a1), (.int p2)] 7)) t := fun t k => pre10 t (by
    show Steps p.tables e below (T1.setTop (mkF m 20 #[.val (.ref a1), .val (.int p2), .val (.int (own_wd p2)), .unset, .unset, .unset, .unset] [(.ref a1)])) t
    refine st11 _ ?_
    show Steps p.tables e below (T11.setTop (mkF m 23 #[.val (.ref a1), .val (.int p2), .val (.int (own_wd p2)), .unset, .unset, .unset, .unset] [(.ref w1)])) t
    exact k)
  have pre13 : ∀ t, Steps p.tables e below (T11.setTop (mkF m 24 #[.val (.ref a1), .val (.int p2), .val (.int (own_wd p2)), .unset, .unset, .unset, .unset] [(.int (own_wd p2)), (.ref w1)])) t → Steps p.tables e below (s₁.setTop (entryFrame m #[(.ref a1), (.int p2)] 7)) t := fun t k => pre12 t (by
    show Steps p.tables e below (T11.setTop (mkF m 23 #[.val (.ref a1), .val (.int p2), .val (.int (own_wd p2)), .unset, .unset, .unset, .unset] [(.ref w1)])) _
    refine XS.iloadN X11.here hx rfl (hb hby d3_23) rfl ?_
    show Steps p.tables e below (T11.setTop (mkF m 24 #[.val (.ref a1), .val (.int p2), .val (.int (own_wd p2)), .unset, .unset, .unset, .unset] [(.int (own_wd p2)), (.ref w1)])) _
    exact k)
  obtain ⟨cl14, Ar14, hin14, hat14⟩ := own_wds_get Vw_w1 ⟨own_wd_pos p2, hlt⟩
  have pre15 : ∀ t, Steps p.tables e below (T11.setTop (mkF m 25 #[.val (.ref a1), .val (.int p2), .val (.int (own_wd p2)), .unset, .unset, .unset, .unset] [(.long (f (own_ix p2)))])) t → Steps p.tables e below (s₁.setTop (entryFrame m #[(.ref a1), (.int p2)] 7)) t := fun t k => pre13 t (by
    show Steps p.tables e below (T11.setTop (mkF m 24 #[.val (.ref a1), .val (.int p2), .val (.int (own_wd p2)), .unset, .unset, .unset, .unset] [(.int (own_wd p2)), (.ref w1)])) t
    refine X11.laload hx (j := (own_wd p2)) (v := (.long (f (own_ix p2)))) (by rw [e11]; exact Ar14.1) (State.isArrayOf_alike hZ.alike Ar14.2.1) Ar14.2.2 hin14 hat14 (g := (mkF m 24 #[.val (.ref a1), .val (.int p2), .val (.int (own_wd p2)), .unset, .unset, .unset, .unset] [(.int (own_wd p2)), (.ref w1)])) rfl rfl (hb hby d3_24) _ ?_
    exact k)
  have pre16 : ∀ t, Steps p.tables e below (T11.setTop (mkF m 37 #[.val (.ref a1), .val (.int p2), .val (.int (own_wd p2)), .val (.long (f (own_ix p2))), .second, .val (.long ((f (own_ix p2)) ||| (own_bo p2))), .second] [(.int (lcmpW ((f (own_ix p2)) ||| (own_bo p2)) (f (own_ix p2))))])) t → Steps p.tables e below (s₁.setTop (entryFrame m #[(.ref a1), (.int p2)] 7)) t := fun t k => pre15 t (by
    show Steps p.tables e below (T11.setTop (mkF m 25 #[.val (.ref a1), .val (.int p2), .val (.int (own_wd p2)), .unset, .unset, .unset, .unset] [(.long (f (own_ix p2)))])) _
    refine XS.lstoreN X11.here hx rfl (hb hby d3_25) rfl (l' := #[.val (.ref a1), .val (.int p2), .val (.int (own_wd p2)), .val (.long (f (own_ix p2))), .second, .unset, .unset]) rfl ?_
    show Steps p.tables e below (T11.setTop (mkF m 26 #[.val (.ref a1), .val (.int p2), .val (.int (own_wd p2)), .val (.long (f (own_ix p2))), .second, .unset, .unset] [])) _
    refine XS.lloadN X11.here hx rfl (hb hby d3_26) rfl ?_
    show Steps p.tables e below (T11.setTop (mkF m 27 #[.val (.ref a1), .val (.int p2), .val (.int (own_wd p2)), .val (.long (f (own_ix p2))), .second, .unset, .unset] [(.long (f (own_ix p2)))])) _
    refine XS.lconst X11.here hx rfl (hb hby d3_27) ?_
    show Steps p.tables e below (T11.setTop (mkF m 28 #[.val (.ref a1), .val (.int p2), .val (.int (own_wd p2)), .val (.long (f (own_ix p2))), .second, .unset, .unset] [(.long (1 : Int64)), (.long (f (own_ix p2)))])) _
    refine XS.iloadN X11.here hx rfl (hb hby d3_28) rfl ?_
    show Steps p.tables e below (T11.setTop (mkF m 29 #[.val (.ref a1), .val (.int p2), .val (.int (own_wd p2)), .val (.long (f (own_ix p2))), .second, .unset, .unset] [(.int p2), (.long (1 : Int64)), (.long (f (own_ix p2)))])) _
    refine XS.lshl X11.here hx rfl (hb hby d3_29) rfl ?_
    show Steps p.tables e below (T11.setTop (mkF m 30 #[.val (.ref a1), .val (.int p2), .val (.int (own_wd p2)), .val (.long (f (own_ix p2))), .second, .unset, .unset] [(.long (own_bo p2)), (.long (f (own_ix p2)))])) _
    refine XS.lor X11.here hx rfl (hb hby d3_30) rfl ?_
    show Steps p.tables e below (T11.setTop (mkF m 31 #[.val (.ref a1), .val (.int p2), .val (.int (own_wd p2)), .val (.long (f (own_ix p2))), .second, .unset, .unset] [(.long ((f (own_ix p2)) ||| (own_bo p2)))])) _
    refine XS.lstore X11.here hx rfl (hb hby d3_31) rfl (l' := #[.val (.ref a1), .val (.int p2), .val (.int (own_wd p2)), .val (.long (f (own_ix p2))), .second, .val (.long ((f (own_ix p2)) ||| (own_bo p2))), .second]) rfl ?_
    show Steps p.tables e below (T11.setTop (mkF m 33 #[.val (.ref a1), .val (.int p2), .val (.int (own_wd p2)), .val (.long (f (own_ix p2))), .second, .val (.long ((f (own_ix p2)) ||| (own_bo p2))), .second] [])) _
    refine XS.lload X11.here hx rfl (hb hby d3_33) rfl ?_
    show Steps p.tables e below (T11.setTop (mkF m 35 #[.val (.ref a1), .val (.int p2), .val (.int (own_wd p2)), .val (.long (f (own_ix p2))), .second, .val (.long ((f (own_ix p2)) ||| (own_bo p2))), .second] [(.long ((f (own_ix p2)) ||| (own_bo p2)))])) _
    refine XS.lloadN X11.here hx rfl (hb hby d3_35) rfl ?_
    show Steps p.tables e below (T11.setTop (mkF m 36 #[.val (.ref a1), .val (.int p2), .val (.int (own_wd p2)), .val (.long (f (own_ix p2))), .second, .val (.long ((f (own_ix p2)) ||| (own_bo p2))), .second] [(.long (f (own_ix p2))), (.long ((f (own_ix p2)) ||| (own_bo p2)))])) _
    refine XS.lcmp X11.here hx rfl (hb hby d3_36) rfl ?_
    show Steps p.tables e below (T11.setTop (mkF m 37 #[.val (.ref a1), .val (.int p2), .val (.int (own_wd p2)), .val (.long (f (own_ix p2))), .second, .val (.long ((f (own_ix p2)) ||| (own_bo p2))), .second] [(.int (lcmpW ((f (own_ix p2)) ||| (own_bo p2)) (f (own_ix p2))))])) _
    exact k)
  by_cases hbit : own_bt (f (own_ix p2)) (own_lo p2) = true
  · skip
    have pre17 : ∀ t, Steps p.tables e below (T11.setTop (mkF m 40 #[.val (.ref a1), .val (.int p2), .val (.int (own_wd p2)), .val (.long (f (own_ix p2))), .second, .val (.long ((f (own_ix p2)) ||| (own_bo p2))), .second] [])) t → Steps p.tables e below (s₁.setTop (entryFrame m #[(.ref a1), (.int p2)] 7)) t := fun t k => pre16 t (by
      show Steps p.tables e below (T11.setTop (mkF m 37 #[.val (.ref a1), .val (.int p2), .val (.int (own_wd p2)), .val (.long (f (own_ix p2))), .second, .val (.long ((f (own_ix p2)) ||| (own_bo p2))), .second] [(.int (lcmpW ((f (own_ix p2)) ||| (own_bo p2)) (f (own_ix p2))))])) _
      refine XS.ifNo X11.here hx rfl (hb hby d3_37) rfl ((if0 _ _).trans (teq ((lw_eq _ _).mpr ((own_or_same _ _).mpr hbit))).2) ?_
      show Steps p.tables e below (T11.setTop (mkF m 40 #[.val (.ref a1), .val (.int p2), .val (.int (own_wd p2)), .val (.long (f (own_ix p2))), .second, .val (.long ((f (own_ix p2)) ||| (own_bo p2))), .second] [])) _
      exact k)
    obtain ⟨fs, hr, hrun, hended, hW, hsame⟩ := X11.leave (v := none) (fun _ => rfl)
    refine ⟨_, _, pre17 _ ?_, hrun, hended, _, _, rfl, ?_, ⟨_, rfl⟩, hW, hsame.mono (by decide) (by decide)⟩
    · show Steps p.tables e below (T11.setTop (mkF m 40 #[.val (.ref a1), .val (.int p2), .val (.int (own_wd p2)), .val (.long (f (own_ix p2))), .second, .val (.long ((f (own_ix p2)) ||| (own_bo p2))), .second] [])) _
      exact X11.returnOut hx Bd.returns (hb hby d3_40) hr
    · show QTadd Z a1 p2 w z f sz _ h0 n0 _ T11.heap _
      rw [e11]
      exact ⟨w1, z1, sz, fl1, rfl, N1, by rw [own_add_id hbit]; exact ⟨E_b1, Fw_b1, Ff_b1, Fs_b1, Vw_w1, hzb, hf0b, hf128, g_a1, g_w1, naw1, HFb⟩, (if_pos hbit).symm⟩
  · skip
    have pre18 : ∀ t, Steps p.tables e below (T11.setTop (mkF m 42 #[.val (.ref a1), .val (.int p2), .val (.int (own_wd p2)), .val (.long (f (own_ix p2))), .second, .val (.long ((f (own_ix p2)) ||| (own_bo p2))), .second] [(.ref a1)])) t → Steps p.tables e below (s₁.setTop (entryFrame m #[(.ref a1), (.int p2)] 7)) t := fun t k => pre16 t (by
      show Steps p.tables e below (T11.setTop (mkF m 37 #[.val (.ref a1), .val (.int p2), .val (.int (own_wd p2)), .val (.long (f (own_ix p2))), .second, .val (.long ((f (own_ix p2)) ||| (own_bo p2))), .second] [(.int (lcmpW ((f (own_ix p2)) ||| (own_bo p2)) (f (own_ix p2))))])) _
      refine XS.ifYes X11.here hx rfl (pc0 := 37) (pc' := 41) rfl (hb hby d3_37) rfl ((if0 _ _).trans (feq (fun q => hbit ((own_or_same _ _).mp ((lw_eq _ _).mp q)))).2) (by decide) (by decide) ?_
      show Steps p.tables e below (T11.setTop (mkF m 41 #[.val (.ref a1), .val (.int p2), .val (.int (own_wd p2)), .val (.long (f (own_ix p2))), .second, .val (.long ((f (own_ix p2)) ||| (own_bo p2))), .second] [])) _
      refine XS.aloadN X11.here hx rfl (hb hby d3_41) rfl rfl ?_
      show Steps p.tables e below (T11.setTop (mkF m 42 #[.val (.ref a1), .val (.int p2), .val (.int (own_wd p2)), .val (.long (f (own_ix p2))), .second, .val (.long ((f (own_ix p2)) ||| (own_bo p2))), .second] [(.ref a1)])) _
      exact k)
    obtain ⟨T19, X19, e19, st19⟩ := getF X11 hx hZ hown (host := "") (Or.inl (hw _ (List.mem_of_getElem? (i := 10) rfl))) Via.refl e11 Fw_b1 (g := (mkF m 42 #[.val (.ref a1), .val (.int p2), .val (.int (own_wd p2)), .val (.long (f (own_ix p2))), .second, .val (.long ((f (own_ix p2)) ||| (own_bo p2))), .second] [(.ref a1)])) rfl rfl (hb hby d3_42)
    have pre20 : ∀ t, Steps p.tables e below (T19.setTop (mkF m 45 #[.val (.ref a1), .val (.int p2), .val (.int (own_wd p2)), .val (.long (f (own_ix p2))), .second, .val (.long ((f (own_ix p2)) ||| (own_bo p2))), .second] [(.ref w1)])) t → Steps p.tables e below (s₁.setTop (entryFrame m #[(.ref a1), (.int p2)] 7)) t := fun t k => pre18 t (by
      show Steps p.tables e below (T11.setTop (mkF m 42 #[.val (.ref a1), .val (.int p2), .val (.int (own_wd p2)), .val (.long (f (own_ix p2))), .second, .val (.long ((f (own_ix p2)) ||| (own_bo p2))), .second] [(.ref a1)])) t
      refine st19 _ ?_
      show Steps p.tables e below (T19.setTop (mkF m 45 #[.val (.ref a1), .val (.int p2), .val (.int (own_wd p2)), .val (.long (f (own_ix p2))), .second, .val (.long ((f (own_ix p2)) ||| (own_bo p2))), .second] [(.ref w1)])) t
      exact k)
    have pre21 : ∀ t, Steps p.tables e below (T19.setTop (mkF m 48 #[.val (.ref a1), .val (.int p2), .val (.int (own_wd p2)), .val (.long (f (own_ix p2))), .second, .val (.long ((f (own_ix p2)) ||| (own_bo p2))), .second] [(.long ((f (own_ix p2)) ||| (own_bo p2))), (.int (own_wd p2)), (.ref w1)])) t → Steps p.tables e below (s₁.setTop (entryFrame m #[(.ref a1), (.int p2)] 7)) t := fun t k => pre20 t (by
      show Steps p.tables e below (T19.setTop (mkF m 45 #[.val (.ref a1), .val (.int p2), .val (.int (own_wd p2)), .val (.long (f (own_ix p2))), .second, .val (.long ((f (own_ix p2)) ||| (own_bo p2))), .second] [(.ref w1)])) _
      refine XS.iloadN X19.here hx rfl (hb hby d3_45) rfl ?_
      show Steps p.tables e below (T19.setTop (mkF m 46 #[.val (.ref a1), .val (.int p2), .val (.int (own_wd p2)), .val (.long (f (own_ix p2))), .second, .val (.long ((f (own_ix p2)) ||| (own_bo p2))), .second] [(.int (own_wd p2)), (.ref w1)])) _
      refine XS.lload X19.here hx rfl (hb hby d3_46) rfl ?_
      show Steps p.tables e below (T19.setTop (mkF m 48 #[.val (.ref a1), .val (.int p2), .val (.int (own_wd p2)), .val (.long (f (own_ix p2))), .second, .val (.long ((f (own_ix p2)) ||| (own_bo p2))), .second] [(.long ((f (own_ix p2)) ||| (own_bo p2))), (.int (own_wd p2)), (.ref w1)])) _
      exact k)
    obtain ⟨cl22, Ar22, hin22, hat22⟩ := own_wds_get Vw_w1 ⟨own_wd_pos p2, hlt⟩
    obtain ⟨T22, h22, X22, e22, W22, st22⟩ := stJ X19 hx hZ e19 Ar22 (j := (own_wd p2)) hin22 (g := (mkF m 48 #[.val (.ref a1), .val (.int p2), .val (.int (own_wd p2)), .val (.long (f (own_ix p2))), .second, .val (.long ((f (own_ix p2)) ||| (own_bo p2))), .second] [(.long ((f (own_ix p2)) ||| (own_bo p2))), (.int (own_wd p2)), (.ref w1)])) rfl rfl (hb hby d3_48)
    have E_b1_22 := E_b1.wr W22
    have Fw_b1_22 := Fw_b1.other W22 (Or.inl naw1)
    have Ff_b1_22 := Ff_b1.other W22 (Or.inl naw1)
    have Fs_b1_22 := Fs_b1.other W22 (Or.inl naw1)
    have HFb_22 := HFb.wr W22 (Or.inr rfl)
    have Vw_w1_22 := own_wds_set Vw_w1 W22
    have N22 := Fr.snoc X22 N1 g_w1
    have pre23 : ∀ t, Steps p.tables e below (T22.setTop (mkF m 49 #[.val (.ref a1), .val (.int p2), .val (.int (own_wd p2)), .val (.long (f (own_ix p2))), .second, .val (.long ((f (own_ix p2)) ||| (own_bo p2))), .second] [])) t → Steps p.tables e below (s₁.setTop (entryFrame m #[(.ref a1), (.int p2)] 7)) t := fun t k => pre21 t (by
      show Steps p.tables e below (T19.setTop (mkF m 48 #[.val (.ref a1), .val (.int p2), .val (.int (own_wd p2)), .val (.long (f (own_ix p2))), .second, .val (.long ((f (own_ix p2)) ||| (own_bo p2))), .second] [(.long ((f (own_ix p2)) ||| (own_bo p2))), (.int (own_wd p2)), (.ref w1)])) t
      refine st22 _ ?_
      show Steps p.tables e below (T22.setTop (mkF m 49 #[.val (.ref a1), .val (.int p2), .val (.int (own_wd p2)), .val (.long (f (own_ix p2))), .second, .val (.long ((f (own_ix p2)) ||| (own_bo p2))), .second] [])) t
      exact k)
    have pre24 : ∀ t, Steps p.tables e below (T22.setTop (mkF m 51 #[.val (.ref a1), .val (.int p2), .val (.int (own_wd p2)), .val (.long (f (own_ix p2))), .second, .val (.long ((f (own_ix p2)) ||| (own_bo p2))), .second] [(.ref a1), (.ref a1)])) t → Steps p.tables e below (s₁.setTop (entryFrame m #[(.ref a1), (.int p2)] 7)) t := fun t k => pre23 t (by
      show Steps p.tables e below (T22.setTop (mkF m 49 #[.val (.ref a1), .val (.int p2), .val (.int (own_wd p2)), .val (.long (f (own_ix p2))), .second, .val (.long ((f (own_ix p2)) ||| (own_bo p2))), .second] [])) _
      refine XS.aloadN X22.here hx rfl (hb hby d3_49) rfl rfl ?_
      show Steps p.tables e below (T22.setTop (mkF m 50 #[.val (.ref a1), .val (.int p2), .val (.int (own_wd p2)), .val (.long (f (own_ix p2))), .second, .val (.long ((f (own_ix p2)) ||| (own_bo p2))), .second] [(.ref a1)])) _
      refine XS.dup X22.here hx rfl (hb hby d3_50) rfl rfl ?_
      show Steps p.tables e below (T22.setTop (mkF m 51 #[.val (.ref a1), .val (.int p2), .val (.int (own_wd p2)), .val (.long (f (own_ix p2))), .second, .val (.long ((f (own_ix p2)) ||| (own_bo p2))), .second] [(.ref a1), (.ref a1)])) _
      exact k)
    obtain ⟨T25, X25, e25, st25⟩ := getF X22 hx hZ hown (host := "") (Or.inl (hw _ (List.mem_of_getElem? (i := 17) rfl))) Via.refl e22 Fs_b1_22 (g := (mkF m 51 #[.val (.ref a1), .val (.int p2), .val (.int (own_wd p2)), .val (.long (f (own_ix p2))), .second, .val (.long ((f (own_ix p2)) ||| (own_bo p2))), .second] [(.ref a1), (.ref a1)])) rfl rfl (hb hby d3_51)
    have pre26 : ∀ t, Steps p.tables e below (T25.setTop (mkF m 54 #[.val (.ref a1), .val (.int p2), .val (.int (own_wd p2)), .val (.long (f (own_ix p2))), .second, .val (.long ((f (own_ix p2)) ||| (own_bo p2))), .second] [(.int sz), (.ref a1)])) t → Steps p.tables e below (s₁.setTop (entryFrame m #[(.ref a1), (.int p2)] 7)) t := fun t k => pre24 t (by
      show Steps p.tables e below (T22.setTop (mkF m 51 #[.val (.ref a1), .val (.int p2), .val (.int (own_wd p2)), .val (.long (f (own_ix p2))), .second, .val (.long ((f (own_ix p2)) ||| (own_bo p2))), .second] [(.ref a1), (.ref a1)])) t
      refine st25 _ ?_
      show Steps p.tables e below (T25.setTop (mkF m 54 #[.val (.ref a1), .val (.int p2), .val (.int (own_wd p2)), .val (.long (f (own_ix p2))), .second, .val (.long ((f (own_ix p2)) ||| (own_bo p2))), .second] [(.int sz), (.ref a1)])) t
      exact k)
    have pre27 : ∀ t, Steps p.tables e below (T25.setTop (mkF m 56 #[.val (.ref a1), .val (.int p2), .val (.int (own_wd p2)), .val (.long (f (own_ix p2))), .second, .val (.long ((f (own_ix p2)) ||| (own_bo p2))), .second] [(.int (sz + (1 : Int32))), (.ref a1)])) t → Steps p.tables e below (s₁.setTop (entryFrame m #[(.ref a1), (.int p2)] 7)) t := fun t k => pre26 t (by
      show Steps p.tables e below (T25.setTop (mkF m 54 #[.val (.ref a1), .val (.int p2), .val (.int (own_wd p2)), .val (.long (f (own_ix p2))), .second, .val (.long ((f (own_ix p2)) ||| (own_bo p2))), .second] [(.int sz), (.ref a1)])) _
      refine XS.iconst X25.here hx rfl (hb hby d3_54) ?_
      show Steps p.tables e below (T25.setTop (mkF m 55 #[.val (.ref a1), .val (.int p2), .val (.int (own_wd p2)), .val (.long (f (own_ix p2))), .second, .val (.long ((f (own_ix p2)) ||| (own_bo p2))), .second] [(.int (1 : Int32)), (.int sz), (.ref a1)])) _
      refine XS.iadd X25.here hx rfl (hb hby d3_55) rfl ?_
      show Steps p.tables e below (T25.setTop (mkF m 56 #[.val (.ref a1), .val (.int p2), .val (.int (own_wd p2)), .val (.long (f (own_ix p2))), .second, .val (.long ((f (own_ix p2)) ||| (own_bo p2))), .second] [(.int (sz + (1 : Int32))), (.ref a1)])) _
      exact k)
    obtain ⟨T28, h28, X28, e28, W28, st28⟩ := putF X25 hx hZ hown (host := "") (Or.inl (hw _ (List.mem_of_getElem? (i := 17) rfl))) Via.refl e25 Fs_b1_22 E_b1_22 (Or.inl (hw _ (List.mem_of_getElem? (i := 18) rfl))) (hw _ (List.mem_of_getElem? (i := 1) rfl)) (ty := .int) (by decide) rfl rfl (g := (mkF m 56 #[.val (.ref a1), .val (.int p2), .val (.int (own_wd p2)), .val (.long (f (own_ix p2))), .second, .val (.long ((f (own_ix p2)) ||| (own_bo p2))), .second] [(.int (sz + (1 : Int32))), (.ref a1)])) rfl rfl (hb hby d3_56)
    have E_b1_28 := E_b1_22.wr W28
    have Fw_b1_28 := Fw_b1_22.other W28 (Or.inr (slot_ne (Or.inl (hw _ (List.mem_of_getElem? (i := 11) rfl))) (Or.inl (hw _ (List.mem_of_getElem? (i := 18) rfl))) (by decide) (t := (.array .long)) (t' := .int) (by decide) (by decide)))
    have Ff_b1_28 := Ff_b1_22.other W28 (Or.inr (slot_ne (Or.inl (hw _ (List.mem_of_getElem? (i := 20) rfl))) (Or.inl (hw _ (List.mem_of_getElem? (i := 18) rfl))) (by decide) (t := (.object "com/example/berchta/berchta/learn/NodeSet")) (t' := .int) (by decide) (by decide)))
    have Vw_w1_28 := Vw_w1_22.other W28 (Ne.symm naw1)
    have HFb_28 := HFb_22.wr W28 (Or.inl rfl)
    have Fs_b1_28 := Fs_b1_22.same W28
    have N28 := Fr.snoc X28 N22 g_a1
    have pre29 : ∀ t, Steps p.tables e below (T28.setTop (mkF m 59 #[.val (.ref a1), .val (.int p2), .val (.int (own_wd p2)), .val (.long (f (own_ix p2))), .second, .val (.long ((f (own_ix p2)) ||| (own_bo p2))), .second] [])) t → Steps p.tables e below (s₁.setTop (entryFrame m #[(.ref a1), (.int p2)] 7)) t := fun t k => pre27 t (by
      show Steps p.tables e below (T25.setTop (mkF m 56 #[.val (.ref a1), .val (.int p2), .val (.int (own_wd p2)), .val (.long (f (own_ix p2))), .second, .val (.long ((f (own_ix p2)) ||| (own_bo p2))), .second] [(.int (sz + (1 : Int32))), (.ref a1)])) t
      refine st28 _ ?_
      show Steps p.tables e below (T28.setTop (mkF m 59 #[.val (.ref a1), .val (.int p2), .val (.int (own_wd p2)), .val (.long (f (own_ix p2))), .second, .val (.long ((f (own_ix p2)) ||| (own_bo p2))), .second] [])) t
      exact k)
    have pre30 : ∀ t, Steps p.tables e below (T28.setTop (mkF m 62 #[.val (.ref a1), .val (.int p2), .val (.int (own_wd p2)), .val (.long (f (own_ix p2))), .second, .val (.long ((f (own_ix p2)) ||| (own_bo p2))), .second] [(.int (lcmpW (f (own_ix p2)) (0 : Int64)))])) t → Steps p.tables e below (s₁.setTop (entryFrame m #[(.ref a1), (.int p2)] 7)) t := fun t k => pre29 t (by
      show Steps p.tables e below (T28.setTop (mkF m 59 #[.val (.ref a1), .val (.int p2), .val (.int (own_wd p2)), .val (.long (f (own_ix p2))), .second, .val (.long ((f (own_ix p2)) ||| (own_bo p2))), .second] [])) _
      refine XS.lloadN X28.here hx rfl (hb hby d3_59) rfl ?_
      show Steps p.tables e below (T28.setTop (mkF m 60 #[.val (.ref a1), .val (.int p2), .val (.int (own_wd p2)), .val (.long (f (own_ix p2))), .second, .val (.long ((f (own_ix p2)) ||| (own_bo p2))), .second] [(.long (f (own_ix p2)))])) _
      refine XS.lconst X28.here hx rfl (hb hby d3_60) ?_
      show Steps p.tables e below (T28.setTop (mkF m 61 #[.val (.ref a1), .val (.int p2), .val (.int (own_wd p2)), .val (.long (f (own_ix p2))), .second, .val (.long ((f (own_ix p2)) ||| (own_bo p2))), .second] [(.long (0 : Int64)), (.long (f (own_ix p2)))])) _
      refine XS.lcmp X28.here hx rfl (hb hby d3_61) rfl ?_
      show Steps p.tables e below (T28.setTop (mkF m 62 #[.val (.ref a1), .val (.int p2), .val (.int (own_wd p2)), .val (.long (f (own_ix p2))), .second, .val (.long ((f (own_ix p2)) ||| (own_bo p2))), .second] [(.int (lcmpW (f (own_ix p2)) (0 : Int64)))])) _
      exact k)
    by_cases hz0 : (f (own_ix p2)) = 0
    · skip
      have pre31 : ∀ t, Steps p.tables e below (T28.setTop (mkF m 66 #[.val (.ref a1), .val (.int p2), .val (.int (own_wd p2)), .val (.long (f (own_ix p2))), .second, .val (.long ((f (own_ix p2)) ||| (own_bo p2))), .second] [(.ref a1)])) t → Steps p.tables e below (s₁.setTop (entryFrame m #[(.ref a1), (.int p2)] 7)) t := fun t k => pre30 t (by
        show Steps p.tables e below (T28.setTop (mkF m 62 #[.val (.ref a1), .val (.int p2), .val (.int (own_wd p2)), .val (.long (f (own_ix p2))), .second, .val (.long ((f (own_ix p2)) ||| (own_bo p2))), .second] [(.int (lcmpW (f (own_ix p2)) (0 : Int64)))])) _
        refine XS.ifNo X28.here hx rfl (hb hby d3_62) rfl ((if0 _ _).trans (teq ((lw_eq _ _).mpr hz0)).2) ?_
        show Steps p.tables e below (T28.setTop (mkF m 65 #[.val (.ref a1), .val (.int p2), .val (.int (own_wd p2)), .val (.long (f (own_ix p2))), .second, .val (.long ((f (own_ix p2)) ||| (own_bo p2))), .second] [])) _
        refine XS.aloadN X28.here hx rfl (hb hby d3_65) rfl rfl ?_
        show Steps p.tables e below (T28.setTop (mkF m 66 #[.val (.ref a1), .val (.int p2), .val (.int (own_wd p2)), .val (.long (f (own_ix p2))), .second, .val (.long ((f (own_ix p2)) ||| (own_bo p2))), .second] [(.ref a1)])) _
        exact k)
      rcases HFb_28 with ⟨rfl, h64⟩ | ⟨b, fw, zf, gg, s2, rfl, LF, rel, n1, n2, n3, n4⟩
      · skip
        obtain ⟨T32, X32, e32, st32⟩ := getF X28 hx hZ hown (host := "") (Or.inl (hw _ (List.mem_of_getElem? (i := 19) rfl))) Via.refl e28 Ff_b1_28 (g := (mkF m 66 #[.val (.ref a1), .val (.int p2), .val (.int (own_wd p2)), .val (.long (f (own_ix p2))), .second, .val (.long ((f (own_ix p2)) ||| (own_bo p2))), .second] [(.ref a1)])) rfl rfl (hb hby d3_66)
        have pre33 : ∀ t, Steps p.tables e below (T32.setTop (mkF m 69 #[.val (.ref a1), .val (.int p2), .val (.int (own_wd p2)), .val (.long (f (own_ix p2))), .second, .val (.long ((f (own_ix p2)) ||| (own_bo p2))), .second] [.null])) t → Steps p.tables e below (s₁.setTop (entryFrame m #[(.ref a1), (.int p2)] 7)) t := fun t k => pre31 t (by
          show Steps p.tables e below (T28.setTop (mkF m 66 #[.val (.ref a1), .val (.int p2), .val (.int (own_wd p2)), .val (.long (f (own_ix p2))), .second, .val (.long ((f (own_ix p2)) ||| (own_bo p2))), .second] [(.ref a1)])) t
          refine st32 _ ?_
          show Steps p.tables e below (T32.setTop (mkF m 69 #[.val (.ref a1), .val (.int p2), .val (.int (own_wd p2)), .val (.long (f (own_ix p2))), .second, .val (.long ((f (own_ix p2)) ||| (own_bo p2))), .second] [.null])) t
          exact k)
        have pre34 : ∀ t, Steps p.tables e below (T32.setTop (mkF m 80 #[.val (.ref a1), .val (.int p2), .val (.int (own_wd p2)), .val (.long (f (own_ix p2))), .second, .val (.long ((f (own_ix p2)) ||| (own_bo p2))), .second] [])) t → Steps p.tables e below (s₁.setTop (entryFrame m #[(.ref a1), (.int p2)] 7)) t := fun t k => pre33 t (by
          show Steps p.tables e below (T32.setTop (mkF m 69 #[.val (.ref a1), .val (.int p2), .val (.int (own_wd p2)), .val (.long (f (own_ix p2))), .second, .val (.long ((f (own_ix p2)) ||| (own_bo p2))), .second] [.null])) _
          refine XS.ifnullYes X32.here hx rfl (pc0 := 69) (pc' := 80) rfl (hb hby d3_69) rfl (by decide) (by decide) ?_
          show Steps p.tables e below (T32.setTop (mkF m 80 #[.val (.ref a1), .val (.int p2), .val (.int (own_wd p2)), .val (.long (f (own_ix p2))), .second, .val (.long ((f (own_ix p2)) ||| (own_bo p2))), .second] [])) _
          exact k)
        obtain ⟨fs, hr, hrun, hended, hW, hsame⟩ := X32.leave (v := none) (fun _ => rfl)
        refine ⟨_, _, pre34 _ ?_, hrun, hended, _, _, rfl, ?_, ⟨_, rfl⟩, hW, hsame.mono (by decide) (by decide)⟩
        · show Steps p.tables e below (T32.setTop (mkF m 80 #[.val (.ref a1), .val (.int p2), .val (.int (own_wd p2)), .val (.long (f (own_ix p2))), .second, .val (.long ((f (own_ix p2)) ||| (own_bo p2))), .second] [])) _
          exact X32.returnOut hx Bd.returns (hb hby d3_80) hr
        · show QTadd Z a1 p2 w z f sz _ h0 n0 _ T32.heap _
          rw [e32]
          exact ⟨w1, z1, _, _, rfl, N28, ⟨E_b1_28, Fw_b1_28, Ff_b1_28, Fs_b1_28, Vw_w1_28, hzb, own_add_out hf0b hlt, own_add_out (z := 128) hf128 hwd, g_a1, g_w1, naw1, Or.inl ⟨rfl, h64⟩⟩, (if_neg hbit).symm⟩
      · skip
        obtain ⟨T35, X35, e35, st35⟩ := getF X28 hx hZ hown (host := "") (Or.inl (hw _ (List.mem_of_getElem? (i := 19) rfl))) Via.refl e28 Ff_b1_28 (g := (mkF m 66 #[.val (.ref a1), .val (.int p2), .val (.int (own_wd p2)), .val (.long (f (own_ix p2))), .second, .val (.long ((f (own_ix p2)) ||| (own_bo p2))), .second] [(.ref a1)])) rfl rfl (hb hby d3_66)
        have pre36 : ∀ t, Steps p.tables e below (T35.setTop (mkF m 69 #[.val (.ref a1), .val (.int p2), .val (.int (own_wd p2)), .val (.long (f (own_ix p2))), .second, .val (.long ((f (own_ix p2)) ||| (own_bo p2))), .second] [(.ref b)])) t → Steps p.tables e below (s₁.setTop (entryFrame m #[(.ref a1), (.int p2)] 7)) t := fun t k => pre31 t (by
          show Steps p.tables e below (T28.setTop (mkF m 66 #[.val (.ref a1), .val (.int p2), .val (.int (own_wd p2)), .val (.long (f (own_ix p2))), .second, .val (.long ((f (own_ix p2)) ||| (own_bo p2))), .second] [(.ref a1)])) t
          refine st35 _ ?_
          show Steps p.tables e below (T35.setTop (mkF m 69 #[.val (.ref a1), .val (.int p2), .val (.int (own_wd p2)), .val (.long (f (own_ix p2))), .second, .val (.long ((f (own_ix p2)) ||| (own_bo p2))), .second] [(.ref b)])) t
          exact k)
        have pre37 : ∀ t, Steps p.tables e below (T35.setTop (mkF m 73 #[.val (.ref a1), .val (.int p2), .val (.int (own_wd p2)), .val (.long (f (own_ix p2))), .second, .val (.long ((f (own_ix p2)) ||| (own_bo p2))), .second] [(.ref a1)])) t → Steps p.tables e below (s₁.setTop (entryFrame m #[(.ref a1), (.int p2)] 7)) t := fun t k => pre36 t (by
          show Steps p.tables e below (T35.setTop (mkF m 69 #[.val (.ref a1), .val (.int p2), .val (.int (own_wd p2)), .val (.long (f (own_ix p2))), .second, .val (.long ((f (own_ix p2)) ||| (own_bo p2))), .second] [(.ref b)])) _
          refine XS.ifnullNo X35.here hx rfl (hb hby d3_69) rfl ?_
          show Steps p.tables e below (T35.setTop (mkF m 72 #[.val (.ref a1), .val (.int p2), .val (.int (own_wd p2)), .val (.long (f (own_ix p2))), .second, .val (.long ((f (own_ix p2)) ||| (own_bo p2))), .second] [])) _
          refine XS.aloadN X35.here hx rfl (hb hby d3_72) rfl rfl ?_
          show Steps p.tables e below (T35.setTop (mkF m 73 #[.val (.ref a1), .val (.int p2), .val (.int (own_wd p2)), .val (.long (f (own_ix p2))), .second, .val (.long ((f (own_ix p2)) ||| (own_bo p2))), .second] [(.ref a1)])) _
          exact k)
        obtain ⟨T38, X38, e38, st38⟩ := getF X35 hx hZ hown (host := "") (Or.inl (hw _ (List.mem_of_getElem? (i := 19) rfl))) Via.refl e35 Ff_b1_28 (g := (mkF m 73 #[.val (.ref a1), .val (.int p2), .val (.int (own_wd p2)), .val (.long (f (own_ix p2))), .second, .val (.long ((f (own_ix p2)) ||| (own_bo p2))), .second] [(.ref a1)])) rfl rfl (hb hby d3_73)
        have pre39 : ∀ t, Steps p.tables e below (T38.setTop (mkF m 76 #[.val (.ref a1), .val (.int p2), .val (.int (own_wd p2)), .val (.long (f (own_ix p2))), .second, .val (.long ((f (own_ix p2)) ||| (own_bo p2))), .second] [(.ref b)])) t → Steps p.tables e below (s₁.setTop (entryFrame m #[(.ref a1), (.int p2)] 7)) t := fun t k => pre37 t (by
          show Steps p.tables e below (T35.setTop (mkF m 73 #[.val (.ref a1), .val (.int p2), .val (.int (own_wd p2)), .val (.long (f (own_ix p2))), .second, .val (.long ((f (own_ix p2)) ||| (own_bo p2))), .second] [(.ref a1)])) t
          refine st38 _ ?_
          show Steps p.tables e below (T38.setTop (mkF m 76 #[.val (.ref a1), .val (.int p2), .val (.int (own_wd p2)), .val (.long (f (own_ix p2))), .second, .val (.long ((f (own_ix p2)) ||| (own_bo p2))), .second] [(.ref b)])) t
          exact k)
        have pre40 : ∀ t, Steps p.tables e below (T38.setTop (mkF m 77 #[.val (.ref a1), .val (.int p2), .val (.int (own_wd p2)), .val (.long (f (own_ix p2))), .second, .val (.long ((f (own_ix p2)) ||| (own_bo p2))), .second] [(.int (own_wd p2)), (.ref b)])) t → Steps p.tables e below (s₁.setTop (entryFrame m #[(.ref a1), (.int p2)] 7)) t := fun t k => pre39 t (by
          show Steps p.tables e below (T38.setTop (mkF m 76 #[.val (.ref a1), .val (.int p2), .val (.int (own_wd p2)), .val (.long (f (own_ix p2))), .second, .val (.long ((f (own_ix p2)) ||| (own_bo p2))), .second] [(.ref b)])) _
          refine XS.iloadN X38.here hx rfl (hb hby d3_76) rfl ?_
          show Steps p.tables e below (T38.setTop (mkF m 77 #[.val (.ref a1), .val (.int p2), .val (.int (own_wd p2)), .val (.long (f (own_ix p2))), .second, .val (.long ((f (own_ix p2)) ||| (own_bo p2))), .second] [(.int (own_wd p2)), (.ref b)])) _
          exact k)
        obtain ⟨cq41, kq41, q41a, q41b, q41c⟩ := isOf hZ e38 LF.1
        obtain ⟨_, _, ⟨T41, L41, k41, n41⟩, -, X41, ⟨Lc41, hQ41, l41, y41, z41⟩, st41⟩ := X38.virtualBack hx (y := (⟨"com/example/berchta/berchta/learn/NodeSet", "add", "(I)V"⟩ : MethodName)) (z := (⟨"com/example/berchta/berchta/learn/NodeSet", "add", "(I)V"⟩ : MethodName)) hown (mvT hZ (hw _ (List.mem_of_getElem? (i := 80) rfl))) (mvT hZ (hw _ (List.mem_of_getElem? (i := 13) rfl))) (notFace_of_selects (args := #[]) (mvT hZ (hw _ (List.mem_of_getElem? (i := 15) rfl)))) (mvT hZ (hw _ (List.mem_of_getElem? (i := 15) rfl))) (mvT hZ (hw _ (List.mem_of_getElem? (i := 14) rfl))) (by decide) (backOf (W := 0) (rmLadd l Z a0 hw [] b (own_wd p2) fw zf gg s2 1 2 h28 n0 (Nat.le_trans g_a1 (Nat.le_of_lt E_b1_28.lt)) LF ⟨own_wd_pos p2, hwd⟩ (fun _ => ⟨Nat.le_refl _, Nat.le_refl _⟩)) hZ (hw _ (List.mem_of_getElem? (i := 16) rfl)) (hw _ (List.mem_of_getElem? (i := 2) rfl)) (by decide) (by decide)) q41a q41c (g := (mkF m 77 #[.val (.ref a1), .val (.int p2), .val (.int (own_wd p2)), .val (.long (f (own_ix p2))), .second, .val (.long ((f (own_ix p2)) ||| (own_bo p2))), .second] [(.int (own_wd p2)), (.ref b)])) rfl (by rw [hml]; rfl) (Steps.refl _) (argsL := [(.int (own_wd p2))]) (rest := []) (lenOf pdx_2 rfl) rfl (by show 2 * 0 + _ ≤ _; exact Nat.le_of_eq rfl) (hb hby d3_77) (fun _ _ => ⟨rfl, e38, (by decide : 4 + 1 ≤ _), (by decide : 260 + 2 ≤ _)⟩)
        dsimp only [Pt.U, Pt.locs, Pt.cells, Pt.slots] at X41 l41 y41 z41 st41 hQ41
        subst l41 y41 z41
        obtain ⟨fw', zf', s', rfl, N41q, LF', K41, hfw', -, -⟩ := hQ41
        have N41 := Fr.app N28 N41q
        have pre42 : ∀ t, Steps p.tables e below (T41.setTop (mkF m 80 #[.val (.ref a1), .val (.int p2), .val (.int (own_wd p2)), .val (.long (f (own_ix p2))), .second, .val (.long ((f (own_ix p2)) ||| (own_bo p2))), .second] [])) t → Steps p.tables e below (s₁.setTop (entryFrame m #[(.ref a1), (.int p2)] 7)) t := fun t k => pre40 t (by
          show Steps p.tables e below (T38.setTop (mkF m 77 #[.val (.ref a1), .val (.int p2), .val (.int (own_wd p2)), .val (.long (f (own_ix p2))), .second, .val (.long ((f (own_ix p2)) ||| (own_bo p2))), .second] [(.int (own_wd p2)), (.ref b)])) t
          refine st41.trans ?_
          show Steps p.tables e below (T41.setTop (mkF m 80 #[.val (.ref a1), .val (.int p2), .val (.int (own_wd p2)), .val (.long (f (own_ix p2))), .second, .val (.long ((f (own_ix p2)) ||| (own_bo p2))), .second] [])) t
          exact k)
        have E_b1_41 := E_b1_28.keep K41
        have Fw_b1_41 := Fw_b1_28.keep K41 (List.not_mem_cons_of_ne_of_not_mem n1 (List.not_mem_cons_of_ne_of_not_mem n2 List.not_mem_nil))
        have Ff_b1_41 := Ff_b1_28.keep K41 (List.not_mem_cons_of_ne_of_not_mem n1 (List.not_mem_cons_of_ne_of_not_mem n2 List.not_mem_nil))
        have Fs_b1_41 := Fs_b1_28.keep K41 (List.not_mem_cons_of_ne_of_not_mem n1 (List.not_mem_cons_of_ne_of_not_mem n2 List.not_mem_nil))
        have Vw_w1_41 := Vw_w1_28.keep K41 (List.not_mem_cons_of_ne_of_not_mem n3 (List.not_mem_cons_of_ne_of_not_mem n4 List.not_mem_nil))
        obtain ⟨fs, hr, hrun, hended, hW, hsame⟩ := X41.leave (v := none) (fun _ => rfl)
        refine ⟨_, _, pre42 _ ?_, hrun, hended, _, _, rfl, ?_, ⟨_, rfl⟩, hW, hsame.mono (by decide) (by decide)⟩
        · show Steps p.tables e below (T41.setTop (mkF m 80 #[.val (.ref a1), .val (.int p2), .val (.int (own_wd p2)), .val (.long (f (own_ix p2))), .second, .val (.long ((f (own_ix p2)) ||| (own_bo p2))), .second] [])) _
          exact X41.returnOut hx Bd.returns (hb hby d3_80) hr
        · show QTadd Z a1 p2 w z f sz _ h0 n0 _ T41.heap _
          exact ⟨w1, z1, _, _, rfl, N41, ⟨E_b1_41, Fw_b1_41, Ff_b1_41, Fs_b1_41, Vw_w1_41, hzb, own_add_out hf0b hlt, own_add_out (z := 128) hf128 hwd, g_a1, g_w1, naw1, Or.inr ⟨b, fw', zf', _, s', rfl, LF', own_rel_add rel hz0, n1, own_ne_new n2 E_b1_28.lt hfw', n3, own_ne_new n4 Vw_w1_28.lt hfw'⟩⟩, (if_neg hbit).symm⟩
    · skip
      have pre43 : ∀ t, Steps p.tables e below (T28.setTop (mkF m 80 #[.val (.ref a1), .val (.int p2), .val (.int (own_wd p2)), .val (.long (f (own_ix p2))), .second, .val (.long ((f (own_ix p2)) ||| (own_bo p2))), .second] [])) t → Steps p.tables e below (s₁.setTop (entryFrame m #[(.ref a1), (.int p2)] 7)) t := fun t k => pre30 t (by
        show Steps p.tables e below (T28.setTop (mkF m 62 #[.val (.ref a1), .val (.int p2), .val (.int (own_wd p2)), .val (.long (f (own_ix p2))), .second, .val (.long ((f (own_ix p2)) ||| (own_bo p2))), .second] [(.int (lcmpW (f (own_ix p2)) (0 : Int64)))])) _
        refine XS.ifYes X28.here hx rfl (pc0 := 62) (pc' := 80) rfl (hb hby d3_62) rfl ((if0 _ _).trans (feq (fun q => hz0 ((lw_eq _ _).mp q))).2) (by decide) (by decide) ?_
        show Steps p.tables e below (T28.setTop (mkF m 80 #[.val (.ref a1), .val (.int p2), .val (.int (own_wd p2)), .val (.long (f (own_ix p2))), .second, .val (.long ((f (own_ix p2)) ||| (own_bo p2))), .second] [])) _
        exact k)
      obtain ⟨fs, hr, hrun, hended, hW, hsame⟩ := X28.leave (v := none) (fun _ => rfl)
      refine ⟨_, _, pre43 _ ?_, hrun, hended, _, _, rfl, ?_, ⟨_, rfl⟩, hW, hsame.mono (by decide) (by decide)⟩
      · show Steps p.tables e below (T28.setTop (mkF m 80 #[.val (.ref a1), .val (.int p2), .val (.int (own_wd p2)), .val (.long (f (own_ix p2))), .second, .val (.long ((f (own_ix p2)) ||| (own_bo p2))), .second] [])) _
        exact X28.returnOut hx Bd.returns (hb hby d3_80) hr
      · show QTadd Z a1 p2 w z f sz _ h0 n0 _ T28.heap _
        rw [e28]
        exact ⟨w1, z1, _, _, rfl, N28, ⟨E_b1_28, Fw_b1_28, Ff_b1_28, Fs_b1_28, Vw_w1_28, hzb, own_add_out hf0b hlt, own_add_out (z := 128) hf128 hwd, g_a1, g_w1, naw1, own_fil_same HFb_28 (own_add_zero hz0)⟩, (if_neg hbit).symm⟩
def QTremove (Z : State) (a1 : Addr) (p2 : Int32) (w : Addr) (z : Int32) (f : Nat → Int64) (sz : Int32) (fl : Value) (h0 : Heap) (n0 : Nat) (v : Option Value) (h : Heap) (L : List Loc) : Prop := ∃ (w' : Addr) (z' s' : Int32) (fl' : Value), v = none ∧ Fr n0 L ∧ own_top Z h n0 a1 w' z' (own_rem f p2) s' fl' ∧ s' = (if own_mem f p2 = true then sz - (1 : Int32) else sz)
set_option maxRecDepth 65536 in
set_option maxHeartbeats 40000000 in
theorem rmTremove (l : Launch) (Z : State) (a0 : Array Value) (hw : ∀ d ∈ tables_1, d.before a0 Z = true) (ws : List Jvm.Cond) (a1 : Addr) (p2 : Int32) (w : Addr) (z : Int32) (f : Nat → Int64) (sz : Int32) (fl : Value) (h0 : Heap) (n0 : Nat) (Z0 : n0 ≤ h0.size) (TP : own_top Z h0 n0 a1 w z f sz fl) :
    MetFree l (⟨"com/example/berchta/berchta/learn/NodeSet", "remove", "(I)V"⟩ : MethodName) (head1 (Jvm.Cond.code (⟨"com/example/berchta/berchta/learn/NodeSet", "remove", "(I)V"⟩ : MethodName) prog_101_method_4_code 7 none :: ws) ({ frames := 1, cells := 0, slots := 0, locals := 18 } : Room)) (fun a U => a = #[(.ref a1), (.int p2)] ∧ Z.Warmed39 U.vm ∧ U.heap = h0) (fun _ _ _ _ _ => True) (fun _ U o U' => ∃ v L, o = .returned v ∧ QTremove Z a1 p2 w z f sz fl h0 n0 v U'.heap L ∧ FrameEnd U o U' L ({ frames := 1, cells := 0, slots := 0, locals := 18 } : Room).cells ({ frames := 1, cells := 0, slots := 0, locals := 18 } : Room).slots) := by
  refine MetFree.of_bodySF (plainFor_of_name pn_4) hisR ?_
  intro p e s m args below meth c s₁ Bd hml0 hP hK
  obtain ⟨rfl, hZ, hh⟩ := hP
  have hx := Bd.exec
  have hby := Bd.bytes
  have hml : c.maxLocals = 7 := hml0
  have hown : s.vm.findClass "com/example/berchta/berchta/learn/NodeSet" = some m.cls := findClass_of_methodNamed Bd.named
  have hnm := (name_of_methodNamed Bd.named Bd.method).1
  have X0 : Stand p l e ({ frames := 1, cells := 0, slots := 0, locals := 18 } : Room) s m #[(.ref a1), (.int p2)] below meth c s₁ [] 0 0 := Stand.of_body Bd
  have e0 : s₁.heap = h0 := by rw [← hh, Bd.state]; rfl
  have N0 := Fr.nil n0
  have pre0 : ∀ t, Steps p.tables e below (s₁.setTop (mkF m 0 #[.val (.ref a1), .val (.int p2), .unset, .unset, .unset, .unset, .unset] [])) t → Steps p.tables e below (s₁.setTop (entryFrame m #[(.ref a1), (.int p2)] 7)) t := fun t k => castTop (ef_4 m a1 p2) k
  obtain ⟨E_a1, Fw_a1, Ff_a1, Fs_a1, Vw_w, hz, hf0, hf128, g_a1, g_w, naw, HF⟩ := id TP
  have pre1 : ∀ t, Steps p.tables e below (s₁.setTop (mkF m 7 #[.val (.ref a1), .val (.int p2), .val (.int (own_wd p2)), .unset, .unset, .unset, .unset] [(.ref a1), (.int (own_wd p2))])) t → Steps p.tables e below (s₁.setTop (entryFrame m #[(.ref a1), (.int p2)] 7)) t := fun t k => pre0 t (by
    show Steps p.tables e below (s₁.setTop (mkF m 0 #[.val (.ref a1), .val (.int p2), .unset, .unset, .unset, .unset, .unset] [])) _
    refine XS.iloadN X0.here hx rfl (hb hby d4_0) rfl ?_
    show Steps p.tables e below (s₁.setTop (mkF m 1 #[.val (.ref a1), .val (.int p2), .unset, .unset, .unset, .unset, .unset] [(.int p2)])) _
    refine XS.bipush X0.here hx rfl (hb hby d4_1) ?_
    show Steps p.tables e below (s₁.setTop (mkF m 3 #[.val (.ref a1), .val (.int p2), .unset, .unset, .unset, .unset, .unset] [(.int (6 : Int32)), (.int p2)])) _
    refine XS.iushr X0.here hx rfl (hb hby d4_3) rfl ?_
    show Steps p.tables e below (s₁.setTop (mkF m 4 #[.val (.ref a1), .val (.int p2), .unset, .unset, .unset, .unset, .unset] [(.int ((p2.toUInt32 >>> ((6 : Int32) &&& 31).toUInt32).toInt32))])) _
    refine XS.istoreN X0.here hx rfl (hb hby d4_4) rfl (l' := #[.val (.ref a1), .val (.int p2), .val (.int (own_wd p2)), .unset, .unset, .unset, .unset]) rfl ?_
    show Steps p.tables e below (s₁.setTop (mkF m 5 #[.val (.ref a1), .val (.int p2), .val (.int (own_wd p2)), .unset, .unset, .unset, .unset] [])) _
    refine XS.iloadN X0.here hx rfl (hb hby d4_5) rfl ?_
    show Steps p.tables e below (s₁.setTop (mkF m 6 #[.val (.ref a1), .val (.int p2), .val (.int (own_wd p2)), .unset, .unset, .unset, .unset] [(.int (own_wd p2))])) _
    refine XS.aloadN X0.here hx rfl (hb hby d4_6) rfl rfl ?_
    show Steps p.tables e below (s₁.setTop (mkF m 7 #[.val (.ref a1), .val (.int p2), .val (.int (own_wd p2)), .unset, .unset, .unset, .unset] [(.ref a1), (.int (own_wd p2))])) _
    exact k)
  obtain ⟨T2, X2, e2, st2⟩ := getF X0 hx hZ hown (host := "") (Or.inl (hw _ (List.mem_of_getElem? (i := 10) rfl))) Via.refl e0 Fw_a1 (g := (mkF m 7 #[.val (.ref a1), .val (.int p2), .val (.int (own_wd p2)), .unset, .unset, .unset, .unset] [(.ref a1), (.int (own_wd p2))])) rfl rfl (hb hby d4_7)
  have pre3 : ∀ t, Steps p.tables e below (T2.setTop (mkF m 10 #[.val (.ref a1), .val (.int p2), .val (.int (own_wd p2)), .unset, .unset, .unset, .unset] [(.ref w), (.int (own_wd p2))])) t → Steps p.tables e below (s₁.setTop (entryFrame m #[(.ref a1), (.int p2)] 7)) t := fun t k => pre1 t (by
    show Steps p.tables e below (s₁.setTop (mkF m 7 #[.val (.ref a1), .val (.int p2), .val (.int (own_wd p2)), .unset, .unset, .unset, .unset] [(.ref a1), (.int (own_wd p2))])) t
    refine st2 _ ?_
    show Steps p.tables e below (T2.setTop (mkF m 10 #[.val (.ref a1), .val (.int p2), .val (.int (own_wd p2)), .unset, .unset, .unset, .unset] [(.ref w), (.int (own_wd p2))])) t
    exact k)
  obtain ⟨cl4, Ar4, Sz4, Nz4⟩ := own_wds_len Vw_w
  have pre5 : ∀ t, Steps p.tables e below (T2.setTop (mkF m 11 #[.val (.ref a1), .val (.int p2), .val (.int (own_wd p2)), .unset, .unset, .unset, .unset] [(.int z), (.int (own_wd p2))])) t → Steps p.tables e below (s₁.setTop (entryFrame m #[(.ref a1), (.int p2)] 7)) t := fun t k => pre3 t (by
    show Steps p.tables e below (T2.setTop (mkF m 10 #[.val (.ref a1), .val (.int p2), .val (.int (own_wd p2)), .unset, .unset, .unset, .unset] [(.ref w), (.int (own_wd p2))])) t
    refine X2.arraylength hx (by rw [e2]; exact Ar4.1) (State.isArrayOf_alike hZ.alike Ar4.2.1) (g := (mkF m 10 #[.val (.ref a1), .val (.int p2), .val (.int (own_wd p2)), .unset, .unset, .unset, .unset] [(.ref w), (.int (own_wd p2))])) rfl rfl (hb hby d4_10) _ ?_
    rw [len_of Sz4 Nz4]
    exact k)
  by_cases hlt : own_wd p2 < z
  · skip
    have pre6 : ∀ t, Steps p.tables e below (T2.setTop (mkF m 16 #[.val (.ref a1), .val (.int p2), .val (.int (own_wd p2)), .unset, .unset, .unset, .unset] [(.ref a1)])) t → Steps p.tables e below (s₁.setTop (entryFrame m #[(.ref a1), (.int p2)] 7)) t := fun t k => pre5 t (by
      show Steps p.tables e below (T2.setTop (mkF m 11 #[.val (.ref a1), .val (.int p2), .val (.int (own_wd p2)), .unset, .unset, .unset, .unset] [(.int z), (.int (own_wd p2))])) _
      refine XS.icmpYes X2.here hx rfl (pc0 := 11) (pc' := 15) rfl (hb hby d4_11) rfl (tlt hlt).1 (by decide) (by decide) ?_
      show Steps p.tables e below (T2.setTop (mkF m 15 #[.val (.ref a1), .val (.int p2), .val (.int (own_wd p2)), .unset, .unset, .unset, .unset] [])) _
      refine XS.aloadN X2.here hx rfl (hb hby d4_15) rfl rfl ?_
      show Steps p.tables e below (T2.setTop (mkF m 16 #[.val (.ref a1), .val (.int p2), .val (.int (own_wd p2)), .unset, .unset, .unset, .unset] [(.ref a1)])) _
      exact k)
    obtain ⟨T7, X7, e7, st7⟩ := getF X2 hx hZ hown (host := "") (Or.inl (hw _ (List.mem_of_getElem? (i := 10) rfl))) Via.refl e2 Fw_a1 (g := (mkF m 16 #[.val (.ref a1), .val (.int p2), .val (.int (own_wd p2)), .unset, .unset, .unset, .unset] [(.ref a1)])) rfl rfl (hb hby d4_16)
    have pre8 : ∀ t, Steps p.tables e below (T7.setTop (mkF m 19 #[.val (.ref a1), .val (.int p2), .val (.int (own_wd p2)), .unset, .unset, .unset, .unset] [(.ref w)])) t → Steps p.tables e below (s₁.setTop (entryFrame m #[(.ref a1), (.int p2)] 7)) t := fun t k => pre6 t (by
      show Steps p.tables e below (T2.setTop (mkF m 16 #[.val (.ref a1), .val (.int p2), .val (.int (own_wd p2)), .unset, .unset, .unset, .unset] [(.ref a1)])) t
      refine st7 _ ?_
      show Steps p.tables e below (T7.setTop (mkF m 19 #[.val (.ref a1), .val (.int p2), .val (.int (own_wd p2)), .unset, .unset, .unset, .unset] [(.ref w)])) t
      exact k)
    have pre9 : ∀ t, Steps p.tables e below (T7.setTop (mkF m 20 #[.val (.ref a1), .val (.int p2), .val (.int (own_wd p2)), .unset, .unset, .unset, .unset] [(.int (own_wd p2)), (.ref w)])) t → Steps p.tables e below (s₁.setTop (entryFrame m #[(.ref a1), (.int p2)] 7)) t := fun t k => pre8 t (by
      show Steps p.tables e below (T7.setTop (mkF m 19 #[.val (.ref a1), .val (.int p2), .val (.int (own_wd p2)), .unset, .unset, .unset, .unset] [(.ref w)])) _
      refine XS.iloadN X7.here hx rfl (hb hby d4_19) rfl ?_
      show Steps p.tables e below (T7.setTop (mkF m 20 #[.val (.ref a1), .val (.int p2), .val (.int (own_wd p2)), .unset, .unset, .unset, .unset] [(.int (own_wd p2)), (.ref w)])) _
      exact k)
    obtain ⟨cl10, Ar10, hin10, hat10⟩ := own_wds_get Vw_w ⟨own_wd_pos p2, hlt⟩
    have pre11 : ∀ t, Steps p.tables e below (T7.setTop (mkF m 21 #[.val (.ref a1), .val (.int p2), .val (.int (own_wd p2)), .unset, .unset, .unset, .unset] [(.long (f (own_ix p2)))])) t → Steps p.tables e below (s₁.setTop (entryFrame m #[(.ref a1), (.int p2)] 7)) t := fun t k => pre9 t (by
      show Steps p.tables e below (T7.setTop (mkF m 20 #[.val (.ref a1), .val (.int p2), .val (.int (own_wd p2)), .unset, .unset, .unset, .unset] [(.int (own_wd p2)), (.ref w)])) t
      refine X7.laload hx (j := (own_wd p2)) (v := (.long (f (own_ix p2)))) (by rw [e7]; exact Ar10.1) (State.isArrayOf_alike hZ.alike Ar10.2.1) Ar10.2.2 hin10 hat10 (g := (mkF m 20 #[.val (.ref a1), .val (.int p2), .val (.int (own_wd p2)), .unset, .unset, .unset, .unset] [(.int (own_wd p2)), (.ref w)])) rfl rfl (hb hby d4_20) _ ?_
      exact k)
    have pre12 : ∀ t, Steps p.tables e below (T7.setTop (mkF m 37 #[.val (.ref a1), .val (.int p2), .val (.int (own_wd p2)), .val (.long (f (own_ix p2))), .second, .val (.long ((f (own_ix p2)) &&& ((own_bo p2) ^^^ (-1 : Int64)))), .second] [(.int (lcmpW ((f (own_ix p2)) &&& ((own_bo p2) ^^^ (-1 : Int64))) (f (own_ix p2))))])) t → Steps p.tables e below (s₁.setTop (entryFrame m #[(.ref a1), (.int p2)] 7)) t := fun t k => pre11 t (by
      show Steps p.tables e below (T7.setTop (mkF m 21 #[.val (.ref a1), .val (.int p2), .val (.int (own_wd p2)), .unset, .unset, .unset, .unset] [(.long (f (own_ix p2)))])) _
      refine XS.lstoreN X7.here hx rfl (hb hby d4_21) rfl (l' := #[.val (.ref a1), .val (.int p2), .val (.int (own_wd p2)), .val (.long (f (own_ix p2))), .second, .unset, .unset]) rfl ?_
      show Steps p.tables e below (T7.setTop (mkF m 22 #[.val (.ref a1), .val (.int p2), .val (.int (own_wd p2)), .val (.long (f (own_ix p2))), .second, .unset, .unset] [])) _
      refine XS.lloadN X7.here hx rfl (hb hby d4_22) rfl ?_
      show Steps p.tables e below (T7.setTop (mkF m 23 #[.val (.ref a1), .val (.int p2), .val (.int (own_wd p2)), .val (.long (f (own_ix p2))), .second, .unset, .unset] [(.long (f (own_ix p2)))])) _
      refine XS.lconst X7.here hx rfl (hb hby d4_23) ?_
      show Steps p.tables e below (T7.setTop (mkF m 24 #[.val (.ref a1), .val (.int p2), .val (.int (own_wd p2)), .val (.long (f (own_ix p2))), .second, .unset, .unset] [(.long (1 : Int64)), (.long (f (own_ix p2)))])) _
      refine XS.iloadN X7.here hx rfl (hb hby d4_24) rfl ?_
      show Steps p.tables e below (T7.setTop (mkF m 25 #[.val (.ref a1), .val (.int p2), .val (.int (own_wd p2)), .val (.long (f (own_ix p2))), .second, .unset, .unset] [(.int p2), (.long (1 : Int64)), (.long (f (own_ix p2)))])) _
      refine XS.lshl X7.here hx rfl (hb hby d4_25) rfl ?_
      show Steps p.tables e below (T7.setTop (mkF m 26 #[.val (.ref a1), .val (.int p2), .val (.int (own_wd p2)), .val (.long (f (own_ix p2))), .second, .unset, .unset] [(.long (own_bo p2)), (.long (f (own_ix p2)))])) _
      refine X7.ldc2Long hx hown (mvT hZ (hw _ (List.mem_of_getElem? (i := 26) rfl))) (g := (mkF m 26 #[.val (.ref a1), .val (.int p2), .val (.int (own_wd p2)), .val (.long (f (own_ix p2))), .second, .unset, .unset] [(.long (own_bo p2)), (.long (f (own_ix p2)))])) rfl (hb hby d4_26) _ ?_
      show Steps p.tables e below (T7.setTop (mkF m 29 #[.val (.ref a1), .val (.int p2), .val (.int (own_wd p2)), .val (.long (f (own_ix p2))), .second, .unset, .unset] [(.long (-1 : Int64)), (.long (own_bo p2)), (.long (f (own_ix p2)))])) _
      refine XS.lxor X7.here hx rfl (hb hby d4_29) rfl ?_
      show Steps p.tables e below (T7.setTop (mkF m 30 #[.val (.ref a1), .val (.int p2), .val (.int (own_wd p2)), .val (.long (f (own_ix p2))), .second, .unset, .unset] [(.long ((own_bo p2) ^^^ (-1 : Int64))), (.long (f (own_ix p2)))])) _
      refine XS.land X7.here hx rfl (hb hby d4_30) rfl ?_
      show Steps p.tables e below (T7.setTop (mkF m 31 #[.val (.ref a1), .val (.int p2), .val (.int (own_wd p2)), .val (.long (f (own_ix p2))), .second, .unset, .unset] [(.long ((f (own_ix p2)) &&& ((own_bo p2) ^^^ (-1 : Int64))))])) _
      refine XS.lstore X7.here hx rfl (hb hby d4_31) rfl (l' := #[.val (.ref a1), .val (.int p2), .val (.int (own_wd p2)), .val (.long (f (own_ix p2))), .second, .val (.long ((f (own_ix p2)) &&& ((own_bo p2) ^^^ (-1 : Int64)))), .second]) rfl ?_
      show Steps p.tables e below (T7.setTop (mkF m 33 #[.val (.ref a1), .val (.int p2), .val (.int (own_wd p2)), .val (.long (f (own_ix p2))), .second, .val (.long ((f (own_ix p2)) &&& ((own_bo p2) ^^^ (-1 : Int64)))), .second] [])) _
      refine XS.lload X7.here hx rfl (hb hby d4_33) rfl ?_
      show Steps p.tables e below (T7.setTop (mkF m 35 #[.val (.ref a1), .val (.int p2), .val (.int (own_wd p2)), .val (.long (f (own_ix p2))), .second, .val (.long ((f (own_ix p2)) &&& ((own_bo p2) ^^^ (-1 : Int64)))), .second] [(.long ((f (own_ix p2)) &&& ((own_bo p2) ^^^ (-1 : Int64))))])) _
      refine XS.lloadN X7.here hx rfl (hb hby d4_35) rfl ?_
      show Steps p.tables e below (T7.setTop (mkF m 36 #[.val (.ref a1), .val (.int p2), .val (.int (own_wd p2)), .val (.long (f (own_ix p2))), .second, .val (.long ((f (own_ix p2)) &&& ((own_bo p2) ^^^ (-1 : Int64)))), .second] [(.long (f (own_ix p2))), (.long ((f (own_ix p2)) &&& ((own_bo p2) ^^^ (-1 : Int64))))])) _
      refine XS.lcmp X7.here hx rfl (hb hby d4_36) rfl ?_
      show Steps p.tables e below (T7.setTop (mkF m 37 #[.val (.ref a1), .val (.int p2), .val (.int (own_wd p2)), .val (.long (f (own_ix p2))), .second, .val (.long ((f (own_ix p2)) &&& ((own_bo p2) ^^^ (-1 : Int64)))), .second] [(.int (lcmpW ((f (own_ix p2)) &&& ((own_bo p2) ^^^ (-1 : Int64))) (f (own_ix p2))))])) _
      exact k)
    by_cases hbit : own_bt (f (own_ix p2)) (own_lo p2) = true
    · skip
      have hwd := own_wd_nz hf128 hbit
      have pre13 : ∀ t, Steps p.tables e below (T7.setTop (mkF m 42 #[.val (.ref a1), .val (.int p2), .val (.int (own_wd p2)), .val (.long (f (own_ix p2))), .second, .val (.long ((f (own_ix p2)) &&& ((own_bo p2) ^^^ (-1 : Int64)))), .second] [(.ref a1)])) t → Steps p.tables e below (s₁.setTop (entryFrame m #[(.ref a1), (.int p2)] 7)) t := fun t k => pre12 t (by
        show Steps p.tables e below (T7.setTop (mkF m 37 #[.val (.ref a1), .val (.int p2), .val (.int (own_wd p2)), .val (.long (f (own_ix p2))), .second, .val (.long ((f (own_ix p2)) &&& ((own_bo p2) ^^^ (-1 : Int64)))), .second] [(.int (lcmpW ((f (own_ix p2)) &&& ((own_bo p2) ^^^ (-1 : Int64))) (f (own_ix p2))))])) _
        refine XS.ifYes X7.here hx rfl (pc0 := 37) (pc' := 41) rfl (hb hby d4_37) rfl ((if0 _ _).trans (feq (fun q => absurd ((own_and_same _ _).mp ((lw_eq _ _).mp q)) (by rw [hbit]; decide))).2) (by decide) (by decide) ?_
        show Steps p.tables e below (T7.setTop (mkF m 41 #[.val (.ref a1), .val (.int p2), .val (.int (own_wd p2)), .val (.long (f (own_ix p2))), .second, .val (.long ((f (own_ix p2)) &&& ((own_bo p2) ^^^ (-1 : Int64)))), .second] [])) _
        refine XS.aloadN X7.here hx rfl (hb hby d4_41) rfl rfl ?_
        show Steps p.tables e below (T7.setTop (mkF m 42 #[.val (.ref a1), .val (.int p2), .val (.int (own_wd p2)), .val (.long (f (own_ix p2))), .second, .val (.long ((f (own_ix p2)) &&& ((own_bo p2) ^^^ (-1 : Int64)))), .second] [(.ref a1)])) _
        exact k)
      obtain ⟨T14, X14, e14, st14⟩ := getF X7 hx hZ hown (host := "") (Or.inl (hw _ (List.mem_of_getElem? (i := 10) rfl))) Via.refl e7 Fw_a1 (g := (mkF m 42 #[.val (.ref a1), .val (.int p2), .val (.int (own_wd p2)), .val (.long (f (own_ix p2))), .second, .val (.long ((f (own_ix p2)) &&& ((own_bo p2) ^^^ (-1 : Int64)))), .second] [(.ref a1)])) rfl rfl (hb hby d4_42)
      have pre15 : ∀ t, Steps p.tables e below (T14.setTop (mkF m 45 #[.val (.ref a1), .val (.int p2), .val (.int (own_wd p2)), .val (.long (f (own_ix p2))), .second, .val (.long ((f (own_ix p2)) &&& ((own_bo p2) ^^^ (-1 : Int64)))), .second] [(.ref w)])) t → Steps p.tables e below (s₁.setTop (entryFrame m #[(.ref a1), (.int p2)] 7)) t := fun t k => pre13 t (by
        show Steps p.tables e below (T7.setTop (mkF m 42 #[.val (.ref a1), .val (.int p2), .val (.int (own_wd p2)), .val (.long (f (own_ix p2))), .second, .val (.long ((f (own_ix p2)) &&& ((own_bo p2) ^^^ (-1 : Int64)))), .second] [(.ref a1)])) t
        refine st14 _ ?_
        show Steps p.tables e below (T14.setTop (mkF m 45 #[.val (.ref a1), .val (.int p2), .val (.int (own_wd p2)), .val (.long (f (own_ix p2))), .second, .val (.long ((f (own_ix p2)) &&& ((own_bo p2) ^^^ (-1 : Int64)))), .second] [(.ref w)])) t
        exact k)
      have pre16 : ∀ t, Steps p.tables e below (T14.setTop (mkF m 48 #[.val (.ref a1), .val (.int p2), .val (.int (own_wd p2)), .val (.long (f (own_ix p2))), .second, .val (.long ((f (own_ix p2)) &&& ((own_bo p2) ^^^ (-1 : Int64)))), .second] [(.long ((f (own_ix p2)) &&& ((own_bo p2) ^^^ (-1 : Int64)))), (.int (own_wd p2)), (.ref w)])) t → Steps p.tables e below (s₁.setTop (entryFrame m #[(.ref a1), (.int p2)] 7)) t := fun t k => pre15 t (by
        show Steps p.tables e below (T14.setTop (mkF m 45 #[.val (.ref a1), .val (.int p2), .val (.int (own_wd p2)), .val (.long (f (own_ix p2))), .second, .val (.long ((f (own_ix p2)) &&& ((own_bo p2) ^^^ (-1 : Int64)))), .second] [(.ref w)])) _
        refine XS.iloadN X14.here hx rfl (hb hby d4_45) rfl ?_
        show Steps p.tables e below (T14.setTop (mkF m 46 #[.val (.ref a1), .val (.int p2), .val (.int (own_wd p2)), .val (.long (f (own_ix p2))), .second, .val (.long ((f (own_ix p2)) &&& ((own_bo p2) ^^^ (-1 : Int64)))), .second] [(.int (own_wd p2)), (.ref w)])) _
        refine XS.lload X14.here hx rfl (hb hby d4_46) rfl ?_
        show Steps p.tables e below (T14.setTop (mkF m 48 #[.val (.ref a1), .val (.int p2), .val (.int (own_wd p2)), .val (.long (f (own_ix p2))), .second, .val (.long ((f (own_ix p2)) &&& ((own_bo p2) ^^^ (-1 : Int64)))), .second] [(.long ((f (own_ix p2)) &&& ((own_bo p2) ^^^ (-1 : Int64)))), (.int (own_wd p2)), (.ref w)])) _
        exact k)
      obtain ⟨cl17, Ar17, hin17, hat17⟩ := own_wds_get Vw_w ⟨own_wd_pos p2, hlt⟩
      obtain ⟨T17, h17, X17, e17, W17, st17⟩ := stJ X14 hx hZ e14 Ar17 (j := (own_wd p2)) hin17 (g := (mkF m 48 #[.val (.ref a1), .val (.int p2), .val (.int (own_wd p2)), .val (.long (f (own_ix p2))), .second, .val (.long ((f (own_ix p2)) &&& ((own_bo p2) ^^^ (-1 : Int64)))), .second] [(.long ((f (own_ix p2)) &&& ((own_bo p2) ^^^ (-1 : Int64)))), (.int (own_wd p2)), (.ref w)])) rfl rfl (hb hby d4_48)
      have E_a1_17 := E_a1.wr W17
      have Fw_a1_17 := Fw_a1.other W17 (Or.inl naw)
      have Ff_a1_17 := Ff_a1.other W17 (Or.inl naw)
      have Fs_a1_17 := Fs_a1.other W17 (Or.inl naw)
      have HF_17 := HF.wr W17 (Or.inr rfl)
      have Vw_w_17 := own_wds_set Vw_w W17
      have N17 := Fr.snoc X17 N0 g_w
      have pre18 : ∀ t, Steps p.tables e below (T17.setTop (mkF m 49 #[.val (.ref a1), .val (.int p2), .val (.int (own_wd p2)), .val (.long (f (own_ix p2))), .second, .val (.long ((f (own_ix p2)) &&& ((own_bo p2) ^^^ (-1 : Int64)))), .second] [])) t → Steps p.tables e below (s₁.setTop (entryFrame m #[(.ref a1), (.int p2)] 7)) t := fun t k => pre16 t (by
        show Steps p.tables e below (T14.setTop (mkF m 48 #[.val (.ref a1), .val (.int p2), .val (.int (own_wd p2)), .val (.long (f (own_ix p2))), .second, .val (.long ((f (own_ix p2)) &&& ((own_bo p2) ^^^ (-1 : Int64)))), .second] [(.long ((f (own_ix p2)) &&& ((own_bo p2) ^^^ (-1 : Int64)))), (.int (own_wd p2)), (.ref w)])) t
        refine st17 _ ?_
        show Steps p.tables e below (T17.setTop (mkF m 49 #[.val (.ref a1), .val (.int p2), .val (.int (own_wd p2)), .val (.long (f (own_ix p2))), .second, .val (.long ((f (own_ix p2)) &&& ((own_bo p2) ^^^ (-1 : Int64)))), .second] [])) t
        exact k)
      have pre19 : ∀ t, Steps p.tables e below (T17.setTop (mkF m 51 #[.val (.ref a1), .val (.int p2), .val (.int (own_wd p2)), .val (.long (f (own_ix p2))), .second, .val (.long ((f (own_ix p2)) &&& ((own_bo p2) ^^^ (-1 : Int64)))), .second] [(.ref a1), (.ref a1)])) t → Steps p.tables e below (s₁.setTop (entryFrame m #[(.ref a1), (.int p2)] 7)) t := fun t k => pre18 t (by
        show Steps p.tables e below (T17.setTop (mkF m 49 #[.val (.ref a1), .val (.int p2), .val (.int (own_wd p2)), .val (.long (f (own_ix p2))), .second, .val (.long ((f (own_ix p2)) &&& ((own_bo p2) ^^^ (-1 : Int64)))), .second] [])) _
        refine XS.aloadN X17.here hx rfl (hb hby d4_49) rfl rfl ?_
        show Steps p.tables e below (T17.setTop (mkF m 50 #[.val (.ref a1), .val (.int p2), .val (.int (own_wd p2)), .val (.long (f (own_ix p2))), .second, .val (.long ((f (own_ix p2)) &&& ((own_bo p2) ^^^ (-1 : Int64)))), .second] [(.ref a1)])) _
        refine XS.dup X17.here hx rfl (hb hby d4_50) rfl rfl ?_
        show Steps p.tables e below (T17.setTop (mkF m 51 #[.val (.ref a1), .val (.int p2), .val (.int (own_wd p2)), .val (.long (f (own_ix p2))), .second, .val (.long ((f (own_ix p2)) &&& ((own_bo p2) ^^^ (-1 : Int64)))), .second] [(.ref a1), (.ref a1)])) _
        exact k)
      obtain ⟨T20, X20, e20, st20⟩ := getF X17 hx hZ hown (host := "") (Or.inl (hw _ (List.mem_of_getElem? (i := 17) rfl))) Via.refl e17 Fs_a1_17 (g := (mkF m 51 #[.val (.ref a1), .val (.int p2), .val (.int (own_wd p2)), .val (.long (f (own_ix p2))), .second, .val (.long ((f (own_ix p2)) &&& ((own_bo p2) ^^^ (-1 : Int64)))), .second] [(.ref a1), (.ref a1)])) rfl rfl (hb hby d4_51)
      have pre21 : ∀ t, Steps p.tables e below (T20.setTop (mkF m 54 #[.val (.ref a1), .val (.int p2), .val (.int (own_wd p2)), .val (.long (f (own_ix p2))), .second, .val (.long ((f (own_ix p2)) &&& ((own_bo p2) ^^^ (-1 : Int64)))), .second] [(.int sz), (.ref a1)])) t → Steps p.tables e below (s₁.setTop (entryFrame m #[(.ref a1), (.int p2)] 7)) t := fun t k => pre19 t (by
        show Steps p.tables e below (T17.setTop (mkF m 51 #[.val (.ref a1), .val (.int p2), .val (.int (own_wd p2)), .val (.long (f (own_ix p2))), .second, .val (.long ((f (own_ix p2)) &&& ((own_bo p2) ^^^ (-1 : Int64)))), .second] [(.ref a1), (.ref a1)])) t
        refine st20 _ ?_
        show Steps p.tables e below (T20.setTop (mkF m 54 #[.val (.ref a1), .val (.int p2), .val (.int (own_wd p2)), .val (.long (f (own_ix p2))), .second, .val (.long ((f (own_ix p2)) &&& ((own_bo p2) ^^^ (-1 : Int64)))), .second] [(.int sz), (.ref a1)])) t
        exact k)
      have pre22 : ∀ t, Steps p.tables e below (T20.setTop (mkF m 56 #[.val (.ref a1), .val (.int p2), .val (.int (own_wd p2)), .val (.long (f (own_ix p2))), .second, .val (.long ((f (own_ix p2)) &&& ((own_bo p2) ^^^ (-1 : Int64)))), .second] [(.int (sz - (1 : Int32))), (.ref a1)])) t → Steps p.tables e below (s₁.setTop (entryFrame m #[(.ref a1), (.int p2)] 7)) t := fun t k => pre21 t (by
        show Steps p.tables e below (T20.setTop (mkF m 54 #[.val (.ref a1), .val (.int p2), .val (.int (own_wd p2)), .val (.long (f (own_ix p2))), .second, .val (.long ((f (own_ix p2)) &&& ((own_bo p2) ^^^ (-1 : Int64)))), .second] [(.int sz), (.ref a1)])) _
        refine XS.iconst X20.here hx rfl (hb hby d4_54) ?_
        show Steps p.tables e below (T20.setTop (mkF m 55 #[.val (.ref a1), .val (.int p2), .val (.int (own_wd p2)), .val (.long (f (own_ix p2))), .second, .val (.long ((f (own_ix p2)) &&& ((own_bo p2) ^^^ (-1 : Int64)))), .second] [(.int (1 : Int32)), (.int sz), (.ref a1)])) _
        refine XS.isub X20.here hx rfl (hb hby d4_55) rfl ?_
        show Steps p.tables e below (T20.setTop (mkF m 56 #[.val (.ref a1), .val (.int p2), .val (.int (own_wd p2)), .val (.long (f (own_ix p2))), .second, .val (.long ((f (own_ix p2)) &&& ((own_bo p2) ^^^ (-1 : Int64)))), .second] [(.int (sz - (1 : Int32))), (.ref a1)])) _
        exact k)
      obtain ⟨T23, h23, X23, e23, W23, st23⟩ := putF X20 hx hZ hown (host := "") (Or.inl (hw _ (List.mem_of_getElem? (i := 17) rfl))) Via.refl e20 Fs_a1_17 E_a1_17 (Or.inl (hw _ (List.mem_of_getElem? (i := 18) rfl))) (hw _ (List.mem_of_getElem? (i := 1) rfl)) (ty := .int) (by decide) rfl rfl (g := (mkF m 56 #[.val (.ref a1), .val (.int p2), .val (.int (own_wd p2)), .val (.long (f (own_ix p2))), .second, .val (.long ((f (own_ix p2)) &&& ((own_bo p2) ^^^ (-1 : Int64)))), .second] [(.int (sz - (1 : Int32))), (.ref a1)])) rfl rfl (hb hby d4_56)
      have E_a1_23 := E_a1_17.wr W23
      have Fw_a1_23 := Fw_a1_17.other W23 (Or.inr (slot_ne (Or.inl (hw _ (List.mem_of_getElem? (i := 11) rfl))) (Or.inl (hw _ (List.mem_of_getElem? (i := 18) rfl))) (by decide) (t := (.array .long)) (t' := .int) (by decide) (by decide)))
      have Ff_a1_23 := Ff_a1_17.other W23 (Or.inr (slot_ne (Or.inl (hw _ (List.mem_of_getElem? (i := 20) rfl))) (Or.inl (hw _ (List.mem_of_getElem? (i := 18) rfl))) (by decide) (t := (.object "com/example/berchta/berchta/learn/NodeSet")) (t' := .int) (by decide) (by decide)))
      have Vw_w_23 := Vw_w_17.other W23 (Ne.symm naw)
      have HF_23 := HF_17.wr W23 (Or.inl rfl)
      have Fs_a1_23 := Fs_a1_17.same W23
      have N23 := Fr.snoc X23 N17 g_a1
      have pre24 : ∀ t, Steps p.tables e below (T23.setTop (mkF m 59 #[.val (.ref a1), .val (.int p2), .val (.int (own_wd p2)), .val (.long (f (own_ix p2))), .second, .val (.long ((f (own_ix p2)) &&& ((own_bo p2) ^^^ (-1 : Int64)))), .second] [])) t → Steps p.tables e below (s₁.setTop (entryFrame m #[(.ref a1), (.int p2)] 7)) t := fun t k => pre22 t (by
        show Steps p.tables e below (T20.setTop (mkF m 56 #[.val (.ref a1), .val (.int p2), .val (.int (own_wd p2)), .val (.long (f (own_ix p2))), .second, .val (.long ((f (own_ix p2)) &&& ((own_bo p2) ^^^ (-1 : Int64)))), .second] [(.int (sz - (1 : Int32))), (.ref a1)])) t
        refine st23 _ ?_
        show Steps p.tables e below (T23.setTop (mkF m 59 #[.val (.ref a1), .val (.int p2), .val (.int (own_wd p2)), .val (.long (f (own_ix p2))), .second, .val (.long ((f (own_ix p2)) &&& ((own_bo p2) ^^^ (-1 : Int64)))), .second] [])) t
        exact k)
      have pre25 : ∀ t, Steps p.tables e below (T23.setTop (mkF m 63 #[.val (.ref a1), .val (.int p2), .val (.int (own_wd p2)), .val (.long (f (own_ix p2))), .second, .val (.long ((f (own_ix p2)) &&& ((own_bo p2) ^^^ (-1 : Int64)))), .second] [(.int (lcmpW ((f (own_ix p2)) &&& ((own_bo p2) ^^^ (-1 : Int64))) (0 : Int64)))])) t → Steps p.tables e below (s₁.setTop (entryFrame m #[(.ref a1), (.int p2)] 7)) t := fun t k => pre24 t (by
        show Steps p.tables e below (T23.setTop (mkF m 59 #[.val (.ref a1), .val (.int p2), .val (.int (own_wd p2)), .val (.long (f (own_ix p2))), .second, .val (.long ((f (own_ix p2)) &&& ((own_bo p2) ^^^ (-1 : Int64)))), .second] [])) _
        refine XS.lload X23.here hx rfl (hb hby d4_59) rfl ?_
        show Steps p.tables e below (T23.setTop (mkF m 61 #[.val (.ref a1), .val (.int p2), .val (.int (own_wd p2)), .val (.long (f (own_ix p2))), .second, .val (.long ((f (own_ix p2)) &&& ((own_bo p2) ^^^ (-1 : Int64)))), .second] [(.long ((f (own_ix p2)) &&& ((own_bo p2) ^^^ (-1 : Int64))))])) _
        refine XS.lconst X23.here hx rfl (hb hby d4_61) ?_
        show Steps p.tables e below (T23.setTop (mkF m 62 #[.val (.ref a1), .val (.int p2), .val (.int (own_wd p2)), .val (.long (f (own_ix p2))), .second, .val (.long ((f (own_ix p2)) &&& ((own_bo p2) ^^^ (-1 : Int64)))), .second] [(.long (0 : Int64)), (.long ((f (own_ix p2)) &&& ((own_bo p2) ^^^ (-1 : Int64))))])) _
        refine XS.lcmp X23.here hx rfl (hb hby d4_62) rfl ?_
        show Steps p.tables e below (T23.setTop (mkF m 63 #[.val (.ref a1), .val (.int p2), .val (.int (own_wd p2)), .val (.long (f (own_ix p2))), .second, .val (.long ((f (own_ix p2)) &&& ((own_bo p2) ^^^ (-1 : Int64)))), .second] [(.int (lcmpW ((f (own_ix p2)) &&& ((own_bo p2) ^^^ (-1 : Int64))) (0 : Int64)))])) _
        exact k)
      by_cases hz0 : ((f (own_ix p2)) &&& (own_bo p2 ^^^ (-1 : Int64))) = 0
      · skip
        have pre26 : ∀ t, Steps p.tables e below (T23.setTop (mkF m 67 #[.val (.ref a1), .val (.int p2), .val (.int (own_wd p2)), .val (.long (f (own_ix p2))), .second, .val (.long ((f (own_ix p2)) &&& ((own_bo p2) ^^^ (-1 : Int64)))), .second] [(.ref a1)])) t → Steps p.tables e below (s₁.setTop (entryFrame m #[(.ref a1), (.int p2)] 7)) t := fun t k => pre25 t (by
          show Steps p.tables e below (T23.setTop (mkF m 63 #[.val (.ref a1), .val (.int p2), .val (.int (own_wd p2)), .val (.long (f (own_ix p2))), .second, .val (.long ((f (own_ix p2)) &&& ((own_bo p2) ^^^ (-1 : Int64)))), .second] [(.int (lcmpW ((f (own_ix p2)) &&& ((own_bo p2) ^^^ (-1 : Int64))) (0 : Int64)))])) _
          refine XS.ifNo X23.here hx rfl (hb hby d4_63) rfl ((if0 _ _).trans (teq ((lw_eq _ _).mpr hz0)).2) ?_
          show Steps p.tables e below (T23.setTop (mkF m 66 #[.val (.ref a1), .val (.int p2), .val (.int (own_wd p2)), .val (.long (f (own_ix p2))), .second, .val (.long ((f (own_ix p2)) &&& ((own_bo p2) ^^^ (-1 : Int64)))), .second] [])) _
          refine XS.aloadN X23.here hx rfl (hb hby d4_66) rfl rfl ?_
          show Steps p.tables e below (T23.setTop (mkF m 67 #[.val (.ref a1), .val (.int p2), .val (.int (own_wd p2)), .val (.long (f (own_ix p2))), .second, .val (.long ((f (own_ix p2)) &&& ((own_bo p2) ^^^ (-1 : Int64)))), .second] [(.ref a1)])) _
          exact k)
        rcases HF_23 with ⟨rfl, h64⟩ | ⟨b, fw, zf, gg, s2, rfl, LF, rel, n1, n2, n3, n4⟩
        · skip
          obtain ⟨T27, X27, e27, st27⟩ := getF X23 hx hZ hown (host := "") (Or.inl (hw _ (List.mem_of_getElem? (i := 19) rfl))) Via.refl e23 Ff_a1_23 (g := (mkF m 67 #[.val (.ref a1), .val (.int p2), .val (.int (own_wd p2)), .val (.long (f (own_ix p2))), .second, .val (.long ((f (own_ix p2)) &&& ((own_bo p2) ^^^ (-1 : Int64)))), .second] [(.ref a1)])) rfl rfl (hb hby d4_67)
          have pre28 : ∀ t, Steps p.tables e below (T27.setTop (mkF m 70 #[.val (.ref a1), .val (.int p2), .val (.int (own_wd p2)), .val (.long (f (own_ix p2))), .second, .val (.long ((f (own_ix p2)) &&& ((own_bo p2) ^^^ (-1 : Int64)))), .second] [.null])) t → Steps p.tables e below (s₁.setTop (entryFrame m #[(.ref a1), (.int p2)] 7)) t := fun t k => pre26 t (by
            show Steps p.tables e below (T23.setTop (mkF m 67 #[.val (.ref a1), .val (.int p2), .val (.int (own_wd p2)), .val (.long (f (own_ix p2))), .second, .val (.long ((f (own_ix p2)) &&& ((own_bo p2) ^^^ (-1 : Int64)))), .second] [(.ref a1)])) t
            refine st27 _ ?_
            show Steps p.tables e below (T27.setTop (mkF m 70 #[.val (.ref a1), .val (.int p2), .val (.int (own_wd p2)), .val (.long (f (own_ix p2))), .second, .val (.long ((f (own_ix p2)) &&& ((own_bo p2) ^^^ (-1 : Int64)))), .second] [.null])) t
            exact k)
          have pre29 : ∀ t, Steps p.tables e below (T27.setTop (mkF m 81 #[.val (.ref a1), .val (.int p2), .val (.int (own_wd p2)), .val (.long (f (own_ix p2))), .second, .val (.long ((f (own_ix p2)) &&& ((own_bo p2) ^^^ (-1 : Int64)))), .second] [])) t → Steps p.tables e below (s₁.setTop (entryFrame m #[(.ref a1), (.int p2)] 7)) t := fun t k => pre28 t (by
            show Steps p.tables e below (T27.setTop (mkF m 70 #[.val (.ref a1), .val (.int p2), .val (.int (own_wd p2)), .val (.long (f (own_ix p2))), .second, .val (.long ((f (own_ix p2)) &&& ((own_bo p2) ^^^ (-1 : Int64)))), .second] [.null])) _
            refine XS.ifnullYes X27.here hx rfl (pc0 := 70) (pc' := 81) rfl (hb hby d4_70) rfl (by decide) (by decide) ?_
            show Steps p.tables e below (T27.setTop (mkF m 81 #[.val (.ref a1), .val (.int p2), .val (.int (own_wd p2)), .val (.long (f (own_ix p2))), .second, .val (.long ((f (own_ix p2)) &&& ((own_bo p2) ^^^ (-1 : Int64)))), .second] [])) _
            exact k)
          obtain ⟨fs, hr, hrun, hended, hW, hsame⟩ := X27.leave (v := none) (fun _ => rfl)
          refine ⟨_, _, pre29 _ ?_, hrun, hended, _, _, rfl, ?_, ⟨_, rfl⟩, hW, hsame.mono (by decide) (by decide)⟩
          · show Steps p.tables e below (T27.setTop (mkF m 81 #[.val (.ref a1), .val (.int p2), .val (.int (own_wd p2)), .val (.long (f (own_ix p2))), .second, .val (.long ((f (own_ix p2)) &&& ((own_bo p2) ^^^ (-1 : Int64)))), .second] [])) _
            exact X27.returnOut hx Bd.returns (hb hby d4_81) hr
          · show QTremove Z a1 p2 w z f sz _ h0 n0 _ T27.heap _
            rw [e27]
            exact ⟨w, z, _, _, rfl, N23, ⟨E_a1_23, Fw_a1_23, Ff_a1_23, Fs_a1_23, Vw_w_23, hz, own_rem_out hf0 hlt, own_rem_out (z := 128) hf128 hwd, g_a1, g_w, naw, Or.inl ⟨rfl, h64⟩⟩, (if_pos hbit).symm⟩
        · skip
          obtain ⟨T30, X30, e30, st30⟩ := getF X23 hx hZ hown (host := "") (Or.inl (hw _ (List.mem_of_getElem? (i := 19) rfl))) Via.refl e23 Ff_a1_23 (g := (mkF m 67 #[.val (.ref a1), .val (.int p2), .val (.int (own_wd p2)), .val (.long (f (own_ix p2))), .second, .val (.long ((f (own_ix p2)) &&& ((own_bo p2) ^^^ (-1 : Int64)))), .second] [(.ref a1)])) rfl rfl (hb hby d4_67)
          have pre31 : ∀ t, Steps p.tables e below (T30.setTop (mkF m 70 #[.val (.ref a1), .val (.int p2), .val (.int (own_wd p2)), .val (.long (f (own_ix p2))), .second, .val (.long ((f (own_ix p2)) &&& ((own_bo p2) ^^^ (-1 : Int64)))), .second] [(.ref b)])) t → Steps p.tables e below (s₁.setTop (entryFrame m #[(.ref a1), (.int p2)] 7)) t := fun t k => pre26 t (by
            show Steps p.tables e below (T23.setTop (mkF m 67 #[.val (.ref a1), .val (.int p2), .val (.int (own_wd p2)), .val (.long (f (own_ix p2))), .second, .val (.long ((f (own_ix p2)) &&& ((own_bo p2) ^^^ (-1 : Int64)))), .second] [(.ref a1)])) t
            refine st30 _ ?_
            show Steps p.tables e below (T30.setTop (mkF m 70 #[.val (.ref a1), .val (.int p2), .val (.int (own_wd p2)), .val (.long (f (own_ix p2))), .second, .val (.long ((f (own_ix p2)) &&& ((own_bo p2) ^^^ (-1 : Int64)))), .second] [(.ref b)])) t
            exact k)
          have pre32 : ∀ t, Steps p.tables e below (T30.setTop (mkF m 74 #[.val (.ref a1), .val (.int p2), .val (.int (own_wd p2)), .val (.long (f (own_ix p2))), .second, .val (.long ((f (own_ix p2)) &&& ((own_bo p2) ^^^ (-1 : Int64)))), .second] [(.ref a1)])) t → Steps p.tables e below (s₁.setTop (entryFrame m #[(.ref a1), (.int p2)] 7)) t := fun t k => pre31 t (by
            show Steps p.tables e below (T30.setTop (mkF m 70 #[.val (.ref a1), .val (.int p2), .val (.int (own_wd p2)), .val (.long (f (own_ix p2))), .second, .val (.long ((f (own_ix p2)) &&& ((own_bo p2) ^^^ (-1 : Int64)))), .second] [(.ref b)])) _
            refine XS.ifnullNo X30.here hx rfl (hb hby d4_70) rfl ?_
            show Steps p.tables e below (T30.setTop (mkF m 73 #[.val (.ref a1), .val (.int p2), .val (.int (own_wd p2)), .val (.long (f (own_ix p2))), .second, .val (.long ((f (own_ix p2)) &&& ((own_bo p2) ^^^ (-1 : Int64)))), .second] [])) _
            refine XS.aloadN X30.here hx rfl (hb hby d4_73) rfl rfl ?_
            show Steps p.tables e below (T30.setTop (mkF m 74 #[.val (.ref a1), .val (.int p2), .val (.int (own_wd p2)), .val (.long (f (own_ix p2))), .second, .val (.long ((f (own_ix p2)) &&& ((own_bo p2) ^^^ (-1 : Int64)))), .second] [(.ref a1)])) _
            exact k)
          obtain ⟨T33, X33, e33, st33⟩ := getF X30 hx hZ hown (host := "") (Or.inl (hw _ (List.mem_of_getElem? (i := 19) rfl))) Via.refl e30 Ff_a1_23 (g := (mkF m 74 #[.val (.ref a1), .val (.int p2), .val (.int (own_wd p2)), .val (.long (f (own_ix p2))), .second, .val (.long ((f (own_ix p2)) &&& ((own_bo p2) ^^^ (-1 : Int64)))), .second] [(.ref a1)])) rfl rfl (hb hby d4_74)
          have pre34 : ∀ t, Steps p.tables e below (T33.setTop (mkF m 77 #[.val (.ref a1), .val (.int p2), .val (.int (own_wd p2)), .val (.long (f (own_ix p2))), .second, .val (.long ((f (own_ix p2)) &&& ((own_bo p2) ^^^ (-1 : Int64)))), .second] [(.ref b)])) t → Steps p.tables e below (s₁.setTop (entryFrame m #[(.ref a1), (.int p2)] 7)) t := fun t k => pre32 t (by
            show Steps p.tables e below (T30.setTop (mkF m 74 #[.val (.ref a1), .val (.int p2), .val (.int (own_wd p2)), .val (.long (f (own_ix p2))), .second, .val (.long ((f (own_ix p2)) &&& ((own_bo p2) ^^^ (-1 : Int64)))), .second] [(.ref a1)])) t
            refine st33 _ ?_
            show Steps p.tables e below (T33.setTop (mkF m 77 #[.val (.ref a1), .val (.int p2), .val (.int (own_wd p2)), .val (.long (f (own_ix p2))), .second, .val (.long ((f (own_ix p2)) &&& ((own_bo p2) ^^^ (-1 : Int64)))), .second] [(.ref b)])) t
            exact k)
          have pre35 : ∀ t, Steps p.tables e below (T33.setTop (mkF m 78 #[.val (.ref a1), .val (.int p2), .val (.int (own_wd p2)), .val (.long (f (own_ix p2))), .second, .val (.long ((f (own_ix p2)) &&& ((own_bo p2) ^^^ (-1 : Int64)))), .second] [(.int (own_wd p2)), (.ref b)])) t → Steps p.tables e below (s₁.setTop (entryFrame m #[(.ref a1), (.int p2)] 7)) t := fun t k => pre34 t (by
            show Steps p.tables e below (T33.setTop (mkF m 77 #[.val (.ref a1), .val (.int p2), .val (.int (own_wd p2)), .val (.long (f (own_ix p2))), .second, .val (.long ((f (own_ix p2)) &&& ((own_bo p2) ^^^ (-1 : Int64)))), .second] [(.ref b)])) _
            refine XS.iloadN X33.here hx rfl (hb hby d4_77) rfl ?_
            show Steps p.tables e below (T33.setTop (mkF m 78 #[.val (.ref a1), .val (.int p2), .val (.int (own_wd p2)), .val (.long (f (own_ix p2))), .second, .val (.long ((f (own_ix p2)) &&& ((own_bo p2) ^^^ (-1 : Int64)))), .second] [(.int (own_wd p2)), (.ref b)])) _
            exact k)
          obtain ⟨cq36, kq36, q36a, q36b, q36c⟩ := isOf hZ e33 LF.1
          obtain ⟨_, _, ⟨T36, L36, k36, n36⟩, -, X36, ⟨Lc36, hQ36, l36, y36, z36⟩, st36⟩ := X33.virtualBack hx (y := (⟨"com/example/berchta/berchta/learn/NodeSet", "remove", "(I)V"⟩ : MethodName)) (z := (⟨"com/example/berchta/berchta/learn/NodeSet", "remove", "(I)V"⟩ : MethodName)) hown (mvT hZ (hw _ (List.mem_of_getElem? (i := 81) rfl))) (mvT hZ (hw _ (List.mem_of_getElem? (i := 22) rfl))) (notFace_of_selects (args := #[]) (mvT hZ (hw _ (List.mem_of_getElem? (i := 24) rfl)))) (mvT hZ (hw _ (List.mem_of_getElem? (i := 24) rfl))) (mvT hZ (hw _ (List.mem_of_getElem? (i := 23) rfl))) (by decide) (backOf (W := 0) (rmLremove l Z a0 hw [] b (own_wd p2) fw zf gg s2 h23 n0 (Nat.le_trans g_a1 (Nat.le_of_lt E_a1_23.lt)) LF ⟨own_wd_pos p2, hwd⟩) hZ (hw _ (List.mem_of_getElem? (i := 25) rfl)) (hw _ (List.mem_of_getElem? (i := 2) rfl)) (by decide) (by decide)) q36a q36c (g := (mkF m 78 #[.val (.ref a1), .val (.int p2), .val (.int (own_wd p2)), .val (.long (f (own_ix p2))), .second, .val (.long ((f (own_ix p2)) &&& ((own_bo p2) ^^^ (-1 : Int64)))), .second] [(.int (own_wd p2)), (.ref b)])) rfl (by rw [hml]; rfl) (Steps.refl _) (argsL := [(.int (own_wd p2))]) (rest := []) (lenOf pdx_2 rfl) rfl (by show 2 * 0 + _ ≤ _; exact Nat.le_of_eq rfl) (hb hby d4_78) (fun _ _ => ⟨rfl, e33, (by decide : 0 + 0 ≤ _), (by decide : 0 + 0 ≤ _)⟩)
          dsimp only [Pt.U, Pt.locs, Pt.cells, Pt.slots] at X36 l36 y36 z36 st36 hQ36
          subst l36 y36 z36
          obtain ⟨fw', zf', s', rfl, N36q, LF', K36, hfw'⟩ := hQ36
          have N36 := Fr.app N23 N36q
          have pre37 : ∀ t, Steps p.tables e below (T36.setTop (mkF m 81 #[.val (.ref a1), .val (.int p2), .val (.int (own_wd p2)), .val (.long (f (own_ix p2))), .second, .val (.long ((f (own_ix p2)) &&& ((own_bo p2) ^^^ (-1 : Int64)))), .second] [])) t → Steps p.tables e below (s₁.setTop (entryFrame m #[(.ref a1), (.int p2)] 7)) t := fun t k => pre35 t (by
            show Steps p.tables e below (T33.setTop (mkF m 78 #[.val (.ref a1), .val (.int p2), .val (.int (own_wd p2)), .val (.long (f (own_ix p2))), .second, .val (.long ((f (own_ix p2)) &&& ((own_bo p2) ^^^ (-1 : Int64)))), .second] [(.int (own_wd p2)), (.ref b)])) t
            refine st36.trans ?_
            show Steps p.tables e below (T36.setTop (mkF m 81 #[.val (.ref a1), .val (.int p2), .val (.int (own_wd p2)), .val (.long (f (own_ix p2))), .second, .val (.long ((f (own_ix p2)) &&& ((own_bo p2) ^^^ (-1 : Int64)))), .second] [])) t
            exact k)
          have E_a1_36 := E_a1_23.keep K36
          have Fw_a1_36 := Fw_a1_23.keep K36 (List.not_mem_cons_of_ne_of_not_mem n1 (List.not_mem_cons_of_ne_of_not_mem n2 List.not_mem_nil))
          have Ff_a1_36 := Ff_a1_23.keep K36 (List.not_mem_cons_of_ne_of_not_mem n1 (List.not_mem_cons_of_ne_of_not_mem n2 List.not_mem_nil))
          have Fs_a1_36 := Fs_a1_23.keep K36 (List.not_mem_cons_of_ne_of_not_mem n1 (List.not_mem_cons_of_ne_of_not_mem n2 List.not_mem_nil))
          have Vw_w_36 := Vw_w_23.keep K36 (List.not_mem_cons_of_ne_of_not_mem n3 (List.not_mem_cons_of_ne_of_not_mem n4 List.not_mem_nil))
          obtain ⟨fs, hr, hrun, hended, hW, hsame⟩ := X36.leave (v := none) (fun _ => rfl)
          refine ⟨_, _, pre37 _ ?_, hrun, hended, _, _, rfl, ?_, ⟨_, rfl⟩, hW, hsame.mono (by decide) (by decide)⟩
          · show Steps p.tables e below (T36.setTop (mkF m 81 #[.val (.ref a1), .val (.int p2), .val (.int (own_wd p2)), .val (.long (f (own_ix p2))), .second, .val (.long ((f (own_ix p2)) &&& ((own_bo p2) ^^^ (-1 : Int64)))), .second] [])) _
            exact X36.returnOut hx Bd.returns (hb hby d4_81) hr
          · show QTremove Z a1 p2 w z f sz _ h0 n0 _ T36.heap _
            exact ⟨w, z, _, _, rfl, N36, ⟨E_a1_36, Fw_a1_36, Ff_a1_36, Fs_a1_36, Vw_w_36, hz, own_rem_out hf0 hlt, own_rem_out (z := 128) hf128 hwd, g_a1, g_w, naw, Or.inr ⟨b, fw', zf', _, s', rfl, LF', own_rel_rem rel hz0, n1, own_ne_new n2 E_a1_23.lt hfw', n3, own_ne_new n4 Vw_w_23.lt hfw'⟩⟩, (if_pos hbit).symm⟩
      · skip
        have pre38 : ∀ t, Steps p.tables e below (T23.setTop (mkF m 81 #[.val (.ref a1), .val (.int p2), .val (.int (own_wd p2)), .val (.long (f (own_ix p2))), .second, .val (.long ((f (own_ix p2)) &&& ((own_bo p2) ^^^ (-1 : Int64)))), .second] [])) t → Steps p.tables e below (s₁.setTop (entryFrame m #[(.ref a1), (.int p2)] 7)) t := fun t k => pre25 t (by
          show Steps p.tables e below (T23.setTop (mkF m 63 #[.val (.ref a1), .val (.int p2), .val (.int (own_wd p2)), .val (.long (f (own_ix p2))), .second, .val (.long ((f (own_ix p2)) &&& ((own_bo p2) ^^^ (-1 : Int64)))), .second] [(.int (lcmpW ((f (own_ix p2)) &&& ((own_bo p2) ^^^ (-1 : Int64))) (0 : Int64)))])) _
          refine XS.ifYes X23.here hx rfl (pc0 := 63) (pc' := 81) rfl (hb hby d4_63) rfl ((if0 _ _).trans (feq (fun q => hz0 ((lw_eq _ _).mp q))).2) (by decide) (by decide) ?_
          show Steps p.tables e below (T23.setTop (mkF m 81 #[.val (.ref a1), .val (.int p2), .val (.int (own_wd p2)), .val (.long (f (own_ix p2))), .second, .val (.long ((f (own_ix p2)) &&& ((own_bo p2) ^^^ (-1 : Int64)))), .second] [])) _
          exact k)
        obtain ⟨fs, hr, hrun, hended, hW, hsame⟩ := X23.leave (v := none) (fun _ => rfl)
        refine ⟨_, _, pre38 _ ?_, hrun, hended, _, _, rfl, ?_, ⟨_, rfl⟩, hW, hsame.mono (by decide) (by decide)⟩
        · show Steps p.tables e below (T23.setTop (mkF m 81 #[.val (.ref a1), .val (.int p2), .val (.int (own_wd p2)), .val (.long (f (own_ix p2))), .second, .val (.long ((f (own_ix p2)) &&& ((own_bo p2) ^^^ (-1 : Int64)))), .second] [])) _
          exact X23.returnOut hx Bd.returns (hb hby d4_81) hr
        · show QTremove Z a1 p2 w z f sz _ h0 n0 _ T23.heap _
          rw [e23]
          exact ⟨w, z, _, _, rfl, N23, ⟨E_a1_23, Fw_a1_23, Ff_a1_23, Fs_a1_23, Vw_w_23, hz, own_rem_out hf0 hlt, own_rem_out (z := 128) hf128 hwd, g_a1, g_w, naw, own_fil_same HF_23 (own_rem_zero hz0)⟩, (if_pos hbit).symm⟩
    · skip
      have pre39 : ∀ t, Steps p.tables e below (T7.setTop (mkF m 40 #[.val (.ref a1), .val (.int p2), .val (.int (own_wd p2)), .val (.long (f (own_ix p2))), .second, .val (.long ((f (own_ix p2)) &&& ((own_bo p2) ^^^ (-1 : Int64)))), .second] [])) t → Steps p.tables e below (s₁.setTop (entryFrame m #[(.ref a1), (.int p2)] 7)) t := fun t k => pre12 t (by
        show Steps p.tables e below (T7.setTop (mkF m 37 #[.val (.ref a1), .val (.int p2), .val (.int (own_wd p2)), .val (.long (f (own_ix p2))), .second, .val (.long ((f (own_ix p2)) &&& ((own_bo p2) ^^^ (-1 : Int64)))), .second] [(.int (lcmpW ((f (own_ix p2)) &&& ((own_bo p2) ^^^ (-1 : Int64))) (f (own_ix p2))))])) _
        refine XS.ifNo X7.here hx rfl (hb hby d4_37) rfl ((if0 _ _).trans (teq ((lw_eq _ _).mpr ((own_and_same _ _).mpr (Bool.eq_false_iff.mpr hbit)))).2) ?_
        show Steps p.tables e below (T7.setTop (mkF m 40 #[.val (.ref a1), .val (.int p2), .val (.int (own_wd p2)), .val (.long (f (own_ix p2))), .second, .val (.long ((f (own_ix p2)) &&& ((own_bo p2) ^^^ (-1 : Int64)))), .second] [])) _
        exact k)
      obtain ⟨fs, hr, hrun, hended, hW, hsame⟩ := X7.leave (v := none) (fun _ => rfl)
      refine ⟨_, _, pre39 _ ?_, hrun, hended, _, _, rfl, ?_, ⟨_, rfl⟩, hW, hsame.mono (by decide) (by decide)⟩
      · show Steps p.tables e below (T7.setTop (mkF m 40 #[.val (.ref a1), .val (.int p2), .val (.int (own_wd p2)), .val (.long (f (own_ix p2))), .second, .val (.long ((f (own_ix p2)) &&& ((own_bo p2) ^^^ (-1 : Int64)))), .second] [])) _
        exact X7.returnOut hx Bd.returns (hb hby d4_40) hr
      · show QTremove Z a1 p2 w z f sz _ h0 n0 _ T7.heap _
        rw [e7]
        exact ⟨w, z, sz, fl, rfl, N0, by rw [own_rem_id (Bool.eq_false_iff.mpr hbit)]; exact ⟨E_a1, Fw_a1, Ff_a1, Fs_a1, Vw_w, hz, hf0, hf128, g_a1, g_w, naw, HF⟩, (if_neg hbit).symm⟩
  · skip
    have pre40 : ∀ t, Steps p.tables e below (T2.setTop (mkF m 14 #[.val (.ref a1), .val (.int p2), .val (.int (own_wd p2)), .unset, .unset, .unset, .unset] [])) t → Steps p.tables e below (s₁.setTop (entryFrame m #[(.ref a1), (.int p2)] 7)) t := fun t k => pre5 t (by
      show Steps p.tables e below (T2.setTop (mkF m 11 #[.val (.ref a1), .val (.int p2), .val (.int (own_wd p2)), .unset, .unset, .unset, .unset] [(.int z), (.int (own_wd p2))])) _
      refine XS.icmpNo X2.here hx rfl (hb hby d4_11) rfl (flt hlt).1 ?_
      show Steps p.tables e below (T2.setTop (mkF m 14 #[.val (.ref a1), .val (.int p2), .val (.int (own_wd p2)), .unset, .unset, .unset, .unset] [])) _
      exact k)
    obtain ⟨fs, hr, hrun, hended, hW, hsame⟩ := X2.leave (v := none) (fun _ => rfl)
    refine ⟨_, _, pre40 _ ?_, hrun, hended, _, _, rfl, ?_, ⟨_, rfl⟩, hW, hsame.mono (by decide) (by decide)⟩
    · show Steps p.tables e below (T2.setTop (mkF m 14 #[.val (.ref a1), .val (.int p2), .val (.int (own_wd p2)), .unset, .unset, .unset, .unset] [])) _
      exact X2.returnOut hx Bd.returns (hb hby d4_14) hr
    · show QTremove Z a1 p2 w z f sz _ h0 n0 _ T2.heap _
      rw [e2]
      exact ⟨w, z, sz, fl, rfl, N0, by rw [own_rem_far hf0 hlt]; exact TP, (if_neg (own_mem_out hf0 hlt)).symm⟩
theorem d6_0 : decode prog_101_method_6_code 0 = .ok (.aload_n 0, 1) := by decide +kernel
theorem d6_1 : decode prog_101_method_6_code 1 = .ok (.getfield 27, 3) := by decide +kernel
theorem d6_4 : decode prog_101_method_6_code 4 = .ok (.ifCond .ne 7, 3) := by decide +kernel
theorem d6_7 : decode prog_101_method_6_code 7 = .ok (.iconst 1, 1) := by decide +kernel
theorem d6_8 : decode prog_101_method_6_code 8 = .ok (.goto 4, 3) := by decide +kernel
theorem d6_11 : decode prog_101_method_6_code 11 = .ok (.iconst 0, 1) := by decide +kernel
theorem d6_12 : decode prog_101_method_6_code 12 = .ok (.ireturn, 1) := by decide +kernel
theorem pn_6 : plainName "com/example/berchta/berchta/learn/NodeSet" = true := by first | (simp [plainName, overriddenIn]; done) | decide +kernel
theorem ef_6 (m : MethodId) (x0 : Addr) : entryFrame m #[(.ref x0)] 1 = mkF m 0 #[.val (.ref x0)] [] := by first | (simp [entryFrame, mkF, argsToLocals, Value.category]; done) | rfl
def Q6 (Z : State) (a1 : Addr) (sz : Int32) (h0 : Heap) (n0 : Nat) (v : Option Value) (h : Heap) (L : List Loc) : Prop := v = some (.int (own_emp sz)) ∧ Fr n0 L ∧ h = h0
set_option maxRecDepth 65536 in
set_option maxHeartbeats 40000000 in
theorem rm6 (l : Launch) (Z : State) (a0 : Array Value) (hw : ∀ d ∈ tables_1, d.before a0 Z = true) (ws : List Jvm.Cond) (a1 : Addr) (sz : Int32) (h0 : Heap) (n0 : Nat) (Z0 : n0 ≤ h0.size) (Fs : Fld Z h0 a1 "com/example/berchta/berchta/learn/NodeSet" "size" "I" (.int sz)) :
    MetFree l (⟨"com/example/berchta/berchta/learn/NodeSet", "isEmpty", "()Z"⟩ : MethodName) (head1 (Jvm.Cond.code (⟨"com/example/berchta/berchta/learn/NodeSet", "isEmpty", "()Z"⟩ : MethodName) prog_101_method_6_code 1 (some .boolean) :: ws) ({ frames := 0, cells := 0, slots := 0, locals := 0 } : Room)) (fun a U => a = #[(.ref a1)] ∧ Z.Warmed39 U.vm ∧ U.heap = h0) (fun _ _ _ _ _ => True) (fun _ U o U' => ∃ v L, o = .returned v ∧ Q6 Z a1 sz h0 n0 v U'.heap L ∧ FrameEnd U o U' L ({ frames := 0, cells := 0, slots := 0, locals := 0 } : Room).cells ({ frames := 0, cells := 0, slots := 0, locals := 0 } : Room).slots) := by
  refine MetFree.of_bodySF (plainFor_of_name pn_6) hisR ?_
  intro p e s m args below meth c s₁ Bd hml0 hP hK
  obtain ⟨rfl, hZ, hh⟩ := hP
  have hx := Bd.exec
  have hby := Bd.bytes
  have hml : c.maxLocals = 1 := hml0
  have hown : s.vm.findClass "com/example/berchta/berchta/learn/NodeSet" = some m.cls := findClass_of_methodNamed Bd.named
  have hnm := (name_of_methodNamed Bd.named Bd.method).1
  have X0 : Stand p l e ({ frames := 0, cells := 0, slots := 0, locals := 0 } : Room) s m #[(.ref a1)] below meth c s₁ [] 0 0 := Stand.of_body Bd
  have e0 : s₁.heap = h0 := by rw [← hh, Bd.state]; rfl
  have N0 := Fr.nil n0
  have pre0 : ∀ t, Steps p.tables e below (s₁.setTop (mkF m 0 #[.val (.ref a1)] [])) t → Steps p.tables e below (s₁.setTop (entryFrame m #[(.ref a1)] 1)) t := fun t k => castTop (ef_6 m a1) k
  have pre1 : ∀ t, Steps p.tables e below (s₁.setTop (mkF m 1 #[.val (.ref a1)] [(.ref a1)])) t → Steps p.tables e below (s₁.setTop (entryFrame m #[(.ref a1)] 1)) t := fun t k => pre0 t (by
    show Steps p.tables e below (s₁.setTop (mkF m 0 #[.val (.ref a1)] [])) _
    refine XS.aloadN X0.here hx rfl (hb hby d6_0) rfl rfl ?_
    show Steps p.tables e below (s₁.setTop (mkF m 1 #[.val (.ref a1)] [(.ref a1)])) _
    exact k)
  obtain ⟨T2, X2, e2, st2⟩ := getF X0 hx hZ hown (host := "") (Or.inl (hw _ (List.mem_of_getElem? (i := 17) rfl))) Via.refl e0 Fs (g := (mkF m 1 #[.val (.ref a1)] [(.ref a1)])) rfl rfl (hb hby d6_1)
  have pre3 : ∀ t, Steps p.tables e below (T2.setTop (mkF m 4 #[.val (.ref a1)] [(.int sz)])) t → Steps p.tables e below (s₁.setTop (entryFrame m #[(.ref a1)] 1)) t := fun t k => pre1 t (by
    show Steps p.tables e below (s₁.setTop (mkF m 1 #[.val (.ref a1)] [(.ref a1)])) t
    refine st2 _ ?_
    show Steps p.tables e below (T2.setTop (mkF m 4 #[.val (.ref a1)] [(.int sz)])) t
    exact k)
  by_cases hc : sz = (0 : Int32)
  · skip
    have pre4 : ∀ t, Steps p.tables e below (T2.setTop (mkF m 12 #[.val (.ref a1)] [(.int (1 : Int32))])) t → Steps p.tables e below (s₁.setTop (entryFrame m #[(.ref a1)] 1)) t := fun t k => pre3 t (by
      show Steps p.tables e below (T2.setTop (mkF m 4 #[.val (.ref a1)] [(.int sz)])) _
      refine XS.ifNo X2.here hx rfl (hb hby d6_4) rfl ((if0 _ _).trans (teq hc).2) ?_
      show Steps p.tables e below (T2.setTop (mkF m 7 #[.val (.ref a1)] [])) _
      refine XS.iconst X2.here hx rfl (hb hby d6_7) ?_
      show Steps p.tables e below (T2.setTop (mkF m 8 #[.val (.ref a1)] [(.int (1 : Int32))])) _
      refine XS.goto X2.here hx rfl (pc0 := 8) (pc' := 12) rfl (hb hby d6_8) (by decide) (by decide) ?_
      show Steps p.tables e below (T2.setTop (mkF m 12 #[.val (.ref a1)] [(.int (1 : Int32))])) _
      exact k)
    obtain ⟨fs, hr, hrun, hended, hW, hsame⟩ := X2.leave (v := some (.int (1 : Int32))) (fun h => by rw [Bd.returns] at h; cases h)
    refine ⟨_, _, pre4 _ ?_, hrun, hended, _, _, rfl, ?_, ⟨_, rfl⟩, hW, hsame.mono (by decide) (by decide)⟩
    · show Steps p.tables e below (T2.setTop (mkF m 12 #[.val (.ref a1)] [(.int (1 : Int32))])) _
      exact retN X2 hx (t := .boolean) Bd.returns (by simp) (hb hby d6_12) hr
    · show Q6 Z a1 sz h0 n0 _ T2.heap _
      rw [e2]
      exact ⟨congrArg (fun z => some (Value.int z)) (Eq.symm (if_pos hc)), N0, rfl⟩
  · skip
    have pre5 : ∀ t, Steps p.tables e below (T2.setTop (mkF m 12 #[.val (.ref a1)] [(.int (0 : Int32))])) t → Steps p.tables e below (s₁.setTop (entryFrame m #[(.ref a1)] 1)) t := fun t k => pre3 t (by
      show Steps p.tables e below (T2.setTop (mkF m 4 #[.val (.ref a1)] [(.int sz)])) _
      refine XS.ifYes X2.here hx rfl (pc0 := 4) (pc' := 11) rfl (hb hby d6_4) rfl ((if0 _ _).trans (feq hc).2) (by decide) (by decide) ?_
      show Steps p.tables e below (T2.setTop (mkF m 11 #[.val (.ref a1)] [])) _
      refine XS.iconst X2.here hx rfl (hb hby d6_11) ?_
      show Steps p.tables e below (T2.setTop (mkF m 12 #[.val (.ref a1)] [(.int (0 : Int32))])) _
      exact k)
    obtain ⟨fs, hr, hrun, hended, hW, hsame⟩ := X2.leave (v := some (.int (0 : Int32))) (fun h => by rw [Bd.returns] at h; cases h)
    refine ⟨_, _, pre5 _ ?_, hrun, hended, _, _, rfl, ?_, ⟨_, rfl⟩, hW, hsame.mono (by decide) (by decide)⟩
    · show Steps p.tables e below (T2.setTop (mkF m 12 #[.val (.ref a1)] [(.int (0 : Int32))])) _
      exact retN X2 hx (t := .boolean) Bd.returns (by simp) (hb hby d6_12) hr
    · show Q6 Z a1 sz h0 n0 _ T2.heap _
      rw [e2]
      exact ⟨congrArg (fun z => some (Value.int z)) (Eq.symm (if_neg hc)), N0, rfl⟩
theorem d9_0 : decode jdk_33_method_48_code 0 = .ok (.iload_n 0, 1) := by decide +kernel
theorem d9_1 : decode jdk_33_method_48_code 1 = .ok (.iconst (-1), 1) := by decide +kernel
theorem d9_2 : decode jdk_33_method_48_code 2 = .ok (.ixor, 1) := by decide +kernel
theorem d9_3 : decode jdk_33_method_48_code 3 = .ok (.iload_n 0, 1) := by decide +kernel
theorem d9_4 : decode jdk_33_method_48_code 4 = .ok (.iconst 1, 1) := by decide +kernel
theorem d9_5 : decode jdk_33_method_48_code 5 = .ok (.isub, 1) := by decide +kernel
theorem d9_6 : decode jdk_33_method_48_code 6 = .ok (.iand, 1) := by decide +kernel
theorem d9_7 : decode jdk_33_method_48_code 7 = .ok (.istore_n 0, 1) := by decide +kernel
theorem d9_8 : decode jdk_33_method_48_code 8 = .ok (.iload_n 0, 1) := by decide +kernel
theorem d9_9 : decode jdk_33_method_48_code 9 = .ok (.ifCond .gt 8, 3) := by decide +kernel
theorem d9_12 : decode jdk_33_method_48_code 12 = .ok (.iload_n 0, 1) := by decide +kernel
theorem d9_13 : decode jdk_33_method_48_code 13 = .ok (.bipush 32, 2) := by decide +kernel
theorem d9_15 : decode jdk_33_method_48_code 15 = .ok (.iand, 1) := by decide +kernel
theorem d9_16 : decode jdk_33_method_48_code 16 = .ok (.ireturn, 1) := by decide +kernel
theorem d9_17 : decode jdk_33_method_48_code 17 = .ok (.iconst 1, 1) := by decide +kernel
theorem d9_18 : decode jdk_33_method_48_code 18 = .ok (.istore_n 1, 1) := by decide +kernel
theorem d9_19 : decode jdk_33_method_48_code 19 = .ok (.iload_n 0, 1) := by decide +kernel
theorem d9_20 : decode jdk_33_method_48_code 20 = .ok (.ldc_w 264, 3) := by decide +kernel
theorem d9_23 : decode jdk_33_method_48_code 23 = .ok (.if_icmp .le 11, 3) := by decide +kernel
theorem d9_26 : decode jdk_33_method_48_code 26 = .ok (.iinc 1 16, 3) := by decide +kernel
theorem d9_29 : decode jdk_33_method_48_code 29 = .ok (.iload_n 0, 1) := by decide +kernel
theorem d9_30 : decode jdk_33_method_48_code 30 = .ok (.bipush 16, 2) := by decide +kernel
theorem d9_32 : decode jdk_33_method_48_code 32 = .ok (.iushr, 1) := by decide +kernel
theorem d9_33 : decode jdk_33_method_48_code 33 = .ok (.istore_n 0, 1) := by decide +kernel
theorem d9_34 : decode jdk_33_method_48_code 34 = .ok (.iload_n 0, 1) := by decide +kernel
theorem d9_35 : decode jdk_33_method_48_code 35 = .ok (.sipush 256, 3) := by decide +kernel
theorem d9_38 : decode jdk_33_method_48_code 38 = .ok (.if_icmp .le 11, 3) := by decide +kernel
theorem d9_41 : decode jdk_33_method_48_code 41 = .ok (.iinc 1 8, 3) := by decide +kernel
theorem d9_44 : decode jdk_33_method_48_code 44 = .ok (.iload_n 0, 1) := by decide +kernel
theorem d9_45 : decode jdk_33_method_48_code 45 = .ok (.bipush 8, 2) := by decide +kernel
theorem d9_47 : decode jdk_33_method_48_code 47 = .ok (.iushr, 1) := by decide +kernel
theorem d9_48 : decode jdk_33_method_48_code 48 = .ok (.istore_n 0, 1) := by decide +kernel
theorem d9_49 : decode jdk_33_method_48_code 49 = .ok (.iload_n 0, 1) := by decide +kernel
theorem d9_50 : decode jdk_33_method_48_code 50 = .ok (.bipush 16, 2) := by decide +kernel
theorem d9_52 : decode jdk_33_method_48_code 52 = .ok (.if_icmp .le 10, 3) := by decide +kernel
theorem d9_55 : decode jdk_33_method_48_code 55 = .ok (.iinc 1 4, 3) := by decide +kernel
theorem d9_58 : decode jdk_33_method_48_code 58 = .ok (.iload_n 0, 1) := by decide +kernel
theorem d9_59 : decode jdk_33_method_48_code 59 = .ok (.iconst 4, 1) := by decide +kernel
theorem d9_60 : decode jdk_33_method_48_code 60 = .ok (.iushr, 1) := by decide +kernel
theorem d9_61 : decode jdk_33_method_48_code 61 = .ok (.istore_n 0, 1) := by decide +kernel
theorem d9_62 : decode jdk_33_method_48_code 62 = .ok (.iload_n 0, 1) := by decide +kernel
theorem d9_63 : decode jdk_33_method_48_code 63 = .ok (.iconst 4, 1) := by decide +kernel
theorem d9_64 : decode jdk_33_method_48_code 64 = .ok (.if_icmp .le 10, 3) := by decide +kernel
theorem d9_67 : decode jdk_33_method_48_code 67 = .ok (.iinc 1 2, 3) := by decide +kernel
theorem d9_70 : decode jdk_33_method_48_code 70 = .ok (.iload_n 0, 1) := by decide +kernel
theorem d9_71 : decode jdk_33_method_48_code 71 = .ok (.iconst 2, 1) := by decide +kernel
theorem d9_72 : decode jdk_33_method_48_code 72 = .ok (.iushr, 1) := by decide +kernel
theorem d9_73 : decode jdk_33_method_48_code 73 = .ok (.istore_n 0, 1) := by decide +kernel
theorem d9_74 : decode jdk_33_method_48_code 74 = .ok (.iload_n 1, 1) := by decide +kernel
theorem d9_75 : decode jdk_33_method_48_code 75 = .ok (.iload_n 0, 1) := by decide +kernel
theorem d9_76 : decode jdk_33_method_48_code 76 = .ok (.iconst 1, 1) := by decide +kernel
theorem d9_77 : decode jdk_33_method_48_code 77 = .ok (.iushr, 1) := by decide +kernel
theorem d9_78 : decode jdk_33_method_48_code 78 = .ok (.iadd, 1) := by decide +kernel
theorem d9_79 : decode jdk_33_method_48_code 79 = .ok (.ireturn, 1) := by decide +kernel
theorem pn_9 : plainName "java/lang/Integer" = true := by first | (simp [plainName, overriddenIn]; done) | decide +kernel
theorem ef_9 (m : MethodId) (x0 : Int32) : entryFrame m #[(.int x0)] 2 = mkF m 0 #[.val (.int x0), .unset] [] := by first | (simp [entryFrame, mkF, argsToLocals, Value.category]; done) | rfl
def Q9 (Z : State) (p1 : Int32) (h0 : Heap) (n0 : Nat) (v : Option Value) (h : Heap) (L : List Loc) : Prop := v = some (.int (own_ctzI p1)) ∧ Fr n0 L ∧ h = h0
set_option maxRecDepth 65536 in
set_option maxHeartbeats 40000000 in
theorem rm9 (l : Launch) (Z : State) (a0 : Array Value) (hw : ∀ d ∈ tables_1, d.before a0 Z = true) (ws : List Jvm.Cond) (p1 : Int32) (h0 : Heap) (n0 : Nat) (Z0 : n0 ≤ h0.size) :
    MetFree l (⟨"java/lang/Integer", "numberOfTrailingZeros", "(I)I"⟩ : MethodName) (head1 (Jvm.Cond.code (⟨"java/lang/Integer", "numberOfTrailingZeros", "(I)I"⟩ : MethodName) jdk_33_method_48_code 2 (some .int) :: ws) ({ frames := 0, cells := 0, slots := 0, locals := 0 } : Room)) (fun a U => a = #[(.int p1)] ∧ Z.Warmed39 U.vm ∧ U.heap = h0) (fun _ _ _ _ _ => True) (fun _ U o U' => ∃ v L, o = .returned v ∧ Q9 Z p1 h0 n0 v U'.heap L ∧ FrameEnd U o U' L ({ frames := 0, cells := 0, slots := 0, locals := 0 } : Room).cells ({ frames := 0, cells := 0, slots := 0, locals := 0 } : Room).slots) := by
  refine MetFree.of_bodySF (plainFor_of_name pn_9) hisR ?_
  intro p e s m args below meth c s₁ Bd hml0 hP hK
  obtain ⟨rfl, hZ, hh⟩ := hP
  have hx := Bd.exec
  have hby := Bd.bytes
  have hml : c.maxLocals = 2 := hml0
  have hown : s.vm.findClass "java/lang/Integer" = some m.cls := findClass_of_methodNamed Bd.named
  have hnm := (name_of_methodNamed Bd.named Bd.method).1
  have X0 : Stand p l e ({ frames := 0, cells := 0, slots := 0, locals := 0 } : Room) s m #[(.int p1)] below meth c s₁ [] 0 0 := Stand.of_body Bd
  have e0 : s₁.heap = h0 := by rw [← hh, Bd.state]; rfl
  have N0 := Fr.nil n0
  have pre0 : ∀ t, Steps p.tables e below (s₁.setTop (mkF m 0 #[.val (.int p1), .unset] [])) t → Steps p.tables e below (s₁.setTop (entryFrame m #[(.int p1)] 2)) t := fun t k => castTop (ef_9 m p1) k
  have pre1 : ∀ t, Steps p.tables e below (s₁.setTop (mkF m 9 #[.val (.int (own_i0 p1)), .unset] [(.int (own_i0 p1))])) t → Steps p.tables e below (s₁.setTop (entryFrame m #[(.int p1)] 2)) t := fun t k => pre0 t (by
    show Steps p.tables e below (s₁.setTop (mkF m 0 #[.val (.int p1), .unset] [])) _
    refine XS.iloadN X0.here hx rfl (hb hby d9_0) rfl ?_
    show Steps p.tables e below (s₁.setTop (mkF m 1 #[.val (.int p1), .unset] [(.int p1)])) _
    refine XS.iconst X0.here hx rfl (hb hby d9_1) ?_
    show Steps p.tables e below (s₁.setTop (mkF m 2 #[.val (.int p1), .unset] [(.int (-1 : Int32)), (.int p1)])) _
    refine XS.ixor X0.here hx rfl (hb hby d9_2) rfl ?_
    show Steps p.tables e below (s₁.setTop (mkF m 3 #[.val (.int p1), .unset] [(.int (p1 ^^^ (-1 : Int32)))])) _
    refine XS.iloadN X0.here hx rfl (hb hby d9_3) rfl ?_
    show Steps p.tables e below (s₁.setTop (mkF m 4 #[.val (.int p1), .unset] [(.int p1), (.int (p1 ^^^ (-1 : Int32)))])) _
    refine XS.iconst X0.here hx rfl (hb hby d9_4) ?_
    show Steps p.tables e below (s₁.setTop (mkF m 5 #[.val (.int p1), .unset] [(.int (1 : Int32)), (.int p1), (.int (p1 ^^^ (-1 : Int32)))])) _
    refine XS.isub X0.here hx rfl (hb hby d9_5) rfl ?_
    show Steps p.tables e below (s₁.setTop (mkF m 6 #[.val (.int p1), .unset] [(.int (p1 - (1 : Int32))), (.int (p1 ^^^ (-1 : Int32)))])) _
    refine XS.iand X0.here hx rfl (hb hby d9_6) rfl ?_
    show Steps p.tables e below (s₁.setTop (mkF m 7 #[.val (.int p1), .unset] [(.int ((p1 ^^^ (-1 : Int32)) &&& (p1 - (1 : Int32))))])) _
    refine XS.istoreN X0.here hx rfl (hb hby d9_7) rfl (l' := #[.val (.int (own_i0 p1)), .unset]) rfl ?_
    show Steps p.tables e below (s₁.setTop (mkF m 8 #[.val (.int (own_i0 p1)), .unset] [])) _
    refine XS.iloadN X0.here hx rfl (hb hby d9_8) rfl ?_
    show Steps p.tables e below (s₁.setTop (mkF m 9 #[.val (.int (own_i0 p1)), .unset] [(.int (own_i0 p1))])) _
    exact k)
  by_cases h0i : (0 : Int32) < (own_i0 p1)
  · skip
    have pre2 : ∀ t, Steps p.tables e below (s₁.setTop (mkF m 19 #[.val (.int (own_i0 p1)), .val (.int (1 : Int32))] [])) t → Steps p.tables e below (s₁.setTop (entryFrame m #[(.int p1)] 2)) t := fun t k => pre1 t (by
      show Steps p.tables e below (s₁.setTop (mkF m 9 #[.val (.int (own_i0 p1)), .unset] [(.int (own_i0 p1))])) _
      refine XS.ifYes X0.here hx rfl (pc0 := 9) (pc' := 17) rfl (hb hby d9_9) rfl ((if0 _ _).trans (tlt h0i).2.2.1) (by decide) (by decide) ?_
      show Steps p.tables e below (s₁.setTop (mkF m 17 #[.val (.int (own_i0 p1)), .unset] [])) _
      refine XS.iconst X0.here hx rfl (hb hby d9_17) ?_
      show Steps p.tables e below (s₁.setTop (mkF m 18 #[.val (.int (own_i0 p1)), .unset] [(.int (1 : Int32))])) _
      refine XS.istoreN X0.here hx rfl (hb hby d9_18) rfl (l' := #[.val (.int (own_i0 p1)), .val (.int (1 : Int32))]) rfl ?_
      show Steps p.tables e below (s₁.setTop (mkF m 19 #[.val (.int (own_i0 p1)), .val (.int (1 : Int32))] [])) _
      exact k)
    have pre3 : ∀ t, Steps p.tables e below (s₁.setTop (mkF m 34 #[.val (.int (own_c1 (own_i0 p1))), .val (.int (own_n1 (own_i0 p1)))] [])) t → Steps p.tables e below (s₁.setTop (entryFrame m #[(.int p1)] 2)) t := fun t k => pre2 t (by
      by_cases hc : (65536 : Int32) < (own_i0 p1)
      · skip
        show Steps p.tables e below (s₁.setTop (mkF m 19 #[.val (.int (own_i0 p1)), .val (.int (1 : Int32))] [])) _
        refine XS.iloadN X0.here hx rfl (hb hby d9_19) rfl ?_
        show Steps p.tables e below (s₁.setTop (mkF m 20 #[.val (.int (own_i0 p1)), .val (.int (1 : Int32))] [(.int (own_i0 p1))])) _
        refine X0.ldcwInt hx hown (mvT hZ (hw _ (List.mem_of_getElem? (i := 50) rfl))) (g := (mkF m 20 #[.val (.int (own_i0 p1)), .val (.int (1 : Int32))] [(.int (own_i0 p1))])) rfl (hb hby d9_20) _ ?_
        show Steps p.tables e below (s₁.setTop (mkF m 23 #[.val (.int (own_i0 p1)), .val (.int (1 : Int32))] [(.int (65536 : Int32)), (.int (own_i0 p1))])) _
        refine XS.icmpNo X0.here hx rfl (hb hby d9_23) rfl (tlt hc).2.2.2 ?_
        show Steps p.tables e below (s₁.setTop (mkF m 26 #[.val (.int (own_i0 p1)), .val (.int (1 : Int32))] [])) _
        refine XS.iinc X0.here hx rfl (hb hby d9_26) rfl (l' := #[.val (.int (own_i0 p1)), .val (.int ((1 : Int32) + (16 : Int32)))]) rfl ?_
        show Steps p.tables e below (s₁.setTop (mkF m 29 #[.val (.int (own_i0 p1)), .val (.int ((1 : Int32) + (16 : Int32)))] [])) _
        refine XS.iloadN X0.here hx rfl (hb hby d9_29) rfl ?_
        show Steps p.tables e below (s₁.setTop (mkF m 30 #[.val (.int (own_i0 p1)), .val (.int ((1 : Int32) + (16 : Int32)))] [(.int (own_i0 p1))])) _
        refine XS.bipush X0.here hx rfl (hb hby d9_30) ?_
        show Steps p.tables e below (s₁.setTop (mkF m 32 #[.val (.int (own_i0 p1)), .val (.int ((1 : Int32) + (16 : Int32)))] [(.int (16 : Int32)), (.int (own_i0 p1))])) _
        refine XS.iushr X0.here hx rfl (hb hby d9_32) rfl ?_
        show Steps p.tables e below (s₁.setTop (mkF m 33 #[.val (.int (own_i0 p1)), .val (.int ((1 : Int32) + (16 : Int32)))] [(.int (((own_i0 p1).toUInt32 >>> ((16 : Int32) &&& 31).toUInt32).toInt32))])) _
        refine XS.istoreN X0.here hx rfl (hb hby d9_33) rfl (l' := #[.val (.int (((own_i0 p1).toUInt32 >>> ((16 : Int32) &&& 31).toUInt32).toInt32)), .val (.int ((1 : Int32) + (16 : Int32)))]) rfl ?_
        show Steps p.tables e below (s₁.setTop (mkF m 34 #[.val (.int (((own_i0 p1).toUInt32 >>> ((16 : Int32) &&& 31).toUInt32).toInt32)), .val (.int ((1 : Int32) + (16 : Int32)))] [])) _
        rw [show (own_c1 (own_i0 p1)) = own_us (own_i0 p1) 16 from if_pos hc, show (own_n1 (own_i0 p1)) = (1 : Int32) + (16 : Int32) from if_pos hc] at k
        exact k
      · skip
        show Steps p.tables e below (s₁.setTop (mkF m 19 #[.val (.int (own_i0 p1)), .val (.int (1 : Int32))] [])) _
        refine XS.iloadN X0.here hx rfl (hb hby d9_19) rfl ?_
        show Steps p.tables e below (s₁.setTop (mkF m 20 #[.val (.int (own_i0 p1)), .val (.int (1 : Int32))] [(.int (own_i0 p1))])) _
        refine X0.ldcwInt hx hown (mvT hZ (hw _ (List.mem_of_getElem? (i := 50) rfl))) (g := (mkF m 20 #[.val (.int (own_i0 p1)), .val (.int (1 : Int32))] [(.int (own_i0 p1))])) rfl (hb hby d9_20) _ ?_
        show Steps p.tables e below (s₁.setTop (mkF m 23 #[.val (.int (own_i0 p1)), .val (.int (1 : Int32))] [(.int (65536 : Int32)), (.int (own_i0 p1))])) _
        refine XS.icmpYes X0.here hx rfl (pc0 := 23) (pc' := 34) rfl (hb hby d9_23) rfl (flt hc).2.2.2 (by decide) (by decide) ?_
        show Steps p.tables e below (s₁.setTop (mkF m 34 #[.val (.int (own_i0 p1)), .val (.int (1 : Int32))] [])) _
        rw [show (own_c1 (own_i0 p1)) = (own_i0 p1) from if_neg hc, show (own_n1 (own_i0 p1)) = (1 : Int32) from if_neg hc] at k
        exact k)
    have pre4 : ∀ t, Steps p.tables e below (s₁.setTop (mkF m 49 #[.val (.int (own_c2 (own_i0 p1))), .val (.int (own_n2 (own_i0 p1)))] [])) t → Steps p.tables e below (s₁.setTop (entryFrame m #[(.int p1)] 2)) t := fun t k => pre3 t (by
      by_cases hc : (256 : Int32) < (own_c1 (own_i0 p1))
      · skip
        show Steps p.tables e below (s₁.setTop (mkF m 34 #[.val (.int (own_c1 (own_i0 p1))), .val (.int (own_n1 (own_i0 p1)))] [])) _
        refine XS.iloadN X0.here hx rfl (hb hby d9_34) rfl ?_
        show Steps p.tables e below (s₁.setTop (mkF m 35 #[.val (.int (own_c1 (own_i0 p1))), .val (.int (own_n1 (own_i0 p1)))] [(.int (own_c1 (own_i0 p1)))])) _
        refine XS.sipush X0.here hx rfl (hb hby d9_35) ?_
        show Steps p.tables e below (s₁.setTop (mkF m 38 #[.val (.int (own_c1 (own_i0 p1))), .val (.int (own_n1 (own_i0 p1)))] [(.int (256 : Int32)), (.int (own_c1 (own_i0 p1)))])) _
        refine XS.icmpNo X0.here hx rfl (hb hby d9_38) rfl (tlt hc).2.2.2 ?_
        show Steps p.tables e below (s₁.setTop (mkF m 41 #[.val (.int (own_c1 (own_i0 p1))), .val (.int (own_n1 (own_i0 p1)))] [])) _
        refine XS.iinc X0.here hx rfl (hb hby d9_41) rfl (l' := #[.val (.int (own_c1 (own_i0 p1))), .val (.int ((own_n1 (own_i0 p1)) + (8 : Int32)))]) rfl ?_
        show Steps p.tables e below (s₁.setTop (mkF m 44 #[.val (.int (own_c1 (own_i0 p1))), .val (.int ((own_n1 (own_i0 p1)) + (8 : Int32)))] [])) _
        refine XS.iloadN X0.here hx rfl (hb hby d9_44) rfl ?_
        show Steps p.tables e below (s₁.setTop (mkF m 45 #[.val (.int (own_c1 (own_i0 p1))), .val (.int ((own_n1 (own_i0 p1)) + (8 : Int32)))] [(.int (own_c1 (own_i0 p1)))])) _
        refine XS.bipush X0.here hx rfl (hb hby d9_45) ?_
        show Steps p.tables e below (s₁.setTop (mkF m 47 #[.val (.int (own_c1 (own_i0 p1))), .val (.int ((own_n1 (own_i0 p1)) + (8 : Int32)))] [(.int (8 : Int32)), (.int (own_c1 (own_i0 p1)))])) _
        refine XS.iushr X0.here hx rfl (hb hby d9_47) rfl ?_
        show Steps p.tables e below (s₁.setTop (mkF m 48 #[.val (.int (own_c1 (own_i0 p1))), .val (.int ((own_n1 (own_i0 p1)) + (8 : Int32)))] [(.int (((own_c1 (own_i0 p1)).toUInt32 >>> ((8 : Int32) &&& 31).toUInt32).toInt32))])) _
        refine XS.istoreN X0.here hx rfl (hb hby d9_48) rfl (l' := #[.val (.int (((own_c1 (own_i0 p1)).toUInt32 >>> ((8 : Int32) &&& 31).toUInt32).toInt32)), .val (.int ((own_n1 (own_i0 p1)) + (8 : Int32)))]) rfl ?_
        show Steps p.tables e below (s₁.setTop (mkF m 49 #[.val (.int (((own_c1 (own_i0 p1)).toUInt32 >>> ((8 : Int32) &&& 31).toUInt32).toInt32)), .val (.int ((own_n1 (own_i0 p1)) + (8 : Int32)))] [])) _
        rw [show (own_c2 (own_i0 p1)) = own_us (own_c1 (own_i0 p1)) 8 from if_pos hc, show (own_n2 (own_i0 p1)) = (own_n1 (own_i0 p1)) + (8 : Int32) from if_pos hc] at k
        exact k
      · skip
        show Steps p.tables e below (s₁.setTop (mkF m 34 #[.val (.int (own_c1 (own_i0 p1))), .val (.int (own_n1 (own_i0 p1)))] [])) _
        refine XS.iloadN X0.here hx rfl (hb hby d9_34) rfl ?_
        show Steps p.tables e below (s₁.setTop (mkF m 35 #[.val (.int (own_c1 (own_i0 p1))), .val (.int (own_n1 (own_i0 p1)))] [(.int (own_c1 (own_i0 p1)))])) _
        refine XS.sipush X0.here hx rfl (hb hby d9_35) ?_
        show Steps p.tables e below (s₁.setTop (mkF m 38 #[.val (.int (own_c1 (own_i0 p1))), .val (.int (own_n1 (own_i0 p1)))] [(.int (256 : Int32)), (.int (own_c1 (own_i0 p1)))])) _
        refine XS.icmpYes X0.here hx rfl (pc0 := 38) (pc' := 49) rfl (hb hby d9_38) rfl (flt hc).2.2.2 (by decide) (by decide) ?_
        show Steps p.tables e below (s₁.setTop (mkF m 49 #[.val (.int (own_c1 (own_i0 p1))), .val (.int (own_n1 (own_i0 p1)))] [])) _
        rw [show (own_c2 (own_i0 p1)) = (own_c1 (own_i0 p1)) from if_neg hc, show (own_n2 (own_i0 p1)) = (own_n1 (own_i0 p1)) from if_neg hc] at k
        exact k)
    have pre5 : ∀ t, Steps p.tables e below (s₁.setTop (mkF m 62 #[.val (.int (own_c3 (own_i0 p1))), .val (.int (own_n3 (own_i0 p1)))] [])) t → Steps p.tables e below (s₁.setTop (entryFrame m #[(.int p1)] 2)) t := fun t k => pre4 t (by
      by_cases hc : (16 : Int32) < (own_c2 (own_i0 p1))
      · skip
        show Steps p.tables e below (s₁.setTop (mkF m 49 #[.val (.int (own_c2 (own_i0 p1))), .val (.int (own_n2 (own_i0 p1)))] [])) _
        refine XS.iloadN X0.here hx rfl (hb hby d9_49) rfl ?_
        show Steps p.tables e below (s₁.setTop (mkF m 50 #[.val (.int (own_c2 (own_i0 p1))), .val (.int (own_n2 (own_i0 p1)))] [(.int (own_c2 (own_i0 p1)))])) _
        refine XS.bipush X0.here hx rfl (hb hby d9_50) ?_
        show Steps p.tables e below (s₁.setTop (mkF m 52 #[.val (.int (own_c2 (own_i0 p1))), .val (.int (own_n2 (own_i0 p1)))] [(.int (16 : Int32)), (.int (own_c2 (own_i0 p1)))])) _
        refine XS.icmpNo X0.here hx rfl (hb hby d9_52) rfl (tlt hc).2.2.2 ?_
        show Steps p.tables e below (s₁.setTop (mkF m 55 #[.val (.int (own_c2 (own_i0 p1))), .val (.int (own_n2 (own_i0 p1)))] [])) _
        refine XS.iinc X0.here hx rfl (hb hby d9_55) rfl (l' := #[.val (.int (own_c2 (own_i0 p1))), .val (.int ((own_n2 (own_i0 p1)) + (4 : Int32)))]) rfl ?_
        show Steps p.tables e below (s₁.setTop (mkF m 58 #[.val (.int (own_c2 (own_i0 p1))), .val (.int ((own_n2 (own_i0 p1)) + (4 : Int32)))] [])) _
        refine XS.iloadN X0.here hx rfl (hb hby d9_58) rfl ?_
        show Steps p.tables e below (s₁.setTop (mkF m 59 #[.val (.int (own_c2 (own_i0 p1))), .val (.int ((own_n2 (own_i0 p1)) + (4 : Int32)))] [(.int (own_c2 (own_i0 p1)))])) _
        refine XS.iconst X0.here hx rfl (hb hby d9_59) ?_
        show Steps p.tables e below (s₁.setTop (mkF m 60 #[.val (.int (own_c2 (own_i0 p1))), .val (.int ((own_n2 (own_i0 p1)) + (4 : Int32)))] [(.int (4 : Int32)), (.int (own_c2 (own_i0 p1)))])) _
        refine XS.iushr X0.here hx rfl (hb hby d9_60) rfl ?_
        show Steps p.tables e below (s₁.setTop (mkF m 61 #[.val (.int (own_c2 (own_i0 p1))), .val (.int ((own_n2 (own_i0 p1)) + (4 : Int32)))] [(.int (((own_c2 (own_i0 p1)).toUInt32 >>> ((4 : Int32) &&& 31).toUInt32).toInt32))])) _
        refine XS.istoreN X0.here hx rfl (hb hby d9_61) rfl (l' := #[.val (.int (((own_c2 (own_i0 p1)).toUInt32 >>> ((4 : Int32) &&& 31).toUInt32).toInt32)), .val (.int ((own_n2 (own_i0 p1)) + (4 : Int32)))]) rfl ?_
        show Steps p.tables e below (s₁.setTop (mkF m 62 #[.val (.int (((own_c2 (own_i0 p1)).toUInt32 >>> ((4 : Int32) &&& 31).toUInt32).toInt32)), .val (.int ((own_n2 (own_i0 p1)) + (4 : Int32)))] [])) _
        rw [show (own_c3 (own_i0 p1)) = own_us (own_c2 (own_i0 p1)) 4 from if_pos hc, show (own_n3 (own_i0 p1)) = (own_n2 (own_i0 p1)) + (4 : Int32) from if_pos hc] at k
        exact k
      · skip
        show Steps p.tables e below (s₁.setTop (mkF m 49 #[.val (.int (own_c2 (own_i0 p1))), .val (.int (own_n2 (own_i0 p1)))] [])) _
        refine XS.iloadN X0.here hx rfl (hb hby d9_49) rfl ?_
        show Steps p.tables e below (s₁.setTop (mkF m 50 #[.val (.int (own_c2 (own_i0 p1))), .val (.int (own_n2 (own_i0 p1)))] [(.int (own_c2 (own_i0 p1)))])) _
        refine XS.bipush X0.here hx rfl (hb hby d9_50) ?_
        show Steps p.tables e below (s₁.setTop (mkF m 52 #[.val (.int (own_c2 (own_i0 p1))), .val (.int (own_n2 (own_i0 p1)))] [(.int (16 : Int32)), (.int (own_c2 (own_i0 p1)))])) _
        refine XS.icmpYes X0.here hx rfl (pc0 := 52) (pc' := 62) rfl (hb hby d9_52) rfl (flt hc).2.2.2 (by decide) (by decide) ?_
        show Steps p.tables e below (s₁.setTop (mkF m 62 #[.val (.int (own_c2 (own_i0 p1))), .val (.int (own_n2 (own_i0 p1)))] [])) _
        rw [show (own_c3 (own_i0 p1)) = (own_c2 (own_i0 p1)) from if_neg hc, show (own_n3 (own_i0 p1)) = (own_n2 (own_i0 p1)) from if_neg hc] at k
        exact k)
    have pre6 : ∀ t, Steps p.tables e below (s₁.setTop (mkF m 74 #[.val (.int (own_c4 (own_i0 p1))), .val (.int (own_n4 (own_i0 p1)))] [])) t → Steps p.tables e below (s₁.setTop (entryFrame m #[(.int p1)] 2)) t := fun t k => pre5 t (by
      by_cases hc : (4 : Int32) < (own_c3 (own_i0 p1))
      · skip
        show Steps p.tables e below (s₁.setTop (mkF m 62 #[.val (.int (own_c3 (own_i0 p1))), .val (.int (own_n3 (own_i0 p1)))] [])) _
        refine XS.iloadN X0.here hx rfl (hb hby d9_62) rfl ?_
        show Steps p.tables e below (s₁.setTop (mkF m 63 #[.val (.int (own_c3 (own_i0 p1))), .val (.int (own_n3 (own_i0 p1)))] [(.int (own_c3 (own_i0 p1)))])) _
        refine XS.iconst X0.here hx rfl (hb hby d9_63) ?_
        show Steps p.tables e below (s₁.setTop (mkF m 64 #[.val (.int (own_c3 (own_i0 p1))), .val (.int (own_n3 (own_i0 p1)))] [(.int (4 : Int32)), (.int (own_c3 (own_i0 p1)))])) _
        refine XS.icmpNo X0.here hx rfl (hb hby d9_64) rfl (tlt hc).2.2.2 ?_
        show Steps p.tables e below (s₁.setTop (mkF m 67 #[.val (.int (own_c3 (own_i0 p1))), .val (.int (own_n3 (own_i0 p1)))] [])) _
        refine XS.iinc X0.here hx rfl (hb hby d9_67) rfl (l' := #[.val (.int (own_c3 (own_i0 p1))), .val (.int ((own_n3 (own_i0 p1)) + (2 : Int32)))]) rfl ?_
        show Steps p.tables e below (s₁.setTop (mkF m 70 #[.val (.int (own_c3 (own_i0 p1))), .val (.int ((own_n3 (own_i0 p1)) + (2 : Int32)))] [])) _
        refine XS.iloadN X0.here hx rfl (hb hby d9_70) rfl ?_
        show Steps p.tables e below (s₁.setTop (mkF m 71 #[.val (.int (own_c3 (own_i0 p1))), .val (.int ((own_n3 (own_i0 p1)) + (2 : Int32)))] [(.int (own_c3 (own_i0 p1)))])) _
        refine XS.iconst X0.here hx rfl (hb hby d9_71) ?_
        show Steps p.tables e below (s₁.setTop (mkF m 72 #[.val (.int (own_c3 (own_i0 p1))), .val (.int ((own_n3 (own_i0 p1)) + (2 : Int32)))] [(.int (2 : Int32)), (.int (own_c3 (own_i0 p1)))])) _
        refine XS.iushr X0.here hx rfl (hb hby d9_72) rfl ?_
        show Steps p.tables e below (s₁.setTop (mkF m 73 #[.val (.int (own_c3 (own_i0 p1))), .val (.int ((own_n3 (own_i0 p1)) + (2 : Int32)))] [(.int (((own_c3 (own_i0 p1)).toUInt32 >>> ((2 : Int32) &&& 31).toUInt32).toInt32))])) _
        refine XS.istoreN X0.here hx rfl (hb hby d9_73) rfl (l' := #[.val (.int (((own_c3 (own_i0 p1)).toUInt32 >>> ((2 : Int32) &&& 31).toUInt32).toInt32)), .val (.int ((own_n3 (own_i0 p1)) + (2 : Int32)))]) rfl ?_
        show Steps p.tables e below (s₁.setTop (mkF m 74 #[.val (.int (((own_c3 (own_i0 p1)).toUInt32 >>> ((2 : Int32) &&& 31).toUInt32).toInt32)), .val (.int ((own_n3 (own_i0 p1)) + (2 : Int32)))] [])) _
        rw [show (own_c4 (own_i0 p1)) = own_us (own_c3 (own_i0 p1)) 2 from if_pos hc, show (own_n4 (own_i0 p1)) = (own_n3 (own_i0 p1)) + (2 : Int32) from if_pos hc] at k
        exact k
      · skip
        show Steps p.tables e below (s₁.setTop (mkF m 62 #[.val (.int (own_c3 (own_i0 p1))), .val (.int (own_n3 (own_i0 p1)))] [])) _
        refine XS.iloadN X0.here hx rfl (hb hby d9_62) rfl ?_
        show Steps p.tables e below (s₁.setTop (mkF m 63 #[.val (.int (own_c3 (own_i0 p1))), .val (.int (own_n3 (own_i0 p1)))] [(.int (own_c3 (own_i0 p1)))])) _
        refine XS.iconst X0.here hx rfl (hb hby d9_63) ?_
        show Steps p.tables e below (s₁.setTop (mkF m 64 #[.val (.int (own_c3 (own_i0 p1))), .val (.int (own_n3 (own_i0 p1)))] [(.int (4 : Int32)), (.int (own_c3 (own_i0 p1)))])) _
        refine XS.icmpYes X0.here hx rfl (pc0 := 64) (pc' := 74) rfl (hb hby d9_64) rfl (flt hc).2.2.2 (by decide) (by decide) ?_
        show Steps p.tables e below (s₁.setTop (mkF m 74 #[.val (.int (own_c3 (own_i0 p1))), .val (.int (own_n3 (own_i0 p1)))] [])) _
        rw [show (own_c4 (own_i0 p1)) = (own_c3 (own_i0 p1)) from if_neg hc, show (own_n4 (own_i0 p1)) = (own_n3 (own_i0 p1)) from if_neg hc] at k
        exact k)
    have pre7 : ∀ t, Steps p.tables e below (s₁.setTop (mkF m 79 #[.val (.int (own_c4 (own_i0 p1))), .val (.int (own_n4 (own_i0 p1)))] [(.int ((own_n4 (own_i0 p1)) + (((own_c4 (own_i0 p1)).toUInt32 >>> ((1 : Int32) &&& 31).toUInt32).toInt32)))])) t → Steps p.tables e below (s₁.setTop (entryFrame m #[(.int p1)] 2)) t := fun t k => pre6 t (by
      show Steps p.tables e below (s₁.setTop (mkF m 74 #[.val (.int (own_c4 (own_i0 p1))), .val (.int (own_n4 (own_i0 p1)))] [])) _
      refine XS.iloadN X0.here hx rfl (hb hby d9_74) rfl ?_
      show Steps p.tables e below (s₁.setTop (mkF m 75 #[.val (.int (own_c4 (own_i0 p1))), .val (.int (own_n4 (own_i0 p1)))] [(.int (own_n4 (own_i0 p1)))])) _
      refine XS.iloadN X0.here hx rfl (hb hby d9_75) rfl ?_
      show Steps p.tables e below (s₁.setTop (mkF m 76 #[.val (.int (own_c4 (own_i0 p1))), .val (.int (own_n4 (own_i0 p1)))] [(.int (own_c4 (own_i0 p1))), (.int (own_n4 (own_i0 p1)))])) _
      refine XS.iconst X0.here hx rfl (hb hby d9_76) ?_
      show Steps p.tables e below (s₁.setTop (mkF m 77 #[.val (.int (own_c4 (own_i0 p1))), .val (.int (own_n4 (own_i0 p1)))] [(.int (1 : Int32)), (.int (own_c4 (own_i0 p1))), (.int (own_n4 (own_i0 p1)))])) _
      refine XS.iushr X0.here hx rfl (hb hby d9_77) rfl ?_
      show Steps p.tables e below (s₁.setTop (mkF m 78 #[.val (.int (own_c4 (own_i0 p1))), .val (.int (own_n4 (own_i0 p1)))] [(.int (((own_c4 (own_i0 p1)).toUInt32 >>> ((1 : Int32) &&& 31).toUInt32).toInt32)), (.int (own_n4 (own_i0 p1)))])) _
      refine XS.iadd X0.here hx rfl (hb hby d9_78) rfl ?_
      show Steps p.tables e below (s₁.setTop (mkF m 79 #[.val (.int (own_c4 (own_i0 p1))), .val (.int (own_n4 (own_i0 p1)))] [(.int ((own_n4 (own_i0 p1)) + (((own_c4 (own_i0 p1)).toUInt32 >>> ((1 : Int32) &&& 31).toUInt32).toInt32)))])) _
      exact k)
    obtain ⟨fs, hr, hrun, hended, hW, hsame⟩ := X0.leave (v := some (.int ((own_n4 (own_i0 p1)) + (((own_c4 (own_i0 p1)).toUInt32 >>> ((1 : Int32) &&& 31).toUInt32).toInt32)))) (fun h => by rw [Bd.returns] at h; cases h)
    refine ⟨_, _, pre7 _ ?_, hrun, hended, _, _, rfl, ?_, ⟨_, rfl⟩, hW, hsame.mono (by decide) (by decide)⟩
    · show Steps p.tables e below (s₁.setTop (mkF m 79 #[.val (.int (own_c4 (own_i0 p1))), .val (.int (own_n4 (own_i0 p1)))] [(.int ((own_n4 (own_i0 p1)) + (((own_c4 (own_i0 p1)).toUInt32 >>> ((1 : Int32) &&& 31).toUInt32).toInt32)))])) _
      exact retI X0 hx Bd.returns (hb hby d9_79) hr
    · show Q9 Z p1 h0 n0 _ s₁.heap _
      rw [e0]
      exact ⟨congrArg (fun z => some (Value.int z)) (Eq.symm (if_pos h0i)), N0, rfl⟩
  · skip
    have pre8 : ∀ t, Steps p.tables e below (s₁.setTop (mkF m 16 #[.val (.int (own_i0 p1)), .unset] [(.int ((own_i0 p1) &&& (32 : Int32)))])) t → Steps p.tables e below (s₁.setTop (entryFrame m #[(.int p1)] 2)) t := fun t k => pre1 t (by
      show Steps p.tables e below (s₁.setTop (mkF m 9 #[.val (.int (own_i0 p1)), .unset] [(.int (own_i0 p1))])) _
      refine XS.ifNo X0.here hx rfl (hb hby d9_9) rfl ((if0 _ _).trans (flt h0i).2.2.1) ?_
      show Steps p.tables e below (s₁.setTop (mkF m 12 #[.val (.int (own_i0 p1)), .unset] [])) _
      refine XS.iloadN X0.here hx rfl (hb hby d9_12) rfl ?_
      show Steps p.tables e below (s₁.setTop (mkF m 13 #[.val (.int (own_i0 p1)), .unset] [(.int (own_i0 p1))])) _
      refine XS.bipush X0.here hx rfl (hb hby d9_13) ?_
      show Steps p.tables e below (s₁.setTop (mkF m 15 #[.val (.int (own_i0 p1)), .unset] [(.int (32 : Int32)), (.int (own_i0 p1))])) _
      refine XS.iand X0.here hx rfl (hb hby d9_15) rfl ?_
      show Steps p.tables e below (s₁.setTop (mkF m 16 #[.val (.int (own_i0 p1)), .unset] [(.int ((own_i0 p1) &&& (32 : Int32)))])) _
      exact k)
    obtain ⟨fs, hr, hrun, hended, hW, hsame⟩ := X0.leave (v := some (.int ((own_i0 p1) &&& (32 : Int32)))) (fun h => by rw [Bd.returns] at h; cases h)
    refine ⟨_, _, pre8 _ ?_, hrun, hended, _, _, rfl, ?_, ⟨_, rfl⟩, hW, hsame.mono (by decide) (by decide)⟩
    · show Steps p.tables e below (s₁.setTop (mkF m 16 #[.val (.int (own_i0 p1)), .unset] [(.int ((own_i0 p1) &&& (32 : Int32)))])) _
      exact retI X0 hx Bd.returns (hb hby d9_16) hr
    · show Q9 Z p1 h0 n0 _ s₁.heap _
      rw [e0]
      exact ⟨congrArg (fun z => some (Value.int z)) (Eq.symm (if_neg h0i)), N0, rfl⟩
theorem d8_0 : decode jdk_35_method_49_code 0 = .ok (.lload_n 0, 1) := by decide +kernel
theorem d8_1 : decode jdk_35_method_49_code 1 = .ok (.l2i, 1) := by decide +kernel
theorem d8_2 : decode jdk_35_method_49_code 2 = .ok (.istore_n 2, 1) := by decide +kernel
theorem d8_3 : decode jdk_35_method_49_code 3 = .ok (.iload_n 2, 1) := by decide +kernel
theorem d8_4 : decode jdk_35_method_49_code 4 = .ok (.ifCond .ne 17, 3) := by decide +kernel
theorem d8_7 : decode jdk_35_method_49_code 7 = .ok (.bipush 32, 2) := by decide +kernel
theorem d8_9 : decode jdk_35_method_49_code 9 = .ok (.lload_n 0, 1) := by decide +kernel
theorem d8_10 : decode jdk_35_method_49_code 10 = .ok (.bipush 32, 2) := by decide +kernel
theorem d8_12 : decode jdk_35_method_49_code 12 = .ok (.lushr, 1) := by decide +kernel
theorem d8_13 : decode jdk_35_method_49_code 13 = .ok (.l2i, 1) := by decide +kernel
theorem d8_14 : decode jdk_35_method_49_code 14 = .ok (.invokestatic 311, 3) := by decide +kernel
theorem d8_17 : decode jdk_35_method_49_code 17 = .ok (.iadd, 1) := by decide +kernel
theorem d8_18 : decode jdk_35_method_49_code 18 = .ok (.goto 7, 3) := by decide +kernel
theorem d8_21 : decode jdk_35_method_49_code 21 = .ok (.iload_n 2, 1) := by decide +kernel
theorem d8_22 : decode jdk_35_method_49_code 22 = .ok (.invokestatic 311, 3) := by decide +kernel
theorem d8_25 : decode jdk_35_method_49_code 25 = .ok (.ireturn, 1) := by decide +kernel
theorem pn_8 : plainName "java/lang/Long" = true := by first | (simp [plainName, overriddenIn]; done) | decide +kernel
theorem ef_8 (m : MethodId) (x0 : Int64) : entryFrame m #[(.long x0)] 3 = mkF m 0 #[.val (.long x0), .second, .unset] [] := by first | (simp [entryFrame, mkF, argsToLocals, Value.category]; done) | rfl
def Q8 (Z : State) (q1 : Int64) (h0 : Heap) (n0 : Nat) (v : Option Value) (h : Heap) (L : List Loc) : Prop := v = some (.int (own_ctz q1)) ∧ Fr n0 L ∧ h = h0
set_option maxRecDepth 65536 in
set_option maxHeartbeats 40000000 in
theorem rm8 (l : Launch) (Z : State) (a0 : Array Value) (hw : ∀ d ∈ tables_1, d.before a0 Z = true) (ws : List Jvm.Cond) (q1 : Int64) (h0 : Heap) (n0 : Nat) (Z0 : n0 ≤ h0.size) :
    MetFree l (⟨"java/lang/Long", "numberOfTrailingZeros", "(J)I"⟩ : MethodName) (head1 (Jvm.Cond.code (⟨"java/lang/Long", "numberOfTrailingZeros", "(J)I"⟩ : MethodName) jdk_35_method_49_code 3 (some .int) :: ws) ({ frames := 1, cells := 0, slots := 0, locals := 14 } : Room)) (fun a U => a = #[(.long q1)] ∧ Z.Warmed39 U.vm ∧ U.heap = h0) (fun _ _ _ _ _ => True) (fun _ U o U' => ∃ v L, o = .returned v ∧ Q8 Z q1 h0 n0 v U'.heap L ∧ FrameEnd U o U' L ({ frames := 1, cells := 0, slots := 0, locals := 14 } : Room).cells ({ frames := 1, cells := 0, slots := 0, locals := 14 } : Room).slots) := by
  refine MetFree.of_bodySF (plainFor_of_name pn_8) hisR ?_
  intro p e s m args below meth c s₁ Bd hml0 hP hK
  obtain ⟨rfl, hZ, hh⟩ := hP
  have hx := Bd.exec
  have hby := Bd.bytes
  have hml : c.maxLocals = 3 := hml0
  have hown : s.vm.findClass "java/lang/Long" = some m.cls := findClass_of_methodNamed Bd.named
  have hnm := (name_of_methodNamed Bd.named Bd.method).1
  have X0 : Stand p l e ({ frames := 1, cells := 0, slots := 0, locals := 14 } : Room) s m #[(.long q1)] below meth c s₁ [] 0 0 := Stand.of_body Bd
  have e0 : s₁.heap = h0 := by rw [← hh, Bd.state]; rfl
  have N0 := Fr.nil n0
  have pre0 : ∀ t, Steps p.tables e below (s₁.setTop (mkF m 0 #[.val (.long q1), .second, .unset] [])) t → Steps p.tables e below (s₁.setTop (entryFrame m #[(.long q1)] 3)) t := fun t k => castTop (ef_8 m q1) k
  have pre1 : ∀ t, Steps p.tables e below (s₁.setTop (mkF m 4 #[.val (.long q1), .second, .val (.int (q1.toInt32))] [(.int (q1.toInt32))])) t → Steps p.tables e below (s₁.setTop (entryFrame m #[(.long q1)] 3)) t := fun t k => pre0 t (by
    show Steps p.tables e below (s₁.setTop (mkF m 0 #[.val (.long q1), .second, .unset] [])) _
    refine XS.lloadN X0.here hx rfl (hb hby d8_0) rfl ?_
    show Steps p.tables e below (s₁.setTop (mkF m 1 #[.val (.long q1), .second, .unset] [(.long q1)])) _
    refine XS.l2i X0.here hx rfl (hb hby d8_1) rfl ?_
    show Steps p.tables e below (s₁.setTop (mkF m 2 #[.val (.long q1), .second, .unset] [(.int (q1.toInt32))])) _
    refine XS.istoreN X0.here hx rfl (hb hby d8_2) rfl (l' := #[.val (.long q1), .second, .val (.int (q1.toInt32))]) rfl ?_
    show Steps p.tables e below (s₁.setTop (mkF m 3 #[.val (.long q1), .second, .val (.int (q1.toInt32))] [])) _
    refine XS.iloadN X0.here hx rfl (hb hby d8_3) rfl ?_
    show Steps p.tables e below (s₁.setTop (mkF m 4 #[.val (.long q1), .second, .val (.int (q1.toInt32))] [(.int (q1.toInt32))])) _
    exact k)
  by_cases hc : q1.toInt32 = (0 : Int32)
  · skip
    have pre2 : ∀ t, Steps p.tables e below (s₁.setTop (mkF m 14 #[.val (.long q1), .second, .val (.int (q1.toInt32))] [(.int (own_hi q1)), (.int (32 : Int32))])) t → Steps p.tables e below (s₁.setTop (entryFrame m #[(.long q1)] 3)) t := fun t k => pre1 t (by
      show Steps p.tables e below (s₁.setTop (mkF m 4 #[.val (.long q1), .second, .val (.int (q1.toInt32))] [(.int (q1.toInt32))])) _
      refine XS.ifNo X0.here hx rfl (hb hby d8_4) rfl ((if0 _ _).trans (teq hc).2) ?_
      show Steps p.tables e below (s₁.setTop (mkF m 7 #[.val (.long q1), .second, .val (.int (q1.toInt32))] [])) _
      refine XS.bipush X0.here hx rfl (hb hby d8_7) ?_
      show Steps p.tables e below (s₁.setTop (mkF m 9 #[.val (.long q1), .second, .val (.int (q1.toInt32))] [(.int (32 : Int32))])) _
      refine XS.lloadN X0.here hx rfl (hb hby d8_9) rfl ?_
      show Steps p.tables e below (s₁.setTop (mkF m 10 #[.val (.long q1), .second, .val (.int (q1.toInt32))] [(.long q1), (.int (32 : Int32))])) _
      refine XS.bipush X0.here hx rfl (hb hby d8_10) ?_
      show Steps p.tables e below (s₁.setTop (mkF m 12 #[.val (.long q1), .second, .val (.int (q1.toInt32))] [(.int (32 : Int32)), (.long q1), (.int (32 : Int32))])) _
      refine XS.lushr X0.here hx rfl (hb hby d8_12) rfl ?_
      show Steps p.tables e below (s₁.setTop (mkF m 13 #[.val (.long q1), .second, .val (.int (q1.toInt32))] [(.long ((q1.toUInt64 >>> ((32 : Int32) &&& 0x3f).toInt64.toUInt64).toInt64)), (.int (32 : Int32))])) _
      refine XS.l2i X0.here hx rfl (hb hby d8_13) rfl ?_
      show Steps p.tables e below (s₁.setTop (mkF m 14 #[.val (.long q1), .second, .val (.int (q1.toInt32))] [(.int (own_hi q1)), (.int (32 : Int32))])) _
      exact k)
    obtain ⟨_, _, ⟨T3, L3, k3, n3⟩, -, X3, ⟨Lc3, hQ3, l3, y3, z3⟩, st3⟩ := Jvm.LawKit.callS X0 hx (y := (⟨"java/lang/Integer", "numberOfTrailingZeros", "(I)I"⟩ : MethodName)) hown (mvT hZ (hw _ (List.mem_of_getElem? (i := 46) rfl))) (mvT hZ (hw _ (List.mem_of_getElem? (i := 47) rfl))) (mvT hZ (hw _ (List.mem_of_getElem? (i := 48) rfl))) (mvT hZ (hw _ (List.mem_of_getElem? (i := 49) rfl))) (by decide) (backOf (W := 1) (rm9 l Z a0 hw [] (own_hi q1)  h0 n0 Z0) hZ (hw _ (List.mem_of_getElem? (i := 49) rfl)) (hw _ (List.mem_of_getElem? (i := 48) rfl)) (by decide) (by decide)) (g := (mkF m 14 #[.val (.long q1), .second, .val (.int (q1.toInt32))] [(.int (own_hi q1)), (.int (32 : Int32))])) rfl (by rw [hml]; rfl) (argsL := [(.int (own_hi q1))]) (rest := [(.int (32 : Int32))]) (lenOf pdx_3 rfl) rfl (by show 2 * 0 + _ ≤ _; exact Nat.le_of_eq rfl) (hb hby d8_14) (fun _ _ => ⟨rfl, e0, (by decide : 0 + 0 ≤ _), (by decide : 0 + 0 ≤ _)⟩)
    dsimp only [Pt.U, Pt.locs, Pt.cells, Pt.slots] at X3 l3 y3 z3 st3 hQ3
    subst l3 y3 z3
    obtain ⟨rfl, N3q, e3⟩ := hQ3
    have N3 := Fr.app N0 N3q
    have pre4 : ∀ t, Steps p.tables e below (T3.setTop (mkF m 17 #[.val (.long q1), .second, .val (.int (q1.toInt32))] [(.int (own_ctzI (own_hi q1))), (.int (32 : Int32))])) t → Steps p.tables e below (s₁.setTop (entryFrame m #[(.long q1)] 3)) t := fun t k => pre2 t (by
      show Steps p.tables e below (s₁.setTop (mkF m 14 #[.val (.long q1), .second, .val (.int (q1.toInt32))] [(.int (own_hi q1)), (.int (32 : Int32))])) t
      refine st3 _ ?_
      show Steps p.tables e below (T3.setTop (mkF m 17 #[.val (.long q1), .second, .val (.int (q1.toInt32))] [(.int (own_ctzI (own_hi q1))), (.int (32 : Int32))])) t
      exact k)
    have pre5 : ∀ t, Steps p.tables e below (T3.setTop (mkF m 25 #[.val (.long q1), .second, .val (.int (q1.toInt32))] [(.int ((32 : Int32) + (own_ctzI (own_hi q1))))])) t → Steps p.tables e below (s₁.setTop (entryFrame m #[(.long q1)] 3)) t := fun t k => pre4 t (by
      show Steps p.tables e below (T3.setTop (mkF m 17 #[.val (.long q1), .second, .val (.int (q1.toInt32))] [(.int (own_ctzI (own_hi q1))), (.int (32 : Int32))])) _
      refine XS.iadd X3.here hx rfl (hb hby d8_17) rfl ?_
      show Steps p.tables e below (T3.setTop (mkF m 18 #[.val (.long q1), .second, .val (.int (q1.toInt32))] [(.int ((32 : Int32) + (own_ctzI (own_hi q1))))])) _
      refine XS.goto X3.here hx rfl (pc0 := 18) (pc' := 25) rfl (hb hby d8_18) (by decide) (by decide) ?_
      show Steps p.tables e below (T3.setTop (mkF m 25 #[.val (.long q1), .second, .val (.int (q1.toInt32))] [(.int ((32 : Int32) + (own_ctzI (own_hi q1))))])) _
      exact k)
    obtain ⟨fs, hr, hrun, hended, hW, hsame⟩ := X3.leave (v := some (.int ((32 : Int32) + (own_ctzI (own_hi q1))))) (fun h => by rw [Bd.returns] at h; cases h)
    refine ⟨_, _, pre5 _ ?_, hrun, hended, _, _, rfl, ?_, ⟨_, rfl⟩, hW, hsame.mono (by decide) (by decide)⟩
    · show Steps p.tables e below (T3.setTop (mkF m 25 #[.val (.long q1), .second, .val (.int (q1.toInt32))] [(.int ((32 : Int32) + (own_ctzI (own_hi q1))))])) _
      exact retI X3 hx Bd.returns (hb hby d8_25) hr
    · show Q8 Z q1 h0 n0 _ T3.heap _
      rw [e3]
      exact ⟨congrArg (fun z => some (Value.int z)) (Eq.symm (if_pos hc)), N3, rfl⟩
  · skip
    have pre6 : ∀ t, Steps p.tables e below (s₁.setTop (mkF m 22 #[.val (.long q1), .second, .val (.int (q1.toInt32))] [(.int (q1.toInt32))])) t → Steps p.tables e below (s₁.setTop (entryFrame m #[(.long q1)] 3)) t := fun t k => pre1 t (by
      show Steps p.tables e below (s₁.setTop (mkF m 4 #[.val (.long q1), .second, .val (.int (q1.toInt32))] [(.int (q1.toInt32))])) _
      refine XS.ifYes X0.here hx rfl (pc0 := 4) (pc' := 21) rfl (hb hby d8_4) rfl ((if0 _ _).trans (feq hc).2) (by decide) (by decide) ?_
      show Steps p.tables e below (s₁.setTop (mkF m 21 #[.val (.long q1), .second, .val (.int (q1.toInt32))] [])) _
      refine XS.iloadN X0.here hx rfl (hb hby d8_21) rfl ?_
      show Steps p.tables e below (s₁.setTop (mkF m 22 #[.val (.long q1), .second, .val (.int (q1.toInt32))] [(.int (q1.toInt32))])) _
      exact k)
    obtain ⟨_, _, ⟨T7, L7, k7, n7⟩, -, X7, ⟨Lc7, hQ7, l7, y7, z7⟩, st7⟩ := Jvm.LawKit.callS X0 hx (y := (⟨"java/lang/Integer", "numberOfTrailingZeros", "(I)I"⟩ : MethodName)) hown (mvT hZ (hw _ (List.mem_of_getElem? (i := 46) rfl))) (mvT hZ (hw _ (List.mem_of_getElem? (i := 47) rfl))) (mvT hZ (hw _ (List.mem_of_getElem? (i := 48) rfl))) (mvT hZ (hw _ (List.mem_of_getElem? (i := 49) rfl))) (by decide) (backOf (W := 0) (rm9 l Z a0 hw [] (q1.toInt32)  h0 n0 Z0) hZ (hw _ (List.mem_of_getElem? (i := 49) rfl)) (hw _ (List.mem_of_getElem? (i := 48) rfl)) (by decide) (by decide)) (g := (mkF m 22 #[.val (.long q1), .second, .val (.int (q1.toInt32))] [(.int (q1.toInt32))])) rfl (by rw [hml]; rfl) (argsL := [(.int (q1.toInt32))]) (rest := []) (lenOf pdx_3 rfl) rfl (by show 2 * 0 + _ ≤ _; exact Nat.le_of_eq rfl) (hb hby d8_22) (fun _ _ => ⟨rfl, e0, (by decide : 0 + 0 ≤ _), (by decide : 0 + 0 ≤ _)⟩)
    dsimp only [Pt.U, Pt.locs, Pt.cells, Pt.slots] at X7 l7 y7 z7 st7 hQ7
    subst l7 y7 z7
    obtain ⟨rfl, N7q, e7⟩ := hQ7
    have N7 := Fr.app N0 N7q
    have pre8 : ∀ t, Steps p.tables e below (T7.setTop (mkF m 25 #[.val (.long q1), .second, .val (.int (q1.toInt32))] [(.int (own_ctzI (q1.toInt32)))])) t → Steps p.tables e below (s₁.setTop (entryFrame m #[(.long q1)] 3)) t := fun t k => pre6 t (by
      show Steps p.tables e below (s₁.setTop (mkF m 22 #[.val (.long q1), .second, .val (.int (q1.toInt32))] [(.int (q1.toInt32))])) t
      refine st7 _ ?_
      show Steps p.tables e below (T7.setTop (mkF m 25 #[.val (.long q1), .second, .val (.int (q1.toInt32))] [(.int (own_ctzI (q1.toInt32)))])) t
      exact k)
    obtain ⟨fs, hr, hrun, hended, hW, hsame⟩ := X7.leave (v := some (.int (own_ctzI (q1.toInt32)))) (fun h => by rw [Bd.returns] at h; cases h)
    refine ⟨_, _, pre8 _ ?_, hrun, hended, _, _, rfl, ?_, ⟨_, rfl⟩, hW, hsame.mono (by decide) (by decide)⟩
    · show Steps p.tables e below (T7.setTop (mkF m 25 #[.val (.long q1), .second, .val (.int (q1.toInt32))] [(.int (own_ctzI (q1.toInt32)))])) _
      exact retI X7 hx Bd.returns (hb hby d8_25) hr
    · show Q8 Z q1 h0 n0 _ T7.heap _
      rw [e7]
      exact ⟨congrArg (fun z => some (Value.int z)) (Eq.symm (if_neg hc)), N7, rfl⟩
theorem d7_0 : decode prog_101_method_7_code 0 = .ok (.iload_n 1, 1) := by decide +kernel
theorem d7_1 : decode prog_101_method_7_code 1 = .ok (.bipush 6, 2) := by decide +kernel
theorem d7_3 : decode prog_101_method_7_code 3 = .ok (.iushr, 1) := by decide +kernel
theorem d7_4 : decode prog_101_method_7_code 4 = .ok (.istore_n 2, 1) := by decide +kernel
theorem d7_5 : decode prog_101_method_7_code 5 = .ok (.iload_n 2, 1) := by decide +kernel
theorem d7_6 : decode prog_101_method_7_code 6 = .ok (.aload_n 0, 1) := by decide +kernel
theorem d7_7 : decode prog_101_method_7_code 7 = .ok (.getfield 7, 3) := by decide +kernel
theorem d7_10 : decode prog_101_method_7_code 10 = .ok (.arraylength, 1) := by decide +kernel
theorem d7_11 : decode prog_101_method_7_code 11 = .ok (.if_icmp .lt 5, 3) := by decide +kernel
theorem d7_14 : decode prog_101_method_7_code 14 = .ok (.iconst (-1), 1) := by decide +kernel
theorem d7_15 : decode prog_101_method_7_code 15 = .ok (.ireturn, 1) := by decide +kernel
theorem d7_16 : decode prog_101_method_7_code 16 = .ok (.aload_n 0, 1) := by decide +kernel
theorem d7_17 : decode prog_101_method_7_code 17 = .ok (.getfield 7, 3) := by decide +kernel
theorem d7_20 : decode prog_101_method_7_code 20 = .ok (.iload_n 2, 1) := by decide +kernel
theorem d7_21 : decode prog_101_method_7_code 21 = .ok (.laload, 1) := by decide +kernel
theorem d7_22 : decode prog_101_method_7_code 22 = .ok (.ldc2_w 38, 3) := by decide +kernel
theorem d7_25 : decode prog_101_method_7_code 25 = .ok (.iload_n 1, 1) := by decide +kernel
theorem d7_26 : decode prog_101_method_7_code 26 = .ok (.lshl, 1) := by decide +kernel
theorem d7_27 : decode prog_101_method_7_code 27 = .ok (.land, 1) := by decide +kernel
theorem d7_28 : decode prog_101_method_7_code 28 = .ok (.lstore_n 3, 1) := by decide +kernel
theorem d7_29 : decode prog_101_method_7_code 29 = .ok (.lload_n 3, 1) := by decide +kernel
theorem d7_30 : decode prog_101_method_7_code 30 = .ok (.lconst 0, 1) := by decide +kernel
theorem d7_31 : decode prog_101_method_7_code 31 = .ok (.lcmp, 1) := by decide +kernel
theorem d7_32 : decode prog_101_method_7_code 32 = .ok (.ifCond .eq 13, 3) := by decide +kernel
theorem d7_35 : decode prog_101_method_7_code 35 = .ok (.iload_n 2, 1) := by decide +kernel
theorem d7_36 : decode prog_101_method_7_code 36 = .ok (.bipush 6, 2) := by decide +kernel
theorem d7_38 : decode prog_101_method_7_code 38 = .ok (.ishl, 1) := by decide +kernel
theorem d7_39 : decode prog_101_method_7_code 39 = .ok (.lload_n 3, 1) := by decide +kernel
theorem d7_40 : decode prog_101_method_7_code 40 = .ok (.invokestatic 43, 3) := by decide +kernel
theorem d7_43 : decode prog_101_method_7_code 43 = .ok (.ior, 1) := by decide +kernel
theorem d7_44 : decode prog_101_method_7_code 44 = .ok (.ireturn, 1) := by decide +kernel
theorem d7_45 : decode prog_101_method_7_code 45 = .ok (.aload_n 0, 1) := by decide +kernel
theorem d7_46 : decode prog_101_method_7_code 46 = .ok (.getfield 19, 3) := by decide +kernel
theorem d7_49 : decode prog_101_method_7_code 49 = .ok (.ifnonnull 13, 3) := by decide +kernel
theorem d7_52 : decode prog_101_method_7_code 52 = .ok (.aload_n 0, 1) := by decide +kernel
theorem d7_53 : decode prog_101_method_7_code 53 = .ok (.iload_n 2, 1) := by decide +kernel
theorem d7_54 : decode prog_101_method_7_code 54 = .ok (.iconst 1, 1) := by decide +kernel
theorem d7_55 : decode prog_101_method_7_code 55 = .ok (.iadd, 1) := by decide +kernel
theorem d7_56 : decode prog_101_method_7_code 56 = .ok (.invokevirtual 49, 3) := by decide +kernel
theorem d7_59 : decode prog_101_method_7_code 59 = .ok (.goto 13, 3) := by decide +kernel
theorem d7_62 : decode prog_101_method_7_code 62 = .ok (.aload_n 0, 1) := by decide +kernel
theorem d7_63 : decode prog_101_method_7_code 63 = .ok (.getfield 19, 3) := by decide +kernel
theorem d7_66 : decode prog_101_method_7_code 66 = .ok (.iload_n 2, 1) := by decide +kernel
theorem d7_67 : decode prog_101_method_7_code 67 = .ok (.iconst 1, 1) := by decide +kernel
theorem d7_68 : decode prog_101_method_7_code 68 = .ok (.iadd, 1) := by decide +kernel
theorem d7_69 : decode prog_101_method_7_code 69 = .ok (.invokevirtual 53, 3) := by decide +kernel
theorem d7_72 : decode prog_101_method_7_code 72 = .ok (.istore 5, 2) := by decide +kernel
theorem d7_74 : decode prog_101_method_7_code 74 = .ok (.iload 5, 2) := by decide +kernel
theorem d7_76 : decode prog_101_method_7_code 76 = .ok (.ifCond .ge 7, 3) := by decide +kernel
theorem d7_79 : decode prog_101_method_7_code 79 = .ok (.iconst (-1), 1) := by decide +kernel
theorem d7_80 : decode prog_101_method_7_code 80 = .ok (.goto 19, 3) := by decide +kernel
theorem d7_83 : decode prog_101_method_7_code 83 = .ok (.iload 5, 2) := by decide +kernel
theorem d7_85 : decode prog_101_method_7_code 85 = .ok (.bipush 6, 2) := by decide +kernel
theorem d7_87 : decode prog_101_method_7_code 87 = .ok (.ishl, 1) := by decide +kernel
theorem d7_88 : decode prog_101_method_7_code 88 = .ok (.aload_n 0, 1) := by decide +kernel
theorem d7_89 : decode prog_101_method_7_code 89 = .ok (.getfield 7, 3) := by decide +kernel
theorem d7_92 : decode prog_101_method_7_code 92 = .ok (.iload 5, 2) := by decide +kernel
theorem d7_94 : decode prog_101_method_7_code 94 = .ok (.laload, 1) := by decide +kernel
theorem d7_95 : decode prog_101_method_7_code 95 = .ok (.invokestatic 43, 3) := by decide +kernel
theorem d7_98 : decode prog_101_method_7_code 98 = .ok (.ior, 1) := by decide +kernel
theorem d7_99 : decode prog_101_method_7_code 99 = .ok (.ireturn, 1) := by decide +kernel
theorem pn_7 : plainName "com/example/berchta/berchta/learn/NodeSet" = true := by first | (simp [plainName, overriddenIn]; done) | decide +kernel
theorem ef_7 (m : MethodId) (x0 : Addr) (x1 : Int32) : entryFrame m #[(.ref x0), (.int x1)] 6 = mkF m 0 #[.val (.ref x0), .val (.int x1), .unset, .unset, .unset, .unset] [] := by first | (simp [entryFrame, mkF, argsToLocals, Value.category]; done) | rfl
def QLnext (Z : State) (a1 : Addr) (p2 : Int32) (w : Addr) (z : Int32) (g : Nat → Int64) (s2 : Int32) (h0 : Heap) (n0 : Nat) (v : Option Value) (h : Heap) (L : List Loc) : Prop := ∃ r : Int32, v = some (.int r) ∧ Fr n0 L ∧ h = h0 ∧ own_lst g p2.toInt r
set_option maxRecDepth 65536 in
set_option maxHeartbeats 40000000 in
theorem rmLnext (l : Launch) (Z : State) (a0 : Array Value) (hw : ∀ d ∈ tables_1, d.before a0 Z = true) (ws : List Jvm.Cond) (a1 : Addr) (p2 : Int32) (w : Addr) (z : Int32) (g : Nat → Int64) (s2 : Int32) (h0 : Heap) (n0 : Nat) (Z0 : n0 ≤ h0.size) (LF : own_leaf Z h0 n0 a1 w z g s2) (hp : p2 = (1 : Int32)) :
    MetFree l (⟨"com/example/berchta/berchta/learn/NodeSet", "next", "(I)I"⟩ : MethodName) (head1 (Jvm.Cond.code (⟨"com/example/berchta/berchta/learn/NodeSet", "next", "(I)I"⟩ : MethodName) prog_101_method_7_code 6 (some .int) :: ws) ({ frames := 2, cells := 0, slots := 0, locals := 29 } : Room)) (fun a U => a = #[(.ref a1), (.int p2)] ∧ Z.Warmed39 U.vm ∧ U.heap = h0) (fun _ _ _ _ _ => True) (fun _ U o U' => ∃ v L, o = .returned v ∧ QLnext Z a1 p2 w z g s2 h0 n0 v U'.heap L ∧ FrameEnd U o U' L ({ frames := 2, cells := 0, slots := 0, locals := 29 } : Room).cells ({ frames := 2, cells := 0, slots := 0, locals := 29 } : Room).slots) := by
  refine MetFree.of_bodySF (plainFor_of_name pn_7) hisR ?_
  intro p e s m args below meth c s₁ Bd hml0 hP hK
  obtain ⟨rfl, hZ, hh⟩ := hP
  have hx := Bd.exec
  have hby := Bd.bytes
  have hml : c.maxLocals = 6 := hml0
  have hown : s.vm.findClass "com/example/berchta/berchta/learn/NodeSet" = some m.cls := findClass_of_methodNamed Bd.named
  have hnm := (name_of_methodNamed Bd.named Bd.method).1
  have X0 : Stand p l e ({ frames := 2, cells := 0, slots := 0, locals := 29 } : Room) s m #[(.ref a1), (.int p2)] below meth c s₁ [] 0 0 := Stand.of_body Bd
  have e0 : s₁.heap = h0 := by rw [← hh, Bd.state]; rfl
  have N0 := Fr.nil n0
  have pre0 : ∀ t, Steps p.tables e below (s₁.setTop (mkF m 0 #[.val (.ref a1), .val (.int p2), .unset, .unset, .unset, .unset] [])) t → Steps p.tables e below (s₁.setTop (entryFrame m #[(.ref a1), (.int p2)] 6)) t := fun t k => castTop (ef_7 m a1 p2) k
  obtain ⟨E_a1, Fw_a1, Ff_a1, Fs_a1, Vw_w, hz12, hf0, g_a1, g_w, naw⟩ := LF
  have p0 : 0 ≤ p2.toInt := by rw [hp]; decide
  have p64 : p2.toInt < 64 := by rw [hp]; decide
  have w0 := (own_wd0 p0 p64).1
  have hlt : own_wd p2 < z := by rw [w0]; exact (by rcases hz12 with q | q <;> rw [q] <;> decide)
  have hz254 : ¬ (254 : Int32) < z := (by rcases hz12 with q | q <;> rw [q] <;> decide)
  have pre1 : ∀ t, Steps p.tables e below (s₁.setTop (mkF m 7 #[.val (.ref a1), .val (.int p2), .val (.int (own_wd p2)), .unset, .unset, .unset] [(.ref a1), (.int (own_wd p2))])) t → Steps p.tables e below (s₁.setTop (entryFrame m #[(.ref a1), (.int p2)] 6)) t := fun t k => pre0 t (by
    show Steps p.tables e below (s₁.setTop (mkF m 0 #[.val (.ref a1), .val (.int p2), .unset, .unset, .unset, .unset] [])) _
    refine XS.iloadN X0.here hx rfl (hb hby d7_0) rfl ?_
    show Steps p.tables e below (s₁.setTop (mkF m 1 #[.val (.ref a1), .val (.int p2), .unset, .unset, .unset, .unset] [(.int p2)])) _
    refine XS.bipush X0.here hx rfl (hb hby d7_1) ?_
    show Steps p.tables e below (s₁.setTop (mkF m 3 #[.val (.ref a1), .val (.int p2), .unset, .unset, .unset, .unset] [(.int (6 : Int32)), (.int p2)])) _
    refine XS.iushr X0.here hx rfl (hb hby d7_3) rfl ?_
    show Steps p.tables e below (s₁.setTop (mkF m 4 #[.val (.ref a1), .val (.int p2), .unset, .unset, .unset, .unset] [(.int ((p2.toUInt32 >>> ((6 : Int32) &&& 31).toUInt32).toInt32))])) _
    refine XS.istoreN X0.here hx rfl (hb hby d7_4) rfl (l' := #[.val (.ref a1), .val (.int p2), .val (.int (own_wd p2)), .unset, .unset, .unset]) rfl ?_
    show Steps p.tables e below (s₁.setTop (mkF m 5 #[.val (.ref a1), .val (.int p2), .val (.int (own_wd p2)), .unset, .unset, .unset] [])) _
    refine XS.iloadN X0.here hx rfl (hb hby d7_5) rfl ?_
    show Steps p.tables e below (s₁.setTop (mkF m 6 #[.val (.ref a1), .val (.int p2), .val (.int (own_wd p2)), .unset, .unset, .unset] [(.int (own_wd p2))])) _
    refine XS.aloadN X0.here hx rfl (hb hby d7_6) rfl rfl ?_
    show Steps p.tables e below (s₁.setTop (mkF m 7 #[.val (.ref a1), .val (.int p2), .val (.int (own_wd p2)), .unset, .unset, .unset] [(.ref a1), (.int (own_wd p2))])) _
    exact k)
  obtain ⟨T2, X2, e2, st2⟩ := getF X0 hx hZ hown (host := "") (Or.inl (hw _ (List.mem_of_getElem? (i := 10) rfl))) Via.refl e0 Fw_a1 (g := (mkF m 7 #[.val (.ref a1), .val (.int p2), .val (.int (own_wd p2)), .unset, .unset, .unset] [(.ref a1), (.int (own_wd p2))])) rfl rfl (hb hby d7_7)
  have pre3 : ∀ t, Steps p.tables e below (T2.setTop (mkF m 10 #[.val (.ref a1), .val (.int p2), .val (.int (own_wd p2)), .unset, .unset, .unset] [(.ref w), (.int (own_wd p2))])) t → Steps p.tables e below (s₁.setTop (entryFrame m #[(.ref a1), (.int p2)] 6)) t := fun t k => pre1 t (by
    show Steps p.tables e below (s₁.setTop (mkF m 7 #[.val (.ref a1), .val (.int p2), .val (.int (own_wd p2)), .unset, .unset, .unset] [(.ref a1), (.int (own_wd p2))])) t
    refine st2 _ ?_
    show Steps p.tables e below (T2.setTop (mkF m 10 #[.val (.ref a1), .val (.int p2), .val (.int (own_wd p2)), .unset, .unset, .unset] [(.ref w), (.int (own_wd p2))])) t
    exact k)
  obtain ⟨cl4, Ar4, Sz4, Nz4⟩ := own_wds_len Vw_w
  have pre5 : ∀ t, Steps p.tables e below (T2.setTop (mkF m 11 #[.val (.ref a1), .val (.int p2), .val (.int (own_wd p2)), .unset, .unset, .unset] [(.int z), (.int (own_wd p2))])) t → Steps p.tables e below (s₁.setTop (entryFrame m #[(.ref a1), (.int p2)] 6)) t := fun t k => pre3 t (by
    show Steps p.tables e below (T2.setTop (mkF m 10 #[.val (.ref a1), .val (.int p2), .val (.int (own_wd p2)), .unset, .unset, .unset] [(.ref w), (.int (own_wd p2))])) t
    refine X2.arraylength hx (by rw [e2]; exact Ar4.1) (State.isArrayOf_alike hZ.alike Ar4.2.1) (g := (mkF m 10 #[.val (.ref a1), .val (.int p2), .val (.int (own_wd p2)), .unset, .unset, .unset] [(.ref w), (.int (own_wd p2))])) rfl rfl (hb hby d7_10) _ ?_
    rw [len_of Sz4 Nz4]
    exact k)
  have pre6 : ∀ t, Steps p.tables e below (T2.setTop (mkF m 17 #[.val (.ref a1), .val (.int p2), .val (.int (own_wd p2)), .unset, .unset, .unset] [(.ref a1)])) t → Steps p.tables e below (s₁.setTop (entryFrame m #[(.ref a1), (.int p2)] 6)) t := fun t k => pre5 t (by
    show Steps p.tables e below (T2.setTop (mkF m 11 #[.val (.ref a1), .val (.int p2), .val (.int (own_wd p2)), .unset, .unset, .unset] [(.int z), (.int (own_wd p2))])) _
    refine XS.icmpYes X2.here hx rfl (pc0 := 11) (pc' := 16) rfl (hb hby d7_11) rfl (tlt hlt).1 (by decide) (by decide) ?_
    show Steps p.tables e below (T2.setTop (mkF m 16 #[.val (.ref a1), .val (.int p2), .val (.int (own_wd p2)), .unset, .unset, .unset] [])) _
    refine XS.aloadN X2.here hx rfl (hb hby d7_16) rfl rfl ?_
    show Steps p.tables e below (T2.setTop (mkF m 17 #[.val (.ref a1), .val (.int p2), .val (.int (own_wd p2)), .unset, .unset, .unset] [(.ref a1)])) _
    exact k)
  obtain ⟨T7, X7, e7, st7⟩ := getF X2 hx hZ hown (host := "") (Or.inl (hw _ (List.mem_of_getElem? (i := 10) rfl))) Via.refl e2 Fw_a1 (g := (mkF m 17 #[.val (.ref a1), .val (.int p2), .val (.int (own_wd p2)), .unset, .unset, .unset] [(.ref a1)])) rfl rfl (hb hby d7_17)
  have pre8 : ∀ t, Steps p.tables e below (T7.setTop (mkF m 20 #[.val (.ref a1), .val (.int p2), .val (.int (own_wd p2)), .unset, .unset, .unset] [(.ref w)])) t → Steps p.tables e below (s₁.setTop (entryFrame m #[(.ref a1), (.int p2)] 6)) t := fun t k => pre6 t (by
    show Steps p.tables e below (T2.setTop (mkF m 17 #[.val (.ref a1), .val (.int p2), .val (.int (own_wd p2)), .unset, .unset, .unset] [(.ref a1)])) t
    refine st7 _ ?_
    show Steps p.tables e below (T7.setTop (mkF m 20 #[.val (.ref a1), .val (.int p2), .val (.int (own_wd p2)), .unset, .unset, .unset] [(.ref w)])) t
    exact k)
  have pre9 : ∀ t, Steps p.tables e below (T7.setTop (mkF m 21 #[.val (.ref a1), .val (.int p2), .val (.int (own_wd p2)), .unset, .unset, .unset] [(.int (own_wd p2)), (.ref w)])) t → Steps p.tables e below (s₁.setTop (entryFrame m #[(.ref a1), (.int p2)] 6)) t := fun t k => pre8 t (by
    show Steps p.tables e below (T7.setTop (mkF m 20 #[.val (.ref a1), .val (.int p2), .val (.int (own_wd p2)), .unset, .unset, .unset] [(.ref w)])) _
    refine XS.iloadN X7.here hx rfl (hb hby d7_20) rfl ?_
    show Steps p.tables e below (T7.setTop (mkF m 21 #[.val (.ref a1), .val (.int p2), .val (.int (own_wd p2)), .unset, .unset, .unset] [(.int (own_wd p2)), (.ref w)])) _
    exact k)
  obtain ⟨cl10, Ar10, hin10, hat10⟩ := own_wds_get Vw_w ⟨own_wd_pos p2, hlt⟩
  have pre11 : ∀ t, Steps p.tables e below (T7.setTop (mkF m 22 #[.val (.ref a1), .val (.int p2), .val (.int (own_wd p2)), .unset, .unset, .unset] [(.long (g (own_ix p2)))])) t → Steps p.tables e below (s₁.setTop (entryFrame m #[(.ref a1), (.int p2)] 6)) t := fun t k => pre9 t (by
    show Steps p.tables e below (T7.setTop (mkF m 21 #[.val (.ref a1), .val (.int p2), .val (.int (own_wd p2)), .unset, .unset, .unset] [(.int (own_wd p2)), (.ref w)])) t
    refine X7.laload hx (j := (own_wd p2)) (v := (.long (g (own_ix p2)))) (by rw [e7]; exact Ar10.1) (State.isArrayOf_alike hZ.alike Ar10.2.1) Ar10.2.2 hin10 hat10 (g := (mkF m 21 #[.val (.ref a1), .val (.int p2), .val (.int (own_wd p2)), .unset, .unset, .unset] [(.int (own_wd p2)), (.ref w)])) rfl rfl (hb hby d7_21) _ ?_
    exact k)
  have pre12 : ∀ t, Steps p.tables e below (T7.setTop (mkF m 32 #[.val (.ref a1), .val (.int p2), .val (.int (own_wd p2)), .val (.long (own_rs g p2)), .second, .unset] [(.int (lcmpW (own_rs g p2) (0 : Int64)))])) t → Steps p.tables e below (s₁.setTop (entryFrame m #[(.ref a1), (.int p2)] 6)) t := fun t k => pre11 t (by
    show Steps p.tables e below (T7.setTop (mkF m 22 #[.val (.ref a1), .val (.int p2), .val (.int (own_wd p2)), .unset, .unset, .unset] [(.long (g (own_ix p2)))])) _
    refine X7.ldc2Long hx hown (mvT hZ (hw _ (List.mem_of_getElem? (i := 26) rfl))) (g := (mkF m 22 #[.val (.ref a1), .val (.int p2), .val (.int (own_wd p2)), .unset, .unset, .unset] [(.long (g (own_ix p2)))])) rfl (hb hby d7_22) _ ?_
    show Steps p.tables e below (T7.setTop (mkF m 25 #[.val (.ref a1), .val (.int p2), .val (.int (own_wd p2)), .unset, .unset, .unset] [(.long (-1 : Int64)), (.long (g (own_ix p2)))])) _
    refine XS.iloadN X7.here hx rfl (hb hby d7_25) rfl ?_
    show Steps p.tables e below (T7.setTop (mkF m 26 #[.val (.ref a1), .val (.int p2), .val (.int (own_wd p2)), .unset, .unset, .unset] [(.int p2), (.long (-1 : Int64)), (.long (g (own_ix p2)))])) _
    refine XS.lshl X7.here hx rfl (hb hby d7_26) rfl ?_
    show Steps p.tables e below (T7.setTop (mkF m 27 #[.val (.ref a1), .val (.int p2), .val (.int (own_wd p2)), .unset, .unset, .unset] [(.long ((-1 : Int64) <<< (p2 &&& 0x3f).toInt64)), (.long (g (own_ix p2)))])) _
    refine XS.land X7.here hx rfl (hb hby d7_27) rfl ?_
    show Steps p.tables e below (T7.setTop (mkF m 28 #[.val (.ref a1), .val (.int p2), .val (.int (own_wd p2)), .unset, .unset, .unset] [(.long ((g (own_ix p2)) &&& ((-1 : Int64) <<< (p2 &&& 0x3f).toInt64)))])) _
    refine XS.lstoreN X7.here hx rfl (hb hby d7_28) rfl (l' := #[.val (.ref a1), .val (.int p2), .val (.int (own_wd p2)), .val (.long (own_rs g p2)), .second, .unset]) rfl ?_
    show Steps p.tables e below (T7.setTop (mkF m 29 #[.val (.ref a1), .val (.int p2), .val (.int (own_wd p2)), .val (.long (own_rs g p2)), .second, .unset] [])) _
    refine XS.lloadN X7.here hx rfl (hb hby d7_29) rfl ?_
    show Steps p.tables e below (T7.setTop (mkF m 30 #[.val (.ref a1), .val (.int p2), .val (.int (own_wd p2)), .val (.long (own_rs g p2)), .second, .unset] [(.long (own_rs g p2))])) _
    refine XS.lconst X7.here hx rfl (hb hby d7_30) ?_
    show Steps p.tables e below (T7.setTop (mkF m 31 #[.val (.ref a1), .val (.int p2), .val (.int (own_wd p2)), .val (.long (own_rs g p2)), .second, .unset] [(.long (0 : Int64)), (.long (own_rs g p2))])) _
    refine XS.lcmp X7.here hx rfl (hb hby d7_31) rfl ?_
    show Steps p.tables e below (T7.setTop (mkF m 32 #[.val (.ref a1), .val (.int p2), .val (.int (own_wd p2)), .val (.long (own_rs g p2)), .second, .unset] [(.int (lcmpW (own_rs g p2) (0 : Int64)))])) _
    exact k)
  by_cases hr0 : (own_rs g p2) = 0
  · skip
    have pre13 : ∀ t, Steps p.tables e below (T7.setTop (mkF m 46 #[.val (.ref a1), .val (.int p2), .val (.int (own_wd p2)), .val (.long (own_rs g p2)), .second, .unset] [(.ref a1)])) t → Steps p.tables e below (s₁.setTop (entryFrame m #[(.ref a1), (.int p2)] 6)) t := fun t k => pre12 t (by
      show Steps p.tables e below (T7.setTop (mkF m 32 #[.val (.ref a1), .val (.int p2), .val (.int (own_wd p2)), .val (.long (own_rs g p2)), .second, .unset] [(.int (lcmpW (own_rs g p2) (0 : Int64)))])) _
      refine XS.ifYes X7.here hx rfl (pc0 := 32) (pc' := 45) rfl (hb hby d7_32) rfl ((if0 _ _).trans (teq ((lw_eq _ _).mpr hr0)).1) (by decide) (by decide) ?_
      show Steps p.tables e below (T7.setTop (mkF m 45 #[.val (.ref a1), .val (.int p2), .val (.int (own_wd p2)), .val (.long (own_rs g p2)), .second, .unset] [])) _
      refine XS.aloadN X7.here hx rfl (hb hby d7_45) rfl rfl ?_
      show Steps p.tables e below (T7.setTop (mkF m 46 #[.val (.ref a1), .val (.int p2), .val (.int (own_wd p2)), .val (.long (own_rs g p2)), .second, .unset] [(.ref a1)])) _
      exact k)
    obtain ⟨T14, X14, e14, st14⟩ := getF X7 hx hZ hown (host := "") (Or.inl (hw _ (List.mem_of_getElem? (i := 19) rfl))) Via.refl e7 Ff_a1 (g := (mkF m 46 #[.val (.ref a1), .val (.int p2), .val (.int (own_wd p2)), .val (.long (own_rs g p2)), .second, .unset] [(.ref a1)])) rfl rfl (hb hby d7_46)
    have pre15 : ∀ t, Steps p.tables e below (T14.setTop (mkF m 49 #[.val (.ref a1), .val (.int p2), .val (.int (own_wd p2)), .val (.long (own_rs g p2)), .second, .unset] [.null])) t → Steps p.tables e below (s₁.setTop (entryFrame m #[(.ref a1), (.int p2)] 6)) t := fun t k => pre13 t (by
      show Steps p.tables e below (T7.setTop (mkF m 46 #[.val (.ref a1), .val (.int p2), .val (.int (own_wd p2)), .val (.long (own_rs g p2)), .second, .unset] [(.ref a1)])) t
      refine st14 _ ?_
      show Steps p.tables e below (T14.setTop (mkF m 49 #[.val (.ref a1), .val (.int p2), .val (.int (own_wd p2)), .val (.long (own_rs g p2)), .second, .unset] [.null])) t
      exact k)
    have pre16 : ∀ t, Steps p.tables e below (T14.setTop (mkF m 56 #[.val (.ref a1), .val (.int p2), .val (.int (own_wd p2)), .val (.long (own_rs g p2)), .second, .unset] [(.int ((own_wd p2) + (1 : Int32))), (.ref a1)])) t → Steps p.tables e below (s₁.setTop (entryFrame m #[(.ref a1), (.int p2)] 6)) t := fun t k => pre15 t (by
      show Steps p.tables e below (T14.setTop (mkF m 49 #[.val (.ref a1), .val (.int p2), .val (.int (own_wd p2)), .val (.long (own_rs g p2)), .second, .unset] [.null])) _
      refine XS.ifnonnullNo X14.here hx rfl (hb hby d7_49) rfl ?_
      show Steps p.tables e below (T14.setTop (mkF m 52 #[.val (.ref a1), .val (.int p2), .val (.int (own_wd p2)), .val (.long (own_rs g p2)), .second, .unset] [])) _
      refine XS.aloadN X14.here hx rfl (hb hby d7_52) rfl rfl ?_
      show Steps p.tables e below (T14.setTop (mkF m 53 #[.val (.ref a1), .val (.int p2), .val (.int (own_wd p2)), .val (.long (own_rs g p2)), .second, .unset] [(.ref a1)])) _
      refine XS.iloadN X14.here hx rfl (hb hby d7_53) rfl ?_
      show Steps p.tables e below (T14.setTop (mkF m 54 #[.val (.ref a1), .val (.int p2), .val (.int (own_wd p2)), .val (.long (own_rs g p2)), .second, .unset] [(.int (own_wd p2)), (.ref a1)])) _
      refine XS.iconst X14.here hx rfl (hb hby d7_54) ?_
      show Steps p.tables e below (T14.setTop (mkF m 55 #[.val (.ref a1), .val (.int p2), .val (.int (own_wd p2)), .val (.long (own_rs g p2)), .second, .unset] [(.int (1 : Int32)), (.int (own_wd p2)), (.ref a1)])) _
      refine XS.iadd X14.here hx rfl (hb hby d7_55) rfl ?_
      show Steps p.tables e below (T14.setTop (mkF m 56 #[.val (.ref a1), .val (.int p2), .val (.int (own_wd p2)), .val (.long (own_rs g p2)), .second, .unset] [(.int ((own_wd p2) + (1 : Int32))), (.ref a1)])) _
      exact k)
    obtain ⟨cq17, q17, q17'⟩ := E_a1.cell
    obtain ⟨_, _, ⟨T17, L17, k17, n17⟩, -, X17, ⟨Lc17, hQ17, l17, y17, z17⟩, st17⟩ := X14.privateBack hx (y := (⟨"com/example/berchta/berchta/learn/NodeSet", "nextFilled", "(I)I"⟩ : MethodName)) hown (mvT hZ (hw _ (List.mem_of_getElem? (i := 74) rfl))) (mvT hZ (hw _ (List.mem_of_getElem? (i := 75) rfl))) (mvT hZ (own_sel (z := (⟨"com/example/berchta/berchta/learn/NodeSet", "add", "(I)V"⟩ : MethodName)) rfl (hw _ (List.mem_of_getElem? (i := 15) rfl)) (hw _ (List.mem_of_getElem? (i := 75) rfl)) (hw _ (List.mem_of_getElem? (i := 76) rfl)) (by decide))) (Cond.privateMethod_at (mvP hZ (hw _ (List.mem_of_getElem? (i := 76) rfl)) (args := #[]))) (mvT hZ (hw _ (List.mem_of_getElem? (i := 77) rfl))) (by decide) (backOf (W := 0) (rm15 l Z a0 hw [] a1 ((own_wd p2) + (1 : Int32)) w z g h0 n0 Z0 Fw_a1 Vw_w (by rw [w0]; decide)) hZ (hw _ (List.mem_of_getElem? (i := 77) rfl)) (hw _ (List.mem_of_getElem? (i := 2) rfl)) (by decide) (by decide)) (g := (mkF m 56 #[.val (.ref a1), .val (.int p2), .val (.int (own_wd p2)), .val (.long (own_rs g p2)), .second, .unset] [(.int ((own_wd p2) + (1 : Int32))), (.ref a1)])) rfl (by rw [hml]; rfl) (Steps.refl _) (a := a1) (by rw [e14]; exact q17) q17' (argsL := [(.int ((own_wd p2) + (1 : Int32)))]) (rest := []) (lenOf pdx_3 rfl) rfl (by show 2 * 0 + _ ≤ _; exact Nat.le_of_eq rfl) (hb hby d7_56) (fun _ _ => ⟨rfl, e14, (by decide : 0 + 0 ≤ _), (by decide : 0 + 0 ≤ _)⟩)
    dsimp only [Pt.U, Pt.locs, Pt.cells, Pt.slots] at X17 l17 y17 z17 st17 hQ17
    subst l17 y17 z17
    obtain ⟨r, rfl, N17q, e17, hnf⟩ := hQ17
    have N17 := Fr.app N0 N17q
    have pre18 : ∀ t, Steps p.tables e below (T17.setTop (mkF m 59 #[.val (.ref a1), .val (.int p2), .val (.int (own_wd p2)), .val (.long (own_rs g p2)), .second, .unset] [(.int r)])) t → Steps p.tables e below (s₁.setTop (entryFrame m #[(.ref a1), (.int p2)] 6)) t := fun t k => pre16 t (by
      show Steps p.tables e below (T14.setTop (mkF m 56 #[.val (.ref a1), .val (.int p2), .val (.int (own_wd p2)), .val (.long (own_rs g p2)), .second, .unset] [(.int ((own_wd p2) + (1 : Int32))), (.ref a1)])) t
      refine st17.trans ?_
      show Steps p.tables e below (T17.setTop (mkF m 59 #[.val (.ref a1), .val (.int p2), .val (.int (own_wd p2)), .val (.long (own_rs g p2)), .second, .unset] [(.int r)])) t
      exact k)
    have pre19 : ∀ t, Steps p.tables e below (T17.setTop (mkF m 72 #[.val (.ref a1), .val (.int p2), .val (.int (own_wd p2)), .val (.long (own_rs g p2)), .second, .unset] [(.int r)])) t → Steps p.tables e below (s₁.setTop (entryFrame m #[(.ref a1), (.int p2)] 6)) t := fun t k => pre18 t (by
      show Steps p.tables e below (T17.setTop (mkF m 59 #[.val (.ref a1), .val (.int p2), .val (.int (own_wd p2)), .val (.long (own_rs g p2)), .second, .unset] [(.int r)])) _
      refine XS.goto X17.here hx rfl (pc0 := 59) (pc' := 72) rfl (hb hby d7_59) (by decide) (by decide) ?_
      show Steps p.tables e below (T17.setTop (mkF m 72 #[.val (.ref a1), .val (.int p2), .val (.int (own_wd p2)), .val (.long (own_rs g p2)), .second, .unset] [(.int r)])) _
      exact k)
    have haf := own_af_nf p0 p64 hf0 hz254 hnf
    have pre20 : ∀ t, Steps p.tables e below (T17.setTop (mkF m 74 #[.val (.ref a1), .val (.int p2), .val (.int (own_wd p2)), .val (.long (own_rs g p2)), .second, .val (.int r)] [])) t → Steps p.tables e below (s₁.setTop (entryFrame m #[(.ref a1), (.int p2)] 6)) t := fun t k => pre19 t (by
      show Steps p.tables e below (T17.setTop (mkF m 72 #[.val (.ref a1), .val (.int p2), .val (.int (own_wd p2)), .val (.long (own_rs g p2)), .second, .unset] [(.int r)])) _
      refine XS.istore X17.here hx rfl (hb hby d7_72) rfl (l' := #[.val (.ref a1), .val (.int p2), .val (.int (own_wd p2)), .val (.long (own_rs g p2)), .second, .val (.int r)]) rfl ?_
      show Steps p.tables e below (T17.setTop (mkF m 74 #[.val (.ref a1), .val (.int p2), .val (.int (own_wd p2)), .val (.long (own_rs g p2)), .second, .val (.int r)] [])) _
      exact k)
    have pre21 : ∀ t, Steps p.tables e below (T17.setTop (mkF m 76 #[.val (.ref a1), .val (.int p2), .val (.int (own_wd p2)), .val (.long (own_rs g p2)), .second, .val (.int r)] [(.int r)])) t → Steps p.tables e below (s₁.setTop (entryFrame m #[(.ref a1), (.int p2)] 6)) t := fun t k => pre20 t (by
      show Steps p.tables e below (T17.setTop (mkF m 74 #[.val (.ref a1), .val (.int p2), .val (.int (own_wd p2)), .val (.long (own_rs g p2)), .second, .val (.int r)] [])) _
      refine XS.iload X17.here hx rfl (hb hby d7_74) rfl ?_
      show Steps p.tables e below (T17.setTop (mkF m 76 #[.val (.ref a1), .val (.int p2), .val (.int (own_wd p2)), .val (.long (own_rs g p2)), .second, .val (.int r)] [(.int r)])) _
      exact k)
    by_cases hrn : r < 0
    · skip
      have pre22 : ∀ t, Steps p.tables e below (T17.setTop (mkF m 99 #[.val (.ref a1), .val (.int p2), .val (.int (own_wd p2)), .val (.long (own_rs g p2)), .second, .val (.int r)] [(.int (-1 : Int32))])) t → Steps p.tables e below (s₁.setTop (entryFrame m #[(.ref a1), (.int p2)] 6)) t := fun t k => pre21 t (by
        show Steps p.tables e below (T17.setTop (mkF m 76 #[.val (.ref a1), .val (.int p2), .val (.int (own_wd p2)), .val (.long (own_rs g p2)), .second, .val (.int r)] [(.int r)])) _
        refine XS.ifNo X17.here hx rfl (hb hby d7_76) rfl ((if0 _ _).trans (tlt hrn).2.1) ?_
        show Steps p.tables e below (T17.setTop (mkF m 79 #[.val (.ref a1), .val (.int p2), .val (.int (own_wd p2)), .val (.long (own_rs g p2)), .second, .val (.int r)] [])) _
        refine XS.iconst X17.here hx rfl (hb hby d7_79) ?_
        show Steps p.tables e below (T17.setTop (mkF m 80 #[.val (.ref a1), .val (.int p2), .val (.int (own_wd p2)), .val (.long (own_rs g p2)), .second, .val (.int r)] [(.int (-1 : Int32))])) _
        refine XS.goto X17.here hx rfl (pc0 := 80) (pc' := 99) rfl (hb hby d7_80) (by decide) (by decide) ?_
        show Steps p.tables e below (T17.setTop (mkF m 99 #[.val (.ref a1), .val (.int p2), .val (.int (own_wd p2)), .val (.long (own_rs g p2)), .second, .val (.int r)] [(.int (-1 : Int32))])) _
        exact k)
      obtain ⟨fs, hr, hrun, hended, hW, hsame⟩ := X17.leave (v := some (.int (-1 : Int32))) (fun h => by rw [Bd.returns] at h; cases h)
      refine ⟨_, _, pre22 _ ?_, hrun, hended, _, _, rfl, ?_, ⟨_, rfl⟩, hW, hsame.mono (by decide) (by decide)⟩
      · show Steps p.tables e below (T17.setTop (mkF m 99 #[.val (.ref a1), .val (.int p2), .val (.int (own_wd p2)), .val (.long (own_rs g p2)), .second, .val (.int r)] [(.int (-1 : Int32))])) _
        exact retI X17 hx Bd.returns (hb hby d7_99) hr
      · show QLnext Z a1 p2 w z g s2 h0 n0 _ T17.heap _
        rw [e17]
        exact ⟨_, rfl, N17, rfl, own_lst_none p0 p64 hr0 haf hrn⟩
    · skip
      have pre23 : ∀ t, Steps p.tables e below (T17.setTop (mkF m 89 #[.val (.ref a1), .val (.int p2), .val (.int (own_wd p2)), .val (.long (own_rs g p2)), .second, .val (.int r)] [(.ref a1), (.int (r <<< ((6 : Int32) &&& 31)))])) t → Steps p.tables e below (s₁.setTop (entryFrame m #[(.ref a1), (.int p2)] 6)) t := fun t k => pre21 t (by
        show Steps p.tables e below (T17.setTop (mkF m 76 #[.val (.ref a1), .val (.int p2), .val (.int (own_wd p2)), .val (.long (own_rs g p2)), .second, .val (.int r)] [(.int r)])) _
        refine XS.ifYes X17.here hx rfl (pc0 := 76) (pc' := 83) rfl (hb hby d7_76) rfl ((if0 _ _).trans (flt hrn).2.1) (by decide) (by decide) ?_
        show Steps p.tables e below (T17.setTop (mkF m 83 #[.val (.ref a1), .val (.int p2), .val (.int (own_wd p2)), .val (.long (own_rs g p2)), .second, .val (.int r)] [])) _
        refine XS.iload X17.here hx rfl (hb hby d7_83) rfl ?_
        show Steps p.tables e below (T17.setTop (mkF m 85 #[.val (.ref a1), .val (.int p2), .val (.int (own_wd p2)), .val (.long (own_rs g p2)), .second, .val (.int r)] [(.int r)])) _
        refine XS.bipush X17.here hx rfl (hb hby d7_85) ?_
        show Steps p.tables e below (T17.setTop (mkF m 87 #[.val (.ref a1), .val (.int p2), .val (.int (own_wd p2)), .val (.long (own_rs g p2)), .second, .val (.int r)] [(.int (6 : Int32)), (.int r)])) _
        refine XS.ishl X17.here hx rfl (hb hby d7_87) rfl ?_
        show Steps p.tables e below (T17.setTop (mkF m 88 #[.val (.ref a1), .val (.int p2), .val (.int (own_wd p2)), .val (.long (own_rs g p2)), .second, .val (.int r)] [(.int (r <<< ((6 : Int32) &&& 31)))])) _
        refine XS.aloadN X17.here hx rfl (hb hby d7_88) rfl rfl ?_
        show Steps p.tables e below (T17.setTop (mkF m 89 #[.val (.ref a1), .val (.int p2), .val (.int (own_wd p2)), .val (.long (own_rs g p2)), .second, .val (.int r)] [(.ref a1), (.int (r <<< ((6 : Int32) &&& 31)))])) _
        exact k)
      obtain ⟨T24, X24, e24, st24⟩ := getF X17 hx hZ hown (host := "") (Or.inl (hw _ (List.mem_of_getElem? (i := 10) rfl))) Via.refl e17 Fw_a1 (g := (mkF m 89 #[.val (.ref a1), .val (.int p2), .val (.int (own_wd p2)), .val (.long (own_rs g p2)), .second, .val (.int r)] [(.ref a1), (.int (r <<< ((6 : Int32) &&& 31)))])) rfl rfl (hb hby d7_89)
      have pre25 : ∀ t, Steps p.tables e below (T24.setTop (mkF m 92 #[.val (.ref a1), .val (.int p2), .val (.int (own_wd p2)), .val (.long (own_rs g p2)), .second, .val (.int r)] [(.ref w), (.int (r <<< ((6 : Int32) &&& 31)))])) t → Steps p.tables e below (s₁.setTop (entryFrame m #[(.ref a1), (.int p2)] 6)) t := fun t k => pre23 t (by
        show Steps p.tables e below (T17.setTop (mkF m 89 #[.val (.ref a1), .val (.int p2), .val (.int (own_wd p2)), .val (.long (own_rs g p2)), .second, .val (.int r)] [(.ref a1), (.int (r <<< ((6 : Int32) &&& 31)))])) t
        refine st24 _ ?_
        show Steps p.tables e below (T24.setTop (mkF m 92 #[.val (.ref a1), .val (.int p2), .val (.int (own_wd p2)), .val (.long (own_rs g p2)), .second, .val (.int r)] [(.ref w), (.int (r <<< ((6 : Int32) &&& 31)))])) t
        exact k)
      have pre26 : ∀ t, Steps p.tables e below (T24.setTop (mkF m 94 #[.val (.ref a1), .val (.int p2), .val (.int (own_wd p2)), .val (.long (own_rs g p2)), .second, .val (.int r)] [(.int r), (.ref w), (.int (r <<< ((6 : Int32) &&& 31)))])) t → Steps p.tables e below (s₁.setTop (entryFrame m #[(.ref a1), (.int p2)] 6)) t := fun t k => pre25 t (by
        show Steps p.tables e below (T24.setTop (mkF m 92 #[.val (.ref a1), .val (.int p2), .val (.int (own_wd p2)), .val (.long (own_rs g p2)), .second, .val (.int r)] [(.ref w), (.int (r <<< ((6 : Int32) &&& 31)))])) _
        refine XS.iload X24.here hx rfl (hb hby d7_92) rfl ?_
        show Steps p.tables e below (T24.setTop (mkF m 94 #[.val (.ref a1), .val (.int p2), .val (.int (own_wd p2)), .val (.long (own_rs g p2)), .second, .val (.int r)] [(.int r), (.ref w), (.int (r <<< ((6 : Int32) &&& 31)))])) _
        exact k)
      obtain ⟨cl27, Ar27, hin27, hat27⟩ := own_wds_get Vw_w ⟨hrn, own_af_lt haf hf0 hrn⟩
      have pre28 : ∀ t, Steps p.tables e below (T24.setTop (mkF m 95 #[.val (.ref a1), .val (.int p2), .val (.int (own_wd p2)), .val (.long (own_rs g p2)), .second, .val (.int r)] [(.long (g r.toNatClampNeg)), (.int (r <<< ((6 : Int32) &&& 31)))])) t → Steps p.tables e below (s₁.setTop (entryFrame m #[(.ref a1), (.int p2)] 6)) t := fun t k => pre26 t (by
        show Steps p.tables e below (T24.setTop (mkF m 94 #[.val (.ref a1), .val (.int p2), .val (.int (own_wd p2)), .val (.long (own_rs g p2)), .second, .val (.int r)] [(.int r), (.ref w), (.int (r <<< ((6 : Int32) &&& 31)))])) t
        refine X24.laload hx (j := r) (v := (.long (g r.toNatClampNeg))) (by rw [e24]; exact Ar27.1) (State.isArrayOf_alike hZ.alike Ar27.2.1) Ar27.2.2 hin27 hat27 (g := (mkF m 94 #[.val (.ref a1), .val (.int p2), .val (.int (own_wd p2)), .val (.long (own_rs g p2)), .second, .val (.int r)] [(.int r), (.ref w), (.int (r <<< ((6 : Int32) &&& 31)))])) rfl rfl (hb hby d7_94) _ ?_
        exact k)
      obtain ⟨_, _, ⟨T29, L29, k29, n29⟩, -, X29, ⟨Lc29, hQ29, l29, y29, z29⟩, st29⟩ := Jvm.LawKit.callS X24 hx (y := (⟨"java/lang/Long", "numberOfTrailingZeros", "(J)I"⟩ : MethodName)) hown (mvT hZ (hw _ (List.mem_of_getElem? (i := 42) rfl))) (mvT hZ (hw _ (List.mem_of_getElem? (i := 43) rfl))) (mvT hZ (hw _ (List.mem_of_getElem? (i := 44) rfl))) (mvT hZ (hw _ (List.mem_of_getElem? (i := 45) rfl))) (by decide) (backOf (W := 1) (rm8 l Z a0 hw [] (g r.toNatClampNeg)  h0 n0 Z0) hZ (hw _ (List.mem_of_getElem? (i := 45) rfl)) (hw _ (List.mem_of_getElem? (i := 44) rfl)) (by decide) (by decide)) (g := (mkF m 95 #[.val (.ref a1), .val (.int p2), .val (.int (own_wd p2)), .val (.long (own_rs g p2)), .second, .val (.int r)] [(.long (g r.toNatClampNeg)), (.int (r <<< ((6 : Int32) &&& 31)))])) rfl (by rw [hml]; rfl) (argsL := [(.long (g r.toNatClampNeg))]) (rest := [(.int (r <<< ((6 : Int32) &&& 31)))]) (lenOf pdx_5 rfl) rfl (by show 2 * 0 + _ ≤ _; exact Nat.le_of_eq rfl) (hb hby d7_95) (fun _ _ => ⟨rfl, e24, (by decide : 0 + 0 ≤ _), (by decide : 0 + 0 ≤ _)⟩)
      dsimp only [Pt.U, Pt.locs, Pt.cells, Pt.slots] at X29 l29 y29 z29 st29 hQ29
      subst l29 y29 z29
      obtain ⟨rfl, N29q, e29⟩ := hQ29
      have N29 := Fr.app N17 N29q
      have pre30 : ∀ t, Steps p.tables e below (T29.setTop (mkF m 98 #[.val (.ref a1), .val (.int p2), .val (.int (own_wd p2)), .val (.long (own_rs g p2)), .second, .val (.int r)] [(.int (own_ctz (g r.toNatClampNeg))), (.int (r <<< ((6 : Int32) &&& 31)))])) t → Steps p.tables e below (s₁.setTop (entryFrame m #[(.ref a1), (.int p2)] 6)) t := fun t k => pre28 t (by
        show Steps p.tables e below (T24.setTop (mkF m 95 #[.val (.ref a1), .val (.int p2), .val (.int (own_wd p2)), .val (.long (own_rs g p2)), .second, .val (.int r)] [(.long (g r.toNatClampNeg)), (.int (r <<< ((6 : Int32) &&& 31)))])) t
        refine st29 _ ?_
        show Steps p.tables e below (T29.setTop (mkF m 98 #[.val (.ref a1), .val (.int p2), .val (.int (own_wd p2)), .val (.long (own_rs g p2)), .second, .val (.int r)] [(.int (own_ctz (g r.toNatClampNeg))), (.int (r <<< ((6 : Int32) &&& 31)))])) t
        exact k)
      have pre31 : ∀ t, Steps p.tables e below (T29.setTop (mkF m 99 #[.val (.ref a1), .val (.int p2), .val (.int (own_wd p2)), .val (.long (own_rs g p2)), .second, .val (.int r)] [(.int (own_cat r (own_ctz (g r.toNatClampNeg))))])) t → Steps p.tables e below (s₁.setTop (entryFrame m #[(.ref a1), (.int p2)] 6)) t := fun t k => pre30 t (by
        show Steps p.tables e below (T29.setTop (mkF m 98 #[.val (.ref a1), .val (.int p2), .val (.int (own_wd p2)), .val (.long (own_rs g p2)), .second, .val (.int r)] [(.int (own_ctz (g r.toNatClampNeg))), (.int (r <<< ((6 : Int32) &&& 31)))])) _
        refine XS.ior X29.here hx rfl (hb hby d7_98) rfl ?_
        show Steps p.tables e below (T29.setTop (mkF m 99 #[.val (.ref a1), .val (.int p2), .val (.int (own_wd p2)), .val (.long (own_rs g p2)), .second, .val (.int r)] [(.int (own_cat r (own_ctz (g r.toNatClampNeg))))])) _
        exact k)
      obtain ⟨fs, hr, hrun, hended, hW, hsame⟩ := X29.leave (v := some (.int (own_cat r (own_ctz (g r.toNatClampNeg))))) (fun h => by rw [Bd.returns] at h; cases h)
      refine ⟨_, _, pre31 _ ?_, hrun, hended, _, _, rfl, ?_, ⟨_, rfl⟩, hW, hsame.mono (by decide) (by decide)⟩
      · show Steps p.tables e below (T29.setTop (mkF m 99 #[.val (.ref a1), .val (.int p2), .val (.int (own_wd p2)), .val (.long (own_rs g p2)), .second, .val (.int r)] [(.int (own_cat r (own_ctz (g r.toNatClampNeg))))])) _
        exact retI X29 hx Bd.returns (hb hby d7_99) hr
      · show QLnext Z a1 p2 w z g s2 h0 n0 _ T29.heap _
        rw [e29]
        exact ⟨_, rfl, N29, rfl, own_lst_hi p0 p64 hr0 haf hrn⟩
  · skip
    have pre32 : ∀ t, Steps p.tables e below (T7.setTop (mkF m 40 #[.val (.ref a1), .val (.int p2), .val (.int (own_wd p2)), .val (.long (own_rs g p2)), .second, .unset] [(.long (own_rs g p2)), (.int ((own_wd p2) <<< ((6 : Int32) &&& 31)))])) t → Steps p.tables e below (s₁.setTop (entryFrame m #[(.ref a1), (.int p2)] 6)) t := fun t k => pre12 t (by
      show Steps p.tables e below (T7.setTop (mkF m 32 #[.val (.ref a1), .val (.int p2), .val (.int (own_wd p2)), .val (.long (own_rs g p2)), .second, .unset] [(.int (lcmpW (own_rs g p2) (0 : Int64)))])) _
      refine XS.ifNo X7.here hx rfl (hb hby d7_32) rfl ((if0 _ _).trans (feq (fun q => hr0 ((lw_eq _ _).mp q))).1) ?_
      show Steps p.tables e below (T7.setTop (mkF m 35 #[.val (.ref a1), .val (.int p2), .val (.int (own_wd p2)), .val (.long (own_rs g p2)), .second, .unset] [])) _
      refine XS.iloadN X7.here hx rfl (hb hby d7_35) rfl ?_
      show Steps p.tables e below (T7.setTop (mkF m 36 #[.val (.ref a1), .val (.int p2), .val (.int (own_wd p2)), .val (.long (own_rs g p2)), .second, .unset] [(.int (own_wd p2))])) _
      refine XS.bipush X7.here hx rfl (hb hby d7_36) ?_
      show Steps p.tables e below (T7.setTop (mkF m 38 #[.val (.ref a1), .val (.int p2), .val (.int (own_wd p2)), .val (.long (own_rs g p2)), .second, .unset] [(.int (6 : Int32)), (.int (own_wd p2))])) _
      refine XS.ishl X7.here hx rfl (hb hby d7_38) rfl ?_
      show Steps p.tables e below (T7.setTop (mkF m 39 #[.val (.ref a1), .val (.int p2), .val (.int (own_wd p2)), .val (.long (own_rs g p2)), .second, .unset] [(.int ((own_wd p2) <<< ((6 : Int32) &&& 31)))])) _
      refine XS.lloadN X7.here hx rfl (hb hby d7_39) rfl ?_
      show Steps p.tables e below (T7.setTop (mkF m 40 #[.val (.ref a1), .val (.int p2), .val (.int (own_wd p2)), .val (.long (own_rs g p2)), .second, .unset] [(.long (own_rs g p2)), (.int ((own_wd p2) <<< ((6 : Int32) &&& 31)))])) _
      exact k)
    obtain ⟨_, _, ⟨T33, L33, k33, n33⟩, -, X33, ⟨Lc33, hQ33, l33, y33, z33⟩, st33⟩ := Jvm.LawKit.callS X7 hx (y := (⟨"java/lang/Long", "numberOfTrailingZeros", "(J)I"⟩ : MethodName)) hown (mvT hZ (hw _ (List.mem_of_getElem? (i := 42) rfl))) (mvT hZ (hw _ (List.mem_of_getElem? (i := 43) rfl))) (mvT hZ (hw _ (List.mem_of_getElem? (i := 44) rfl))) (mvT hZ (hw _ (List.mem_of_getElem? (i := 45) rfl))) (by decide) (backOf (W := 1) (rm8 l Z a0 hw [] (own_rs g p2)  h0 n0 Z0) hZ (hw _ (List.mem_of_getElem? (i := 45) rfl)) (hw _ (List.mem_of_getElem? (i := 44) rfl)) (by decide) (by decide)) (g := (mkF m 40 #[.val (.ref a1), .val (.int p2), .val (.int (own_wd p2)), .val (.long (own_rs g p2)), .second, .unset] [(.long (own_rs g p2)), (.int ((own_wd p2) <<< ((6 : Int32) &&& 31)))])) rfl (by rw [hml]; rfl) (argsL := [(.long (own_rs g p2))]) (rest := [(.int ((own_wd p2) <<< ((6 : Int32) &&& 31)))]) (lenOf pdx_5 rfl) rfl (by show 2 * 0 + _ ≤ _; exact Nat.le_of_eq rfl) (hb hby d7_40) (fun _ _ => ⟨rfl, e7, (by decide : 0 + 0 ≤ _), (by decide : 0 + 0 ≤ _)⟩)
    dsimp only [Pt.U, Pt.locs, Pt.cells, Pt.slots] at X33 l33 y33 z33 st33 hQ33
    subst l33 y33 z33
    obtain ⟨rfl, N33q, e33⟩ := hQ33
    have N33 := Fr.app N0 N33q
    have pre34 : ∀ t, Steps p.tables e below (T33.setTop (mkF m 43 #[.val (.ref a1), .val (.int p2), .val (.int (own_wd p2)), .val (.long (own_rs g p2)), .second, .unset] [(.int (own_ctz (own_rs g p2))), (.int ((own_wd p2) <<< ((6 : Int32) &&& 31)))])) t → Steps p.tables e below (s₁.setTop (entryFrame m #[(.ref a1), (.int p2)] 6)) t := fun t k => pre32 t (by
      show Steps p.tables e below (T7.setTop (mkF m 40 #[.val (.ref a1), .val (.int p2), .val (.int (own_wd p2)), .val (.long (own_rs g p2)), .second, .unset] [(.long (own_rs g p2)), (.int ((own_wd p2) <<< ((6 : Int32) &&& 31)))])) t
      refine st33 _ ?_
      show Steps p.tables e below (T33.setTop (mkF m 43 #[.val (.ref a1), .val (.int p2), .val (.int (own_wd p2)), .val (.long (own_rs g p2)), .second, .unset] [(.int (own_ctz (own_rs g p2))), (.int ((own_wd p2) <<< ((6 : Int32) &&& 31)))])) t
      exact k)
    have pre35 : ∀ t, Steps p.tables e below (T33.setTop (mkF m 44 #[.val (.ref a1), .val (.int p2), .val (.int (own_wd p2)), .val (.long (own_rs g p2)), .second, .unset] [(.int (own_cat (own_wd p2) (own_ctz (own_rs g p2))))])) t → Steps p.tables e below (s₁.setTop (entryFrame m #[(.ref a1), (.int p2)] 6)) t := fun t k => pre34 t (by
      show Steps p.tables e below (T33.setTop (mkF m 43 #[.val (.ref a1), .val (.int p2), .val (.int (own_wd p2)), .val (.long (own_rs g p2)), .second, .unset] [(.int (own_ctz (own_rs g p2))), (.int ((own_wd p2) <<< ((6 : Int32) &&& 31)))])) _
      refine XS.ior X33.here hx rfl (hb hby d7_43) rfl ?_
      show Steps p.tables e below (T33.setTop (mkF m 44 #[.val (.ref a1), .val (.int p2), .val (.int (own_wd p2)), .val (.long (own_rs g p2)), .second, .unset] [(.int (own_cat (own_wd p2) (own_ctz (own_rs g p2))))])) _
      exact k)
    obtain ⟨fs, hr, hrun, hended, hW, hsame⟩ := X33.leave (v := some (.int (own_cat (own_wd p2) (own_ctz (own_rs g p2))))) (fun h => by rw [Bd.returns] at h; cases h)
    refine ⟨_, _, pre35 _ ?_, hrun, hended, _, _, rfl, ?_, ⟨_, rfl⟩, hW, hsame.mono (by decide) (by decide)⟩
    · show Steps p.tables e below (T33.setTop (mkF m 44 #[.val (.ref a1), .val (.int p2), .val (.int (own_wd p2)), .val (.long (own_rs g p2)), .second, .unset] [(.int (own_cat (own_wd p2) (own_ctz (own_rs g p2))))])) _
      exact retI X33 hx Bd.returns (hb hby d7_44) hr
    · show QLnext Z a1 p2 w z g s2 h0 n0 _ T33.heap _
      rw [e33]
      exact ⟨_, rfl, N33, rfl, own_lst_lo p0 p64 hr0⟩
def QTnext (Z : State) (a1 : Addr) (p2 : Int32) (w : Addr) (z : Int32) (f : Nat → Int64) (sz : Int32) (fl : Value) (h0 : Heap) (n0 : Nat) (v : Option Value) (h : Heap) (L : List Loc) : Prop := ∃ r : Int32, v = some (.int r) ∧ Fr n0 L ∧ h = h0 ∧ own_lst f p2.toInt r
set_option maxRecDepth 65536 in
set_option maxHeartbeats 40000000 in
theorem rmTnext (l : Launch) (Z : State) (a0 : Array Value) (hw : ∀ d ∈ tables_1, d.before a0 Z = true) (ws : List Jvm.Cond) (a1 : Addr) (p2 : Int32) (w : Addr) (z : Int32) (f : Nat → Int64) (sz : Int32) (fl : Value) (h0 : Heap) (n0 : Nat) (Z0 : n0 ≤ h0.size) (TP : own_top Z h0 n0 a1 w z f sz fl) (hp : p2 = (0 : Int32)) :
    MetFree l (⟨"com/example/berchta/berchta/learn/NodeSet", "next", "(I)I"⟩ : MethodName) (head1 (Jvm.Cond.code (⟨"com/example/berchta/berchta/learn/NodeSet", "next", "(I)I"⟩ : MethodName) prog_101_method_7_code 6 (some .int) :: ws) ({ frames := 3, cells := 0, slots := 0, locals := 46 } : Room)) (fun a U => a = #[(.ref a1), (.int p2)] ∧ Z.Warmed39 U.vm ∧ U.heap = h0) (fun _ _ _ _ _ => True) (fun _ U o U' => ∃ v L, o = .returned v ∧ QTnext Z a1 p2 w z f sz fl h0 n0 v U'.heap L ∧ FrameEnd U o U' L ({ frames := 3, cells := 0, slots := 0, locals := 46 } : Room).cells ({ frames := 3, cells := 0, slots := 0, locals := 46 } : Room).slots) := by
  refine MetFree.of_bodySF (plainFor_of_name pn_7) hisR ?_
  intro p e s m args below meth c s₁ Bd hml0 hP hK
  obtain ⟨rfl, hZ, hh⟩ := hP
  have hx := Bd.exec
  have hby := Bd.bytes
  have hml : c.maxLocals = 6 := hml0
  have hown : s.vm.findClass "com/example/berchta/berchta/learn/NodeSet" = some m.cls := findClass_of_methodNamed Bd.named
  have hnm := (name_of_methodNamed Bd.named Bd.method).1
  have X0 : Stand p l e ({ frames := 3, cells := 0, slots := 0, locals := 46 } : Room) s m #[(.ref a1), (.int p2)] below meth c s₁ [] 0 0 := Stand.of_body Bd
  have e0 : s₁.heap = h0 := by rw [← hh, Bd.state]; rfl
  have N0 := Fr.nil n0
  have pre0 : ∀ t, Steps p.tables e below (s₁.setTop (mkF m 0 #[.val (.ref a1), .val (.int p2), .unset, .unset, .unset, .unset] [])) t → Steps p.tables e below (s₁.setTop (entryFrame m #[(.ref a1), (.int p2)] 6)) t := fun t k => castTop (ef_7 m a1 p2) k
  obtain ⟨E_a1, Fw_a1, Ff_a1, Fs_a1, Vw_w, hz, hf0, hf128, g_a1, g_w, naw, HF⟩ := TP
  have p0 : 0 ≤ p2.toInt := by rw [hp]; decide
  have p64 : p2.toInt < 64 := by rw [hp]; decide
  have w0 := (own_wd0 p0 p64).1
  have hlt : own_wd p2 < z := by rw [w0]; exact own_lt01 hz.1
  have hz254 : ¬ (254 : Int32) < z := hz.2
  have pre1 : ∀ t, Steps p.tables e below (s₁.setTop (mkF m 7 #[.val (.ref a1), .val (.int p2), .val (.int (own_wd p2)), .unset, .unset, .unset] [(.ref a1), (.int (own_wd p2))])) t → Steps p.tables e below (s₁.setTop (entryFrame m #[(.ref a1), (.int p2)] 6)) t := fun t k => pre0 t (by
    show Steps p.tables e below (s₁.setTop (mkF m 0 #[.val (.ref a1), .val (.int p2), .unset, .unset, .unset, .unset] [])) _
    refine XS.iloadN X0.here hx rfl (hb hby d7_0) rfl ?_
    show Steps p.tables e below (s₁.setTop (mkF m 1 #[.val (.ref a1), .val (.int p2), .unset, .unset, .unset, .unset] [(.int p2)])) _
    refine XS.bipush X0.here hx rfl (hb hby d7_1) ?_
    show Steps p.tables e below (s₁.setTop (mkF m 3 #[.val (.ref a1), .val (.int p2), .unset, .unset, .unset, .unset] [(.int (6 : Int32)), (.int p2)])) _
    refine XS.iushr X0.here hx rfl (hb hby d7_3) rfl ?_
    show Steps p.tables e below (s₁.setTop (mkF m 4 #[.val (.ref a1), .val (.int p2), .unset, .unset, .unset, .unset] [(.int ((p2.toUInt32 >>> ((6 : Int32) &&& 31).toUInt32).toInt32))])) _
    refine XS.istoreN X0.here hx rfl (hb hby d7_4) rfl (l' := #[.val (.ref a1), .val (.int p2), .val (.int (own_wd p2)), .unset, .unset, .unset]) rfl ?_
    show Steps p.tables e below (s₁.setTop (mkF m 5 #[.val (.ref a1), .val (.int p2), .val (.int (own_wd p2)), .unset, .unset, .unset] [])) _
    refine XS.iloadN X0.here hx rfl (hb hby d7_5) rfl ?_
    show Steps p.tables e below (s₁.setTop (mkF m 6 #[.val (.ref a1), .val (.int p2), .val (.int (own_wd p2)), .unset, .unset, .unset] [(.int (own_wd p2))])) _
    refine XS.aloadN X0.here hx rfl (hb hby d7_6) rfl rfl ?_
    show Steps p.tables e below (s₁.setTop (mkF m 7 #[.val (.ref a1), .val (.int p2), .val (.int (own_wd p2)), .unset, .unset, .unset] [(.ref a1), (.int (own_wd p2))])) _
    exact k)
  obtain ⟨T2, X2, e2, st2⟩ := getF X0 hx hZ hown (host := "") (Or.inl (hw _ (List.mem_of_getElem? (i := 10) rfl))) Via.refl e0 Fw_a1 (g := (mkF m 7 #[.val (.ref a1), .val (.int p2), .val (.int (own_wd p2)), .unset, .unset, .unset] [(.ref a1), (.int (own_wd p2))])) rfl rfl (hb hby d7_7)
  have pre3 : ∀ t, Steps p.tables e below (T2.setTop (mkF m 10 #[.val (.ref a1), .val (.int p2), .val (.int (own_wd p2)), .unset, .unset, .unset] [(.ref w), (.int (own_wd p2))])) t → Steps p.tables e below (s₁.setTop (entryFrame m #[(.ref a1), (.int p2)] 6)) t := fun t k => pre1 t (by
    show Steps p.tables e below (s₁.setTop (mkF m 7 #[.val (.ref a1), .val (.int p2), .val (.int (own_wd p2)), .unset, .unset, .unset] [(.ref a1), (.int (own_wd p2))])) t
    refine st2 _ ?_
    show Steps p.tables e below (T2.setTop (mkF m 10 #[.val (.ref a1), .val (.int p2), .val (.int (own_wd p2)), .unset, .unset, .unset] [(.ref w), (.int (own_wd p2))])) t
    exact k)
  obtain ⟨cl4, Ar4, Sz4, Nz4⟩ := own_wds_len Vw_w
  have pre5 : ∀ t, Steps p.tables e below (T2.setTop (mkF m 11 #[.val (.ref a1), .val (.int p2), .val (.int (own_wd p2)), .unset, .unset, .unset] [(.int z), (.int (own_wd p2))])) t → Steps p.tables e below (s₁.setTop (entryFrame m #[(.ref a1), (.int p2)] 6)) t := fun t k => pre3 t (by
    show Steps p.tables e below (T2.setTop (mkF m 10 #[.val (.ref a1), .val (.int p2), .val (.int (own_wd p2)), .unset, .unset, .unset] [(.ref w), (.int (own_wd p2))])) t
    refine X2.arraylength hx (by rw [e2]; exact Ar4.1) (State.isArrayOf_alike hZ.alike Ar4.2.1) (g := (mkF m 10 #[.val (.ref a1), .val (.int p2), .val (.int (own_wd p2)), .unset, .unset, .unset] [(.ref w), (.int (own_wd p2))])) rfl rfl (hb hby d7_10) _ ?_
    rw [len_of Sz4 Nz4]
    exact k)
  have pre6 : ∀ t, Steps p.tables e below (T2.setTop (mkF m 17 #[.val (.ref a1), .val (.int p2), .val (.int (own_wd p2)), .unset, .unset, .unset] [(.ref a1)])) t → Steps p.tables e below (s₁.setTop (entryFrame m #[(.ref a1), (.int p2)] 6)) t := fun t k => pre5 t (by
    show Steps p.tables e below (T2.setTop (mkF m 11 #[.val (.ref a1), .val (.int p2), .val (.int (own_wd p2)), .unset, .unset, .unset] [(.int z), (.int (own_wd p2))])) _
    refine XS.icmpYes X2.here hx rfl (pc0 := 11) (pc' := 16) rfl (hb hby d7_11) rfl (tlt hlt).1 (by decide) (by decide) ?_
    show Steps p.tables e below (T2.setTop (mkF m 16 #[.val (.ref a1), .val (.int p2), .val (.int (own_wd p2)), .unset, .unset, .unset] [])) _
    refine XS.aloadN X2.here hx rfl (hb hby d7_16) rfl rfl ?_
    show Steps p.tables e below (T2.setTop (mkF m 17 #[.val (.ref a1), .val (.int p2), .val (.int (own_wd p2)), .unset, .unset, .unset] [(.ref a1)])) _
    exact k)
  obtain ⟨T7, X7, e7, st7⟩ := getF X2 hx hZ hown (host := "") (Or.inl (hw _ (List.mem_of_getElem? (i := 10) rfl))) Via.refl e2 Fw_a1 (g := (mkF m 17 #[.val (.ref a1), .val (.int p2), .val (.int (own_wd p2)), .unset, .unset, .unset] [(.ref a1)])) rfl rfl (hb hby d7_17)
  have pre8 : ∀ t, Steps p.tables e below (T7.setTop (mkF m 20 #[.val (.ref a1), .val (.int p2), .val (.int (own_wd p2)), .unset, .unset, .unset] [(.ref w)])) t → Steps p.tables e below (s₁.setTop (entryFrame m #[(.ref a1), (.int p2)] 6)) t := fun t k => pre6 t (by
    show Steps p.tables e below (T2.setTop (mkF m 17 #[.val (.ref a1), .val (.int p2), .val (.int (own_wd p2)), .unset, .unset, .unset] [(.ref a1)])) t
    refine st7 _ ?_
    show Steps p.tables e below (T7.setTop (mkF m 20 #[.val (.ref a1), .val (.int p2), .val (.int (own_wd p2)), .unset, .unset, .unset] [(.ref w)])) t
    exact k)
  have pre9 : ∀ t, Steps p.tables e below (T7.setTop (mkF m 21 #[.val (.ref a1), .val (.int p2), .val (.int (own_wd p2)), .unset, .unset, .unset] [(.int (own_wd p2)), (.ref w)])) t → Steps p.tables e below (s₁.setTop (entryFrame m #[(.ref a1), (.int p2)] 6)) t := fun t k => pre8 t (by
    show Steps p.tables e below (T7.setTop (mkF m 20 #[.val (.ref a1), .val (.int p2), .val (.int (own_wd p2)), .unset, .unset, .unset] [(.ref w)])) _
    refine XS.iloadN X7.here hx rfl (hb hby d7_20) rfl ?_
    show Steps p.tables e below (T7.setTop (mkF m 21 #[.val (.ref a1), .val (.int p2), .val (.int (own_wd p2)), .unset, .unset, .unset] [(.int (own_wd p2)), (.ref w)])) _
    exact k)
  obtain ⟨cl10, Ar10, hin10, hat10⟩ := own_wds_get Vw_w ⟨own_wd_pos p2, hlt⟩
  have pre11 : ∀ t, Steps p.tables e below (T7.setTop (mkF m 22 #[.val (.ref a1), .val (.int p2), .val (.int (own_wd p2)), .unset, .unset, .unset] [(.long (f (own_ix p2)))])) t → Steps p.tables e below (s₁.setTop (entryFrame m #[(.ref a1), (.int p2)] 6)) t := fun t k => pre9 t (by
    show Steps p.tables e below (T7.setTop (mkF m 21 #[.val (.ref a1), .val (.int p2), .val (.int (own_wd p2)), .unset, .unset, .unset] [(.int (own_wd p2)), (.ref w)])) t
    refine X7.laload hx (j := (own_wd p2)) (v := (.long (f (own_ix p2)))) (by rw [e7]; exact Ar10.1) (State.isArrayOf_alike hZ.alike Ar10.2.1) Ar10.2.2 hin10 hat10 (g := (mkF m 21 #[.val (.ref a1), .val (.int p2), .val (.int (own_wd p2)), .unset, .unset, .unset] [(.int (own_wd p2)), (.ref w)])) rfl rfl (hb hby d7_21) _ ?_
    exact k)
  have pre12 : ∀ t, Steps p.tables e below (T7.setTop (mkF m 32 #[.val (.ref a1), .val (.int p2), .val (.int (own_wd p2)), .val (.long (own_rs f p2)), .second, .unset] [(.int (lcmpW (own_rs f p2) (0 : Int64)))])) t → Steps p.tables e below (s₁.setTop (entryFrame m #[(.ref a1), (.int p2)] 6)) t := fun t k => pre11 t (by
    show Steps p.tables e below (T7.setTop (mkF m 22 #[.val (.ref a1), .val (.int p2), .val (.int (own_wd p2)), .unset, .unset, .unset] [(.long (f (own_ix p2)))])) _
    refine X7.ldc2Long hx hown (mvT hZ (hw _ (List.mem_of_getElem? (i := 26) rfl))) (g := (mkF m 22 #[.val (.ref a1), .val (.int p2), .val (.int (own_wd p2)), .unset, .unset, .unset] [(.long (f (own_ix p2)))])) rfl (hb hby d7_22) _ ?_
    show Steps p.tables e below (T7.setTop (mkF m 25 #[.val (.ref a1), .val (.int p2), .val (.int (own_wd p2)), .unset, .unset, .unset] [(.long (-1 : Int64)), (.long (f (own_ix p2)))])) _
    refine XS.iloadN X7.here hx rfl (hb hby d7_25) rfl ?_
    show Steps p.tables e below (T7.setTop (mkF m 26 #[.val (.ref a1), .val (.int p2), .val (.int (own_wd p2)), .unset, .unset, .unset] [(.int p2), (.long (-1 : Int64)), (.long (f (own_ix p2)))])) _
    refine XS.lshl X7.here hx rfl (hb hby d7_26) rfl ?_
    show Steps p.tables e below (T7.setTop (mkF m 27 #[.val (.ref a1), .val (.int p2), .val (.int (own_wd p2)), .unset, .unset, .unset] [(.long ((-1 : Int64) <<< (p2 &&& 0x3f).toInt64)), (.long (f (own_ix p2)))])) _
    refine XS.land X7.here hx rfl (hb hby d7_27) rfl ?_
    show Steps p.tables e below (T7.setTop (mkF m 28 #[.val (.ref a1), .val (.int p2), .val (.int (own_wd p2)), .unset, .unset, .unset] [(.long ((f (own_ix p2)) &&& ((-1 : Int64) <<< (p2 &&& 0x3f).toInt64)))])) _
    refine XS.lstoreN X7.here hx rfl (hb hby d7_28) rfl (l' := #[.val (.ref a1), .val (.int p2), .val (.int (own_wd p2)), .val (.long (own_rs f p2)), .second, .unset]) rfl ?_
    show Steps p.tables e below (T7.setTop (mkF m 29 #[.val (.ref a1), .val (.int p2), .val (.int (own_wd p2)), .val (.long (own_rs f p2)), .second, .unset] [])) _
    refine XS.lloadN X7.here hx rfl (hb hby d7_29) rfl ?_
    show Steps p.tables e below (T7.setTop (mkF m 30 #[.val (.ref a1), .val (.int p2), .val (.int (own_wd p2)), .val (.long (own_rs f p2)), .second, .unset] [(.long (own_rs f p2))])) _
    refine XS.lconst X7.here hx rfl (hb hby d7_30) ?_
    show Steps p.tables e below (T7.setTop (mkF m 31 #[.val (.ref a1), .val (.int p2), .val (.int (own_wd p2)), .val (.long (own_rs f p2)), .second, .unset] [(.long (0 : Int64)), (.long (own_rs f p2))])) _
    refine XS.lcmp X7.here hx rfl (hb hby d7_31) rfl ?_
    show Steps p.tables e below (T7.setTop (mkF m 32 #[.val (.ref a1), .val (.int p2), .val (.int (own_wd p2)), .val (.long (own_rs f p2)), .second, .unset] [(.int (lcmpW (own_rs f p2) (0 : Int64)))])) _
    exact k)
  by_cases hr0 : (own_rs f p2) = 0
  · skip
    have pre13 : ∀ t, Steps p.tables e below (T7.setTop (mkF m 46 #[.val (.ref a1), .val (.int p2), .val (.int (own_wd p2)), .val (.long (own_rs f p2)), .second, .unset] [(.ref a1)])) t → Steps p.tables e below (s₁.setTop (entryFrame m #[(.ref a1), (.int p2)] 6)) t := fun t k => pre12 t (by
      show Steps p.tables e below (T7.setTop (mkF m 32 #[.val (.ref a1), .val (.int p2), .val (.int (own_wd p2)), .val (.long (own_rs f p2)), .second, .unset] [(.int (lcmpW (own_rs f p2) (0 : Int64)))])) _
      refine XS.ifYes X7.here hx rfl (pc0 := 32) (pc' := 45) rfl (hb hby d7_32) rfl ((if0 _ _).trans (teq ((lw_eq _ _).mpr hr0)).1) (by decide) (by decide) ?_
      show Steps p.tables e below (T7.setTop (mkF m 45 #[.val (.ref a1), .val (.int p2), .val (.int (own_wd p2)), .val (.long (own_rs f p2)), .second, .unset] [])) _
      refine XS.aloadN X7.here hx rfl (hb hby d7_45) rfl rfl ?_
      show Steps p.tables e below (T7.setTop (mkF m 46 #[.val (.ref a1), .val (.int p2), .val (.int (own_wd p2)), .val (.long (own_rs f p2)), .second, .unset] [(.ref a1)])) _
      exact k)
    rcases HF with ⟨rfl, h64⟩ | ⟨b, fw, zf, g, s2, rfl, LF, rel, n1, n2, n3, n4⟩
    · skip
      obtain ⟨T14, X14, e14, st14⟩ := getF X7 hx hZ hown (host := "") (Or.inl (hw _ (List.mem_of_getElem? (i := 19) rfl))) Via.refl e7 Ff_a1 (g := (mkF m 46 #[.val (.ref a1), .val (.int p2), .val (.int (own_wd p2)), .val (.long (own_rs f p2)), .second, .unset] [(.ref a1)])) rfl rfl (hb hby d7_46)
      have pre15 : ∀ t, Steps p.tables e below (T14.setTop (mkF m 49 #[.val (.ref a1), .val (.int p2), .val (.int (own_wd p2)), .val (.long (own_rs f p2)), .second, .unset] [.null])) t → Steps p.tables e below (s₁.setTop (entryFrame m #[(.ref a1), (.int p2)] 6)) t := fun t k => pre13 t (by
        show Steps p.tables e below (T7.setTop (mkF m 46 #[.val (.ref a1), .val (.int p2), .val (.int (own_wd p2)), .val (.long (own_rs f p2)), .second, .unset] [(.ref a1)])) t
        refine st14 _ ?_
        show Steps p.tables e below (T14.setTop (mkF m 49 #[.val (.ref a1), .val (.int p2), .val (.int (own_wd p2)), .val (.long (own_rs f p2)), .second, .unset] [.null])) t
        exact k)
      have pre16 : ∀ t, Steps p.tables e below (T14.setTop (mkF m 56 #[.val (.ref a1), .val (.int p2), .val (.int (own_wd p2)), .val (.long (own_rs f p2)), .second, .unset] [(.int ((own_wd p2) + (1 : Int32))), (.ref a1)])) t → Steps p.tables e below (s₁.setTop (entryFrame m #[(.ref a1), (.int p2)] 6)) t := fun t k => pre15 t (by
        show Steps p.tables e below (T14.setTop (mkF m 49 #[.val (.ref a1), .val (.int p2), .val (.int (own_wd p2)), .val (.long (own_rs f p2)), .second, .unset] [.null])) _
        refine XS.ifnonnullNo X14.here hx rfl (hb hby d7_49) rfl ?_
        show Steps p.tables e below (T14.setTop (mkF m 52 #[.val (.ref a1), .val (.int p2), .val (.int (own_wd p2)), .val (.long (own_rs f p2)), .second, .unset] [])) _
        refine XS.aloadN X14.here hx rfl (hb hby d7_52) rfl rfl ?_
        show Steps p.tables e below (T14.setTop (mkF m 53 #[.val (.ref a1), .val (.int p2), .val (.int (own_wd p2)), .val (.long (own_rs f p2)), .second, .unset] [(.ref a1)])) _
        refine XS.iloadN X14.here hx rfl (hb hby d7_53) rfl ?_
        show Steps p.tables e below (T14.setTop (mkF m 54 #[.val (.ref a1), .val (.int p2), .val (.int (own_wd p2)), .val (.long (own_rs f p2)), .second, .unset] [(.int (own_wd p2)), (.ref a1)])) _
        refine XS.iconst X14.here hx rfl (hb hby d7_54) ?_
        show Steps p.tables e below (T14.setTop (mkF m 55 #[.val (.ref a1), .val (.int p2), .val (.int (own_wd p2)), .val (.long (own_rs f p2)), .second, .unset] [(.int (1 : Int32)), (.int (own_wd p2)), (.ref a1)])) _
        refine XS.iadd X14.here hx rfl (hb hby d7_55) rfl ?_
        show Steps p.tables e below (T14.setTop (mkF m 56 #[.val (.ref a1), .val (.int p2), .val (.int (own_wd p2)), .val (.long (own_rs f p2)), .second, .unset] [(.int ((own_wd p2) + (1 : Int32))), (.ref a1)])) _
        exact k)
      obtain ⟨cq17, q17, q17'⟩ := E_a1.cell
      obtain ⟨_, _, ⟨T17, L17, k17, n17⟩, -, X17, ⟨Lc17, hQ17, l17, y17, z17⟩, st17⟩ := X14.privateBack hx (y := (⟨"com/example/berchta/berchta/learn/NodeSet", "nextFilled", "(I)I"⟩ : MethodName)) hown (mvT hZ (hw _ (List.mem_of_getElem? (i := 74) rfl))) (mvT hZ (hw _ (List.mem_of_getElem? (i := 75) rfl))) (mvT hZ (own_sel (z := (⟨"com/example/berchta/berchta/learn/NodeSet", "add", "(I)V"⟩ : MethodName)) rfl (hw _ (List.mem_of_getElem? (i := 15) rfl)) (hw _ (List.mem_of_getElem? (i := 75) rfl)) (hw _ (List.mem_of_getElem? (i := 76) rfl)) (by decide))) (Cond.privateMethod_at (mvP hZ (hw _ (List.mem_of_getElem? (i := 76) rfl)) (args := #[]))) (mvT hZ (hw _ (List.mem_of_getElem? (i := 77) rfl))) (by decide) (backOf (W := 0) (rm15 l Z a0 hw [] a1 ((own_wd p2) + (1 : Int32)) w z f h0 n0 Z0 Fw_a1 Vw_w (by rw [w0]; decide)) hZ (hw _ (List.mem_of_getElem? (i := 77) rfl)) (hw _ (List.mem_of_getElem? (i := 2) rfl)) (by decide) (by decide)) (g := (mkF m 56 #[.val (.ref a1), .val (.int p2), .val (.int (own_wd p2)), .val (.long (own_rs f p2)), .second, .unset] [(.int ((own_wd p2) + (1 : Int32))), (.ref a1)])) rfl (by rw [hml]; rfl) (Steps.refl _) (a := a1) (by rw [e14]; exact q17) q17' (argsL := [(.int ((own_wd p2) + (1 : Int32)))]) (rest := []) (lenOf pdx_3 rfl) rfl (by show 2 * 0 + _ ≤ _; exact Nat.le_of_eq rfl) (hb hby d7_56) (fun _ _ => ⟨rfl, e14, (by decide : 0 + 0 ≤ _), (by decide : 0 + 0 ≤ _)⟩)
      dsimp only [Pt.U, Pt.locs, Pt.cells, Pt.slots] at X17 l17 y17 z17 st17 hQ17
      subst l17 y17 z17
      obtain ⟨r, rfl, N17q, e17, hnf⟩ := hQ17
      have N17 := Fr.app N0 N17q
      have pre18 : ∀ t, Steps p.tables e below (T17.setTop (mkF m 59 #[.val (.ref a1), .val (.int p2), .val (.int (own_wd p2)), .val (.long (own_rs f p2)), .second, .unset] [(.int r)])) t → Steps p.tables e below (s₁.setTop (entryFrame m #[(.ref a1), (.int p2)] 6)) t := fun t k => pre16 t (by
        show Steps p.tables e below (T14.setTop (mkF m 56 #[.val (.ref a1), .val (.int p2), .val (.int (own_wd p2)), .val (.long (own_rs f p2)), .second, .unset] [(.int ((own_wd p2) + (1 : Int32))), (.ref a1)])) t
        refine st17.trans ?_
        show Steps p.tables e below (T17.setTop (mkF m 59 #[.val (.ref a1), .val (.int p2), .val (.int (own_wd p2)), .val (.long (own_rs f p2)), .second, .unset] [(.int r)])) t
        exact k)
      have pre19 : ∀ t, Steps p.tables e below (T17.setTop (mkF m 72 #[.val (.ref a1), .val (.int p2), .val (.int (own_wd p2)), .val (.long (own_rs f p2)), .second, .unset] [(.int r)])) t → Steps p.tables e below (s₁.setTop (entryFrame m #[(.ref a1), (.int p2)] 6)) t := fun t k => pre18 t (by
        show Steps p.tables e below (T17.setTop (mkF m 59 #[.val (.ref a1), .val (.int p2), .val (.int (own_wd p2)), .val (.long (own_rs f p2)), .second, .unset] [(.int r)])) _
        refine XS.goto X17.here hx rfl (pc0 := 59) (pc' := 72) rfl (hb hby d7_59) (by decide) (by decide) ?_
        show Steps p.tables e below (T17.setTop (mkF m 72 #[.val (.ref a1), .val (.int p2), .val (.int (own_wd p2)), .val (.long (own_rs f p2)), .second, .unset] [(.int r)])) _
        exact k)
      have haf := own_af_nf p0 p64 hf0 hz254 hnf
      have pre20 : ∀ t, Steps p.tables e below (T17.setTop (mkF m 74 #[.val (.ref a1), .val (.int p2), .val (.int (own_wd p2)), .val (.long (own_rs f p2)), .second, .val (.int r)] [])) t → Steps p.tables e below (s₁.setTop (entryFrame m #[(.ref a1), (.int p2)] 6)) t := fun t k => pre19 t (by
        show Steps p.tables e below (T17.setTop (mkF m 72 #[.val (.ref a1), .val (.int p2), .val (.int (own_wd p2)), .val (.long (own_rs f p2)), .second, .unset] [(.int r)])) _
        refine XS.istore X17.here hx rfl (hb hby d7_72) rfl (l' := #[.val (.ref a1), .val (.int p2), .val (.int (own_wd p2)), .val (.long (own_rs f p2)), .second, .val (.int r)]) rfl ?_
        show Steps p.tables e below (T17.setTop (mkF m 74 #[.val (.ref a1), .val (.int p2), .val (.int (own_wd p2)), .val (.long (own_rs f p2)), .second, .val (.int r)] [])) _
        exact k)
      have pre21 : ∀ t, Steps p.tables e below (T17.setTop (mkF m 76 #[.val (.ref a1), .val (.int p2), .val (.int (own_wd p2)), .val (.long (own_rs f p2)), .second, .val (.int r)] [(.int r)])) t → Steps p.tables e below (s₁.setTop (entryFrame m #[(.ref a1), (.int p2)] 6)) t := fun t k => pre20 t (by
        show Steps p.tables e below (T17.setTop (mkF m 74 #[.val (.ref a1), .val (.int p2), .val (.int (own_wd p2)), .val (.long (own_rs f p2)), .second, .val (.int r)] [])) _
        refine XS.iload X17.here hx rfl (hb hby d7_74) rfl ?_
        show Steps p.tables e below (T17.setTop (mkF m 76 #[.val (.ref a1), .val (.int p2), .val (.int (own_wd p2)), .val (.long (own_rs f p2)), .second, .val (.int r)] [(.int r)])) _
        exact k)
      by_cases hrn : r < 0
      · skip
        have pre22 : ∀ t, Steps p.tables e below (T17.setTop (mkF m 99 #[.val (.ref a1), .val (.int p2), .val (.int (own_wd p2)), .val (.long (own_rs f p2)), .second, .val (.int r)] [(.int (-1 : Int32))])) t → Steps p.tables e below (s₁.setTop (entryFrame m #[(.ref a1), (.int p2)] 6)) t := fun t k => pre21 t (by
          show Steps p.tables e below (T17.setTop (mkF m 76 #[.val (.ref a1), .val (.int p2), .val (.int (own_wd p2)), .val (.long (own_rs f p2)), .second, .val (.int r)] [(.int r)])) _
          refine XS.ifNo X17.here hx rfl (hb hby d7_76) rfl ((if0 _ _).trans (tlt hrn).2.1) ?_
          show Steps p.tables e below (T17.setTop (mkF m 79 #[.val (.ref a1), .val (.int p2), .val (.int (own_wd p2)), .val (.long (own_rs f p2)), .second, .val (.int r)] [])) _
          refine XS.iconst X17.here hx rfl (hb hby d7_79) ?_
          show Steps p.tables e below (T17.setTop (mkF m 80 #[.val (.ref a1), .val (.int p2), .val (.int (own_wd p2)), .val (.long (own_rs f p2)), .second, .val (.int r)] [(.int (-1 : Int32))])) _
          refine XS.goto X17.here hx rfl (pc0 := 80) (pc' := 99) rfl (hb hby d7_80) (by decide) (by decide) ?_
          show Steps p.tables e below (T17.setTop (mkF m 99 #[.val (.ref a1), .val (.int p2), .val (.int (own_wd p2)), .val (.long (own_rs f p2)), .second, .val (.int r)] [(.int (-1 : Int32))])) _
          exact k)
        obtain ⟨fs, hr, hrun, hended, hW, hsame⟩ := X17.leave (v := some (.int (-1 : Int32))) (fun h => by rw [Bd.returns] at h; cases h)
        refine ⟨_, _, pre22 _ ?_, hrun, hended, _, _, rfl, ?_, ⟨_, rfl⟩, hW, hsame.mono (by decide) (by decide)⟩
        · show Steps p.tables e below (T17.setTop (mkF m 99 #[.val (.ref a1), .val (.int p2), .val (.int (own_wd p2)), .val (.long (own_rs f p2)), .second, .val (.int r)] [(.int (-1 : Int32))])) _
          exact retI X17 hx Bd.returns (hb hby d7_99) hr
        · show QTnext Z a1 p2 w z f sz _ h0 n0 _ T17.heap _
          rw [e17]
          exact ⟨_, rfl, N17, rfl, own_lst_none p0 p64 hr0 haf hrn⟩
      · skip
        have pre23 : ∀ t, Steps p.tables e below (T17.setTop (mkF m 89 #[.val (.ref a1), .val (.int p2), .val (.int (own_wd p2)), .val (.long (own_rs f p2)), .second, .val (.int r)] [(.ref a1), (.int (r <<< ((6 : Int32) &&& 31)))])) t → Steps p.tables e below (s₁.setTop (entryFrame m #[(.ref a1), (.int p2)] 6)) t := fun t k => pre21 t (by
          show Steps p.tables e below (T17.setTop (mkF m 76 #[.val (.ref a1), .val (.int p2), .val (.int (own_wd p2)), .val (.long (own_rs f p2)), .second, .val (.int r)] [(.int r)])) _
          refine XS.ifYes X17.here hx rfl (pc0 := 76) (pc' := 83) rfl (hb hby d7_76) rfl ((if0 _ _).trans (flt hrn).2.1) (by decide) (by decide) ?_
          show Steps p.tables e below (T17.setTop (mkF m 83 #[.val (.ref a1), .val (.int p2), .val (.int (own_wd p2)), .val (.long (own_rs f p2)), .second, .val (.int r)] [])) _
          refine XS.iload X17.here hx rfl (hb hby d7_83) rfl ?_
          show Steps p.tables e below (T17.setTop (mkF m 85 #[.val (.ref a1), .val (.int p2), .val (.int (own_wd p2)), .val (.long (own_rs f p2)), .second, .val (.int r)] [(.int r)])) _
          refine XS.bipush X17.here hx rfl (hb hby d7_85) ?_
          show Steps p.tables e below (T17.setTop (mkF m 87 #[.val (.ref a1), .val (.int p2), .val (.int (own_wd p2)), .val (.long (own_rs f p2)), .second, .val (.int r)] [(.int (6 : Int32)), (.int r)])) _
          refine XS.ishl X17.here hx rfl (hb hby d7_87) rfl ?_
          show Steps p.tables e below (T17.setTop (mkF m 88 #[.val (.ref a1), .val (.int p2), .val (.int (own_wd p2)), .val (.long (own_rs f p2)), .second, .val (.int r)] [(.int (r <<< ((6 : Int32) &&& 31)))])) _
          refine XS.aloadN X17.here hx rfl (hb hby d7_88) rfl rfl ?_
          show Steps p.tables e below (T17.setTop (mkF m 89 #[.val (.ref a1), .val (.int p2), .val (.int (own_wd p2)), .val (.long (own_rs f p2)), .second, .val (.int r)] [(.ref a1), (.int (r <<< ((6 : Int32) &&& 31)))])) _
          exact k)
        obtain ⟨T24, X24, e24, st24⟩ := getF X17 hx hZ hown (host := "") (Or.inl (hw _ (List.mem_of_getElem? (i := 10) rfl))) Via.refl e17 Fw_a1 (g := (mkF m 89 #[.val (.ref a1), .val (.int p2), .val (.int (own_wd p2)), .val (.long (own_rs f p2)), .second, .val (.int r)] [(.ref a1), (.int (r <<< ((6 : Int32) &&& 31)))])) rfl rfl (hb hby d7_89)
        have pre25 : ∀ t, Steps p.tables e below (T24.setTop (mkF m 92 #[.val (.ref a1), .val (.int p2), .val (.int (own_wd p2)), .val (.long (own_rs f p2)), .second, .val (.int r)] [(.ref w), (.int (r <<< ((6 : Int32) &&& 31)))])) t → Steps p.tables e below (s₁.setTop (entryFrame m #[(.ref a1), (.int p2)] 6)) t := fun t k => pre23 t (by
          show Steps p.tables e below (T17.setTop (mkF m 89 #[.val (.ref a1), .val (.int p2), .val (.int (own_wd p2)), .val (.long (own_rs f p2)), .second, .val (.int r)] [(.ref a1), (.int (r <<< ((6 : Int32) &&& 31)))])) t
          refine st24 _ ?_
          show Steps p.tables e below (T24.setTop (mkF m 92 #[.val (.ref a1), .val (.int p2), .val (.int (own_wd p2)), .val (.long (own_rs f p2)), .second, .val (.int r)] [(.ref w), (.int (r <<< ((6 : Int32) &&& 31)))])) t
          exact k)
        have pre26 : ∀ t, Steps p.tables e below (T24.setTop (mkF m 94 #[.val (.ref a1), .val (.int p2), .val (.int (own_wd p2)), .val (.long (own_rs f p2)), .second, .val (.int r)] [(.int r), (.ref w), (.int (r <<< ((6 : Int32) &&& 31)))])) t → Steps p.tables e below (s₁.setTop (entryFrame m #[(.ref a1), (.int p2)] 6)) t := fun t k => pre25 t (by
          show Steps p.tables e below (T24.setTop (mkF m 92 #[.val (.ref a1), .val (.int p2), .val (.int (own_wd p2)), .val (.long (own_rs f p2)), .second, .val (.int r)] [(.ref w), (.int (r <<< ((6 : Int32) &&& 31)))])) _
          refine XS.iload X24.here hx rfl (hb hby d7_92) rfl ?_
          show Steps p.tables e below (T24.setTop (mkF m 94 #[.val (.ref a1), .val (.int p2), .val (.int (own_wd p2)), .val (.long (own_rs f p2)), .second, .val (.int r)] [(.int r), (.ref w), (.int (r <<< ((6 : Int32) &&& 31)))])) _
          exact k)
        obtain ⟨cl27, Ar27, hin27, hat27⟩ := own_wds_get Vw_w ⟨hrn, own_af_lt haf hf0 hrn⟩
        have pre28 : ∀ t, Steps p.tables e below (T24.setTop (mkF m 95 #[.val (.ref a1), .val (.int p2), .val (.int (own_wd p2)), .val (.long (own_rs f p2)), .second, .val (.int r)] [(.long (f r.toNatClampNeg)), (.int (r <<< ((6 : Int32) &&& 31)))])) t → Steps p.tables e below (s₁.setTop (entryFrame m #[(.ref a1), (.int p2)] 6)) t := fun t k => pre26 t (by
          show Steps p.tables e below (T24.setTop (mkF m 94 #[.val (.ref a1), .val (.int p2), .val (.int (own_wd p2)), .val (.long (own_rs f p2)), .second, .val (.int r)] [(.int r), (.ref w), (.int (r <<< ((6 : Int32) &&& 31)))])) t
          refine X24.laload hx (j := r) (v := (.long (f r.toNatClampNeg))) (by rw [e24]; exact Ar27.1) (State.isArrayOf_alike hZ.alike Ar27.2.1) Ar27.2.2 hin27 hat27 (g := (mkF m 94 #[.val (.ref a1), .val (.int p2), .val (.int (own_wd p2)), .val (.long (own_rs f p2)), .second, .val (.int r)] [(.int r), (.ref w), (.int (r <<< ((6 : Int32) &&& 31)))])) rfl rfl (hb hby d7_94) _ ?_
          exact k)
        obtain ⟨_, _, ⟨T29, L29, k29, n29⟩, -, X29, ⟨Lc29, hQ29, l29, y29, z29⟩, st29⟩ := Jvm.LawKit.callS X24 hx (y := (⟨"java/lang/Long", "numberOfTrailingZeros", "(J)I"⟩ : MethodName)) hown (mvT hZ (hw _ (List.mem_of_getElem? (i := 42) rfl))) (mvT hZ (hw _ (List.mem_of_getElem? (i := 43) rfl))) (mvT hZ (hw _ (List.mem_of_getElem? (i := 44) rfl))) (mvT hZ (hw _ (List.mem_of_getElem? (i := 45) rfl))) (by decide) (backOf (W := 1) (rm8 l Z a0 hw [] (f r.toNatClampNeg)  h0 n0 Z0) hZ (hw _ (List.mem_of_getElem? (i := 45) rfl)) (hw _ (List.mem_of_getElem? (i := 44) rfl)) (by decide) (by decide)) (g := (mkF m 95 #[.val (.ref a1), .val (.int p2), .val (.int (own_wd p2)), .val (.long (own_rs f p2)), .second, .val (.int r)] [(.long (f r.toNatClampNeg)), (.int (r <<< ((6 : Int32) &&& 31)))])) rfl (by rw [hml]; rfl) (argsL := [(.long (f r.toNatClampNeg))]) (rest := [(.int (r <<< ((6 : Int32) &&& 31)))]) (lenOf pdx_5 rfl) rfl (by show 2 * 0 + _ ≤ _; exact Nat.le_of_eq rfl) (hb hby d7_95) (fun _ _ => ⟨rfl, e24, (by decide : 0 + 0 ≤ _), (by decide : 0 + 0 ≤ _)⟩)
        dsimp only [Pt.U, Pt.locs, Pt.cells, Pt.slots] at X29 l29 y29 z29 st29 hQ29
        subst l29 y29 z29
        obtain ⟨rfl, N29q, e29⟩ := hQ29
        have N29 := Fr.app N17 N29q
        have pre30 : ∀ t, Steps p.tables e below (T29.setTop (mkF m 98 #[.val (.ref a1), .val (.int p2), .val (.int (own_wd p2)), .val (.long (own_rs f p2)), .second, .val (.int r)] [(.int (own_ctz (f r.toNatClampNeg))), (.int (r <<< ((6 : Int32) &&& 31)))])) t → Steps p.tables e below (s₁.setTop (entryFrame m #[(.ref a1), (.int p2)] 6)) t := fun t k => pre28 t (by
          show Steps p.tables e below (T24.setTop (mkF m 95 #[.val (.ref a1), .val (.int p2), .val (.int (own_wd p2)), .val (.long (own_rs f p2)), .second, .val (.int r)] [(.long (f r.toNatClampNeg)), (.int (r <<< ((6 : Int32) &&& 31)))])) t
          refine st29 _ ?_
          show Steps p.tables e below (T29.setTop (mkF m 98 #[.val (.ref a1), .val (.int p2), .val (.int (own_wd p2)), .val (.long (own_rs f p2)), .second, .val (.int r)] [(.int (own_ctz (f r.toNatClampNeg))), (.int (r <<< ((6 : Int32) &&& 31)))])) t
          exact k)
        have pre31 : ∀ t, Steps p.tables e below (T29.setTop (mkF m 99 #[.val (.ref a1), .val (.int p2), .val (.int (own_wd p2)), .val (.long (own_rs f p2)), .second, .val (.int r)] [(.int (own_cat r (own_ctz (f r.toNatClampNeg))))])) t → Steps p.tables e below (s₁.setTop (entryFrame m #[(.ref a1), (.int p2)] 6)) t := fun t k => pre30 t (by
          show Steps p.tables e below (T29.setTop (mkF m 98 #[.val (.ref a1), .val (.int p2), .val (.int (own_wd p2)), .val (.long (own_rs f p2)), .second, .val (.int r)] [(.int (own_ctz (f r.toNatClampNeg))), (.int (r <<< ((6 : Int32) &&& 31)))])) _
          refine XS.ior X29.here hx rfl (hb hby d7_98) rfl ?_
          show Steps p.tables e below (T29.setTop (mkF m 99 #[.val (.ref a1), .val (.int p2), .val (.int (own_wd p2)), .val (.long (own_rs f p2)), .second, .val (.int r)] [(.int (own_cat r (own_ctz (f r.toNatClampNeg))))])) _
          exact k)
        obtain ⟨fs, hr, hrun, hended, hW, hsame⟩ := X29.leave (v := some (.int (own_cat r (own_ctz (f r.toNatClampNeg))))) (fun h => by rw [Bd.returns] at h; cases h)
        refine ⟨_, _, pre31 _ ?_, hrun, hended, _, _, rfl, ?_, ⟨_, rfl⟩, hW, hsame.mono (by decide) (by decide)⟩
        · show Steps p.tables e below (T29.setTop (mkF m 99 #[.val (.ref a1), .val (.int p2), .val (.int (own_wd p2)), .val (.long (own_rs f p2)), .second, .val (.int r)] [(.int (own_cat r (own_ctz (f r.toNatClampNeg))))])) _
          exact retI X29 hx Bd.returns (hb hby d7_99) hr
        · show QTnext Z a1 p2 w z f sz _ h0 n0 _ T29.heap _
          rw [e29]
          exact ⟨_, rfl, N29, rfl, own_lst_hi p0 p64 hr0 haf hrn⟩
    · skip
      obtain ⟨T32, X32, e32, st32⟩ := getF X7 hx hZ hown (host := "") (Or.inl (hw _ (List.mem_of_getElem? (i := 19) rfl))) Via.refl e7 Ff_a1 (g := (mkF m 46 #[.val (.ref a1), .val (.int p2), .val (.int (own_wd p2)), .val (.long (own_rs f p2)), .second, .unset] [(.ref a1)])) rfl rfl (hb hby d7_46)
      have pre33 : ∀ t, Steps p.tables e below (T32.setTop (mkF m 49 #[.val (.ref a1), .val (.int p2), .val (.int (own_wd p2)), .val (.long (own_rs f p2)), .second, .unset] [(.ref b)])) t → Steps p.tables e below (s₁.setTop (entryFrame m #[(.ref a1), (.int p2)] 6)) t := fun t k => pre13 t (by
        show Steps p.tables e below (T7.setTop (mkF m 46 #[.val (.ref a1), .val (.int p2), .val (.int (own_wd p2)), .val (.long (own_rs f p2)), .second, .unset] [(.ref a1)])) t
        refine st32 _ ?_
        show Steps p.tables e below (T32.setTop (mkF m 49 #[.val (.ref a1), .val (.int p2), .val (.int (own_wd p2)), .val (.long (own_rs f p2)), .second, .unset] [(.ref b)])) t
        exact k)
      have pre34 : ∀ t, Steps p.tables e below (T32.setTop (mkF m 63 #[.val (.ref a1), .val (.int p2), .val (.int (own_wd p2)), .val (.long (own_rs f p2)), .second, .unset] [(.ref a1)])) t → Steps p.tables e below (s₁.setTop (entryFrame m #[(.ref a1), (.int p2)] 6)) t := fun t k => pre33 t (by
        show Steps p.tables e below (T32.setTop (mkF m 49 #[.val (.ref a1), .val (.int p2), .val (.int (own_wd p2)), .val (.long (own_rs f p2)), .second, .unset] [(.ref b)])) _
        refine XS.ifnonnullYes X32.here hx rfl (pc0 := 49) (pc' := 62) rfl (hb hby d7_49) rfl (by decide) (by decide) ?_
        show Steps p.tables e below (T32.setTop (mkF m 62 #[.val (.ref a1), .val (.int p2), .val (.int (own_wd p2)), .val (.long (own_rs f p2)), .second, .unset] [])) _
        refine XS.aloadN X32.here hx rfl (hb hby d7_62) rfl rfl ?_
        show Steps p.tables e below (T32.setTop (mkF m 63 #[.val (.ref a1), .val (.int p2), .val (.int (own_wd p2)), .val (.long (own_rs f p2)), .second, .unset] [(.ref a1)])) _
        exact k)
      obtain ⟨T35, X35, e35, st35⟩ := getF X32 hx hZ hown (host := "") (Or.inl (hw _ (List.mem_of_getElem? (i := 19) rfl))) Via.refl e32 Ff_a1 (g := (mkF m 63 #[.val (.ref a1), .val (.int p2), .val (.int (own_wd p2)), .val (.long (own_rs f p2)), .second, .unset] [(.ref a1)])) rfl rfl (hb hby d7_63)
      have pre36 : ∀ t, Steps p.tables e below (T35.setTop (mkF m 66 #[.val (.ref a1), .val (.int p2), .val (.int (own_wd p2)), .val (.long (own_rs f p2)), .second, .unset] [(.ref b)])) t → Steps p.tables e below (s₁.setTop (entryFrame m #[(.ref a1), (.int p2)] 6)) t := fun t k => pre34 t (by
        show Steps p.tables e below (T32.setTop (mkF m 63 #[.val (.ref a1), .val (.int p2), .val (.int (own_wd p2)), .val (.long (own_rs f p2)), .second, .unset] [(.ref a1)])) t
        refine st35 _ ?_
        show Steps p.tables e below (T35.setTop (mkF m 66 #[.val (.ref a1), .val (.int p2), .val (.int (own_wd p2)), .val (.long (own_rs f p2)), .second, .unset] [(.ref b)])) t
        exact k)
      have pre37 : ∀ t, Steps p.tables e below (T35.setTop (mkF m 69 #[.val (.ref a1), .val (.int p2), .val (.int (own_wd p2)), .val (.long (own_rs f p2)), .second, .unset] [(.int ((own_wd p2) + (1 : Int32))), (.ref b)])) t → Steps p.tables e below (s₁.setTop (entryFrame m #[(.ref a1), (.int p2)] 6)) t := fun t k => pre36 t (by
        show Steps p.tables e below (T35.setTop (mkF m 66 #[.val (.ref a1), .val (.int p2), .val (.int (own_wd p2)), .val (.long (own_rs f p2)), .second, .unset] [(.ref b)])) _
        refine XS.iloadN X35.here hx rfl (hb hby d7_66) rfl ?_
        show Steps p.tables e below (T35.setTop (mkF m 67 #[.val (.ref a1), .val (.int p2), .val (.int (own_wd p2)), .val (.long (own_rs f p2)), .second, .unset] [(.int (own_wd p2)), (.ref b)])) _
        refine XS.iconst X35.here hx rfl (hb hby d7_67) ?_
        show Steps p.tables e below (T35.setTop (mkF m 68 #[.val (.ref a1), .val (.int p2), .val (.int (own_wd p2)), .val (.long (own_rs f p2)), .second, .unset] [(.int (1 : Int32)), (.int (own_wd p2)), (.ref b)])) _
        refine XS.iadd X35.here hx rfl (hb hby d7_68) rfl ?_
        show Steps p.tables e below (T35.setTop (mkF m 69 #[.val (.ref a1), .val (.int p2), .val (.int (own_wd p2)), .val (.long (own_rs f p2)), .second, .unset] [(.int ((own_wd p2) + (1 : Int32))), (.ref b)])) _
        exact k)
      obtain ⟨cq38, kq38, q38a, q38b, q38c⟩ := isOf hZ e35 LF.1
      obtain ⟨_, _, ⟨T38, L38, k38, n38⟩, -, X38, ⟨Lc38, hQ38, l38, y38, z38⟩, st38⟩ := X35.virtualBack hx (y := (⟨"com/example/berchta/berchta/learn/NodeSet", "next", "(I)I"⟩ : MethodName)) (z := (⟨"com/example/berchta/berchta/learn/NodeSet", "next", "(I)I"⟩ : MethodName)) hown (mvT hZ (hw _ (List.mem_of_getElem? (i := 82) rfl))) (mvT hZ (hw _ (List.mem_of_getElem? (i := 38) rfl))) (notFace_of_selects (args := #[]) (mvT hZ (hw _ (List.mem_of_getElem? (i := 40) rfl)))) (mvT hZ (hw _ (List.mem_of_getElem? (i := 40) rfl))) (mvT hZ (hw _ (List.mem_of_getElem? (i := 39) rfl))) (by decide) (backOf (W := 0) (rmLnext l Z a0 hw [] b ((own_wd p2) + (1 : Int32)) fw zf g s2 h0 n0 Z0 LF (by rw [w0]; decide)) hZ (hw _ (List.mem_of_getElem? (i := 41) rfl)) (hw _ (List.mem_of_getElem? (i := 2) rfl)) (by decide) (by decide)) q38a q38c (g := (mkF m 69 #[.val (.ref a1), .val (.int p2), .val (.int (own_wd p2)), .val (.long (own_rs f p2)), .second, .unset] [(.int ((own_wd p2) + (1 : Int32))), (.ref b)])) rfl (by rw [hml]; rfl) (Steps.refl _) (argsL := [(.int ((own_wd p2) + (1 : Int32)))]) (rest := []) (lenOf pdx_3 rfl) rfl (by show 2 * 0 + _ ≤ _; exact Nat.le_of_eq rfl) (hb hby d7_69) (fun _ _ => ⟨rfl, e35, (by decide : 0 + 0 ≤ _), (by decide : 0 + 0 ≤ _)⟩)
      dsimp only [Pt.U, Pt.locs, Pt.cells, Pt.slots] at X38 l38 y38 z38 st38 hQ38
      subst l38 y38 z38
      obtain ⟨r, rfl, N38q, e38, hls⟩ := hQ38
      have N38 := Fr.app N0 N38q
      have pre39 : ∀ t, Steps p.tables e below (T38.setTop (mkF m 72 #[.val (.ref a1), .val (.int p2), .val (.int (own_wd p2)), .val (.long (own_rs f p2)), .second, .unset] [(.int r)])) t → Steps p.tables e below (s₁.setTop (entryFrame m #[(.ref a1), (.int p2)] 6)) t := fun t k => pre37 t (by
        show Steps p.tables e below (T35.setTop (mkF m 69 #[.val (.ref a1), .val (.int p2), .val (.int (own_wd p2)), .val (.long (own_rs f p2)), .second, .unset] [(.int ((own_wd p2) + (1 : Int32))), (.ref b)])) t
        refine st38.trans ?_
        show Steps p.tables e below (T38.setTop (mkF m 72 #[.val (.ref a1), .val (.int p2), .val (.int (own_wd p2)), .val (.long (own_rs f p2)), .second, .unset] [(.int r)])) t
        exact k)
      have haf := own_af_leaf hf128 rel LF.2.2.2.2.2.1 LF.2.2.2.2.2.2.1 (by rw [w0] at hls; exact hls)
      have pre40 : ∀ t, Steps p.tables e below (T38.setTop (mkF m 74 #[.val (.ref a1), .val (.int p2), .val (.int (own_wd p2)), .val (.long (own_rs f p2)), .second, .val (.int r)] [])) t → Steps p.tables e below (s₁.setTop (entryFrame m #[(.ref a1), (.int p2)] 6)) t := fun t k => pre39 t (by
        show Steps p.tables e below (T38.setTop (mkF m 72 #[.val (.ref a1), .val (.int p2), .val (.int (own_wd p2)), .val (.long (own_rs f p2)), .second, .unset] [(.int r)])) _
        refine XS.istore X38.here hx rfl (hb hby d7_72) rfl (l' := #[.val (.ref a1), .val (.int p2), .val (.int (own_wd p2)), .val (.long (own_rs f p2)), .second, .val (.int r)]) rfl ?_
        show Steps p.tables e below (T38.setTop (mkF m 74 #[.val (.ref a1), .val (.int p2), .val (.int (own_wd p2)), .val (.long (own_rs f p2)), .second, .val (.int r)] [])) _
        exact k)
      have pre41 : ∀ t, Steps p.tables e below (T38.setTop (mkF m 76 #[.val (.ref a1), .val (.int p2), .val (.int (own_wd p2)), .val (.long (own_rs f p2)), .second, .val (.int r)] [(.int r)])) t → Steps p.tables e below (s₁.setTop (entryFrame m #[(.ref a1), (.int p2)] 6)) t := fun t k => pre40 t (by
        show Steps p.tables e below (T38.setTop (mkF m 74 #[.val (.ref a1), .val (.int p2), .val (.int (own_wd p2)), .val (.long (own_rs f p2)), .second, .val (.int r)] [])) _
        refine XS.iload X38.here hx rfl (hb hby d7_74) rfl ?_
        show Steps p.tables e below (T38.setTop (mkF m 76 #[.val (.ref a1), .val (.int p2), .val (.int (own_wd p2)), .val (.long (own_rs f p2)), .second, .val (.int r)] [(.int r)])) _
        exact k)
      by_cases hrn : r < 0
      · skip
        have pre42 : ∀ t, Steps p.tables e below (T38.setTop (mkF m 99 #[.val (.ref a1), .val (.int p2), .val (.int (own_wd p2)), .val (.long (own_rs f p2)), .second, .val (.int r)] [(.int (-1 : Int32))])) t → Steps p.tables e below (s₁.setTop (entryFrame m #[(.ref a1), (.int p2)] 6)) t := fun t k => pre41 t (by
          show Steps p.tables e below (T38.setTop (mkF m 76 #[.val (.ref a1), .val (.int p2), .val (.int (own_wd p2)), .val (.long (own_rs f p2)), .second, .val (.int r)] [(.int r)])) _
          refine XS.ifNo X38.here hx rfl (hb hby d7_76) rfl ((if0 _ _).trans (tlt hrn).2.1) ?_
          show Steps p.tables e below (T38.setTop (mkF m 79 #[.val (.ref a1), .val (.int p2), .val (.int (own_wd p2)), .val (.long (own_rs f p2)), .second, .val (.int r)] [])) _
          refine XS.iconst X38.here hx rfl (hb hby d7_79) ?_
          show Steps p.tables e below (T38.setTop (mkF m 80 #[.val (.ref a1), .val (.int p2), .val (.int (own_wd p2)), .val (.long (own_rs f p2)), .second, .val (.int r)] [(.int (-1 : Int32))])) _
          refine XS.goto X38.here hx rfl (pc0 := 80) (pc' := 99) rfl (hb hby d7_80) (by decide) (by decide) ?_
          show Steps p.tables e below (T38.setTop (mkF m 99 #[.val (.ref a1), .val (.int p2), .val (.int (own_wd p2)), .val (.long (own_rs f p2)), .second, .val (.int r)] [(.int (-1 : Int32))])) _
          exact k)
        obtain ⟨fs, hr, hrun, hended, hW, hsame⟩ := X38.leave (v := some (.int (-1 : Int32))) (fun h => by rw [Bd.returns] at h; cases h)
        refine ⟨_, _, pre42 _ ?_, hrun, hended, _, _, rfl, ?_, ⟨_, rfl⟩, hW, hsame.mono (by decide) (by decide)⟩
        · show Steps p.tables e below (T38.setTop (mkF m 99 #[.val (.ref a1), .val (.int p2), .val (.int (own_wd p2)), .val (.long (own_rs f p2)), .second, .val (.int r)] [(.int (-1 : Int32))])) _
          exact retI X38 hx Bd.returns (hb hby d7_99) hr
        · show QTnext Z a1 p2 w z f sz _ h0 n0 _ T38.heap _
          rw [e38]
          exact ⟨_, rfl, N38, rfl, own_lst_none p0 p64 hr0 haf hrn⟩
      · skip
        have pre43 : ∀ t, Steps p.tables e below (T38.setTop (mkF m 89 #[.val (.ref a1), .val (.int p2), .val (.int (own_wd p2)), .val (.long (own_rs f p2)), .second, .val (.int r)] [(.ref a1), (.int (r <<< ((6 : Int32) &&& 31)))])) t → Steps p.tables e below (s₁.setTop (entryFrame m #[(.ref a1), (.int p2)] 6)) t := fun t k => pre41 t (by
          show Steps p.tables e below (T38.setTop (mkF m 76 #[.val (.ref a1), .val (.int p2), .val (.int (own_wd p2)), .val (.long (own_rs f p2)), .second, .val (.int r)] [(.int r)])) _
          refine XS.ifYes X38.here hx rfl (pc0 := 76) (pc' := 83) rfl (hb hby d7_76) rfl ((if0 _ _).trans (flt hrn).2.1) (by decide) (by decide) ?_
          show Steps p.tables e below (T38.setTop (mkF m 83 #[.val (.ref a1), .val (.int p2), .val (.int (own_wd p2)), .val (.long (own_rs f p2)), .second, .val (.int r)] [])) _
          refine XS.iload X38.here hx rfl (hb hby d7_83) rfl ?_
          show Steps p.tables e below (T38.setTop (mkF m 85 #[.val (.ref a1), .val (.int p2), .val (.int (own_wd p2)), .val (.long (own_rs f p2)), .second, .val (.int r)] [(.int r)])) _
          refine XS.bipush X38.here hx rfl (hb hby d7_85) ?_
          show Steps p.tables e below (T38.setTop (mkF m 87 #[.val (.ref a1), .val (.int p2), .val (.int (own_wd p2)), .val (.long (own_rs f p2)), .second, .val (.int r)] [(.int (6 : Int32)), (.int r)])) _
          refine XS.ishl X38.here hx rfl (hb hby d7_87) rfl ?_
          show Steps p.tables e below (T38.setTop (mkF m 88 #[.val (.ref a1), .val (.int p2), .val (.int (own_wd p2)), .val (.long (own_rs f p2)), .second, .val (.int r)] [(.int (r <<< ((6 : Int32) &&& 31)))])) _
          refine XS.aloadN X38.here hx rfl (hb hby d7_88) rfl rfl ?_
          show Steps p.tables e below (T38.setTop (mkF m 89 #[.val (.ref a1), .val (.int p2), .val (.int (own_wd p2)), .val (.long (own_rs f p2)), .second, .val (.int r)] [(.ref a1), (.int (r <<< ((6 : Int32) &&& 31)))])) _
          exact k)
        obtain ⟨T44, X44, e44, st44⟩ := getF X38 hx hZ hown (host := "") (Or.inl (hw _ (List.mem_of_getElem? (i := 10) rfl))) Via.refl e38 Fw_a1 (g := (mkF m 89 #[.val (.ref a1), .val (.int p2), .val (.int (own_wd p2)), .val (.long (own_rs f p2)), .second, .val (.int r)] [(.ref a1), (.int (r <<< ((6 : Int32) &&& 31)))])) rfl rfl (hb hby d7_89)
        have pre45 : ∀ t, Steps p.tables e below (T44.setTop (mkF m 92 #[.val (.ref a1), .val (.int p2), .val (.int (own_wd p2)), .val (.long (own_rs f p2)), .second, .val (.int r)] [(.ref w), (.int (r <<< ((6 : Int32) &&& 31)))])) t → Steps p.tables e below (s₁.setTop (entryFrame m #[(.ref a1), (.int p2)] 6)) t := fun t k => pre43 t (by
          show Steps p.tables e below (T38.setTop (mkF m 89 #[.val (.ref a1), .val (.int p2), .val (.int (own_wd p2)), .val (.long (own_rs f p2)), .second, .val (.int r)] [(.ref a1), (.int (r <<< ((6 : Int32) &&& 31)))])) t
          refine st44 _ ?_
          show Steps p.tables e below (T44.setTop (mkF m 92 #[.val (.ref a1), .val (.int p2), .val (.int (own_wd p2)), .val (.long (own_rs f p2)), .second, .val (.int r)] [(.ref w), (.int (r <<< ((6 : Int32) &&& 31)))])) t
          exact k)
        have pre46 : ∀ t, Steps p.tables e below (T44.setTop (mkF m 94 #[.val (.ref a1), .val (.int p2), .val (.int (own_wd p2)), .val (.long (own_rs f p2)), .second, .val (.int r)] [(.int r), (.ref w), (.int (r <<< ((6 : Int32) &&& 31)))])) t → Steps p.tables e below (s₁.setTop (entryFrame m #[(.ref a1), (.int p2)] 6)) t := fun t k => pre45 t (by
          show Steps p.tables e below (T44.setTop (mkF m 92 #[.val (.ref a1), .val (.int p2), .val (.int (own_wd p2)), .val (.long (own_rs f p2)), .second, .val (.int r)] [(.ref w), (.int (r <<< ((6 : Int32) &&& 31)))])) _
          refine XS.iload X44.here hx rfl (hb hby d7_92) rfl ?_
          show Steps p.tables e below (T44.setTop (mkF m 94 #[.val (.ref a1), .val (.int p2), .val (.int (own_wd p2)), .val (.long (own_rs f p2)), .second, .val (.int r)] [(.int r), (.ref w), (.int (r <<< ((6 : Int32) &&& 31)))])) _
          exact k)
        obtain ⟨cl47, Ar47, hin47, hat47⟩ := own_wds_get Vw_w ⟨hrn, own_af_lt haf hf0 hrn⟩
        have pre48 : ∀ t, Steps p.tables e below (T44.setTop (mkF m 95 #[.val (.ref a1), .val (.int p2), .val (.int (own_wd p2)), .val (.long (own_rs f p2)), .second, .val (.int r)] [(.long (f r.toNatClampNeg)), (.int (r <<< ((6 : Int32) &&& 31)))])) t → Steps p.tables e below (s₁.setTop (entryFrame m #[(.ref a1), (.int p2)] 6)) t := fun t k => pre46 t (by
          show Steps p.tables e below (T44.setTop (mkF m 94 #[.val (.ref a1), .val (.int p2), .val (.int (own_wd p2)), .val (.long (own_rs f p2)), .second, .val (.int r)] [(.int r), (.ref w), (.int (r <<< ((6 : Int32) &&& 31)))])) t
          refine X44.laload hx (j := r) (v := (.long (f r.toNatClampNeg))) (by rw [e44]; exact Ar47.1) (State.isArrayOf_alike hZ.alike Ar47.2.1) Ar47.2.2 hin47 hat47 (g := (mkF m 94 #[.val (.ref a1), .val (.int p2), .val (.int (own_wd p2)), .val (.long (own_rs f p2)), .second, .val (.int r)] [(.int r), (.ref w), (.int (r <<< ((6 : Int32) &&& 31)))])) rfl rfl (hb hby d7_94) _ ?_
          exact k)
        obtain ⟨_, _, ⟨T49, L49, k49, n49⟩, -, X49, ⟨Lc49, hQ49, l49, y49, z49⟩, st49⟩ := Jvm.LawKit.callS X44 hx (y := (⟨"java/lang/Long", "numberOfTrailingZeros", "(J)I"⟩ : MethodName)) hown (mvT hZ (hw _ (List.mem_of_getElem? (i := 42) rfl))) (mvT hZ (hw _ (List.mem_of_getElem? (i := 43) rfl))) (mvT hZ (hw _ (List.mem_of_getElem? (i := 44) rfl))) (mvT hZ (hw _ (List.mem_of_getElem? (i := 45) rfl))) (by decide) (backOf (W := 1) (rm8 l Z a0 hw [] (f r.toNatClampNeg)  h0 n0 Z0) hZ (hw _ (List.mem_of_getElem? (i := 45) rfl)) (hw _ (List.mem_of_getElem? (i := 44) rfl)) (by decide) (by decide)) (g := (mkF m 95 #[.val (.ref a1), .val (.int p2), .val (.int (own_wd p2)), .val (.long (own_rs f p2)), .second, .val (.int r)] [(.long (f r.toNatClampNeg)), (.int (r <<< ((6 : Int32) &&& 31)))])) rfl (by rw [hml]; rfl) (argsL := [(.long (f r.toNatClampNeg))]) (rest := [(.int (r <<< ((6 : Int32) &&& 31)))]) (lenOf pdx_5 rfl) rfl (by show 2 * 0 + _ ≤ _; exact Nat.le_of_eq rfl) (hb hby d7_95) (fun _ _ => ⟨rfl, e44, (by decide : 0 + 0 ≤ _), (by decide : 0 + 0 ≤ _)⟩)
        dsimp only [Pt.U, Pt.locs, Pt.cells, Pt.slots] at X49 l49 y49 z49 st49 hQ49
        subst l49 y49 z49
        obtain ⟨rfl, N49q, e49⟩ := hQ49
        have N49 := Fr.app N38 N49q
        have pre50 : ∀ t, Steps p.tables e below (T49.setTop (mkF m 98 #[.val (.ref a1), .val (.int p2), .val (.int (own_wd p2)), .val (.long (own_rs f p2)), .second, .val (.int r)] [(.int (own_ctz (f r.toNatClampNeg))), (.int (r <<< ((6 : Int32) &&& 31)))])) t → Steps p.tables e below (s₁.setTop (entryFrame m #[(.ref a1), (.int p2)] 6)) t := fun t k => pre48 t (by
          show Steps p.tables e below (T44.setTop (mkF m 95 #[.val (.ref a1), .val (.int p2), .val (.int (own_wd p2)), .val (.long (own_rs f p2)), .second, .val (.int r)] [(.long (f r.toNatClampNeg)), (.int (r <<< ((6 : Int32) &&& 31)))])) t
          refine st49 _ ?_
          show Steps p.tables e below (T49.setTop (mkF m 98 #[.val (.ref a1), .val (.int p2), .val (.int (own_wd p2)), .val (.long (own_rs f p2)), .second, .val (.int r)] [(.int (own_ctz (f r.toNatClampNeg))), (.int (r <<< ((6 : Int32) &&& 31)))])) t
          exact k)
        have pre51 : ∀ t, Steps p.tables e below (T49.setTop (mkF m 99 #[.val (.ref a1), .val (.int p2), .val (.int (own_wd p2)), .val (.long (own_rs f p2)), .second, .val (.int r)] [(.int (own_cat r (own_ctz (f r.toNatClampNeg))))])) t → Steps p.tables e below (s₁.setTop (entryFrame m #[(.ref a1), (.int p2)] 6)) t := fun t k => pre50 t (by
          show Steps p.tables e below (T49.setTop (mkF m 98 #[.val (.ref a1), .val (.int p2), .val (.int (own_wd p2)), .val (.long (own_rs f p2)), .second, .val (.int r)] [(.int (own_ctz (f r.toNatClampNeg))), (.int (r <<< ((6 : Int32) &&& 31)))])) _
          refine XS.ior X49.here hx rfl (hb hby d7_98) rfl ?_
          show Steps p.tables e below (T49.setTop (mkF m 99 #[.val (.ref a1), .val (.int p2), .val (.int (own_wd p2)), .val (.long (own_rs f p2)), .second, .val (.int r)] [(.int (own_cat r (own_ctz (f r.toNatClampNeg))))])) _
          exact k)
        obtain ⟨fs, hr, hrun, hended, hW, hsame⟩ := X49.leave (v := some (.int (own_cat r (own_ctz (f r.toNatClampNeg))))) (fun h => by rw [Bd.returns] at h; cases h)
        refine ⟨_, _, pre51 _ ?_, hrun, hended, _, _, rfl, ?_, ⟨_, rfl⟩, hW, hsame.mono (by decide) (by decide)⟩
        · show Steps p.tables e below (T49.setTop (mkF m 99 #[.val (.ref a1), .val (.int p2), .val (.int (own_wd p2)), .val (.long (own_rs f p2)), .second, .val (.int r)] [(.int (own_cat r (own_ctz (f r.toNatClampNeg))))])) _
          exact retI X49 hx Bd.returns (hb hby d7_99) hr
        · show QTnext Z a1 p2 w z f sz _ h0 n0 _ T49.heap _
          rw [e49]
          exact ⟨_, rfl, N49, rfl, own_lst_hi p0 p64 hr0 haf hrn⟩
  · skip
    have pre52 : ∀ t, Steps p.tables e below (T7.setTop (mkF m 40 #[.val (.ref a1), .val (.int p2), .val (.int (own_wd p2)), .val (.long (own_rs f p2)), .second, .unset] [(.long (own_rs f p2)), (.int ((own_wd p2) <<< ((6 : Int32) &&& 31)))])) t → Steps p.tables e below (s₁.setTop (entryFrame m #[(.ref a1), (.int p2)] 6)) t := fun t k => pre12 t (by
      show Steps p.tables e below (T7.setTop (mkF m 32 #[.val (.ref a1), .val (.int p2), .val (.int (own_wd p2)), .val (.long (own_rs f p2)), .second, .unset] [(.int (lcmpW (own_rs f p2) (0 : Int64)))])) _
      refine XS.ifNo X7.here hx rfl (hb hby d7_32) rfl ((if0 _ _).trans (feq (fun q => hr0 ((lw_eq _ _).mp q))).1) ?_
      show Steps p.tables e below (T7.setTop (mkF m 35 #[.val (.ref a1), .val (.int p2), .val (.int (own_wd p2)), .val (.long (own_rs f p2)), .second, .unset] [])) _
      refine XS.iloadN X7.here hx rfl (hb hby d7_35) rfl ?_
      show Steps p.tables e below (T7.setTop (mkF m 36 #[.val (.ref a1), .val (.int p2), .val (.int (own_wd p2)), .val (.long (own_rs f p2)), .second, .unset] [(.int (own_wd p2))])) _
      refine XS.bipush X7.here hx rfl (hb hby d7_36) ?_
      show Steps p.tables e below (T7.setTop (mkF m 38 #[.val (.ref a1), .val (.int p2), .val (.int (own_wd p2)), .val (.long (own_rs f p2)), .second, .unset] [(.int (6 : Int32)), (.int (own_wd p2))])) _
      refine XS.ishl X7.here hx rfl (hb hby d7_38) rfl ?_
      show Steps p.tables e below (T7.setTop (mkF m 39 #[.val (.ref a1), .val (.int p2), .val (.int (own_wd p2)), .val (.long (own_rs f p2)), .second, .unset] [(.int ((own_wd p2) <<< ((6 : Int32) &&& 31)))])) _
      refine XS.lloadN X7.here hx rfl (hb hby d7_39) rfl ?_
      show Steps p.tables e below (T7.setTop (mkF m 40 #[.val (.ref a1), .val (.int p2), .val (.int (own_wd p2)), .val (.long (own_rs f p2)), .second, .unset] [(.long (own_rs f p2)), (.int ((own_wd p2) <<< ((6 : Int32) &&& 31)))])) _
      exact k)
    obtain ⟨_, _, ⟨T53, L53, k53, n53⟩, -, X53, ⟨Lc53, hQ53, l53, y53, z53⟩, st53⟩ := Jvm.LawKit.callS X7 hx (y := (⟨"java/lang/Long", "numberOfTrailingZeros", "(J)I"⟩ : MethodName)) hown (mvT hZ (hw _ (List.mem_of_getElem? (i := 42) rfl))) (mvT hZ (hw _ (List.mem_of_getElem? (i := 43) rfl))) (mvT hZ (hw _ (List.mem_of_getElem? (i := 44) rfl))) (mvT hZ (hw _ (List.mem_of_getElem? (i := 45) rfl))) (by decide) (backOf (W := 1) (rm8 l Z a0 hw [] (own_rs f p2)  h0 n0 Z0) hZ (hw _ (List.mem_of_getElem? (i := 45) rfl)) (hw _ (List.mem_of_getElem? (i := 44) rfl)) (by decide) (by decide)) (g := (mkF m 40 #[.val (.ref a1), .val (.int p2), .val (.int (own_wd p2)), .val (.long (own_rs f p2)), .second, .unset] [(.long (own_rs f p2)), (.int ((own_wd p2) <<< ((6 : Int32) &&& 31)))])) rfl (by rw [hml]; rfl) (argsL := [(.long (own_rs f p2))]) (rest := [(.int ((own_wd p2) <<< ((6 : Int32) &&& 31)))]) (lenOf pdx_5 rfl) rfl (by show 2 * 0 + _ ≤ _; exact Nat.le_of_eq rfl) (hb hby d7_40) (fun _ _ => ⟨rfl, e7, (by decide : 0 + 0 ≤ _), (by decide : 0 + 0 ≤ _)⟩)
    dsimp only [Pt.U, Pt.locs, Pt.cells, Pt.slots] at X53 l53 y53 z53 st53 hQ53
    subst l53 y53 z53
    obtain ⟨rfl, N53q, e53⟩ := hQ53
    have N53 := Fr.app N0 N53q
    have pre54 : ∀ t, Steps p.tables e below (T53.setTop (mkF m 43 #[.val (.ref a1), .val (.int p2), .val (.int (own_wd p2)), .val (.long (own_rs f p2)), .second, .unset] [(.int (own_ctz (own_rs f p2))), (.int ((own_wd p2) <<< ((6 : Int32) &&& 31)))])) t → Steps p.tables e below (s₁.setTop (entryFrame m #[(.ref a1), (.int p2)] 6)) t := fun t k => pre52 t (by
      show Steps p.tables e below (T7.setTop (mkF m 40 #[.val (.ref a1), .val (.int p2), .val (.int (own_wd p2)), .val (.long (own_rs f p2)), .second, .unset] [(.long (own_rs f p2)), (.int ((own_wd p2) <<< ((6 : Int32) &&& 31)))])) t
      refine st53 _ ?_
      show Steps p.tables e below (T53.setTop (mkF m 43 #[.val (.ref a1), .val (.int p2), .val (.int (own_wd p2)), .val (.long (own_rs f p2)), .second, .unset] [(.int (own_ctz (own_rs f p2))), (.int ((own_wd p2) <<< ((6 : Int32) &&& 31)))])) t
      exact k)
    have pre55 : ∀ t, Steps p.tables e below (T53.setTop (mkF m 44 #[.val (.ref a1), .val (.int p2), .val (.int (own_wd p2)), .val (.long (own_rs f p2)), .second, .unset] [(.int (own_cat (own_wd p2) (own_ctz (own_rs f p2))))])) t → Steps p.tables e below (s₁.setTop (entryFrame m #[(.ref a1), (.int p2)] 6)) t := fun t k => pre54 t (by
      show Steps p.tables e below (T53.setTop (mkF m 43 #[.val (.ref a1), .val (.int p2), .val (.int (own_wd p2)), .val (.long (own_rs f p2)), .second, .unset] [(.int (own_ctz (own_rs f p2))), (.int ((own_wd p2) <<< ((6 : Int32) &&& 31)))])) _
      refine XS.ior X53.here hx rfl (hb hby d7_43) rfl ?_
      show Steps p.tables e below (T53.setTop (mkF m 44 #[.val (.ref a1), .val (.int p2), .val (.int (own_wd p2)), .val (.long (own_rs f p2)), .second, .unset] [(.int (own_cat (own_wd p2) (own_ctz (own_rs f p2))))])) _
      exact k)
    obtain ⟨fs, hr, hrun, hended, hW, hsame⟩ := X53.leave (v := some (.int (own_cat (own_wd p2) (own_ctz (own_rs f p2))))) (fun h => by rw [Bd.returns] at h; cases h)
    refine ⟨_, _, pre55 _ ?_, hrun, hended, _, _, rfl, ?_, ⟨_, rfl⟩, hW, hsame.mono (by decide) (by decide)⟩
    · show Steps p.tables e below (T53.setTop (mkF m 44 #[.val (.ref a1), .val (.int p2), .val (.int (own_wd p2)), .val (.long (own_rs f p2)), .second, .unset] [(.int (own_cat (own_wd p2) (own_ctz (own_rs f p2))))])) _
      exact retI X53 hx Bd.returns (hb hby d7_44) hr
    · show QTnext Z a1 p2 w z f sz _ h0 n0 _ T53.heap _
      rw [e53]
      exact ⟨_, rfl, N53, rfl, own_lst_lo p0 p64 hr0⟩
theorem d10_0 : decode method_2_code 0 = .ok (.iconst (-1), 1) := by decide +kernel
theorem d10_1 : decode method_2_code 1 = .ok (.istore 4, 2) := by decide +kernel
theorem d10_3 : decode method_2_code 3 = .ok (.iload_n 0, 1) := by decide +kernel
theorem d10_4 : decode method_2_code 4 = .ok (.iload_n 3, 1) := by decide +kernel
theorem d10_5 : decode method_2_code 5 = .ok (.if_icmp .eq 17, 3) := by decide +kernel
theorem d10_8 : decode method_2_code 8 = .ok (.iload 4, 2) := by decide +kernel
theorem d10_10 : decode method_2_code 10 = .ok (.ifCond .lt 9, 3) := by decide +kernel
theorem d10_13 : decode method_2_code 13 = .ok (.iload_n 0, 1) := by decide +kernel
theorem d10_14 : decode method_2_code 14 = .ok (.iload 4, 2) := by decide +kernel
theorem d10_16 : decode method_2_code 16 = .ok (.if_icmp .ge 6, 3) := by decide +kernel
theorem d10_19 : decode method_2_code 19 = .ok (.iload_n 0, 1) := by decide +kernel
theorem d10_20 : decode method_2_code 20 = .ok (.istore 4, 2) := by decide +kernel
theorem d10_22 : decode method_2_code 22 = .ok (.iload_n 1, 1) := by decide +kernel
theorem d10_23 : decode method_2_code 23 = .ok (.iload_n 3, 1) := by decide +kernel
theorem d10_24 : decode method_2_code 24 = .ok (.if_icmp .eq 17, 3) := by decide +kernel
theorem d10_27 : decode method_2_code 27 = .ok (.iload 4, 2) := by decide +kernel
theorem d10_29 : decode method_2_code 29 = .ok (.ifCond .lt 9, 3) := by decide +kernel
theorem d10_32 : decode method_2_code 32 = .ok (.iload_n 1, 1) := by decide +kernel
theorem d10_33 : decode method_2_code 33 = .ok (.iload 4, 2) := by decide +kernel
theorem d10_35 : decode method_2_code 35 = .ok (.if_icmp .ge 6, 3) := by decide +kernel
theorem d10_38 : decode method_2_code 38 = .ok (.iload_n 1, 1) := by decide +kernel
theorem d10_39 : decode method_2_code 39 = .ok (.istore 4, 2) := by decide +kernel
theorem d10_41 : decode method_2_code 41 = .ok (.iload_n 2, 1) := by decide +kernel
theorem d10_42 : decode method_2_code 42 = .ok (.iload_n 3, 1) := by decide +kernel
theorem d10_43 : decode method_2_code 43 = .ok (.if_icmp .eq 17, 3) := by decide +kernel
theorem d10_46 : decode method_2_code 46 = .ok (.iload 4, 2) := by decide +kernel
theorem d10_48 : decode method_2_code 48 = .ok (.ifCond .lt 9, 3) := by decide +kernel
theorem d10_51 : decode method_2_code 51 = .ok (.iload_n 2, 1) := by decide +kernel
theorem d10_52 : decode method_2_code 52 = .ok (.iload 4, 2) := by decide +kernel
theorem d10_54 : decode method_2_code 54 = .ok (.if_icmp .ge 6, 3) := by decide +kernel
theorem d10_57 : decode method_2_code 57 = .ok (.iload_n 2, 1) := by decide +kernel
theorem d10_58 : decode method_2_code 58 = .ok (.istore 4, 2) := by decide +kernel
theorem d10_60 : decode method_2_code 60 = .ok (.iload 4, 2) := by decide +kernel
theorem d10_62 : decode method_2_code 62 = .ok (.ireturn, 1) := by decide +kernel
theorem pn_10 : plainName "com/example/berchta/berchta/learn/NodeSetRemovePinLaw" = true := by first | (simp [plainName, overriddenIn]; done) | decide +kernel
theorem ef_10 (m : MethodId) (x0 : Int32) (x1 : Int32) (x2 : Int32) (x3 : Int32) : entryFrame m #[(.int x0), (.int x1), (.int x2), (.int x3)] 5 = mkF m 0 #[.val (.int x0), .val (.int x1), .val (.int x2), .val (.int x3), .unset] [] := by first | (simp [entryFrame, mkF, argsToLocals, Value.category]; done) | rfl
def Q10 (Z : State) (p1 p2 p3 p4 : Int32) (h0 : Heap) (n0 : Nat) (v : Option Value) (h : Heap) (L : List Loc) : Prop := v = some (.int (own_least p1 p2 p3 p4)) ∧ Fr n0 L ∧ h = h0
set_option maxRecDepth 65536 in
set_option maxHeartbeats 40000000 in
theorem rm10 (l : Launch) (Z : State) (a0 : Array Value) (hw : ∀ d ∈ tables_1, d.before a0 Z = true) (ws : List Jvm.Cond) (p1 p2 p3 p4 : Int32) (h0 : Heap) (n0 : Nat) (Z0 : n0 ≤ h0.size) :
    MetFree l (⟨"com/example/berchta/berchta/learn/NodeSetRemovePinLaw", "least", "(IIII)I"⟩ : MethodName) (head1 (Jvm.Cond.code (⟨"com/example/berchta/berchta/learn/NodeSetRemovePinLaw", "least", "(IIII)I"⟩ : MethodName) method_2_code 5 (some .int) :: ws) ({ frames := 0, cells := 0, slots := 0, locals := 0 } : Room)) (fun a U => a = #[(.int p1), (.int p2), (.int p3), (.int p4)] ∧ Z.Warmed39 U.vm ∧ U.heap = h0) (fun _ _ _ _ _ => True) (fun _ U o U' => ∃ v L, o = .returned v ∧ Q10 Z p1 p2 p3 p4 h0 n0 v U'.heap L ∧ FrameEnd U o U' L ({ frames := 0, cells := 0, slots := 0, locals := 0 } : Room).cells ({ frames := 0, cells := 0, slots := 0, locals := 0 } : Room).slots) := by
  refine MetFree.of_bodySF (plainFor_of_name pn_10) hisR ?_
  intro p e s m args below meth c s₁ Bd hml0 hP hK
  obtain ⟨rfl, hZ, hh⟩ := hP
  have hx := Bd.exec
  have hby := Bd.bytes
  have hml : c.maxLocals = 5 := hml0
  have hown : s.vm.findClass "com/example/berchta/berchta/learn/NodeSetRemovePinLaw" = some m.cls := findClass_of_methodNamed Bd.named
  have hnm := (name_of_methodNamed Bd.named Bd.method).1
  have X0 : Stand p l e ({ frames := 0, cells := 0, slots := 0, locals := 0 } : Room) s m #[(.int p1), (.int p2), (.int p3), (.int p4)] below meth c s₁ [] 0 0 := Stand.of_body Bd
  have e0 : s₁.heap = h0 := by rw [← hh, Bd.state]; rfl
  have N0 := Fr.nil n0
  have pre0 : ∀ t, Steps p.tables e below (s₁.setTop (mkF m 0 #[.val (.int p1), .val (.int p2), .val (.int p3), .val (.int p4), .unset] [])) t → Steps p.tables e below (s₁.setTop (entryFrame m #[(.int p1), (.int p2), (.int p3), (.int p4)] 5)) t := fun t k => castTop (ef_10 m p1 p2 p3 p4) k
  have pre1 : ∀ t, Steps p.tables e below (s₁.setTop (mkF m 3 #[.val (.int p1), .val (.int p2), .val (.int p3), .val (.int p4), .val (.int (-1 : Int32))] [])) t → Steps p.tables e below (s₁.setTop (entryFrame m #[(.int p1), (.int p2), (.int p3), (.int p4)] 5)) t := fun t k => pre0 t (by
    show Steps p.tables e below (s₁.setTop (mkF m 0 #[.val (.int p1), .val (.int p2), .val (.int p3), .val (.int p4), .unset] [])) _
    refine XS.iconst X0.here hx rfl (hb hby d10_0) ?_
    show Steps p.tables e below (s₁.setTop (mkF m 1 #[.val (.int p1), .val (.int p2), .val (.int p3), .val (.int p4), .unset] [(.int (-1 : Int32))])) _
    refine XS.istore X0.here hx rfl (hb hby d10_1) rfl (l' := #[.val (.int p1), .val (.int p2), .val (.int p3), .val (.int p4), .val (.int (-1 : Int32))]) rfl ?_
    show Steps p.tables e below (s₁.setTop (mkF m 3 #[.val (.int p1), .val (.int p2), .val (.int p3), .val (.int p4), .val (.int (-1 : Int32))] [])) _
    exact k)
  have pre2 : ∀ t, Steps p.tables e below (s₁.setTop (mkF m 22 #[.val (.int p1), .val (.int p2), .val (.int p3), .val (.int p4), .val (.int (own_ls p1 p4 (-1 : Int32)))] [])) t → Steps p.tables e below (s₁.setTop (entryFrame m #[(.int p1), (.int p2), (.int p3), (.int p4)] 5)) t := fun t k => pre1 t (by
    by_cases ha : p1 = p4
    · skip
      show Steps p.tables e below (s₁.setTop (mkF m 3 #[.val (.int p1), .val (.int p2), .val (.int p3), .val (.int p4), .val (.int (-1 : Int32))] [])) _
      refine XS.iloadN X0.here hx rfl (hb hby d10_3) rfl ?_
      show Steps p.tables e below (s₁.setTop (mkF m 4 #[.val (.int p1), .val (.int p2), .val (.int p3), .val (.int p4), .val (.int (-1 : Int32))] [(.int p1)])) _
      refine XS.iloadN X0.here hx rfl (hb hby d10_4) rfl ?_
      show Steps p.tables e below (s₁.setTop (mkF m 5 #[.val (.int p1), .val (.int p2), .val (.int p3), .val (.int p4), .val (.int (-1 : Int32))] [(.int p4), (.int p1)])) _
      refine XS.icmpYes X0.here hx rfl (pc0 := 5) (pc' := 22) rfl (hb hby d10_5) rfl (teq ha).1 (by decide) (by decide) ?_
      show Steps p.tables e below (s₁.setTop (mkF m 22 #[.val (.int p1), .val (.int p2), .val (.int p3), .val (.int p4), .val (.int (-1 : Int32))] [])) _
      rw [show (own_ls p1 p4 (-1 : Int32)) = (-1 : Int32) from if_pos ha] at k
      exact k
    · skip
      by_cases hb_ : (-1 : Int32) < 0
      · skip
        show Steps p.tables e below (s₁.setTop (mkF m 3 #[.val (.int p1), .val (.int p2), .val (.int p3), .val (.int p4), .val (.int (-1 : Int32))] [])) _
        refine XS.iloadN X0.here hx rfl (hb hby d10_3) rfl ?_
        show Steps p.tables e below (s₁.setTop (mkF m 4 #[.val (.int p1), .val (.int p2), .val (.int p3), .val (.int p4), .val (.int (-1 : Int32))] [(.int p1)])) _
        refine XS.iloadN X0.here hx rfl (hb hby d10_4) rfl ?_
        show Steps p.tables e below (s₁.setTop (mkF m 5 #[.val (.int p1), .val (.int p2), .val (.int p3), .val (.int p4), .val (.int (-1 : Int32))] [(.int p4), (.int p1)])) _
        refine XS.icmpNo X0.here hx rfl (hb hby d10_5) rfl (feq ha).1 ?_
        show Steps p.tables e below (s₁.setTop (mkF m 8 #[.val (.int p1), .val (.int p2), .val (.int p3), .val (.int p4), .val (.int (-1 : Int32))] [])) _
        refine XS.iload X0.here hx rfl (hb hby d10_8) rfl ?_
        show Steps p.tables e below (s₁.setTop (mkF m 10 #[.val (.int p1), .val (.int p2), .val (.int p3), .val (.int p4), .val (.int (-1 : Int32))] [(.int (-1 : Int32))])) _
        refine XS.ifYes X0.here hx rfl (pc0 := 10) (pc' := 19) rfl (hb hby d10_10) rfl ((if0 _ _).trans (tlt hb_).1) (by decide) (by decide) ?_
        show Steps p.tables e below (s₁.setTop (mkF m 19 #[.val (.int p1), .val (.int p2), .val (.int p3), .val (.int p4), .val (.int (-1 : Int32))] [])) _
        refine XS.iloadN X0.here hx rfl (hb hby d10_19) rfl ?_
        show Steps p.tables e below (s₁.setTop (mkF m 20 #[.val (.int p1), .val (.int p2), .val (.int p3), .val (.int p4), .val (.int (-1 : Int32))] [(.int p1)])) _
        refine XS.istore X0.here hx rfl (hb hby d10_20) rfl (l' := #[.val (.int p1), .val (.int p2), .val (.int p3), .val (.int p4), .val (.int p1)]) rfl ?_
        show Steps p.tables e below (s₁.setTop (mkF m 22 #[.val (.int p1), .val (.int p2), .val (.int p3), .val (.int p4), .val (.int p1)] [])) _
        rw [show (own_ls p1 p4 (-1 : Int32)) = p1 from (if_neg ha).trans (if_pos hb_)] at k
        exact k
      · skip
        by_cases hc_ : p1 < (-1 : Int32)
        · skip
          show Steps p.tables e below (s₁.setTop (mkF m 3 #[.val (.int p1), .val (.int p2), .val (.int p3), .val (.int p4), .val (.int (-1 : Int32))] [])) _
          refine XS.iloadN X0.here hx rfl (hb hby d10_3) rfl ?_
          show Steps p.tables e below (s₁.setTop (mkF m 4 #[.val (.int p1), .val (.int p2), .val (.int p3), .val (.int p4), .val (.int (-1 : Int32))] [(.int p1)])) _
          refine XS.iloadN X0.here hx rfl (hb hby d10_4) rfl ?_
          show Steps p.tables e below (s₁.setTop (mkF m 5 #[.val (.int p1), .val (.int p2), .val (.int p3), .val (.int p4), .val (.int (-1 : Int32))] [(.int p4), (.int p1)])) _
          refine XS.icmpNo X0.here hx rfl (hb hby d10_5) rfl (feq ha).1 ?_
          show Steps p.tables e below (s₁.setTop (mkF m 8 #[.val (.int p1), .val (.int p2), .val (.int p3), .val (.int p4), .val (.int (-1 : Int32))] [])) _
          refine XS.iload X0.here hx rfl (hb hby d10_8) rfl ?_
          show Steps p.tables e below (s₁.setTop (mkF m 10 #[.val (.int p1), .val (.int p2), .val (.int p3), .val (.int p4), .val (.int (-1 : Int32))] [(.int (-1 : Int32))])) _
          refine XS.ifNo X0.here hx rfl (hb hby d10_10) rfl ((if0 _ _).trans (flt hb_).1) ?_
          show Steps p.tables e below (s₁.setTop (mkF m 13 #[.val (.int p1), .val (.int p2), .val (.int p3), .val (.int p4), .val (.int (-1 : Int32))] [])) _
          refine XS.iloadN X0.here hx rfl (hb hby d10_13) rfl ?_
          show Steps p.tables e below (s₁.setTop (mkF m 14 #[.val (.int p1), .val (.int p2), .val (.int p3), .val (.int p4), .val (.int (-1 : Int32))] [(.int p1)])) _
          refine XS.iload X0.here hx rfl (hb hby d10_14) rfl ?_
          show Steps p.tables e below (s₁.setTop (mkF m 16 #[.val (.int p1), .val (.int p2), .val (.int p3), .val (.int p4), .val (.int (-1 : Int32))] [(.int (-1 : Int32)), (.int p1)])) _
          refine XS.icmpNo X0.here hx rfl (hb hby d10_16) rfl (tlt hc_).2.1 ?_
          show Steps p.tables e below (s₁.setTop (mkF m 19 #[.val (.int p1), .val (.int p2), .val (.int p3), .val (.int p4), .val (.int (-1 : Int32))] [])) _
          refine XS.iloadN X0.here hx rfl (hb hby d10_19) rfl ?_
          show Steps p.tables e below (s₁.setTop (mkF m 20 #[.val (.int p1), .val (.int p2), .val (.int p3), .val (.int p4), .val (.int (-1 : Int32))] [(.int p1)])) _
          refine XS.istore X0.here hx rfl (hb hby d10_20) rfl (l' := #[.val (.int p1), .val (.int p2), .val (.int p3), .val (.int p4), .val (.int p1)]) rfl ?_
          show Steps p.tables e below (s₁.setTop (mkF m 22 #[.val (.int p1), .val (.int p2), .val (.int p3), .val (.int p4), .val (.int p1)] [])) _
          rw [show (own_ls p1 p4 (-1 : Int32)) = p1 from (if_neg ha).trans ((if_neg hb_).trans (if_pos hc_))] at k
          exact k
        · skip
          show Steps p.tables e below (s₁.setTop (mkF m 3 #[.val (.int p1), .val (.int p2), .val (.int p3), .val (.int p4), .val (.int (-1 : Int32))] [])) _
          refine XS.iloadN X0.here hx rfl (hb hby d10_3) rfl ?_
          show Steps p.tables e below (s₁.setTop (mkF m 4 #[.val (.int p1), .val (.int p2), .val (.int p3), .val (.int p4), .val (.int (-1 : Int32))] [(.int p1)])) _
          refine XS.iloadN X0.here hx rfl (hb hby d10_4) rfl ?_
          show Steps p.tables e below (s₁.setTop (mkF m 5 #[.val (.int p1), .val (.int p2), .val (.int p3), .val (.int p4), .val (.int (-1 : Int32))] [(.int p4), (.int p1)])) _
          refine XS.icmpNo X0.here hx rfl (hb hby d10_5) rfl (feq ha).1 ?_
          show Steps p.tables e below (s₁.setTop (mkF m 8 #[.val (.int p1), .val (.int p2), .val (.int p3), .val (.int p4), .val (.int (-1 : Int32))] [])) _
          refine XS.iload X0.here hx rfl (hb hby d10_8) rfl ?_
          show Steps p.tables e below (s₁.setTop (mkF m 10 #[.val (.int p1), .val (.int p2), .val (.int p3), .val (.int p4), .val (.int (-1 : Int32))] [(.int (-1 : Int32))])) _
          refine XS.ifNo X0.here hx rfl (hb hby d10_10) rfl ((if0 _ _).trans (flt hb_).1) ?_
          show Steps p.tables e below (s₁.setTop (mkF m 13 #[.val (.int p1), .val (.int p2), .val (.int p3), .val (.int p4), .val (.int (-1 : Int32))] [])) _
          refine XS.iloadN X0.here hx rfl (hb hby d10_13) rfl ?_
          show Steps p.tables e below (s₁.setTop (mkF m 14 #[.val (.int p1), .val (.int p2), .val (.int p3), .val (.int p4), .val (.int (-1 : Int32))] [(.int p1)])) _
          refine XS.iload X0.here hx rfl (hb hby d10_14) rfl ?_
          show Steps p.tables e below (s₁.setTop (mkF m 16 #[.val (.int p1), .val (.int p2), .val (.int p3), .val (.int p4), .val (.int (-1 : Int32))] [(.int (-1 : Int32)), (.int p1)])) _
          refine XS.icmpYes X0.here hx rfl (pc0 := 16) (pc' := 22) rfl (hb hby d10_16) rfl (flt hc_).2.1 (by decide) (by decide) ?_
          show Steps p.tables e below (s₁.setTop (mkF m 22 #[.val (.int p1), .val (.int p2), .val (.int p3), .val (.int p4), .val (.int (-1 : Int32))] [])) _
          rw [show (own_ls p1 p4 (-1 : Int32)) = (-1 : Int32) from (if_neg ha).trans ((if_neg hb_).trans (if_neg hc_))] at k
          exact k)
  have pre3 : ∀ t, Steps p.tables e below (s₁.setTop (mkF m 41 #[.val (.int p1), .val (.int p2), .val (.int p3), .val (.int p4), .val (.int (own_ls p2 p4 (own_ls p1 p4 (-1 : Int32))))] [])) t → Steps p.tables e below (s₁.setTop (entryFrame m #[(.int p1), (.int p2), (.int p3), (.int p4)] 5)) t := fun t k => pre2 t (by
    by_cases ha : p2 = p4
    · skip
      show Steps p.tables e below (s₁.setTop (mkF m 22 #[.val (.int p1), .val (.int p2), .val (.int p3), .val (.int p4), .val (.int (own_ls p1 p4 (-1 : Int32)))] [])) _
      refine XS.iloadN X0.here hx rfl (hb hby d10_22) rfl ?_
      show Steps p.tables e below (s₁.setTop (mkF m 23 #[.val (.int p1), .val (.int p2), .val (.int p3), .val (.int p4), .val (.int (own_ls p1 p4 (-1 : Int32)))] [(.int p2)])) _
      refine XS.iloadN X0.here hx rfl (hb hby d10_23) rfl ?_
      show Steps p.tables e below (s₁.setTop (mkF m 24 #[.val (.int p1), .val (.int p2), .val (.int p3), .val (.int p4), .val (.int (own_ls p1 p4 (-1 : Int32)))] [(.int p4), (.int p2)])) _
      refine XS.icmpYes X0.here hx rfl (pc0 := 24) (pc' := 41) rfl (hb hby d10_24) rfl (teq ha).1 (by decide) (by decide) ?_
      show Steps p.tables e below (s₁.setTop (mkF m 41 #[.val (.int p1), .val (.int p2), .val (.int p3), .val (.int p4), .val (.int (own_ls p1 p4 (-1 : Int32)))] [])) _
      rw [show (own_ls p2 p4 (own_ls p1 p4 (-1 : Int32))) = (own_ls p1 p4 (-1 : Int32)) from if_pos ha] at k
      exact k
    · skip
      by_cases hb_ : (own_ls p1 p4 (-1 : Int32)) < 0
      · skip
        show Steps p.tables e below (s₁.setTop (mkF m 22 #[.val (.int p1), .val (.int p2), .val (.int p3), .val (.int p4), .val (.int (own_ls p1 p4 (-1 : Int32)))] [])) _
        refine XS.iloadN X0.here hx rfl (hb hby d10_22) rfl ?_
        show Steps p.tables e below (s₁.setTop (mkF m 23 #[.val (.int p1), .val (.int p2), .val (.int p3), .val (.int p4), .val (.int (own_ls p1 p4 (-1 : Int32)))] [(.int p2)])) _
        refine XS.iloadN X0.here hx rfl (hb hby d10_23) rfl ?_
        show Steps p.tables e below (s₁.setTop (mkF m 24 #[.val (.int p1), .val (.int p2), .val (.int p3), .val (.int p4), .val (.int (own_ls p1 p4 (-1 : Int32)))] [(.int p4), (.int p2)])) _
        refine XS.icmpNo X0.here hx rfl (hb hby d10_24) rfl (feq ha).1 ?_
        show Steps p.tables e below (s₁.setTop (mkF m 27 #[.val (.int p1), .val (.int p2), .val (.int p3), .val (.int p4), .val (.int (own_ls p1 p4 (-1 : Int32)))] [])) _
        refine XS.iload X0.here hx rfl (hb hby d10_27) rfl ?_
        show Steps p.tables e below (s₁.setTop (mkF m 29 #[.val (.int p1), .val (.int p2), .val (.int p3), .val (.int p4), .val (.int (own_ls p1 p4 (-1 : Int32)))] [(.int (own_ls p1 p4 (-1 : Int32)))])) _
        refine XS.ifYes X0.here hx rfl (pc0 := 29) (pc' := 38) rfl (hb hby d10_29) rfl ((if0 _ _).trans (tlt hb_).1) (by decide) (by decide) ?_
        show Steps p.tables e below (s₁.setTop (mkF m 38 #[.val (.int p1), .val (.int p2), .val (.int p3), .val (.int p4), .val (.int (own_ls p1 p4 (-1 : Int32)))] [])) _
        refine XS.iloadN X0.here hx rfl (hb hby d10_38) rfl ?_
        show Steps p.tables e below (s₁.setTop (mkF m 39 #[.val (.int p1), .val (.int p2), .val (.int p3), .val (.int p4), .val (.int (own_ls p1 p4 (-1 : Int32)))] [(.int p2)])) _
        refine XS.istore X0.here hx rfl (hb hby d10_39) rfl (l' := #[.val (.int p1), .val (.int p2), .val (.int p3), .val (.int p4), .val (.int p2)]) rfl ?_
        show Steps p.tables e below (s₁.setTop (mkF m 41 #[.val (.int p1), .val (.int p2), .val (.int p3), .val (.int p4), .val (.int p2)] [])) _
        rw [show (own_ls p2 p4 (own_ls p1 p4 (-1 : Int32))) = p2 from (if_neg ha).trans (if_pos hb_)] at k
        exact k
      · skip
        by_cases hc_ : p2 < (own_ls p1 p4 (-1 : Int32))
        · skip
          show Steps p.tables e below (s₁.setTop (mkF m 22 #[.val (.int p1), .val (.int p2), .val (.int p3), .val (.int p4), .val (.int (own_ls p1 p4 (-1 : Int32)))] [])) _
          refine XS.iloadN X0.here hx rfl (hb hby d10_22) rfl ?_
          show Steps p.tables e below (s₁.setTop (mkF m 23 #[.val (.int p1), .val (.int p2), .val (.int p3), .val (.int p4), .val (.int (own_ls p1 p4 (-1 : Int32)))] [(.int p2)])) _
          refine XS.iloadN X0.here hx rfl (hb hby d10_23) rfl ?_
          show Steps p.tables e below (s₁.setTop (mkF m 24 #[.val (.int p1), .val (.int p2), .val (.int p3), .val (.int p4), .val (.int (own_ls p1 p4 (-1 : Int32)))] [(.int p4), (.int p2)])) _
          refine XS.icmpNo X0.here hx rfl (hb hby d10_24) rfl (feq ha).1 ?_
          show Steps p.tables e below (s₁.setTop (mkF m 27 #[.val (.int p1), .val (.int p2), .val (.int p3), .val (.int p4), .val (.int (own_ls p1 p4 (-1 : Int32)))] [])) _
          refine XS.iload X0.here hx rfl (hb hby d10_27) rfl ?_
          show Steps p.tables e below (s₁.setTop (mkF m 29 #[.val (.int p1), .val (.int p2), .val (.int p3), .val (.int p4), .val (.int (own_ls p1 p4 (-1 : Int32)))] [(.int (own_ls p1 p4 (-1 : Int32)))])) _
          refine XS.ifNo X0.here hx rfl (hb hby d10_29) rfl ((if0 _ _).trans (flt hb_).1) ?_
          show Steps p.tables e below (s₁.setTop (mkF m 32 #[.val (.int p1), .val (.int p2), .val (.int p3), .val (.int p4), .val (.int (own_ls p1 p4 (-1 : Int32)))] [])) _
          refine XS.iloadN X0.here hx rfl (hb hby d10_32) rfl ?_
          show Steps p.tables e below (s₁.setTop (mkF m 33 #[.val (.int p1), .val (.int p2), .val (.int p3), .val (.int p4), .val (.int (own_ls p1 p4 (-1 : Int32)))] [(.int p2)])) _
          refine XS.iload X0.here hx rfl (hb hby d10_33) rfl ?_
          show Steps p.tables e below (s₁.setTop (mkF m 35 #[.val (.int p1), .val (.int p2), .val (.int p3), .val (.int p4), .val (.int (own_ls p1 p4 (-1 : Int32)))] [(.int (own_ls p1 p4 (-1 : Int32))), (.int p2)])) _
          refine XS.icmpNo X0.here hx rfl (hb hby d10_35) rfl (tlt hc_).2.1 ?_
          show Steps p.tables e below (s₁.setTop (mkF m 38 #[.val (.int p1), .val (.int p2), .val (.int p3), .val (.int p4), .val (.int (own_ls p1 p4 (-1 : Int32)))] [])) _
          refine XS.iloadN X0.here hx rfl (hb hby d10_38) rfl ?_
          show Steps p.tables e below (s₁.setTop (mkF m 39 #[.val (.int p1), .val (.int p2), .val (.int p3), .val (.int p4), .val (.int (own_ls p1 p4 (-1 : Int32)))] [(.int p2)])) _
          refine XS.istore X0.here hx rfl (hb hby d10_39) rfl (l' := #[.val (.int p1), .val (.int p2), .val (.int p3), .val (.int p4), .val (.int p2)]) rfl ?_
          show Steps p.tables e below (s₁.setTop (mkF m 41 #[.val (.int p1), .val (.int p2), .val (.int p3), .val (.int p4), .val (.int p2)] [])) _
          rw [show (own_ls p2 p4 (own_ls p1 p4 (-1 : Int32))) = p2 from (if_neg ha).trans ((if_neg hb_).trans (if_pos hc_))] at k
          exact k
        · skip
          show Steps p.tables e below (s₁.setTop (mkF m 22 #[.val (.int p1), .val (.int p2), .val (.int p3), .val (.int p4), .val (.int (own_ls p1 p4 (-1 : Int32)))] [])) _
          refine XS.iloadN X0.here hx rfl (hb hby d10_22) rfl ?_
          show Steps p.tables e below (s₁.setTop (mkF m 23 #[.val (.int p1), .val (.int p2), .val (.int p3), .val (.int p4), .val (.int (own_ls p1 p4 (-1 : Int32)))] [(.int p2)])) _
          refine XS.iloadN X0.here hx rfl (hb hby d10_23) rfl ?_
          show Steps p.tables e below (s₁.setTop (mkF m 24 #[.val (.int p1), .val (.int p2), .val (.int p3), .val (.int p4), .val (.int (own_ls p1 p4 (-1 : Int32)))] [(.int p4), (.int p2)])) _
          refine XS.icmpNo X0.here hx rfl (hb hby d10_24) rfl (feq ha).1 ?_
          show Steps p.tables e below (s₁.setTop (mkF m 27 #[.val (.int p1), .val (.int p2), .val (.int p3), .val (.int p4), .val (.int (own_ls p1 p4 (-1 : Int32)))] [])) _
          refine XS.iload X0.here hx rfl (hb hby d10_27) rfl ?_
          show Steps p.tables e below (s₁.setTop (mkF m 29 #[.val (.int p1), .val (.int p2), .val (.int p3), .val (.int p4), .val (.int (own_ls p1 p4 (-1 : Int32)))] [(.int (own_ls p1 p4 (-1 : Int32)))])) _
          refine XS.ifNo X0.here hx rfl (hb hby d10_29) rfl ((if0 _ _).trans (flt hb_).1) ?_
          show Steps p.tables e below (s₁.setTop (mkF m 32 #[.val (.int p1), .val (.int p2), .val (.int p3), .val (.int p4), .val (.int (own_ls p1 p4 (-1 : Int32)))] [])) _
          refine XS.iloadN X0.here hx rfl (hb hby d10_32) rfl ?_
          show Steps p.tables e below (s₁.setTop (mkF m 33 #[.val (.int p1), .val (.int p2), .val (.int p3), .val (.int p4), .val (.int (own_ls p1 p4 (-1 : Int32)))] [(.int p2)])) _
          refine XS.iload X0.here hx rfl (hb hby d10_33) rfl ?_
          show Steps p.tables e below (s₁.setTop (mkF m 35 #[.val (.int p1), .val (.int p2), .val (.int p3), .val (.int p4), .val (.int (own_ls p1 p4 (-1 : Int32)))] [(.int (own_ls p1 p4 (-1 : Int32))), (.int p2)])) _
          refine XS.icmpYes X0.here hx rfl (pc0 := 35) (pc' := 41) rfl (hb hby d10_35) rfl (flt hc_).2.1 (by decide) (by decide) ?_
          show Steps p.tables e below (s₁.setTop (mkF m 41 #[.val (.int p1), .val (.int p2), .val (.int p3), .val (.int p4), .val (.int (own_ls p1 p4 (-1 : Int32)))] [])) _
          rw [show (own_ls p2 p4 (own_ls p1 p4 (-1 : Int32))) = (own_ls p1 p4 (-1 : Int32)) from (if_neg ha).trans ((if_neg hb_).trans (if_neg hc_))] at k
          exact k)
  have pre4 : ∀ t, Steps p.tables e below (s₁.setTop (mkF m 60 #[.val (.int p1), .val (.int p2), .val (.int p3), .val (.int p4), .val (.int (own_ls p3 p4 (own_ls p2 p4 (own_ls p1 p4 (-1 : Int32)))))] [])) t → Steps p.tables e below (s₁.setTop (entryFrame m #[(.int p1), (.int p2), (.int p3), (.int p4)] 5)) t := fun t k => pre3 t (by
    by_cases ha : p3 = p4
    · skip
      show Steps p.tables e below (s₁.setTop (mkF m 41 #[.val (.int p1), .val (.int p2), .val (.int p3), .val (.int p4), .val (.int (own_ls p2 p4 (own_ls p1 p4 (-1 : Int32))))] [])) _
      refine XS.iloadN X0.here hx rfl (hb hby d10_41) rfl ?_
      show Steps p.tables e below (s₁.setTop (mkF m 42 #[.val (.int p1), .val (.int p2), .val (.int p3), .val (.int p4), .val (.int (own_ls p2 p4 (own_ls p1 p4 (-1 : Int32))))] [(.int p3)])) _
      refine XS.iloadN X0.here hx rfl (hb hby d10_42) rfl ?_
      show Steps p.tables e below (s₁.setTop (mkF m 43 #[.val (.int p1), .val (.int p2), .val (.int p3), .val (.int p4), .val (.int (own_ls p2 p4 (own_ls p1 p4 (-1 : Int32))))] [(.int p4), (.int p3)])) _
      refine XS.icmpYes X0.here hx rfl (pc0 := 43) (pc' := 60) rfl (hb hby d10_43) rfl (teq ha).1 (by decide) (by decide) ?_
      show Steps p.tables e below (s₁.setTop (mkF m 60 #[.val (.int p1), .val (.int p2), .val (.int p3), .val (.int p4), .val (.int (own_ls p2 p4 (own_ls p1 p4 (-1 : Int32))))] [])) _
      rw [show (own_ls p3 p4 (own_ls p2 p4 (own_ls p1 p4 (-1 : Int32)))) = (own_ls p2 p4 (own_ls p1 p4 (-1 : Int32))) from if_pos ha] at k
      exact k
    · skip
      by_cases hb_ : (own_ls p2 p4 (own_ls p1 p4 (-1 : Int32))) < 0
      · skip
        show Steps p.tables e below (s₁.setTop (mkF m 41 #[.val (.int p1), .val (.int p2), .val (.int p3), .val (.int p4), .val (.int (own_ls p2 p4 (own_ls p1 p4 (-1 : Int32))))] [])) _
        refine XS.iloadN X0.here hx rfl (hb hby d10_41) rfl ?_
        show Steps p.tables e below (s₁.setTop (mkF m 42 #[.val (.int p1), .val (.int p2), .val (.int p3), .val (.int p4), .val (.int (own_ls p2 p4 (own_ls p1 p4 (-1 : Int32))))] [(.int p3)])) _
        refine XS.iloadN X0.here hx rfl (hb hby d10_42) rfl ?_
        show Steps p.tables e below (s₁.setTop (mkF m 43 #[.val (.int p1), .val (.int p2), .val (.int p3), .val (.int p4), .val (.int (own_ls p2 p4 (own_ls p1 p4 (-1 : Int32))))] [(.int p4), (.int p3)])) _
        refine XS.icmpNo X0.here hx rfl (hb hby d10_43) rfl (feq ha).1 ?_
        show Steps p.tables e below (s₁.setTop (mkF m 46 #[.val (.int p1), .val (.int p2), .val (.int p3), .val (.int p4), .val (.int (own_ls p2 p4 (own_ls p1 p4 (-1 : Int32))))] [])) _
        refine XS.iload X0.here hx rfl (hb hby d10_46) rfl ?_
        show Steps p.tables e below (s₁.setTop (mkF m 48 #[.val (.int p1), .val (.int p2), .val (.int p3), .val (.int p4), .val (.int (own_ls p2 p4 (own_ls p1 p4 (-1 : Int32))))] [(.int (own_ls p2 p4 (own_ls p1 p4 (-1 : Int32))))])) _
        refine XS.ifYes X0.here hx rfl (pc0 := 48) (pc' := 57) rfl (hb hby d10_48) rfl ((if0 _ _).trans (tlt hb_).1) (by decide) (by decide) ?_
        show Steps p.tables e below (s₁.setTop (mkF m 57 #[.val (.int p1), .val (.int p2), .val (.int p3), .val (.int p4), .val (.int (own_ls p2 p4 (own_ls p1 p4 (-1 : Int32))))] [])) _
        refine XS.iloadN X0.here hx rfl (hb hby d10_57) rfl ?_
        show Steps p.tables e below (s₁.setTop (mkF m 58 #[.val (.int p1), .val (.int p2), .val (.int p3), .val (.int p4), .val (.int (own_ls p2 p4 (own_ls p1 p4 (-1 : Int32))))] [(.int p3)])) _
        refine XS.istore X0.here hx rfl (hb hby d10_58) rfl (l' := #[.val (.int p1), .val (.int p2), .val (.int p3), .val (.int p4), .val (.int p3)]) rfl ?_
        show Steps p.tables e below (s₁.setTop (mkF m 60 #[.val (.int p1), .val (.int p2), .val (.int p3), .val (.int p4), .val (.int p3)] [])) _
        rw [show (own_ls p3 p4 (own_ls p2 p4 (own_ls p1 p4 (-1 : Int32)))) = p3 from (if_neg ha).trans (if_pos hb_)] at k
        exact k
      · skip
        by_cases hc_ : p3 < (own_ls p2 p4 (own_ls p1 p4 (-1 : Int32)))
        · skip
          show Steps p.tables e below (s₁.setTop (mkF m 41 #[.val (.int p1), .val (.int p2), .val (.int p3), .val (.int p4), .val (.int (own_ls p2 p4 (own_ls p1 p4 (-1 : Int32))))] [])) _
          refine XS.iloadN X0.here hx rfl (hb hby d10_41) rfl ?_
          show Steps p.tables e below (s₁.setTop (mkF m 42 #[.val (.int p1), .val (.int p2), .val (.int p3), .val (.int p4), .val (.int (own_ls p2 p4 (own_ls p1 p4 (-1 : Int32))))] [(.int p3)])) _
          refine XS.iloadN X0.here hx rfl (hb hby d10_42) rfl ?_
          show Steps p.tables e below (s₁.setTop (mkF m 43 #[.val (.int p1), .val (.int p2), .val (.int p3), .val (.int p4), .val (.int (own_ls p2 p4 (own_ls p1 p4 (-1 : Int32))))] [(.int p4), (.int p3)])) _
          refine XS.icmpNo X0.here hx rfl (hb hby d10_43) rfl (feq ha).1 ?_
          show Steps p.tables e below (s₁.setTop (mkF m 46 #[.val (.int p1), .val (.int p2), .val (.int p3), .val (.int p4), .val (.int (own_ls p2 p4 (own_ls p1 p4 (-1 : Int32))))] [])) _
          refine XS.iload X0.here hx rfl (hb hby d10_46) rfl ?_
          show Steps p.tables e below (s₁.setTop (mkF m 48 #[.val (.int p1), .val (.int p2), .val (.int p3), .val (.int p4), .val (.int (own_ls p2 p4 (own_ls p1 p4 (-1 : Int32))))] [(.int (own_ls p2 p4 (own_ls p1 p4 (-1 : Int32))))])) _
          refine XS.ifNo X0.here hx rfl (hb hby d10_48) rfl ((if0 _ _).trans (flt hb_).1) ?_
          show Steps p.tables e below (s₁.setTop (mkF m 51 #[.val (.int p1), .val (.int p2), .val (.int p3), .val (.int p4), .val (.int (own_ls p2 p4 (own_ls p1 p4 (-1 : Int32))))] [])) _
          refine XS.iloadN X0.here hx rfl (hb hby d10_51) rfl ?_
          show Steps p.tables e below (s₁.setTop (mkF m 52 #[.val (.int p1), .val (.int p2), .val (.int p3), .val (.int p4), .val (.int (own_ls p2 p4 (own_ls p1 p4 (-1 : Int32))))] [(.int p3)])) _
          refine XS.iload X0.here hx rfl (hb hby d10_52) rfl ?_
          show Steps p.tables e below (s₁.setTop (mkF m 54 #[.val (.int p1), .val (.int p2), .val (.int p3), .val (.int p4), .val (.int (own_ls p2 p4 (own_ls p1 p4 (-1 : Int32))))] [(.int (own_ls p2 p4 (own_ls p1 p4 (-1 : Int32)))), (.int p3)])) _
          refine XS.icmpNo X0.here hx rfl (hb hby d10_54) rfl (tlt hc_).2.1 ?_
          show Steps p.tables e below (s₁.setTop (mkF m 57 #[.val (.int p1), .val (.int p2), .val (.int p3), .val (.int p4), .val (.int (own_ls p2 p4 (own_ls p1 p4 (-1 : Int32))))] [])) _
          refine XS.iloadN X0.here hx rfl (hb hby d10_57) rfl ?_
          show Steps p.tables e below (s₁.setTop (mkF m 58 #[.val (.int p1), .val (.int p2), .val (.int p3), .val (.int p4), .val (.int (own_ls p2 p4 (own_ls p1 p4 (-1 : Int32))))] [(.int p3)])) _
          refine XS.istore X0.here hx rfl (hb hby d10_58) rfl (l' := #[.val (.int p1), .val (.int p2), .val (.int p3), .val (.int p4), .val (.int p3)]) rfl ?_
          show Steps p.tables e below (s₁.setTop (mkF m 60 #[.val (.int p1), .val (.int p2), .val (.int p3), .val (.int p4), .val (.int p3)] [])) _
          rw [show (own_ls p3 p4 (own_ls p2 p4 (own_ls p1 p4 (-1 : Int32)))) = p3 from (if_neg ha).trans ((if_neg hb_).trans (if_pos hc_))] at k
          exact k
        · skip
          show Steps p.tables e below (s₁.setTop (mkF m 41 #[.val (.int p1), .val (.int p2), .val (.int p3), .val (.int p4), .val (.int (own_ls p2 p4 (own_ls p1 p4 (-1 : Int32))))] [])) _
          refine XS.iloadN X0.here hx rfl (hb hby d10_41) rfl ?_
          show Steps p.tables e below (s₁.setTop (mkF m 42 #[.val (.int p1), .val (.int p2), .val (.int p3), .val (.int p4), .val (.int (own_ls p2 p4 (own_ls p1 p4 (-1 : Int32))))] [(.int p3)])) _
          refine XS.iloadN X0.here hx rfl (hb hby d10_42) rfl ?_
          show Steps p.tables e below (s₁.setTop (mkF m 43 #[.val (.int p1), .val (.int p2), .val (.int p3), .val (.int p4), .val (.int (own_ls p2 p4 (own_ls p1 p4 (-1 : Int32))))] [(.int p4), (.int p3)])) _
          refine XS.icmpNo X0.here hx rfl (hb hby d10_43) rfl (feq ha).1 ?_
          show Steps p.tables e below (s₁.setTop (mkF m 46 #[.val (.int p1), .val (.int p2), .val (.int p3), .val (.int p4), .val (.int (own_ls p2 p4 (own_ls p1 p4 (-1 : Int32))))] [])) _
          refine XS.iload X0.here hx rfl (hb hby d10_46) rfl ?_
          show Steps p.tables e below (s₁.setTop (mkF m 48 #[.val (.int p1), .val (.int p2), .val (.int p3), .val (.int p4), .val (.int (own_ls p2 p4 (own_ls p1 p4 (-1 : Int32))))] [(.int (own_ls p2 p4 (own_ls p1 p4 (-1 : Int32))))])) _
          refine XS.ifNo X0.here hx rfl (hb hby d10_48) rfl ((if0 _ _).trans (flt hb_).1) ?_
          show Steps p.tables e below (s₁.setTop (mkF m 51 #[.val (.int p1), .val (.int p2), .val (.int p3), .val (.int p4), .val (.int (own_ls p2 p4 (own_ls p1 p4 (-1 : Int32))))] [])) _
          refine XS.iloadN X0.here hx rfl (hb hby d10_51) rfl ?_
          show Steps p.tables e below (s₁.setTop (mkF m 52 #[.val (.int p1), .val (.int p2), .val (.int p3), .val (.int p4), .val (.int (own_ls p2 p4 (own_ls p1 p4 (-1 : Int32))))] [(.int p3)])) _
          refine XS.iload X0.here hx rfl (hb hby d10_52) rfl ?_
          show Steps p.tables e below (s₁.setTop (mkF m 54 #[.val (.int p1), .val (.int p2), .val (.int p3), .val (.int p4), .val (.int (own_ls p2 p4 (own_ls p1 p4 (-1 : Int32))))] [(.int (own_ls p2 p4 (own_ls p1 p4 (-1 : Int32)))), (.int p3)])) _
          refine XS.icmpYes X0.here hx rfl (pc0 := 54) (pc' := 60) rfl (hb hby d10_54) rfl (flt hc_).2.1 (by decide) (by decide) ?_
          show Steps p.tables e below (s₁.setTop (mkF m 60 #[.val (.int p1), .val (.int p2), .val (.int p3), .val (.int p4), .val (.int (own_ls p2 p4 (own_ls p1 p4 (-1 : Int32))))] [])) _
          rw [show (own_ls p3 p4 (own_ls p2 p4 (own_ls p1 p4 (-1 : Int32)))) = (own_ls p2 p4 (own_ls p1 p4 (-1 : Int32))) from (if_neg ha).trans ((if_neg hb_).trans (if_neg hc_))] at k
          exact k)
  have pre5 : ∀ t, Steps p.tables e below (s₁.setTop (mkF m 62 #[.val (.int p1), .val (.int p2), .val (.int p3), .val (.int p4), .val (.int (own_ls p3 p4 (own_ls p2 p4 (own_ls p1 p4 (-1 : Int32)))))] [(.int (own_ls p3 p4 (own_ls p2 p4 (own_ls p1 p4 (-1 : Int32)))))])) t → Steps p.tables e below (s₁.setTop (entryFrame m #[(.int p1), (.int p2), (.int p3), (.int p4)] 5)) t := fun t k => pre4 t (by
    show Steps p.tables e below (s₁.setTop (mkF m 60 #[.val (.int p1), .val (.int p2), .val (.int p3), .val (.int p4), .val (.int (own_ls p3 p4 (own_ls p2 p4 (own_ls p1 p4 (-1 : Int32)))))] [])) _
    refine XS.iload X0.here hx rfl (hb hby d10_60) rfl ?_
    show Steps p.tables e below (s₁.setTop (mkF m 62 #[.val (.int p1), .val (.int p2), .val (.int p3), .val (.int p4), .val (.int (own_ls p3 p4 (own_ls p2 p4 (own_ls p1 p4 (-1 : Int32)))))] [(.int (own_ls p3 p4 (own_ls p2 p4 (own_ls p1 p4 (-1 : Int32)))))])) _
    exact k)
  obtain ⟨fs, hr, hrun, hended, hW, hsame⟩ := X0.leave (v := some (.int (own_ls p3 p4 (own_ls p2 p4 (own_ls p1 p4 (-1 : Int32)))))) (fun h => by rw [Bd.returns] at h; cases h)
  refine ⟨_, _, pre5 _ ?_, hrun, hended, _, _, rfl, ?_, ⟨_, rfl⟩, hW, hsame.mono (by decide) (by decide)⟩
  · show Steps p.tables e below (s₁.setTop (mkF m 62 #[.val (.int p1), .val (.int p2), .val (.int p3), .val (.int p4), .val (.int (own_ls p3 p4 (own_ls p2 p4 (own_ls p1 p4 (-1 : Int32)))))] [(.int (own_ls p3 p4 (own_ls p2 p4 (own_ls p1 p4 (-1 : Int32)))))])) _
    exact retI X0 hx Bd.returns (hb hby d10_62) hr
  · show Q10 Z p1 p2 p3 p4 h0 n0 _ s₁.heap _
    rw [e0]
    exact ⟨rfl, N0, rfl⟩
theorem pn_0 : plainName "com/example/berchta/berchta/learn/NodeSetRemovePinLaw" = true := by first | (simp [plainName, overriddenIn]; done) | decide +kernel
theorem ef_0 (m : MethodId) (x0 : Int32) (x1 : Int32) (x2 : Int32) (x3 : Int32) (x4 : Int32) : entryFrame m #[(.int x0), (.int x1), (.int x2), (.int x3), (.int x4)] maxLocals = mkF m 0 #[.val (.int x0), .val (.int x1), .val (.int x2), .val (.int x3), .val (.int x4), .unset, .unset, .unset, .unset, .unset, .unset, .unset, .unset, .unset] [] := by first | (simp [entryFrame, mkF, argsToLocals, Value.category, maxLocals]; done) | rfl
def Q0 (Z : State) (p1 p2 p3 p4 p5 : Int32) (h0 : Heap) (n0 : Nat) (v : Option Value) (h : Heap) (L : List Loc) : Prop := v = some (.int (1 : Int32)) ∧ Fr n0 L
set_option maxRecDepth 65536 in
set_option maxHeartbeats 40000000 in
theorem rm0 (l : Launch) (Z : State) (a0 : Array Value) (hw : ∀ d ∈ tables_1, d.before a0 Z = true) (ws : List Jvm.Cond) (p1 p2 p3 p4 p5 : Int32) (h0 : Heap) (n0 : Nat) (Z0 : n0 ≤ h0.size) :
    MetFree l x (head1 (Jvm.Cond.code x code maxLocals ret :: ws) room_1) (fun a U => a = #[(.int p1), (.int p2), (.int p3), (.int p4), (.int p5)] ∧ Z.Warmed39 U.vm ∧ U.heap = h0) (fun _ _ _ _ _ => True) (fun _ U o U' => ∃ v L, o = .returned v ∧ Q0 Z p1 p2 p3 p4 p5 h0 n0 v U'.heap L ∧ FrameEnd U o U' L room_1.cells room_1.slots) := by
  refine MetFree.of_bodySF (plainFor_of_name pn_0) hisR ?_
  intro p e s m args below meth c s₁ Bd hml0 hP hK
  obtain ⟨rfl, hZ, hh⟩ := hP
  have hx := Bd.exec
  have hby := Bd.bytes
  have hml : c.maxLocals = 14 := hml0
  have hown : s.vm.findClass "com/example/berchta/berchta/learn/NodeSetRemovePinLaw" = some m.cls := findClass_of_methodNamed Bd.named
  have hnm := (name_of_methodNamed Bd.named Bd.method).1
  have X0 : Stand p l e room_1 s m #[(.int p1), (.int p2), (.int p3), (.int p4), (.int p5)] below meth c s₁ [] 0 0 := Stand.of_body Bd
  have e0 : s₁.heap = h0 := by rw [← hh, Bd.state]; rfl
  have N0 := Fr.nil n0
  have pre0 : ∀ t, Steps p.tables e below (s₁.setTop (mkF m 0 #[.val (.int p1), .val (.int p2), .val (.int p3), .val (.int p4), .val (.int p5), .unset, .unset, .unset, .unset, .unset, .unset, .unset, .unset, .unset] [])) t → Steps p.tables e below (s₁.setTop (entryFrame m #[(.int p1), (.int p2), (.int p3), (.int p4), (.int p5)] maxLocals)) t := fun t k => castTop (ef_0 m p1 p2 p3 p4 p5) k
  have KK0 : Keep h0 h0 [] := Keep.refl h0 []
  have pre1 : ∀ t, Steps p.tables e below (s₁.setTop (mkF m 4 #[.val (.int p1), .val (.int p2), .val (.int p3), .val (.int p4), .val (.int p5), .unset, .unset, .unset, .unset, .unset, .unset, .unset, .unset, .unset] [(.int (p5 &&& (1 : Int32)))])) t → Steps p.tables e below (s₁.setTop (entryFrame m #[(.int p1), (.int p2), (.int p3), (.int p4), (.int p5)] maxLocals)) t := fun t k => pre0 t (by
    show Steps p.tables e below (s₁.setTop (mkF m 0 #[.val (.int p1), .val (.int p2), .val (.int p3), .val (.int p4), .val (.int p5), .unset, .unset, .unset, .unset, .unset, .unset, .unset, .unset, .unset] [])) _
    refine XS.iload X0.here hx rfl (hb hby at_0) rfl ?_
    show Steps p.tables e below (s₁.setTop (mkF m 2 #[.val (.int p1), .val (.int p2), .val (.int p3), .val (.int p4), .val (.int p5), .unset, .unset, .unset, .unset, .unset, .unset, .unset, .unset, .unset] [(.int p5)])) _
    refine XS.iconst X0.here hx rfl (hb hby at_2) ?_
    show Steps p.tables e below (s₁.setTop (mkF m 3 #[.val (.int p1), .val (.int p2), .val (.int p3), .val (.int p4), .val (.int p5), .unset, .unset, .unset, .unset, .unset, .unset, .unset, .unset, .unset] [(.int (1 : Int32)), (.int p5)])) _
    refine XS.iand X0.here hx rfl (hb hby at_3) rfl ?_
    show Steps p.tables e below (s₁.setTop (mkF m 4 #[.val (.int p1), .val (.int p2), .val (.int p3), .val (.int p4), .val (.int p5), .unset, .unset, .unset, .unset, .unset, .unset, .unset, .unset, .unset] [(.int (p5 &&& (1 : Int32)))])) _
    exact k)
  have pre2 : ∀ t, Steps p.tables e below (s₁.setTop (mkF m 16 #[.val (.int p1), .val (.int p2), .val (.int p3), .val (.int p4), .val (.int p5), .unset, .unset, .unset, .unset, .unset, .unset, .unset, .unset, .unset] [(.int (own_mask p5))])) t → Steps p.tables e below (s₁.setTop (entryFrame m #[(.int p1), (.int p2), (.int p3), (.int p4), (.int p5)] maxLocals)) t := fun t k => pre1 t (by
    by_cases hc : p5 &&& (1 : Int32) = (0 : Int32)
    · skip
      show Steps p.tables e below (s₁.setTop (mkF m 4 #[.val (.int p1), .val (.int p2), .val (.int p3), .val (.int p4), .val (.int p5), .unset, .unset, .unset, .unset, .unset, .unset, .unset, .unset, .unset] [(.int (p5 &&& (1 : Int32)))])) _
      refine XS.ifYes X0.here hx rfl (pc0 := 4) (pc' := 13) rfl (hb hby at_4) rfl ((if0 _ _).trans (teq hc).1) (by decide) (by decide) ?_
      show Steps p.tables e below (s₁.setTop (mkF m 13 #[.val (.int p1), .val (.int p2), .val (.int p3), .val (.int p4), .val (.int p5), .unset, .unset, .unset, .unset, .unset, .unset, .unset, .unset, .unset] [])) _
      refine XS.sipush X0.here hx rfl (hb hby at_13) ?_
      show Steps p.tables e below (s₁.setTop (mkF m 16 #[.val (.int p1), .val (.int p2), .val (.int p3), .val (.int p4), .val (.int p5), .unset, .unset, .unset, .unset, .unset, .unset, .unset, .unset, .unset] [(.int (255 : Int32))])) _
      rw [show own_mask p5 = (255 : Int32) from if_pos hc] at k
      exact k
    · skip
      show Steps p.tables e below (s₁.setTop (mkF m 4 #[.val (.int p1), .val (.int p2), .val (.int p3), .val (.int p4), .val (.int p5), .unset, .unset, .unset, .unset, .unset, .unset, .unset, .unset, .unset] [(.int (p5 &&& (1 : Int32)))])) _
      refine XS.ifNo X0.here hx rfl (hb hby at_4) rfl ((if0 _ _).trans (feq hc).1) ?_
      show Steps p.tables e below (s₁.setTop (mkF m 7 #[.val (.int p1), .val (.int p2), .val (.int p3), .val (.int p4), .val (.int p5), .unset, .unset, .unset, .unset, .unset, .unset, .unset, .unset, .unset] [])) _
      refine XS.sipush X0.here hx rfl (hb hby at_7) ?_
      show Steps p.tables e below (s₁.setTop (mkF m 10 #[.val (.int p1), .val (.int p2), .val (.int p3), .val (.int p4), .val (.int p5), .unset, .unset, .unset, .unset, .unset, .unset, .unset, .unset, .unset] [(.int (8191 : Int32))])) _
      refine XS.goto X0.here hx rfl (pc0 := 10) (pc' := 16) rfl (hb hby at_10) (by decide) (by decide) ?_
      show Steps p.tables e below (s₁.setTop (mkF m 16 #[.val (.int p1), .val (.int p2), .val (.int p3), .val (.int p4), .val (.int p5), .unset, .unset, .unset, .unset, .unset, .unset, .unset, .unset, .unset] [(.int (8191 : Int32))])) _
      rw [show own_mask p5 = (8191 : Int32) from if_neg hc] at k
      exact k)
  have pre3 : ∀ t, Steps p.tables e below (s₁.setTop (mkF m 46 #[.val (.int p1), .val (.int p2), .val (.int p3), .val (.int p4), .val (.int p5), .val (.int (own_mask p5)), .val (.int (own_mx p1 p5)), .val (.int (own_mx p2 p5)), .val (.int (own_mx p3 p5)), .val (.int (own_md p5)), .unset, .unset, .unset, .unset] [(.int (own_md p5))])) t → Steps p.tables e below (s₁.setTop (entryFrame m #[(.int p1), (.int p2), (.int p3), (.int p4), (.int p5)] maxLocals)) t := fun t k => pre2 t (by
    show Steps p.tables e below (s₁.setTop (mkF m 16 #[.val (.int p1), .val (.int p2), .val (.int p3), .val (.int p4), .val (.int p5), .unset, .unset, .unset, .unset, .unset, .unset, .unset, .unset, .unset] [(.int (own_mask p5))])) _
    refine XS.istore X0.here hx rfl (hb hby at_16) rfl (l' := #[.val (.int p1), .val (.int p2), .val (.int p3), .val (.int p4), .val (.int p5), .val (.int (own_mask p5)), .unset, .unset, .unset, .unset, .unset, .unset, .unset, .unset]) rfl ?_
    show Steps p.tables e below (s₁.setTop (mkF m 18 #[.val (.int p1), .val (.int p2), .val (.int p3), .val (.int p4), .val (.int p5), .val (.int (own_mask p5)), .unset, .unset, .unset, .unset, .unset, .unset, .unset, .unset] [])) _
    refine XS.iloadN X0.here hx rfl (hb hby at_18) rfl ?_
    show Steps p.tables e below (s₁.setTop (mkF m 19 #[.val (.int p1), .val (.int p2), .val (.int p3), .val (.int p4), .val (.int p5), .val (.int (own_mask p5)), .unset, .unset, .unset, .unset, .unset, .unset, .unset, .unset] [(.int p1)])) _
    refine XS.iload X0.here hx rfl (hb hby at_19) rfl ?_
    show Steps p.tables e below (s₁.setTop (mkF m 21 #[.val (.int p1), .val (.int p2), .val (.int p3), .val (.int p4), .val (.int p5), .val (.int (own_mask p5)), .unset, .unset, .unset, .unset, .unset, .unset, .unset, .unset] [(.int (own_mask p5)), (.int p1)])) _
    refine XS.iand X0.here hx rfl (hb hby at_21) rfl ?_
    show Steps p.tables e below (s₁.setTop (mkF m 22 #[.val (.int p1), .val (.int p2), .val (.int p3), .val (.int p4), .val (.int p5), .val (.int (own_mask p5)), .unset, .unset, .unset, .unset, .unset, .unset, .unset, .unset] [(.int (p1 &&& (own_mask p5)))])) _
    refine XS.istore X0.here hx rfl (hb hby at_22) rfl (l' := #[.val (.int p1), .val (.int p2), .val (.int p3), .val (.int p4), .val (.int p5), .val (.int (own_mask p5)), .val (.int (own_mx p1 p5)), .unset, .unset, .unset, .unset, .unset, .unset, .unset]) rfl ?_
    show Steps p.tables e below (s₁.setTop (mkF m 24 #[.val (.int p1), .val (.int p2), .val (.int p3), .val (.int p4), .val (.int p5), .val (.int (own_mask p5)), .val (.int (own_mx p1 p5)), .unset, .unset, .unset, .unset, .unset, .unset, .unset] [])) _
    refine XS.iloadN X0.here hx rfl (hb hby at_24) rfl ?_
    show Steps p.tables e below (s₁.setTop (mkF m 25 #[.val (.int p1), .val (.int p2), .val (.int p3), .val (.int p4), .val (.int p5), .val (.int (own_mask p5)), .val (.int (own_mx p1 p5)), .unset, .unset, .unset, .unset, .unset, .unset, .unset] [(.int p2)])) _
    refine XS.iload X0.here hx rfl (hb hby at_25) rfl ?_
    show Steps p.tables e below (s₁.setTop (mkF m 27 #[.val (.int p1), .val (.int p2), .val (.int p3), .val (.int p4), .val (.int p5), .val (.int (own_mask p5)), .val (.int (own_mx p1 p5)), .unset, .unset, .unset, .unset, .unset, .unset, .unset] [(.int (own_mask p5)), (.int p2)])) _
    refine XS.iand X0.here hx rfl (hb hby at_27) rfl ?_
    show Steps p.tables e below (s₁.setTop (mkF m 28 #[.val (.int p1), .val (.int p2), .val (.int p3), .val (.int p4), .val (.int p5), .val (.int (own_mask p5)), .val (.int (own_mx p1 p5)), .unset, .unset, .unset, .unset, .unset, .unset, .unset] [(.int (p2 &&& (own_mask p5)))])) _
    refine XS.istore X0.here hx rfl (hb hby at_28) rfl (l' := #[.val (.int p1), .val (.int p2), .val (.int p3), .val (.int p4), .val (.int p5), .val (.int (own_mask p5)), .val (.int (own_mx p1 p5)), .val (.int (own_mx p2 p5)), .unset, .unset, .unset, .unset, .unset, .unset]) rfl ?_
    show Steps p.tables e below (s₁.setTop (mkF m 30 #[.val (.int p1), .val (.int p2), .val (.int p3), .val (.int p4), .val (.int p5), .val (.int (own_mask p5)), .val (.int (own_mx p1 p5)), .val (.int (own_mx p2 p5)), .unset, .unset, .unset, .unset, .unset, .unset] [])) _
    refine XS.iloadN X0.here hx rfl (hb hby at_30) rfl ?_
    show Steps p.tables e below (s₁.setTop (mkF m 31 #[.val (.int p1), .val (.int p2), .val (.int p3), .val (.int p4), .val (.int p5), .val (.int (own_mask p5)), .val (.int (own_mx p1 p5)), .val (.int (own_mx p2 p5)), .unset, .unset, .unset, .unset, .unset, .unset] [(.int p3)])) _
    refine XS.iload X0.here hx rfl (hb hby at_31) rfl ?_
    show Steps p.tables e below (s₁.setTop (mkF m 33 #[.val (.int p1), .val (.int p2), .val (.int p3), .val (.int p4), .val (.int p5), .val (.int (own_mask p5)), .val (.int (own_mx p1 p5)), .val (.int (own_mx p2 p5)), .unset, .unset, .unset, .unset, .unset, .unset] [(.int (own_mask p5)), (.int p3)])) _
    refine XS.iand X0.here hx rfl (hb hby at_33) rfl ?_
    show Steps p.tables e below (s₁.setTop (mkF m 34 #[.val (.int p1), .val (.int p2), .val (.int p3), .val (.int p4), .val (.int p5), .val (.int (own_mask p5)), .val (.int (own_mx p1 p5)), .val (.int (own_mx p2 p5)), .unset, .unset, .unset, .unset, .unset, .unset] [(.int (p3 &&& (own_mask p5)))])) _
    refine XS.istore X0.here hx rfl (hb hby at_34) rfl (l' := #[.val (.int p1), .val (.int p2), .val (.int p3), .val (.int p4), .val (.int p5), .val (.int (own_mask p5)), .val (.int (own_mx p1 p5)), .val (.int (own_mx p2 p5)), .val (.int (own_mx p3 p5)), .unset, .unset, .unset, .unset, .unset]) rfl ?_
    show Steps p.tables e below (s₁.setTop (mkF m 36 #[.val (.int p1), .val (.int p2), .val (.int p3), .val (.int p4), .val (.int p5), .val (.int (own_mask p5)), .val (.int (own_mx p1 p5)), .val (.int (own_mx p2 p5)), .val (.int (own_mx p3 p5)), .unset, .unset, .unset, .unset, .unset] [])) _
    refine XS.iload X0.here hx rfl (hb hby at_36) rfl ?_
    show Steps p.tables e below (s₁.setTop (mkF m 38 #[.val (.int p1), .val (.int p2), .val (.int p3), .val (.int p4), .val (.int p5), .val (.int (own_mask p5)), .val (.int (own_mx p1 p5)), .val (.int (own_mx p2 p5)), .val (.int (own_mx p3 p5)), .unset, .unset, .unset, .unset, .unset] [(.int p5)])) _
    refine XS.iconst X0.here hx rfl (hb hby at_38) ?_
    show Steps p.tables e below (s₁.setTop (mkF m 39 #[.val (.int p1), .val (.int p2), .val (.int p3), .val (.int p4), .val (.int p5), .val (.int (own_mask p5)), .val (.int (own_mx p1 p5)), .val (.int (own_mx p2 p5)), .val (.int (own_mx p3 p5)), .unset, .unset, .unset, .unset, .unset] [(.int (1 : Int32)), (.int p5)])) _
    refine XS.iushr X0.here hx rfl (hb hby at_39) rfl ?_
    show Steps p.tables e below (s₁.setTop (mkF m 40 #[.val (.int p1), .val (.int p2), .val (.int p3), .val (.int p4), .val (.int p5), .val (.int (own_mask p5)), .val (.int (own_mx p1 p5)), .val (.int (own_mx p2 p5)), .val (.int (own_mx p3 p5)), .unset, .unset, .unset, .unset, .unset] [(.int ((p5.toUInt32 >>> ((1 : Int32) &&& 31).toUInt32).toInt32))])) _
    refine XS.iconst X0.here hx rfl (hb hby at_40) ?_
    show Steps p.tables e below (s₁.setTop (mkF m 41 #[.val (.int p1), .val (.int p2), .val (.int p3), .val (.int p4), .val (.int p5), .val (.int (own_mask p5)), .val (.int (own_mx p1 p5)), .val (.int (own_mx p2 p5)), .val (.int (own_mx p3 p5)), .unset, .unset, .unset, .unset, .unset] [(.int (3 : Int32)), (.int ((p5.toUInt32 >>> ((1 : Int32) &&& 31).toUInt32).toInt32))])) _
    refine XS.iand X0.here hx rfl (hb hby at_41) rfl ?_
    show Steps p.tables e below (s₁.setTop (mkF m 42 #[.val (.int p1), .val (.int p2), .val (.int p3), .val (.int p4), .val (.int p5), .val (.int (own_mask p5)), .val (.int (own_mx p1 p5)), .val (.int (own_mx p2 p5)), .val (.int (own_mx p3 p5)), .unset, .unset, .unset, .unset, .unset] [(.int (((p5.toUInt32 >>> ((1 : Int32) &&& 31).toUInt32).toInt32) &&& (3 : Int32)))])) _
    refine XS.istore X0.here hx rfl (hb hby at_42) rfl (l' := #[.val (.int p1), .val (.int p2), .val (.int p3), .val (.int p4), .val (.int p5), .val (.int (own_mask p5)), .val (.int (own_mx p1 p5)), .val (.int (own_mx p2 p5)), .val (.int (own_mx p3 p5)), .val (.int (own_md p5)), .unset, .unset, .unset, .unset]) rfl ?_
    show Steps p.tables e below (s₁.setTop (mkF m 44 #[.val (.int p1), .val (.int p2), .val (.int p3), .val (.int p4), .val (.int p5), .val (.int (own_mask p5)), .val (.int (own_mx p1 p5)), .val (.int (own_mx p2 p5)), .val (.int (own_mx p3 p5)), .val (.int (own_md p5)), .unset, .unset, .unset, .unset] [])) _
    refine XS.iload X0.here hx rfl (hb hby at_44) rfl ?_
    show Steps p.tables e below (s₁.setTop (mkF m 46 #[.val (.int p1), .val (.int p2), .val (.int p3), .val (.int p4), .val (.int p5), .val (.int (own_mask p5)), .val (.int (own_mx p1 p5)), .val (.int (own_mx p2 p5)), .val (.int (own_mx p3 p5)), .val (.int (own_md p5)), .unset, .unset, .unset, .unset] [(.int (own_md p5))])) _
    exact k)
  have pre4 : ∀ t, Steps p.tables e below (s₁.setTop (mkF m 90 #[.val (.int p1), .val (.int p2), .val (.int p3), .val (.int p4), .val (.int p5), .val (.int (own_mask p5)), .val (.int (own_mx p1 p5)), .val (.int (own_mx p2 p5)), .val (.int (own_mx p3 p5)), .val (.int (own_md p5)), .val (.int (own_t p1 p2 p4 p5)), .unset, .unset, .unset] [])) t → Steps p.tables e below (s₁.setTop (entryFrame m #[(.int p1), (.int p2), (.int p3), (.int p4), (.int p5)] maxLocals)) t := fun t k => pre3 t (by
    by_cases h0 : own_md p5 = (0 : Int32)
    · skip
      show Steps p.tables e below (s₁.setTop (mkF m 46 #[.val (.int p1), .val (.int p2), .val (.int p3), .val (.int p4), .val (.int p5), .val (.int (own_mask p5)), .val (.int (own_mx p1 p5)), .val (.int (own_mx p2 p5)), .val (.int (own_mx p3 p5)), .val (.int (own_md p5)), .unset, .unset, .unset, .unset] [(.int (own_md p5))])) _
      refine XS.ifNo X0.here hx rfl (hb hby at_46) rfl ((if0 _ _).trans (teq h0).2) ?_
      show Steps p.tables e below (s₁.setTop (mkF m 49 #[.val (.int p1), .val (.int p2), .val (.int p3), .val (.int p4), .val (.int p5), .val (.int (own_mask p5)), .val (.int (own_mx p1 p5)), .val (.int (own_mx p2 p5)), .val (.int (own_mx p3 p5)), .val (.int (own_md p5)), .unset, .unset, .unset, .unset] [])) _
      refine XS.iload X0.here hx rfl (hb hby at_49) rfl ?_
      show Steps p.tables e below (s₁.setTop (mkF m 51 #[.val (.int p1), .val (.int p2), .val (.int p3), .val (.int p4), .val (.int p5), .val (.int (own_mask p5)), .val (.int (own_mx p1 p5)), .val (.int (own_mx p2 p5)), .val (.int (own_mx p3 p5)), .val (.int (own_md p5)), .unset, .unset, .unset, .unset] [(.int (own_mx p1 p5))])) _
      refine XS.istore X0.here hx rfl (hb hby at_51) rfl (l' := #[.val (.int p1), .val (.int p2), .val (.int p3), .val (.int p4), .val (.int p5), .val (.int (own_mask p5)), .val (.int (own_mx p1 p5)), .val (.int (own_mx p2 p5)), .val (.int (own_mx p3 p5)), .val (.int (own_md p5)), .val (.int (own_mx p1 p5)), .unset, .unset, .unset]) rfl ?_
      show Steps p.tables e below (s₁.setTop (mkF m 53 #[.val (.int p1), .val (.int p2), .val (.int p3), .val (.int p4), .val (.int p5), .val (.int (own_mask p5)), .val (.int (own_mx p1 p5)), .val (.int (own_mx p2 p5)), .val (.int (own_mx p3 p5)), .val (.int (own_md p5)), .val (.int (own_mx p1 p5)), .unset, .unset, .unset] [])) _
      refine XS.goto X0.here hx rfl (pc0 := 53) (pc' := 90) rfl (hb hby at_53) (by decide) (by decide) ?_
      show Steps p.tables e below (s₁.setTop (mkF m 90 #[.val (.int p1), .val (.int p2), .val (.int p3), .val (.int p4), .val (.int p5), .val (.int (own_mask p5)), .val (.int (own_mx p1 p5)), .val (.int (own_mx p2 p5)), .val (.int (own_mx p3 p5)), .val (.int (own_md p5)), .val (.int (own_mx p1 p5)), .unset, .unset, .unset] [])) _
      rw [show (own_t p1 p2 p4 p5) = (own_mx p1 p5) from if_pos h0] at k
      exact k
    · skip
      by_cases h1 : own_md p5 = (1 : Int32)
      · skip
        show Steps p.tables e below (s₁.setTop (mkF m 46 #[.val (.int p1), .val (.int p2), .val (.int p3), .val (.int p4), .val (.int p5), .val (.int (own_mask p5)), .val (.int (own_mx p1 p5)), .val (.int (own_mx p2 p5)), .val (.int (own_mx p3 p5)), .val (.int (own_md p5)), .unset, .unset, .unset, .unset] [(.int (own_md p5))])) _
        refine XS.ifYes X0.here hx rfl (pc0 := 46) (pc' := 56) rfl (hb hby at_46) rfl ((if0 _ _).trans (feq h0).2) (by decide) (by decide) ?_
        show Steps p.tables e below (s₁.setTop (mkF m 56 #[.val (.int p1), .val (.int p2), .val (.int p3), .val (.int p4), .val (.int p5), .val (.int (own_mask p5)), .val (.int (own_mx p1 p5)), .val (.int (own_mx p2 p5)), .val (.int (own_mx p3 p5)), .val (.int (own_md p5)), .unset, .unset, .unset, .unset] [])) _
        refine XS.iload X0.here hx rfl (hb hby at_56) rfl ?_
        show Steps p.tables e below (s₁.setTop (mkF m 58 #[.val (.int p1), .val (.int p2), .val (.int p3), .val (.int p4), .val (.int p5), .val (.int (own_mask p5)), .val (.int (own_mx p1 p5)), .val (.int (own_mx p2 p5)), .val (.int (own_mx p3 p5)), .val (.int (own_md p5)), .unset, .unset, .unset, .unset] [(.int (own_md p5))])) _
        refine XS.iconst X0.here hx rfl (hb hby at_58) ?_
        show Steps p.tables e below (s₁.setTop (mkF m 59 #[.val (.int p1), .val (.int p2), .val (.int p3), .val (.int p4), .val (.int p5), .val (.int (own_mask p5)), .val (.int (own_mx p1 p5)), .val (.int (own_mx p2 p5)), .val (.int (own_mx p3 p5)), .val (.int (own_md p5)), .unset, .unset, .unset, .unset] [(.int (1 : Int32)), (.int (own_md p5))])) _
        refine XS.icmpNo X0.here hx rfl (hb hby at_59) rfl (teq h1).2 ?_
        show Steps p.tables e below (s₁.setTop (mkF m 62 #[.val (.int p1), .val (.int p2), .val (.int p3), .val (.int p4), .val (.int p5), .val (.int (own_mask p5)), .val (.int (own_mx p1 p5)), .val (.int (own_mx p2 p5)), .val (.int (own_mx p3 p5)), .val (.int (own_md p5)), .unset, .unset, .unset, .unset] [])) _
        refine XS.iload X0.here hx rfl (hb hby at_62) rfl ?_
        show Steps p.tables e below (s₁.setTop (mkF m 64 #[.val (.int p1), .val (.int p2), .val (.int p3), .val (.int p4), .val (.int p5), .val (.int (own_mask p5)), .val (.int (own_mx p1 p5)), .val (.int (own_mx p2 p5)), .val (.int (own_mx p3 p5)), .val (.int (own_md p5)), .unset, .unset, .unset, .unset] [(.int (own_mx p2 p5))])) _
        refine XS.istore X0.here hx rfl (hb hby at_64) rfl (l' := #[.val (.int p1), .val (.int p2), .val (.int p3), .val (.int p4), .val (.int p5), .val (.int (own_mask p5)), .val (.int (own_mx p1 p5)), .val (.int (own_mx p2 p5)), .val (.int (own_mx p3 p5)), .val (.int (own_md p5)), .val (.int (own_mx p2 p5)), .unset, .unset, .unset]) rfl ?_
        show Steps p.tables e below (s₁.setTop (mkF m 66 #[.val (.int p1), .val (.int p2), .val (.int p3), .val (.int p4), .val (.int p5), .val (.int (own_mask p5)), .val (.int (own_mx p1 p5)), .val (.int (own_mx p2 p5)), .val (.int (own_mx p3 p5)), .val (.int (own_md p5)), .val (.int (own_mx p2 p5)), .unset, .unset, .unset] [])) _
        refine XS.goto X0.here hx rfl (pc0 := 66) (pc' := 90) rfl (hb hby at_66) (by decide) (by decide) ?_
        show Steps p.tables e below (s₁.setTop (mkF m 90 #[.val (.int p1), .val (.int p2), .val (.int p3), .val (.int p4), .val (.int p5), .val (.int (own_mask p5)), .val (.int (own_mx p1 p5)), .val (.int (own_mx p2 p5)), .val (.int (own_mx p3 p5)), .val (.int (own_md p5)), .val (.int (own_mx p2 p5)), .unset, .unset, .unset] [])) _
        rw [show (own_t p1 p2 p4 p5) = (own_mx p2 p5) from (if_neg h0).trans (if_pos h1)] at k
        exact k
      · skip
        by_cases h2 : own_md p5 = (2 : Int32)
        · skip
          show Steps p.tables e below (s₁.setTop (mkF m 46 #[.val (.int p1), .val (.int p2), .val (.int p3), .val (.int p4), .val (.int p5), .val (.int (own_mask p5)), .val (.int (own_mx p1 p5)), .val (.int (own_mx p2 p5)), .val (.int (own_mx p3 p5)), .val (.int (own_md p5)), .unset, .unset, .unset, .unset] [(.int (own_md p5))])) _
          refine XS.ifYes X0.here hx rfl (pc0 := 46) (pc' := 56) rfl (hb hby at_46) rfl ((if0 _ _).trans (feq h0).2) (by decide) (by decide) ?_
          show Steps p.tables e below (s₁.setTop (mkF m 56 #[.val (.int p1), .val (.int p2), .val (.int p3), .val (.int p4), .val (.int p5), .val (.int (own_mask p5)), .val (.int (own_mx p1 p5)), .val (.int (own_mx p2 p5)), .val (.int (own_mx p3 p5)), .val (.int (own_md p5)), .unset, .unset, .unset, .unset] [])) _
          refine XS.iload X0.here hx rfl (hb hby at_56) rfl ?_
          show Steps p.tables e below (s₁.setTop (mkF m 58 #[.val (.int p1), .val (.int p2), .val (.int p3), .val (.int p4), .val (.int p5), .val (.int (own_mask p5)), .val (.int (own_mx p1 p5)), .val (.int (own_mx p2 p5)), .val (.int (own_mx p3 p5)), .val (.int (own_md p5)), .unset, .unset, .unset, .unset] [(.int (own_md p5))])) _
          refine XS.iconst X0.here hx rfl (hb hby at_58) ?_
          show Steps p.tables e below (s₁.setTop (mkF m 59 #[.val (.int p1), .val (.int p2), .val (.int p3), .val (.int p4), .val (.int p5), .val (.int (own_mask p5)), .val (.int (own_mx p1 p5)), .val (.int (own_mx p2 p5)), .val (.int (own_mx p3 p5)), .val (.int (own_md p5)), .unset, .unset, .unset, .unset] [(.int (1 : Int32)), (.int (own_md p5))])) _
          refine XS.icmpYes X0.here hx rfl (pc0 := 59) (pc' := 69) rfl (hb hby at_59) rfl (feq h1).2 (by decide) (by decide) ?_
          show Steps p.tables e below (s₁.setTop (mkF m 69 #[.val (.int p1), .val (.int p2), .val (.int p3), .val (.int p4), .val (.int p5), .val (.int (own_mask p5)), .val (.int (own_mx p1 p5)), .val (.int (own_mx p2 p5)), .val (.int (own_mx p3 p5)), .val (.int (own_md p5)), .unset, .unset, .unset, .unset] [])) _
          refine XS.iload X0.here hx rfl (hb hby at_69) rfl ?_
          show Steps p.tables e below (s₁.setTop (mkF m 71 #[.val (.int p1), .val (.int p2), .val (.int p3), .val (.int p4), .val (.int p5), .val (.int (own_mask p5)), .val (.int (own_mx p1 p5)), .val (.int (own_mx p2 p5)), .val (.int (own_mx p3 p5)), .val (.int (own_md p5)), .unset, .unset, .unset, .unset] [(.int (own_md p5))])) _
          refine XS.iconst X0.here hx rfl (hb hby at_71) ?_
          show Steps p.tables e below (s₁.setTop (mkF m 72 #[.val (.int p1), .val (.int p2), .val (.int p3), .val (.int p4), .val (.int p5), .val (.int (own_mask p5)), .val (.int (own_mx p1 p5)), .val (.int (own_mx p2 p5)), .val (.int (own_mx p3 p5)), .val (.int (own_md p5)), .unset, .unset, .unset, .unset] [(.int (2 : Int32)), (.int (own_md p5))])) _
          refine XS.icmpNo X0.here hx rfl (hb hby at_72) rfl (teq h2).2 ?_
          show Steps p.tables e below (s₁.setTop (mkF m 75 #[.val (.int p1), .val (.int p2), .val (.int p3), .val (.int p4), .val (.int p5), .val (.int (own_mask p5)), .val (.int (own_mx p1 p5)), .val (.int (own_mx p2 p5)), .val (.int (own_mx p3 p5)), .val (.int (own_md p5)), .unset, .unset, .unset, .unset] [])) _
          refine XS.iload X0.here hx rfl (hb hby at_75) rfl ?_
          show Steps p.tables e below (s₁.setTop (mkF m 77 #[.val (.int p1), .val (.int p2), .val (.int p3), .val (.int p4), .val (.int p5), .val (.int (own_mask p5)), .val (.int (own_mx p1 p5)), .val (.int (own_mx p2 p5)), .val (.int (own_mx p3 p5)), .val (.int (own_md p5)), .unset, .unset, .unset, .unset] [(.int (own_mx p1 p5))])) _
          refine XS.iloadN X0.here hx rfl (hb hby at_77) rfl ?_
          show Steps p.tables e below (s₁.setTop (mkF m 78 #[.val (.int p1), .val (.int p2), .val (.int p3), .val (.int p4), .val (.int p5), .val (.int (own_mask p5)), .val (.int (own_mx p1 p5)), .val (.int (own_mx p2 p5)), .val (.int (own_mx p3 p5)), .val (.int (own_md p5)), .unset, .unset, .unset, .unset] [(.int p4), (.int (own_mx p1 p5))])) _
          refine XS.bipush X0.here hx rfl (hb hby at_78) ?_
          show Steps p.tables e below (s₁.setTop (mkF m 80 #[.val (.int p1), .val (.int p2), .val (.int p3), .val (.int p4), .val (.int p5), .val (.int (own_mask p5)), .val (.int (own_mx p1 p5)), .val (.int (own_mx p2 p5)), .val (.int (own_mx p3 p5)), .val (.int (own_md p5)), .unset, .unset, .unset, .unset] [(.int (7 : Int32)), (.int p4), (.int (own_mx p1 p5))])) _
          refine XS.iand X0.here hx rfl (hb hby at_80) rfl ?_
          show Steps p.tables e below (s₁.setTop (mkF m 81 #[.val (.int p1), .val (.int p2), .val (.int p3), .val (.int p4), .val (.int p5), .val (.int (own_mask p5)), .val (.int (own_mx p1 p5)), .val (.int (own_mx p2 p5)), .val (.int (own_mx p3 p5)), .val (.int (own_md p5)), .unset, .unset, .unset, .unset] [(.int (p4 &&& (7 : Int32))), (.int (own_mx p1 p5))])) _
          refine XS.ixor X0.here hx rfl (hb hby at_81) rfl ?_
          show Steps p.tables e below (s₁.setTop (mkF m 82 #[.val (.int p1), .val (.int p2), .val (.int p3), .val (.int p4), .val (.int p5), .val (.int (own_mask p5)), .val (.int (own_mx p1 p5)), .val (.int (own_mx p2 p5)), .val (.int (own_mx p3 p5)), .val (.int (own_md p5)), .unset, .unset, .unset, .unset] [(.int ((own_mx p1 p5) ^^^ (p4 &&& (7 : Int32))))])) _
          refine XS.istore X0.here hx rfl (hb hby at_82) rfl (l' := #[.val (.int p1), .val (.int p2), .val (.int p3), .val (.int p4), .val (.int p5), .val (.int (own_mask p5)), .val (.int (own_mx p1 p5)), .val (.int (own_mx p2 p5)), .val (.int (own_mx p3 p5)), .val (.int (own_md p5)), .val (.int ((own_mx p1 p5) ^^^ (p4 &&& (7 : Int32)))), .unset, .unset, .unset]) rfl ?_
          show Steps p.tables e below (s₁.setTop (mkF m 84 #[.val (.int p1), .val (.int p2), .val (.int p3), .val (.int p4), .val (.int p5), .val (.int (own_mask p5)), .val (.int (own_mx p1 p5)), .val (.int (own_mx p2 p5)), .val (.int (own_mx p3 p5)), .val (.int (own_md p5)), .val (.int ((own_mx p1 p5) ^^^ (p4 &&& (7 : Int32)))), .unset, .unset, .unset] [])) _
          refine XS.goto X0.here hx rfl (pc0 := 84) (pc' := 90) rfl (hb hby at_84) (by decide) (by decide) ?_
          show Steps p.tables e below (s₁.setTop (mkF m 90 #[.val (.int p1), .val (.int p2), .val (.int p3), .val (.int p4), .val (.int p5), .val (.int (own_mask p5)), .val (.int (own_mx p1 p5)), .val (.int (own_mx p2 p5)), .val (.int (own_mx p3 p5)), .val (.int (own_md p5)), .val (.int ((own_mx p1 p5) ^^^ (p4 &&& (7 : Int32)))), .unset, .unset, .unset] [])) _
          rw [show (own_t p1 p2 p4 p5) = ((own_mx p1 p5) ^^^ (p4 &&& (7 : Int32))) from (if_neg h0).trans ((if_neg h1).trans (if_pos h2))] at k
          exact k
        · skip
          show Steps p.tables e below (s₁.setTop (mkF m 46 #[.val (.int p1), .val (.int p2), .val (.int p3), .val (.int p4), .val (.int p5), .val (.int (own_mask p5)), .val (.int (own_mx p1 p5)), .val (.int (own_mx p2 p5)), .val (.int (own_mx p3 p5)), .val (.int (own_md p5)), .unset, .unset, .unset, .unset] [(.int (own_md p5))])) _
          refine XS.ifYes X0.here hx rfl (pc0 := 46) (pc' := 56) rfl (hb hby at_46) rfl ((if0 _ _).trans (feq h0).2) (by decide) (by decide) ?_
          show Steps p.tables e below (s₁.setTop (mkF m 56 #[.val (.int p1), .val (.int p2), .val (.int p3), .val (.int p4), .val (.int p5), .val (.int (own_mask p5)), .val (.int (own_mx p1 p5)), .val (.int (own_mx p2 p5)), .val (.int (own_mx p3 p5)), .val (.int (own_md p5)), .unset, .unset, .unset, .unset] [])) _
          refine XS.iload X0.here hx rfl (hb hby at_56) rfl ?_
          show Steps p.tables e below (s₁.setTop (mkF m 58 #[.val (.int p1), .val (.int p2), .val (.int p3), .val (.int p4), .val (.int p5), .val (.int (own_mask p5)), .val (.int (own_mx p1 p5)), .val (.int (own_mx p2 p5)), .val (.int (own_mx p3 p5)), .val (.int (own_md p5)), .unset, .unset, .unset, .unset] [(.int (own_md p5))])) _
          refine XS.iconst X0.here hx rfl (hb hby at_58) ?_
          show Steps p.tables e below (s₁.setTop (mkF m 59 #[.val (.int p1), .val (.int p2), .val (.int p3), .val (.int p4), .val (.int p5), .val (.int (own_mask p5)), .val (.int (own_mx p1 p5)), .val (.int (own_mx p2 p5)), .val (.int (own_mx p3 p5)), .val (.int (own_md p5)), .unset, .unset, .unset, .unset] [(.int (1 : Int32)), (.int (own_md p5))])) _
          refine XS.icmpYes X0.here hx rfl (pc0 := 59) (pc' := 69) rfl (hb hby at_59) rfl (feq h1).2 (by decide) (by decide) ?_
          show Steps p.tables e below (s₁.setTop (mkF m 69 #[.val (.int p1), .val (.int p2), .val (.int p3), .val (.int p4), .val (.int p5), .val (.int (own_mask p5)), .val (.int (own_mx p1 p5)), .val (.int (own_mx p2 p5)), .val (.int (own_mx p3 p5)), .val (.int (own_md p5)), .unset, .unset, .unset, .unset] [])) _
          refine XS.iload X0.here hx rfl (hb hby at_69) rfl ?_
          show Steps p.tables e below (s₁.setTop (mkF m 71 #[.val (.int p1), .val (.int p2), .val (.int p3), .val (.int p4), .val (.int p5), .val (.int (own_mask p5)), .val (.int (own_mx p1 p5)), .val (.int (own_mx p2 p5)), .val (.int (own_mx p3 p5)), .val (.int (own_md p5)), .unset, .unset, .unset, .unset] [(.int (own_md p5))])) _
          refine XS.iconst X0.here hx rfl (hb hby at_71) ?_
          show Steps p.tables e below (s₁.setTop (mkF m 72 #[.val (.int p1), .val (.int p2), .val (.int p3), .val (.int p4), .val (.int p5), .val (.int (own_mask p5)), .val (.int (own_mx p1 p5)), .val (.int (own_mx p2 p5)), .val (.int (own_mx p3 p5)), .val (.int (own_md p5)), .unset, .unset, .unset, .unset] [(.int (2 : Int32)), (.int (own_md p5))])) _
          refine XS.icmpYes X0.here hx rfl (pc0 := 72) (pc' := 87) rfl (hb hby at_72) rfl (feq h2).2 (by decide) (by decide) ?_
          show Steps p.tables e below (s₁.setTop (mkF m 87 #[.val (.int p1), .val (.int p2), .val (.int p3), .val (.int p4), .val (.int p5), .val (.int (own_mask p5)), .val (.int (own_mx p1 p5)), .val (.int (own_mx p2 p5)), .val (.int (own_mx p3 p5)), .val (.int (own_md p5)), .unset, .unset, .unset, .unset] [])) _
          refine XS.iloadN X0.here hx rfl (hb hby at_87) rfl ?_
          show Steps p.tables e below (s₁.setTop (mkF m 88 #[.val (.int p1), .val (.int p2), .val (.int p3), .val (.int p4), .val (.int p5), .val (.int (own_mask p5)), .val (.int (own_mx p1 p5)), .val (.int (own_mx p2 p5)), .val (.int (own_mx p3 p5)), .val (.int (own_md p5)), .unset, .unset, .unset, .unset] [(.int p4)])) _
          refine XS.istore X0.here hx rfl (hb hby at_88) rfl (l' := #[.val (.int p1), .val (.int p2), .val (.int p3), .val (.int p4), .val (.int p5), .val (.int (own_mask p5)), .val (.int (own_mx p1 p5)), .val (.int (own_mx p2 p5)), .val (.int (own_mx p3 p5)), .val (.int (own_md p5)), .val (.int p4), .unset, .unset, .unset]) rfl ?_
          show Steps p.tables e below (s₁.setTop (mkF m 90 #[.val (.int p1), .val (.int p2), .val (.int p3), .val (.int p4), .val (.int p5), .val (.int (own_mask p5)), .val (.int (own_mx p1 p5)), .val (.int (own_mx p2 p5)), .val (.int (own_mx p3 p5)), .val (.int (own_md p5)), .val (.int p4), .unset, .unset, .unset] [])) _
          rw [show (own_t p1 p2 p4 p5) = p4 from (if_neg h0).trans ((if_neg h1).trans (if_neg h2))] at k
          exact k)
  obtain ⟨T5, h5, X5, e5, E5, A5, D5, -, st5⟩ := newO X0 hx hZ hown (hw _ (List.mem_of_getElem? (i := 0) rfl)) (hw _ (List.mem_of_getElem? (i := 1) rfl)) (hw _ (List.mem_of_getElem? (i := 2) rfl)) e0 (g := (mkF m 90 #[.val (.int p1), .val (.int p2), .val (.int p3), .val (.int p4), .val (.int p5), .val (.int (own_mask p5)), .val (.int (own_mx p1 p5)), .val (.int (own_mx p2 p5)), .val (.int (own_mx p3 p5)), .val (.int (own_md p5)), .val (.int (own_t p1 p2 p4 p5)), .unset, .unset, .unset] [])) rfl (hb hby at_90) (by decide) (by decide)
  obtain ⟨ob, ge5⟩ : ∃ z, z = h0.size := ⟨_, rfl⟩
  rw [← ge5] at A5 D5 st5
  have gq5 := Nat.le_of_eq ge5.symm
  have g_ob : n0 ≤ ob := Nat.le_trans Z0 (Nat.le_trans KK0.1 gq5)
  have sz_ob : h0.size ≤ ob := Nat.le_trans KK0.1 gq5
  have KK5 := KK0.ext E5
  have E_ob : Exa Z h5 ob "com/example/berchta/berchta/learn/NodeSet" := A5
  have F_words_ob : Fld Z h5 ob "com/example/berchta/berchta/learn/NodeSet" "words" "[J" .null := D5 (Or.inl (hw _ (List.mem_of_getElem? (i := 11) rfl))) (ty := (.array .long)) (by decide)
  have F_size_ob : Fld Z h5 ob "com/example/berchta/berchta/learn/NodeSet" "size" "I" (.int (0 : Int32)) := D5 (Or.inl (hw _ (List.mem_of_getElem? (i := 18) rfl))) (ty := .int) (by decide)
  have F_filled_ob : Fld Z h5 ob "com/example/berchta/berchta/learn/NodeSet" "filled" "Lcom/example/berchta/berchta/learn/NodeSet;" .null := D5 (Or.inl (hw _ (List.mem_of_getElem? (i := 20) rfl))) (ty := (.object "com/example/berchta/berchta/learn/NodeSet")) (by decide)
  have pre6 : ∀ t, Steps p.tables e below (T5.setTop (mkF m 93 #[.val (.int p1), .val (.int p2), .val (.int p3), .val (.int p4), .val (.int p5), .val (.int (own_mask p5)), .val (.int (own_mx p1 p5)), .val (.int (own_mx p2 p5)), .val (.int (own_mx p3 p5)), .val (.int (own_md p5)), .val (.int (own_t p1 p2 p4 p5)), .unset, .unset, .unset] [(.ref ob)])) t → Steps p.tables e below (s₁.setTop (entryFrame m #[(.int p1), (.int p2), (.int p3), (.int p4), (.int p5)] maxLocals)) t := fun t k => pre4 t (by
    show Steps p.tables e below (s₁.setTop (mkF m 90 #[.val (.int p1), .val (.int p2), .val (.int p3), .val (.int p4), .val (.int p5), .val (.int (own_mask p5)), .val (.int (own_mx p1 p5)), .val (.int (own_mx p2 p5)), .val (.int (own_mx p3 p5)), .val (.int (own_md p5)), .val (.int (own_t p1 p2 p4 p5)), .unset, .unset, .unset] [])) t
    refine st5 _ ?_
    show Steps p.tables e below (T5.setTop (mkF m 93 #[.val (.int p1), .val (.int p2), .val (.int p3), .val (.int p4), .val (.int p5), .val (.int (own_mask p5)), .val (.int (own_mx p1 p5)), .val (.int (own_mx p2 p5)), .val (.int (own_mx p3 p5)), .val (.int (own_md p5)), .val (.int (own_t p1 p2 p4 p5)), .unset, .unset, .unset] [(.ref ob)])) t
    exact k)
  have pre7 : ∀ t, Steps p.tables e below (T5.setTop (mkF m 94 #[.val (.int p1), .val (.int p2), .val (.int p3), .val (.int p4), .val (.int p5), .val (.int (own_mask p5)), .val (.int (own_mx p1 p5)), .val (.int (own_mx p2 p5)), .val (.int (own_mx p3 p5)), .val (.int (own_md p5)), .val (.int (own_t p1 p2 p4 p5)), .unset, .unset, .unset] [(.ref ob), (.ref ob)])) t → Steps p.tables e below (s₁.setTop (entryFrame m #[(.int p1), (.int p2), (.int p3), (.int p4), (.int p5)] maxLocals)) t := fun t k => pre6 t (by
    show Steps p.tables e below (T5.setTop (mkF m 93 #[.val (.int p1), .val (.int p2), .val (.int p3), .val (.int p4), .val (.int p5), .val (.int (own_mask p5)), .val (.int (own_mx p1 p5)), .val (.int (own_mx p2 p5)), .val (.int (own_mx p3 p5)), .val (.int (own_md p5)), .val (.int (own_t p1 p2 p4 p5)), .unset, .unset, .unset] [(.ref ob)])) _
    refine XS.dup X5.here hx rfl (hb hby at_93) rfl rfl ?_
    show Steps p.tables e below (T5.setTop (mkF m 94 #[.val (.int p1), .val (.int p2), .val (.int p3), .val (.int p4), .val (.int p5), .val (.int (own_mask p5)), .val (.int (own_mx p1 p5)), .val (.int (own_mx p2 p5)), .val (.int (own_mx p3 p5)), .val (.int (own_md p5)), .val (.int (own_t p1 p2 p4 p5)), .unset, .unset, .unset] [(.ref ob), (.ref ob)])) _
    exact k)
  obtain ⟨_, _, ⟨T8, L8, k8, n8⟩, -, X8, ⟨Lc8, hQ8, l8, y8, z8⟩, st8⟩ := X5.specialBack hx (y := (⟨"com/example/berchta/berchta/learn/NodeSet", "<init>", "()V"⟩ : MethodName)) rfl hown (mvT hZ (hw _ (List.mem_of_getElem? (i := 3) rfl))) (mvT hZ (hw _ (List.mem_of_getElem? (i := 4) rfl))) (mvT hZ (hw _ (List.mem_of_getElem? (i := 5) rfl))) (by decide) (backOf (W := 1) (rm1 l Z a0 hw [] ob  h5 n0 (Nat.le_trans Z0 KK5.1) E_ob F_words_ob F_filled_ob F_size_ob g_ob) hZ (hw _ (List.mem_of_getElem? (i := 5) rfl)) (hw _ (List.mem_of_getElem? (i := 2) rfl)) (by decide) (by decide)) (g := (mkF m 94 #[.val (.int p1), .val (.int p2), .val (.int p3), .val (.int p4), .val (.int p5), .val (.int (own_mask p5)), .val (.int (own_mx p1 p5)), .val (.int (own_mx p2 p5)), .val (.int (own_mx p3 p5)), .val (.int (own_md p5)), .val (.int (own_t p1 p2 p4 p5)), .unset, .unset, .unset] [(.ref ob), (.ref ob)])) rfl (by rw [hml]; rfl) (Steps.refl _) (a := ob) (argsL := []) (rest := [(.ref ob)]) (lenOf pdx_4 rfl) rfl (by show 2 * 0 + _ ≤ _; exact Nat.le_of_eq rfl) (hb hby at_94) (fun _ _ => ⟨rfl, e5, (by decide : 1 + 1 ≤ _), (by decide : 3 + 1 ≤ _)⟩)
  dsimp only [Pt.U, Pt.locs, Pt.cells, Pt.slots] at X8 l8 y8 z8 st8 hQ8
  subst l8 y8 z8
  obtain ⟨wn, rfl, N8q, s8, K8, E2, Fw2, Ff2, Fs2, V2⟩ := hQ8
  have N8 := Fr.app N0 N8q
  have pre9 : ∀ t, Steps p.tables e below (T8.setTop (mkF m 97 #[.val (.int p1), .val (.int p2), .val (.int p3), .val (.int p4), .val (.int p5), .val (.int (own_mask p5)), .val (.int (own_mx p1 p5)), .val (.int (own_mx p2 p5)), .val (.int (own_mx p3 p5)), .val (.int (own_md p5)), .val (.int (own_t p1 p2 p4 p5)), .unset, .unset, .unset] [(.ref ob)])) t → Steps p.tables e below (s₁.setTop (entryFrame m #[(.int p1), (.int p2), (.int p3), (.int p4), (.int p5)] maxLocals)) t := fun t k => pre7 t (by
    show Steps p.tables e below (T5.setTop (mkF m 94 #[.val (.int p1), .val (.int p2), .val (.int p3), .val (.int p4), .val (.int p5), .val (.int (own_mask p5)), .val (.int (own_mx p1 p5)), .val (.int (own_mx p2 p5)), .val (.int (own_mx p3 p5)), .val (.int (own_md p5)), .val (.int (own_t p1 p2 p4 p5)), .unset, .unset, .unset] [(.ref ob), (.ref ob)])) t
    refine st8.trans ?_
    show Steps p.tables e below (T8.setTop (mkF m 97 #[.val (.int p1), .val (.int p2), .val (.int p3), .val (.int p4), .val (.int p5), .val (.int (own_mask p5)), .val (.int (own_mx p1 p5)), .val (.int (own_mx p2 p5)), .val (.int (own_mx p3 p5)), .val (.int (own_md p5)), .val (.int (own_t p1 p2 p4 p5)), .unset, .unset, .unset] [(.ref ob)])) t
    exact k)
  have o_ob_wn : ob < wn := Nat.lt_of_lt_of_le E_ob.lt s8
  have g_wn : n0 ≤ wn := Nat.le_trans Z0 (Nat.le_trans KK5.1 s8)
  have sz_wn : h0.size ≤ wn := Nat.le_trans KK5.1 s8
  have TP0 : own_top Z T8.heap n0 ob wn 1 (fun _ => 0) 0 .null := ⟨E2, Fw2, Ff2, Fs2, V2, ⟨by decide, by decide⟩, fun _ _ => rfl, fun _ _ => rfl, g_ob, g_wn, Nat.ne_of_lt o_ob_wn, Or.inl ⟨rfl, by decide⟩⟩
  have pre10 : ∀ t, Steps p.tables e below (T8.setTop (mkF m 103 #[.val (.int p1), .val (.int p2), .val (.int p3), .val (.int p4), .val (.int p5), .val (.int (own_mask p5)), .val (.int (own_mx p1 p5)), .val (.int (own_mx p2 p5)), .val (.int (own_mx p3 p5)), .val (.int (own_md p5)), .val (.int (own_t p1 p2 p4 p5)), .val (.ref ob), .unset, .unset] [(.int (own_mx p1 p5)), (.ref ob)])) t → Steps p.tables e below (s₁.setTop (entryFrame m #[(.int p1), (.int p2), (.int p3), (.int p4), (.int p5)] maxLocals)) t := fun t k => pre9 t (by
    show Steps p.tables e below (T8.setTop (mkF m 97 #[.val (.int p1), .val (.int p2), .val (.int p3), .val (.int p4), .val (.int p5), .val (.int (own_mask p5)), .val (.int (own_mx p1 p5)), .val (.int (own_mx p2 p5)), .val (.int (own_mx p3 p5)), .val (.int (own_md p5)), .val (.int (own_t p1 p2 p4 p5)), .unset, .unset, .unset] [(.ref ob)])) _
    refine XS.astore X8.here hx rfl (hb hby at_97) rfl rfl (l' := #[.val (.int p1), .val (.int p2), .val (.int p3), .val (.int p4), .val (.int p5), .val (.int (own_mask p5)), .val (.int (own_mx p1 p5)), .val (.int (own_mx p2 p5)), .val (.int (own_mx p3 p5)), .val (.int (own_md p5)), .val (.int (own_t p1 p2 p4 p5)), .val (.ref ob), .unset, .unset]) rfl ?_
    show Steps p.tables e below (T8.setTop (mkF m 99 #[.val (.int p1), .val (.int p2), .val (.int p3), .val (.int p4), .val (.int p5), .val (.int (own_mask p5)), .val (.int (own_mx p1 p5)), .val (.int (own_mx p2 p5)), .val (.int (own_mx p3 p5)), .val (.int (own_md p5)), .val (.int (own_t p1 p2 p4 p5)), .val (.ref ob), .unset, .unset] [])) _
    refine XS.aload X8.here hx rfl (hb hby at_99) rfl rfl ?_
    show Steps p.tables e below (T8.setTop (mkF m 101 #[.val (.int p1), .val (.int p2), .val (.int p3), .val (.int p4), .val (.int p5), .val (.int (own_mask p5)), .val (.int (own_mx p1 p5)), .val (.int (own_mx p2 p5)), .val (.int (own_mx p3 p5)), .val (.int (own_md p5)), .val (.int (own_t p1 p2 p4 p5)), .val (.ref ob), .unset, .unset] [(.ref ob)])) _
    refine XS.iload X8.here hx rfl (hb hby at_101) rfl ?_
    show Steps p.tables e below (T8.setTop (mkF m 103 #[.val (.int p1), .val (.int p2), .val (.int p3), .val (.int p4), .val (.int p5), .val (.int (own_mask p5)), .val (.int (own_mx p1 p5)), .val (.int (own_mx p2 p5)), .val (.int (own_mx p3 p5)), .val (.int (own_md p5)), .val (.int (own_t p1 p2 p4 p5)), .val (.ref ob), .unset, .unset] [(.int (own_mx p1 p5)), (.ref ob)])) _
    exact k)
  obtain ⟨cq12, kq12, q12a, q12b, q12c⟩ := isOf hZ rfl TP0.1
  obtain ⟨_, _, ⟨T12, L12, k12, n12⟩, -, X12, ⟨Lc12, hQ12, l12, y12, z12⟩, st12⟩ := X8.virtualBack hx (y := (⟨"com/example/berchta/berchta/learn/NodeSet", "add", "(I)V"⟩ : MethodName)) (z := (⟨"com/example/berchta/berchta/learn/NodeSet", "add", "(I)V"⟩ : MethodName)) hown (mvT hZ (hw _ (List.mem_of_getElem? (i := 12) rfl))) (mvT hZ (hw _ (List.mem_of_getElem? (i := 13) rfl))) (notFace_of_selects (args := #[]) (mvT hZ (hw _ (List.mem_of_getElem? (i := 15) rfl)))) (mvT hZ (hw _ (List.mem_of_getElem? (i := 15) rfl))) (mvT hZ (hw _ (List.mem_of_getElem? (i := 14) rfl))) (by decide) (backOf (W := 0) (rmTadd l Z a0 hw [] ob (own_mx p1 p5) wn 1 (fun _ => 0) 0 .null T8.heap n0 (Nat.le_trans g_ob (Nat.le_of_lt TP0.1.lt)) TP0 (own_mx_in _ _).1) hZ (hw _ (List.mem_of_getElem? (i := 16) rfl)) (hw _ (List.mem_of_getElem? (i := 2) rfl)) (by decide) (by decide)) q12a q12c (g := (mkF m 103 #[.val (.int p1), .val (.int p2), .val (.int p3), .val (.int p4), .val (.int p5), .val (.int (own_mask p5)), .val (.int (own_mx p1 p5)), .val (.int (own_mx p2 p5)), .val (.int (own_mx p3 p5)), .val (.int (own_md p5)), .val (.int (own_t p1 p2 p4 p5)), .val (.ref ob), .unset, .unset] [(.int (own_mx p1 p5)), (.ref ob)])) rfl (by rw [hml]; rfl) (Steps.refl _) (argsL := [(.int (own_mx p1 p5))]) (rest := []) (lenOf pdx_2 rfl) rfl (by show 2 * 0 + _ ≤ _; exact Nat.le_of_eq rfl) (hb hby at_103) (fun _ _ => ⟨rfl, rfl, (by decide : 2 + 5 ≤ _), (by decide : 4 + 262 ≤ _)⟩)
  dsimp only [Pt.U, Pt.locs, Pt.cells, Pt.slots] at X12 l12 y12 z12 st12 hQ12
  subst l12 y12 z12
  obtain ⟨w11, z11, s11, f11, rfl, N12q, TP11, hs11⟩ := hQ12
  have N12 := Fr.app N8 N12q
  have pre13 : ∀ t, Steps p.tables e below (T12.setTop (mkF m 106 #[.val (.int p1), .val (.int p2), .val (.int p3), .val (.int p4), .val (.int p5), .val (.int (own_mask p5)), .val (.int (own_mx p1 p5)), .val (.int (own_mx p2 p5)), .val (.int (own_mx p3 p5)), .val (.int (own_md p5)), .val (.int (own_t p1 p2 p4 p5)), .val (.ref ob), .unset, .unset] [])) t → Steps p.tables e below (s₁.setTop (entryFrame m #[(.int p1), (.int p2), (.int p3), (.int p4), (.int p5)] maxLocals)) t := fun t k => pre10 t (by
    show Steps p.tables e below (T8.setTop (mkF m 103 #[.val (.int p1), .val (.int p2), .val (.int p3), .val (.int p4), .val (.int p5), .val (.int (own_mask p5)), .val (.int (own_mx p1 p5)), .val (.int (own_mx p2 p5)), .val (.int (own_mx p3 p5)), .val (.int (own_md p5)), .val (.int (own_t p1 p2 p4 p5)), .val (.ref ob), .unset, .unset] [(.int (own_mx p1 p5)), (.ref ob)])) t
    refine st12.trans ?_
    show Steps p.tables e below (T12.setTop (mkF m 106 #[.val (.int p1), .val (.int p2), .val (.int p3), .val (.int p4), .val (.int p5), .val (.int (own_mask p5)), .val (.int (own_mx p1 p5)), .val (.int (own_mx p2 p5)), .val (.int (own_mx p3 p5)), .val (.int (own_md p5)), .val (.int (own_t p1 p2 p4 p5)), .val (.ref ob), .unset, .unset] [])) t
    exact k)
  have pre14 : ∀ t, Steps p.tables e below (T12.setTop (mkF m 110 #[.val (.int p1), .val (.int p2), .val (.int p3), .val (.int p4), .val (.int p5), .val (.int (own_mask p5)), .val (.int (own_mx p1 p5)), .val (.int (own_mx p2 p5)), .val (.int (own_mx p3 p5)), .val (.int (own_md p5)), .val (.int (own_t p1 p2 p4 p5)), .val (.ref ob), .unset, .unset] [(.int (own_mx p2 p5)), (.ref ob)])) t → Steps p.tables e below (s₁.setTop (entryFrame m #[(.int p1), (.int p2), (.int p3), (.int p4), (.int p5)] maxLocals)) t := fun t k => pre13 t (by
    show Steps p.tables e below (T12.setTop (mkF m 106 #[.val (.int p1), .val (.int p2), .val (.int p3), .val (.int p4), .val (.int p5), .val (.int (own_mask p5)), .val (.int (own_mx p1 p5)), .val (.int (own_mx p2 p5)), .val (.int (own_mx p3 p5)), .val (.int (own_md p5)), .val (.int (own_t p1 p2 p4 p5)), .val (.ref ob), .unset, .unset] [])) _
    refine XS.aload X12.here hx rfl (hb hby at_106) rfl rfl ?_
    show Steps p.tables e below (T12.setTop (mkF m 108 #[.val (.int p1), .val (.int p2), .val (.int p3), .val (.int p4), .val (.int p5), .val (.int (own_mask p5)), .val (.int (own_mx p1 p5)), .val (.int (own_mx p2 p5)), .val (.int (own_mx p3 p5)), .val (.int (own_md p5)), .val (.int (own_t p1 p2 p4 p5)), .val (.ref ob), .unset, .unset] [(.ref ob)])) _
    refine XS.iload X12.here hx rfl (hb hby at_108) rfl ?_
    show Steps p.tables e below (T12.setTop (mkF m 110 #[.val (.int p1), .val (.int p2), .val (.int p3), .val (.int p4), .val (.int p5), .val (.int (own_mask p5)), .val (.int (own_mx p1 p5)), .val (.int (own_mx p2 p5)), .val (.int (own_mx p3 p5)), .val (.int (own_md p5)), .val (.int (own_t p1 p2 p4 p5)), .val (.ref ob), .unset, .unset] [(.int (own_mx p2 p5)), (.ref ob)])) _
    exact k)
  obtain ⟨cq16, kq16, q16a, q16b, q16c⟩ := isOf hZ rfl TP11.1
  obtain ⟨_, _, ⟨T16, L16, k16, n16⟩, -, X16, ⟨Lc16, hQ16, l16, y16, z16⟩, st16⟩ := X12.virtualBack hx (y := (⟨"com/example/berchta/berchta/learn/NodeSet", "add", "(I)V"⟩ : MethodName)) (z := (⟨"com/example/berchta/berchta/learn/NodeSet", "add", "(I)V"⟩ : MethodName)) hown (mvT hZ (hw _ (List.mem_of_getElem? (i := 12) rfl))) (mvT hZ (hw _ (List.mem_of_getElem? (i := 13) rfl))) (notFace_of_selects (args := #[]) (mvT hZ (hw _ (List.mem_of_getElem? (i := 15) rfl)))) (mvT hZ (hw _ (List.mem_of_getElem? (i := 15) rfl))) (mvT hZ (hw _ (List.mem_of_getElem? (i := 14) rfl))) (by decide) (backOf (W := 0) (rmTadd l Z a0 hw [] ob (own_mx p2 p5) w11 z11 (own_add (fun _ => 0) (own_mx p1 p5)) s11 f11 T12.heap n0 (Nat.le_trans g_ob (Nat.le_of_lt TP11.1.lt)) TP11 (own_mx_in _ _).1) hZ (hw _ (List.mem_of_getElem? (i := 16) rfl)) (hw _ (List.mem_of_getElem? (i := 2) rfl)) (by decide) (by decide)) q16a q16c (g := (mkF m 110 #[.val (.int p1), .val (.int p2), .val (.int p3), .val (.int p4), .val (.int p5), .val (.int (own_mask p5)), .val (.int (own_mx p1 p5)), .val (.int (own_mx p2 p5)), .val (.int (own_mx p3 p5)), .val (.int (own_md p5)), .val (.int (own_t p1 p2 p4 p5)), .val (.ref ob), .unset, .unset] [(.int (own_mx p2 p5)), (.ref ob)])) rfl (by rw [hml]; rfl) (Steps.refl _) (argsL := [(.int (own_mx p2 p5))]) (rest := []) (lenOf pdx_2 rfl) rfl (by show 2 * 0 + _ ≤ _; exact Nat.le_of_eq rfl) (hb hby at_110) (fun _ _ => ⟨rfl, rfl, (by decide : 7 + 5 ≤ _), (by decide : 266 + 262 ≤ _)⟩)
  dsimp only [Pt.U, Pt.locs, Pt.cells, Pt.slots] at X16 l16 y16 z16 st16 hQ16
  subst l16 y16 z16
  obtain ⟨w15, z15, s15, f15, rfl, N16q, TP15, hs15⟩ := hQ16
  have N16 := Fr.app N12 N16q
  have pre17 : ∀ t, Steps p.tables e below (T16.setTop (mkF m 113 #[.val (.int p1), .val (.int p2), .val (.int p3), .val (.int p4), .val (.int p5), .val (.int (own_mask p5)), .val (.int (own_mx p1 p5)), .val (.int (own_mx p2 p5)), .val (.int (own_mx p3 p5)), .val (.int (own_md p5)), .val (.int (own_t p1 p2 p4 p5)), .val (.ref ob), .unset, .unset] [])) t → Steps p.tables e below (s₁.setTop (entryFrame m #[(.int p1), (.int p2), (.int p3), (.int p4), (.int p5)] maxLocals)) t := fun t k => pre14 t (by
    show Steps p.tables e below (T12.setTop (mkF m 110 #[.val (.int p1), .val (.int p2), .val (.int p3), .val (.int p4), .val (.int p5), .val (.int (own_mask p5)), .val (.int (own_mx p1 p5)), .val (.int (own_mx p2 p5)), .val (.int (own_mx p3 p5)), .val (.int (own_md p5)), .val (.int (own_t p1 p2 p4 p5)), .val (.ref ob), .unset, .unset] [(.int (own_mx p2 p5)), (.ref ob)])) t
    refine st16.trans ?_
    show Steps p.tables e below (T16.setTop (mkF m 113 #[.val (.int p1), .val (.int p2), .val (.int p3), .val (.int p4), .val (.int p5), .val (.int (own_mask p5)), .val (.int (own_mx p1 p5)), .val (.int (own_mx p2 p5)), .val (.int (own_mx p3 p5)), .val (.int (own_md p5)), .val (.int (own_t p1 p2 p4 p5)), .val (.ref ob), .unset, .unset] [])) t
    exact k)
  have pre18 : ∀ t, Steps p.tables e below (T16.setTop (mkF m 117 #[.val (.int p1), .val (.int p2), .val (.int p3), .val (.int p4), .val (.int p5), .val (.int (own_mask p5)), .val (.int (own_mx p1 p5)), .val (.int (own_mx p2 p5)), .val (.int (own_mx p3 p5)), .val (.int (own_md p5)), .val (.int (own_t p1 p2 p4 p5)), .val (.ref ob), .unset, .unset] [(.int (own_mx p3 p5)), (.ref ob)])) t → Steps p.tables e below (s₁.setTop (entryFrame m #[(.int p1), (.int p2), (.int p3), (.int p4), (.int p5)] maxLocals)) t := fun t k => pre17 t (by
    show Steps p.tables e below (T16.setTop (mkF m 113 #[.val (.int p1), .val (.int p2), .val (.int p3), .val (.int p4), .val (.int p5), .val (.int (own_mask p5)), .val (.int (own_mx p1 p5)), .val (.int (own_mx p2 p5)), .val (.int (own_mx p3 p5)), .val (.int (own_md p5)), .val (.int (own_t p1 p2 p4 p5)), .val (.ref ob), .unset, .unset] [])) _
    refine XS.aload X16.here hx rfl (hb hby at_113) rfl rfl ?_
    show Steps p.tables e below (T16.setTop (mkF m 115 #[.val (.int p1), .val (.int p2), .val (.int p3), .val (.int p4), .val (.int p5), .val (.int (own_mask p5)), .val (.int (own_mx p1 p5)), .val (.int (own_mx p2 p5)), .val (.int (own_mx p3 p5)), .val (.int (own_md p5)), .val (.int (own_t p1 p2 p4 p5)), .val (.ref ob), .unset, .unset] [(.ref ob)])) _
    refine XS.iload X16.here hx rfl (hb hby at_115) rfl ?_
    show Steps p.tables e below (T16.setTop (mkF m 117 #[.val (.int p1), .val (.int p2), .val (.int p3), .val (.int p4), .val (.int p5), .val (.int (own_mask p5)), .val (.int (own_mx p1 p5)), .val (.int (own_mx p2 p5)), .val (.int (own_mx p3 p5)), .val (.int (own_md p5)), .val (.int (own_t p1 p2 p4 p5)), .val (.ref ob), .unset, .unset] [(.int (own_mx p3 p5)), (.ref ob)])) _
    exact k)
  obtain ⟨cq20, kq20, q20a, q20b, q20c⟩ := isOf hZ rfl TP15.1
  obtain ⟨_, _, ⟨T20, L20, k20, n20⟩, -, X20, ⟨Lc20, hQ20, l20, y20, z20⟩, st20⟩ := X16.virtualBack hx (y := (⟨"com/example/berchta/berchta/learn/NodeSet", "add", "(I)V"⟩ : MethodName)) (z := (⟨"com/example/berchta/berchta/learn/NodeSet", "add", "(I)V"⟩ : MethodName)) hown (mvT hZ (hw _ (List.mem_of_getElem? (i := 12) rfl))) (mvT hZ (hw _ (List.mem_of_getElem? (i := 13) rfl))) (notFace_of_selects (args := #[]) (mvT hZ (hw _ (List.mem_of_getElem? (i := 15) rfl)))) (mvT hZ (hw _ (List.mem_of_getElem? (i := 15) rfl))) (mvT hZ (hw _ (List.mem_of_getElem? (i := 14) rfl))) (by decide) (backOf (W := 0) (rmTadd l Z a0 hw [] ob (own_mx p3 p5) w15 z15 (own_add (own_add (fun _ => 0) (own_mx p1 p5)) (own_mx p2 p5)) s15 f15 T16.heap n0 (Nat.le_trans g_ob (Nat.le_of_lt TP15.1.lt)) TP15 (own_mx_in _ _).1) hZ (hw _ (List.mem_of_getElem? (i := 16) rfl)) (hw _ (List.mem_of_getElem? (i := 2) rfl)) (by decide) (by decide)) q20a q20c (g := (mkF m 117 #[.val (.int p1), .val (.int p2), .val (.int p3), .val (.int p4), .val (.int p5), .val (.int (own_mask p5)), .val (.int (own_mx p1 p5)), .val (.int (own_mx p2 p5)), .val (.int (own_mx p3 p5)), .val (.int (own_md p5)), .val (.int (own_t p1 p2 p4 p5)), .val (.ref ob), .unset, .unset] [(.int (own_mx p3 p5)), (.ref ob)])) rfl (by rw [hml]; rfl) (Steps.refl _) (argsL := [(.int (own_mx p3 p5))]) (rest := []) (lenOf pdx_2 rfl) rfl (by show 2 * 0 + _ ≤ _; exact Nat.le_of_eq rfl) (hb hby at_117) (fun _ _ => ⟨rfl, rfl, (by decide : 12 + 5 ≤ _), (by decide : 528 + 262 ≤ _)⟩)
  dsimp only [Pt.U, Pt.locs, Pt.cells, Pt.slots] at X20 l20 y20 z20 st20 hQ20
  subst l20 y20 z20
  obtain ⟨w19, z19, s19, f19, rfl, N20q, TP19, hs19⟩ := hQ20
  have N20 := Fr.app N16 N20q
  have pre21 : ∀ t, Steps p.tables e below (T20.setTop (mkF m 120 #[.val (.int p1), .val (.int p2), .val (.int p3), .val (.int p4), .val (.int p5), .val (.int (own_mask p5)), .val (.int (own_mx p1 p5)), .val (.int (own_mx p2 p5)), .val (.int (own_mx p3 p5)), .val (.int (own_md p5)), .val (.int (own_t p1 p2 p4 p5)), .val (.ref ob), .unset, .unset] [])) t → Steps p.tables e below (s₁.setTop (entryFrame m #[(.int p1), (.int p2), (.int p3), (.int p4), (.int p5)] maxLocals)) t := fun t k => pre18 t (by
    show Steps p.tables e below (T16.setTop (mkF m 117 #[.val (.int p1), .val (.int p2), .val (.int p3), .val (.int p4), .val (.int p5), .val (.int (own_mask p5)), .val (.int (own_mx p1 p5)), .val (.int (own_mx p2 p5)), .val (.int (own_mx p3 p5)), .val (.int (own_md p5)), .val (.int (own_t p1 p2 p4 p5)), .val (.ref ob), .unset, .unset] [(.int (own_mx p3 p5)), (.ref ob)])) t
    refine st20.trans ?_
    show Steps p.tables e below (T20.setTop (mkF m 120 #[.val (.int p1), .val (.int p2), .val (.int p3), .val (.int p4), .val (.int p5), .val (.int (own_mask p5)), .val (.int (own_mx p1 p5)), .val (.int (own_mx p2 p5)), .val (.int (own_mx p3 p5)), .val (.int (own_md p5)), .val (.int (own_t p1 p2 p4 p5)), .val (.ref ob), .unset, .unset] [])) t
    exact k)
  have pre22 : ∀ t, Steps p.tables e below (T20.setTop (mkF m 124 #[.val (.int p1), .val (.int p2), .val (.int p3), .val (.int p4), .val (.int p5), .val (.int (own_mask p5)), .val (.int (own_mx p1 p5)), .val (.int (own_mx p2 p5)), .val (.int (own_mx p3 p5)), .val (.int (own_md p5)), .val (.int (own_t p1 p2 p4 p5)), .val (.ref ob), .unset, .unset] [(.int (own_t p1 p2 p4 p5)), (.ref ob)])) t → Steps p.tables e below (s₁.setTop (entryFrame m #[(.int p1), (.int p2), (.int p3), (.int p4), (.int p5)] maxLocals)) t := fun t k => pre21 t (by
    show Steps p.tables e below (T20.setTop (mkF m 120 #[.val (.int p1), .val (.int p2), .val (.int p3), .val (.int p4), .val (.int p5), .val (.int (own_mask p5)), .val (.int (own_mx p1 p5)), .val (.int (own_mx p2 p5)), .val (.int (own_mx p3 p5)), .val (.int (own_md p5)), .val (.int (own_t p1 p2 p4 p5)), .val (.ref ob), .unset, .unset] [])) _
    refine XS.aload X20.here hx rfl (hb hby at_120) rfl rfl ?_
    show Steps p.tables e below (T20.setTop (mkF m 122 #[.val (.int p1), .val (.int p2), .val (.int p3), .val (.int p4), .val (.int p5), .val (.int (own_mask p5)), .val (.int (own_mx p1 p5)), .val (.int (own_mx p2 p5)), .val (.int (own_mx p3 p5)), .val (.int (own_md p5)), .val (.int (own_t p1 p2 p4 p5)), .val (.ref ob), .unset, .unset] [(.ref ob)])) _
    refine XS.iload X20.here hx rfl (hb hby at_122) rfl ?_
    show Steps p.tables e below (T20.setTop (mkF m 124 #[.val (.int p1), .val (.int p2), .val (.int p3), .val (.int p4), .val (.int p5), .val (.int (own_mask p5)), .val (.int (own_mx p1 p5)), .val (.int (own_mx p2 p5)), .val (.int (own_mx p3 p5)), .val (.int (own_md p5)), .val (.int (own_t p1 p2 p4 p5)), .val (.ref ob), .unset, .unset] [(.int (own_t p1 p2 p4 p5)), (.ref ob)])) _
    exact k)
  obtain ⟨cq24, kq24, q24a, q24b, q24c⟩ := isOf hZ rfl TP19.1
  obtain ⟨_, _, ⟨T24, L24, k24, n24⟩, -, X24, ⟨Lc24, hQ24, l24, y24, z24⟩, st24⟩ := X20.virtualBack hx (y := (⟨"com/example/berchta/berchta/learn/NodeSet", "remove", "(I)V"⟩ : MethodName)) (z := (⟨"com/example/berchta/berchta/learn/NodeSet", "remove", "(I)V"⟩ : MethodName)) hown (mvT hZ (hw _ (List.mem_of_getElem? (i := 21) rfl))) (mvT hZ (hw _ (List.mem_of_getElem? (i := 22) rfl))) (notFace_of_selects (args := #[]) (mvT hZ (hw _ (List.mem_of_getElem? (i := 24) rfl)))) (mvT hZ (hw _ (List.mem_of_getElem? (i := 24) rfl))) (mvT hZ (hw _ (List.mem_of_getElem? (i := 23) rfl))) (by decide) (backOf (W := 0) (rmTremove l Z a0 hw [] ob (own_t p1 p2 p4 p5) w19 z19 (own_add (own_add (own_add (fun _ => 0) (own_mx p1 p5)) (own_mx p2 p5)) (own_mx p3 p5)) s19 f19 T20.heap n0 (Nat.le_trans g_ob (Nat.le_of_lt TP19.1.lt)) TP19 ) hZ (hw _ (List.mem_of_getElem? (i := 25) rfl)) (hw _ (List.mem_of_getElem? (i := 2) rfl)) (by decide) (by decide)) q24a q24c (g := (mkF m 124 #[.val (.int p1), .val (.int p2), .val (.int p3), .val (.int p4), .val (.int p5), .val (.int (own_mask p5)), .val (.int (own_mx p1 p5)), .val (.int (own_mx p2 p5)), .val (.int (own_mx p3 p5)), .val (.int (own_md p5)), .val (.int (own_t p1 p2 p4 p5)), .val (.ref ob), .unset, .unset] [(.int (own_t p1 p2 p4 p5)), (.ref ob)])) rfl (by rw [hml]; rfl) (Steps.refl _) (argsL := [(.int (own_t p1 p2 p4 p5))]) (rest := []) (lenOf pdx_2 rfl) rfl (by show 2 * 0 + _ ≤ _; exact Nat.le_of_eq rfl) (hb hby at_124) (fun _ _ => ⟨rfl, rfl, (by decide : 17 + 0 ≤ _), (by decide : 790 + 0 ≤ _)⟩)
  dsimp only [Pt.U, Pt.locs, Pt.cells, Pt.slots] at X24 l24 y24 z24 st24 hQ24
  subst l24 y24 z24
  obtain ⟨w23, z23, s23, f23, rfl, N24q, TP23, hs23⟩ := hQ24
  have N24 := Fr.app N20 N24q
  have pre25 : ∀ t, Steps p.tables e below (T24.setTop (mkF m 127 #[.val (.int p1), .val (.int p2), .val (.int p3), .val (.int p4), .val (.int p5), .val (.int (own_mask p5)), .val (.int (own_mx p1 p5)), .val (.int (own_mx p2 p5)), .val (.int (own_mx p3 p5)), .val (.int (own_md p5)), .val (.int (own_t p1 p2 p4 p5)), .val (.ref ob), .unset, .unset] [])) t → Steps p.tables e below (s₁.setTop (entryFrame m #[(.int p1), (.int p2), (.int p3), (.int p4), (.int p5)] maxLocals)) t := fun t k => pre22 t (by
    show Steps p.tables e below (T20.setTop (mkF m 124 #[.val (.int p1), .val (.int p2), .val (.int p3), .val (.int p4), .val (.int p5), .val (.int (own_mask p5)), .val (.int (own_mx p1 p5)), .val (.int (own_mx p2 p5)), .val (.int (own_mx p3 p5)), .val (.int (own_md p5)), .val (.int (own_t p1 p2 p4 p5)), .val (.ref ob), .unset, .unset] [(.int (own_t p1 p2 p4 p5)), (.ref ob)])) t
    refine st24.trans ?_
    show Steps p.tables e below (T24.setTop (mkF m 127 #[.val (.int p1), .val (.int p2), .val (.int p3), .val (.int p4), .val (.int p5), .val (.int (own_mask p5)), .val (.int (own_mx p1 p5)), .val (.int (own_mx p2 p5)), .val (.int (own_mx p3 p5)), .val (.int (own_md p5)), .val (.int (own_t p1 p2 p4 p5)), .val (.ref ob), .unset, .unset] [])) t
    exact k)
  have pre26 : ∀ t, Steps p.tables e below (T24.setTop (mkF m 131 #[.val (.int p1), .val (.int p2), .val (.int p3), .val (.int p4), .val (.int p5), .val (.int (own_mask p5)), .val (.int (own_mx p1 p5)), .val (.int (own_mx p2 p5)), .val (.int (own_mx p3 p5)), .val (.int (own_md p5)), .val (.int (own_t p1 p2 p4 p5)), .val (.ref ob), .unset, .unset] [(.int (own_t p1 p2 p4 p5)), (.ref ob)])) t → Steps p.tables e below (s₁.setTop (entryFrame m #[(.int p1), (.int p2), (.int p3), (.int p4), (.int p5)] maxLocals)) t := fun t k => pre25 t (by
    show Steps p.tables e below (T24.setTop (mkF m 127 #[.val (.int p1), .val (.int p2), .val (.int p3), .val (.int p4), .val (.int p5), .val (.int (own_mask p5)), .val (.int (own_mx p1 p5)), .val (.int (own_mx p2 p5)), .val (.int (own_mx p3 p5)), .val (.int (own_md p5)), .val (.int (own_t p1 p2 p4 p5)), .val (.ref ob), .unset, .unset] [])) _
    refine XS.aload X24.here hx rfl (hb hby at_127) rfl rfl ?_
    show Steps p.tables e below (T24.setTop (mkF m 129 #[.val (.int p1), .val (.int p2), .val (.int p3), .val (.int p4), .val (.int p5), .val (.int (own_mask p5)), .val (.int (own_mx p1 p5)), .val (.int (own_mx p2 p5)), .val (.int (own_mx p3 p5)), .val (.int (own_md p5)), .val (.int (own_t p1 p2 p4 p5)), .val (.ref ob), .unset, .unset] [(.ref ob)])) _
    refine XS.iload X24.here hx rfl (hb hby at_129) rfl ?_
    show Steps p.tables e below (T24.setTop (mkF m 131 #[.val (.int p1), .val (.int p2), .val (.int p3), .val (.int p4), .val (.int p5), .val (.int (own_mask p5)), .val (.int (own_mx p1 p5)), .val (.int (own_mx p2 p5)), .val (.int (own_mx p3 p5)), .val (.int (own_md p5)), .val (.int (own_t p1 p2 p4 p5)), .val (.ref ob), .unset, .unset] [(.int (own_t p1 p2 p4 p5)), (.ref ob)])) _
    exact k)
  obtain ⟨cq27, kq27, q27a, q27b, q27c⟩ := isOf hZ rfl TP23.1
  obtain ⟨_, _, ⟨T27, L27, k27, n27⟩, -, X27, ⟨Lc27, hQ27, l27, y27, z27⟩, st27⟩ := X24.virtualBack hx (y := (⟨"com/example/berchta/berchta/learn/NodeSet", "contains", "(I)Z"⟩ : MethodName)) (z := (⟨"com/example/berchta/berchta/learn/NodeSet", "contains", "(I)Z"⟩ : MethodName)) hown (mvT hZ (hw _ (List.mem_of_getElem? (i := 27) rfl))) (mvT hZ (hw _ (List.mem_of_getElem? (i := 28) rfl))) (notFace_of_selects (args := #[]) (mvT hZ (hw _ (List.mem_of_getElem? (i := 30) rfl)))) (mvT hZ (hw _ (List.mem_of_getElem? (i := 30) rfl))) (mvT hZ (hw _ (List.mem_of_getElem? (i := 29) rfl))) (by decide) (backOf (W := 0) (rm5 l Z a0 hw [] ob (own_t p1 p2 p4 p5) w23 z23 (own_rem (own_add (own_add (own_add (fun _ => 0) (own_mx p1 p5)) (own_mx p2 p5)) (own_mx p3 p5)) (own_t p1 p2 p4 p5)) T24.heap n0 (Nat.le_trans g_ob (Nat.le_of_lt TP23.1.lt)) TP23.2.1 TP23.2.2.2.2.1 TP23.2.2.2.2.2.2.1) hZ (hw _ (List.mem_of_getElem? (i := 31) rfl)) (hw _ (List.mem_of_getElem? (i := 2) rfl)) (by decide) (by decide)) q27a q27c (g := (mkF m 131 #[.val (.int p1), .val (.int p2), .val (.int p3), .val (.int p4), .val (.int p5), .val (.int (own_mask p5)), .val (.int (own_mx p1 p5)), .val (.int (own_mx p2 p5)), .val (.int (own_mx p3 p5)), .val (.int (own_md p5)), .val (.int (own_t p1 p2 p4 p5)), .val (.ref ob), .unset, .unset] [(.int (own_t p1 p2 p4 p5)), (.ref ob)])) rfl (by rw [hml]; rfl) (Steps.refl _) (argsL := [(.int (own_t p1 p2 p4 p5))]) (rest := []) (lenOf pdx_6 rfl) rfl (by show 2 * 0 + _ ≤ _; exact Nat.le_of_eq rfl) (hb hby at_131) (fun _ _ => ⟨rfl, rfl, (by decide : 17 + 0 ≤ _), (by decide : 790 + 0 ≤ _)⟩)
  dsimp only [Pt.U, Pt.locs, Pt.cells, Pt.slots] at X27 l27 y27 z27 st27 hQ27
  subst l27 y27 z27
  obtain ⟨rfl, N27q, e27⟩ := hQ27
  have N27 := Fr.app N24 N27q
  have pre28 : ∀ t, Steps p.tables e below (T27.setTop (mkF m 134 #[.val (.int p1), .val (.int p2), .val (.int p3), .val (.int p4), .val (.int p5), .val (.int (own_mask p5)), .val (.int (own_mx p1 p5)), .val (.int (own_mx p2 p5)), .val (.int (own_mx p3 p5)), .val (.int (own_md p5)), .val (.int (own_t p1 p2 p4 p5)), .val (.ref ob), .unset, .unset] [(.int (own_has (own_rem (own_add (own_add (own_add (fun _ => 0) (own_mx p1 p5)) (own_mx p2 p5)) (own_mx p3 p5)) (own_t p1 p2 p4 p5)) (own_t p1 p2 p4 p5)))])) t → Steps p.tables e below (s₁.setTop (entryFrame m #[(.int p1), (.int p2), (.int p3), (.int p4), (.int p5)] maxLocals)) t := fun t k => pre26 t (by
    show Steps p.tables e below (T24.setTop (mkF m 131 #[.val (.int p1), .val (.int p2), .val (.int p3), .val (.int p4), .val (.int p5), .val (.int (own_mask p5)), .val (.int (own_mx p1 p5)), .val (.int (own_mx p2 p5)), .val (.int (own_mx p3 p5)), .val (.int (own_md p5)), .val (.int (own_t p1 p2 p4 p5)), .val (.ref ob), .unset, .unset] [(.int (own_t p1 p2 p4 p5)), (.ref ob)])) t
    refine st27.trans ?_
    show Steps p.tables e below (T27.setTop (mkF m 134 #[.val (.int p1), .val (.int p2), .val (.int p3), .val (.int p4), .val (.int p5), .val (.int (own_mask p5)), .val (.int (own_mx p1 p5)), .val (.int (own_mx p2 p5)), .val (.int (own_mx p3 p5)), .val (.int (own_md p5)), .val (.int (own_t p1 p2 p4 p5)), .val (.ref ob), .unset, .unset] [(.int (own_has (own_rem (own_add (own_add (own_add (fun _ => 0) (own_mx p1 p5)) (own_mx p2 p5)) (own_mx p3 p5)) (own_t p1 p2 p4 p5)) (own_t p1 p2 p4 p5)))])) t
    exact k)
  have pre29 : ∀ t, Steps p.tables e below (T27.setTop (mkF m 153 #[.val (.int p1), .val (.int p2), .val (.int p3), .val (.int p4), .val (.int p5), .val (.int (own_mask p5)), .val (.int (own_mx p1 p5)), .val (.int (own_mx p2 p5)), .val (.int (own_mx p3 p5)), .val (.int (own_md p5)), .val (.int (own_t p1 p2 p4 p5)), .val (.ref ob), .val (.int (1 : Int32)), .unset] [(.int (own_mx p1 p5)), (.ref ob)])) t → Steps p.tables e below (s₁.setTop (entryFrame m #[(.int p1), (.int p2), (.int p3), (.int p4), (.int p5)] maxLocals)) t := fun t k => pre28 t (by
    show Steps p.tables e below (T27.setTop (mkF m 134 #[.val (.int p1), .val (.int p2), .val (.int p3), .val (.int p4), .val (.int p5), .val (.int (own_mask p5)), .val (.int (own_mx p1 p5)), .val (.int (own_mx p2 p5)), .val (.int (own_mx p3 p5)), .val (.int (own_md p5)), .val (.int (own_t p1 p2 p4 p5)), .val (.ref ob), .unset, .unset] [(.int (own_has (own_rem (own_add (own_add (own_add (fun _ => 0) (own_mx p1 p5)) (own_mx p2 p5)) (own_mx p3 p5)) (own_t p1 p2 p4 p5)) (own_t p1 p2 p4 p5)))])) _
    refine XS.ifNo X27.here hx rfl (hb hby at_134) rfl ((if0 _ _).trans (teq (own_has_t _ _)).2) ?_
    show Steps p.tables e below (T27.setTop (mkF m 137 #[.val (.int p1), .val (.int p2), .val (.int p3), .val (.int p4), .val (.int p5), .val (.int (own_mask p5)), .val (.int (own_mx p1 p5)), .val (.int (own_mx p2 p5)), .val (.int (own_mx p3 p5)), .val (.int (own_md p5)), .val (.int (own_t p1 p2 p4 p5)), .val (.ref ob), .unset, .unset] [])) _
    refine XS.iconst X27.here hx rfl (hb hby at_137) ?_
    show Steps p.tables e below (T27.setTop (mkF m 138 #[.val (.int p1), .val (.int p2), .val (.int p3), .val (.int p4), .val (.int p5), .val (.int (own_mask p5)), .val (.int (own_mx p1 p5)), .val (.int (own_mx p2 p5)), .val (.int (own_mx p3 p5)), .val (.int (own_md p5)), .val (.int (own_t p1 p2 p4 p5)), .val (.ref ob), .unset, .unset] [(.int (1 : Int32))])) _
    refine XS.goto X27.here hx rfl (pc0 := 138) (pc' := 142) rfl (hb hby at_138) (by decide) (by decide) ?_
    show Steps p.tables e below (T27.setTop (mkF m 142 #[.val (.int p1), .val (.int p2), .val (.int p3), .val (.int p4), .val (.int p5), .val (.int (own_mask p5)), .val (.int (own_mx p1 p5)), .val (.int (own_mx p2 p5)), .val (.int (own_mx p3 p5)), .val (.int (own_md p5)), .val (.int (own_t p1 p2 p4 p5)), .val (.ref ob), .unset, .unset] [(.int (1 : Int32))])) _
    refine XS.istore X27.here hx rfl (hb hby at_142) rfl (l' := #[.val (.int p1), .val (.int p2), .val (.int p3), .val (.int p4), .val (.int p5), .val (.int (own_mask p5)), .val (.int (own_mx p1 p5)), .val (.int (own_mx p2 p5)), .val (.int (own_mx p3 p5)), .val (.int (own_md p5)), .val (.int (own_t p1 p2 p4 p5)), .val (.ref ob), .val (.int (1 : Int32)), .unset]) rfl ?_
    show Steps p.tables e below (T27.setTop (mkF m 144 #[.val (.int p1), .val (.int p2), .val (.int p3), .val (.int p4), .val (.int p5), .val (.int (own_mask p5)), .val (.int (own_mx p1 p5)), .val (.int (own_mx p2 p5)), .val (.int (own_mx p3 p5)), .val (.int (own_md p5)), .val (.int (own_t p1 p2 p4 p5)), .val (.ref ob), .val (.int (1 : Int32)), .unset] [])) _
    refine XS.iload X27.here hx rfl (hb hby at_144) rfl ?_
    show Steps p.tables e below (T27.setTop (mkF m 146 #[.val (.int p1), .val (.int p2), .val (.int p3), .val (.int p4), .val (.int p5), .val (.int (own_mask p5)), .val (.int (own_mx p1 p5)), .val (.int (own_mx p2 p5)), .val (.int (own_mx p3 p5)), .val (.int (own_md p5)), .val (.int (own_t p1 p2 p4 p5)), .val (.ref ob), .val (.int (1 : Int32)), .unset] [(.int (1 : Int32))])) _
    refine XS.ifNo X27.here hx rfl (hb hby at_146) rfl ((if0 _ _).trans (feq (by decide)).1) ?_
    show Steps p.tables e below (T27.setTop (mkF m 149 #[.val (.int p1), .val (.int p2), .val (.int p3), .val (.int p4), .val (.int p5), .val (.int (own_mask p5)), .val (.int (own_mx p1 p5)), .val (.int (own_mx p2 p5)), .val (.int (own_mx p3 p5)), .val (.int (own_md p5)), .val (.int (own_t p1 p2 p4 p5)), .val (.ref ob), .val (.int (1 : Int32)), .unset] [])) _
    refine XS.aload X27.here hx rfl (hb hby at_149) rfl rfl ?_
    show Steps p.tables e below (T27.setTop (mkF m 151 #[.val (.int p1), .val (.int p2), .val (.int p3), .val (.int p4), .val (.int p5), .val (.int (own_mask p5)), .val (.int (own_mx p1 p5)), .val (.int (own_mx p2 p5)), .val (.int (own_mx p3 p5)), .val (.int (own_md p5)), .val (.int (own_t p1 p2 p4 p5)), .val (.ref ob), .val (.int (1 : Int32)), .unset] [(.ref ob)])) _
    refine XS.iload X27.here hx rfl (hb hby at_151) rfl ?_
    show Steps p.tables e below (T27.setTop (mkF m 153 #[.val (.int p1), .val (.int p2), .val (.int p3), .val (.int p4), .val (.int p5), .val (.int (own_mask p5)), .val (.int (own_mx p1 p5)), .val (.int (own_mx p2 p5)), .val (.int (own_mx p3 p5)), .val (.int (own_md p5)), .val (.int (own_t p1 p2 p4 p5)), .val (.ref ob), .val (.int (1 : Int32)), .unset] [(.int (own_mx p1 p5)), (.ref ob)])) _
    exact k)
  obtain ⟨cq30, kq30, q30a, q30b, q30c⟩ := isOf hZ e27 TP23.1
  obtain ⟨_, _, ⟨T30, L30, k30, n30⟩, -, X30, ⟨Lc30, hQ30, l30, y30, z30⟩, st30⟩ := X27.virtualBack hx (y := (⟨"com/example/berchta/berchta/learn/NodeSet", "contains", "(I)Z"⟩ : MethodName)) (z := (⟨"com/example/berchta/berchta/learn/NodeSet", "contains", "(I)Z"⟩ : MethodName)) hown (mvT hZ (hw _ (List.mem_of_getElem? (i := 27) rfl))) (mvT hZ (hw _ (List.mem_of_getElem? (i := 28) rfl))) (notFace_of_selects (args := #[]) (mvT hZ (hw _ (List.mem_of_getElem? (i := 30) rfl)))) (mvT hZ (hw _ (List.mem_of_getElem? (i := 30) rfl))) (mvT hZ (hw _ (List.mem_of_getElem? (i := 29) rfl))) (by decide) (backOf (W := 0) (rm5 l Z a0 hw [] ob (own_mx p1 p5) w23 z23 (own_rem (own_add (own_add (own_add (fun _ => 0) (own_mx p1 p5)) (own_mx p2 p5)) (own_mx p3 p5)) (own_t p1 p2 p4 p5)) T24.heap n0 (Nat.le_trans g_ob (Nat.le_of_lt TP23.1.lt)) TP23.2.1 TP23.2.2.2.2.1 TP23.2.2.2.2.2.2.1) hZ (hw _ (List.mem_of_getElem? (i := 31) rfl)) (hw _ (List.mem_of_getElem? (i := 2) rfl)) (by decide) (by decide)) q30a q30c (g := (mkF m 153 #[.val (.int p1), .val (.int p2), .val (.int p3), .val (.int p4), .val (.int p5), .val (.int (own_mask p5)), .val (.int (own_mx p1 p5)), .val (.int (own_mx p2 p5)), .val (.int (own_mx p3 p5)), .val (.int (own_md p5)), .val (.int (own_t p1 p2 p4 p5)), .val (.ref ob), .val (.int (1 : Int32)), .unset] [(.int (own_mx p1 p5)), (.ref ob)])) rfl (by rw [hml]; rfl) (Steps.refl _) (argsL := [(.int (own_mx p1 p5))]) (rest := []) (lenOf pdx_6 rfl) rfl (by show 2 * 0 + _ ≤ _; exact Nat.le_of_eq rfl) (hb hby at_153) (fun _ _ => ⟨rfl, e27, (by decide : 17 + 0 ≤ _), (by decide : 790 + 0 ≤ _)⟩)
  dsimp only [Pt.U, Pt.locs, Pt.cells, Pt.slots] at X30 l30 y30 z30 st30 hQ30
  subst l30 y30 z30
  obtain ⟨rfl, N30q, e30⟩ := hQ30
  have N30 := Fr.app N27 N30q
  have pre31 : ∀ t, Steps p.tables e below (T30.setTop (mkF m 156 #[.val (.int p1), .val (.int p2), .val (.int p3), .val (.int p4), .val (.int p5), .val (.int (own_mask p5)), .val (.int (own_mx p1 p5)), .val (.int (own_mx p2 p5)), .val (.int (own_mx p3 p5)), .val (.int (own_md p5)), .val (.int (own_t p1 p2 p4 p5)), .val (.ref ob), .val (.int (1 : Int32)), .unset] [(.int (own_has (own_rem (own_add (own_add (own_add (fun _ => 0) (own_mx p1 p5)) (own_mx p2 p5)) (own_mx p3 p5)) (own_t p1 p2 p4 p5)) (own_mx p1 p5)))])) t → Steps p.tables e below (s₁.setTop (entryFrame m #[(.int p1), (.int p2), (.int p3), (.int p4), (.int p5)] maxLocals)) t := fun t k => pre29 t (by
    show Steps p.tables e below (T27.setTop (mkF m 153 #[.val (.int p1), .val (.int p2), .val (.int p3), .val (.int p4), .val (.int p5), .val (.int (own_mask p5)), .val (.int (own_mx p1 p5)), .val (.int (own_mx p2 p5)), .val (.int (own_mx p3 p5)), .val (.int (own_md p5)), .val (.int (own_t p1 p2 p4 p5)), .val (.ref ob), .val (.int (1 : Int32)), .unset] [(.int (own_mx p1 p5)), (.ref ob)])) t
    refine st30.trans ?_
    show Steps p.tables e below (T30.setTop (mkF m 156 #[.val (.int p1), .val (.int p2), .val (.int p3), .val (.int p4), .val (.int p5), .val (.int (own_mask p5)), .val (.int (own_mx p1 p5)), .val (.int (own_mx p2 p5)), .val (.int (own_mx p3 p5)), .val (.int (own_md p5)), .val (.int (own_t p1 p2 p4 p5)), .val (.ref ob), .val (.int (1 : Int32)), .unset] [(.int (own_has (own_rem (own_add (own_add (own_add (fun _ => 0) (own_mx p1 p5)) (own_mx p2 p5)) (own_mx p3 p5)) (own_t p1 p2 p4 p5)) (own_mx p1 p5)))])) t
    exact k)
  have pre32 : ∀ t, Steps p.tables e below (T30.setTop (mkF m 160 #[.val (.int p1), .val (.int p2), .val (.int p3), .val (.int p4), .val (.int p5), .val (.int (own_mask p5)), .val (.int (own_mx p1 p5)), .val (.int (own_mx p2 p5)), .val (.int (own_mx p3 p5)), .val (.int (own_md p5)), .val (.int (own_t p1 p2 p4 p5)), .val (.ref ob), .val (.int (1 : Int32)), .unset] [(.int (own_t p1 p2 p4 p5)), (.int (own_mx p1 p5)), (.int (own_has (own_rem (own_add (own_add (own_add (fun _ => 0) (own_mx p1 p5)) (own_mx p2 p5)) (own_mx p3 p5)) (own_t p1 p2 p4 p5)) (own_mx p1 p5)))])) t → Steps p.tables e below (s₁.setTop (entryFrame m #[(.int p1), (.int p2), (.int p3), (.int p4), (.int p5)] maxLocals)) t := fun t k => pre31 t (by
    show Steps p.tables e below (T30.setTop (mkF m 156 #[.val (.int p1), .val (.int p2), .val (.int p3), .val (.int p4), .val (.int p5), .val (.int (own_mask p5)), .val (.int (own_mx p1 p5)), .val (.int (own_mx p2 p5)), .val (.int (own_mx p3 p5)), .val (.int (own_md p5)), .val (.int (own_t p1 p2 p4 p5)), .val (.ref ob), .val (.int (1 : Int32)), .unset] [(.int (own_has (own_rem (own_add (own_add (own_add (fun _ => 0) (own_mx p1 p5)) (own_mx p2 p5)) (own_mx p3 p5)) (own_t p1 p2 p4 p5)) (own_mx p1 p5)))])) _
    refine XS.iload X30.here hx rfl (hb hby at_156) rfl ?_
    show Steps p.tables e below (T30.setTop (mkF m 158 #[.val (.int p1), .val (.int p2), .val (.int p3), .val (.int p4), .val (.int p5), .val (.int (own_mask p5)), .val (.int (own_mx p1 p5)), .val (.int (own_mx p2 p5)), .val (.int (own_mx p3 p5)), .val (.int (own_md p5)), .val (.int (own_t p1 p2 p4 p5)), .val (.ref ob), .val (.int (1 : Int32)), .unset] [(.int (own_mx p1 p5)), (.int (own_has (own_rem (own_add (own_add (own_add (fun _ => 0) (own_mx p1 p5)) (own_mx p2 p5)) (own_mx p3 p5)) (own_t p1 p2 p4 p5)) (own_mx p1 p5)))])) _
    refine XS.iload X30.here hx rfl (hb hby at_158) rfl ?_
    show Steps p.tables e below (T30.setTop (mkF m 160 #[.val (.int p1), .val (.int p2), .val (.int p3), .val (.int p4), .val (.int p5), .val (.int (own_mask p5)), .val (.int (own_mx p1 p5)), .val (.int (own_mx p2 p5)), .val (.int (own_mx p3 p5)), .val (.int (own_md p5)), .val (.int (own_t p1 p2 p4 p5)), .val (.ref ob), .val (.int (1 : Int32)), .unset] [(.int (own_t p1 p2 p4 p5)), (.int (own_mx p1 p5)), (.int (own_has (own_rem (own_add (own_add (own_add (fun _ => 0) (own_mx p1 p5)) (own_mx p2 p5)) (own_mx p3 p5)) (own_t p1 p2 p4 p5)) (own_mx p1 p5)))])) _
    exact k)
  have pre33 : ∀ t, Steps p.tables e below (T30.setTop (mkF m 168 #[.val (.int p1), .val (.int p2), .val (.int p3), .val (.int p4), .val (.int p5), .val (.int (own_mask p5)), .val (.int (own_mx p1 p5)), .val (.int (own_mx p2 p5)), .val (.int (own_mx p3 p5)), .val (.int (own_md p5)), .val (.int (own_t p1 p2 p4 p5)), .val (.ref ob), .val (.int (1 : Int32)), .unset] [(.int (own_ne (own_mx p1 p5) (own_t p1 p2 p4 p5))), (.int (own_has (own_rem (own_add (own_add (own_add (fun _ => 0) (own_mx p1 p5)) (own_mx p2 p5)) (own_mx p3 p5)) (own_t p1 p2 p4 p5)) (own_mx p1 p5)))])) t → Steps p.tables e below (s₁.setTop (entryFrame m #[(.int p1), (.int p2), (.int p3), (.int p4), (.int p5)] maxLocals)) t := fun t k => pre32 t (by
    by_cases hc : (own_mx p1 p5) = (own_t p1 p2 p4 p5)
    · skip
      show Steps p.tables e below (T30.setTop (mkF m 160 #[.val (.int p1), .val (.int p2), .val (.int p3), .val (.int p4), .val (.int p5), .val (.int (own_mask p5)), .val (.int (own_mx p1 p5)), .val (.int (own_mx p2 p5)), .val (.int (own_mx p3 p5)), .val (.int (own_md p5)), .val (.int (own_t p1 p2 p4 p5)), .val (.ref ob), .val (.int (1 : Int32)), .unset] [(.int (own_t p1 p2 p4 p5)), (.int (own_mx p1 p5)), (.int (own_has (own_rem (own_add (own_add (own_add (fun _ => 0) (own_mx p1 p5)) (own_mx p2 p5)) (own_mx p3 p5)) (own_t p1 p2 p4 p5)) (own_mx p1 p5)))])) _
      refine XS.icmpYes X30.here hx rfl (pc0 := 160) (pc' := 167) rfl (hb hby at_160) rfl (teq hc).1 (by decide) (by decide) ?_
      show Steps p.tables e below (T30.setTop (mkF m 167 #[.val (.int p1), .val (.int p2), .val (.int p3), .val (.int p4), .val (.int p5), .val (.int (own_mask p5)), .val (.int (own_mx p1 p5)), .val (.int (own_mx p2 p5)), .val (.int (own_mx p3 p5)), .val (.int (own_md p5)), .val (.int (own_t p1 p2 p4 p5)), .val (.ref ob), .val (.int (1 : Int32)), .unset] [(.int (own_has (own_rem (own_add (own_add (own_add (fun _ => 0) (own_mx p1 p5)) (own_mx p2 p5)) (own_mx p3 p5)) (own_t p1 p2 p4 p5)) (own_mx p1 p5)))])) _
      refine XS.iconst X30.here hx rfl (hb hby at_167) ?_
      show Steps p.tables e below (T30.setTop (mkF m 168 #[.val (.int p1), .val (.int p2), .val (.int p3), .val (.int p4), .val (.int p5), .val (.int (own_mask p5)), .val (.int (own_mx p1 p5)), .val (.int (own_mx p2 p5)), .val (.int (own_mx p3 p5)), .val (.int (own_md p5)), .val (.int (own_t p1 p2 p4 p5)), .val (.ref ob), .val (.int (1 : Int32)), .unset] [(.int (0 : Int32)), (.int (own_has (own_rem (own_add (own_add (own_add (fun _ => 0) (own_mx p1 p5)) (own_mx p2 p5)) (own_mx p3 p5)) (own_t p1 p2 p4 p5)) (own_mx p1 p5)))])) _
      rw [show (own_ne (own_mx p1 p5) (own_t p1 p2 p4 p5)) = (0 : Int32) from if_pos hc] at k
      exact k
    · skip
      show Steps p.tables e below (T30.setTop (mkF m 160 #[.val (.int p1), .val (.int p2), .val (.int p3), .val (.int p4), .val (.int p5), .val (.int (own_mask p5)), .val (.int (own_mx p1 p5)), .val (.int (own_mx p2 p5)), .val (.int (own_mx p3 p5)), .val (.int (own_md p5)), .val (.int (own_t p1 p2 p4 p5)), .val (.ref ob), .val (.int (1 : Int32)), .unset] [(.int (own_t p1 p2 p4 p5)), (.int (own_mx p1 p5)), (.int (own_has (own_rem (own_add (own_add (own_add (fun _ => 0) (own_mx p1 p5)) (own_mx p2 p5)) (own_mx p3 p5)) (own_t p1 p2 p4 p5)) (own_mx p1 p5)))])) _
      refine XS.icmpNo X30.here hx rfl (hb hby at_160) rfl (feq hc).1 ?_
      show Steps p.tables e below (T30.setTop (mkF m 163 #[.val (.int p1), .val (.int p2), .val (.int p3), .val (.int p4), .val (.int p5), .val (.int (own_mask p5)), .val (.int (own_mx p1 p5)), .val (.int (own_mx p2 p5)), .val (.int (own_mx p3 p5)), .val (.int (own_md p5)), .val (.int (own_t p1 p2 p4 p5)), .val (.ref ob), .val (.int (1 : Int32)), .unset] [(.int (own_has (own_rem (own_add (own_add (own_add (fun _ => 0) (own_mx p1 p5)) (own_mx p2 p5)) (own_mx p3 p5)) (own_t p1 p2 p4 p5)) (own_mx p1 p5)))])) _
      refine XS.iconst X30.here hx rfl (hb hby at_163) ?_
      show Steps p.tables e below (T30.setTop (mkF m 164 #[.val (.int p1), .val (.int p2), .val (.int p3), .val (.int p4), .val (.int p5), .val (.int (own_mask p5)), .val (.int (own_mx p1 p5)), .val (.int (own_mx p2 p5)), .val (.int (own_mx p3 p5)), .val (.int (own_md p5)), .val (.int (own_t p1 p2 p4 p5)), .val (.ref ob), .val (.int (1 : Int32)), .unset] [(.int (1 : Int32)), (.int (own_has (own_rem (own_add (own_add (own_add (fun _ => 0) (own_mx p1 p5)) (own_mx p2 p5)) (own_mx p3 p5)) (own_t p1 p2 p4 p5)) (own_mx p1 p5)))])) _
      refine XS.goto X30.here hx rfl (pc0 := 164) (pc' := 168) rfl (hb hby at_164) (by decide) (by decide) ?_
      show Steps p.tables e below (T30.setTop (mkF m 168 #[.val (.int p1), .val (.int p2), .val (.int p3), .val (.int p4), .val (.int p5), .val (.int (own_mask p5)), .val (.int (own_mx p1 p5)), .val (.int (own_mx p2 p5)), .val (.int (own_mx p3 p5)), .val (.int (own_md p5)), .val (.int (own_t p1 p2 p4 p5)), .val (.ref ob), .val (.int (1 : Int32)), .unset] [(.int (1 : Int32)), (.int (own_has (own_rem (own_add (own_add (own_add (fun _ => 0) (own_mx p1 p5)) (own_mx p2 p5)) (own_mx p3 p5)) (own_t p1 p2 p4 p5)) (own_mx p1 p5)))])) _
      rw [show (own_ne (own_mx p1 p5) (own_t p1 p2 p4 p5)) = (1 : Int32) from if_neg hc] at k
      exact k)
  have pre34 : ∀ t, Steps p.tables e below (T30.setTop (mkF m 187 #[.val (.int p1), .val (.int p2), .val (.int p3), .val (.int p4), .val (.int p5), .val (.int (own_mask p5)), .val (.int (own_mx p1 p5)), .val (.int (own_mx p2 p5)), .val (.int (own_mx p3 p5)), .val (.int (own_md p5)), .val (.int (own_t p1 p2 p4 p5)), .val (.ref ob), .val (.int (1 : Int32)), .unset] [(.int (own_mx p2 p5)), (.ref ob)])) t → Steps p.tables e below (s₁.setTop (entryFrame m #[(.int p1), (.int p2), (.int p3), (.int p4), (.int p5)] maxLocals)) t := fun t k => pre33 t (by
    show Steps p.tables e below (T30.setTop (mkF m 168 #[.val (.int p1), .val (.int p2), .val (.int p3), .val (.int p4), .val (.int p5), .val (.int (own_mask p5)), .val (.int (own_mx p1 p5)), .val (.int (own_mx p2 p5)), .val (.int (own_mx p3 p5)), .val (.int (own_md p5)), .val (.int (own_t p1 p2 p4 p5)), .val (.ref ob), .val (.int (1 : Int32)), .unset] [(.int (own_ne (own_mx p1 p5) (own_t p1 p2 p4 p5))), (.int (own_has (own_rem (own_add (own_add (own_add (fun _ => 0) (own_mx p1 p5)) (own_mx p2 p5)) (own_mx p3 p5)) (own_t p1 p2 p4 p5)) (own_mx p1 p5)))])) _
    refine XS.icmpNo X30.here hx rfl (hb hby at_168) rfl (teq (own_has_x (own_in1 _ _ _))).2 ?_
    show Steps p.tables e below (T30.setTop (mkF m 171 #[.val (.int p1), .val (.int p2), .val (.int p3), .val (.int p4), .val (.int p5), .val (.int (own_mask p5)), .val (.int (own_mx p1 p5)), .val (.int (own_mx p2 p5)), .val (.int (own_mx p3 p5)), .val (.int (own_md p5)), .val (.int (own_t p1 p2 p4 p5)), .val (.ref ob), .val (.int (1 : Int32)), .unset] [])) _
    refine XS.iconst X30.here hx rfl (hb hby at_171) ?_
    show Steps p.tables e below (T30.setTop (mkF m 172 #[.val (.int p1), .val (.int p2), .val (.int p3), .val (.int p4), .val (.int p5), .val (.int (own_mask p5)), .val (.int (own_mx p1 p5)), .val (.int (own_mx p2 p5)), .val (.int (own_mx p3 p5)), .val (.int (own_md p5)), .val (.int (own_t p1 p2 p4 p5)), .val (.ref ob), .val (.int (1 : Int32)), .unset] [(.int (1 : Int32))])) _
    refine XS.goto X30.here hx rfl (pc0 := 172) (pc' := 176) rfl (hb hby at_172) (by decide) (by decide) ?_
    show Steps p.tables e below (T30.setTop (mkF m 176 #[.val (.int p1), .val (.int p2), .val (.int p3), .val (.int p4), .val (.int p5), .val (.int (own_mask p5)), .val (.int (own_mx p1 p5)), .val (.int (own_mx p2 p5)), .val (.int (own_mx p3 p5)), .val (.int (own_md p5)), .val (.int (own_t p1 p2 p4 p5)), .val (.ref ob), .val (.int (1 : Int32)), .unset] [(.int (1 : Int32))])) _
    refine XS.istore X30.here hx rfl (hb hby at_176) rfl (l' := #[.val (.int p1), .val (.int p2), .val (.int p3), .val (.int p4), .val (.int p5), .val (.int (own_mask p5)), .val (.int (own_mx p1 p5)), .val (.int (own_mx p2 p5)), .val (.int (own_mx p3 p5)), .val (.int (own_md p5)), .val (.int (own_t p1 p2 p4 p5)), .val (.ref ob), .val (.int (1 : Int32)), .unset]) rfl ?_
    show Steps p.tables e below (T30.setTop (mkF m 178 #[.val (.int p1), .val (.int p2), .val (.int p3), .val (.int p4), .val (.int p5), .val (.int (own_mask p5)), .val (.int (own_mx p1 p5)), .val (.int (own_mx p2 p5)), .val (.int (own_mx p3 p5)), .val (.int (own_md p5)), .val (.int (own_t p1 p2 p4 p5)), .val (.ref ob), .val (.int (1 : Int32)), .unset] [])) _
    refine XS.iload X30.here hx rfl (hb hby at_178) rfl ?_
    show Steps p.tables e below (T30.setTop (mkF m 180 #[.val (.int p1), .val (.int p2), .val (.int p3), .val (.int p4), .val (.int p5), .val (.int (own_mask p5)), .val (.int (own_mx p1 p5)), .val (.int (own_mx p2 p5)), .val (.int (own_mx p3 p5)), .val (.int (own_md p5)), .val (.int (own_t p1 p2 p4 p5)), .val (.ref ob), .val (.int (1 : Int32)), .unset] [(.int (1 : Int32))])) _
    refine XS.ifNo X30.here hx rfl (hb hby at_180) rfl ((if0 _ _).trans (feq (by decide)).1) ?_
    show Steps p.tables e below (T30.setTop (mkF m 183 #[.val (.int p1), .val (.int p2), .val (.int p3), .val (.int p4), .val (.int p5), .val (.int (own_mask p5)), .val (.int (own_mx p1 p5)), .val (.int (own_mx p2 p5)), .val (.int (own_mx p3 p5)), .val (.int (own_md p5)), .val (.int (own_t p1 p2 p4 p5)), .val (.ref ob), .val (.int (1 : Int32)), .unset] [])) _
    refine XS.aload X30.here hx rfl (hb hby at_183) rfl rfl ?_
    show Steps p.tables e below (T30.setTop (mkF m 185 #[.val (.int p1), .val (.int p2), .val (.int p3), .val (.int p4), .val (.int p5), .val (.int (own_mask p5)), .val (.int (own_mx p1 p5)), .val (.int (own_mx p2 p5)), .val (.int (own_mx p3 p5)), .val (.int (own_md p5)), .val (.int (own_t p1 p2 p4 p5)), .val (.ref ob), .val (.int (1 : Int32)), .unset] [(.ref ob)])) _
    refine XS.iload X30.here hx rfl (hb hby at_185) rfl ?_
    show Steps p.tables e below (T30.setTop (mkF m 187 #[.val (.int p1), .val (.int p2), .val (.int p3), .val (.int p4), .val (.int p5), .val (.int (own_mask p5)), .val (.int (own_mx p1 p5)), .val (.int (own_mx p2 p5)), .val (.int (own_mx p3 p5)), .val (.int (own_md p5)), .val (.int (own_t p1 p2 p4 p5)), .val (.ref ob), .val (.int (1 : Int32)), .unset] [(.int (own_mx p2 p5)), (.ref ob)])) _
    exact k)
  obtain ⟨cq35, kq35, q35a, q35b, q35c⟩ := isOf hZ e30 TP23.1
  obtain ⟨_, _, ⟨T35, L35, k35, n35⟩, -, X35, ⟨Lc35, hQ35, l35, y35, z35⟩, st35⟩ := X30.virtualBack hx (y := (⟨"com/example/berchta/berchta/learn/NodeSet", "contains", "(I)Z"⟩ : MethodName)) (z := (⟨"com/example/berchta/berchta/learn/NodeSet", "contains", "(I)Z"⟩ : MethodName)) hown (mvT hZ (hw _ (List.mem_of_getElem? (i := 27) rfl))) (mvT hZ (hw _ (List.mem_of_getElem? (i := 28) rfl))) (notFace_of_selects (args := #[]) (mvT hZ (hw _ (List.mem_of_getElem? (i := 30) rfl)))) (mvT hZ (hw _ (List.mem_of_getElem? (i := 30) rfl))) (mvT hZ (hw _ (List.mem_of_getElem? (i := 29) rfl))) (by decide) (backOf (W := 0) (rm5 l Z a0 hw [] ob (own_mx p2 p5) w23 z23 (own_rem (own_add (own_add (own_add (fun _ => 0) (own_mx p1 p5)) (own_mx p2 p5)) (own_mx p3 p5)) (own_t p1 p2 p4 p5)) T24.heap n0 (Nat.le_trans g_ob (Nat.le_of_lt TP23.1.lt)) TP23.2.1 TP23.2.2.2.2.1 TP23.2.2.2.2.2.2.1) hZ (hw _ (List.mem_of_getElem? (i := 31) rfl)) (hw _ (List.mem_of_getElem? (i := 2) rfl)) (by decide) (by decide)) q35a q35c (g := (mkF m 187 #[.val (.int p1), .val (.int p2), .val (.int p3), .val (.int p4), .val (.int p5), .val (.int (own_mask p5)), .val (.int (own_mx p1 p5)), .val (.int (own_mx p2 p5)), .val (.int (own_mx p3 p5)), .val (.int (own_md p5)), .val (.int (own_t p1 p2 p4 p5)), .val (.ref ob), .val (.int (1 : Int32)), .unset] [(.int (own_mx p2 p5)), (.ref ob)])) rfl (by rw [hml]; rfl) (Steps.refl _) (argsL := [(.int (own_mx p2 p5))]) (rest := []) (lenOf pdx_6 rfl) rfl (by show 2 * 0 + _ ≤ _; exact Nat.le_of_eq rfl) (hb hby at_187) (fun _ _ => ⟨rfl, e30, (by decide : 17 + 0 ≤ _), (by decide : 790 + 0 ≤ _)⟩)
  dsimp only [Pt.U, Pt.locs, Pt.cells, Pt.slots] at X35 l35 y35 z35 st35 hQ35
  subst l35 y35 z35
  obtain ⟨rfl, N35q, e35⟩ := hQ35
  have N35 := Fr.app N30 N35q
  have pre36 : ∀ t, Steps p.tables e below (T35.setTop (mkF m 190 #[.val (.int p1), .val (.int p2), .val (.int p3), .val (.int p4), .val (.int p5), .val (.int (own_mask p5)), .val (.int (own_mx p1 p5)), .val (.int (own_mx p2 p5)), .val (.int (own_mx p3 p5)), .val (.int (own_md p5)), .val (.int (own_t p1 p2 p4 p5)), .val (.ref ob), .val (.int (1 : Int32)), .unset] [(.int (own_has (own_rem (own_add (own_add (own_add (fun _ => 0) (own_mx p1 p5)) (own_mx p2 p5)) (own_mx p3 p5)) (own_t p1 p2 p4 p5)) (own_mx p2 p5)))])) t → Steps p.tables e below (s₁.setTop (entryFrame m #[(.int p1), (.int p2), (.int p3), (.int p4), (.int p5)] maxLocals)) t := fun t k => pre34 t (by
    show Steps p.tables e below (T30.setTop (mkF m 187 #[.val (.int p1), .val (.int p2), .val (.int p3), .val (.int p4), .val (.int p5), .val (.int (own_mask p5)), .val (.int (own_mx p1 p5)), .val (.int (own_mx p2 p5)), .val (.int (own_mx p3 p5)), .val (.int (own_md p5)), .val (.int (own_t p1 p2 p4 p5)), .val (.ref ob), .val (.int (1 : Int32)), .unset] [(.int (own_mx p2 p5)), (.ref ob)])) t
    refine st35.trans ?_
    show Steps p.tables e below (T35.setTop (mkF m 190 #[.val (.int p1), .val (.int p2), .val (.int p3), .val (.int p4), .val (.int p5), .val (.int (own_mask p5)), .val (.int (own_mx p1 p5)), .val (.int (own_mx p2 p5)), .val (.int (own_mx p3 p5)), .val (.int (own_md p5)), .val (.int (own_t p1 p2 p4 p5)), .val (.ref ob), .val (.int (1 : Int32)), .unset] [(.int (own_has (own_rem (own_add (own_add (own_add (fun _ => 0) (own_mx p1 p5)) (own_mx p2 p5)) (own_mx p3 p5)) (own_t p1 p2 p4 p5)) (own_mx p2 p5)))])) t
    exact k)
  have pre37 : ∀ t, Steps p.tables e below (T35.setTop (mkF m 194 #[.val (.int p1), .val (.int p2), .val (.int p3), .val (.int p4), .val (.int p5), .val (.int (own_mask p5)), .val (.int (own_mx p1 p5)), .val (.int (own_mx p2 p5)), .val (.int (own_mx p3 p5)), .val (.int (own_md p5)), .val (.int (own_t p1 p2 p4 p5)), .val (.ref ob), .val (.int (1 : Int32)), .unset] [(.int (own_t p1 p2 p4 p5)), (.int (own_mx p2 p5)), (.int (own_has (own_rem (own_add (own_add (own_add (fun _ => 0) (own_mx p1 p5)) (own_mx p2 p5)) (own_mx p3 p5)) (own_t p1 p2 p4 p5)) (own_mx p2 p5)))])) t → Steps p.tables e below (s₁.setTop (entryFrame m #[(.int p1), (.int p2), (.int p3), (.int p4), (.int p5)] maxLocals)) t := fun t k => pre36 t (by
    show Steps p.tables e below (T35.setTop (mkF m 190 #[.val (.int p1), .val (.int p2), .val (.int p3), .val (.int p4), .val (.int p5), .val (.int (own_mask p5)), .val (.int (own_mx p1 p5)), .val (.int (own_mx p2 p5)), .val (.int (own_mx p3 p5)), .val (.int (own_md p5)), .val (.int (own_t p1 p2 p4 p5)), .val (.ref ob), .val (.int (1 : Int32)), .unset] [(.int (own_has (own_rem (own_add (own_add (own_add (fun _ => 0) (own_mx p1 p5)) (own_mx p2 p5)) (own_mx p3 p5)) (own_t p1 p2 p4 p5)) (own_mx p2 p5)))])) _
    refine XS.iload X35.here hx rfl (hb hby at_190) rfl ?_
    show Steps p.tables e below (T35.setTop (mkF m 192 #[.val (.int p1), .val (.int p2), .val (.int p3), .val (.int p4), .val (.int p5), .val (.int (own_mask p5)), .val (.int (own_mx p1 p5)), .val (.int (own_mx p2 p5)), .val (.int (own_mx p3 p5)), .val (.int (own_md p5)), .val (.int (own_t p1 p2 p4 p5)), .val (.ref ob), .val (.int (1 : Int32)), .unset] [(.int (own_mx p2 p5)), (.int (own_has (own_rem (own_add (own_add (own_add (fun _ => 0) (own_mx p1 p5)) (own_mx p2 p5)) (own_mx p3 p5)) (own_t p1 p2 p4 p5)) (own_mx p2 p5)))])) _
    refine XS.iload X35.here hx rfl (hb hby at_192) rfl ?_
    show Steps p.tables e below (T35.setTop (mkF m 194 #[.val (.int p1), .val (.int p2), .val (.int p3), .val (.int p4), .val (.int p5), .val (.int (own_mask p5)), .val (.int (own_mx p1 p5)), .val (.int (own_mx p2 p5)), .val (.int (own_mx p3 p5)), .val (.int (own_md p5)), .val (.int (own_t p1 p2 p4 p5)), .val (.ref ob), .val (.int (1 : Int32)), .unset] [(.int (own_t p1 p2 p4 p5)), (.int (own_mx p2 p5)), (.int (own_has (own_rem (own_add (own_add (own_add (fun _ => 0) (own_mx p1 p5)) (own_mx p2 p5)) (own_mx p3 p5)) (own_t p1 p2 p4 p5)) (own_mx p2 p5)))])) _
    exact k)
  have pre38 : ∀ t, Steps p.tables e below (T35.setTop (mkF m 202 #[.val (.int p1), .val (.int p2), .val (.int p3), .val (.int p4), .val (.int p5), .val (.int (own_mask p5)), .val (.int (own_mx p1 p5)), .val (.int (own_mx p2 p5)), .val (.int (own_mx p3 p5)), .val (.int (own_md p5)), .val (.int (own_t p1 p2 p4 p5)), .val (.ref ob), .val (.int (1 : Int32)), .unset] [(.int (own_ne (own_mx p2 p5) (own_t p1 p2 p4 p5))), (.int (own_has (own_rem (own_add (own_add (own_add (fun _ => 0) (own_mx p1 p5)) (own_mx p2 p5)) (own_mx p3 p5)) (own_t p1 p2 p4 p5)) (own_mx p2 p5)))])) t → Steps p.tables e below (s₁.setTop (entryFrame m #[(.int p1), (.int p2), (.int p3), (.int p4), (.int p5)] maxLocals)) t := fun t k => pre37 t (by
    by_cases hc : (own_mx p2 p5) = (own_t p1 p2 p4 p5)
    · skip
      show Steps p.tables e below (T35.setTop (mkF m 194 #[.val (.int p1), .val (.int p2), .val (.int p3), .val (.int p4), .val (.int p5), .val (.int (own_mask p5)), .val (.int (own_mx p1 p5)), .val (.int (own_mx p2 p5)), .val (.int (own_mx p3 p5)), .val (.int (own_md p5)), .val (.int (own_t p1 p2 p4 p5)), .val (.ref ob), .val (.int (1 : Int32)), .unset] [(.int (own_t p1 p2 p4 p5)), (.int (own_mx p2 p5)), (.int (own_has (own_rem (own_add (own_add (own_add (fun _ => 0) (own_mx p1 p5)) (own_mx p2 p5)) (own_mx p3 p5)) (own_t p1 p2 p4 p5)) (own_mx p2 p5)))])) _
      refine XS.icmpYes X35.here hx rfl (pc0 := 194) (pc' := 201) rfl (hb hby at_194) rfl (teq hc).1 (by decide) (by decide) ?_
      show Steps p.tables e below (T35.setTop (mkF m 201 #[.val (.int p1), .val (.int p2), .val (.int p3), .val (.int p4), .val (.int p5), .val (.int (own_mask p5)), .val (.int (own_mx p1 p5)), .val (.int (own_mx p2 p5)), .val (.int (own_mx p3 p5)), .val (.int (own_md p5)), .val (.int (own_t p1 p2 p4 p5)), .val (.ref ob), .val (.int (1 : Int32)), .unset] [(.int (own_has (own_rem (own_add (own_add (own_add (fun _ => 0) (own_mx p1 p5)) (own_mx p2 p5)) (own_mx p3 p5)) (own_t p1 p2 p4 p5)) (own_mx p2 p5)))])) _
      refine XS.iconst X35.here hx rfl (hb hby at_201) ?_
      show Steps p.tables e below (T35.setTop (mkF m 202 #[.val (.int p1), .val (.int p2), .val (.int p3), .val (.int p4), .val (.int p5), .val (.int (own_mask p5)), .val (.int (own_mx p1 p5)), .val (.int (own_mx p2 p5)), .val (.int (own_mx p3 p5)), .val (.int (own_md p5)), .val (.int (own_t p1 p2 p4 p5)), .val (.ref ob), .val (.int (1 : Int32)), .unset] [(.int (0 : Int32)), (.int (own_has (own_rem (own_add (own_add (own_add (fun _ => 0) (own_mx p1 p5)) (own_mx p2 p5)) (own_mx p3 p5)) (own_t p1 p2 p4 p5)) (own_mx p2 p5)))])) _
      rw [show (own_ne (own_mx p2 p5) (own_t p1 p2 p4 p5)) = (0 : Int32) from if_pos hc] at k
      exact k
    · skip
      show Steps p.tables e below (T35.setTop (mkF m 194 #[.val (.int p1), .val (.int p2), .val (.int p3), .val (.int p4), .val (.int p5), .val (.int (own_mask p5)), .val (.int (own_mx p1 p5)), .val (.int (own_mx p2 p5)), .val (.int (own_mx p3 p5)), .val (.int (own_md p5)), .val (.int (own_t p1 p2 p4 p5)), .val (.ref ob), .val (.int (1 : Int32)), .unset] [(.int (own_t p1 p2 p4 p5)), (.int (own_mx p2 p5)), (.int (own_has (own_rem (own_add (own_add (own_add (fun _ => 0) (own_mx p1 p5)) (own_mx p2 p5)) (own_mx p3 p5)) (own_t p1 p2 p4 p5)) (own_mx p2 p5)))])) _
      refine XS.icmpNo X35.here hx rfl (hb hby at_194) rfl (feq hc).1 ?_
      show Steps p.tables e below (T35.setTop (mkF m 197 #[.val (.int p1), .val (.int p2), .val (.int p3), .val (.int p4), .val (.int p5), .val (.int (own_mask p5)), .val (.int (own_mx p1 p5)), .val (.int (own_mx p2 p5)), .val (.int (own_mx p3 p5)), .val (.int (own_md p5)), .val (.int (own_t p1 p2 p4 p5)), .val (.ref ob), .val (.int (1 : Int32)), .unset] [(.int (own_has (own_rem (own_add (own_add (own_add (fun _ => 0) (own_mx p1 p5)) (own_mx p2 p5)) (own_mx p3 p5)) (own_t p1 p2 p4 p5)) (own_mx p2 p5)))])) _
      refine XS.iconst X35.here hx rfl (hb hby at_197) ?_
      show Steps p.tables e below (T35.setTop (mkF m 198 #[.val (.int p1), .val (.int p2), .val (.int p3), .val (.int p4), .val (.int p5), .val (.int (own_mask p5)), .val (.int (own_mx p1 p5)), .val (.int (own_mx p2 p5)), .val (.int (own_mx p3 p5)), .val (.int (own_md p5)), .val (.int (own_t p1 p2 p4 p5)), .val (.ref ob), .val (.int (1 : Int32)), .unset] [(.int (1 : Int32)), (.int (own_has (own_rem (own_add (own_add (own_add (fun _ => 0) (own_mx p1 p5)) (own_mx p2 p5)) (own_mx p3 p5)) (own_t p1 p2 p4 p5)) (own_mx p2 p5)))])) _
      refine XS.goto X35.here hx rfl (pc0 := 198) (pc' := 202) rfl (hb hby at_198) (by decide) (by decide) ?_
      show Steps p.tables e below (T35.setTop (mkF m 202 #[.val (.int p1), .val (.int p2), .val (.int p3), .val (.int p4), .val (.int p5), .val (.int (own_mask p5)), .val (.int (own_mx p1 p5)), .val (.int (own_mx p2 p5)), .val (.int (own_mx p3 p5)), .val (.int (own_md p5)), .val (.int (own_t p1 p2 p4 p5)), .val (.ref ob), .val (.int (1 : Int32)), .unset] [(.int (1 : Int32)), (.int (own_has (own_rem (own_add (own_add (own_add (fun _ => 0) (own_mx p1 p5)) (own_mx p2 p5)) (own_mx p3 p5)) (own_t p1 p2 p4 p5)) (own_mx p2 p5)))])) _
      rw [show (own_ne (own_mx p2 p5) (own_t p1 p2 p4 p5)) = (1 : Int32) from if_neg hc] at k
      exact k)
  have pre39 : ∀ t, Steps p.tables e below (T35.setTop (mkF m 221 #[.val (.int p1), .val (.int p2), .val (.int p3), .val (.int p4), .val (.int p5), .val (.int (own_mask p5)), .val (.int (own_mx p1 p5)), .val (.int (own_mx p2 p5)), .val (.int (own_mx p3 p5)), .val (.int (own_md p5)), .val (.int (own_t p1 p2 p4 p5)), .val (.ref ob), .val (.int (1 : Int32)), .unset] [(.int (own_mx p3 p5)), (.ref ob)])) t → Steps p.tables e below (s₁.setTop (entryFrame m #[(.int p1), (.int p2), (.int p3), (.int p4), (.int p5)] maxLocals)) t := fun t k => pre38 t (by
    show Steps p.tables e below (T35.setTop (mkF m 202 #[.val (.int p1), .val (.int p2), .val (.int p3), .val (.int p4), .val (.int p5), .val (.int (own_mask p5)), .val (.int (own_mx p1 p5)), .val (.int (own_mx p2 p5)), .val (.int (own_mx p3 p5)), .val (.int (own_md p5)), .val (.int (own_t p1 p2 p4 p5)), .val (.ref ob), .val (.int (1 : Int32)), .unset] [(.int (own_ne (own_mx p2 p5) (own_t p1 p2 p4 p5))), (.int (own_has (own_rem (own_add (own_add (own_add (fun _ => 0) (own_mx p1 p5)) (own_mx p2 p5)) (own_mx p3 p5)) (own_t p1 p2 p4 p5)) (own_mx p2 p5)))])) _
    refine XS.icmpNo X35.here hx rfl (hb hby at_202) rfl (teq (own_has_x (own_in2 _ _ _))).2 ?_
    show Steps p.tables e below (T35.setTop (mkF m 205 #[.val (.int p1), .val (.int p2), .val (.int p3), .val (.int p4), .val (.int p5), .val (.int (own_mask p5)), .val (.int (own_mx p1 p5)), .val (.int (own_mx p2 p5)), .val (.int (own_mx p3 p5)), .val (.int (own_md p5)), .val (.int (own_t p1 p2 p4 p5)), .val (.ref ob), .val (.int (1 : Int32)), .unset] [])) _
    refine XS.iconst X35.here hx rfl (hb hby at_205) ?_
    show Steps p.tables e below (T35.setTop (mkF m 206 #[.val (.int p1), .val (.int p2), .val (.int p3), .val (.int p4), .val (.int p5), .val (.int (own_mask p5)), .val (.int (own_mx p1 p5)), .val (.int (own_mx p2 p5)), .val (.int (own_mx p3 p5)), .val (.int (own_md p5)), .val (.int (own_t p1 p2 p4 p5)), .val (.ref ob), .val (.int (1 : Int32)), .unset] [(.int (1 : Int32))])) _
    refine XS.goto X35.here hx rfl (pc0 := 206) (pc' := 210) rfl (hb hby at_206) (by decide) (by decide) ?_
    show Steps p.tables e below (T35.setTop (mkF m 210 #[.val (.int p1), .val (.int p2), .val (.int p3), .val (.int p4), .val (.int p5), .val (.int (own_mask p5)), .val (.int (own_mx p1 p5)), .val (.int (own_mx p2 p5)), .val (.int (own_mx p3 p5)), .val (.int (own_md p5)), .val (.int (own_t p1 p2 p4 p5)), .val (.ref ob), .val (.int (1 : Int32)), .unset] [(.int (1 : Int32))])) _
    refine XS.istore X35.here hx rfl (hb hby at_210) rfl (l' := #[.val (.int p1), .val (.int p2), .val (.int p3), .val (.int p4), .val (.int p5), .val (.int (own_mask p5)), .val (.int (own_mx p1 p5)), .val (.int (own_mx p2 p5)), .val (.int (own_mx p3 p5)), .val (.int (own_md p5)), .val (.int (own_t p1 p2 p4 p5)), .val (.ref ob), .val (.int (1 : Int32)), .unset]) rfl ?_
    show Steps p.tables e below (T35.setTop (mkF m 212 #[.val (.int p1), .val (.int p2), .val (.int p3), .val (.int p4), .val (.int p5), .val (.int (own_mask p5)), .val (.int (own_mx p1 p5)), .val (.int (own_mx p2 p5)), .val (.int (own_mx p3 p5)), .val (.int (own_md p5)), .val (.int (own_t p1 p2 p4 p5)), .val (.ref ob), .val (.int (1 : Int32)), .unset] [])) _
    refine XS.iload X35.here hx rfl (hb hby at_212) rfl ?_
    show Steps p.tables e below (T35.setTop (mkF m 214 #[.val (.int p1), .val (.int p2), .val (.int p3), .val (.int p4), .val (.int p5), .val (.int (own_mask p5)), .val (.int (own_mx p1 p5)), .val (.int (own_mx p2 p5)), .val (.int (own_mx p3 p5)), .val (.int (own_md p5)), .val (.int (own_t p1 p2 p4 p5)), .val (.ref ob), .val (.int (1 : Int32)), .unset] [(.int (1 : Int32))])) _
    refine XS.ifNo X35.here hx rfl (hb hby at_214) rfl ((if0 _ _).trans (feq (by decide)).1) ?_
    show Steps p.tables e below (T35.setTop (mkF m 217 #[.val (.int p1), .val (.int p2), .val (.int p3), .val (.int p4), .val (.int p5), .val (.int (own_mask p5)), .val (.int (own_mx p1 p5)), .val (.int (own_mx p2 p5)), .val (.int (own_mx p3 p5)), .val (.int (own_md p5)), .val (.int (own_t p1 p2 p4 p5)), .val (.ref ob), .val (.int (1 : Int32)), .unset] [])) _
    refine XS.aload X35.here hx rfl (hb hby at_217) rfl rfl ?_
    show Steps p.tables e below (T35.setTop (mkF m 219 #[.val (.int p1), .val (.int p2), .val (.int p3), .val (.int p4), .val (.int p5), .val (.int (own_mask p5)), .val (.int (own_mx p1 p5)), .val (.int (own_mx p2 p5)), .val (.int (own_mx p3 p5)), .val (.int (own_md p5)), .val (.int (own_t p1 p2 p4 p5)), .val (.ref ob), .val (.int (1 : Int32)), .unset] [(.ref ob)])) _
    refine XS.iload X35.here hx rfl (hb hby at_219) rfl ?_
    show Steps p.tables e below (T35.setTop (mkF m 221 #[.val (.int p1), .val (.int p2), .val (.int p3), .val (.int p4), .val (.int p5), .val (.int (own_mask p5)), .val (.int (own_mx p1 p5)), .val (.int (own_mx p2 p5)), .val (.int (own_mx p3 p5)), .val (.int (own_md p5)), .val (.int (own_t p1 p2 p4 p5)), .val (.ref ob), .val (.int (1 : Int32)), .unset] [(.int (own_mx p3 p5)), (.ref ob)])) _
    exact k)
  obtain ⟨cq40, kq40, q40a, q40b, q40c⟩ := isOf hZ e35 TP23.1
  obtain ⟨_, _, ⟨T40, L40, k40, n40⟩, -, X40, ⟨Lc40, hQ40, l40, y40, z40⟩, st40⟩ := X35.virtualBack hx (y := (⟨"com/example/berchta/berchta/learn/NodeSet", "contains", "(I)Z"⟩ : MethodName)) (z := (⟨"com/example/berchta/berchta/learn/NodeSet", "contains", "(I)Z"⟩ : MethodName)) hown (mvT hZ (hw _ (List.mem_of_getElem? (i := 27) rfl))) (mvT hZ (hw _ (List.mem_of_getElem? (i := 28) rfl))) (notFace_of_selects (args := #[]) (mvT hZ (hw _ (List.mem_of_getElem? (i := 30) rfl)))) (mvT hZ (hw _ (List.mem_of_getElem? (i := 30) rfl))) (mvT hZ (hw _ (List.mem_of_getElem? (i := 29) rfl))) (by decide) (backOf (W := 0) (rm5 l Z a0 hw [] ob (own_mx p3 p5) w23 z23 (own_rem (own_add (own_add (own_add (fun _ => 0) (own_mx p1 p5)) (own_mx p2 p5)) (own_mx p3 p5)) (own_t p1 p2 p4 p5)) T24.heap n0 (Nat.le_trans g_ob (Nat.le_of_lt TP23.1.lt)) TP23.2.1 TP23.2.2.2.2.1 TP23.2.2.2.2.2.2.1) hZ (hw _ (List.mem_of_getElem? (i := 31) rfl)) (hw _ (List.mem_of_getElem? (i := 2) rfl)) (by decide) (by decide)) q40a q40c (g := (mkF m 221 #[.val (.int p1), .val (.int p2), .val (.int p3), .val (.int p4), .val (.int p5), .val (.int (own_mask p5)), .val (.int (own_mx p1 p5)), .val (.int (own_mx p2 p5)), .val (.int (own_mx p3 p5)), .val (.int (own_md p5)), .val (.int (own_t p1 p2 p4 p5)), .val (.ref ob), .val (.int (1 : Int32)), .unset] [(.int (own_mx p3 p5)), (.ref ob)])) rfl (by rw [hml]; rfl) (Steps.refl _) (argsL := [(.int (own_mx p3 p5))]) (rest := []) (lenOf pdx_6 rfl) rfl (by show 2 * 0 + _ ≤ _; exact Nat.le_of_eq rfl) (hb hby at_221) (fun _ _ => ⟨rfl, e35, (by decide : 17 + 0 ≤ _), (by decide : 790 + 0 ≤ _)⟩)
  dsimp only [Pt.U, Pt.locs, Pt.cells, Pt.slots] at X40 l40 y40 z40 st40 hQ40
  subst l40 y40 z40
  obtain ⟨rfl, N40q, e40⟩ := hQ40
  have N40 := Fr.app N35 N40q
  have pre41 : ∀ t, Steps p.tables e below (T40.setTop (mkF m 224 #[.val (.int p1), .val (.int p2), .val (.int p3), .val (.int p4), .val (.int p5), .val (.int (own_mask p5)), .val (.int (own_mx p1 p5)), .val (.int (own_mx p2 p5)), .val (.int (own_mx p3 p5)), .val (.int (own_md p5)), .val (.int (own_t p1 p2 p4 p5)), .val (.ref ob), .val (.int (1 : Int32)), .unset] [(.int (own_has (own_rem (own_add (own_add (own_add (fun _ => 0) (own_mx p1 p5)) (own_mx p2 p5)) (own_mx p3 p5)) (own_t p1 p2 p4 p5)) (own_mx p3 p5)))])) t → Steps p.tables e below (s₁.setTop (entryFrame m #[(.int p1), (.int p2), (.int p3), (.int p4), (.int p5)] maxLocals)) t := fun t k => pre39 t (by
    show Steps p.tables e below (T35.setTop (mkF m 221 #[.val (.int p1), .val (.int p2), .val (.int p3), .val (.int p4), .val (.int p5), .val (.int (own_mask p5)), .val (.int (own_mx p1 p5)), .val (.int (own_mx p2 p5)), .val (.int (own_mx p3 p5)), .val (.int (own_md p5)), .val (.int (own_t p1 p2 p4 p5)), .val (.ref ob), .val (.int (1 : Int32)), .unset] [(.int (own_mx p3 p5)), (.ref ob)])) t
    refine st40.trans ?_
    show Steps p.tables e below (T40.setTop (mkF m 224 #[.val (.int p1), .val (.int p2), .val (.int p3), .val (.int p4), .val (.int p5), .val (.int (own_mask p5)), .val (.int (own_mx p1 p5)), .val (.int (own_mx p2 p5)), .val (.int (own_mx p3 p5)), .val (.int (own_md p5)), .val (.int (own_t p1 p2 p4 p5)), .val (.ref ob), .val (.int (1 : Int32)), .unset] [(.int (own_has (own_rem (own_add (own_add (own_add (fun _ => 0) (own_mx p1 p5)) (own_mx p2 p5)) (own_mx p3 p5)) (own_t p1 p2 p4 p5)) (own_mx p3 p5)))])) t
    exact k)
  have pre42 : ∀ t, Steps p.tables e below (T40.setTop (mkF m 228 #[.val (.int p1), .val (.int p2), .val (.int p3), .val (.int p4), .val (.int p5), .val (.int (own_mask p5)), .val (.int (own_mx p1 p5)), .val (.int (own_mx p2 p5)), .val (.int (own_mx p3 p5)), .val (.int (own_md p5)), .val (.int (own_t p1 p2 p4 p5)), .val (.ref ob), .val (.int (1 : Int32)), .unset] [(.int (own_t p1 p2 p4 p5)), (.int (own_mx p3 p5)), (.int (own_has (own_rem (own_add (own_add (own_add (fun _ => 0) (own_mx p1 p5)) (own_mx p2 p5)) (own_mx p3 p5)) (own_t p1 p2 p4 p5)) (own_mx p3 p5)))])) t → Steps p.tables e below (s₁.setTop (entryFrame m #[(.int p1), (.int p2), (.int p3), (.int p4), (.int p5)] maxLocals)) t := fun t k => pre41 t (by
    show Steps p.tables e below (T40.setTop (mkF m 224 #[.val (.int p1), .val (.int p2), .val (.int p3), .val (.int p4), .val (.int p5), .val (.int (own_mask p5)), .val (.int (own_mx p1 p5)), .val (.int (own_mx p2 p5)), .val (.int (own_mx p3 p5)), .val (.int (own_md p5)), .val (.int (own_t p1 p2 p4 p5)), .val (.ref ob), .val (.int (1 : Int32)), .unset] [(.int (own_has (own_rem (own_add (own_add (own_add (fun _ => 0) (own_mx p1 p5)) (own_mx p2 p5)) (own_mx p3 p5)) (own_t p1 p2 p4 p5)) (own_mx p3 p5)))])) _
    refine XS.iload X40.here hx rfl (hb hby at_224) rfl ?_
    show Steps p.tables e below (T40.setTop (mkF m 226 #[.val (.int p1), .val (.int p2), .val (.int p3), .val (.int p4), .val (.int p5), .val (.int (own_mask p5)), .val (.int (own_mx p1 p5)), .val (.int (own_mx p2 p5)), .val (.int (own_mx p3 p5)), .val (.int (own_md p5)), .val (.int (own_t p1 p2 p4 p5)), .val (.ref ob), .val (.int (1 : Int32)), .unset] [(.int (own_mx p3 p5)), (.int (own_has (own_rem (own_add (own_add (own_add (fun _ => 0) (own_mx p1 p5)) (own_mx p2 p5)) (own_mx p3 p5)) (own_t p1 p2 p4 p5)) (own_mx p3 p5)))])) _
    refine XS.iload X40.here hx rfl (hb hby at_226) rfl ?_
    show Steps p.tables e below (T40.setTop (mkF m 228 #[.val (.int p1), .val (.int p2), .val (.int p3), .val (.int p4), .val (.int p5), .val (.int (own_mask p5)), .val (.int (own_mx p1 p5)), .val (.int (own_mx p2 p5)), .val (.int (own_mx p3 p5)), .val (.int (own_md p5)), .val (.int (own_t p1 p2 p4 p5)), .val (.ref ob), .val (.int (1 : Int32)), .unset] [(.int (own_t p1 p2 p4 p5)), (.int (own_mx p3 p5)), (.int (own_has (own_rem (own_add (own_add (own_add (fun _ => 0) (own_mx p1 p5)) (own_mx p2 p5)) (own_mx p3 p5)) (own_t p1 p2 p4 p5)) (own_mx p3 p5)))])) _
    exact k)
  have pre43 : ∀ t, Steps p.tables e below (T40.setTop (mkF m 236 #[.val (.int p1), .val (.int p2), .val (.int p3), .val (.int p4), .val (.int p5), .val (.int (own_mask p5)), .val (.int (own_mx p1 p5)), .val (.int (own_mx p2 p5)), .val (.int (own_mx p3 p5)), .val (.int (own_md p5)), .val (.int (own_t p1 p2 p4 p5)), .val (.ref ob), .val (.int (1 : Int32)), .unset] [(.int (own_ne (own_mx p3 p5) (own_t p1 p2 p4 p5))), (.int (own_has (own_rem (own_add (own_add (own_add (fun _ => 0) (own_mx p1 p5)) (own_mx p2 p5)) (own_mx p3 p5)) (own_t p1 p2 p4 p5)) (own_mx p3 p5)))])) t → Steps p.tables e below (s₁.setTop (entryFrame m #[(.int p1), (.int p2), (.int p3), (.int p4), (.int p5)] maxLocals)) t := fun t k => pre42 t (by
    by_cases hc : (own_mx p3 p5) = (own_t p1 p2 p4 p5)
    · skip
      show Steps p.tables e below (T40.setTop (mkF m 228 #[.val (.int p1), .val (.int p2), .val (.int p3), .val (.int p4), .val (.int p5), .val (.int (own_mask p5)), .val (.int (own_mx p1 p5)), .val (.int (own_mx p2 p5)), .val (.int (own_mx p3 p5)), .val (.int (own_md p5)), .val (.int (own_t p1 p2 p4 p5)), .val (.ref ob), .val (.int (1 : Int32)), .unset] [(.int (own_t p1 p2 p4 p5)), (.int (own_mx p3 p5)), (.int (own_has (own_rem (own_add (own_add (own_add (fun _ => 0) (own_mx p1 p5)) (own_mx p2 p5)) (own_mx p3 p5)) (own_t p1 p2 p4 p5)) (own_mx p3 p5)))])) _
      refine XS.icmpYes X40.here hx rfl (pc0 := 228) (pc' := 235) rfl (hb hby at_228) rfl (teq hc).1 (by decide) (by decide) ?_
      show Steps p.tables e below (T40.setTop (mkF m 235 #[.val (.int p1), .val (.int p2), .val (.int p3), .val (.int p4), .val (.int p5), .val (.int (own_mask p5)), .val (.int (own_mx p1 p5)), .val (.int (own_mx p2 p5)), .val (.int (own_mx p3 p5)), .val (.int (own_md p5)), .val (.int (own_t p1 p2 p4 p5)), .val (.ref ob), .val (.int (1 : Int32)), .unset] [(.int (own_has (own_rem (own_add (own_add (own_add (fun _ => 0) (own_mx p1 p5)) (own_mx p2 p5)) (own_mx p3 p5)) (own_t p1 p2 p4 p5)) (own_mx p3 p5)))])) _
      refine XS.iconst X40.here hx rfl (hb hby at_235) ?_
      show Steps p.tables e below (T40.setTop (mkF m 236 #[.val (.int p1), .val (.int p2), .val (.int p3), .val (.int p4), .val (.int p5), .val (.int (own_mask p5)), .val (.int (own_mx p1 p5)), .val (.int (own_mx p2 p5)), .val (.int (own_mx p3 p5)), .val (.int (own_md p5)), .val (.int (own_t p1 p2 p4 p5)), .val (.ref ob), .val (.int (1 : Int32)), .unset] [(.int (0 : Int32)), (.int (own_has (own_rem (own_add (own_add (own_add (fun _ => 0) (own_mx p1 p5)) (own_mx p2 p5)) (own_mx p3 p5)) (own_t p1 p2 p4 p5)) (own_mx p3 p5)))])) _
      rw [show (own_ne (own_mx p3 p5) (own_t p1 p2 p4 p5)) = (0 : Int32) from if_pos hc] at k
      exact k
    · skip
      show Steps p.tables e below (T40.setTop (mkF m 228 #[.val (.int p1), .val (.int p2), .val (.int p3), .val (.int p4), .val (.int p5), .val (.int (own_mask p5)), .val (.int (own_mx p1 p5)), .val (.int (own_mx p2 p5)), .val (.int (own_mx p3 p5)), .val (.int (own_md p5)), .val (.int (own_t p1 p2 p4 p5)), .val (.ref ob), .val (.int (1 : Int32)), .unset] [(.int (own_t p1 p2 p4 p5)), (.int (own_mx p3 p5)), (.int (own_has (own_rem (own_add (own_add (own_add (fun _ => 0) (own_mx p1 p5)) (own_mx p2 p5)) (own_mx p3 p5)) (own_t p1 p2 p4 p5)) (own_mx p3 p5)))])) _
      refine XS.icmpNo X40.here hx rfl (hb hby at_228) rfl (feq hc).1 ?_
      show Steps p.tables e below (T40.setTop (mkF m 231 #[.val (.int p1), .val (.int p2), .val (.int p3), .val (.int p4), .val (.int p5), .val (.int (own_mask p5)), .val (.int (own_mx p1 p5)), .val (.int (own_mx p2 p5)), .val (.int (own_mx p3 p5)), .val (.int (own_md p5)), .val (.int (own_t p1 p2 p4 p5)), .val (.ref ob), .val (.int (1 : Int32)), .unset] [(.int (own_has (own_rem (own_add (own_add (own_add (fun _ => 0) (own_mx p1 p5)) (own_mx p2 p5)) (own_mx p3 p5)) (own_t p1 p2 p4 p5)) (own_mx p3 p5)))])) _
      refine XS.iconst X40.here hx rfl (hb hby at_231) ?_
      show Steps p.tables e below (T40.setTop (mkF m 232 #[.val (.int p1), .val (.int p2), .val (.int p3), .val (.int p4), .val (.int p5), .val (.int (own_mask p5)), .val (.int (own_mx p1 p5)), .val (.int (own_mx p2 p5)), .val (.int (own_mx p3 p5)), .val (.int (own_md p5)), .val (.int (own_t p1 p2 p4 p5)), .val (.ref ob), .val (.int (1 : Int32)), .unset] [(.int (1 : Int32)), (.int (own_has (own_rem (own_add (own_add (own_add (fun _ => 0) (own_mx p1 p5)) (own_mx p2 p5)) (own_mx p3 p5)) (own_t p1 p2 p4 p5)) (own_mx p3 p5)))])) _
      refine XS.goto X40.here hx rfl (pc0 := 232) (pc' := 236) rfl (hb hby at_232) (by decide) (by decide) ?_
      show Steps p.tables e below (T40.setTop (mkF m 236 #[.val (.int p1), .val (.int p2), .val (.int p3), .val (.int p4), .val (.int p5), .val (.int (own_mask p5)), .val (.int (own_mx p1 p5)), .val (.int (own_mx p2 p5)), .val (.int (own_mx p3 p5)), .val (.int (own_md p5)), .val (.int (own_t p1 p2 p4 p5)), .val (.ref ob), .val (.int (1 : Int32)), .unset] [(.int (1 : Int32)), (.int (own_has (own_rem (own_add (own_add (own_add (fun _ => 0) (own_mx p1 p5)) (own_mx p2 p5)) (own_mx p3 p5)) (own_t p1 p2 p4 p5)) (own_mx p3 p5)))])) _
      rw [show (own_ne (own_mx p3 p5) (own_t p1 p2 p4 p5)) = (1 : Int32) from if_neg hc] at k
      exact k)
  have pre44 : ∀ t, Steps p.tables e below (T40.setTop (mkF m 250 #[.val (.int p1), .val (.int p2), .val (.int p3), .val (.int p4), .val (.int p5), .val (.int (own_mask p5)), .val (.int (own_mx p1 p5)), .val (.int (own_mx p2 p5)), .val (.int (own_mx p3 p5)), .val (.int (own_md p5)), .val (.int (own_t p1 p2 p4 p5)), .val (.ref ob), .val (.int (1 : Int32)), .unset] [(.int (own_t p1 p2 p4 p5)), (.int (own_mx p1 p5))])) t → Steps p.tables e below (s₁.setTop (entryFrame m #[(.int p1), (.int p2), (.int p3), (.int p4), (.int p5)] maxLocals)) t := fun t k => pre43 t (by
    show Steps p.tables e below (T40.setTop (mkF m 236 #[.val (.int p1), .val (.int p2), .val (.int p3), .val (.int p4), .val (.int p5), .val (.int (own_mask p5)), .val (.int (own_mx p1 p5)), .val (.int (own_mx p2 p5)), .val (.int (own_mx p3 p5)), .val (.int (own_md p5)), .val (.int (own_t p1 p2 p4 p5)), .val (.ref ob), .val (.int (1 : Int32)), .unset] [(.int (own_ne (own_mx p3 p5) (own_t p1 p2 p4 p5))), (.int (own_has (own_rem (own_add (own_add (own_add (fun _ => 0) (own_mx p1 p5)) (own_mx p2 p5)) (own_mx p3 p5)) (own_t p1 p2 p4 p5)) (own_mx p3 p5)))])) _
    refine XS.icmpNo X40.here hx rfl (hb hby at_236) rfl (teq (own_has_x (own_in3 _ _ _))).2 ?_
    show Steps p.tables e below (T40.setTop (mkF m 239 #[.val (.int p1), .val (.int p2), .val (.int p3), .val (.int p4), .val (.int p5), .val (.int (own_mask p5)), .val (.int (own_mx p1 p5)), .val (.int (own_mx p2 p5)), .val (.int (own_mx p3 p5)), .val (.int (own_md p5)), .val (.int (own_t p1 p2 p4 p5)), .val (.ref ob), .val (.int (1 : Int32)), .unset] [])) _
    refine XS.iconst X40.here hx rfl (hb hby at_239) ?_
    show Steps p.tables e below (T40.setTop (mkF m 240 #[.val (.int p1), .val (.int p2), .val (.int p3), .val (.int p4), .val (.int p5), .val (.int (own_mask p5)), .val (.int (own_mx p1 p5)), .val (.int (own_mx p2 p5)), .val (.int (own_mx p3 p5)), .val (.int (own_md p5)), .val (.int (own_t p1 p2 p4 p5)), .val (.ref ob), .val (.int (1 : Int32)), .unset] [(.int (1 : Int32))])) _
    refine XS.goto X40.here hx rfl (pc0 := 240) (pc' := 244) rfl (hb hby at_240) (by decide) (by decide) ?_
    show Steps p.tables e below (T40.setTop (mkF m 244 #[.val (.int p1), .val (.int p2), .val (.int p3), .val (.int p4), .val (.int p5), .val (.int (own_mask p5)), .val (.int (own_mx p1 p5)), .val (.int (own_mx p2 p5)), .val (.int (own_mx p3 p5)), .val (.int (own_md p5)), .val (.int (own_t p1 p2 p4 p5)), .val (.ref ob), .val (.int (1 : Int32)), .unset] [(.int (1 : Int32))])) _
    refine XS.istore X40.here hx rfl (hb hby at_244) rfl (l' := #[.val (.int p1), .val (.int p2), .val (.int p3), .val (.int p4), .val (.int p5), .val (.int (own_mask p5)), .val (.int (own_mx p1 p5)), .val (.int (own_mx p2 p5)), .val (.int (own_mx p3 p5)), .val (.int (own_md p5)), .val (.int (own_t p1 p2 p4 p5)), .val (.ref ob), .val (.int (1 : Int32)), .unset]) rfl ?_
    show Steps p.tables e below (T40.setTop (mkF m 246 #[.val (.int p1), .val (.int p2), .val (.int p3), .val (.int p4), .val (.int p5), .val (.int (own_mask p5)), .val (.int (own_mx p1 p5)), .val (.int (own_mx p2 p5)), .val (.int (own_mx p3 p5)), .val (.int (own_md p5)), .val (.int (own_t p1 p2 p4 p5)), .val (.ref ob), .val (.int (1 : Int32)), .unset] [])) _
    refine XS.iload X40.here hx rfl (hb hby at_246) rfl ?_
    show Steps p.tables e below (T40.setTop (mkF m 248 #[.val (.int p1), .val (.int p2), .val (.int p3), .val (.int p4), .val (.int p5), .val (.int (own_mask p5)), .val (.int (own_mx p1 p5)), .val (.int (own_mx p2 p5)), .val (.int (own_mx p3 p5)), .val (.int (own_md p5)), .val (.int (own_t p1 p2 p4 p5)), .val (.ref ob), .val (.int (1 : Int32)), .unset] [(.int (own_mx p1 p5))])) _
    refine XS.iload X40.here hx rfl (hb hby at_248) rfl ?_
    show Steps p.tables e below (T40.setTop (mkF m 250 #[.val (.int p1), .val (.int p2), .val (.int p3), .val (.int p4), .val (.int p5), .val (.int (own_mask p5)), .val (.int (own_mx p1 p5)), .val (.int (own_mx p2 p5)), .val (.int (own_mx p3 p5)), .val (.int (own_md p5)), .val (.int (own_t p1 p2 p4 p5)), .val (.ref ob), .val (.int (1 : Int32)), .unset] [(.int (own_t p1 p2 p4 p5)), (.int (own_mx p1 p5))])) _
    exact k)
  have pre45 : ∀ t, Steps p.tables e below (T40.setTop (mkF m 272 #[.val (.int p1), .val (.int p2), .val (.int p3), .val (.int p4), .val (.int p5), .val (.int (own_mask p5)), .val (.int (own_mx p1 p5)), .val (.int (own_mx p2 p5)), .val (.int (own_mx p3 p5)), .val (.int (own_md p5)), .val (.int (own_t p1 p2 p4 p5)), .val (.ref ob), .val (.int (1 : Int32)), .unset] [(.int (own_em (own_mx p1 p5) (own_mx p2 p5) (own_mx p3 p5) (own_t p1 p2 p4 p5)))])) t → Steps p.tables e below (s₁.setTop (entryFrame m #[(.int p1), (.int p2), (.int p3), (.int p4), (.int p5)] maxLocals)) t := fun t k => pre44 t (by
    by_cases ha : (own_mx p1 p5) = (own_t p1 p2 p4 p5)
    · skip
      by_cases hb_ : (own_mx p2 p5) = (own_t p1 p2 p4 p5)
      · skip
        by_cases hc_ : (own_mx p3 p5) = (own_t p1 p2 p4 p5)
        · skip
          show Steps p.tables e below (T40.setTop (mkF m 250 #[.val (.int p1), .val (.int p2), .val (.int p3), .val (.int p4), .val (.int p5), .val (.int (own_mask p5)), .val (.int (own_mx p1 p5)), .val (.int (own_mx p2 p5)), .val (.int (own_mx p3 p5)), .val (.int (own_md p5)), .val (.int (own_t p1 p2 p4 p5)), .val (.ref ob), .val (.int (1 : Int32)), .unset] [(.int (own_t p1 p2 p4 p5)), (.int (own_mx p1 p5))])) _
          refine XS.icmpNo X40.here hx rfl (hb hby at_250) rfl (teq ha).2 ?_
          show Steps p.tables e below (T40.setTop (mkF m 253 #[.val (.int p1), .val (.int p2), .val (.int p3), .val (.int p4), .val (.int p5), .val (.int (own_mask p5)), .val (.int (own_mx p1 p5)), .val (.int (own_mx p2 p5)), .val (.int (own_mx p3 p5)), .val (.int (own_md p5)), .val (.int (own_t p1 p2 p4 p5)), .val (.ref ob), .val (.int (1 : Int32)), .unset] [])) _
          refine XS.iload X40.here hx rfl (hb hby at_253) rfl ?_
          show Steps p.tables e below (T40.setTop (mkF m 255 #[.val (.int p1), .val (.int p2), .val (.int p3), .val (.int p4), .val (.int p5), .val (.int (own_mask p5)), .val (.int (own_mx p1 p5)), .val (.int (own_mx p2 p5)), .val (.int (own_mx p3 p5)), .val (.int (own_md p5)), .val (.int (own_t p1 p2 p4 p5)), .val (.ref ob), .val (.int (1 : Int32)), .unset] [(.int (own_mx p2 p5))])) _
          refine XS.iload X40.here hx rfl (hb hby at_255) rfl ?_
          show Steps p.tables e below (T40.setTop (mkF m 257 #[.val (.int p1), .val (.int p2), .val (.int p3), .val (.int p4), .val (.int p5), .val (.int (own_mask p5)), .val (.int (own_mx p1 p5)), .val (.int (own_mx p2 p5)), .val (.int (own_mx p3 p5)), .val (.int (own_md p5)), .val (.int (own_t p1 p2 p4 p5)), .val (.ref ob), .val (.int (1 : Int32)), .unset] [(.int (own_t p1 p2 p4 p5)), (.int (own_mx p2 p5))])) _
          refine XS.icmpNo X40.here hx rfl (hb hby at_257) rfl (teq hb_).2 ?_
          show Steps p.tables e below (T40.setTop (mkF m 260 #[.val (.int p1), .val (.int p2), .val (.int p3), .val (.int p4), .val (.int p5), .val (.int (own_mask p5)), .val (.int (own_mx p1 p5)), .val (.int (own_mx p2 p5)), .val (.int (own_mx p3 p5)), .val (.int (own_md p5)), .val (.int (own_t p1 p2 p4 p5)), .val (.ref ob), .val (.int (1 : Int32)), .unset] [])) _
          refine XS.iload X40.here hx rfl (hb hby at_260) rfl ?_
          show Steps p.tables e below (T40.setTop (mkF m 262 #[.val (.int p1), .val (.int p2), .val (.int p3), .val (.int p4), .val (.int p5), .val (.int (own_mask p5)), .val (.int (own_mx p1 p5)), .val (.int (own_mx p2 p5)), .val (.int (own_mx p3 p5)), .val (.int (own_md p5)), .val (.int (own_t p1 p2 p4 p5)), .val (.ref ob), .val (.int (1 : Int32)), .unset] [(.int (own_mx p3 p5))])) _
          refine XS.iload X40.here hx rfl (hb hby at_262) rfl ?_
          show Steps p.tables e below (T40.setTop (mkF m 264 #[.val (.int p1), .val (.int p2), .val (.int p3), .val (.int p4), .val (.int p5), .val (.int (own_mask p5)), .val (.int (own_mx p1 p5)), .val (.int (own_mx p2 p5)), .val (.int (own_mx p3 p5)), .val (.int (own_md p5)), .val (.int (own_t p1 p2 p4 p5)), .val (.ref ob), .val (.int (1 : Int32)), .unset] [(.int (own_t p1 p2 p4 p5)), (.int (own_mx p3 p5))])) _
          refine XS.icmpNo X40.here hx rfl (hb hby at_264) rfl (teq hc_).2 ?_
          show Steps p.tables e below (T40.setTop (mkF m 267 #[.val (.int p1), .val (.int p2), .val (.int p3), .val (.int p4), .val (.int p5), .val (.int (own_mask p5)), .val (.int (own_mx p1 p5)), .val (.int (own_mx p2 p5)), .val (.int (own_mx p3 p5)), .val (.int (own_md p5)), .val (.int (own_t p1 p2 p4 p5)), .val (.ref ob), .val (.int (1 : Int32)), .unset] [])) _
          refine XS.iconst X40.here hx rfl (hb hby at_267) ?_
          show Steps p.tables e below (T40.setTop (mkF m 268 #[.val (.int p1), .val (.int p2), .val (.int p3), .val (.int p4), .val (.int p5), .val (.int (own_mask p5)), .val (.int (own_mx p1 p5)), .val (.int (own_mx p2 p5)), .val (.int (own_mx p3 p5)), .val (.int (own_md p5)), .val (.int (own_t p1 p2 p4 p5)), .val (.ref ob), .val (.int (1 : Int32)), .unset] [(.int (1 : Int32))])) _
          refine XS.goto X40.here hx rfl (pc0 := 268) (pc' := 272) rfl (hb hby at_268) (by decide) (by decide) ?_
          show Steps p.tables e below (T40.setTop (mkF m 272 #[.val (.int p1), .val (.int p2), .val (.int p3), .val (.int p4), .val (.int p5), .val (.int (own_mask p5)), .val (.int (own_mx p1 p5)), .val (.int (own_mx p2 p5)), .val (.int (own_mx p3 p5)), .val (.int (own_md p5)), .val (.int (own_t p1 p2 p4 p5)), .val (.ref ob), .val (.int (1 : Int32)), .unset] [(.int (1 : Int32))])) _
          rw [show (own_em (own_mx p1 p5) (own_mx p2 p5) (own_mx p3 p5) (own_t p1 p2 p4 p5)) = (1 : Int32) from (if_pos ha).trans ((if_pos hb_).trans (if_pos hc_))] at k
          exact k
        · skip
          show Steps p.tables e below (T40.setTop (mkF m 250 #[.val (.int p1), .val (.int p2), .val (.int p3), .val (.int p4), .val (.int p5), .val (.int (own_mask p5)), .val (.int (own_mx p1 p5)), .val (.int (own_mx p2 p5)), .val (.int (own_mx p3 p5)), .val (.int (own_md p5)), .val (.int (own_t p1 p2 p4 p5)), .val (.ref ob), .val (.int (1 : Int32)), .unset] [(.int (own_t p1 p2 p4 p5)), (.int (own_mx p1 p5))])) _
          refine XS.icmpNo X40.here hx rfl (hb hby at_250) rfl (teq ha).2 ?_
          show Steps p.tables e below (T40.setTop (mkF m 253 #[.val (.int p1), .val (.int p2), .val (.int p3), .val (.int p4), .val (.int p5), .val (.int (own_mask p5)), .val (.int (own_mx p1 p5)), .val (.int (own_mx p2 p5)), .val (.int (own_mx p3 p5)), .val (.int (own_md p5)), .val (.int (own_t p1 p2 p4 p5)), .val (.ref ob), .val (.int (1 : Int32)), .unset] [])) _
          refine XS.iload X40.here hx rfl (hb hby at_253) rfl ?_
          show Steps p.tables e below (T40.setTop (mkF m 255 #[.val (.int p1), .val (.int p2), .val (.int p3), .val (.int p4), .val (.int p5), .val (.int (own_mask p5)), .val (.int (own_mx p1 p5)), .val (.int (own_mx p2 p5)), .val (.int (own_mx p3 p5)), .val (.int (own_md p5)), .val (.int (own_t p1 p2 p4 p5)), .val (.ref ob), .val (.int (1 : Int32)), .unset] [(.int (own_mx p2 p5))])) _
          refine XS.iload X40.here hx rfl (hb hby at_255) rfl ?_
          show Steps p.tables e below (T40.setTop (mkF m 257 #[.val (.int p1), .val (.int p2), .val (.int p3), .val (.int p4), .val (.int p5), .val (.int (own_mask p5)), .val (.int (own_mx p1 p5)), .val (.int (own_mx p2 p5)), .val (.int (own_mx p3 p5)), .val (.int (own_md p5)), .val (.int (own_t p1 p2 p4 p5)), .val (.ref ob), .val (.int (1 : Int32)), .unset] [(.int (own_t p1 p2 p4 p5)), (.int (own_mx p2 p5))])) _
          refine XS.icmpNo X40.here hx rfl (hb hby at_257) rfl (teq hb_).2 ?_
          show Steps p.tables e below (T40.setTop (mkF m 260 #[.val (.int p1), .val (.int p2), .val (.int p3), .val (.int p4), .val (.int p5), .val (.int (own_mask p5)), .val (.int (own_mx p1 p5)), .val (.int (own_mx p2 p5)), .val (.int (own_mx p3 p5)), .val (.int (own_md p5)), .val (.int (own_t p1 p2 p4 p5)), .val (.ref ob), .val (.int (1 : Int32)), .unset] [])) _
          refine XS.iload X40.here hx rfl (hb hby at_260) rfl ?_
          show Steps p.tables e below (T40.setTop (mkF m 262 #[.val (.int p1), .val (.int p2), .val (.int p3), .val (.int p4), .val (.int p5), .val (.int (own_mask p5)), .val (.int (own_mx p1 p5)), .val (.int (own_mx p2 p5)), .val (.int (own_mx p3 p5)), .val (.int (own_md p5)), .val (.int (own_t p1 p2 p4 p5)), .val (.ref ob), .val (.int (1 : Int32)), .unset] [(.int (own_mx p3 p5))])) _
          refine XS.iload X40.here hx rfl (hb hby at_262) rfl ?_
          show Steps p.tables e below (T40.setTop (mkF m 264 #[.val (.int p1), .val (.int p2), .val (.int p3), .val (.int p4), .val (.int p5), .val (.int (own_mask p5)), .val (.int (own_mx p1 p5)), .val (.int (own_mx p2 p5)), .val (.int (own_mx p3 p5)), .val (.int (own_md p5)), .val (.int (own_t p1 p2 p4 p5)), .val (.ref ob), .val (.int (1 : Int32)), .unset] [(.int (own_t p1 p2 p4 p5)), (.int (own_mx p3 p5))])) _
          refine XS.icmpYes X40.here hx rfl (pc0 := 264) (pc' := 271) rfl (hb hby at_264) rfl (feq hc_).2 (by decide) (by decide) ?_
          show Steps p.tables e below (T40.setTop (mkF m 271 #[.val (.int p1), .val (.int p2), .val (.int p3), .val (.int p4), .val (.int p5), .val (.int (own_mask p5)), .val (.int (own_mx p1 p5)), .val (.int (own_mx p2 p5)), .val (.int (own_mx p3 p5)), .val (.int (own_md p5)), .val (.int (own_t p1 p2 p4 p5)), .val (.ref ob), .val (.int (1 : Int32)), .unset] [])) _
          refine XS.iconst X40.here hx rfl (hb hby at_271) ?_
          show Steps p.tables e below (T40.setTop (mkF m 272 #[.val (.int p1), .val (.int p2), .val (.int p3), .val (.int p4), .val (.int p5), .val (.int (own_mask p5)), .val (.int (own_mx p1 p5)), .val (.int (own_mx p2 p5)), .val (.int (own_mx p3 p5)), .val (.int (own_md p5)), .val (.int (own_t p1 p2 p4 p5)), .val (.ref ob), .val (.int (1 : Int32)), .unset] [(.int (0 : Int32))])) _
          rw [show (own_em (own_mx p1 p5) (own_mx p2 p5) (own_mx p3 p5) (own_t p1 p2 p4 p5)) = (0 : Int32) from (if_pos ha).trans ((if_pos hb_).trans (if_neg hc_))] at k
          exact k
      · skip
        show Steps p.tables e below (T40.setTop (mkF m 250 #[.val (.int p1), .val (.int p2), .val (.int p3), .val (.int p4), .val (.int p5), .val (.int (own_mask p5)), .val (.int (own_mx p1 p5)), .val (.int (own_mx p2 p5)), .val (.int (own_mx p3 p5)), .val (.int (own_md p5)), .val (.int (own_t p1 p2 p4 p5)), .val (.ref ob), .val (.int (1 : Int32)), .unset] [(.int (own_t p1 p2 p4 p5)), (.int (own_mx p1 p5))])) _
        refine XS.icmpNo X40.here hx rfl (hb hby at_250) rfl (teq ha).2 ?_
        show Steps p.tables e below (T40.setTop (mkF m 253 #[.val (.int p1), .val (.int p2), .val (.int p3), .val (.int p4), .val (.int p5), .val (.int (own_mask p5)), .val (.int (own_mx p1 p5)), .val (.int (own_mx p2 p5)), .val (.int (own_mx p3 p5)), .val (.int (own_md p5)), .val (.int (own_t p1 p2 p4 p5)), .val (.ref ob), .val (.int (1 : Int32)), .unset] [])) _
        refine XS.iload X40.here hx rfl (hb hby at_253) rfl ?_
        show Steps p.tables e below (T40.setTop (mkF m 255 #[.val (.int p1), .val (.int p2), .val (.int p3), .val (.int p4), .val (.int p5), .val (.int (own_mask p5)), .val (.int (own_mx p1 p5)), .val (.int (own_mx p2 p5)), .val (.int (own_mx p3 p5)), .val (.int (own_md p5)), .val (.int (own_t p1 p2 p4 p5)), .val (.ref ob), .val (.int (1 : Int32)), .unset] [(.int (own_mx p2 p5))])) _
        refine XS.iload X40.here hx rfl (hb hby at_255) rfl ?_
        show Steps p.tables e below (T40.setTop (mkF m 257 #[.val (.int p1), .val (.int p2), .val (.int p3), .val (.int p4), .val (.int p5), .val (.int (own_mask p5)), .val (.int (own_mx p1 p5)), .val (.int (own_mx p2 p5)), .val (.int (own_mx p3 p5)), .val (.int (own_md p5)), .val (.int (own_t p1 p2 p4 p5)), .val (.ref ob), .val (.int (1 : Int32)), .unset] [(.int (own_t p1 p2 p4 p5)), (.int (own_mx p2 p5))])) _
        refine XS.icmpYes X40.here hx rfl (pc0 := 257) (pc' := 271) rfl (hb hby at_257) rfl (feq hb_).2 (by decide) (by decide) ?_
        show Steps p.tables e below (T40.setTop (mkF m 271 #[.val (.int p1), .val (.int p2), .val (.int p3), .val (.int p4), .val (.int p5), .val (.int (own_mask p5)), .val (.int (own_mx p1 p5)), .val (.int (own_mx p2 p5)), .val (.int (own_mx p3 p5)), .val (.int (own_md p5)), .val (.int (own_t p1 p2 p4 p5)), .val (.ref ob), .val (.int (1 : Int32)), .unset] [])) _
        refine XS.iconst X40.here hx rfl (hb hby at_271) ?_
        show Steps p.tables e below (T40.setTop (mkF m 272 #[.val (.int p1), .val (.int p2), .val (.int p3), .val (.int p4), .val (.int p5), .val (.int (own_mask p5)), .val (.int (own_mx p1 p5)), .val (.int (own_mx p2 p5)), .val (.int (own_mx p3 p5)), .val (.int (own_md p5)), .val (.int (own_t p1 p2 p4 p5)), .val (.ref ob), .val (.int (1 : Int32)), .unset] [(.int (0 : Int32))])) _
        rw [show (own_em (own_mx p1 p5) (own_mx p2 p5) (own_mx p3 p5) (own_t p1 p2 p4 p5)) = (0 : Int32) from (if_pos ha).trans (if_neg hb_)] at k
        exact k
    · skip
      show Steps p.tables e below (T40.setTop (mkF m 250 #[.val (.int p1), .val (.int p2), .val (.int p3), .val (.int p4), .val (.int p5), .val (.int (own_mask p5)), .val (.int (own_mx p1 p5)), .val (.int (own_mx p2 p5)), .val (.int (own_mx p3 p5)), .val (.int (own_md p5)), .val (.int (own_t p1 p2 p4 p5)), .val (.ref ob), .val (.int (1 : Int32)), .unset] [(.int (own_t p1 p2 p4 p5)), (.int (own_mx p1 p5))])) _
      refine XS.icmpYes X40.here hx rfl (pc0 := 250) (pc' := 271) rfl (hb hby at_250) rfl (feq ha).2 (by decide) (by decide) ?_
      show Steps p.tables e below (T40.setTop (mkF m 271 #[.val (.int p1), .val (.int p2), .val (.int p3), .val (.int p4), .val (.int p5), .val (.int (own_mask p5)), .val (.int (own_mx p1 p5)), .val (.int (own_mx p2 p5)), .val (.int (own_mx p3 p5)), .val (.int (own_md p5)), .val (.int (own_t p1 p2 p4 p5)), .val (.ref ob), .val (.int (1 : Int32)), .unset] [])) _
      refine XS.iconst X40.here hx rfl (hb hby at_271) ?_
      show Steps p.tables e below (T40.setTop (mkF m 272 #[.val (.int p1), .val (.int p2), .val (.int p3), .val (.int p4), .val (.int p5), .val (.int (own_mask p5)), .val (.int (own_mx p1 p5)), .val (.int (own_mx p2 p5)), .val (.int (own_mx p3 p5)), .val (.int (own_md p5)), .val (.int (own_t p1 p2 p4 p5)), .val (.ref ob), .val (.int (1 : Int32)), .unset] [(.int (0 : Int32))])) _
      rw [show (own_em (own_mx p1 p5) (own_mx p2 p5) (own_mx p3 p5) (own_t p1 p2 p4 p5)) = (0 : Int32) from if_neg ha] at k
      exact k)
  have pre46 : ∀ t, Steps p.tables e below (T40.setTop (mkF m 281 #[.val (.int p1), .val (.int p2), .val (.int p3), .val (.int p4), .val (.int p5), .val (.int (own_mask p5)), .val (.int (own_mx p1 p5)), .val (.int (own_mx p2 p5)), .val (.int (own_mx p3 p5)), .val (.int (own_md p5)), .val (.int (own_t p1 p2 p4 p5)), .val (.ref ob), .val (.int (1 : Int32)), .val (.int (own_em (own_mx p1 p5) (own_mx p2 p5) (own_mx p3 p5) (own_t p1 p2 p4 p5)))] [(.ref ob)])) t → Steps p.tables e below (s₁.setTop (entryFrame m #[(.int p1), (.int p2), (.int p3), (.int p4), (.int p5)] maxLocals)) t := fun t k => pre45 t (by
    show Steps p.tables e below (T40.setTop (mkF m 272 #[.val (.int p1), .val (.int p2), .val (.int p3), .val (.int p4), .val (.int p5), .val (.int (own_mask p5)), .val (.int (own_mx p1 p5)), .val (.int (own_mx p2 p5)), .val (.int (own_mx p3 p5)), .val (.int (own_md p5)), .val (.int (own_t p1 p2 p4 p5)), .val (.ref ob), .val (.int (1 : Int32)), .unset] [(.int (own_em (own_mx p1 p5) (own_mx p2 p5) (own_mx p3 p5) (own_t p1 p2 p4 p5)))])) _
    refine XS.istore X40.here hx rfl (hb hby at_272) rfl (l' := #[.val (.int p1), .val (.int p2), .val (.int p3), .val (.int p4), .val (.int p5), .val (.int (own_mask p5)), .val (.int (own_mx p1 p5)), .val (.int (own_mx p2 p5)), .val (.int (own_mx p3 p5)), .val (.int (own_md p5)), .val (.int (own_t p1 p2 p4 p5)), .val (.ref ob), .val (.int (1 : Int32)), .val (.int (own_em (own_mx p1 p5) (own_mx p2 p5) (own_mx p3 p5) (own_t p1 p2 p4 p5)))]) rfl ?_
    show Steps p.tables e below (T40.setTop (mkF m 274 #[.val (.int p1), .val (.int p2), .val (.int p3), .val (.int p4), .val (.int p5), .val (.int (own_mask p5)), .val (.int (own_mx p1 p5)), .val (.int (own_mx p2 p5)), .val (.int (own_mx p3 p5)), .val (.int (own_md p5)), .val (.int (own_t p1 p2 p4 p5)), .val (.ref ob), .val (.int (1 : Int32)), .val (.int (own_em (own_mx p1 p5) (own_mx p2 p5) (own_mx p3 p5) (own_t p1 p2 p4 p5)))] [])) _
    refine XS.iload X40.here hx rfl (hb hby at_274) rfl ?_
    show Steps p.tables e below (T40.setTop (mkF m 276 #[.val (.int p1), .val (.int p2), .val (.int p3), .val (.int p4), .val (.int p5), .val (.int (own_mask p5)), .val (.int (own_mx p1 p5)), .val (.int (own_mx p2 p5)), .val (.int (own_mx p3 p5)), .val (.int (own_md p5)), .val (.int (own_t p1 p2 p4 p5)), .val (.ref ob), .val (.int (1 : Int32)), .val (.int (own_em (own_mx p1 p5) (own_mx p2 p5) (own_mx p3 p5) (own_t p1 p2 p4 p5)))] [(.int (1 : Int32))])) _
    refine XS.ifNo X40.here hx rfl (hb hby at_276) rfl ((if0 _ _).trans (feq (by decide)).1) ?_
    show Steps p.tables e below (T40.setTop (mkF m 279 #[.val (.int p1), .val (.int p2), .val (.int p3), .val (.int p4), .val (.int p5), .val (.int (own_mask p5)), .val (.int (own_mx p1 p5)), .val (.int (own_mx p2 p5)), .val (.int (own_mx p3 p5)), .val (.int (own_md p5)), .val (.int (own_t p1 p2 p4 p5)), .val (.ref ob), .val (.int (1 : Int32)), .val (.int (own_em (own_mx p1 p5) (own_mx p2 p5) (own_mx p3 p5) (own_t p1 p2 p4 p5)))] [])) _
    refine XS.aload X40.here hx rfl (hb hby at_279) rfl rfl ?_
    show Steps p.tables e below (T40.setTop (mkF m 281 #[.val (.int p1), .val (.int p2), .val (.int p3), .val (.int p4), .val (.int p5), .val (.int (own_mask p5)), .val (.int (own_mx p1 p5)), .val (.int (own_mx p2 p5)), .val (.int (own_mx p3 p5)), .val (.int (own_md p5)), .val (.int (own_t p1 p2 p4 p5)), .val (.ref ob), .val (.int (1 : Int32)), .val (.int (own_em (own_mx p1 p5) (own_mx p2 p5) (own_mx p3 p5) (own_t p1 p2 p4 p5)))] [(.ref ob)])) _
    exact k)
  obtain ⟨cq47, kq47, q47a, q47b, q47c⟩ := isOf hZ e40 TP23.1
  obtain ⟨_, _, ⟨T47, L47, k47, n47⟩, -, X47, ⟨Lc47, hQ47, l47, y47, z47⟩, st47⟩ := X40.virtualBack hx (y := (⟨"com/example/berchta/berchta/learn/NodeSet", "isEmpty", "()Z"⟩ : MethodName)) (z := (⟨"com/example/berchta/berchta/learn/NodeSet", "isEmpty", "()Z"⟩ : MethodName)) hown (mvT hZ (hw _ (List.mem_of_getElem? (i := 32) rfl))) (mvT hZ (hw _ (List.mem_of_getElem? (i := 33) rfl))) (notFace_of_selects (args := #[]) (mvT hZ (hw _ (List.mem_of_getElem? (i := 35) rfl)))) (mvT hZ (hw _ (List.mem_of_getElem? (i := 35) rfl))) (mvT hZ (hw _ (List.mem_of_getElem? (i := 34) rfl))) (by decide) (backOf (W := 0) (rm6 l Z a0 hw [] ob s23 T24.heap n0 (Nat.le_trans g_ob (Nat.le_of_lt TP23.1.lt)) TP23.2.2.2.1) hZ (hw _ (List.mem_of_getElem? (i := 36) rfl)) (hw _ (List.mem_of_getElem? (i := 2) rfl)) (by decide) (by decide)) q47a q47c (g := (mkF m 281 #[.val (.int p1), .val (.int p2), .val (.int p3), .val (.int p4), .val (.int p5), .val (.int (own_mask p5)), .val (.int (own_mx p1 p5)), .val (.int (own_mx p2 p5)), .val (.int (own_mx p3 p5)), .val (.int (own_md p5)), .val (.int (own_t p1 p2 p4 p5)), .val (.ref ob), .val (.int (1 : Int32)), .val (.int (own_em (own_mx p1 p5) (own_mx p2 p5) (own_mx p3 p5) (own_t p1 p2 p4 p5)))] [(.ref ob)])) rfl (by rw [hml]; rfl) (Steps.refl _) (argsL := []) (rest := []) (lenOf pdx_7 rfl) rfl (by show 2 * 0 + _ ≤ _; exact Nat.le_of_eq rfl) (hb hby at_281) (fun _ _ => ⟨rfl, e40, (by decide : 17 + 0 ≤ _), (by decide : 790 + 0 ≤ _)⟩)
  dsimp only [Pt.U, Pt.locs, Pt.cells, Pt.slots] at X47 l47 y47 z47 st47 hQ47
  subst l47 y47 z47
  obtain ⟨rfl, N47q, e47⟩ := hQ47
  have N47 := Fr.app N40 N47q
  have pre48 : ∀ t, Steps p.tables e below (T47.setTop (mkF m 284 #[.val (.int p1), .val (.int p2), .val (.int p3), .val (.int p4), .val (.int p5), .val (.int (own_mask p5)), .val (.int (own_mx p1 p5)), .val (.int (own_mx p2 p5)), .val (.int (own_mx p3 p5)), .val (.int (own_md p5)), .val (.int (own_t p1 p2 p4 p5)), .val (.ref ob), .val (.int (1 : Int32)), .val (.int (own_em (own_mx p1 p5) (own_mx p2 p5) (own_mx p3 p5) (own_t p1 p2 p4 p5)))] [(.int (own_emp s23))])) t → Steps p.tables e below (s₁.setTop (entryFrame m #[(.int p1), (.int p2), (.int p3), (.int p4), (.int p5)] maxLocals)) t := fun t k => pre46 t (by
    show Steps p.tables e below (T40.setTop (mkF m 281 #[.val (.int p1), .val (.int p2), .val (.int p3), .val (.int p4), .val (.int p5), .val (.int (own_mask p5)), .val (.int (own_mx p1 p5)), .val (.int (own_mx p2 p5)), .val (.int (own_mx p3 p5)), .val (.int (own_md p5)), .val (.int (own_t p1 p2 p4 p5)), .val (.ref ob), .val (.int (1 : Int32)), .val (.int (own_em (own_mx p1 p5) (own_mx p2 p5) (own_mx p3 p5) (own_t p1 p2 p4 p5)))] [(.ref ob)])) t
    refine st47.trans ?_
    show Steps p.tables e below (T47.setTop (mkF m 284 #[.val (.int p1), .val (.int p2), .val (.int p3), .val (.int p4), .val (.int p5), .val (.int (own_mask p5)), .val (.int (own_mx p1 p5)), .val (.int (own_mx p2 p5)), .val (.int (own_mx p3 p5)), .val (.int (own_md p5)), .val (.int (own_t p1 p2 p4 p5)), .val (.ref ob), .val (.int (1 : Int32)), .val (.int (own_em (own_mx p1 p5) (own_mx p2 p5) (own_mx p3 p5) (own_t p1 p2 p4 p5)))] [(.int (own_emp s23))])) t
    exact k)
  have pre49 : ∀ t, Steps p.tables e below (T47.setTop (mkF m 304 #[.val (.int p1), .val (.int p2), .val (.int p3), .val (.int p4), .val (.int p5), .val (.int (own_mask p5)), .val (.int (own_mx p1 p5)), .val (.int (own_mx p2 p5)), .val (.int (own_mx p3 p5)), .val (.int (own_md p5)), .val (.int (own_t p1 p2 p4 p5)), .val (.ref ob), .val (.int (1 : Int32)), .val (.int (own_em (own_mx p1 p5) (own_mx p2 p5) (own_mx p3 p5) (own_t p1 p2 p4 p5)))] [(.int (0 : Int32)), (.ref ob)])) t → Steps p.tables e below (s₁.setTop (entryFrame m #[(.int p1), (.int p2), (.int p3), (.int p4), (.int p5)] maxLocals)) t := fun t k => pre48 t (by
    show Steps p.tables e below (T47.setTop (mkF m 284 #[.val (.int p1), .val (.int p2), .val (.int p3), .val (.int p4), .val (.int p5), .val (.int (own_mask p5)), .val (.int (own_mx p1 p5)), .val (.int (own_mx p2 p5)), .val (.int (own_mx p3 p5)), .val (.int (own_md p5)), .val (.int (own_t p1 p2 p4 p5)), .val (.ref ob), .val (.int (1 : Int32)), .val (.int (own_em (own_mx p1 p5) (own_mx p2 p5) (own_mx p3 p5) (own_t p1 p2 p4 p5)))] [(.int (own_emp s23))])) _
    refine XS.iload X47.here hx rfl (hb hby at_284) rfl ?_
    show Steps p.tables e below (T47.setTop (mkF m 286 #[.val (.int p1), .val (.int p2), .val (.int p3), .val (.int p4), .val (.int p5), .val (.int (own_mask p5)), .val (.int (own_mx p1 p5)), .val (.int (own_mx p2 p5)), .val (.int (own_mx p3 p5)), .val (.int (own_md p5)), .val (.int (own_t p1 p2 p4 p5)), .val (.ref ob), .val (.int (1 : Int32)), .val (.int (own_em (own_mx p1 p5) (own_mx p2 p5) (own_mx p3 p5) (own_t p1 p2 p4 p5)))] [(.int (own_em (own_mx p1 p5) (own_mx p2 p5) (own_mx p3 p5) (own_t p1 p2 p4 p5))), (.int (own_emp s23))])) _
    refine XS.icmpNo X47.here hx rfl (hb hby at_286) rfl (teq (own_size hs11 hs15 hs19 hs23)).2 ?_
    show Steps p.tables e below (T47.setTop (mkF m 289 #[.val (.int p1), .val (.int p2), .val (.int p3), .val (.int p4), .val (.int p5), .val (.int (own_mask p5)), .val (.int (own_mx p1 p5)), .val (.int (own_mx p2 p5)), .val (.int (own_mx p3 p5)), .val (.int (own_md p5)), .val (.int (own_t p1 p2 p4 p5)), .val (.ref ob), .val (.int (1 : Int32)), .val (.int (own_em (own_mx p1 p5) (own_mx p2 p5) (own_mx p3 p5) (own_t p1 p2 p4 p5)))] [])) _
    refine XS.iconst X47.here hx rfl (hb hby at_289) ?_
    show Steps p.tables e below (T47.setTop (mkF m 290 #[.val (.int p1), .val (.int p2), .val (.int p3), .val (.int p4), .val (.int p5), .val (.int (own_mask p5)), .val (.int (own_mx p1 p5)), .val (.int (own_mx p2 p5)), .val (.int (own_mx p3 p5)), .val (.int (own_md p5)), .val (.int (own_t p1 p2 p4 p5)), .val (.ref ob), .val (.int (1 : Int32)), .val (.int (own_em (own_mx p1 p5) (own_mx p2 p5) (own_mx p3 p5) (own_t p1 p2 p4 p5)))] [(.int (1 : Int32))])) _
    refine XS.goto X47.here hx rfl (pc0 := 290) (pc' := 294) rfl (hb hby at_290) (by decide) (by decide) ?_
    show Steps p.tables e below (T47.setTop (mkF m 294 #[.val (.int p1), .val (.int p2), .val (.int p3), .val (.int p4), .val (.int p5), .val (.int (own_mask p5)), .val (.int (own_mx p1 p5)), .val (.int (own_mx p2 p5)), .val (.int (own_mx p3 p5)), .val (.int (own_md p5)), .val (.int (own_t p1 p2 p4 p5)), .val (.ref ob), .val (.int (1 : Int32)), .val (.int (own_em (own_mx p1 p5) (own_mx p2 p5) (own_mx p3 p5) (own_t p1 p2 p4 p5)))] [(.int (1 : Int32))])) _
    refine XS.istore X47.here hx rfl (hb hby at_294) rfl (l' := #[.val (.int p1), .val (.int p2), .val (.int p3), .val (.int p4), .val (.int p5), .val (.int (own_mask p5)), .val (.int (own_mx p1 p5)), .val (.int (own_mx p2 p5)), .val (.int (own_mx p3 p5)), .val (.int (own_md p5)), .val (.int (own_t p1 p2 p4 p5)), .val (.ref ob), .val (.int (1 : Int32)), .val (.int (own_em (own_mx p1 p5) (own_mx p2 p5) (own_mx p3 p5) (own_t p1 p2 p4 p5)))]) rfl ?_
    show Steps p.tables e below (T47.setTop (mkF m 296 #[.val (.int p1), .val (.int p2), .val (.int p3), .val (.int p4), .val (.int p5), .val (.int (own_mask p5)), .val (.int (own_mx p1 p5)), .val (.int (own_mx p2 p5)), .val (.int (own_mx p3 p5)), .val (.int (own_md p5)), .val (.int (own_t p1 p2 p4 p5)), .val (.ref ob), .val (.int (1 : Int32)), .val (.int (own_em (own_mx p1 p5) (own_mx p2 p5) (own_mx p3 p5) (own_t p1 p2 p4 p5)))] [])) _
    refine XS.iload X47.here hx rfl (hb hby at_296) rfl ?_
    show Steps p.tables e below (T47.setTop (mkF m 298 #[.val (.int p1), .val (.int p2), .val (.int p3), .val (.int p4), .val (.int p5), .val (.int (own_mask p5)), .val (.int (own_mx p1 p5)), .val (.int (own_mx p2 p5)), .val (.int (own_mx p3 p5)), .val (.int (own_md p5)), .val (.int (own_t p1 p2 p4 p5)), .val (.ref ob), .val (.int (1 : Int32)), .val (.int (own_em (own_mx p1 p5) (own_mx p2 p5) (own_mx p3 p5) (own_t p1 p2 p4 p5)))] [(.int (1 : Int32))])) _
    refine XS.ifNo X47.here hx rfl (hb hby at_298) rfl ((if0 _ _).trans (feq (by decide)).1) ?_
    show Steps p.tables e below (T47.setTop (mkF m 301 #[.val (.int p1), .val (.int p2), .val (.int p3), .val (.int p4), .val (.int p5), .val (.int (own_mask p5)), .val (.int (own_mx p1 p5)), .val (.int (own_mx p2 p5)), .val (.int (own_mx p3 p5)), .val (.int (own_md p5)), .val (.int (own_t p1 p2 p4 p5)), .val (.ref ob), .val (.int (1 : Int32)), .val (.int (own_em (own_mx p1 p5) (own_mx p2 p5) (own_mx p3 p5) (own_t p1 p2 p4 p5)))] [])) _
    refine XS.aload X47.here hx rfl (hb hby at_301) rfl rfl ?_
    show Steps p.tables e below (T47.setTop (mkF m 303 #[.val (.int p1), .val (.int p2), .val (.int p3), .val (.int p4), .val (.int p5), .val (.int (own_mask p5)), .val (.int (own_mx p1 p5)), .val (.int (own_mx p2 p5)), .val (.int (own_mx p3 p5)), .val (.int (own_md p5)), .val (.int (own_t p1 p2 p4 p5)), .val (.ref ob), .val (.int (1 : Int32)), .val (.int (own_em (own_mx p1 p5) (own_mx p2 p5) (own_mx p3 p5) (own_t p1 p2 p4 p5)))] [(.ref ob)])) _
    refine XS.iconst X47.here hx rfl (hb hby at_303) ?_
    show Steps p.tables e below (T47.setTop (mkF m 304 #[.val (.int p1), .val (.int p2), .val (.int p3), .val (.int p4), .val (.int p5), .val (.int (own_mask p5)), .val (.int (own_mx p1 p5)), .val (.int (own_mx p2 p5)), .val (.int (own_mx p3 p5)), .val (.int (own_md p5)), .val (.int (own_t p1 p2 p4 p5)), .val (.ref ob), .val (.int (1 : Int32)), .val (.int (own_em (own_mx p1 p5) (own_mx p2 p5) (own_mx p3 p5) (own_t p1 p2 p4 p5)))] [(.int (0 : Int32)), (.ref ob)])) _
    exact k)
  obtain ⟨cq50, kq50, q50a, q50b, q50c⟩ := isOf hZ e47 TP23.1
  obtain ⟨_, _, ⟨T50, L50, k50, n50⟩, -, X50, ⟨Lc50, hQ50, l50, y50, z50⟩, st50⟩ := X47.virtualBack hx (y := (⟨"com/example/berchta/berchta/learn/NodeSet", "next", "(I)I"⟩ : MethodName)) (z := (⟨"com/example/berchta/berchta/learn/NodeSet", "next", "(I)I"⟩ : MethodName)) hown (mvT hZ (hw _ (List.mem_of_getElem? (i := 37) rfl))) (mvT hZ (hw _ (List.mem_of_getElem? (i := 38) rfl))) (notFace_of_selects (args := #[]) (mvT hZ (hw _ (List.mem_of_getElem? (i := 40) rfl)))) (mvT hZ (hw _ (List.mem_of_getElem? (i := 40) rfl))) (mvT hZ (hw _ (List.mem_of_getElem? (i := 39) rfl))) (by decide) (backOf (W := 0) (rmTnext l Z a0 hw [] ob (0 : Int32) w23 z23 (own_rem (own_add (own_add (own_add (fun _ => 0) (own_mx p1 p5)) (own_mx p2 p5)) (own_mx p3 p5)) (own_t p1 p2 p4 p5)) s23 f23 T24.heap n0 (Nat.le_trans g_ob (Nat.le_of_lt TP23.1.lt)) TP23 rfl) hZ (hw _ (List.mem_of_getElem? (i := 41) rfl)) (hw _ (List.mem_of_getElem? (i := 2) rfl)) (by decide) (by decide)) q50a q50c (g := (mkF m 304 #[.val (.int p1), .val (.int p2), .val (.int p3), .val (.int p4), .val (.int p5), .val (.int (own_mask p5)), .val (.int (own_mx p1 p5)), .val (.int (own_mx p2 p5)), .val (.int (own_mx p3 p5)), .val (.int (own_md p5)), .val (.int (own_t p1 p2 p4 p5)), .val (.ref ob), .val (.int (1 : Int32)), .val (.int (own_em (own_mx p1 p5) (own_mx p2 p5) (own_mx p3 p5) (own_t p1 p2 p4 p5)))] [(.int (0 : Int32)), (.ref ob)])) rfl (by rw [hml]; rfl) (Steps.refl _) (argsL := [(.int (0 : Int32))]) (rest := []) (lenOf pdx_3 rfl) rfl (by show 2 * 0 + _ ≤ _; exact Nat.le_of_eq rfl) (hb hby at_304) (fun _ _ => ⟨rfl, e47, (by decide : 17 + 0 ≤ _), (by decide : 790 + 0 ≤ _)⟩)
  dsimp only [Pt.U, Pt.locs, Pt.cells, Pt.slots] at X50 l50 y50 z50 st50 hQ50
  subst l50 y50 z50
  obtain ⟨r, rfl, N50q, e50, hls⟩ := hQ50
  have N50 := Fr.app N47 N50q
  have pre51 : ∀ t, Steps p.tables e below (T50.setTop (mkF m 307 #[.val (.int p1), .val (.int p2), .val (.int p3), .val (.int p4), .val (.int p5), .val (.int (own_mask p5)), .val (.int (own_mx p1 p5)), .val (.int (own_mx p2 p5)), .val (.int (own_mx p3 p5)), .val (.int (own_md p5)), .val (.int (own_t p1 p2 p4 p5)), .val (.ref ob), .val (.int (1 : Int32)), .val (.int (own_em (own_mx p1 p5) (own_mx p2 p5) (own_mx p3 p5) (own_t p1 p2 p4 p5)))] [(.int r)])) t → Steps p.tables e below (s₁.setTop (entryFrame m #[(.int p1), (.int p2), (.int p3), (.int p4), (.int p5)] maxLocals)) t := fun t k => pre49 t (by
    show Steps p.tables e below (T47.setTop (mkF m 304 #[.val (.int p1), .val (.int p2), .val (.int p3), .val (.int p4), .val (.int p5), .val (.int (own_mask p5)), .val (.int (own_mx p1 p5)), .val (.int (own_mx p2 p5)), .val (.int (own_mx p3 p5)), .val (.int (own_md p5)), .val (.int (own_t p1 p2 p4 p5)), .val (.ref ob), .val (.int (1 : Int32)), .val (.int (own_em (own_mx p1 p5) (own_mx p2 p5) (own_mx p3 p5) (own_t p1 p2 p4 p5)))] [(.int (0 : Int32)), (.ref ob)])) t
    refine st50.trans ?_
    show Steps p.tables e below (T50.setTop (mkF m 307 #[.val (.int p1), .val (.int p2), .val (.int p3), .val (.int p4), .val (.int p5), .val (.int (own_mask p5)), .val (.int (own_mx p1 p5)), .val (.int (own_mx p2 p5)), .val (.int (own_mx p3 p5)), .val (.int (own_md p5)), .val (.int (own_t p1 p2 p4 p5)), .val (.ref ob), .val (.int (1 : Int32)), .val (.int (own_em (own_mx p1 p5) (own_mx p2 p5) (own_mx p3 p5) (own_t p1 p2 p4 p5)))] [(.int r)])) t
    exact k)
  have pre52 : ∀ t, Steps p.tables e below (T50.setTop (mkF m 315 #[.val (.int p1), .val (.int p2), .val (.int p3), .val (.int p4), .val (.int p5), .val (.int (own_mask p5)), .val (.int (own_mx p1 p5)), .val (.int (own_mx p2 p5)), .val (.int (own_mx p3 p5)), .val (.int (own_md p5)), .val (.int (own_t p1 p2 p4 p5)), .val (.ref ob), .val (.int (1 : Int32)), .val (.int (own_em (own_mx p1 p5) (own_mx p2 p5) (own_mx p3 p5) (own_t p1 p2 p4 p5)))] [(.int (own_t p1 p2 p4 p5)), (.int (own_mx p3 p5)), (.int (own_mx p2 p5)), (.int (own_mx p1 p5)), (.int r)])) t → Steps p.tables e below (s₁.setTop (entryFrame m #[(.int p1), (.int p2), (.int p3), (.int p4), (.int p5)] maxLocals)) t := fun t k => pre51 t (by
    show Steps p.tables e below (T50.setTop (mkF m 307 #[.val (.int p1), .val (.int p2), .val (.int p3), .val (.int p4), .val (.int p5), .val (.int (own_mask p5)), .val (.int (own_mx p1 p5)), .val (.int (own_mx p2 p5)), .val (.int (own_mx p3 p5)), .val (.int (own_md p5)), .val (.int (own_t p1 p2 p4 p5)), .val (.ref ob), .val (.int (1 : Int32)), .val (.int (own_em (own_mx p1 p5) (own_mx p2 p5) (own_mx p3 p5) (own_t p1 p2 p4 p5)))] [(.int r)])) _
    refine XS.iload X50.here hx rfl (hb hby at_307) rfl ?_
    show Steps p.tables e below (T50.setTop (mkF m 309 #[.val (.int p1), .val (.int p2), .val (.int p3), .val (.int p4), .val (.int p5), .val (.int (own_mask p5)), .val (.int (own_mx p1 p5)), .val (.int (own_mx p2 p5)), .val (.int (own_mx p3 p5)), .val (.int (own_md p5)), .val (.int (own_t p1 p2 p4 p5)), .val (.ref ob), .val (.int (1 : Int32)), .val (.int (own_em (own_mx p1 p5) (own_mx p2 p5) (own_mx p3 p5) (own_t p1 p2 p4 p5)))] [(.int (own_mx p1 p5)), (.int r)])) _
    refine XS.iload X50.here hx rfl (hb hby at_309) rfl ?_
    show Steps p.tables e below (T50.setTop (mkF m 311 #[.val (.int p1), .val (.int p2), .val (.int p3), .val (.int p4), .val (.int p5), .val (.int (own_mask p5)), .val (.int (own_mx p1 p5)), .val (.int (own_mx p2 p5)), .val (.int (own_mx p3 p5)), .val (.int (own_md p5)), .val (.int (own_t p1 p2 p4 p5)), .val (.ref ob), .val (.int (1 : Int32)), .val (.int (own_em (own_mx p1 p5) (own_mx p2 p5) (own_mx p3 p5) (own_t p1 p2 p4 p5)))] [(.int (own_mx p2 p5)), (.int (own_mx p1 p5)), (.int r)])) _
    refine XS.iload X50.here hx rfl (hb hby at_311) rfl ?_
    show Steps p.tables e below (T50.setTop (mkF m 313 #[.val (.int p1), .val (.int p2), .val (.int p3), .val (.int p4), .val (.int p5), .val (.int (own_mask p5)), .val (.int (own_mx p1 p5)), .val (.int (own_mx p2 p5)), .val (.int (own_mx p3 p5)), .val (.int (own_md p5)), .val (.int (own_t p1 p2 p4 p5)), .val (.ref ob), .val (.int (1 : Int32)), .val (.int (own_em (own_mx p1 p5) (own_mx p2 p5) (own_mx p3 p5) (own_t p1 p2 p4 p5)))] [(.int (own_mx p3 p5)), (.int (own_mx p2 p5)), (.int (own_mx p1 p5)), (.int r)])) _
    refine XS.iload X50.here hx rfl (hb hby at_313) rfl ?_
    show Steps p.tables e below (T50.setTop (mkF m 315 #[.val (.int p1), .val (.int p2), .val (.int p3), .val (.int p4), .val (.int p5), .val (.int (own_mask p5)), .val (.int (own_mx p1 p5)), .val (.int (own_mx p2 p5)), .val (.int (own_mx p3 p5)), .val (.int (own_md p5)), .val (.int (own_t p1 p2 p4 p5)), .val (.ref ob), .val (.int (1 : Int32)), .val (.int (own_em (own_mx p1 p5) (own_mx p2 p5) (own_mx p3 p5) (own_t p1 p2 p4 p5)))] [(.int (own_t p1 p2 p4 p5)), (.int (own_mx p3 p5)), (.int (own_mx p2 p5)), (.int (own_mx p1 p5)), (.int r)])) _
    exact k)
  obtain ⟨_, _, ⟨T53, L53, k53, n53⟩, -, X53, ⟨Lc53, hQ53, l53, y53, z53⟩, st53⟩ := Jvm.LawKit.callS X50 hx (y := (⟨"com/example/berchta/berchta/learn/NodeSetRemovePinLaw", "least", "(IIII)I"⟩ : MethodName)) hown (mvT hZ (hw _ (List.mem_of_getElem? (i := 51) rfl))) (mvT hZ (hw _ (List.mem_of_getElem? (i := 52) rfl))) (mvT hZ (hw _ (List.mem_of_getElem? (i := 53) rfl))) (mvT hZ (hw _ (List.mem_of_getElem? (i := 54) rfl))) (by decide) (backOf (W := 1) (rm10 l Z a0 hw [] (own_mx p1 p5) (own_mx p2 p5) (own_mx p3 p5) (own_t p1 p2 p4 p5)  T24.heap n0 (Nat.le_trans g_ob (Nat.le_of_lt TP23.1.lt))) hZ (hw _ (List.mem_of_getElem? (i := 54) rfl)) (hw _ (List.mem_of_getElem? (i := 53) rfl)) (by decide) (by decide)) (g := (mkF m 315 #[.val (.int p1), .val (.int p2), .val (.int p3), .val (.int p4), .val (.int p5), .val (.int (own_mask p5)), .val (.int (own_mx p1 p5)), .val (.int (own_mx p2 p5)), .val (.int (own_mx p3 p5)), .val (.int (own_md p5)), .val (.int (own_t p1 p2 p4 p5)), .val (.ref ob), .val (.int (1 : Int32)), .val (.int (own_em (own_mx p1 p5) (own_mx p2 p5) (own_mx p3 p5) (own_t p1 p2 p4 p5)))] [(.int (own_t p1 p2 p4 p5)), (.int (own_mx p3 p5)), (.int (own_mx p2 p5)), (.int (own_mx p1 p5)), (.int r)])) rfl (by rw [hml]; rfl) (argsL := [(.int (own_mx p1 p5)), (.int (own_mx p2 p5)), (.int (own_mx p3 p5)), (.int (own_t p1 p2 p4 p5))]) (rest := [(.int r)]) (lenOf pdx_8 rfl) rfl (by show 2 * 0 + _ ≤ _; exact Nat.le_of_eq rfl) (hb hby at_315) (fun _ _ => ⟨rfl, e50, (by decide : 17 + 0 ≤ _), (by decide : 790 + 0 ≤ _)⟩)
  dsimp only [Pt.U, Pt.locs, Pt.cells, Pt.slots] at X53 l53 y53 z53 st53 hQ53
  subst l53 y53 z53
  obtain ⟨rfl, N53q, e53⟩ := hQ53
  have N53 := Fr.app N50 N53q
  have pre54 : ∀ t, Steps p.tables e below (T53.setTop (mkF m 318 #[.val (.int p1), .val (.int p2), .val (.int p3), .val (.int p4), .val (.int p5), .val (.int (own_mask p5)), .val (.int (own_mx p1 p5)), .val (.int (own_mx p2 p5)), .val (.int (own_mx p3 p5)), .val (.int (own_md p5)), .val (.int (own_t p1 p2 p4 p5)), .val (.ref ob), .val (.int (1 : Int32)), .val (.int (own_em (own_mx p1 p5) (own_mx p2 p5) (own_mx p3 p5) (own_t p1 p2 p4 p5)))] [(.int (own_least (own_mx p1 p5) (own_mx p2 p5) (own_mx p3 p5) (own_t p1 p2 p4 p5))), (.int r)])) t → Steps p.tables e below (s₁.setTop (entryFrame m #[(.int p1), (.int p2), (.int p3), (.int p4), (.int p5)] maxLocals)) t := fun t k => pre52 t (by
    show Steps p.tables e below (T50.setTop (mkF m 315 #[.val (.int p1), .val (.int p2), .val (.int p3), .val (.int p4), .val (.int p5), .val (.int (own_mask p5)), .val (.int (own_mx p1 p5)), .val (.int (own_mx p2 p5)), .val (.int (own_mx p3 p5)), .val (.int (own_md p5)), .val (.int (own_t p1 p2 p4 p5)), .val (.ref ob), .val (.int (1 : Int32)), .val (.int (own_em (own_mx p1 p5) (own_mx p2 p5) (own_mx p3 p5) (own_t p1 p2 p4 p5)))] [(.int (own_t p1 p2 p4 p5)), (.int (own_mx p3 p5)), (.int (own_mx p2 p5)), (.int (own_mx p1 p5)), (.int r)])) t
    refine st53 _ ?_
    show Steps p.tables e below (T53.setTop (mkF m 318 #[.val (.int p1), .val (.int p2), .val (.int p3), .val (.int p4), .val (.int p5), .val (.int (own_mask p5)), .val (.int (own_mx p1 p5)), .val (.int (own_mx p2 p5)), .val (.int (own_mx p3 p5)), .val (.int (own_md p5)), .val (.int (own_t p1 p2 p4 p5)), .val (.ref ob), .val (.int (1 : Int32)), .val (.int (own_em (own_mx p1 p5) (own_mx p2 p5) (own_mx p3 p5) (own_t p1 p2 p4 p5)))] [(.int (own_least (own_mx p1 p5) (own_mx p2 p5) (own_mx p3 p5) (own_t p1 p2 p4 p5))), (.int r)])) t
    exact k)
  have pre55 : ∀ t, Steps p.tables e below (T53.setTop (mkF m 330 #[.val (.int p1), .val (.int p2), .val (.int p3), .val (.int p4), .val (.int p5), .val (.int (own_mask p5)), .val (.int (own_mx p1 p5)), .val (.int (own_mx p2 p5)), .val (.int (own_mx p3 p5)), .val (.int (own_md p5)), .val (.int (own_t p1 p2 p4 p5)), .val (.ref ob), .val (.int (1 : Int32)), .val (.int (own_em (own_mx p1 p5) (own_mx p2 p5) (own_mx p3 p5) (own_t p1 p2 p4 p5)))] [(.int (1 : Int32))])) t → Steps p.tables e below (s₁.setTop (entryFrame m #[(.int p1), (.int p2), (.int p3), (.int p4), (.int p5)] maxLocals)) t := fun t k => pre54 t (by
    show Steps p.tables e below (T53.setTop (mkF m 318 #[.val (.int p1), .val (.int p2), .val (.int p3), .val (.int p4), .val (.int p5), .val (.int (own_mask p5)), .val (.int (own_mx p1 p5)), .val (.int (own_mx p2 p5)), .val (.int (own_mx p3 p5)), .val (.int (own_md p5)), .val (.int (own_t p1 p2 p4 p5)), .val (.ref ob), .val (.int (1 : Int32)), .val (.int (own_em (own_mx p1 p5) (own_mx p2 p5) (own_mx p3 p5) (own_t p1 p2 p4 p5)))] [(.int (own_least (own_mx p1 p5) (own_mx p2 p5) (own_mx p3 p5) (own_t p1 p2 p4 p5))), (.int r)])) _
    refine XS.icmpNo X53.here hx rfl (hb hby at_318) rfl (teq (own_fin (own_mx_in _ _).2 (own_mx_in _ _).2 (own_mx_in _ _).2 hls)).2 ?_
    show Steps p.tables e below (T53.setTop (mkF m 321 #[.val (.int p1), .val (.int p2), .val (.int p3), .val (.int p4), .val (.int p5), .val (.int (own_mask p5)), .val (.int (own_mx p1 p5)), .val (.int (own_mx p2 p5)), .val (.int (own_mx p3 p5)), .val (.int (own_md p5)), .val (.int (own_t p1 p2 p4 p5)), .val (.ref ob), .val (.int (1 : Int32)), .val (.int (own_em (own_mx p1 p5) (own_mx p2 p5) (own_mx p3 p5) (own_t p1 p2 p4 p5)))] [])) _
    refine XS.iconst X53.here hx rfl (hb hby at_321) ?_
    show Steps p.tables e below (T53.setTop (mkF m 322 #[.val (.int p1), .val (.int p2), .val (.int p3), .val (.int p4), .val (.int p5), .val (.int (own_mask p5)), .val (.int (own_mx p1 p5)), .val (.int (own_mx p2 p5)), .val (.int (own_mx p3 p5)), .val (.int (own_md p5)), .val (.int (own_t p1 p2 p4 p5)), .val (.ref ob), .val (.int (1 : Int32)), .val (.int (own_em (own_mx p1 p5) (own_mx p2 p5) (own_mx p3 p5) (own_t p1 p2 p4 p5)))] [(.int (1 : Int32))])) _
    refine XS.goto X53.here hx rfl (pc0 := 322) (pc' := 326) rfl (hb hby at_322) (by decide) (by decide) ?_
    show Steps p.tables e below (T53.setTop (mkF m 326 #[.val (.int p1), .val (.int p2), .val (.int p3), .val (.int p4), .val (.int p5), .val (.int (own_mask p5)), .val (.int (own_mx p1 p5)), .val (.int (own_mx p2 p5)), .val (.int (own_mx p3 p5)), .val (.int (own_md p5)), .val (.int (own_t p1 p2 p4 p5)), .val (.ref ob), .val (.int (1 : Int32)), .val (.int (own_em (own_mx p1 p5) (own_mx p2 p5) (own_mx p3 p5) (own_t p1 p2 p4 p5)))] [(.int (1 : Int32))])) _
    refine XS.istore X53.here hx rfl (hb hby at_326) rfl (l' := #[.val (.int p1), .val (.int p2), .val (.int p3), .val (.int p4), .val (.int p5), .val (.int (own_mask p5)), .val (.int (own_mx p1 p5)), .val (.int (own_mx p2 p5)), .val (.int (own_mx p3 p5)), .val (.int (own_md p5)), .val (.int (own_t p1 p2 p4 p5)), .val (.ref ob), .val (.int (1 : Int32)), .val (.int (own_em (own_mx p1 p5) (own_mx p2 p5) (own_mx p3 p5) (own_t p1 p2 p4 p5)))]) rfl ?_
    show Steps p.tables e below (T53.setTop (mkF m 328 #[.val (.int p1), .val (.int p2), .val (.int p3), .val (.int p4), .val (.int p5), .val (.int (own_mask p5)), .val (.int (own_mx p1 p5)), .val (.int (own_mx p2 p5)), .val (.int (own_mx p3 p5)), .val (.int (own_md p5)), .val (.int (own_t p1 p2 p4 p5)), .val (.ref ob), .val (.int (1 : Int32)), .val (.int (own_em (own_mx p1 p5) (own_mx p2 p5) (own_mx p3 p5) (own_t p1 p2 p4 p5)))] [])) _
    refine XS.iload X53.here hx rfl (hb hby at_328) rfl ?_
    show Steps p.tables e below (T53.setTop (mkF m 330 #[.val (.int p1), .val (.int p2), .val (.int p3), .val (.int p4), .val (.int p5), .val (.int (own_mask p5)), .val (.int (own_mx p1 p5)), .val (.int (own_mx p2 p5)), .val (.int (own_mx p3 p5)), .val (.int (own_md p5)), .val (.int (own_t p1 p2 p4 p5)), .val (.ref ob), .val (.int (1 : Int32)), .val (.int (own_em (own_mx p1 p5) (own_mx p2 p5) (own_mx p3 p5) (own_t p1 p2 p4 p5)))] [(.int (1 : Int32))])) _
    exact k)
  obtain ⟨fs, hr, hrun, hended, hW, hsame⟩ := X53.leave (v := some (.int (1 : Int32))) (fun h => by rw [Bd.returns] at h; cases h)
  refine ⟨_, _, pre55 _ ?_, hrun, hended, _, _, rfl, ?_, ⟨_, rfl⟩, hW, hsame.mono (by decide) (by decide)⟩
  · show Steps p.tables e below (T53.setTop (mkF m 330 #[.val (.int p1), .val (.int p2), .val (.int p3), .val (.int p4), .val (.int p5), .val (.int (own_mask p5)), .val (.int (own_mx p1 p5)), .val (.int (own_mx p2 p5)), .val (.int (own_mx p3 p5)), .val (.int (own_md p5)), .val (.int (own_t p1 p2 p4 p5)), .val (.ref ob), .val (.int (1 : Int32)), .val (.int (own_em (own_mx p1 p5) (own_mx p2 p5) (own_mx p3 p5) (own_t p1 p2 p4 p5)))] [(.int (1 : Int32))])) _
    exact retN X53 hx (t := .boolean) Bd.returns (by simp) (hb hby at_330) hr
  · show Q0 Z p1 p2 p3 p4 p5 h0 n0 _ T53.heap _
    rw [e53]
    exact ⟨rfl, N53⟩
set_option maxRecDepth 65536 in
set_option maxHeartbeats 40000000 in
theorem comes_1 {Post : Tables → Env → Array Value → State → Outcome → State → Prop} (hpost : ∀ tb e args s v u, (limb_1_1.after args s (.returned v) u = true ∧ limb_1_2.after args s (.returned v) u = true ∧ True) → FrameEnd s (.returned v) u (Jvm.fieldLocs frame_1_writes args s ++ Jvm.arrayLocs frame_1_arrays args s ++ Jvm.staticLocs frame_1_statics s) 24 896 → Post tb e args s (.returned v) u) :
    ArmFor flags0 classFile x code maxLocals ret World_1 tables_1 room_1 Calls_1 rest_1 Pre_1 Post := by
  intro l hfl _ _ p e ha hc hk s m args below hf hA hF happ hP
  obtain ⟨hcalls, hrest, hpre⟩ := hP
  obtain ⟨-, -, -, hnamed, -, -, -, hat⟩ := (Spec.applies_iff hf).mp happ
  obtain ⟨hg, hn⟩ := and_e (Cond.before_iff.mp (show (Jvm.Cond.and given_1 narrow_1).before args s = true from hpre))
  obtain ⟨gc, ga0⟩ := and_e hg
  obtain ⟨gb0, ga1⟩ := and_e ga0
  obtain ⟨gb1, ga2⟩ := and_e ga1
  obtain ⟨gb2, ga3⟩ := and_e ga2
  obtain ⟨gb3, ga4⟩ := and_e ga3
  obtain ⟨w0, w1, w2, w3, w4, rfl⟩ : ∃ w0 w1 w2 w3 w4 : Value, args = #[w0, w1, w2, w3, w4] := by
    have hs : args.size = 5 := by simpa [Cond.value, given_1] using gc
    obtain ⟨L⟩ := args
    match L, hs with
    | [w0, w1, w2, w3, w4], _ => exact ⟨w0, w1, w2, w3, w4, rfl⟩
  have hw := fun d (hd : d ∈ tables_1) => atoms_spec (ws := Jvm.Cond.code x code maxLocals ret :: tables_1) hat d (List.mem_cons_of_mem _ hd)
  obtain ⟨i0, ei0⟩ := is_v gb0
  obtain rfl : w0 = (.int i0) := Option.some.inj ei0
  obtain ⟨i1, ei1⟩ := is_v gb1
  obtain rfl : w1 = (.int i1) := Option.some.inj ei1
  obtain ⟨i2, ei2⟩ := is_v gb2
  obtain rfl : w2 = (.int i2) := Option.some.inj ei2
  obtain ⟨i3, ei3⟩ := is_v gb3
  obtain rfl : w3 = (.int i3) := Option.some.inj ei3
  obtain ⟨i4, ei4⟩ := is_v ga4
  obtain rfl : w4 = (.int i4) := Option.some.inj ei4
  obtain ⟨n, o, h1, h2, h3, _, L, rfl, ⟨rfl, N⟩, hq⟩ := rm0 l s _ hw tables_1 i0 i1 i2 i3 i4 s.heap s.heap.size (Nat.le_refl _)  p e ha hc hk s m _ below hf ((Spec.applies_iff_loose hf).mp happ).1 ⟨rfl, State.Warmed39.refl s, rfl⟩ trivial
  refine ⟨n, _, h1, h2, h3, hpost _ _ _ _ _ _ ⟨Cond.after_iff.mpr rfl, Cond.after_iff.mpr (eq_i res_at (Term.int_eval (1)) rfl), trivial⟩ ⟨hq.1, hq.2.1, (hq.2.2.sift fun y hy => Or.inr (N y hy)).mono (by decide) (by decide)⟩⟩
theorem main_1_1 : Claimed_1_1 := comes_1 fun _ _ _ _ _ _ h hF => ⟨h.1, hF⟩
theorem main_1_2 : Claimed_1_2 := comes_1 fun _ _ _ _ _ _ h hF => ⟨h.2.1, hF⟩
end Jvm.Pilot.@@N@@
namespace Jvm.Pilot.@@N@@
open Jvm Jvm.ClassFile Sem Op Lib Jvm.Free Jvm.Stand Jvm.Pilot.@@N@@.Jvm.D
/-! MADE BY PROGRAM (witnessworld.py) out of the Statement's table words and the real class files: 20 classes; the members and pool entries that the words name. The judged class is class 1, her method 2. -/
namespace start1
open Jvm.ClassFile
def u (s : String) : CpInfo := .utf8 (stringToUtf16 s)
/-- a pool by its gaps: so many unusable entries, then the entry; so many at the end -/
def gap : Nat → List CpInfo → List CpInfo
  | 0, r => r
  | n + 1, r => .unusable :: gap n r
def poolList (es : List (Nat × CpInfo)) (last : Nat) : List CpInfo := es.foldr (fun e r => gap e.1 (e.2 :: r)) (gap last [])
def pool (es : List (Nat × CpInfo)) (last : Nat) : Array CpInfo := ⟨poolList es last⟩
def fileOf (pool : Array CpInfo) (this : Nat) (attrs : Array Attribute := #[]) (ms : Array MethodInfo := #[]) (fl : Nat := 33) (sup : Nat := 0) (ifs : Array Nat := #[]) (fds : Array FieldInfo := #[]) : ClassFile where
  minorVersion := 0
  majorVersion := 65
  constantPool := pool
  accessFlags := fl
  thisClass := this
  superClass := sup
  interfaces := ifs
  fields := fds
  methods := ms
  attributes := attrs
def plain (name : String) (sup : Option ClassId) : Class where
  name := name
  kind := .ordinary
  loader := none
  accessFlags := 33
  super := sup
  interfaces := #[]
  cf := none
  fields := #[]
  methods := #[]
  instanceTypes := #[]
  staticTypes := #[]
  resolved := #[]
  callSites := []
  init := .initialized
  statics := none
  mirror := none

def pool0 : Array CpInfo := pool [(5, u "<init>"), (0, u "()V"), (1, .class_ 10), (1, u "java/lang/Object")] 113

def k0c0 : Code := { maxStack := 0, maxLocals := 1, code := object_method_1_code, exceptionTable := #[], attributes := #[] }
def k0m0 : Method := { name := "<init>", desc := "()V", sig := { parameters := [], returnType := none }, accessFlags := 1, code := some k0c0 }
/-- java/lang/Object -/
def k0 : Class := { plain "java/lang/Object" none with
  accessFlags := 33
  interfaces := #[]
  cf := some (fileOf pool0 8 #[] #[{ accessFlags := 1, nameIndex := 5, descriptorIndex := 6, attributes := #[] }] 33 0 #[] #[])
  fields := #[]
  methods := #[k0m0]
  instanceTypes := #[]
  staticTypes := #[]
  resolved := Array.replicate 124 none
  statics := none }

def pool1 : Array CpInfo := pool [(2, .class_ 4), (0, .nameAndType 5 6), (0, u "java/lang/Object"), (0, u "<init>"), (0, u "()V"), (0, .class_ 8), (0, u "com/example/berchta/berchta/learn/NodeSet"), (0, .methodref 7 3), (0, .methodref 7 11), (0, .nameAndType 12 13), (0, u "add"), (0, u "(I)V"), (0, .methodref 7 15), (0, .nameAndType 16 13), (0, u "remove"), (0, .methodref 7 18), (0, .nameAndType 19 20), (0, u "contains"), (0, u "(I)Z"), (0, .methodref 7 22), (0, .nameAndType 23 24), (0, u "isEmpty"), (0, u "()Z"), (0, .methodref 7 26), (0, .nameAndType 27 28), (0, u "next"), (0, u "(I)I"), (0, .methodref 30 31), (0, .class_ 32), (0, .nameAndType 33 34), (0, u "com/example/berchta/berchta/learn/NodeSetRemovePinLaw"), (0, u "least"), (0, u "(IIII)I"), (3, u "law"), (0, u "(IIIII)Z")] 2

def k1m0 : Method := { name := "<init>", desc := "()V", sig := { parameters := [], returnType := none }, accessFlags := 1, code := none }
def k1c1 : Code := { maxStack := 2, maxLocals := 5, code := method_2_code, exceptionTable := #[], attributes := #[] }
def k1m1 : Method := { name := "least", desc := "(IIII)I", sig := { parameters := [.int, .int, .int, .int], returnType := some .int }, accessFlags := 10, code := some k1c1 }
def k1c2 : Code := { maxStack := 5, maxLocals := 14, code := code, exceptionTable := #[], attributes := #[] }
def k1m2 : Method := { name := "law", desc := "(IIIII)Z", sig := { parameters := [.int, .int, .int, .int, .int], returnType := some .boolean }, accessFlags := 9, code := some k1c2 }
/-- com/example/berchta/berchta/learn/NodeSetRemovePinLaw -/
def k1 : Class := { plain "com/example/berchta/berchta/learn/NodeSetRemovePinLaw" (some 0) with
  accessFlags := 49
  interfaces := #[]
  cf := some (fileOf pool1 30 #[] #[{ accessFlags := 1, nameIndex := 5, descriptorIndex := 6, attributes := #[] }, { accessFlags := 10, nameIndex := 33, descriptorIndex := 34, attributes := #[] }, { accessFlags := 9, nameIndex := 38, descriptorIndex := 39, attributes := #[] }] 49 2 #[] #[])
  fields := #[]
  methods := #[k1m0, k1m1, k1m2]
  instanceTypes := #[]
  staticTypes := #[]
  resolved := Array.replicate 42 none
  statics := none }

def pool2 : Array CpInfo := pool [(1, .methodref 2 3), (0, .class_ 4), (0, .nameAndType 5 6), (0, u "java/lang/Object"), (0, u "<init>"), (0, u "()V"), (0, .fieldref 8 9), (0, .class_ 10), (0, .nameAndType 11 12), (0, u "com/example/berchta/berchta/learn/NodeSet"), (0, u "words"), (0, u "[J"), (0, .methodref 8 3), (5, .fieldref 8 20), (0, .nameAndType 21 22), (0, u "filled"), (0, u "Lcom/example/berchta/berchta/learn/NodeSet;"), (4, .fieldref 8 28), (0, .nameAndType 29 30), (0, u "size"), (0, u "I"), (0, .methodref 8 32), (0, .nameAndType 33 34), (0, u "grow"), (0, u "(I)V"), (0, .methodref 8 36), (0, .nameAndType 37 34), (0, u "add"), (0, .long 18446744073709551615), (1, .methodref 8 41), (0, .nameAndType 42 34), (0, u "remove"), (0, .methodref 44 45), (0, .class_ 46), (0, .nameAndType 47 48), (0, u "java/lang/Long"), (0, u "numberOfTrailingZeros"), (0, u "(J)I"), (0, .methodref 8 50), (0, .nameAndType 51 52), (0, u "nextFilled"), (0, u "(I)I"), (0, .methodref 8 54), (0, .nameAndType 55 52), (0, u "next"), (8, .methodref 65 66), (0, .class_ 67), (0, .nameAndType 68 69), (0, u "java/lang/Math"), (0, u "max"), (0, u "(II)I"), (0, .methodref 71 72), (0, .class_ 73), (0, .nameAndType 74 75), (0, u "java/util/Arrays"), (0, u "copyOf"), (0, u "([JI)[J"), (0, u "MOST_SCANNED"), (5, u "contains"), (0, u "(I)Z"), (0, u "isEmpty"), (0, u "()Z")] 4

def k2c0 : Code := { maxStack := 2, maxLocals := 1, code := prog_101_method_1_code, exceptionTable := #[], attributes := #[] }
def k2m0 : Method := { name := "<init>", desc := "()V", sig := { parameters := [], returnType := none }, accessFlags := 0, code := some k2c0 }
def k2c1 : Code := { maxStack := 5, maxLocals := 7, code := prog_101_method_3_code, exceptionTable := #[], attributes := #[] }
def k2m1 : Method := { name := "add", desc := "(I)V", sig := { parameters := [.int], returnType := none }, accessFlags := 0, code := some k2c1 }
def k2c2 : Code := { maxStack := 6, maxLocals := 7, code := prog_101_method_4_code, exceptionTable := #[], attributes := #[] }
def k2m2 : Method := { name := "remove", desc := "(I)V", sig := { parameters := [.int], returnType := none }, accessFlags := 0, code := some k2c2 }
def k2c3 : Code := { maxStack := 5, maxLocals := 3, code := prog_101_method_5_code, exceptionTable := #[], attributes := #[] }
def k2m3 : Method := { name := "contains", desc := "(I)Z", sig := { parameters := [.int], returnType := some .boolean }, accessFlags := 0, code := some k2c3 }
def k2c4 : Code := { maxStack := 1, maxLocals := 1, code := prog_101_method_6_code, exceptionTable := #[], attributes := #[] }
def k2m4 : Method := { name := "isEmpty", desc := "()Z", sig := { parameters := [], returnType := some .boolean }, accessFlags := 0, code := some k2c4 }
def k2c5 : Code := { maxStack := 5, maxLocals := 6, code := prog_101_method_7_code, exceptionTable := #[], attributes := #[] }
def k2m5 : Method := { name := "next", desc := "(I)I", sig := { parameters := [.int], returnType := some .int }, accessFlags := 0, code := some k2c5 }
def k2c6 : Code := { maxStack := 4, maxLocals := 3, code := prog_101_method_10_code, exceptionTable := #[], attributes := #[] }
def k2m6 : Method := { name := "nextFilled", desc := "(I)I", sig := { parameters := [.int], returnType := some .int }, accessFlags := 2, code := some k2c6 }
def k2c7 : Code := { maxStack := 5, maxLocals := 3, code := prog_101_method_11_code, exceptionTable := #[], attributes := #[] }
def k2m7 : Method := { name := "grow", desc := "(I)V", sig := { parameters := [.int], returnType := none }, accessFlags := 2, code := some k2c7 }
/-- com/example/berchta/berchta/learn/NodeSet -/
def k2 : Class := { plain "com/example/berchta/berchta/learn/NodeSet" (some 0) with
  accessFlags := 32
  interfaces := #[]
  cf := some (fileOf pool2 8 #[] #[{ accessFlags := 0, nameIndex := 5, descriptorIndex := 6, attributes := #[] }, { accessFlags := 0, nameIndex := 37, descriptorIndex := 34, attributes := #[] }, { accessFlags := 0, nameIndex := 42, descriptorIndex := 34, attributes := #[] }, { accessFlags := 0, nameIndex := 82, descriptorIndex := 83, attributes := #[] }, { accessFlags := 0, nameIndex := 84, descriptorIndex := 85, attributes := #[] }, { accessFlags := 0, nameIndex := 55, descriptorIndex := 52, attributes := #[] }, { accessFlags := 2, nameIndex := 51, descriptorIndex := 52, attributes := #[] }, { accessFlags := 2, nameIndex := 33, descriptorIndex := 34, attributes := #[] }] 32 2 #[] #[{ accessFlags := 26, nameIndex := 76, descriptorIndex := 30, attributes := #[] }, { accessFlags := 2, nameIndex := 11, descriptorIndex := 12, attributes := #[] }, { accessFlags := 2, nameIndex := 21, descriptorIndex := 22, attributes := #[] }, { accessFlags := 2, nameIndex := 29, descriptorIndex := 30, attributes := #[] }])
  fields := #[{ name := "MOST_SCANNED", type := .int, accessFlags := 26, slot := 0, constantValue := 0 }, { name := "words", type := (.array .long), accessFlags := 2, slot := 0, constantValue := 0 }, { name := "filled", type := (.object "com/example/berchta/berchta/learn/NodeSet"), accessFlags := 2, slot := 1, constantValue := 0 }, { name := "size", type := .int, accessFlags := 2, slot := 2, constantValue := 0 }]
  methods := #[k2m0, k2m1, k2m2, k2m3, k2m4, k2m5, k2m6, k2m7]
  instanceTypes := #[(.array .long), (.object "com/example/berchta/berchta/learn/NodeSet"), .int]
  staticTypes := #[.int]
  resolved := Array.replicate 90 none
  statics := none }

def pool3 : Array CpInfo := pool [(1, .class_ 2), (0, u "java/io/Serializable"), (0, .class_ 4), (0, u "java/lang/Object")] 2

/-- java/io/Serializable -/
def k3 : Class := { plain "java/io/Serializable" (some 0) with
  accessFlags := 1537
  interfaces := #[]
  cf := some (fileOf pool3 1 #[] #[] 1537 3 #[] #[])
  fields := #[]
  methods := #[]
  instanceTypes := #[]
  staticTypes := #[]
  resolved := Array.replicate 7 none
  statics := none }

def pool4 : Array CpInfo := pool [(2, .class_ 4), (1, u "java/lang/Object"), (0, u "<init>"), (0, u "()V"), (1, .class_ 10), (1, u "java/lang/Number"), (2, .class_ 14), (0, u "java/io/Serializable"), (0, u "serialVersionUID"), (0, u "J")] 20

def k4m0 : Method := { name := "<init>", desc := "()V", sig := { parameters := [], returnType := none }, accessFlags := 1, code := none }
/-- java/lang/Number -/
def k4 : Class := { plain "java/lang/Number" (some 0) with
  accessFlags := 1057
  interfaces := #[3]
  cf := some (fileOf pool4 8 #[] #[{ accessFlags := 1, nameIndex := 5, descriptorIndex := 6, attributes := #[] }] 1057 2 #[13] #[{ accessFlags := 26, nameIndex := 15, descriptorIndex := 16, attributes := #[] }])
  fields := #[{ name := "serialVersionUID", type := .long, accessFlags := 26, slot := 0, constantValue := 0 }]
  methods := #[k4m0]
  instanceTypes := #[]
  staticTypes := #[.long]
  resolved := Array.replicate 37 none
  statics := none }

def pool5 : Array CpInfo := pool [(1, .class_ 2), (0, u "java/lang/Comparable"), (0, .class_ 4), (0, u "java/lang/Object")] 7

/-- java/lang/Comparable -/
def k5 : Class := { plain "java/lang/Comparable" (some 0) with
  accessFlags := 1537
  interfaces := #[]
  cf := some (fileOf pool5 1 #[] #[] 1537 3 #[] #[])
  fields := #[]
  methods := #[]
  instanceTypes := #[]
  staticTypes := #[]
  resolved := Array.replicate 12 none
  statics := none }

def pool6 : Array CpInfo := pool [(1, .class_ 2), (0, u "java/lang/constant/Constable"), (0, .class_ 4), (0, u "java/lang/Object")] 6

/-- java/lang/constant/Constable -/
def k6 : Class := { plain "java/lang/constant/Constable" (some 0) with
  accessFlags := 1537
  interfaces := #[]
  cf := some (fileOf pool6 1 #[] #[] 1537 3 #[] #[])
  fields := #[]
  methods := #[]
  instanceTypes := #[]
  staticTypes := #[]
  resolved := Array.replicate 11 none
  statics := none }

def pool7 : Array CpInfo := pool [(1, .class_ 2), (0, u "java/lang/constant/ConstantDesc"), (0, .class_ 4), (0, u "java/lang/Object")] 32

/-- java/lang/constant/ConstantDesc -/
def k7 : Class := { plain "java/lang/constant/ConstantDesc" (some 0) with
  accessFlags := 1537
  interfaces := #[]
  cf := some (fileOf pool7 1 #[] #[] 1537 3 #[] #[])
  fields := #[]
  methods := #[]
  instanceTypes := #[]
  staticTypes := #[]
  resolved := Array.replicate 37 none
  statics := none }

def pool8 : Array CpInfo := pool [(1, .class_ 2), (0, u "java/lang/Long"), (15, .class_ 20), (1, u "java/lang/Integer"), (80, u "(J)I"), (133, .class_ 237), (1, u "java/lang/Long$LongCache"), (33, .class_ 272), (0, u "java/lang/Number"), (2, u "value"), (0, u "J"), (33, u "(I)I"), (0, .methodref 18 312), (0, .nameAndType 313 310), (0, u "numberOfTrailingZeros"), (47, u "TYPE"), (0, u "Ljava/lang/Class;"), (0, .class_ 364), (0, u "java/lang/Comparable"), (0, .class_ 366), (0, u "java/lang/constant/Constable"), (0, .class_ 368), (0, u "java/lang/constant/ConstantDesc"), (0, u "MIN_VALUE"), (1, u "MAX_VALUE"), (4, u "SIZE"), (0, u "I"), (1, u "BYTES"), (1, u "serialVersionUID")] 142

def k8c0 : Code := { maxStack := 4, maxLocals := 3, code := jdk_35_method_49_code, exceptionTable := #[], attributes := #[] }
def k8m0 : Method := { name := "numberOfTrailingZeros", desc := "(J)I", sig := { parameters := [.long], returnType := some .int }, accessFlags := 9, code := some k8c0 }
/-- java/lang/Long -/
def k8 : Class := { plain "java/lang/Long" (some 4) with
  accessFlags := 49
  interfaces := #[5, 6, 7]
  cf := some (fileOf pool8 1 #[.nestMembers #[235]] #[{ accessFlags := 9, nameIndex := 313, descriptorIndex := 101, attributes := #[] }] 49 271 #[363, 365, 367] #[{ accessFlags := 25, nameIndex := 369, descriptorIndex := 276, attributes := #[] }, { accessFlags := 25, nameIndex := 371, descriptorIndex := 276, attributes := #[] }, { accessFlags := 25, nameIndex := 361, descriptorIndex := 362, attributes := #[] }, { accessFlags := 18, nameIndex := 275, descriptorIndex := 276, attributes := #[] }, { accessFlags := 25, nameIndex := 376, descriptorIndex := 377, attributes := #[] }, { accessFlags := 25, nameIndex := 379, descriptorIndex := 377, attributes := #[] }, { accessFlags := 26, nameIndex := 381, descriptorIndex := 276, attributes := #[] }])
  fields := #[{ name := "MIN_VALUE", type := .long, accessFlags := 25, slot := 0, constantValue := 0 }, { name := "MAX_VALUE", type := .long, accessFlags := 25, slot := 1, constantValue := 0 }, { name := "TYPE", type := (.object "java/lang/Class"), accessFlags := 25, slot := 2, constantValue := 0 }, { name := "value", type := .long, accessFlags := 18, slot := 0, constantValue := 0 }, { name := "SIZE", type := .int, accessFlags := 25, slot := 3, constantValue := 0 }, { name := "BYTES", type := .int, accessFlags := 25, slot := 4, constantValue := 0 }, { name := "serialVersionUID", type := .long, accessFlags := 26, slot := 5, constantValue := 0 }]
  methods := #[k8m0]
  instanceTypes := #[.long]
  staticTypes := #[.long, .long, (.object "java/lang/Class"), .int, .int, .long]
  resolved := Array.replicate 524 none
  statics := none }

def pool9 : Array CpInfo := pool [(1, .class_ 2), (0, u "java/lang/Integer"), (16, u "digits"), (0, u "[C"), (33, u "(I)I"), (30, u "DigitOnes"), (0, u "[B"), (2, u "DigitTens"), (99, .class_ 190), (0, u "java/lang/Integer$IntegerCache"), (3, u "I"), (8, .class_ 204), (0, u "java/lang/Number"), (2, u "value"), (56, .integer 65536), (37, u "TYPE"), (0, u "Ljava/lang/Class;"), (0, .class_ 305), (0, u "java/lang/Comparable"), (0, .class_ 307), (0, u "java/lang/constant/Constable"), (0, .class_ 309), (0, u "java/lang/constant/ConstantDesc"), (0, u "MIN_VALUE"), (1, u "MAX_VALUE"), (3, u "SIZE"), (1, u "BYTES"), (1, u "serialVersionUID"), (0, u "J"), (84, u "numberOfTrailingZeros")] 46

def k9c0 : Code := { maxStack := 3, maxLocals := 2, code := jdk_33_method_48_code, exceptionTable := #[], attributes := #[] }
def k9m0 : Method := { name := "numberOfTrailingZeros", desc := "(I)I", sig := { parameters := [.int], returnType := some .int }, accessFlags := 9, code := some k9c0 }
/-- java/lang/Integer -/
def k9 : Class := { plain "java/lang/Integer" (some 4) with
  accessFlags := 49
  interfaces := #[5, 6, 7]
  cf := some (fileOf pool9 1 #[.nestMembers #[189]] #[{ accessFlags := 9, nameIndex := 406, descriptorIndex := 54, attributes := #[] }] 49 203 #[304, 306, 308] #[{ accessFlags := 25, nameIndex := 310, descriptorIndex := 194, attributes := #[] }, { accessFlags := 25, nameIndex := 312, descriptorIndex := 194, attributes := #[] }, { accessFlags := 25, nameIndex := 302, descriptorIndex := 303, attributes := #[] }, { accessFlags := 24, nameIndex := 19, descriptorIndex := 20, attributes := #[] }, { accessFlags := 24, nameIndex := 89, descriptorIndex := 86, attributes := #[] }, { accessFlags := 24, nameIndex := 85, descriptorIndex := 86, attributes := #[] }, { accessFlags := 18, nameIndex := 207, descriptorIndex := 194, attributes := #[] }, { accessFlags := 25, nameIndex := 316, descriptorIndex := 194, attributes := #[] }, { accessFlags := 25, nameIndex := 318, descriptorIndex := 194, attributes := #[] }, { accessFlags := 26, nameIndex := 320, descriptorIndex := 321, attributes := #[] }])
  fields := #[{ name := "MIN_VALUE", type := .int, accessFlags := 25, slot := 0, constantValue := 0 }, { name := "MAX_VALUE", type := .int, accessFlags := 25, slot := 1, constantValue := 0 }, { name := "TYPE", type := (.object "java/lang/Class"), accessFlags := 25, slot := 2, constantValue := 0 }, { name := "digits", type := (.array .char), accessFlags := 24, slot := 3, constantValue := 0 }, { name := "DigitTens", type := (.array .byte), accessFlags := 24, slot := 4, constantValue := 0 }, { name := "DigitOnes", type := (.array .byte), accessFlags := 24, slot := 5, constantValue := 0 }, { name := "value", type := .int, accessFlags := 18, slot := 0, constantValue := 0 }, { name := "SIZE", type := .int, accessFlags := 25, slot := 6, constantValue := 0 }, { name := "BYTES", type := .int, accessFlags := 25, slot := 7, constantValue := 0 }, { name := "serialVersionUID", type := .long, accessFlags := 26, slot := 8, constantValue := 0 }]
  methods := #[k9m0]
  instanceTypes := #[.int]
  staticTypes := #[.int, .int, (.object "java/lang/Class"), (.array .char), (.array .byte), (.array .byte), .int, .int, .long]
  resolved := Array.replicate 453 none
  statics := none }

def pool10 : Array CpInfo := pool [(1, .class_ 2), (0, u "java/lang/Math"), (1, .class_ 6), (1, u "java/lang/Object"), (0, u "<init>"), (0, u "()V"), (89, .class_ 100), (1, u "java/lang/Math$RandomNumberGeneratorHolder"), (71, u "negativeZeroFloatBits"), (0, u "J"), (2, u "negativeZeroDoubleBits"), (21, u "max"), (2, u "min"), (43, u "$assertionsDisabled"), (0, u "Z"), (88, u "(II)I"), (2, u "twoToTheDoubleScaleDown"), (0, u "D"), (4, u "twoToTheDoubleScaleUp"), (9, u "E"), (3, u "PI"), (2, u "TAU"), (2, u "DEGREES_TO_RADIANS"), (0, u "RADIANS_TO_DEGREES")] 94

def k10m0 : Method := { name := "<init>", desc := "()V", sig := { parameters := [], returnType := none }, accessFlags := 2, code := none }
def k10c1 : Code := { maxStack := 2, maxLocals := 2, code := jdk_29_method_65_code, exceptionTable := #[], attributes := #[] }
def k10m1 : Method := { name := "max", desc := "(II)I", sig := { parameters := [.int, .int], returnType := some .int }, accessFlags := 9, code := some k10c1 }
def k10c2 : Code := { maxStack := 2, maxLocals := 2, code := jdk_29_method_69_code, exceptionTable := #[], attributes := #[] }
def k10m2 : Method := { name := "min", desc := "(II)I", sig := { parameters := [.int, .int], returnType := some .int }, accessFlags := 9, code := some k10c2 }
/-- java/lang/Math -/
def k10 : Class := { plain "java/lang/Math" (some 0) with
  accessFlags := 49
  interfaces := #[]
  cf := some (fileOf pool10 1 #[.nestMembers #[98]] #[{ accessFlags := 2, nameIndex := 7, descriptorIndex := 8, attributes := #[] }, { accessFlags := 9, nameIndex := 198, descriptorIndex := 335, attributes := #[] }, { accessFlags := 9, nameIndex := 201, descriptorIndex := 335, attributes := #[] }] 49 4 #[] #[{ accessFlags := 25, nameIndex := 354, descriptorIndex := 339, attributes := #[] }, { accessFlags := 25, nameIndex := 358, descriptorIndex := 339, attributes := #[] }, { accessFlags := 25, nameIndex := 361, descriptorIndex := 339, attributes := #[] }, { accessFlags := 26, nameIndex := 364, descriptorIndex := 339, attributes := #[] }, { accessFlags := 26, nameIndex := 365, descriptorIndex := 339, attributes := #[] }, { accessFlags := 26, nameIndex := 172, descriptorIndex := 173, attributes := #[] }, { accessFlags := 26, nameIndex := 176, descriptorIndex := 173, attributes := #[] }, { accessFlags := 8, nameIndex := 344, descriptorIndex := 339, attributes := #[] }, { accessFlags := 8, nameIndex := 338, descriptorIndex := 339, attributes := #[] }, { accessFlags := 4120, nameIndex := 245, descriptorIndex := 246, attributes := #[] }])
  fields := #[{ name := "E", type := .double, accessFlags := 25, slot := 0, constantValue := 0 }, { name := "PI", type := .double, accessFlags := 25, slot := 1, constantValue := 0 }, { name := "TAU", type := .double, accessFlags := 25, slot := 2, constantValue := 0 }, { name := "DEGREES_TO_RADIANS", type := .double, accessFlags := 26, slot := 3, constantValue := 0 }, { name := "RADIANS_TO_DEGREES", type := .double, accessFlags := 26, slot := 4, constantValue := 0 }, { name := "negativeZeroFloatBits", type := .long, accessFlags := 26, slot := 5, constantValue := 0 }, { name := "negativeZeroDoubleBits", type := .long, accessFlags := 26, slot := 6, constantValue := 0 }, { name := "twoToTheDoubleScaleUp", type := .double, accessFlags := 8, slot := 7, constantValue := 0 }, { name := "twoToTheDoubleScaleDown", type := .double, accessFlags := 8, slot := 8, constantValue := 0 }, { name := "$assertionsDisabled", type := .boolean, accessFlags := 4120, slot := 9, constantValue := 0 }]
  methods := #[k10m0, k10m1, k10m2]
  instanceTypes := #[]
  staticTypes := #[.double, .double, .double, .double, .double, .long, .long, .double, .double, .boolean]
  resolved := Array.replicate 460 none
  statics := none }

def pool11 : Array CpInfo := pool [(2, .class_ 4), (1, u "java/lang/Object"), (0, u "<init>"), (0, u "()V"), (7, .class_ 16), (1, u "java/util/Arrays"), (57, .class_ 76), (1, u "java/util/Arrays$NaturalOrder"), (36, .class_ 115), (1, u "java/util/Arrays$LegacyMergeSort"), (1, u "Z"), (32, .methodref 151 152), (0, .class_ 153), (0, .nameAndType 154 155), (0, u "java/lang/System"), (0, u "arraycopy"), (0, u "(Ljava/lang/Object;ILjava/lang/Object;II)V"), (146, u "copyOf"), (1, .methodref 305 306), (0, .class_ 307), (0, .nameAndType 308 309), (0, u "java/lang/Math"), (0, u "min"), (0, u "(II)I"), (65, .class_ 376), (0, u "java/util/Arrays$ArrayList"), (68, u "$assertionsDisabled"), (269, u "MIN_ARRAY_SORT_GRAN"), (0, u "I"), (2, u "INSERTIONSORT_THRESHOLD"), (152, u "([JI)[J"), (102, .class_ 976), (0, u "java/util/Arrays$ArrayItr")] 52

def k11m0 : Method := { name := "<init>", desc := "()V", sig := { parameters := [], returnType := none }, accessFlags := 2, code := none }
def k11c1 : Code := { maxStack := 6, maxLocals := 3, code := jdk_65_method_124_code, exceptionTable := #[], attributes := #[] }
def k11m1 : Method := { name := "copyOf", desc := "([JI)[J", sig := { parameters := [(.array .long), .int], returnType := some (.array .long) }, accessFlags := 9, code := some k11c1 }
/-- java/util/Arrays -/
def k11 : Class := { plain "java/util/Arrays" (some 0) with
  accessFlags := 49
  interfaces := #[]
  cf := some (fileOf pool11 14 #[.nestMembers #[975, 375, 113, 74]] #[{ accessFlags := 2, nameIndex := 5, descriptorIndex := 6, attributes := #[] }, { accessFlags := 9, nameIndex := 302, descriptorIndex := 872, attributes := #[] }] 49 2 #[] #[{ accessFlags := 26, nameIndex := 715, descriptorIndex := 716, attributes := #[] }, { accessFlags := 26, nameIndex := 719, descriptorIndex := 716, attributes := #[] }, { accessFlags := 4120, nameIndex := 445, descriptorIndex := 117, attributes := #[] }])
  fields := #[{ name := "MIN_ARRAY_SORT_GRAN", type := .int, accessFlags := 26, slot := 0, constantValue := 0 }, { name := "INSERTIONSORT_THRESHOLD", type := .int, accessFlags := 26, slot := 1, constantValue := 0 }, { name := "$assertionsDisabled", type := .boolean, accessFlags := 4120, slot := 2, constantValue := 0 }]
  methods := #[k11m0, k11m1]
  instanceTypes := #[]
  staticTypes := #[.int, .int, .boolean]
  resolved := Array.replicate 1029 none
  statics := none }

def pool12 : Array CpInfo := pool [(2, .class_ 4), (1, u "java/lang/Object"), (0, u "<init>"), (0, u "()V"), (1, .class_ 10), (1, u "java/lang/System"), (0, u "allowSecurityManager"), (0, u "I"), (16, u "cons"), (0, u "Ljava/io/Console;"), (77, .class_ 110), (1, u "java/lang/System$CallersHolder"), (43, u "initialErrStream"), (0, u "Ljava/io/PrintStream;"), (19, u "security"), (0, u "Ljava/lang/SecurityManager;"), (31, .class_ 209), (0, u "java/lang/System$1"), (7, u "props"), (0, u "Ljava/util/Properties;"), (2, u "lineSeparator"), (0, u "Ljava/lang/String;"), (96, .class_ 321), (1, u "java/lang/System$LoggerFinder"), (5, .class_ 328), (0, u "java/lang/System$Logger"), (67, u "err"), (2, u "out"), (91, u "notSupportedJnuEncoding"), (15, u "in"), (17, u "initialIn"), (0, u "Ljava/io/InputStream;"), (35, u "bootLayer"), (0, u "Ljava/lang/ModuleLayer;"), (99, .class_ 664), (0, u "java/lang/System$2"), (9, u "NEVER"), (2, u "MAYBE"), (49, u "arraycopy"), (0, u "(Ljava/lang/Object;ILjava/lang/Object;II)V"), (72, .class_ 802), (0, u "java/lang/System$Logger$Level")] 31

def k12m0 : Method := { name := "<init>", desc := "()V", sig := { parameters := [], returnType := none }, accessFlags := 2, code := none }
def k12m1 : Method := { name := "arraycopy", desc := "(Ljava/lang/Object;ILjava/lang/Object;II)V", sig := { parameters := [(.object "java/lang/Object"), .int, (.object "java/lang/Object"), .int, .int], returnType := none }, accessFlags := 265, code := none }
/-- java/lang/System -/
def k12 : Class := { plain "java/lang/System" (some 0) with
  accessFlags := 49
  interfaces := #[]
  cf := some (fileOf pool12 8 #[.nestMembers #[319, 327, 801, 108, 663, 208]] #[{ accessFlags := 2, nameIndex := 5, descriptorIndex := 6, attributes := #[] }, { accessFlags := 265, nameIndex := 727, descriptorIndex := 728, attributes := #[] }] 49 2 #[] #[{ accessFlags := 25, nameIndex := 507, descriptorIndex := 526, attributes := #[] }, { accessFlags := 25, nameIndex := 399, descriptorIndex := 155, attributes := #[] }, { accessFlags := 25, nameIndex := 396, descriptorIndex := 155, attributes := #[] }, { accessFlags := 10, nameIndex := 525, descriptorIndex := 526, attributes := #[] }, { accessFlags := 26, nameIndex := 674, descriptorIndex := 12, attributes := #[] }, { accessFlags := 26, nameIndex := 677, descriptorIndex := 12, attributes := #[] }, { accessFlags := 10, nameIndex := 11, descriptorIndex := 12, attributes := #[] }, { accessFlags := 74, nameIndex := 175, descriptorIndex := 176, attributes := #[] }, { accessFlags := 10, nameIndex := 491, descriptorIndex := 222, attributes := #[] }, { accessFlags := 74, nameIndex := 29, descriptorIndex := 30, attributes := #[] }, { accessFlags := 74, nameIndex := 154, descriptorIndex := 155, attributes := #[] }, { accessFlags := 10, nameIndex := 217, descriptorIndex := 218, attributes := #[] }, { accessFlags := 10, nameIndex := 221, descriptorIndex := 222, attributes := #[] }, { accessFlags := 8, nameIndex := 562, descriptorIndex := 563, attributes := #[] }])
  fields := #[{ name := "in", type := (.object "java/io/InputStream"), accessFlags := 25, slot := 0, constantValue := 0 }, { name := "out", type := (.object "java/io/PrintStream"), accessFlags := 25, slot := 1, constantValue := 0 }, { name := "err", type := (.object "java/io/PrintStream"), accessFlags := 25, slot := 2, constantValue := 0 }, { name := "initialIn", type := (.object "java/io/InputStream"), accessFlags := 10, slot := 3, constantValue := 0 }, { name := "NEVER", type := .int, accessFlags := 26, slot := 4, constantValue := 0 }, { name := "MAYBE", type := .int, accessFlags := 26, slot := 5, constantValue := 0 }, { name := "allowSecurityManager", type := .int, accessFlags := 10, slot := 6, constantValue := 0 }, { name := "security", type := (.object "java/lang/SecurityManager"), accessFlags := 74, slot := 7, constantValue := 0 }, { name := "notSupportedJnuEncoding", type := (.object "java/lang/String"), accessFlags := 10, slot := 8, constantValue := 0 }, { name := "cons", type := (.object "java/io/Console"), accessFlags := 74, slot := 9, constantValue := 0 }, { name := "initialErrStream", type := (.object "java/io/PrintStream"), accessFlags := 74, slot := 10, constantValue := 0 }, { name := "props", type := (.object "java/util/Properties"), accessFlags := 10, slot := 11, constantValue := 0 }, { name := "lineSeparator", type := (.object "java/lang/String"), accessFlags := 10, slot := 12, constantValue := 0 }, { name := "bootLayer", type := (.object "java/lang/ModuleLayer"), accessFlags := 8, slot := 13, constantValue := 0 }]
  methods := #[k12m0, k12m1]
  instanceTypes := #[]
  staticTypes := #[(.object "java/io/InputStream"), (.object "java/io/PrintStream"), (.object "java/io/PrintStream"), (.object "java/io/InputStream"), .int, .int, .int, (.object "java/lang/SecurityManager"), (.object "java/lang/String"), (.object "java/io/Console"), (.object "java/io/PrintStream"), (.object "java/util/Properties"), (.object "java/lang/String"), (.object "java/lang/ModuleLayer")]
  resolved := Array.replicate 834 none
  statics := none }

def pool13 : Array CpInfo := pool [(1, u "java/lang/Cloneable"), (0, .class_ 1), (0, u "java/lang/Object"), (0, .class_ 3)] 3

/-- java/lang/Cloneable -/
def k13 : Class := { plain "java/lang/Cloneable" (some 0) with
  accessFlags := 1537
  interfaces := #[]
  cf := some (fileOf pool13 2 #[] #[] 1537 4 #[] #[])
  fields := #[]
  methods := #[]
  instanceTypes := #[]
  staticTypes := #[]
  resolved := Array.replicate 8 none
  statics := none }

/-- the primitive byte -/
def k14 : Class := { plain "byte" none with kind := .primitive 'B', accessFlags := 0x411 }
/-- [B -/
def k15 : Class := { plain "[B" (some 0) with kind := .array 14 .byte, interfaces := #[13, 3], accessFlags := 1041 }

/-- the primitive int -/
def k16 : Class := { plain "int" none with kind := .primitive 'I', accessFlags := 0x411 }
/-- [I -/
def k17 : Class := { plain "[I" (some 0) with kind := .array 16 .int, interfaces := #[13, 3], accessFlags := 1041 }

/-- the primitive long -/
def k18 : Class := { plain "long" none with kind := .primitive 'J', accessFlags := 0x411 }
/-- [J -/
def k19 : Class := { plain "[J" (some 0) with kind := .array 18 .long, interfaces := #[13, 3], accessFlags := 1041 }

def heap : Heap := #[]
def classes : Array Class := #[k0, k1, k2, k3, k4, k5, k6, k7, k8, k9, k10, k11, k12, k13, k14, k15, k16, k17, k18, k19]
def interned : List (Array UInt16 × Addr) := []
def slotsUsed : Nat := 0
def theMethod : MethodId := ⟨1, 2⟩
def args0 : Array Value := #[.int 70, .int 71, .int 5, .int 5, .int 3]
def aboutOver (below : List Frame) : State where
  vm := { classes := classes, interned := interned.toArray }
  heap := heap
  slotsUsed := slotsUsed
  threads := #[{ frames := .invoking theMethod args0 :: below }]
def below0 : List Frame := [.native { method := ⟨0, 0⟩, args := #[] }]
def about1 : State := aboutOver below0
def p0 : Program := .bare "" "" ""
def e0 : Env := launch0.env 0 0 0
theorem w_frames : about1.frames = Frame.invoking theMethod args0 :: below0 := rfl
set_option maxRecDepth 65536 in
theorem w_args : argsFit about1.vm theMethod args0 = true := by decide +kernel
set_option maxRecDepth 65536 in
theorem w_heap : heapFits about1 = true := by decide +kernel
set_option maxRecDepth 65536 in
theorem w_runnable : about1.curStatus? = some .runnable := by decide +kernel
set_option maxRecDepth 65536 in
theorem w_alone : about1.alone = true := by decide +kernel
set_option maxRecDepth 65536 in
theorem w_named : about1.methodNamed? x = some theMethod := by decide +kernel
set_option maxRecDepth 65536 in
theorem w_hears : about1.hears theMethod below0 = true := by decide +kernel
set_option maxRecDepth 65536 in
theorem w_ripe : about1.ripe theMethod args0 below0 = true := by decide +kernel
theorem w_running : about1.status = .running := rfl
set_option maxRecDepth 65536 in
theorem w_room : about1.hasRoom e0.platform room_1 = true :=
  launch0.hasRoom_least _ room_1 (by decide +kernel) (by decide +kernel) (by decide +kernel) (by decide +kernel) (by decide +kernel) (by decide +kernel)
theorem allAtoms_all (ts : List Jvm.Cond) (a : Array Jvm.Value) (st : Jvm.State) : (allAtoms ts).before a st = ts.all (fun c => c.before a st) := by
  induction ts with
  | nil => rfl
  | cons c t ih =>
    show (Jvm.Cond.and c (allAtoms t)).before a st = _
    rw [Jvm.Cond.before_and, ih, List.all_cons]
def words1 : List Jvm.Cond := Jvm.Cond.code x code maxLocals ret :: tables_1
/-- a 'code' word, met by the world's own term for the bytes: nothing is compared byte by byte -/
theorem code_word {y : MethodName} {bytes : ByteArray} {mx : Nat} {rt : Option FieldType} {a : Array Value} {s : State} {m : MethodId} {meth : Method} {c : Code} (h1 : s.methodNamed? y = some m) (h2 : s.vm.method? m = some meth) (h3 : meth.code = some c) (h4 : c.code = bytes)
    (h5 : (c.maxLocals == mx && c.exceptionTable.isEmpty && decide (c.maxStack ≤ mostOperands) && decide (meth.sig.returnType = rt) && !meth.locks && decide (parseMethodDescriptor y.desc = some meth.sig)) = true) : (Jvm.Cond.code y bytes mx rt).before a s = true := by
  simp only [Bool.and_eq_true, beq_iff_eq, Bool.not_eq_true', decide_eq_true_eq] at h5
  obtain ⟨⟨⟨⟨⟨g1, g2⟩, g3⟩, g4⟩, g5⟩, g6⟩ := h5
  simp [Cond.before, Cond.holds, Cond.value, h1, h2, h3, h4, g1, g2, g3, g4, g5, g6]
def isCode : Jvm.Cond → Bool
  | .code _ _ _ _ => true
  | _ => false
theorem all_split {L : List Jvm.Cond} {P : Jvm.Cond → Bool} (h1 : L.all (fun c => isCode c || P c) = true) (h2 : ∀ c ∈ L.filter isCode, P c = true) : L.all P = true := by
  refine List.all_eq_true.mpr fun c hc => ?_
  have h := List.all_eq_true.mp h1 c hc
  rcases Bool.eq_false_or_eq_true (isCode c) with hi | hi
  · exact h2 c (List.mem_filter.mpr ⟨hc, hi⟩)
  · simpa [hi] using h
set_option maxRecDepth 65536 in
theorem w_c0 : (Jvm.Cond.code x code maxLocals ret).before args0 about1 = true := code_word (m := ⟨1, 2⟩) (meth := k1m2) (c := k1c2) (by decide +kernel) rfl rfl rfl (by decide +kernel)
set_option maxRecDepth 65536 in
theorem w_c1 : (Jvm.Cond.code ({ cls := "com/example/berchta/berchta/learn/NodeSet", name := "<init>", desc := "()V" } : Jvm.MethodName) prog_101_method_1_code (1 : Nat) (Option.none : Option Jvm.ClassFile.FieldType)).before args0 about1 = true := code_word (m := ⟨2, 0⟩) (meth := k2m0) (c := k2c0) (by decide +kernel) rfl rfl rfl (by decide +kernel)
set_option maxRecDepth 65536 in
theorem w_c2 : (Jvm.Cond.code ({ cls := "java/lang/Object", name := "<init>", desc := "()V" } : Jvm.MethodName) object_method_1_code (1 : Nat) (Option.none : Option Jvm.ClassFile.FieldType)).before args0 about1 = true := code_word (m := ⟨0, 0⟩) (meth := k0m0) (c := k0c0) (by decide +kernel) rfl rfl rfl (by decide +kernel)
set_option maxRecDepth 65536 in
theorem w_c3 : (Jvm.Cond.code ({ cls := "com/example/berchta/berchta/learn/NodeSet", name := "add", desc := "(I)V" } : Jvm.MethodName) prog_101_method_3_code (7 : Nat) (Option.none : Option Jvm.ClassFile.FieldType)).before args0 about1 = true := code_word (m := ⟨2, 1⟩) (meth := k2m1) (c := k2c1) (by decide +kernel) rfl rfl rfl (by decide +kernel)
set_option maxRecDepth 65536 in
theorem w_c4 : (Jvm.Cond.code ({ cls := "com/example/berchta/berchta/learn/NodeSet", name := "remove", desc := "(I)V" } : Jvm.MethodName) prog_101_method_4_code (7 : Nat) (Option.none : Option Jvm.ClassFile.FieldType)).before args0 about1 = true := code_word (m := ⟨2, 2⟩) (meth := k2m2) (c := k2c2) (by decide +kernel) rfl rfl rfl (by decide +kernel)
set_option maxRecDepth 65536 in
theorem w_c5 : (Jvm.Cond.code ({ cls := "com/example/berchta/berchta/learn/NodeSet", name := "contains", desc := "(I)Z" } : Jvm.MethodName) prog_101_method_5_code (3 : Nat) (Option.some Jvm.ClassFile.FieldType.boolean)).before args0 about1 = true := code_word (m := ⟨2, 3⟩) (meth := k2m3) (c := k2c3) (by decide +kernel) rfl rfl rfl (by decide +kernel)
set_option maxRecDepth 65536 in
theorem w_c6 : (Jvm.Cond.code ({ cls := "com/example/berchta/berchta/learn/NodeSet", name := "isEmpty", desc := "()Z" } : Jvm.MethodName) prog_101_method_6_code (1 : Nat) (Option.some Jvm.ClassFile.FieldType.boolean)).before args0 about1 = true := code_word (m := ⟨2, 4⟩) (meth := k2m4) (c := k2c4) (by decide +kernel) rfl rfl rfl (by decide +kernel)
set_option maxRecDepth 65536 in
theorem w_c7 : (Jvm.Cond.code ({ cls := "com/example/berchta/berchta/learn/NodeSet", name := "next", desc := "(I)I" } : Jvm.MethodName) prog_101_method_7_code (6 : Nat) (Option.some Jvm.ClassFile.FieldType.int)).before args0 about1 = true := code_word (m := ⟨2, 5⟩) (meth := k2m5) (c := k2c5) (by decide +kernel) rfl rfl rfl (by decide +kernel)
set_option maxRecDepth 65536 in
theorem w_c8 : (Jvm.Cond.code ({ cls := "java/lang/Long", name := "numberOfTrailingZeros", desc := "(J)I" } : Jvm.MethodName) jdk_35_method_49_code (3 : Nat) (Option.some Jvm.ClassFile.FieldType.int)).before args0 about1 = true := code_word (m := ⟨8, 0⟩) (meth := k8m0) (c := k8c0) (by decide +kernel) rfl rfl rfl (by decide +kernel)
set_option maxRecDepth 65536 in
theorem w_c9 : (Jvm.Cond.code ({ cls := "java/lang/Integer", name := "numberOfTrailingZeros", desc := "(I)I" } : Jvm.MethodName) jdk_33_method_48_code (2 : Nat) (Option.some Jvm.ClassFile.FieldType.int)).before args0 about1 = true := code_word (m := ⟨9, 0⟩) (meth := k9m0) (c := k9c0) (by decide +kernel) rfl rfl rfl (by decide +kernel)
set_option maxRecDepth 65536 in
theorem w_c10 : (Jvm.Cond.code ({ cls := "com/example/berchta/berchta/learn/NodeSetRemovePinLaw", name := "least", desc := "(IIII)I" } : Jvm.MethodName) method_2_code (5 : Nat) (Option.some Jvm.ClassFile.FieldType.int)).before args0 about1 = true := code_word (m := ⟨1, 1⟩) (meth := k1m1) (c := k1c1) (by decide +kernel) rfl rfl rfl (by decide +kernel)
set_option maxRecDepth 65536 in
theorem w_c11 : (Jvm.Cond.code ({ cls := "com/example/berchta/berchta/learn/NodeSet", name := "grow", desc := "(I)V" } : Jvm.MethodName) prog_101_method_11_code (3 : Nat) (Option.none : Option Jvm.ClassFile.FieldType)).before args0 about1 = true := code_word (m := ⟨2, 7⟩) (meth := k2m7) (c := k2c7) (by decide +kernel) rfl rfl rfl (by decide +kernel)
set_option maxRecDepth 65536 in
theorem w_c12 : (Jvm.Cond.code ({ cls := "java/lang/Math", name := "max", desc := "(II)I" } : Jvm.MethodName) jdk_29_method_65_code (2 : Nat) (Option.some Jvm.ClassFile.FieldType.int)).before args0 about1 = true := code_word (m := ⟨10, 1⟩) (meth := k10m1) (c := k10c1) (by decide +kernel) rfl rfl rfl (by decide +kernel)
set_option maxRecDepth 65536 in
theorem w_c13 : (Jvm.Cond.code ({ cls := "java/util/Arrays", name := "copyOf", desc := "([JI)[J" } : Jvm.MethodName) jdk_65_method_124_code (3 : Nat) (Option.some (Jvm.ClassFile.FieldType.array Jvm.ClassFile.FieldType.long))).before args0 about1 = true := code_word (m := ⟨11, 1⟩) (meth := k11m1) (c := k11c1) (by decide +kernel) rfl rfl rfl (by decide +kernel)
set_option maxRecDepth 65536 in
theorem w_c14 : (Jvm.Cond.code ({ cls := "java/lang/Math", name := "min", desc := "(II)I" } : Jvm.MethodName) jdk_29_method_69_code (2 : Nat) (Option.some Jvm.ClassFile.FieldType.int)).before args0 about1 = true := code_word (m := ⟨10, 2⟩) (meth := k10m2) (c := k10c2) (by decide +kernel) rfl rfl rfl (by decide +kernel)
set_option maxRecDepth 65536 in
theorem w_c15 : (Jvm.Cond.code ({ cls := "com/example/berchta/berchta/learn/NodeSet", name := "nextFilled", desc := "(I)I" } : Jvm.MethodName) prog_101_method_10_code (3 : Nat) (Option.some Jvm.ClassFile.FieldType.int)).before args0 about1 = true := code_word (m := ⟨2, 6⟩) (meth := k2m6) (c := k2c6) (by decide +kernel) rfl rfl rfl (by decide +kernel)
def codes1 : List Jvm.Cond := [Jvm.Cond.code x code maxLocals ret, Jvm.Cond.code ({ cls := "com/example/berchta/berchta/learn/NodeSet", name := "<init>", desc := "()V" } : Jvm.MethodName) prog_101_method_1_code (1 : Nat) (Option.none : Option Jvm.ClassFile.FieldType), Jvm.Cond.code ({ cls := "java/lang/Object", name := "<init>", desc := "()V" } : Jvm.MethodName) object_method_1_code (1 : Nat) (Option.none : Option Jvm.ClassFile.FieldType), Jvm.Cond.code ({ cls := "com/example/berchta/berchta/learn/NodeSet", name := "add", desc := "(I)V" } : Jvm.MethodName) prog_101_method_3_code (7 : Nat) (Option.none : Option Jvm.ClassFile.FieldType), Jvm.Cond.code ({ cls := "com/example/berchta/berchta/learn/NodeSet", name := "remove", desc := "(I)V" } : Jvm.MethodName) prog_101_method_4_code (7 : Nat) (Option.none : Option Jvm.ClassFile.FieldType), Jvm.Cond.code ({ cls := "com/example/berchta/berchta/learn/NodeSet", name := "contains", desc := "(I)Z" } : Jvm.MethodName) prog_101_method_5_code (3 : Nat) (Option.some Jvm.ClassFile.FieldType.boolean), Jvm.Cond.code ({ cls := "com/example/berchta/berchta/learn/NodeSet", name := "isEmpty", desc := "()Z" } : Jvm.MethodName) prog_101_method_6_code (1 : Nat) (Option.some Jvm.ClassFile.FieldType.boolean), Jvm.Cond.code ({ cls := "com/example/berchta/berchta/learn/NodeSet", name := "next", desc := "(I)I" } : Jvm.MethodName) prog_101_method_7_code (6 : Nat) (Option.some Jvm.ClassFile.FieldType.int), Jvm.Cond.code ({ cls := "java/lang/Long", name := "numberOfTrailingZeros", desc := "(J)I" } : Jvm.MethodName) jdk_35_method_49_code (3 : Nat) (Option.some Jvm.ClassFile.FieldType.int), Jvm.Cond.code ({ cls := "java/lang/Integer", name := "numberOfTrailingZeros", desc := "(I)I" } : Jvm.MethodName) jdk_33_method_48_code (2 : Nat) (Option.some Jvm.ClassFile.FieldType.int), Jvm.Cond.code ({ cls := "com/example/berchta/berchta/learn/NodeSetRemovePinLaw", name := "least", desc := "(IIII)I" } : Jvm.MethodName) method_2_code (5 : Nat) (Option.some Jvm.ClassFile.FieldType.int), Jvm.Cond.code ({ cls := "com/example/berchta/berchta/learn/NodeSet", name := "grow", desc := "(I)V" } : Jvm.MethodName) prog_101_method_11_code (3 : Nat) (Option.none : Option Jvm.ClassFile.FieldType), Jvm.Cond.code ({ cls := "java/lang/Math", name := "max", desc := "(II)I" } : Jvm.MethodName) jdk_29_method_65_code (2 : Nat) (Option.some Jvm.ClassFile.FieldType.int), Jvm.Cond.code ({ cls := "java/util/Arrays", name := "copyOf", desc := "([JI)[J" } : Jvm.MethodName) jdk_65_method_124_code (3 : Nat) (Option.some (Jvm.ClassFile.FieldType.array Jvm.ClassFile.FieldType.long)), Jvm.Cond.code ({ cls := "java/lang/Math", name := "min", desc := "(II)I" } : Jvm.MethodName) jdk_29_method_69_code (2 : Nat) (Option.some Jvm.ClassFile.FieldType.int), Jvm.Cond.code ({ cls := "com/example/berchta/berchta/learn/NodeSet", name := "nextFilled", desc := "(I)I" } : Jvm.MethodName) prog_101_method_10_code (3 : Nat) (Option.some Jvm.ClassFile.FieldType.int)]
set_option maxRecDepth 65536 in
theorem codes_eq : words1.filter isCode = codes1 := rfl
theorem w_codes : ∀ c ∈ words1.filter isCode, c.before args0 about1 = true := by
  rw [codes_eq]
  intro c hc
  simp only [codes1, List.mem_cons, List.not_mem_nil, or_false] at hc
  rcases hc with rfl | rfl | rfl | rfl | rfl | rfl | rfl | rfl | rfl | rfl | rfl | rfl | rfl | rfl | rfl | rfl
  · exact w_c0
  · exact w_c1
  · exact w_c2
  · exact w_c3
  · exact w_c4
  · exact w_c5
  · exact w_c6
  · exact w_c7
  · exact w_c8
  · exact w_c9
  · exact w_c10
  · exact w_c11
  · exact w_c12
  · exact w_c13
  · exact w_c14
  · exact w_c15
set_option maxRecDepth 65536 in
theorem w_t1 : (words1.take 24).all (fun c => isCode c || c.before args0 about1) = true := by decide +kernel
set_option maxRecDepth 65536 in
theorem w_t2 : ((words1.drop 24).take 24).all (fun c => isCode c || c.before args0 about1) = true := by decide +kernel
set_option maxRecDepth 65536 in
theorem w_t3 : (((words1.drop 24).drop 24).take 24).all (fun c => isCode c || c.before args0 about1) = true := by decide +kernel
set_option maxRecDepth 65536 in
theorem w_t4 : (((words1.drop 24).drop 24).drop 24).all (fun c => isCode c || c.before args0 about1) = true := by decide +kernel
theorem w_tables : (allAtoms (Jvm.Cond.code x code maxLocals ret :: tables_1)).before args0 about1 = true := by
  rw [allAtoms_all]
  show words1.all (fun c => c.before args0 about1) = true
  refine all_split ?_ w_codes
  rw [← List.take_append_drop 24 words1, List.all_append, w_t1, ← List.take_append_drop 24 (words1.drop 24), List.all_append, w_t2, ← List.take_append_drop 24 ((words1.drop 24).drop 24), List.all_append, w_t3, w_t4]
  rfl
set_option maxRecDepth 65536 in
theorem w_case : (Jvm.Cond.and given_1 narrow_1).before args0 about1 = true := by decide +kernel
theorem w_applies : (headSpec (Jvm.Cond.code x code maxLocals ret :: tables_1) room_1).applies x e0.platform about1 = true :=
  (Spec.applies_iff w_frames).mpr ⟨w_running, w_runnable, w_alone, w_named, w_hears, w_ripe, w_room, w_tables⟩
theorem atStart : AtStart classFile x code maxLocals ret World_1 tables_1 room_1 Calls_1 rest_1 Pre_1 launch0 p0 e0 about1 theMethod args0 below0 :=
  ⟨lists_1, trivial, launch0.admits_env _ _ _, launch0.least_env, fairChoices_fair.cas, fairChoices_fair.clock, w_frames, w_args, w_heap, w_applies, trivial, trivial, w_case⟩
end start1
theorem witness_1 : WitnessClaimed_1 := ⟨start1.p0, start1.e0, start1.about1, start1.theMethod, start1.args0, start1.below0, start1.atStart⟩
end Jvm.Pilot.@@N@@
