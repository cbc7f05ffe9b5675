import JvmDerived
import JvmDerived.Pilot.@@N@@Statement
import JvmDerived.Pilot.@@N@@Code
set_option linter.unusedVariables false
set_option linter.unusedSimpArgs false
namespace Jvm.RoadKit
open Sem ClassFile Op Lib Jvm.Stand Jvm.Free Jvm.LawKit
section New
variable {p : Program} {l : Launch} {e : Env} {R : Room} {s : State} {m : MethodId} {args : Array Value} {below : List Frame} {meth : Method} {c : Code} {T : State} {locs : List Loc} {cells slots : Nat}
theorem retI (X : Stand p l e R s m args below meth c T locs cells slots) (hx : p.tables.exec = Jvm.exec) {pc : Nat} {Ls : Array Slot} {z : Int32} {rest : List Value} (hret : meth.sig.returnType = some .int) (hd : decode c.code pc = .ok (.ireturn, 1)) {fs : List Frame}
    (hl : ∀ (f : JFrame) (acts : List Action), f.method = m → f.locked = none → f.entered = [] → (doReturn e (T.setTop f) acts (some (.int z))).1 = T.setFrames fs) : Steps p.tables e below (T.setTop (mkF m pc Ls (.int z :: rest))) (T.setFrames fs) := by
  have hm' : T.vm.method? m = some meth := X.method'
  have hn : narrow .int (.int z) = .int z := rfl
  show Steps p.tables e below (T.setTop { method := m, pc := pc, locals := Ls, stack := _ :: rest, locked := none }) _
  jvm_step X.here [X.here.top, hx, hd, hm', hret, hn]
  first | (intro acts; rw [hl _ acts rfl rfl rfl]) | rw [hl _ _ rfl rfl rfl]
  exact Steps.refl _
/-- from here the run ends as G says -/
def WP (tb : Tables) (e : Env) (below : List Frame) (G : State → Outcome → Prop) (T : State) (f : JFrame) : Prop := ∃ s₂ o, Steps tb e below (T.setTop f) s₂ ∧ G s₂ o
theorem WP.go {tb : Tables} {G : State → Outcome → Prop} {f : JFrame} (h : WP tb e below G T f) : ∃ s₂ o, Steps tb e below (T.setTop f) s₂ ∧ G s₂ o := h
theorem WP.fin {tb : Tables} {G : State → Outcome → Prop} {f : JFrame} (h : ∃ s₂ o, Steps tb e below (T.setTop f) s₂ ∧ G s₂ o) : WP tb e below G T f := h
theorem WP.cast {tb : Tables} {G : State → Outcome → Prop} {f f' : JFrame} (q : f = f') (h : WP tb e below G T f') : WP tb e below G T f := q ▸ h
theorem WP.st {tb : Tables} {G : State → Outcome → Prop} {T' : State} {f f' : JFrame} (k : ∀ t, Steps tb e below (T'.setTop f') t → Steps tb e below (T.setTop f) t) (h : WP tb e below G T' f') : WP tb e below G T f := by
  obtain ⟨s₂, o, h1, h2⟩ := h
  exact ⟨s₂, o, k _ h1, h2⟩
theorem WP.tr {tb : Tables} {G : State → Outcome → Prop} {T' : State} {f f' : JFrame} (k : Steps tb e below (T.setTop f) (T'.setTop f')) (h : WP tb e below G T' f') : WP tb e below G T f := by
  obtain ⟨s₂, o, h1, h2⟩ := h
  exact ⟨s₂, o, k.trans h1, h2⟩
theorem WP.name {tb : Tables} {G : State → Outcome → Prop} {f : JFrame} (h : ∀ G', G' = G → WP tb e below G' T f) : WP tb e below G T f := h G rfl
theorem ownWider (X : Stand p l e R s m args below meth c T locs cells slots) {c' s' : Nat} (h1 : cells ≤ c') (h2 : slots ≤ s') : Stand p l e R s m args below meth c T locs c' s' := { X with same := X.same.mono h1 h2 }
end New
theorem Arv.rd {Z : State} {h : Heap} {a : Addr} {k : ClassId} {ty : FieldType} {z j : Int32} {vs : List Value} {dv : Value} (F : Arv Z h a k ty z vs dv) (hj : ¬ j < 0 ∧ j < z) : ∃ c : Cell, Arr Z h a c ty ∧ ¬ (j < 0 ∨ c.slots.size ≤ j.toNatClampNeg) ∧ c.slots[j.toNatClampNeg]? = some (vs.getD j.toNatClampNeg dv) ∧ c.slots.size.toInt32 = z := by
  obtain ⟨c, A, -, S, q, H, -⟩ := F
  have hin := inb_of S hj
  exact ⟨c, A, hin, H.at hin rfl, len_of S q⟩
theorem Arv.len {Z : State} {h : Heap} {a : Addr} {k : ClassId} {ty : FieldType} {z : Int32} {vs : List Value} {dv : Value} (F : Arv Z h a k ty z vs dv) : ∃ c : Cell, Arr Z h a c ty ∧ c.slots.size.toInt32 = z := by
  obtain ⟨c, A, -, S, q, -, -⟩ := F
  exact ⟨c, A, len_of S q⟩
theorem ownSel {s : State} {args : Array Value} {C : String} {x z y : MethodName} (hz : (Cond.selects C x z).before args s = true) (e : z.cls = y.cls) (hpriv : s.PrivateAt y) (hinst : (Cond.instanceMethod y).before args s = true) (hy : y.cls ≠ "java/lang/invoke/MethodHandle" ∧ y.cls ≠ "java/lang/invoke/VarHandle") : (Cond.selects y.cls y y).before args s = true := by
  obtain ⟨c2, r2, m2, -, -, q3, -, kP, hkP, hkPi⟩ := Cond.selects_spec hz
  exact selects_self_of_private (e ▸ findClass_of_methodNamed q3) hkP hkPi hpriv hinst hy
theorem ownNeOr {o x y : Addr} {h : Heap} (hn : o ≠ y) (hl : o < h.size) (hor : x = y ∨ h.size ≤ x) : o ≠ x := hor.elim (fun q => q ▸ hn) (fun q => Nat.ne_of_lt (Nat.lt_of_lt_of_le hl q))
theorem ownFits {t : FieldType} {x : Int32} {y : Value} (h : narrow t (.int x) = y) (hf : fits t (narrow t (.int x)) = true) : fits t y = true := h ▸ hf
theorem nar01 {b : Int32} (h : b = 0 ∨ b = 1) : nar .boolean b = b := by rcases h with rfl | rfl <;> rfl
end Jvm.RoadKit
namespace Jvm.Pilot.@@N@@
open Jvm Jvm.ClassFile Sem Op Lib Jvm.Free Jvm.Stand Jvm.LawKit Jvm.RoadKit Bundle Jvm.Pilot.@@N@@.Jvm.D
def own_bit (i : Nat) : Int64 := (1 : Int64) <<< ((Int32.ofNat i) &&& 0x3f).toInt64
def own_get (ws : List Int64) (i : Nat) : Int32 := if (ws.getD (i / 64) 0 &&& own_bit i) = 0 then 0 else 1
def own_inv (ws : List Int64) (u : Nat) : Prop := u ≤ ws.length ∧ ∀ k, u ≤ k → ws.getD k 0 = 0
theorem own_toInt {a : Nat} (h : a < 2 ^ 31) : (Int32.ofNat a).toInt = a := Int32.toInt_ofNat_of_lt h
theorem own_lt {a b : Nat} (ha : a < 2 ^ 31) (hb : b < 2 ^ 31) : (Int32.ofNat a < Int32.ofNat b) ↔ a < b := by
  rw [Int32.lt_iff_toInt_lt, own_toInt ha, own_toInt hb]; omega
theorem own_eq {a b : Nat} (ha : a < 2 ^ 31) (hb : b < 2 ^ 31) : (Int32.ofNat a = Int32.ofNat b) ↔ a = b := by
  constructor
  · intro h
    have := congrArg Int32.toInt h
    rw [own_toInt ha, own_toInt hb] at this; omega
  · intro h; rw [h]
theorem own_clamp {a : Nat} (h : a < 2 ^ 31) : (Int32.ofNat a).toNatClampNeg = a := by
  simp only [Int32.toNatClampNeg, own_toInt h]; omega
theorem own_nn {a : Nat} (h : a < 2 ^ 31) : ¬ (Int32.ofNat a < 0) := by
  rw [Int32.lt_iff_toInt_lt, own_toInt h]; show ¬ ((a : Int) < (0 : Int32).toInt); rw [show (0 : Int32).toInt = 0 by decide]; omega
theorem own_add (a b : Nat) : Int32.ofNat a + Int32.ofNat b = Int32.ofNat (a + b) := (Int32.ofNat_add a b).symm
theorem own_mul (a b : Nat) : Int32.ofNat a * Int32.ofNat b = Int32.ofNat (a * b) := (Int32.ofNat_mul a b).symm
theorem own_shr {i : Nat} (h : i ≤ 65535) : (Int32.ofNat i) >>> ((6 : Int32) &&& 31) = Int32.ofNat (i / 64) := by
  have e : ((Int32.ofNat i) >>> ((6 : Int32) &&& 31)).toBitVec = (BitVec.ofNat 32 i).sshiftRight 6 := by
    rw [Int32.toBitVec_shiftRight]; rfl
  apply Int32.toInt_inj.mp
  rw [own_toInt (by omega)]
  show ((Int32.ofNat i) >>> ((6 : Int32) &&& 31)).toBitVec.toInt = _
  rw [e, BitVec.toInt_sshiftRight]
  show (Int32.ofNat i).toInt >>> 6 = _
  rw [own_toInt (by omega), Int.shiftRight_eq_div_pow]
  simp
theorem own_dec {n : Nat} : Int32.ofNat (n + 1) - (1 : Int32) = Int32.ofNat n := by
  rw [← own_add]; show Int32.ofNat n + 1 - 1 = _; exact Int32.add_sub_cancel _ _
theorem own_bit_mod {i : Nat} (h : i ≤ 65535) : own_bit i = own_bit (i % 64) := by
  unfold own_bit
  have e : (Int32.ofNat i) &&& 0x3f = (Int32.ofNat (i % 64)) &&& 0x3f := by
    apply Int32.toBitVec_inj.mp
    apply BitVec.eq_of_toNat_eq
    show (BitVec.ofNat 32 i &&& 0x3f#32).toNat = (BitVec.ofNat 32 (i % 64) &&& 0x3f#32).toNat
    rw [BitVec.toNat_and, BitVec.toNat_and, show (0x3f#32).toNat = 2 ^ 6 - 1 by decide, Nat.and_two_pow_sub_one_eq_mod, Nat.and_two_pow_sub_one_eq_mod, BitVec.toNat_ofNat, BitVec.toNat_ofNat]
    omega
  rw [e]
theorem own_bits : ∀ i k : Fin 64, ((own_bit i.val &&& own_bit k.val = 0) ↔ ¬ i = k) ∧ ((own_bit i.val ^^^ (-1 : Int64)) &&& own_bit k.val = if i = k then 0 else own_bit k.val) := by decide +kernel
theorem own_bit_and {i k : Nat} (hi : i ≤ 65535) (hk : k ≤ 65535) (hw : i / 64 = k / 64) : (own_bit i &&& own_bit k = 0) ↔ ¬ i = k := by
  rw [own_bit_mod hi, own_bit_mod hk]
  have := (own_bits ⟨i % 64, Nat.mod_lt _ (by decide)⟩ ⟨k % 64, Nat.mod_lt _ (by decide)⟩).1
  rw [this, Fin.mk.injEq]
  omega
theorem own_bit_not {i k : Nat} (hi : i ≤ 65535) (hk : k ≤ 65535) (hw : i / 64 = k / 64) : (own_bit i ^^^ (-1 : Int64)) &&& own_bit k = if i = k then 0 else own_bit k := by
  rw [own_bit_mod hi, own_bit_mod hk]
  have := (own_bits ⟨i % 64, Nat.mod_lt _ (by decide)⟩ ⟨k % 64, Nat.mod_lt _ (by decide)⟩).2
  rw [this]
  by_cases h : i = k
  · subst h; simp
  · have : ¬ i % 64 = k % 64 := by omega
    simp [h, this]
theorem own_getD_set {ws : List Int64} {j k : Nat} {x : Int64} (h : j < ws.length) : (ws.set j x).getD k 0 = if j = k then x else ws.getD k 0 := by
  simp only [List.getD_eq_getElem?_getD, List.getElem?_set]
  by_cases e : j = k
  · subst e; simp [h]
  · simp [e]
theorem own_or_ne (x : Int64) (i : Nat) (hi : i ≤ 65535) : ¬ ((x ||| own_bit i) &&& own_bit i = 0) := by
  have e : (x ||| own_bit i) &&& own_bit i = own_bit i := by
    apply Int64.toBitVec_inj.mp
    simp only [Int64.toBitVec_and, Int64.toBitVec_or]
    ext n; simp; intro h; exact Or.inr h
  rw [e]
  intro h
  have := (own_bit_and hi hi rfl).mp (by rw [h]; rfl)
  exact this rfl
theorem own_or_and (x b c : Int64) (h : b &&& c = 0) : (x ||| b) &&& c = x &&& c := by
  have e : (x ||| b) &&& c = (x &&& c) ||| (b &&& c) := by
    apply Int64.toBitVec_inj.mp
    simp only [Int64.toBitVec_and, Int64.toBitVec_or]
    ext n; simp; cases x.toBitVec[n] <;> cases b.toBitVec[n] <;> cases c.toBitVec[n] <;> rfl
  rw [e, h]; simp
theorem own_and3 (x b c : Int64) : (x &&& b) &&& c = x &&& (b &&& c) := Int64.and_assoc ..
theorem own_set_get {ws : List Int64} {i k : Nat} (hi : i ≤ 65535) (hk : k ≤ 65535) (hj : i / 64 < ws.length) :
    own_get (ws.set (i / 64) (ws.getD (i / 64) 0 ||| own_bit i)) k = if k = i then 1 else own_get ws k := by
  unfold own_get
  rw [own_getD_set hj]
  by_cases hw : i / 64 = k / 64
  · rw [if_pos hw]
    by_cases e : k = i
    · subst e; rw [if_neg (own_or_ne _ _ hk), if_pos rfl]
    · rw [if_neg e, own_or_and _ _ _ ((own_bit_and hi hk hw).mpr (fun q => e q.symm)), hw]
  · have e : ¬ k = i := fun q => hw (by rw [q])
    rw [if_neg hw, if_neg e]
theorem own_clr_get {ws : List Int64} {i k : Nat} (hi : i ≤ 65535) (hk : k ≤ 65535) (hj : i / 64 < ws.length) :
    own_get (ws.set (i / 64) (ws.getD (i / 64) 0 &&& (own_bit i ^^^ (-1 : Int64)))) k = if k = i then 0 else own_get ws k := by
  unfold own_get
  rw [own_getD_set hj]
  by_cases hw : i / 64 = k / 64
  · rw [if_pos hw, own_and3, own_bit_not hi hk hw]
    by_cases e : k = i
    · subst e; simp
    · rw [if_neg (fun q : i = k => e q.symm), if_neg e, hw]
  · have e : ¬ k = i := fun q => hw (by rw [q])
    rw [if_neg hw, if_neg e]
theorem own_get_ext {ws ws' : List Int64} (h : ∀ k, ws'.getD k 0 = ws.getD k 0) (k : Nat) : own_get ws' k = own_get ws k := by unfold own_get; rw [h]
theorem own_get01 (ws : List Int64) (k : Nat) : own_get ws k = 0 ∨ own_get ws k = 1 := by unfold own_get; split <;> simp
theorem own_inv_set {ws : List Int64} {u j : Nat} {x : Int64} (h : own_inv ws u) (hj : j < u) : own_inv (ws.set j x) u := by
  refine ⟨by rw [List.length_set]; exact h.1, fun k hk => ?_⟩
  rw [own_getD_set (Nat.lt_of_lt_of_le hj h.1), if_neg (by omega)]
  exact h.2 k hk
theorem own_get_lt {ws : List Int64} {u i : Nat} (h : own_inv ws u) (hg : ¬ own_get ws i = 0) : i / 64 < u := by
  apply Classical.byContradiction
  intro hn
  apply hg
  unfold own_get
  rw [h.2 _ (Nat.le_of_not_lt hn)]
  simp
theorem own_id (x : Int32) : ∃ n : Nat, (1 : Int32) + (x &&& 2147483647) % 65535 = Int32.ofNat n ∧ 1 ≤ n ∧ n ≤ 65535 := by
  have h0 : 0 ≤ (x &&& 2147483647).toInt := by
    have e : (x &&& 2147483647).toInt = (x.toBitVec &&& 2147483647#32).toInt := rfl
    rw [e, BitVec.toInt_eq_toNat_cond, BitVec.toNat_and, show (2147483647#32).toNat = 2147483647 from rfl]
    have : x.toBitVec.toNat &&& 2147483647 ≤ 2147483647 := Nat.and_le_right
    rw [if_pos (by omega)]
    exact Int.natCast_nonneg _
  generalize x &&& 2147483647 = y at h0 ⊢
  have h1 : (y % 65535).toInt = y.toInt.tmod 65535 := by rw [Int32.toInt_mod]; rfl
  have h2 : y.toInt.tmod 65535 = y.toInt % 65535 := Int.tmod_eq_emod_of_nonneg h0
  generalize y % 65535 = r at h1 ⊢
  refine ⟨1 + r.toInt.toNat, ?_, by omega, by omega⟩
  rw [← own_add]
  congr 1
  apply Int32.toInt_inj.mp
  rw [own_toInt (by omega)]
  omega
def own_max (x y : Int32) : Int32 := if x < y then y else x
def own_min (x y : Int32) : Int32 := if y < x then y else x
theorem own_maxn {a b : Nat} (ha : 2 * a < 2 ^ 31) (hb : b < 2 ^ 31) : own_max ((2 : Int32) * (Int32.ofNat a)) (Int32.ofNat b) = Int32.ofNat (max (2 * a) b) := by
  have e : (2 : Int32) * (Int32.ofNat a) = Int32.ofNat (2 * a) := own_mul 2 a
  rw [e]
  unfold own_max
  by_cases h : 2 * a < b
  · rw [if_pos ((own_lt ha hb).2 h), Nat.max_eq_right (Nat.le_of_lt h)]
  · rw [if_neg (fun q => h ((own_lt ha hb).1 q)), Nat.max_eq_left (Nat.le_of_not_lt h)]
theorem own_minn {a b : Nat} (ha : a < 2 ^ 31) (hb : b < 2 ^ 31) (h : a < b) : own_min (Int32.ofNat a) (Int32.ofNat b) = Int32.ofNat a := by
  unfold own_min
  rw [if_neg (fun q => Nat.lt_asymm h ((own_lt hb ha).1 q))]
theorem own_padrep (n : Nat) : ∀ i, ((List.replicate n (0 : Int64)).map Value.long).getD i (.long (0 : Int64)) = ([] : List Value).getD i (.long (0 : Int64)) := fun i => by
  simp only [List.map_replicate, List.getD_eq_getElem?_getD, List.getElem?_replicate]
  split <;> simp
theorem own_mapget {ws : List Int64} {j : Nat} (hj : j < 2 ^ 31) : (ws.map Value.long).getD (Int32.ofNat j).toNatClampNeg (.long (0 : Int64)) = .long (ws.getD j 0) := by
  rw [own_clamp hj]
  simp only [List.getD_eq_getElem?_getD, List.getElem?_map]
  cases ws[j]? <;> rfl
theorem own_cp (ws : List Int64) (n : Nat) (h1 : ws.length < n) (h2 : n < 2 ^ 31) : ∃ ws2 : List Int64, ws2.length = n ∧ (∀ k, ws2.getD k 0 = ws.getD k 0) ∧
    ((List.replicate n (0 : Int64)).map Value.long).take (0 : Int32).toNatClampNeg ++ ((List.range (Int32.ofNat ws.length).toNatClampNeg).map fun i => (ws.map Value.long).getD ((0 : Int32).toNatClampNeg + i) (.long (0 : Int64))) ++ ((List.replicate n (0 : Int64)).map Value.long).drop ((0 : Int32).toNatClampNeg + (Int32.ofNat ws.length).toNatClampNeg) = ws2.map Value.long := by
  refine ⟨ws ++ List.replicate (n - ws.length) 0, by simp; omega, fun k => ?_, ?_⟩
  · simp only [List.getD_eq_getElem?_getD]
    by_cases q : k < ws.length
    · rw [List.getElem?_append_left q]
    · rw [List.getElem?_append_right (Nat.le_of_not_lt q), List.getElem?_eq_none (Nat.le_of_not_lt q), List.getElem?_replicate]; split <;> rfl
  · rw [own_clamp (Nat.lt_trans h1 h2), show (0 : Int32).toNatClampNeg = 0 by decide]
    simp only [List.take_zero, List.nil_append, Nat.zero_add, List.map_append, List.map_replicate, List.drop_replicate]
    congr 1
    apply List.ext_getElem?
    intro i
    simp only [List.getElem?_map, List.getD_eq_getElem?_getD]
    by_cases q : i < ws.length
    · rw [List.getElem?_range q]; simp [q]
    · rw [List.getElem?_eq_none (by simpa using q), List.getElem?_eq_none (Nat.le_of_not_lt q)]; rfl
theorem own_inv0 : own_inv [(0 : Int64)] 0 := ⟨by decide, fun k _ => by
  simp only [List.getD_eq_getElem?_getD]
  cases k <;> simp⟩
theorem own_get0 (k : Nat) : own_get [(0 : Int64)] k = 0 := by
  unfold own_get
  rw [own_inv0.2 _ (Nat.zero_le _)]
  simp
theorem own_inv_ext {ws ws2 : List Int64} {u u2 : Nat} (h : own_inv ws u) (hg : ∀ k, ws2.getD k 0 = ws.getD k 0) (hu : u ≤ u2) (hl : u2 ≤ ws2.length) : own_inv ws2 u2 := ⟨hl, fun k hk => by rw [hg]; exact h.2 k (Nat.le_trans hu hk)⟩
theorem own_incr (x : Int32) : x + (-1 : Int32) = x - (1 : Int32) := by rw [Int32.sub_eq_add_neg]
theorem ef_9 (m : MethodId) (z0 : Int32) : entryFrame m #[(.int z0)] 1 = mkF m 0 #[.val (.int z0)] [] := by
  all_goals first | (simp [entryFrame, mkF, argsToLocals, Value.category]; done) | rfl
theorem pn_0 : plainName "java/util/BitSet" = true := by first | (simp [plainName, overriddenIn]; done) | decide +kernel
theorem d9_0 : decode jdk_92_method_1_code 0 = .ok (.iload_n 0, 1) := by decide +kernel
theorem d9_1 : decode jdk_92_method_1_code 1 = .ok (.bipush 6, 2) := by decide +kernel
theorem d9_3 : decode jdk_92_method_1_code 3 = .ok (.ishr, 1) := by decide +kernel
theorem d9_4 : decode jdk_92_method_1_code 4 = .ok (.ireturn, 1) := by decide +kernel
def Q9 (Z : State) (i : Nat) (h0 : Heap) (n0 : Nat) (v : Option Value) (h : Heap) (L : List Loc) : Prop := v = some (.int (Int32.ofNat (i / 64))) ∧ Fr n0 L ∧ h = h0
set_option maxRecDepth 65536 in
set_option maxHeartbeats 40000000 in
theorem rm9 (l : Launch) (Z : State) (a0 : Array Value) (hw : ∀ d ∈ tables_1, d.before a0 Z = true) (wsC : List Jvm.Cond) (i : Nat) (h0 : Heap) (n0 : Nat) (Z0 : n0 ≤ h0.size) (hi : i ≤ 65535) :
    MetFree l (⟨"java/util/BitSet", "wordIndex", "(I)I"⟩ : MethodName) (head1 (Jvm.Cond.code (⟨"java/util/BitSet", "wordIndex", "(I)I"⟩ : MethodName) jdk_92_method_1_code 1 (some .int) :: wsC) ({ frames := 0, cells := 0, slots := 0, locals := 0 } : Room)) (fun a U => a = #[(.int (Int32.ofNat i))] ∧ Z.Warmed39 U.vm ∧ U.heap = h0) (fun _ _ _ _ _ => True) (fun _ U o U' => ∃ v L, o = .returned v ∧ Q9 Z i h0 n0 v U'.heap L ∧ FrameEnd U o U' L ({ frames := 0, cells := 0, slots := 0, locals := 0 } : Room).cells ({ frames := 0, cells := 0, slots := 0, locals := 0 } : Room).slots) := by
  refine MetFree.of_bodySF (plainFor_of_name pn_0) hisR ?_
  intro p e s m args below meth c s₁ Bd hml0 hP hK
  obtain ⟨rfl, hZ, hh⟩ := hP
  have hx := Bd.exec
  have hby := Bd.bytes
  have hml : c.maxLocals = 1 := hml0
  have hown : s.vm.findClass "java/util/BitSet" = some m.cls := findClass_of_methodNamed Bd.named
  have hnm := (name_of_methodNamed Bd.named Bd.method).1
  have X0 : Stand p l e ({ frames := 0, cells := 0, slots := 0, locals := 0 } : Room) s m #[(.int (Int32.ofNat i))] below meth c s₁ [] 0 0 := Stand.of_body Bd
  have e0 : s₁.heap = h0 := by rw [← hh, Bd.state]; rfl
  have NF := Fr.nil n0
  refine WP.go ?_
  refine WP.cast (ef_9 m (Int32.ofNat i)) ?_
  refine WP.name ?_
  intro G hG
  refine WP.st (T' := s₁) (f' := (mkF m 4 #[.val (.int (Int32.ofNat i))] [(.int ((Int32.ofNat i) >>> ((6 : Int32) &&& 31)))])) (fun t k => ?_) ?_
  · refine XS.iloadN X0.here hx rfl (hb hby d9_0) rfl ?_
    refine XS.bipush X0.here hx rfl (hb hby d9_1) ?_
    refine XS.ishr X0.here hx rfl (hb hby d9_3) rfl ?_
    exact k
  subst hG
  obtain ⟨fs, hr, hrun, hended, hW, hsame⟩ := X0.leave (v := some (.int ((Int32.ofNat i) >>> ((6 : Int32) &&& 31)))) (fun h => by rw [Bd.returns] at h; cases h)
  refine WP.fin ⟨_, _, ?_, hrun, hended, _, _, rfl, ?_, ⟨_, rfl⟩, hW, hsame.mono (by decide) (by decide)⟩
  · exact retI X0 hx Bd.returns (hb hby d9_4) hr
  · show Q9 Z i h0 n0 _ s₁.heap _
    rw [e0]
    exact ⟨(congrArg (fun z => some (Value.int z)) (own_shr hi)), NF, rfl⟩
theorem ef_15 (m : MethodId) (z0 : Int32) (z1 : Int32) : entryFrame m #[(.int z0), (.int z1)] 2 = mkF m 0 #[.val (.int z0), .val (.int z1)] [] := by
  all_goals first | (simp [entryFrame, mkF, argsToLocals, Value.category]; done) | rfl
theorem d15_0 : decode jdk_29_method_65_code 0 = .ok (.iload_n 0, 1) := by decide +kernel
theorem d15_1 : decode jdk_29_method_65_code 1 = .ok (.iload_n 1, 1) := by decide +kernel
theorem d15_2 : decode jdk_29_method_65_code 2 = .ok (.if_icmp .lt 7, 3) := by decide +kernel
theorem d15_9 : decode jdk_29_method_65_code 9 = .ok (.iload_n 1, 1) := by decide +kernel
theorem d15_10 : decode jdk_29_method_65_code 10 = .ok (.ireturn, 1) := by decide +kernel
theorem d15_5 : decode jdk_29_method_65_code 5 = .ok (.iload_n 0, 1) := by decide +kernel
theorem d15_6 : decode jdk_29_method_65_code 6 = .ok (.goto 4, 3) := by decide +kernel
def Q15 (Z : State) (p1 : Int32) (p2 : Int32) (h0 : Heap) (n0 : Nat) (v : Option Value) (h : Heap) (L : List Loc) : Prop := v = some (.int (own_max p1 p2)) ∧ Fr n0 L ∧ h = h0
set_option maxRecDepth 65536 in
set_option maxHeartbeats 40000000 in
theorem rm15 (l : Launch) (Z : State) (a0 : Array Value) (hw : ∀ d ∈ tables_1, d.before a0 Z = true) (wsC : List Jvm.Cond) (p1 : Int32) (p2 : Int32) (h0 : Heap) (n0 : Nat) (Z0 : n0 ≤ h0.size)  :
    MetFree l (⟨"java/lang/Math", "max", "(II)I"⟩ : MethodName) (head1 (Jvm.Cond.code (⟨"java/lang/Math", "max", "(II)I"⟩ : MethodName) jdk_29_method_65_code 2 (some .int) :: wsC) ({ frames := 0, cells := 0, slots := 0, locals := 0 } : Room)) (fun a U => a = #[(.int p1), (.int p2)] ∧ Z.Warmed39 U.vm ∧ U.heap = h0) (fun _ _ _ _ _ => True) (fun _ U o U' => ∃ v L, o = .returned v ∧ Q15 Z p1 p2 h0 n0 v U'.heap L ∧ FrameEnd U o U' L ({ frames := 0, cells := 0, slots := 0, locals := 0 } : Room).cells ({ frames := 0, cells := 0, slots := 0, locals := 0 } : Room).slots) := by
  refine MetFree.of_bodySF (Jvm.Free.JP.mathPlain rfl (by decide +kernel)) hisR ?_
  intro p e s m args below meth c s₁ Bd hml0 hP hK
  obtain ⟨rfl, hZ, hh⟩ := hP
  have hx := Bd.exec
  have hby := Bd.bytes
  have hml : c.maxLocals = 2 := hml0
  have hown : s.vm.findClass "java/lang/Math" = some m.cls := findClass_of_methodNamed Bd.named
  have hnm := (name_of_methodNamed Bd.named Bd.method).1
  have X0 : Stand p l e ({ frames := 0, cells := 0, slots := 0, locals := 0 } : Room) s m #[(.int p1), (.int p2)] below meth c s₁ [] 0 0 := Stand.of_body Bd
  have e0 : s₁.heap = h0 := by rw [← hh, Bd.state]; rfl
  have NF := Fr.nil n0
  refine WP.go ?_
  refine WP.cast (ef_15 m p1 p2) ?_
  refine WP.name ?_
  intro G hG
  refine WP.st (T' := s₁) (f' := (mkF m 2 #[.val (.int p1), .val (.int p2)] [(.int p2), (.int p1)])) (fun t k => ?_) ?_
  · refine XS.iloadN X0.here hx rfl (hb hby d15_0) rfl ?_
    refine XS.iloadN X0.here hx rfl (hb hby d15_1) rfl ?_
    exact k
  by_cases hc1 : p1 < p2
  · skip
    refine WP.st (T' := s₁) (f' := (mkF m 10 #[.val (.int p1), .val (.int p2)] [(.int p2)])) (fun t k => ?_) ?_
    · refine XS.icmpYes X0.here hx rfl (pc0 := 2) (pc' := 9) rfl (hb hby d15_2) rfl (tlt hc1).1 (by decide) (by decide) ?_
      refine XS.iloadN X0.here hx rfl (hb hby d15_9) rfl ?_
      exact k
    subst hG
    obtain ⟨fs, hr, hrun, hended, hW, hsame⟩ := X0.leave (v := some (.int p2)) (fun h => by rw [Bd.returns] at h; cases h)
    refine WP.fin ⟨_, _, ?_, hrun, hended, _, _, rfl, ?_, ⟨_, rfl⟩, hW, hsame.mono (by decide) (by decide)⟩
    · exact retI X0 hx Bd.returns (hb hby d15_10) hr
    · show Q15 Z p1 p2 h0 n0 _ s₁.heap _
      rw [e0]
      exact ⟨(by simp [own_max, hc1]), NF, rfl⟩
  · skip
    refine WP.st (T' := s₁) (f' := (mkF m 10 #[.val (.int p1), .val (.int p2)] [(.int p1)])) (fun t k => ?_) ?_
    · refine XS.icmpNo X0.here hx rfl (hb hby d15_2) rfl (flt hc1).1 ?_
      refine XS.iloadN X0.here hx rfl (hb hby d15_5) rfl ?_
      refine XS.goto X0.here hx rfl (pc0 := 6) (pc' := 10) rfl (hb hby d15_6) (by decide) (by decide) ?_
      exact k
    subst hG
    obtain ⟨fs, hr, hrun, hended, hW, hsame⟩ := X0.leave (v := some (.int p1)) (fun h => by rw [Bd.returns] at h; cases h)
    refine WP.fin ⟨_, _, ?_, hrun, hended, _, _, rfl, ?_, ⟨_, rfl⟩, hW, hsame.mono (by decide) (by decide)⟩
    · exact retI X0 hx Bd.returns (hb hby d15_10) hr
    · show Q15 Z p1 p2 h0 n0 _ s₁.heap _
      rw [e0]
      exact ⟨(by simp [own_max, hc1]), NF, rfl⟩
theorem ef_17 (m : MethodId) (z0 : Int32) (z1 : Int32) : entryFrame m #[(.int z0), (.int z1)] 2 = mkF m 0 #[.val (.int z0), .val (.int z1)] [] := by
  all_goals first | (simp [entryFrame, mkF, argsToLocals, Value.category]; done) | rfl
theorem d17_0 : decode jdk_29_method_69_code 0 = .ok (.iload_n 0, 1) := by decide +kernel
theorem d17_1 : decode jdk_29_method_69_code 1 = .ok (.iload_n 1, 1) := by decide +kernel
theorem d17_2 : decode jdk_29_method_69_code 2 = .ok (.if_icmp .gt 7, 3) := by decide +kernel
theorem d17_9 : decode jdk_29_method_69_code 9 = .ok (.iload_n 1, 1) := by decide +kernel
theorem d17_10 : decode jdk_29_method_69_code 10 = .ok (.ireturn, 1) := by decide +kernel
theorem d17_5 : decode jdk_29_method_69_code 5 = .ok (.iload_n 0, 1) := by decide +kernel
theorem d17_6 : decode jdk_29_method_69_code 6 = .ok (.goto 4, 3) := by decide +kernel
def Q17 (Z : State) (p1 : Int32) (p2 : Int32) (h0 : Heap) (n0 : Nat) (v : Option Value) (h : Heap) (L : List Loc) : Prop := v = some (.int (own_min p1 p2)) ∧ Fr n0 L ∧ h = h0
set_option maxRecDepth 65536 in
set_option maxHeartbeats 40000000 in
theorem rm17 (l : Launch) (Z : State) (a0 : Array Value) (hw : ∀ d ∈ tables_1, d.before a0 Z = true) (wsC : List Jvm.Cond) (p1 : Int32) (p2 : Int32) (h0 : Heap) (n0 : Nat) (Z0 : n0 ≤ h0.size)  :
    MetFree l (⟨"java/lang/Math", "min", "(II)I"⟩ : MethodName) (head1 (Jvm.Cond.code (⟨"java/lang/Math", "min", "(II)I"⟩ : MethodName) jdk_29_method_69_code 2 (some .int) :: wsC) ({ frames := 0, cells := 0, slots := 0, locals := 0 } : Room)) (fun a U => a = #[(.int p1), (.int p2)] ∧ Z.Warmed39 U.vm ∧ U.heap = h0) (fun _ _ _ _ _ => True) (fun _ U o U' => ∃ v L, o = .returned v ∧ Q17 Z p1 p2 h0 n0 v U'.heap L ∧ FrameEnd U o U' L ({ frames := 0, cells := 0, slots := 0, locals := 0 } : Room).cells ({ frames := 0, cells := 0, slots := 0, locals := 0 } : Room).slots) := by
  refine MetFree.of_bodySF (Jvm.Free.JP.mathPlain rfl (by decide +kernel)) hisR ?_
  intro p e s m args below meth c s₁ Bd hml0 hP hK
  obtain ⟨rfl, hZ, hh⟩ := hP
  have hx := Bd.exec
  have hby := Bd.bytes
  have hml : c.maxLocals = 2 := hml0
  have hown : s.vm.findClass "java/lang/Math" = some m.cls := findClass_of_methodNamed Bd.named
  have hnm := (name_of_methodNamed Bd.named Bd.method).1
  have X0 : Stand p l e ({ frames := 0, cells := 0, slots := 0, locals := 0 } : Room) s m #[(.int p1), (.int p2)] below meth c s₁ [] 0 0 := Stand.of_body Bd
  have e0 : s₁.heap = h0 := by rw [← hh, Bd.state]; rfl
  have NF := Fr.nil n0
  refine WP.go ?_
  refine WP.cast (ef_17 m p1 p2) ?_
  refine WP.name ?_
  intro G hG
  refine WP.st (T' := s₁) (f' := (mkF m 2 #[.val (.int p1), .val (.int p2)] [(.int p2), (.int p1)])) (fun t k => ?_) ?_
  · refine XS.iloadN X0.here hx rfl (hb hby d17_0) rfl ?_
    refine XS.iloadN X0.here hx rfl (hb hby d17_1) rfl ?_
    exact k
  by_cases hc2 : p2 < p1
  · skip
    refine WP.st (T' := s₁) (f' := (mkF m 10 #[.val (.int p1), .val (.int p2)] [(.int p2)])) (fun t k => ?_) ?_
    · refine XS.icmpYes X0.here hx rfl (pc0 := 2) (pc' := 9) rfl (hb hby d17_2) rfl (tlt hc2).2.2.1 (by decide) (by decide) ?_
      refine XS.iloadN X0.here hx rfl (hb hby d17_9) rfl ?_
      exact k
    subst hG
    obtain ⟨fs, hr, hrun, hended, hW, hsame⟩ := X0.leave (v := some (.int p2)) (fun h => by rw [Bd.returns] at h; cases h)
    refine WP.fin ⟨_, _, ?_, hrun, hended, _, _, rfl, ?_, ⟨_, rfl⟩, hW, hsame.mono (by decide) (by decide)⟩
    · exact retI X0 hx Bd.returns (hb hby d17_10) hr
    · show Q17 Z p1 p2 h0 n0 _ s₁.heap _
      rw [e0]
      exact ⟨(by simp [own_min, hc2]), NF, rfl⟩
  · skip
    refine WP.st (T' := s₁) (f' := (mkF m 10 #[.val (.int p1), .val (.int p2)] [(.int p1)])) (fun t k => ?_) ?_
    · refine XS.icmpNo X0.here hx rfl (hb hby d17_2) rfl (flt hc2).2.2.1 ?_
      refine XS.iloadN X0.here hx rfl (hb hby d17_5) rfl ?_
      refine XS.goto X0.here hx rfl (pc0 := 6) (pc' := 10) rfl (hb hby d17_6) (by decide) (by decide) ?_
      exact k
    subst hG
    obtain ⟨fs, hr, hrun, hended, hW, hsame⟩ := X0.leave (v := some (.int p1)) (fun h => by rw [Bd.returns] at h; cases h)
    refine WP.fin ⟨_, _, ?_, hrun, hended, _, _, rfl, ?_, ⟨_, rfl⟩, hW, hsame.mono (by decide) (by decide)⟩
    · exact retI X0 hx Bd.returns (hb hby d17_10) hr
    · show Q17 Z p1 p2 h0 n0 _ s₁.heap _
      rw [e0]
      exact ⟨(by simp [own_min, hc2]), NF, rfl⟩
theorem ef_13 (m : MethodId) (z0 : Addr) : entryFrame m #[(.ref z0)] 1 = mkF m 0 #[.val (.ref z0)] [] := by
  all_goals first | (simp [entryFrame, mkF, argsToLocals, Value.category]; done) | rfl
theorem w_76 {a0 : Array Value} {Z : State} (hw : ∀ d ∈ tables_1, d.before a0 Z = true) : (Jvm.Cond.fieldLink "java/util/BitSet" (3 : Nat) "java/util/BitSet" "$assertionsDisabled" "Z").before a0 Z = true := hw _ (List.mem_of_getElem? (i := 76) rfl)
theorem d13_0 : decode jdk_92_method_2_code 0 = .ok (.getstatic 3, 3) := by decide +kernel
theorem d13_3 : decode jdk_92_method_2_code 3 = .ok (.ifCond .ne 34, 3) := by decide +kernel
theorem d13_37 : decode jdk_92_method_2_code 37 = .ok (.getstatic 3, 3) := by decide +kernel
theorem d13_40 : decode jdk_92_method_2_code 40 = .ok (.ifCond .ne 30, 3) := by decide +kernel
theorem d13_70 : decode jdk_92_method_2_code 70 = .ok (.getstatic 3, 3) := by decide +kernel
theorem d13_73 : decode jdk_92_method_2_code 73 = .ok (.ifCond .ne 37, 3) := by decide +kernel
theorem d13_110 : decode jdk_92_method_2_code 110 = .ok (.return_, 1) := by decide +kernel
def Q13 (Z : State) (a1 : Addr) (h0 : Heap) (n0 : Nat) (v : Option Value) (h : Heap) (L : List Loc) : Prop := v = none ∧ Fr n0 L ∧ h = h0
set_option maxRecDepth 65536 in
set_option maxHeartbeats 40000000 in
theorem rm13 (l : Launch) (Z : State) (a0 : Array Value) (hw : ∀ d ∈ tables_1, d.before a0 Z = true) (wsC : List Jvm.Cond) (a1 : Addr) (h0 : Heap) (n0 : Nat) (Z0 : n0 ≤ h0.size) (U_java_util_BitSet__assertionsDisabled : Sta Z h0 "java/util/BitSet" "$assertionsDisabled" "Z" (.int (1 : Int32))) :
    MetFree l (⟨"java/util/BitSet", "checkInvariants", "()V"⟩ : MethodName) (head1 (Jvm.Cond.code (⟨"java/util/BitSet", "checkInvariants", "()V"⟩ : MethodName) jdk_92_method_2_code 1 none :: wsC) ({ frames := 0, cells := 0, slots := 0, locals := 0 } : Room)) (fun a U => a = #[(.ref a1)] ∧ Z.Warmed39 U.vm ∧ U.heap = h0) (fun _ _ _ _ _ => True) (fun _ U o U' => ∃ v L, o = .returned v ∧ Q13 Z a1 h0 n0 v U'.heap L ∧ FrameEnd U o U' L ({ frames := 0, cells := 0, slots := 0, locals := 0 } : Room).cells ({ frames := 0, cells := 0, slots := 0, locals := 0 } : Room).slots) := by
  refine MetFree.of_bodySF (plainFor_of_name pn_0) hisR ?_
  intro p e s m args below meth c s₁ Bd hml0 hP hK
  obtain ⟨rfl, hZ, hh⟩ := hP
  have hx := Bd.exec
  have hby := Bd.bytes
  have hml : c.maxLocals = 1 := hml0
  have hown : s.vm.findClass "java/util/BitSet" = some m.cls := findClass_of_methodNamed Bd.named
  have hnm := (name_of_methodNamed Bd.named Bd.method).1
  have X0 : Stand p l e ({ frames := 0, cells := 0, slots := 0, locals := 0 } : Room) s m #[(.ref a1)] below meth c s₁ [] 0 0 := Stand.of_body Bd
  have e0 : s₁.heap = h0 := by rw [← hh, Bd.state]; rfl
  have NF := Fr.nil n0
  refine WP.go ?_
  refine WP.cast (ef_13 m a1) ?_
  refine WP.name ?_
  intro G hG
  obtain ⟨T3, X3, e3, st3⟩ := getS2 X0 hx hZ hown (host := "") (Or.inl (w_76 hw)) Via.refl e0 U_java_util_BitSet__assertionsDisabled (g := (mkF m 0 #[.val (.ref a1)] [])) rfl (hb hby d13_0)
  refine WP.st st3 ?_
  clear st3
  show WP p.tables e below _ T3 (mkF m 3 #[.val (.ref a1)] [(.int (1 : Int32))])
  refine WP.st (T' := T3) (f' := (mkF m 37 #[.val (.ref a1)] [])) (fun t k => ?_) ?_
  · refine XS.ifYes X3.here hx rfl (pc0 := 3) (pc' := 37) rfl (hb hby d13_3) rfl ((if0 _ _).trans (feq (by decide : ¬ ((1 : Int32) = (0 : Int32)))).2) (by decide) (by decide) ?_
    exact k
  obtain ⟨T4, X4, e4, st4⟩ := getS2 X3 hx hZ hown (host := "") (Or.inl (w_76 hw)) Via.refl e3 U_java_util_BitSet__assertionsDisabled (g := (mkF m 37 #[.val (.ref a1)] [])) rfl (hb hby d13_37)
  refine WP.st st4 ?_
  clear st4
  show WP p.tables e below _ T4 (mkF m 40 #[.val (.ref a1)] [(.int (1 : Int32))])
  refine WP.st (T' := T4) (f' := (mkF m 70 #[.val (.ref a1)] [])) (fun t k => ?_) ?_
  · refine XS.ifYes X4.here hx rfl (pc0 := 40) (pc' := 70) rfl (hb hby d13_40) rfl ((if0 _ _).trans (feq (by decide : ¬ ((1 : Int32) = (0 : Int32)))).2) (by decide) (by decide) ?_
    exact k
  obtain ⟨T5, X5, e5, st5⟩ := getS2 X4 hx hZ hown (host := "") (Or.inl (w_76 hw)) Via.refl e4 U_java_util_BitSet__assertionsDisabled (g := (mkF m 70 #[.val (.ref a1)] [])) rfl (hb hby d13_70)
  refine WP.st st5 ?_
  clear st5
  show WP p.tables e below _ T5 (mkF m 73 #[.val (.ref a1)] [(.int (1 : Int32))])
  refine WP.st (T' := T5) (f' := (mkF m 110 #[.val (.ref a1)] [])) (fun t k => ?_) ?_
  · refine XS.ifYes X5.here hx rfl (pc0 := 73) (pc' := 110) rfl (hb hby d13_73) rfl ((if0 _ _).trans (feq (by decide : ¬ ((1 : Int32) = (0 : Int32)))).2) (by decide) (by decide) ?_
    exact k
  subst hG
  obtain ⟨fs, hr, hrun, hended, hW, hsame⟩ := X5.leave (v := none) (fun _ => rfl)
  refine WP.fin ⟨_, _, ?_, hrun, hended, _, _, rfl, ?_, ⟨_, rfl⟩, hW, hsame.mono (by decide) (by decide)⟩
  · exact X5.returnOut hx Bd.returns (hb hby d13_110) hr
  · show Q13 Z a1 h0 n0 _ T5.heap _
    rw [e5]
    exact ⟨rfl, NF, rfl⟩
theorem ef_8 (m : MethodId) (z0 : Addr) : entryFrame m #[(.ref z0), (.int (64 : Int32))] 2 = mkF m 0 #[.val (.ref z0), .val (.int (64 : Int32))] [] := by
  all_goals first | (simp [entryFrame, mkF, argsToLocals, Value.category]; done) | rfl
theorem d8_0 : decode jdk_92_method_6_code 0 = .ok (.aload_n 0, 1) := by decide +kernel
theorem d8_1 : decode jdk_92_method_6_code 1 = .ok (.iload_n 1, 1) := by decide +kernel
theorem d8_2 : decode jdk_92_method_6_code 2 = .ok (.iconst 1, 1) := by decide +kernel
theorem d8_3 : decode jdk_92_method_6_code 3 = .ok (.isub, 1) := by decide +kernel
theorem w_50 {a0 : Array Value} {Z : State} (hw : ∀ d ∈ tables_1, d.before a0 Z = true) : (Jvm.Cond.methodLink "java/util/BitSet" (52 : Nat) ({ cls := "java/util/BitSet", name := "wordIndex", desc := "(I)I" } : Jvm.MethodName)).before a0 Z = true := hw _ (List.mem_of_getElem? (i := 50) rfl)
theorem d8_4 : decode jdk_92_method_6_code 4 = .ok (.invokestatic 52, 3) := by decide +kernel
theorem w_52 {a0 : Array Value} {Z : State} (hw : ∀ d ∈ tables_1, d.before a0 Z = true) : (Jvm.Cond.code ({ cls := "java/util/BitSet", name := "wordIndex", desc := "(I)I" } : Jvm.MethodName) jdk_92_method_1_code (1 : Nat) (Option.some Jvm.ClassFile.FieldType.int)).before a0 Z = true := hw _ (List.mem_of_getElem? (i := 52) rfl)
theorem w_36 {a0 : Array Value} {Z : State} (hw : ∀ d ∈ tables_1, d.before a0 Z = true) : (Jvm.Cond.initialized "java/util/BitSet").before a0 Z = true := hw _ (List.mem_of_getElem? (i := 36) rfl)
theorem pd_0 : parseMethodDescriptor "(I)I" = some ⟨[.int], some .int⟩ := by decide +kernel
theorem w_51 {a0 : Array Value} {Z : State} (hw : ∀ d ∈ tables_1, d.before a0 Z = true) : (Jvm.Cond.static ({ cls := "java/util/BitSet", name := "wordIndex", desc := "(I)I" } : Jvm.MethodName)).before a0 Z = true := hw _ (List.mem_of_getElem? (i := 51) rfl)
theorem d8_7 : decode jdk_92_method_6_code 7 = .ok (.iconst 1, 1) := by decide +kernel
theorem d8_8 : decode jdk_92_method_6_code 8 = .ok (.iadd, 1) := by decide +kernel
theorem w_53 {a0 : Array Value} {Z : State} (hw : ∀ d ∈ tables_1, d.before a0 Z = true) : (Jvm.Cond.arrayClass Jvm.ClassFile.FieldType.long).before a0 Z = true := hw _ (List.mem_of_getElem? (i := 53) rfl)
theorem d8_9 : decode jdk_92_method_6_code 9 = .ok (.newarray .long, 2) := by decide +kernel
theorem w_54 {a0 : Array Value} {Z : State} (hw : ∀ d ∈ tables_1, d.before a0 Z = true) : (Jvm.Cond.fieldLink "java/util/BitSet" (11 : Nat) "java/util/BitSet" "words" "[J").before a0 Z = true := hw _ (List.mem_of_getElem? (i := 54) rfl)
theorem w_55 {a0 : Array Value} {Z : State} (hw : ∀ d ∈ tables_1, d.before a0 Z = true) : (Jvm.Cond.lays "java/util/BitSet" "java/util/BitSet" "words" "[J").before a0 Z = true := hw _ (List.mem_of_getElem? (i := 55) rfl)
theorem w_35 {a0 : Array Value} {Z : State} (hw : ∀ d ∈ tables_1, d.before a0 Z = true) : (Jvm.Cond.instantiable "java/util/BitSet" (3 : Nat)).before a0 Z = true := hw _ (List.mem_of_getElem? (i := 35) rfl)
theorem d8_11 : decode jdk_92_method_6_code 11 = .ok (.putfield 11, 3) := by decide +kernel
theorem w_42 {a0 : Array Value} {Z : State} (hw : ∀ d ∈ tables_1, d.before a0 Z = true) : (Jvm.Cond.lays "java/util/BitSet" "java/util/BitSet" "wordsInUse" "I").before a0 Z = true := hw _ (List.mem_of_getElem? (i := 42) rfl)
theorem sn_0 {a0 : Array Value} {Z : State} (hw : ∀ d ∈ tables_1, d.before a0 Z = true) : Jvm.RoadKit.slotOf Z "java/util/BitSet" "wordsInUse" "I" ≠ Jvm.RoadKit.slotOf Z "java/util/BitSet" "words" "[J" := slot_ne (Or.inl (w_42 hw)) (Or.inl (w_55 hw)) (by decide) (t := .int) (t' := (.array .long)) (by decide) (by decide)
theorem w_44 {a0 : Array Value} {Z : State} (hw : ∀ d ∈ tables_1, d.before a0 Z = true) : (Jvm.Cond.lays "java/util/BitSet" "java/util/BitSet" "sizeIsSticky" "Z").before a0 Z = true := hw _ (List.mem_of_getElem? (i := 44) rfl)
theorem sn_1 {a0 : Array Value} {Z : State} (hw : ∀ d ∈ tables_1, d.before a0 Z = true) : Jvm.RoadKit.slotOf Z "java/util/BitSet" "sizeIsSticky" "Z" ≠ Jvm.RoadKit.slotOf Z "java/util/BitSet" "words" "[J" := slot_ne (Or.inl (w_44 hw)) (Or.inl (w_55 hw)) (by decide) (t := .boolean) (t' := (.array .long)) (by decide) (by decide)
theorem d8_14 : decode jdk_92_method_6_code 14 = .ok (.return_, 1) := by decide +kernel
def Q8 (Z : State) (a1 : Addr) (u_words : Value) (u_wiu : Int32) (u_st : Int32) (h0 : Heap) (n0 : Nat) (v : Option Value) (h : Heap) (L : List Loc) : Prop := ∃ tw : Addr, ∃ kw : ClassId, v = none ∧ Fr n0 L ∧ Keep h0 h [a1] ∧ Fld Z h a1 "java/util/BitSet" "words" "[J" (.ref tw) ∧ Fld Z h a1 "java/util/BitSet" "wordsInUse" "I" (.int u_wiu) ∧ Fld Z h a1 "java/util/BitSet" "sizeIsSticky" "Z" (.int u_st) ∧ (Arv Z h tw kw .long (1 : Int32) [(.long (0 : Int64))] (.long (0 : Int64))) ∧ h0.size ≤ tw ∧ n0 ≤ tw
set_option maxRecDepth 65536 in
set_option maxHeartbeats 40000000 in
theorem rm8 (l : Launch) (Z : State) (a0 : Array Value) (hw : ∀ d ∈ tables_1, d.before a0 Z = true) (wsC : List Jvm.Cond) (a1 : Addr) (u_words : Value) (u_wiu : Int32) (u_st : Int32) (h0 : Heap) (n0 : Nat) (Z0 : n0 ≤ h0.size) (E_a1 : Exa Z h0 a1 "java/util/BitSet") (g_a1 : n0 ≤ a1) (F_a1_words : Fld Z h0 a1 "java/util/BitSet" "words" "[J" u_words) (F_a1_wordsInUse : Fld Z h0 a1 "java/util/BitSet" "wordsInUse" "I" (.int u_wiu)) (F_a1_sizeIsSticky : Fld Z h0 a1 "java/util/BitSet" "sizeIsSticky" "Z" (.int u_st)) :
    MetFree l (⟨"java/util/BitSet", "initWords", "(I)V"⟩ : MethodName) (head1 (Jvm.Cond.code (⟨"java/util/BitSet", "initWords", "(I)V"⟩ : MethodName) jdk_92_method_6_code 2 none :: wsC) ({ frames := 1, cells := 1, slots := 1, locals := 13 } : Room)) (fun a U => a = #[(.ref a1), (.int (64 : Int32))] ∧ Z.Warmed39 U.vm ∧ U.heap = h0) (fun _ _ _ _ _ => True) (fun _ U o U' => ∃ v L, o = .returned v ∧ Q8 Z a1 u_words u_wiu u_st h0 n0 v U'.heap L ∧ FrameEnd U o U' L ({ frames := 1, cells := 1, slots := 1, locals := 13 } : Room).cells ({ frames := 1, cells := 1, slots := 1, locals := 13 } : Room).slots) := by
  refine MetFree.of_bodySF (plainFor_of_name pn_0) hisR ?_
  intro p e s m args below meth c s₁ Bd hml0 hP hK
  obtain ⟨rfl, hZ, hh⟩ := hP
  have hx := Bd.exec
  have hby := Bd.bytes
  have hml : c.maxLocals = 2 := hml0
  have hown : s.vm.findClass "java/util/BitSet" = some m.cls := findClass_of_methodNamed Bd.named
  have hnm := (name_of_methodNamed Bd.named Bd.method).1
  have X0 : Stand p l e ({ frames := 1, cells := 1, slots := 1, locals := 13 } : Room) s m #[(.ref a1), (.int (64 : Int32))] below meth c s₁ [] 0 0 := Stand.of_body Bd
  have e0 : s₁.heap = h0 := by rw [← hh, Bd.state]; rfl
  have NF := Fr.nil n0
  have KP : Keep h0 h0 [a1] := Keep.refl h0 _
  refine WP.go ?_
  refine WP.cast (ef_8 m a1) ?_
  refine WP.name ?_
  intro G hG
  refine WP.st (T' := s₁) (f' := (mkF m 4 #[.val (.ref a1), .val (.int (64 : Int32))] [(.int ((64 : Int32) - (1 : Int32))), (.ref a1)])) (fun t k => ?_) ?_
  · refine XS.aloadN X0.here hx rfl (hb hby d8_0) rfl rfl ?_
    refine XS.iloadN X0.here hx rfl (hb hby d8_1) rfl ?_
    refine XS.iconst X0.here hx rfl (hb hby d8_2) ?_
    refine XS.isub X0.here hx rfl (hb hby d8_3) rfl ?_
    exact k
  rw [show ((64 : Int32) - (1 : Int32)) = (63 : Int32) from by decide]
  show WP p.tables e below _ s₁ (mkF m 4 #[.val (.ref a1), .val (.int (64 : Int32))] [(.int (63 : Int32)), (.ref a1)])
  obtain ⟨_, _, ⟨T6, L6, k6, n6⟩, -, X6, ⟨Lc6, hQ6, l6, y6, z6⟩, st6⟩ := Jvm.LawKit.callS X0 hx (y := (⟨"java/util/BitSet", "wordIndex", "(I)I"⟩ : MethodName)) hown (mvT hZ (w_50 hw)) (mvT hZ (w_51 hw)) (mvT hZ (w_36 hw)) (mvT hZ (w_52 hw)) (by decide) (backOf (W := 1) (rm9 l Z a0 hw [] 63 h0 n0 Z0 (by first | rfl | assumption | decide | omega : 63 ≤ 65535)) hZ (w_52 hw) (w_36 hw) (by decide) (by decide)) (g := (mkF m 4 #[.val (.ref a1), .val (.int (64 : Int32))] [(.int (63 : Int32)), (.ref a1)])) rfl (by rw [hml]; rfl) (argsL := [(.int (63 : Int32))]) (rest := [(.ref a1)]) (lenOf pd_0 rfl) rfl (by show 2 * 0 + _ ≤ _; exact Nat.le_of_eq rfl) (hb hby d8_4) (fun _ _ => ⟨rfl, e0, (by decide : 0 + 0 ≤ _), (by decide : 0 + 0 ≤ _)⟩)
  dsimp only [Pt.U, Pt.locs, Pt.cells, Pt.slots] at X6 l6 y6 z6 st6 hQ6
  subst l6 y6 z6
  obtain ⟨rfl, Nq6, Kq6⟩ := hQ6
  replace NF := Fr.app NF Nq6
  clear Nq6
  refine WP.st st6 ?_
  clear st6
  replace Kq6 := Kq6.trans (rfl : h0 = h0)
  have hXN : ∃ LL, Stand p l e ({ frames := 1, cells := 1, slots := 1, locals := 13 } : Room) s m #[(.ref a1), (.int (64 : Int32))] below meth c T6 LL 0 0 ∧ Fr n0 LL := ⟨_, X6, NF⟩
  clear X6 NF
  obtain ⟨LL7, X6, NF⟩ := hXN
  show WP p.tables e below _ T6 (mkF m 7 #[.val (.ref a1), .val (.int (64 : Int32))] [(.int (Int32.ofNat (63 / 64))), (.ref a1)])
  rw [show (Int32.ofNat (63 / 64)) = (0 : Int32) from by decide]
  show WP p.tables e below _ T6 (mkF m 7 #[.val (.ref a1), .val (.int (64 : Int32))] [(.int (0 : Int32)), (.ref a1)])
  refine WP.st (T' := T6) (f' := (mkF m 9 #[.val (.ref a1), .val (.int (64 : Int32))] [(.int ((0 : Int32) + (1 : Int32))), (.ref a1)])) (fun t k => ?_) ?_
  · refine XS.iconst X6.here hx rfl (hb hby d8_7) ?_
    refine XS.iadd X6.here hx rfl (hb hby d8_8) rfl ?_
    exact k
  rw [show ((0 : Int32) + (1 : Int32)) = (1 : Int32) from by decide]
  show WP p.tables e below _ T6 (mkF m 9 #[.val (.ref a1), .val (.int (64 : Int32))] [(.int (1 : Int32)), (.ref a1)])
  obtain ⟨T8, h8, k8, X8, e8, E8, A8, st8⟩ := newP (aty := .long) X6 hx hZ (w_53 hw) Kq6 (g := (mkF m 9 #[.val (.ref a1), .val (.int (64 : Int32))] [(.int (1 : Int32)), (.ref a1)])) rfl (hb hby d8_9) rfl (by decide) (cap := 1) (by decide) (by decide) (by decide) (by decide)
  obtain ⟨b8, g8⟩ : ∃ z, z = h0.size := ⟨_, rfl⟩
  rw [← g8] at A8 st8
  refine WP.st st8 ?_
  clear st8
  have ne_a1_b8 : a1 ≠ b8 := Nat.ne_of_lt (Nat.lt_of_lt_of_le E_a1.lt (Nat.le_of_eq g8.symm))
  have g_b8 : n0 ≤ b8 := Nat.le_trans Z0 (Nat.le_of_eq g8.symm)
  have sz_b8 : h0.size ≤ b8 := Nat.le_trans KP.1 (Nat.le_of_eq g8.symm)
  replace E_a1 := E_a1.ext E8
  replace F_a1_words := F_a1_words.ext E8
  replace F_a1_wordsInUse := F_a1_wordsInUse.ext E8
  replace F_a1_sizeIsSticky := F_a1_sizeIsSticky.ext E8
  replace Z0 := Nat.le_trans Z0 E8.1
  replace KP := KP.ext E8
  have V_b8 : Arv Z h8 b8 k8 .long (1 : Int32) [(.long (0 : Int64))] (.long (0 : Int64)) := (Arv.new A8 (by decide)).pad (pad_rep [] (.long (0 : Int64)) 1)
  show WP p.tables e below _ T8 (mkF m 11 #[.val (.ref a1), .val (.int (64 : Int32))] [(.ref b8), (.ref a1)])
  obtain ⟨T9, h9, X9, e9, W9, st9⟩ := putF X8 hx hZ hown (host := "") (Or.inl (w_54 hw)) Via.refl e8 F_a1_words E_a1 (Or.inl (w_55 hw)) (w_35 hw) (ty := (.array .long)) (by decide) rfl rfl (g := (mkF m 11 #[.val (.ref a1), .val (.int (64 : Int32))] [(.ref b8), (.ref a1)])) rfl rfl (hb hby d8_11)
  refine WP.st st9 ?_
  clear st9
  replace E_a1 := E_a1.wr W9
  replace F_a1_words := F_a1_words.same W9
  replace F_a1_wordsInUse := F_a1_wordsInUse.other W9 (Or.inr (sn_0 hw))
  replace F_a1_sizeIsSticky := F_a1_sizeIsSticky.other W9 (Or.inr (sn_1 hw))
  replace V_b8 := V_b8.other W9 (Ne.symm ne_a1_b8)
  replace Z0 := Nat.le_trans Z0 (Keep.of_wr W9).1
  replace KP := KP.wr W9 (Or.inl (List.mem_of_getElem? (i := 0) rfl))
  replace NF := Fr.snoc X9 NF g_a1
  clear W9
  have hXN : ∃ LL, Stand p l e ({ frames := 1, cells := 1, slots := 1, locals := 13 } : Room) s m #[(.ref a1), (.int (64 : Int32))] below meth c T9 LL 1 1 ∧ Fr n0 LL := ⟨_, X9, NF⟩
  clear X9 NF
  obtain ⟨LL10, X9, NF⟩ := hXN
  show WP p.tables e below _ T9 (mkF m 14 #[.val (.ref a1), .val (.int (64 : Int32))] [])
  subst hG
  obtain ⟨fs, hr, hrun, hended, hW, hsame⟩ := X9.leave (v := none) (fun _ => rfl)
  refine WP.fin ⟨_, _, ?_, hrun, hended, _, _, rfl, ?_, ⟨_, rfl⟩, hW, hsame.mono (by decide) (by decide)⟩
  · exact X9.returnOut hx Bd.returns (hb hby d8_14) hr
  · show Q8 Z a1 u_words u_wiu u_st h0 n0 _ T9.heap _
    rw [e9]
    exact ⟨b8, k8, rfl, NF, KP, F_a1_words, F_a1_wordsInUse, F_a1_sizeIsSticky, V_b8, sz_b8, g_b8⟩
theorem ef_7 (m : MethodId) (z0 : Addr) : entryFrame m #[(.ref z0)] 1 = mkF m 0 #[.val (.ref z0)] [] := by
  all_goals first | (simp [entryFrame, mkF, argsToLocals, Value.category]; done) | rfl
theorem d7_0 : decode jdk_92_method_4_code 0 = .ok (.aload_n 0, 1) := by decide +kernel
theorem w_40 {a0 : Array Value} {Z : State} (hw : ∀ d ∈ tables_1, d.before a0 Z = true) : (Jvm.Cond.methodLink "java/util/BitSet" (21 : Nat) ({ cls := "java/lang/Object", name := "<init>", desc := "()V" } : Jvm.MethodName)).before a0 Z = true := hw _ (List.mem_of_getElem? (i := 40) rfl)
theorem d7_1 : decode jdk_92_method_4_code 1 = .ok (.invokespecial 21, 3) := by decide +kernel
theorem w_13 {a0 : Array Value} {Z : State} (hw : ∀ d ∈ tables_1, d.before a0 Z = true) : (Jvm.Cond.instanceMethod ({ cls := "java/lang/Object", name := "<init>", desc := "()V" } : Jvm.MethodName)).before a0 Z = true := hw _ (List.mem_of_getElem? (i := 13) rfl)
theorem w_14 {a0 : Array Value} {Z : State} (hw : ∀ d ∈ tables_1, d.before a0 Z = true) : (Jvm.Cond.code ({ cls := "java/lang/Object", name := "<init>", desc := "()V" } : Jvm.MethodName) object_method_1_code (1 : Nat) (Option.none : Option Jvm.ClassFile.FieldType)).before a0 Z = true := hw _ (List.mem_of_getElem? (i := 14) rfl)
theorem d7_4 : decode jdk_92_method_4_code 4 = .ok (.aload_n 0, 1) := by decide +kernel
theorem d7_5 : decode jdk_92_method_4_code 5 = .ok (.iconst 0, 1) := by decide +kernel
theorem w_41 {a0 : Array Value} {Z : State} (hw : ∀ d ∈ tables_1, d.before a0 Z = true) : (Jvm.Cond.fieldLink "java/util/BitSet" (7 : Nat) "java/util/BitSet" "wordsInUse" "I").before a0 Z = true := hw _ (List.mem_of_getElem? (i := 41) rfl)
theorem d7_6 : decode jdk_92_method_4_code 6 = .ok (.putfield 7, 3) := by decide +kernel
theorem sn_2 {a0 : Array Value} {Z : State} (hw : ∀ d ∈ tables_1, d.before a0 Z = true) : Jvm.RoadKit.slotOf Z "java/util/BitSet" "words" "[J" ≠ Jvm.RoadKit.slotOf Z "java/util/BitSet" "wordsInUse" "I" := slot_ne (Or.inl (w_55 hw)) (Or.inl (w_42 hw)) (by decide) (t := (.array .long)) (t' := .int) (by decide) (by decide)
theorem sn_3 {a0 : Array Value} {Z : State} (hw : ∀ d ∈ tables_1, d.before a0 Z = true) : Jvm.RoadKit.slotOf Z "java/util/BitSet" "sizeIsSticky" "Z" ≠ Jvm.RoadKit.slotOf Z "java/util/BitSet" "wordsInUse" "I" := slot_ne (Or.inl (w_44 hw)) (Or.inl (w_42 hw)) (by decide) (t := .boolean) (t' := .int) (by decide) (by decide)
theorem d7_9 : decode jdk_92_method_4_code 9 = .ok (.aload_n 0, 1) := by decide +kernel
theorem d7_10 : decode jdk_92_method_4_code 10 = .ok (.iconst 0, 1) := by decide +kernel
theorem w_43 {a0 : Array Value} {Z : State} (hw : ∀ d ∈ tables_1, d.before a0 Z = true) : (Jvm.Cond.fieldLink "java/util/BitSet" (24 : Nat) "java/util/BitSet" "sizeIsSticky" "Z").before a0 Z = true := hw _ (List.mem_of_getElem? (i := 43) rfl)
theorem d7_11 : decode jdk_92_method_4_code 11 = .ok (.putfield 24, 3) := by decide +kernel
theorem sn_4 {a0 : Array Value} {Z : State} (hw : ∀ d ∈ tables_1, d.before a0 Z = true) : Jvm.RoadKit.slotOf Z "java/util/BitSet" "words" "[J" ≠ Jvm.RoadKit.slotOf Z "java/util/BitSet" "sizeIsSticky" "Z" := slot_ne (Or.inl (w_55 hw)) (Or.inl (w_44 hw)) (by decide) (t := (.array .long)) (t' := .boolean) (by decide) (by decide)
theorem sn_5 {a0 : Array Value} {Z : State} (hw : ∀ d ∈ tables_1, d.before a0 Z = true) : Jvm.RoadKit.slotOf Z "java/util/BitSet" "wordsInUse" "I" ≠ Jvm.RoadKit.slotOf Z "java/util/BitSet" "sizeIsSticky" "Z" := slot_ne (Or.inl (w_42 hw)) (Or.inl (w_44 hw)) (by decide) (t := .int) (t' := .boolean) (by decide) (by decide)
theorem d7_14 : decode jdk_92_method_4_code 14 = .ok (.aload_n 0, 1) := by decide +kernel
theorem d7_15 : decode jdk_92_method_4_code 15 = .ok (.bipush 64, 2) := by decide +kernel
theorem w_45 {a0 : Array Value} {Z : State} (hw : ∀ d ∈ tables_1, d.before a0 Z = true) : (Jvm.Cond.methodLink "java/util/BitSet" (27 : Nat) ({ cls := "java/util/BitSet", name := "initWords", desc := "(I)V" } : Jvm.MethodName)).before a0 Z = true := hw _ (List.mem_of_getElem? (i := 45) rfl)
theorem d7_17 : decode jdk_92_method_4_code 17 = .ok (.invokevirtual 27, 3) := by decide +kernel
theorem w_49 {a0 : Array Value} {Z : State} (hw : ∀ d ∈ tables_1, d.before a0 Z = true) : (Jvm.Cond.code ({ cls := "java/util/BitSet", name := "initWords", desc := "(I)V" } : Jvm.MethodName) jdk_92_method_6_code (2 : Nat) (Option.none : Option Jvm.ClassFile.FieldType)).before a0 Z = true := hw _ (List.mem_of_getElem? (i := 49) rfl)
theorem pd_1 : parseMethodDescriptor "(I)V" = some ⟨[.int], none⟩ := by decide +kernel
theorem w_47 {a0 : Array Value} {Z : State} (hw : ∀ d ∈ tables_1, d.before a0 Z = true) : (Jvm.Cond.privateMethod ({ cls := "java/util/BitSet", name := "initWords", desc := "(I)V" } : Jvm.MethodName)).before a0 Z = true := hw _ (List.mem_of_getElem? (i := 47) rfl)
theorem w_48 {a0 : Array Value} {Z : State} (hw : ∀ d ∈ tables_1, d.before a0 Z = true) : (Jvm.Cond.selects "java/util/BitSet" ({ cls := "java/util/BitSet", name := "initWords", desc := "(I)V" } : Jvm.MethodName) ({ cls := "java/util/BitSet", name := "initWords", desc := "(I)V" } : Jvm.MethodName)).before a0 Z = true := hw _ (List.mem_of_getElem? (i := 48) rfl)
theorem w_46 {a0 : Array Value} {Z : State} (hw : ∀ d ∈ tables_1, d.before a0 Z = true) : (Jvm.Cond.instanceMethod ({ cls := "java/util/BitSet", name := "initWords", desc := "(I)V" } : Jvm.MethodName)).before a0 Z = true := hw _ (List.mem_of_getElem? (i := 46) rfl)
theorem d7_20 : decode jdk_92_method_4_code 20 = .ok (.aload_n 0, 1) := by decide +kernel
theorem d7_21 : decode jdk_92_method_4_code 21 = .ok (.iconst 0, 1) := by decide +kernel
theorem d7_22 : decode jdk_92_method_4_code 22 = .ok (.putfield 24, 3) := by decide +kernel
theorem d7_25 : decode jdk_92_method_4_code 25 = .ok (.return_, 1) := by decide +kernel
def Q7 (Z : State) (a1 : Addr) (u_words : Value) (u_wiu : Int32) (u_st : Int32) (h0 : Heap) (n0 : Nat) (v : Option Value) (h : Heap) (L : List Loc) : Prop := ∃ tw : Addr, ∃ kw : ClassId, v = none ∧ Fr n0 L ∧ Keep h0 h [a1] ∧ Fld Z h a1 "java/util/BitSet" "words" "[J" (.ref tw) ∧ Fld Z h a1 "java/util/BitSet" "wordsInUse" "I" (.int (0 : Int32)) ∧ Fld Z h a1 "java/util/BitSet" "sizeIsSticky" "Z" (.int (0 : Int32)) ∧ (Arv Z h tw kw .long (1 : Int32) [(.long (0 : Int64))] (.long (0 : Int64))) ∧ h0.size ≤ tw ∧ n0 ≤ tw
set_option maxRecDepth 65536 in
set_option maxHeartbeats 40000000 in
theorem rm7 (l : Launch) (Z : State) (a0 : Array Value) (hw : ∀ d ∈ tables_1, d.before a0 Z = true) (wsC : List Jvm.Cond) (a1 : Addr) (u_words : Value) (u_wiu : Int32) (u_st : Int32) (h0 : Heap) (n0 : Nat) (Z0 : n0 ≤ h0.size) (E_a1 : Exa Z h0 a1 "java/util/BitSet") (g_a1 : n0 ≤ a1) (F_a1_words : Fld Z h0 a1 "java/util/BitSet" "words" "[J" u_words) (F_a1_wordsInUse : Fld Z h0 a1 "java/util/BitSet" "wordsInUse" "I" (.int u_wiu)) (F_a1_sizeIsSticky : Fld Z h0 a1 "java/util/BitSet" "sizeIsSticky" "Z" (.int u_st)) :
    MetFree l (⟨"java/util/BitSet", "<init>", "()V"⟩ : MethodName) (head1 (Jvm.Cond.code (⟨"java/util/BitSet", "<init>", "()V"⟩ : MethodName) jdk_92_method_4_code 1 none :: wsC) ({ frames := 2, cells := 1, slots := 1, locals := 26 } : Room)) (fun a U => a = #[(.ref a1)] ∧ Z.Warmed39 U.vm ∧ U.heap = h0) (fun _ _ _ _ _ => True) (fun _ U o U' => ∃ v L, o = .returned v ∧ Q7 Z a1 u_words u_wiu u_st h0 n0 v U'.heap L ∧ FrameEnd U o U' L ({ frames := 2, cells := 1, slots := 1, locals := 26 } : Room).cells ({ frames := 2, cells := 1, slots := 1, locals := 26 } : Room).slots) := by
  refine MetFree.of_bodySF (plainFor_of_name pn_0) hisR ?_
  intro p e s m args below meth c s₁ Bd hml0 hP hK
  obtain ⟨rfl, hZ, hh⟩ := hP
  have hx := Bd.exec
  have hby := Bd.bytes
  have hml : c.maxLocals = 1 := hml0
  have hown : s.vm.findClass "java/util/BitSet" = some m.cls := findClass_of_methodNamed Bd.named
  have hnm := (name_of_methodNamed Bd.named Bd.method).1
  have X0 : Stand p l e ({ frames := 2, cells := 1, slots := 1, locals := 26 } : Room) s m #[(.ref a1)] below meth c s₁ [] 0 0 := Stand.of_body Bd
  have e0 : s₁.heap = h0 := by rw [← hh, Bd.state]; rfl
  have NF := Fr.nil n0
  have KP : Keep h0 h0 [a1] := Keep.refl h0 _
  refine WP.go ?_
  refine WP.cast (ef_7 m a1) ?_
  refine WP.name ?_
  intro G hG
  refine WP.st (T' := s₁) (f' := (mkF m 1 #[.val (.ref a1)] [(.ref a1)])) (fun t k => ?_) ?_
  · refine XS.aloadN X0.here hx rfl (hb hby d7_0) rfl rfl ?_
    exact k
  obtain ⟨T11, X11, e11, st11⟩ := initO X0 hx hZ hown (w_40 hw) (w_13 hw) (w_14 hw) e0 (g := (mkF m 1 #[.val (.ref a1)] [(.ref a1)])) rfl (by rw [hml]; rfl) rfl (hb hby d7_1) (by decide) (W := 0) (by show 2 * 0 + _ ≤ _; exact Nat.le_of_eq rfl) (by decide)
  refine WP.st st11 ?_
  clear st11
  show WP p.tables e below _ T11 (mkF m 4 #[.val (.ref a1)] [])
  refine WP.st (T' := T11) (f' := (mkF m 6 #[.val (.ref a1)] [(.int (0 : Int32)), (.ref a1)])) (fun t k => ?_) ?_
  · refine XS.aloadN X11.here hx rfl (hb hby d7_4) rfl rfl ?_
    refine XS.iconst X11.here hx rfl (hb hby d7_5) ?_
    exact k
  obtain ⟨T12, h12, X12, e12, W12, st12⟩ := putF X11 hx hZ hown (host := "") (Or.inl (w_41 hw)) Via.refl e11 F_a1_wordsInUse E_a1 (Or.inl (w_42 hw)) (w_35 hw) (ty := .int) (by decide) rfl rfl (g := (mkF m 6 #[.val (.ref a1)] [(.int (0 : Int32)), (.ref a1)])) rfl rfl (hb hby d7_6)
  refine WP.st st12 ?_
  clear st12
  replace E_a1 := E_a1.wr W12
  replace F_a1_words := F_a1_words.other W12 (Or.inr (sn_2 hw))
  replace F_a1_wordsInUse := F_a1_wordsInUse.same W12
  replace F_a1_sizeIsSticky := F_a1_sizeIsSticky.other W12 (Or.inr (sn_3 hw))
  replace Z0 := Nat.le_trans Z0 (Keep.of_wr W12).1
  replace KP := KP.wr W12 (Or.inl (List.mem_of_getElem? (i := 0) rfl))
  replace NF := Fr.snoc X12 NF g_a1
  clear W12
  have hXN : ∃ LL, Stand p l e ({ frames := 2, cells := 1, slots := 1, locals := 26 } : Room) s m #[(.ref a1)] below meth c T12 LL 0 0 ∧ Fr n0 LL := ⟨_, X12, NF⟩
  clear X12 NF
  obtain ⟨LL13, X12, NF⟩ := hXN
  show WP p.tables e below _ T12 (mkF m 9 #[.val (.ref a1)] [])
  refine WP.st (T' := T12) (f' := (mkF m 11 #[.val (.ref a1)] [(.int (0 : Int32)), (.ref a1)])) (fun t k => ?_) ?_
  · refine XS.aloadN X12.here hx rfl (hb hby d7_9) rfl rfl ?_
    refine XS.iconst X12.here hx rfl (hb hby d7_10) ?_
    exact k
  obtain ⟨T14, h14, X14, e14, W14, st14⟩ := putFN X12 hx hZ hown (w_43 hw) Via.refl e12 F_a1_sizeIsSticky E_a1 (Or.inl (w_44 hw)) (w_35 hw) (ty := .boolean) (v := (.int (0 : Int32))) (v' := (.int (0 : Int32))) (by decide) rfl (by decide) (g := (mkF m 11 #[.val (.ref a1)] [(.int (0 : Int32)), (.ref a1)])) rfl rfl (hb hby d7_11)
  refine WP.st st14 ?_
  clear st14
  replace E_a1 := E_a1.wr W14
  replace F_a1_words := F_a1_words.other W14 (Or.inr (sn_4 hw))
  replace F_a1_wordsInUse := F_a1_wordsInUse.other W14 (Or.inr (sn_5 hw))
  replace F_a1_sizeIsSticky := F_a1_sizeIsSticky.same W14
  replace Z0 := Nat.le_trans Z0 (Keep.of_wr W14).1
  replace KP := KP.wr W14 (Or.inl (List.mem_of_getElem? (i := 0) rfl))
  replace NF := Fr.snoc X14 NF g_a1
  clear W14
  have hXN : ∃ LL, Stand p l e ({ frames := 2, cells := 1, slots := 1, locals := 26 } : Room) s m #[(.ref a1)] below meth c T14 LL 0 0 ∧ Fr n0 LL := ⟨_, X14, NF⟩
  clear X14 NF
  obtain ⟨LL15, X14, NF⟩ := hXN
  show WP p.tables e below _ T14 (mkF m 14 #[.val (.ref a1)] [])
  refine WP.st (T' := T14) (f' := (mkF m 17 #[.val (.ref a1)] [(.int (64 : Int32)), (.ref a1)])) (fun t k => ?_) ?_
  · refine XS.aloadN X14.here hx rfl (hb hby d7_14) rfl rfl ?_
    refine XS.bipush X14.here hx rfl (hb hby d7_15) ?_
    exact k
  obtain ⟨cq16, q16, q16'⟩ := E_a1.cell
  obtain ⟨_, _, ⟨T16, L16, k16, n16⟩, -, X16, ⟨Lc16, hQ16, l16, y16, z16⟩, st16⟩ := X14.privateBack hx (y := (⟨"java/util/BitSet", "initWords", "(I)V"⟩ : MethodName)) hown (mvT hZ (w_45 hw)) (mvT hZ (w_46 hw)) (mvT hZ (w_48 hw)) (Cond.privateMethod_at (mvP hZ (w_47 hw) (args := #[]))) (mvT hZ (w_49 hw)) (by decide) (backOf (W := 0) (rm8 l Z a0 hw [] a1 u_words (0 : Int32) (0 : Int32) h14 n0 Z0 E_a1 g_a1 F_a1_words F_a1_wordsInUse F_a1_sizeIsSticky) hZ (w_49 hw) (w_36 hw) (by decide) (by decide)) (g := (mkF m 17 #[.val (.ref a1)] [(.int (64 : Int32)), (.ref a1)])) rfl (by rw [hml]; rfl) (Steps.refl _) (a := a1) (by rw [e14]; exact q16) q16' (argsL := [(.int (64 : Int32))]) (rest := []) (lenOf pd_1 rfl) rfl (by show 2 * 0 + _ ≤ _; exact Nat.le_of_eq rfl) (hb hby d7_17) (fun _ _ => ⟨rfl, e14, (by decide : 0 + 1 ≤ _), (by decide : 0 + 1 ≤ _)⟩)
  dsimp only [Pt.U, Pt.locs, Pt.cells, Pt.slots] at X16 l16 y16 z16 st16 hQ16
  subst l16 y16 z16
  obtain ⟨tw_16, kw_16, rfl, Nq16, Kq16, nF16_a1_words, nF16_a1_wordsInUse, nF16_a1_sizeIsSticky, nA16_tw_16, szq_tw_16, g_tw_16⟩ := hQ16
  replace NF := Fr.app NF Nq16
  clear Nq16
  refine WP.tr st16 ?_
  clear st16
  obtain ⟨h16, e16⟩ : ∃ h, T16.heap = h := ⟨_, rfl⟩
  rw [e16] at Kq16 nF16_a1_words nF16_a1_wordsInUse nF16_a1_sizeIsSticky nA16_tw_16
  have ne_a1_tw_16 : a1 ≠ tw_16 := Nat.ne_of_lt (Nat.lt_of_lt_of_le E_a1.lt szq_tw_16)
  have sz_tw_16 : h0.size ≤ tw_16 := Nat.le_trans KP.1 szq_tw_16
  replace E_a1 := E_a1.keep Kq16
  clear F_a1_words
  clear F_a1_wordsInUse
  clear F_a1_sizeIsSticky
  replace Z0 := Nat.le_trans Z0 Kq16.1
  replace KP := KP.trans Kq16 (allS (Or.inl (List.mem_of_getElem? (i := 0) rfl)) all0)
  clear Kq16
  have F_a1_words := nF16_a1_words
  clear nF16_a1_words
  have F_a1_wordsInUse := nF16_a1_wordsInUse
  clear nF16_a1_wordsInUse
  have F_a1_sizeIsSticky := nF16_a1_sizeIsSticky
  clear nF16_a1_sizeIsSticky
  have V_tw_16 := nA16_tw_16
  clear nA16_tw_16
  have hXN : ∃ LL, Stand p l e ({ frames := 2, cells := 1, slots := 1, locals := 26 } : Room) s m #[(.ref a1)] below meth c T16 LL 1 1 ∧ Fr n0 LL := ⟨_, X16, NF⟩
  clear X16 NF
  obtain ⟨LL17, X16, NF⟩ := hXN
  show WP p.tables e below _ T16 (mkF m 20 #[.val (.ref a1)] [])
  refine WP.st (T' := T16) (f' := (mkF m 22 #[.val (.ref a1)] [(.int (0 : Int32)), (.ref a1)])) (fun t k => ?_) ?_
  · refine XS.aloadN X16.here hx rfl (hb hby d7_20) rfl rfl ?_
    refine XS.iconst X16.here hx rfl (hb hby d7_21) ?_
    exact k
  obtain ⟨T18, h18, X18, e18, W18, st18⟩ := putFN X16 hx hZ hown (w_43 hw) Via.refl e16 F_a1_sizeIsSticky E_a1 (Or.inl (w_44 hw)) (w_35 hw) (ty := .boolean) (v := (.int (0 : Int32))) (v' := (.int (0 : Int32))) (by decide) rfl (by decide) (g := (mkF m 22 #[.val (.ref a1)] [(.int (0 : Int32)), (.ref a1)])) rfl rfl (hb hby d7_22)
  refine WP.st st18 ?_
  clear st18
  replace E_a1 := E_a1.wr W18
  replace F_a1_words := F_a1_words.other W18 (Or.inr (sn_4 hw))
  replace F_a1_wordsInUse := F_a1_wordsInUse.other W18 (Or.inr (sn_5 hw))
  replace F_a1_sizeIsSticky := F_a1_sizeIsSticky.same W18
  replace V_tw_16 := V_tw_16.other W18 (Ne.symm ne_a1_tw_16)
  replace Z0 := Nat.le_trans Z0 (Keep.of_wr W18).1
  replace KP := KP.wr W18 (Or.inl (List.mem_of_getElem? (i := 0) rfl))
  replace NF := Fr.snoc X18 NF g_a1
  clear W18
  have hXN : ∃ LL, Stand p l e ({ frames := 2, cells := 1, slots := 1, locals := 26 } : Room) s m #[(.ref a1)] below meth c T18 LL 1 1 ∧ Fr n0 LL := ⟨_, X18, NF⟩
  clear X18 NF
  obtain ⟨LL19, X18, NF⟩ := hXN
  show WP p.tables e below _ T18 (mkF m 25 #[.val (.ref a1)] [])
  subst hG
  obtain ⟨fs, hr, hrun, hended, hW, hsame⟩ := X18.leave (v := none) (fun _ => rfl)
  refine WP.fin ⟨_, _, ?_, hrun, hended, _, _, rfl, ?_, ⟨_, rfl⟩, hW, hsame.mono (by decide) (by decide)⟩
  · exact X18.returnOut hx Bd.returns (hb hby d7_25) hr
  · show Q7 Z a1 u_words u_wiu u_st h0 n0 _ T18.heap _
    rw [e18]
    exact ⟨tw_16, kw_16, rfl, NF, KP, F_a1_words, F_a1_wordsInUse, F_a1_sizeIsSticky, V_tw_16, sz_tw_16, g_tw_16⟩
theorem ef_16 (m : MethodId) (z0 : Addr) (z1 : Int32) : entryFrame m #[(.ref z0), (.int z1)] 3 = mkF m 0 #[.val (.ref z0), .val (.int z1), .unset] [] := by
  all_goals first | (simp [entryFrame, mkF, argsToLocals, Value.category]; done) | rfl
theorem pn_1 : plainName "java/util/Arrays" = true := by first | (simp [plainName, overriddenIn]; done) | decide +kernel
theorem d16_0 : decode jdk_65_method_124_code 0 = .ok (.iload_n 1, 1) := by decide +kernel
theorem d16_1 : decode jdk_65_method_124_code 1 = .ok (.aload_n 0, 1) := by decide +kernel
theorem d16_2 : decode jdk_65_method_124_code 2 = .ok (.arraylength, 1) := by decide +kernel
theorem d16_3 : decode jdk_65_method_124_code 3 = .ok (.if_icmp .ne 11, 3) := by decide +kernel
theorem d16_14 : decode jdk_65_method_124_code 14 = .ok (.iload_n 1, 1) := by decide +kernel
theorem d16_15 : decode jdk_65_method_124_code 15 = .ok (.newarray .long, 2) := by decide +kernel
theorem d16_17 : decode jdk_65_method_124_code 17 = .ok (.astore_n 2, 1) := by decide +kernel
theorem d16_18 : decode jdk_65_method_124_code 18 = .ok (.aload_n 0, 1) := by decide +kernel
theorem d16_19 : decode jdk_65_method_124_code 19 = .ok (.iconst 0, 1) := by decide +kernel
theorem d16_20 : decode jdk_65_method_124_code 20 = .ok (.aload_n 2, 1) := by decide +kernel
theorem d16_21 : decode jdk_65_method_124_code 21 = .ok (.iconst 0, 1) := by decide +kernel
theorem d16_22 : decode jdk_65_method_124_code 22 = .ok (.aload_n 0, 1) := by decide +kernel
theorem d16_23 : decode jdk_65_method_124_code 23 = .ok (.arraylength, 1) := by decide +kernel
theorem d16_24 : decode jdk_65_method_124_code 24 = .ok (.iload_n 1, 1) := by decide +kernel
theorem w_92 {a0 : Array Value} {Z : State} (hw : ∀ d ∈ tables_1, d.before a0 Z = true) : (Jvm.Cond.methodLink "java/util/Arrays" (304 : Nat) ({ cls := "java/lang/Math", name := "min", desc := "(II)I" } : Jvm.MethodName)).before a0 Z = true := hw _ (List.mem_of_getElem? (i := 92) rfl)
theorem d16_25 : decode jdk_65_method_124_code 25 = .ok (.invokestatic 304, 3) := by decide +kernel
theorem w_94 {a0 : Array Value} {Z : State} (hw : ∀ d ∈ tables_1, d.before a0 Z = true) : (Jvm.Cond.code ({ cls := "java/lang/Math", name := "min", desc := "(II)I" } : Jvm.MethodName) jdk_29_method_69_code (2 : Nat) (Option.some Jvm.ClassFile.FieldType.int)).before a0 Z = true := hw _ (List.mem_of_getElem? (i := 94) rfl)
theorem w_86 {a0 : Array Value} {Z : State} (hw : ∀ d ∈ tables_1, d.before a0 Z = true) : (Jvm.Cond.initialized "java/lang/Math").before a0 Z = true := hw _ (List.mem_of_getElem? (i := 86) rfl)
theorem pd_2 : parseMethodDescriptor "(II)I" = some ⟨[.int, .int], some .int⟩ := by decide +kernel
theorem w_93 {a0 : Array Value} {Z : State} (hw : ∀ d ∈ tables_1, d.before a0 Z = true) : (Jvm.Cond.static ({ cls := "java/lang/Math", name := "min", desc := "(II)I" } : Jvm.MethodName)).before a0 Z = true := hw _ (List.mem_of_getElem? (i := 93) rfl)
theorem w_95 {a0 : Array Value} {Z : State} (hw : ∀ d ∈ tables_1, d.before a0 Z = true) : (Jvm.Cond.methodLink "java/util/Arrays" (150 : Nat) ({ cls := "java/lang/System", name := "arraycopy", desc := "(Ljava/lang/Object;ILjava/lang/Object;II)V" } : Jvm.MethodName)).before a0 Z = true := hw _ (List.mem_of_getElem? (i := 95) rfl)
theorem d16_28 : decode jdk_65_method_124_code 28 = .ok (.invokestatic 150, 3) := by decide +kernel
theorem w_98 {a0 : Array Value} {Z : State} (hw : ∀ d ∈ tables_1, d.before a0 Z = true) : (Jvm.Cond.native ({ cls := "java/lang/System", name := "arraycopy", desc := "(Ljava/lang/Object;ILjava/lang/Object;II)V" } : Jvm.MethodName)).before a0 Z = true := hw _ (List.mem_of_getElem? (i := 98) rfl)
theorem w_96 {a0 : Array Value} {Z : State} (hw : ∀ d ∈ tables_1, d.before a0 Z = true) : (Jvm.Cond.static ({ cls := "java/lang/System", name := "arraycopy", desc := "(Ljava/lang/Object;ILjava/lang/Object;II)V" } : Jvm.MethodName)).before a0 Z = true := hw _ (List.mem_of_getElem? (i := 96) rfl)
theorem w_97 {a0 : Array Value} {Z : State} (hw : ∀ d ∈ tables_1, d.before a0 Z = true) : (Jvm.Cond.initialized "java/lang/System").before a0 Z = true := hw _ (List.mem_of_getElem? (i := 97) rfl)
theorem d16_31 : decode jdk_65_method_124_code 31 = .ok (.aload_n 2, 1) := by decide +kernel
theorem d16_32 : decode jdk_65_method_124_code 32 = .ok (.areturn, 1) := by decide +kernel
def Q16 (Z : State) (a1 : Addr) (kw : ClassId) (ws : List Int64) (n : Nat) (h0 : Heap) (n0 : Nat) (v : Option Value) (h : Heap) (L : List Loc) : Prop := ∃ r : Addr, ∃ kr : ClassId, ∃ w2 : List Int64, v = some (.ref r) ∧ Fr n0 L ∧ Keep h0 h [] ∧ h0.size ≤ r ∧ n0 ≤ r ∧ (Arv Z h r kr .long (Int32.ofNat w2.length) (w2.map Value.long) (.long (0 : Int64))) ∧ (w2.length = n) ∧ (∀ k, w2.getD k 0 = ws.getD k 0)
set_option maxRecDepth 65536 in
set_option maxHeartbeats 40000000 in
theorem rm16 (l : Launch) (Z : State) (a0 : Array Value) (hw : ∀ d ∈ tables_1, d.before a0 Z = true) (wsC : List Jvm.Cond) (a1 : Addr) (kw : ClassId) (ws : List Int64) (n : Nat) (h0 : Heap) (n0 : Nat) (Z0 : n0 ≤ h0.size) (V_a1 : Arv Z h0 a1 kw .long (Int32.ofNat ws.length) (ws.map Value.long) (.long (0 : Int64))) (hlt : ws.length < n) (hn : n ≤ 2048) (OLD : Old Z n0 h0) :
    MetFree l (⟨"java/util/Arrays", "copyOf", "([JI)[J"⟩ : MethodName) (head1 (Jvm.Cond.code (⟨"java/util/Arrays", "copyOf", "([JI)[J"⟩ : MethodName) jdk_65_method_124_code 3 (some (.array .long)) :: wsC) ({ frames := 1, cells := 1, slots := 2048, locals := 18 } : Room)) (fun a U => a = #[(.ref a1), (.int (Int32.ofNat n))] ∧ Z.Warmed39 U.vm ∧ U.heap = h0) (fun _ _ _ _ _ => True) (fun _ U o U' => ∃ v L, o = .returned v ∧ Q16 Z a1 kw ws n h0 n0 v U'.heap L ∧ FrameEnd U o U' L ({ frames := 1, cells := 1, slots := 2048, locals := 18 } : Room).cells ({ frames := 1, cells := 1, slots := 2048, locals := 18 } : Room).slots) := by
  refine MetFree.of_bodySF (plainFor_of_name pn_1) hisR ?_
  intro p e s m args below meth c s₁ Bd hml0 hP hK
  obtain ⟨rfl, hZ, hh⟩ := hP
  have hx := Bd.exec
  have hby := Bd.bytes
  have hml : c.maxLocals = 3 := hml0
  have hown : s.vm.findClass "java/util/Arrays" = some m.cls := findClass_of_methodNamed Bd.named
  have hnm := (name_of_methodNamed Bd.named Bd.method).1
  have X0 : Stand p l e ({ frames := 1, cells := 1, slots := 2048, locals := 18 } : Room) s m #[(.ref a1), (.int (Int32.ofNat n))] below meth c s₁ [] 0 0 := Stand.of_body Bd
  have e0 : s₁.heap = h0 := by rw [← hh, Bd.state]; rfl
  have NF := Fr.nil n0
  have KP : Keep h0 h0 [] := Keep.refl h0 _
  refine WP.go ?_
  refine WP.cast (ef_16 m a1 (Int32.ofNat n)) ?_
  refine WP.name ?_
  intro G hG
  have h31 : n < 2 ^ 31 := Nat.lt_of_le_of_lt hn (by decide)
  have hw31 : ws.length < 2 ^ 31 := Nat.lt_trans hlt h31
  have hne : ¬ (Int32.ofNat n = Int32.ofNat ws.length) := fun q => Nat.lt_irrefl _ ((own_eq h31 hw31).1 q ▸ hlt)
  refine WP.st (T' := s₁) (f' := (mkF m 2 #[.val (.ref a1), .val (.int (Int32.ofNat n)), .unset] [(.ref a1), (.int (Int32.ofNat n))])) (fun t k => ?_) ?_
  · refine XS.iloadN X0.here hx rfl (hb hby d16_0) rfl ?_
    refine XS.aloadN X0.here hx rfl (hb hby d16_1) rfl rfl ?_
    exact k
  obtain ⟨cl20, Ar20, len20⟩ := V_a1.len
  refine WP.st (T' := s₁) (f' := (mkF m 15 #[.val (.ref a1), .val (.int (Int32.ofNat n)), .unset] [(.int (Int32.ofNat n))])) (fun t k => ?_) ?_
  · refine X0.arraylength hx (by rw [e0]; exact Ar20.1) (State.isArrayOf_alike hZ.alike Ar20.2.1) (g := (mkF m 2 #[.val (.ref a1), .val (.int (Int32.ofNat n)), .unset] [(.ref a1), (.int (Int32.ofNat n))])) rfl rfl (hb hby d16_2) _ ?_
    rw [len20]
    refine XS.icmpYes X0.here hx rfl (pc0 := 3) (pc' := 14) rfl (hb hby d16_3) rfl (feq hne).2 (by decide) (by decide) ?_
    refine XS.iloadN X0.here hx rfl (hb hby d16_14) rfl ?_
    exact k
  obtain ⟨T21, h21, k21, X21, e21, E21, A21, st21⟩ := newP (aty := .long) X0 hx hZ (w_53 hw) e0 (g := (mkF m 15 #[.val (.ref a1), .val (.int (Int32.ofNat n)), .unset] [(.int (Int32.ofNat n))])) rfl (hb hby d16_15) rfl (own_nn h31) (cap := 2048) (by rw [own_clamp h31]; exact hn) (by decide) (by decide) (by decide)
  obtain ⟨b21, g21⟩ : ∃ z, z = h0.size := ⟨_, rfl⟩
  rw [← g21] at A21 st21
  refine WP.st st21 ?_
  clear st21
  have ne_a1_b21 : a1 ≠ b21 := Nat.ne_of_lt (Nat.lt_of_lt_of_le V_a1.lt (Nat.le_of_eq g21.symm))
  have g_b21 : n0 ≤ b21 := Nat.le_trans Z0 (Nat.le_of_eq g21.symm)
  have sz_b21 : h0.size ≤ b21 := Nat.le_trans KP.1 (Nat.le_of_eq g21.symm)
  replace V_a1 := V_a1.ext E21
  replace OLD := OLD.ext E21
  replace Z0 := Nat.le_trans Z0 E21.1
  replace KP := KP.ext E21
  have V_b21 : Arv Z h21 b21 k21 .long (Int32.ofNat n) ((List.replicate n (0 : Int64)).map Value.long) (.long (0 : Int64)) := (Arv.new A21 (own_nn h31)).pad (own_padrep n)
  show WP p.tables e below _ T21 (mkF m 17 #[.val (.ref a1), .val (.int (Int32.ofNat n)), .unset] [(.ref b21)])
  refine WP.st (T' := T21) (f' := (mkF m 23 #[.val (.ref a1), .val (.int (Int32.ofNat n)), .val (.ref b21)] [(.ref a1), (.int (0 : Int32)), (.ref b21), (.int (0 : Int32)), (.ref a1)])) (fun t k => ?_) ?_
  · refine XS.astoreN X21.here hx rfl (hb hby d16_17) rfl rfl (l' := #[.val (.ref a1), .val (.int (Int32.ofNat n)), .val (.ref b21)]) rfl ?_
    refine XS.aloadN X21.here hx rfl (hb hby d16_18) rfl rfl ?_
    refine XS.iconst X21.here hx rfl (hb hby d16_19) ?_
    refine XS.aloadN X21.here hx rfl (hb hby d16_20) rfl rfl ?_
    show Steps p.tables e below (T21.setTop (mkF m 21 #[.val (.ref a1), .val (.int (Int32.ofNat n)), .val (.ref b21)] [(.ref b21), (.int (0 : Int32)), (.ref a1)])) t
    refine XS.iconst X21.here hx rfl (hb hby d16_21) ?_
    refine XS.aloadN X21.here hx rfl (hb hby d16_22) rfl rfl ?_
    exact k
  obtain ⟨cl22, Ar22, len22⟩ := V_a1.len
  refine WP.st (T' := T21) (f' := (mkF m 25 #[.val (.ref a1), .val (.int (Int32.ofNat n)), .val (.ref b21)] [(.int (Int32.ofNat n)), (.int (Int32.ofNat ws.length)), (.int (0 : Int32)), (.ref b21), (.int (0 : Int32)), (.ref a1)])) (fun t k => ?_) ?_
  · refine X21.arraylength hx (by rw [e21]; exact Ar22.1) (State.isArrayOf_alike hZ.alike Ar22.2.1) (g := (mkF m 23 #[.val (.ref a1), .val (.int (Int32.ofNat n)), .val (.ref b21)] [(.ref a1), (.int (0 : Int32)), (.ref b21), (.int (0 : Int32)), (.ref a1)])) rfl rfl (hb hby d16_23) _ ?_
    rw [len22]
    refine XS.iloadN X21.here hx rfl (hb hby d16_24) rfl ?_
    exact k
  obtain ⟨_, _, ⟨T23, L23, k23, n23⟩, -, X23, ⟨Lc23, hQ23, l23, y23, z23⟩, st23⟩ := Jvm.LawKit.callS X21 hx (y := (⟨"java/lang/Math", "min", "(II)I"⟩ : MethodName)) hown (mvT hZ (w_92 hw)) (mvT hZ (w_93 hw)) (mvT hZ (w_86 hw)) (mvT hZ (w_94 hw)) (by decide) (backOf (W := 4) (rm17 l Z a0 hw [] (Int32.ofNat ws.length) (Int32.ofNat n) h21 n0 Z0 ) hZ (w_94 hw) (w_86 hw) (by decide) (by decide)) (g := (mkF m 25 #[.val (.ref a1), .val (.int (Int32.ofNat n)), .val (.ref b21)] [(.int (Int32.ofNat n)), (.int (Int32.ofNat ws.length)), (.int (0 : Int32)), (.ref b21), (.int (0 : Int32)), (.ref a1)])) rfl (by rw [hml]; rfl) (argsL := [(.int (Int32.ofNat ws.length)), (.int (Int32.ofNat n))]) (rest := [(.int (0 : Int32)), (.ref b21), (.int (0 : Int32)), (.ref a1)]) (lenOf pd_2 rfl) rfl (by show 2 * 0 + _ ≤ _; exact Nat.le_of_eq rfl) (hb hby d16_25) (fun _ _ => ⟨rfl, e21, (by decide : 1 + 0 ≤ _), (by decide : 2048 + 0 ≤ _)⟩)
  dsimp only [Pt.U, Pt.locs, Pt.cells, Pt.slots] at X23 l23 y23 z23 st23 hQ23
  subst l23 y23 z23
  obtain ⟨rfl, Nq23, Kq23⟩ := hQ23
  replace NF := Fr.app NF Nq23
  clear Nq23
  refine WP.st st23 ?_
  clear st23
  replace Kq23 := Kq23.trans (rfl : h21 = h21)
  have hXN : ∃ LL, Stand p l e ({ frames := 1, cells := 1, slots := 2048, locals := 18 } : Room) s m #[(.ref a1), (.int (Int32.ofNat n))] below meth c T23 LL 1 2048 ∧ Fr n0 LL := ⟨_, X23, NF⟩
  clear X23 NF
  obtain ⟨LL24, X23, NF⟩ := hXN
  show WP p.tables e below _ T23 (mkF m 28 #[.val (.ref a1), .val (.int (Int32.ofNat n)), .val (.ref b21)] [(.int (own_min (Int32.ofNat ws.length) (Int32.ofNat n))), (.int (0 : Int32)), (.ref b21), (.int (0 : Int32)), (.ref a1)])
  rw [show (own_min (Int32.ofNat ws.length) (Int32.ofNat n)) = (Int32.ofNat ws.length) from own_minn hw31 h31 hlt]
  show WP p.tables e below _ T23 (mkF m 28 #[.val (.ref a1), .val (.int (Int32.ofNat n)), .val (.ref b21)] [(.int (Int32.ofNat ws.length)), (.int (0 : Int32)), (.ref b21), (.int (0 : Int32)), (.ref a1)])
  obtain ⟨T25, h25, Lq25, X25, e25, Nq25, Kq25, Vq25, st25⟩ := cpA X23 hx hZ hown (w_95 hw) (w_98 hw) (w_96 hw) (w_97 hw) Kq23 V_a1 V_b21 (Or.inl ⟨rfl, rfl⟩) (by decide) (by decide) (own_nn hw31) (by rw [own_clamp hw31]; exact Nat.le_of_eq (by rw [show (0 : Int32).toNatClampNeg = 0 by decide, Nat.zero_add])) (by rw [own_clamp hw31, own_clamp h31, show (0 : Int32).toNatClampNeg = 0 by decide, Nat.zero_add]; exact Nat.le_of_lt hlt) rfl (by rw [own_clamp hw31, List.length_map, List.length_replicate, show (0 : Int32).toNatClampNeg = 0 by decide, Nat.zero_add]; exact Nat.le_of_lt hlt) NF g_b21 (g := (mkF m 28 #[.val (.ref a1), .val (.int (Int32.ofNat n)), .val (.ref b21)] [(.int (Int32.ofNat ws.length)), (.int (0 : Int32)), (.ref b21), (.int (0 : Int32)), (.ref a1)])) rfl (by rw [hml]; rfl) rfl (hb hby d16_28) (by decide) (W := 0) (by show 2 * 0 + _ ≤ _; exact Nat.le_of_eq rfl) (by decide)
  refine WP.st st25 ?_
  clear st25
  replace NF := Nq25
  obtain ⟨ws2, hl2, hg2, hli⟩ := own_cp ws n hlt h31
  rw [hli] at Vq25
  have Vr : Arv Z h25 b21 k21 .long (Int32.ofNat ws2.length) (ws2.map Value.long) (.long (0 : Int64)) := by rw [hl2]; exact Vq25
  clear V_b21
  replace V_a1 := V_a1.keep Kq25 (by exact ninS ne_a1_b21 (nin0))
  replace OLD := OLD.keep Kq25 (allS g_b21 all0)
  replace Z0 := Nat.le_trans Z0 Kq25.1
  replace KP := KP.trans Kq25 (allS (Or.inr sz_b21) all0)
  have V_b21 := Vr
  show WP p.tables e below _ T25 (mkF m 31 #[.val (.ref a1), .val (.int (Int32.ofNat n)), .val (.ref b21)] [])
  refine WP.st (T' := T25) (f' := (mkF m 32 #[.val (.ref a1), .val (.int (Int32.ofNat n)), .val (.ref b21)] [(.ref b21)])) (fun t k => ?_) ?_
  · refine XS.aloadN X25.here hx rfl (hb hby d16_31) rfl rfl ?_
    exact k
  subst hG
  obtain ⟨fs, hr, hrun, hended, hW, hsame⟩ := X25.leave (v := some (.ref b21)) (fun h => by rw [Bd.returns] at h; cases h)
  refine WP.fin ⟨_, _, ?_, hrun, hended, _, _, rfl, ?_, ⟨_, rfl⟩, hW, hsame.mono (by decide) (by decide)⟩
  · exact retOut X25 hx Bd.returns rfl (Or.inr (Or.inr (Or.inr (Or.inr ⟨rfl, rfl, rfl⟩)))) (hb hby d16_32) hr
  · show Q16 Z a1 kw ws n h0 n0 _ T25.heap _
    rw [e25]
    exact ⟨b21, k21, ws2, rfl, NF, KP, sz_b21, g_b21, V_b21, hl2, hg2⟩
theorem ef_12 (m : MethodId) (z0 : Addr) (z1 : Int32) : entryFrame m #[(.ref z0), (.int z1)] 3 = mkF m 0 #[.val (.ref z0), .val (.int z1), .unset] [] := by
  all_goals first | (simp [entryFrame, mkF, argsToLocals, Value.category]; done) | rfl
theorem d12_0 : decode jdk_92_method_14_code 0 = .ok (.aload_n 0, 1) := by decide +kernel
theorem d12_1 : decode jdk_92_method_14_code 1 = .ok (.getfield 11, 3) := by decide +kernel
theorem d12_4 : decode jdk_92_method_14_code 4 = .ok (.arraylength, 1) := by decide +kernel
theorem d12_5 : decode jdk_92_method_14_code 5 = .ok (.iload_n 1, 1) := by decide +kernel
theorem d12_6 : decode jdk_92_method_14_code 6 = .ok (.if_icmp .ge 32, 3) := by decide +kernel
theorem d12_9 : decode jdk_92_method_14_code 9 = .ok (.iconst 2, 1) := by decide +kernel
theorem d12_10 : decode jdk_92_method_14_code 10 = .ok (.aload_n 0, 1) := by decide +kernel
theorem d12_11 : decode jdk_92_method_14_code 11 = .ok (.getfield 11, 3) := by decide +kernel
theorem d12_14 : decode jdk_92_method_14_code 14 = .ok (.arraylength, 1) := by decide +kernel
theorem d12_15 : decode jdk_92_method_14_code 15 = .ok (.imul, 1) := by decide +kernel
theorem d12_16 : decode jdk_92_method_14_code 16 = .ok (.iload_n 1, 1) := by decide +kernel
theorem w_84 {a0 : Array Value} {Z : State} (hw : ∀ d ∈ tables_1, d.before a0 Z = true) : (Jvm.Cond.methodLink "java/util/BitSet" (133 : Nat) ({ cls := "java/lang/Math", name := "max", desc := "(II)I" } : Jvm.MethodName)).before a0 Z = true := hw _ (List.mem_of_getElem? (i := 84) rfl)
theorem d12_17 : decode jdk_92_method_14_code 17 = .ok (.invokestatic 133, 3) := by decide +kernel
theorem w_87 {a0 : Array Value} {Z : State} (hw : ∀ d ∈ tables_1, d.before a0 Z = true) : (Jvm.Cond.code ({ cls := "java/lang/Math", name := "max", desc := "(II)I" } : Jvm.MethodName) jdk_29_method_65_code (2 : Nat) (Option.some Jvm.ClassFile.FieldType.int)).before a0 Z = true := hw _ (List.mem_of_getElem? (i := 87) rfl)
theorem w_85 {a0 : Array Value} {Z : State} (hw : ∀ d ∈ tables_1, d.before a0 Z = true) : (Jvm.Cond.static ({ cls := "java/lang/Math", name := "max", desc := "(II)I" } : Jvm.MethodName)).before a0 Z = true := hw _ (List.mem_of_getElem? (i := 85) rfl)
theorem d12_20 : decode jdk_92_method_14_code 20 = .ok (.istore_n 2, 1) := by decide +kernel
theorem d12_21 : decode jdk_92_method_14_code 21 = .ok (.aload_n 0, 1) := by decide +kernel
theorem d12_22 : decode jdk_92_method_14_code 22 = .ok (.aload_n 0, 1) := by decide +kernel
theorem d12_23 : decode jdk_92_method_14_code 23 = .ok (.getfield 11, 3) := by decide +kernel
theorem d12_26 : decode jdk_92_method_14_code 26 = .ok (.iload_n 2, 1) := by decide +kernel
theorem w_88 {a0 : Array Value} {Z : State} (hw : ∀ d ∈ tables_1, d.before a0 Z = true) : (Jvm.Cond.methodLink "java/util/BitSet" (59 : Nat) ({ cls := "java/util/Arrays", name := "copyOf", desc := "([JI)[J" } : Jvm.MethodName)).before a0 Z = true := hw _ (List.mem_of_getElem? (i := 88) rfl)
theorem d12_27 : decode jdk_92_method_14_code 27 = .ok (.invokestatic 59, 3) := by decide +kernel
theorem w_91 {a0 : Array Value} {Z : State} (hw : ∀ d ∈ tables_1, d.before a0 Z = true) : (Jvm.Cond.code ({ cls := "java/util/Arrays", name := "copyOf", desc := "([JI)[J" } : Jvm.MethodName) jdk_65_method_124_code (3 : Nat) (Option.some (Jvm.ClassFile.FieldType.array Jvm.ClassFile.FieldType.long))).before a0 Z = true := hw _ (List.mem_of_getElem? (i := 91) rfl)
theorem w_90 {a0 : Array Value} {Z : State} (hw : ∀ d ∈ tables_1, d.before a0 Z = true) : (Jvm.Cond.initialized "java/util/Arrays").before a0 Z = true := hw _ (List.mem_of_getElem? (i := 90) rfl)
theorem pd_3 : parseMethodDescriptor "([JI)[J" = some ⟨[(.array .long), .int], some (.array .long)⟩ := by decide +kernel
theorem w_89 {a0 : Array Value} {Z : State} (hw : ∀ d ∈ tables_1, d.before a0 Z = true) : (Jvm.Cond.static ({ cls := "java/util/Arrays", name := "copyOf", desc := "([JI)[J" } : Jvm.MethodName)).before a0 Z = true := hw _ (List.mem_of_getElem? (i := 89) rfl)
theorem d12_30 : decode jdk_92_method_14_code 30 = .ok (.putfield 11, 3) := by decide +kernel
theorem d12_33 : decode jdk_92_method_14_code 33 = .ok (.aload_n 0, 1) := by decide +kernel
theorem d12_34 : decode jdk_92_method_14_code 34 = .ok (.iconst 0, 1) := by decide +kernel
theorem d12_35 : decode jdk_92_method_14_code 35 = .ok (.putfield 24, 3) := by decide +kernel
theorem d12_38 : decode jdk_92_method_14_code 38 = .ok (.return_, 1) := by decide +kernel
def Q12 (Z : State) (a1 : Addr) (tw : Addr) (kw : ClassId) (ws : List Int64) (u : Nat) (st : Int32) (q : Nat) (h0 : Heap) (n0 : Nat) (v : Option Value) (h : Heap) (L : List Loc) : Prop := ∃ tw2 : Addr, ∃ kw2 : ClassId, ∃ ws2 : List Int64, ∃ st2 : Int32, v = none ∧ Fr n0 L ∧ Keep h0 h [a1, tw] ∧ Fld Z h a1 "java/util/BitSet" "words" "[J" (.ref tw2) ∧ Fld Z h a1 "java/util/BitSet" "wordsInUse" "I" (.int (Int32.ofNat u)) ∧ Fld Z h a1 "java/util/BitSet" "sizeIsSticky" "Z" (.int st2) ∧ (Arv Z h tw2 kw2 .long (Int32.ofNat ws2.length) (ws2.map Value.long) (.long (0 : Int64))) ∧ n0 ≤ tw2 ∧ a1 ≠ tw2 ∧ (tw2 = tw ∨ h0.size ≤ tw2) ∧ (q ≤ ws2.length) ∧ (ws2.length ≤ max (2 * ws.length) 1024) ∧ (∀ k, ws2.getD k 0 = ws.getD k 0) ∧ (ws.length ≤ ws2.length)
set_option maxRecDepth 65536 in
set_option maxHeartbeats 40000000 in
theorem rm12 (l : Launch) (Z : State) (a0 : Array Value) (hw : ∀ d ∈ tables_1, d.before a0 Z = true) (wsC : List Jvm.Cond) (a1 : Addr) (tw : Addr) (kw : ClassId) (ws : List Int64) (u : Nat) (st : Int32) (q : Nat) (h0 : Heap) (n0 : Nat) (Z0 : n0 ≤ h0.size) (E_a1 : Exa Z h0 a1 "java/util/BitSet") (g_a1 : n0 ≤ a1) (F_a1_words : Fld Z h0 a1 "java/util/BitSet" "words" "[J" (.ref tw)) (F_a1_wordsInUse : Fld Z h0 a1 "java/util/BitSet" "wordsInUse" "I" (.int (Int32.ofNat u))) (F_a1_sizeIsSticky : Fld Z h0 a1 "java/util/BitSet" "sizeIsSticky" "Z" (.int st)) (V_tw : Arv Z h0 tw kw .long (Int32.ofNat ws.length) (ws.map Value.long) (.long (0 : Int64))) (g_tw : n0 ≤ tw) (ne_a1_tw : a1 ≠ tw) (hinv : own_inv ws u) (hwl : ws.length ≤ 1024) (OLD : Old Z n0 h0) (O5 : Sta Z Z.heap "java/util/BitSet" "$assertionsDisabled" "Z" (.int (1 : Int32))) (hq : q ≤ 1024) :
    MetFree l (⟨"java/util/BitSet", "ensureCapacity", "(I)V"⟩ : MethodName) (head1 (Jvm.Cond.code (⟨"java/util/BitSet", "ensureCapacity", "(I)V"⟩ : MethodName) jdk_92_method_14_code 3 none :: wsC) ({ frames := 2, cells := 1, slots := 2048, locals := 33 } : Room)) (fun a U => a = #[(.ref a1), (.int (Int32.ofNat q))] ∧ Z.Warmed39 U.vm ∧ U.heap = h0) (fun _ _ _ _ _ => True) (fun _ U o U' => ∃ v L, o = .returned v ∧ Q12 Z a1 tw kw ws u st q h0 n0 v U'.heap L ∧ FrameEnd U o U' L ({ frames := 2, cells := 1, slots := 2048, locals := 33 } : Room).cells ({ frames := 2, cells := 1, slots := 2048, locals := 33 } : Room).slots) := by
  refine MetFree.of_bodySF (plainFor_of_name pn_0) hisR ?_
  intro p e s m args below meth c s₁ Bd hml0 hP hK
  obtain ⟨rfl, hZ, hh⟩ := hP
  have hx := Bd.exec
  have hby := Bd.bytes
  have hml : c.maxLocals = 3 := hml0
  have hown : s.vm.findClass "java/util/BitSet" = some m.cls := findClass_of_methodNamed Bd.named
  have hnm := (name_of_methodNamed Bd.named Bd.method).1
  have X0 : Stand p l e ({ frames := 2, cells := 1, slots := 2048, locals := 33 } : Room) s m #[(.ref a1), (.int (Int32.ofNat q))] below meth c s₁ [] 0 0 := Stand.of_body Bd
  have e0 : s₁.heap = h0 := by rw [← hh, Bd.state]; rfl
  have NF := Fr.nil n0
  have KP : Keep h0 h0 [a1, tw] := Keep.refl h0 _
  refine WP.go ?_
  refine WP.cast (ef_12 m a1 (Int32.ofNat q)) ?_
  refine WP.name ?_
  intro G hG
  refine WP.st (T' := s₁) (f' := (mkF m 1 #[.val (.ref a1), .val (.int (Int32.ofNat q)), .unset] [(.ref a1)])) (fun t k => ?_) ?_
  · refine XS.aloadN X0.here hx rfl (hb hby d12_0) rfl rfl ?_
    exact k
  obtain ⟨T26, X26, e26, st26⟩ := getF X0 hx hZ hown (host := "") (Or.inl (w_54 hw)) Via.refl e0 F_a1_words (g := (mkF m 1 #[.val (.ref a1), .val (.int (Int32.ofNat q)), .unset] [(.ref a1)])) rfl rfl (hb hby d12_1)
  refine WP.st st26 ?_
  clear st26
  show WP p.tables e below _ T26 (mkF m 4 #[.val (.ref a1), .val (.int (Int32.ofNat q)), .unset] [(.ref tw)])
  obtain ⟨cl27, Ar27, len27⟩ := V_tw.len
  refine WP.st (T' := T26) (f' := (mkF m 6 #[.val (.ref a1), .val (.int (Int32.ofNat q)), .unset] [(.int (Int32.ofNat q)), (.int (Int32.ofNat ws.length))])) (fun t k => ?_) ?_
  · refine X26.arraylength hx (by rw [e26]; exact Ar27.1) (State.isArrayOf_alike hZ.alike Ar27.2.1) (g := (mkF m 4 #[.val (.ref a1), .val (.int (Int32.ofNat q)), .unset] [(.ref tw)])) rfl rfl (hb hby d12_4) _ ?_
    rw [len27]
    refine XS.iloadN X26.here hx rfl (hb hby d12_5) rfl ?_
    exact k
  by_cases hc28 : (Int32.ofNat ws.length) < (Int32.ofNat q)
  · skip
    refine WP.st (T' := T26) (f' := (mkF m 11 #[.val (.ref a1), .val (.int (Int32.ofNat q)), .unset] [(.ref a1), (.int (2 : Int32))])) (fun t k => ?_) ?_
    · refine XS.icmpNo X26.here hx rfl (hb hby d12_6) rfl (tlt hc28).2.1 ?_
      refine XS.iconst X26.here hx rfl (hb hby d12_9) ?_
      refine XS.aloadN X26.here hx rfl (hb hby d12_10) rfl rfl ?_
      exact k
    obtain ⟨T29, X29, e29, st29⟩ := getF X26 hx hZ hown (host := "") (Or.inl (w_54 hw)) Via.refl e26 F_a1_words (g := (mkF m 11 #[.val (.ref a1), .val (.int (Int32.ofNat q)), .unset] [(.ref a1), (.int (2 : Int32))])) rfl rfl (hb hby d12_11)
    refine WP.st st29 ?_
    clear st29
    show WP p.tables e below _ T29 (mkF m 14 #[.val (.ref a1), .val (.int (Int32.ofNat q)), .unset] [(.ref tw), (.int (2 : Int32))])
    obtain ⟨cl30, Ar30, len30⟩ := V_tw.len
    refine WP.st (T' := T29) (f' := (mkF m 17 #[.val (.ref a1), .val (.int (Int32.ofNat q)), .unset] [(.int (Int32.ofNat q)), (.int ((2 : Int32) * (Int32.ofNat ws.length)))])) (fun t k => ?_) ?_
    · refine X29.arraylength hx (by rw [e29]; exact Ar30.1) (State.isArrayOf_alike hZ.alike Ar30.2.1) (g := (mkF m 14 #[.val (.ref a1), .val (.int (Int32.ofNat q)), .unset] [(.ref tw), (.int (2 : Int32))])) rfl rfl (hb hby d12_14) _ ?_
      rw [len30]
      refine XS.imul X29.here hx rfl (hb hby d12_15) rfl ?_
      refine XS.iloadN X29.here hx rfl (hb hby d12_16) rfl ?_
      exact k
    obtain ⟨_, _, ⟨T31, L31, k31, n31⟩, -, X31, ⟨Lc31, hQ31, l31, y31, z31⟩, st31⟩ := Jvm.LawKit.callS X29 hx (y := (⟨"java/lang/Math", "max", "(II)I"⟩ : MethodName)) hown (mvT hZ (w_84 hw)) (mvT hZ (w_85 hw)) (mvT hZ (w_86 hw)) (mvT hZ (w_87 hw)) (by decide) (backOf (W := 0) (rm15 l Z a0 hw [] ((2 : Int32) * (Int32.ofNat ws.length)) (Int32.ofNat q) h0 n0 Z0 ) hZ (w_87 hw) (w_86 hw) (by decide) (by decide)) (g := (mkF m 17 #[.val (.ref a1), .val (.int (Int32.ofNat q)), .unset] [(.int (Int32.ofNat q)), (.int ((2 : Int32) * (Int32.ofNat ws.length)))])) rfl (by rw [hml]; rfl) (argsL := [(.int ((2 : Int32) * (Int32.ofNat ws.length))), (.int (Int32.ofNat q))]) (rest := []) (lenOf pd_2 rfl) rfl (by show 2 * 0 + _ ≤ _; exact Nat.le_of_eq rfl) (hb hby d12_17) (fun _ _ => ⟨rfl, e29, (by decide : 0 + 0 ≤ _), (by decide : 0 + 0 ≤ _)⟩)
    dsimp only [Pt.U, Pt.locs, Pt.cells, Pt.slots] at X31 l31 y31 z31 st31 hQ31
    subst l31 y31 z31
    obtain ⟨rfl, Nq31, Kq31⟩ := hQ31
    replace NF := Fr.app NF Nq31
    clear Nq31
    refine WP.st st31 ?_
    clear st31
    replace Kq31 := Kq31.trans (rfl : h0 = h0)
    have hXN : ∃ LL, Stand p l e ({ frames := 2, cells := 1, slots := 2048, locals := 33 } : Room) s m #[(.ref a1), (.int (Int32.ofNat q))] below meth c T31 LL 0 0 ∧ Fr n0 LL := ⟨_, X31, NF⟩
    clear X31 NF
    obtain ⟨LL32, X31, NF⟩ := hXN
    show WP p.tables e below _ T31 (mkF m 20 #[.val (.ref a1), .val (.int (Int32.ofNat q)), .unset] [(.int (own_max ((2 : Int32) * (Int32.ofNat ws.length)) (Int32.ofNat q)))])
    rw [show (own_max ((2 : Int32) * (Int32.ofNat ws.length)) (Int32.ofNat q)) = (Int32.ofNat (max (2 * ws.length) q)) from own_maxn (by omega) (by omega)]
    show WP p.tables e below _ T31 (mkF m 20 #[.val (.ref a1), .val (.int (Int32.ofNat q)), .unset] [(.int (Int32.ofNat (max (2 * ws.length) q)))])
    refine WP.st (T' := T31) (f' := (mkF m 23 #[.val (.ref a1), .val (.int (Int32.ofNat q)), .val (.int (Int32.ofNat (max (2 * ws.length) q)))] [(.ref a1), (.ref a1)])) (fun t k => ?_) ?_
    · refine XS.istoreN X31.here hx rfl (hb hby d12_20) rfl (l' := #[.val (.ref a1), .val (.int (Int32.ofNat q)), .val (.int (Int32.ofNat (max (2 * ws.length) q)))]) rfl ?_
      refine XS.aloadN X31.here hx rfl (hb hby d12_21) rfl rfl ?_
      refine XS.aloadN X31.here hx rfl (hb hby d12_22) rfl rfl ?_
      exact k
    obtain ⟨T33, X33, e33, st33⟩ := getF X31 hx hZ hown (host := "") (Or.inl (w_54 hw)) Via.refl Kq31 F_a1_words (g := (mkF m 23 #[.val (.ref a1), .val (.int (Int32.ofNat q)), .val (.int (Int32.ofNat (max (2 * ws.length) q)))] [(.ref a1), (.ref a1)])) rfl rfl (hb hby d12_23)
    refine WP.st st33 ?_
    clear st33
    show WP p.tables e below _ T33 (mkF m 26 #[.val (.ref a1), .val (.int (Int32.ofNat q)), .val (.int (Int32.ofNat (max (2 * ws.length) q)))] [(.ref tw), (.ref a1)])
    refine WP.st (T' := T33) (f' := (mkF m 27 #[.val (.ref a1), .val (.int (Int32.ofNat q)), .val (.int (Int32.ofNat (max (2 * ws.length) q)))] [(.int (Int32.ofNat (max (2 * ws.length) q))), (.ref tw), (.ref a1)])) (fun t k => ?_) ?_
    · refine XS.iloadN X33.here hx rfl (hb hby d12_26) rfl ?_
      exact k
    obtain ⟨_, _, ⟨T34, L34, k34, n34⟩, -, X34, ⟨Lc34, hQ34, l34, y34, z34⟩, st34⟩ := Jvm.LawKit.callS X33 hx (y := (⟨"java/util/Arrays", "copyOf", "([JI)[J"⟩ : MethodName)) hown (mvT hZ (w_88 hw)) (mvT hZ (w_89 hw)) (mvT hZ (w_90 hw)) (mvT hZ (w_91 hw)) (by decide) (backOf (W := 1) (rm16 l Z a0 hw [] tw kw ws (max (2 * ws.length) q) h0 n0 Z0 V_tw (by have := (own_lt (by omega) (by omega)).1 hc28; omega : ws.length < (max (2 * ws.length) q)) (by omega : (max (2 * ws.length) q) ≤ 2048) OLD) hZ (w_91 hw) (w_90 hw) (by decide) (by decide)) (g := (mkF m 27 #[.val (.ref a1), .val (.int (Int32.ofNat q)), .val (.int (Int32.ofNat (max (2 * ws.length) q)))] [(.int (Int32.ofNat (max (2 * ws.length) q))), (.ref tw), (.ref a1)])) rfl (by rw [hml]; rfl) (argsL := [(.ref tw), (.int (Int32.ofNat (max (2 * ws.length) q)))]) (rest := [(.ref a1)]) (lenOf pd_3 rfl) rfl (by show 2 * 0 + _ ≤ _; exact Nat.le_of_eq rfl) (hb hby d12_27) (fun _ _ => ⟨rfl, e33, (by decide : 0 + 1 ≤ _), (by decide : 0 + 2048 ≤ _)⟩)
    dsimp only [Pt.U, Pt.locs, Pt.cells, Pt.slots] at X34 l34 y34 z34 st34 hQ34
    subst l34 y34 z34
    obtain ⟨r_34, kr_34, w2_34, rfl, Nq34, Kq34, szq_r_34, g_r_34, nA34_r_34, hl2_34, hg2_34⟩ := hQ34
    replace NF := Fr.app NF Nq34
    clear Nq34
    refine WP.st st34 ?_
    clear st34
    obtain ⟨h34, e34⟩ : ∃ h, T34.heap = h := ⟨_, rfl⟩
    rw [e34] at Kq34 nA34_r_34
    have ne_a1_r_34 : a1 ≠ r_34 := Nat.ne_of_lt (Nat.lt_of_lt_of_le E_a1.lt szq_r_34)
    have ne_tw_r_34 : tw ≠ r_34 := Nat.ne_of_lt (Nat.lt_of_lt_of_le V_tw.lt szq_r_34)
    have sz_r_34 : h0.size ≤ r_34 := Nat.le_trans KP.1 szq_r_34
    replace E_a1 := E_a1.keep Kq34
    replace F_a1_words := F_a1_words.keep Kq34 (by exact nin0)
    replace F_a1_wordsInUse := F_a1_wordsInUse.keep Kq34 (by exact nin0)
    replace F_a1_sizeIsSticky := F_a1_sizeIsSticky.keep Kq34 (by exact nin0)
    replace V_tw := V_tw.keep Kq34 (by exact nin0)
    replace OLD := OLD.keep Kq34 all0
    replace Z0 := Nat.le_trans Z0 Kq34.1
    replace KP := KP.trans Kq34 all0
    clear Kq34
    have V_r_34 := nA34_r_34
    clear nA34_r_34
    have hXN : ∃ LL, Stand p l e ({ frames := 2, cells := 1, slots := 2048, locals := 33 } : Room) s m #[(.ref a1), (.int (Int32.ofNat q))] below meth c T34 LL 1 2048 ∧ Fr n0 LL := ⟨_, X34, NF⟩
    clear X34 NF
    obtain ⟨LL35, X34, NF⟩ := hXN
    show WP p.tables e below _ T34 (mkF m 30 #[.val (.ref a1), .val (.int (Int32.ofNat q)), .val (.int (Int32.ofNat (max (2 * ws.length) q)))] [(.ref r_34), (.ref a1)])
    obtain ⟨T36, h36, X36, e36, W36, st36⟩ := putF X34 hx hZ hown (host := "") (Or.inl (w_54 hw)) Via.refl e34 F_a1_words E_a1 (Or.inl (w_55 hw)) (w_35 hw) (ty := (.array .long)) (by decide) rfl rfl (g := (mkF m 30 #[.val (.ref a1), .val (.int (Int32.ofNat q)), .val (.int (Int32.ofNat (max (2 * ws.length) q)))] [(.ref r_34), (.ref a1)])) rfl rfl (hb hby d12_30)
    refine WP.st st36 ?_
    clear st36
    replace E_a1 := E_a1.wr W36
    replace F_a1_words := F_a1_words.same W36
    replace F_a1_wordsInUse := F_a1_wordsInUse.other W36 (Or.inr (sn_0 hw))
    replace F_a1_sizeIsSticky := F_a1_sizeIsSticky.other W36 (Or.inr (sn_1 hw))
    replace V_tw := V_tw.other W36 (Ne.symm ne_a1_tw)
    replace OLD := OLD.wr W36 g_a1
    replace V_r_34 := V_r_34.other W36 (Ne.symm ne_a1_r_34)
    replace Z0 := Nat.le_trans Z0 (Keep.of_wr W36).1
    replace KP := KP.wr W36 (Or.inl (List.mem_of_getElem? (i := 0) rfl))
    replace NF := Fr.snoc X36 NF g_a1
    clear W36
    have hXN : ∃ LL, Stand p l e ({ frames := 2, cells := 1, slots := 2048, locals := 33 } : Room) s m #[(.ref a1), (.int (Int32.ofNat q))] below meth c T36 LL 1 2048 ∧ Fr n0 LL := ⟨_, X36, NF⟩
    clear X36 NF
    obtain ⟨LL37, X36, NF⟩ := hXN
    show WP p.tables e below _ T36 (mkF m 33 #[.val (.ref a1), .val (.int (Int32.ofNat q)), .val (.int (Int32.ofNat (max (2 * ws.length) q)))] [])
    refine WP.st (T' := T36) (f' := (mkF m 35 #[.val (.ref a1), .val (.int (Int32.ofNat q)), .val (.int (Int32.ofNat (max (2 * ws.length) q)))] [(.int (0 : Int32)), (.ref a1)])) (fun t k => ?_) ?_
    · refine XS.aloadN X36.here hx rfl (hb hby d12_33) rfl rfl ?_
      refine XS.iconst X36.here hx rfl (hb hby d12_34) ?_
      exact k
    obtain ⟨T38, h38, X38, e38, W38, st38⟩ := putFN X36 hx hZ hown (w_43 hw) Via.refl e36 F_a1_sizeIsSticky E_a1 (Or.inl (w_44 hw)) (w_35 hw) (ty := .boolean) (v := (.int (0 : Int32))) (v' := (.int (0 : Int32))) (by decide) rfl (by decide) (g := (mkF m 35 #[.val (.ref a1), .val (.int (Int32.ofNat q)), .val (.int (Int32.ofNat (max (2 * ws.length) q)))] [(.int (0 : Int32)), (.ref a1)])) rfl rfl (hb hby d12_35)
    refine WP.st st38 ?_
    clear st38
    replace E_a1 := E_a1.wr W38
    replace F_a1_words := F_a1_words.other W38 (Or.inr (sn_4 hw))
    replace F_a1_wordsInUse := F_a1_wordsInUse.other W38 (Or.inr (sn_5 hw))
    replace F_a1_sizeIsSticky := F_a1_sizeIsSticky.same W38
    replace V_tw := V_tw.other W38 (Ne.symm ne_a1_tw)
    replace OLD := OLD.wr W38 g_a1
    replace V_r_34 := V_r_34.other W38 (Ne.symm ne_a1_r_34)
    replace Z0 := Nat.le_trans Z0 (Keep.of_wr W38).1
    replace KP := KP.wr W38 (Or.inl (List.mem_of_getElem? (i := 0) rfl))
    replace NF := Fr.snoc X38 NF g_a1
    clear W38
    have hXN : ∃ LL, Stand p l e ({ frames := 2, cells := 1, slots := 2048, locals := 33 } : Room) s m #[(.ref a1), (.int (Int32.ofNat q))] below meth c T38 LL 1 2048 ∧ Fr n0 LL := ⟨_, X38, NF⟩
    clear X38 NF
    obtain ⟨LL39, X38, NF⟩ := hXN
    show WP p.tables e below _ T38 (mkF m 38 #[.val (.ref a1), .val (.int (Int32.ofNat q)), .val (.int (Int32.ofNat (max (2 * ws.length) q)))] [])
    subst hG
    obtain ⟨fs, hr, hrun, hended, hW, hsame⟩ := X38.leave (v := none) (fun _ => rfl)
    refine WP.fin ⟨_, _, ?_, hrun, hended, _, _, rfl, ?_, ⟨_, rfl⟩, hW, hsame.mono (by decide) (by decide)⟩
    · exact X38.returnOut hx Bd.returns (hb hby d12_38) hr
    · show Q12 Z a1 tw kw ws u st q h0 n0 _ T38.heap _
      rw [e38]
      exact ⟨r_34, kr_34, w2_34, (0 : Int32), rfl, NF, KP, F_a1_words, F_a1_wordsInUse, F_a1_sizeIsSticky, V_r_34, g_r_34, ne_a1_r_34, (Or.inr sz_r_34), (by have := hl2_34; omega), (by have := hl2_34; omega), hg2_34, (by have := hl2_34; have := (own_lt (by omega) (by omega)).1 hc28; omega)⟩
  · skip
    refine WP.st (T' := T26) (f' := (mkF m 38 #[.val (.ref a1), .val (.int (Int32.ofNat q)), .unset] [])) (fun t k => ?_) ?_
    · refine XS.icmpYes X26.here hx rfl (pc0 := 6) (pc' := 38) rfl (hb hby d12_6) rfl (flt hc28).2.1 (by decide) (by decide) ?_
      exact k
    subst hG
    obtain ⟨fs, hr, hrun, hended, hW, hsame⟩ := X26.leave (v := none) (fun _ => rfl)
    refine WP.fin ⟨_, _, ?_, hrun, hended, _, _, rfl, ?_, ⟨_, rfl⟩, hW, hsame.mono (by decide) (by decide)⟩
    · exact X26.returnOut hx Bd.returns (hb hby d12_38) hr
    · show Q12 Z a1 tw kw ws u st q h0 n0 _ T26.heap _
      rw [e26]
      exact ⟨tw, kw, ws, st, rfl, NF, KP, F_a1_words, F_a1_wordsInUse, F_a1_sizeIsSticky, V_tw, g_tw, ne_a1_tw, (Or.inl rfl), (by have : ¬ (ws.length < q) := fun z => hc28 ((own_lt (a := ws.length) (b := q) (by omega) (by omega)).2 z); omega), (by omega), (fun _ => rfl), (Nat.le_refl _)⟩
theorem ef_11 (m : MethodId) (z0 : Addr) (z1 : Int32) : entryFrame m #[(.ref z0), (.int z1)] 3 = mkF m 0 #[.val (.ref z0), .val (.int z1), .unset] [] := by
  all_goals first | (simp [entryFrame, mkF, argsToLocals, Value.category]; done) | rfl
theorem d11_0 : decode jdk_92_method_15_code 0 = .ok (.iload_n 1, 1) := by decide +kernel
theorem d11_1 : decode jdk_92_method_15_code 1 = .ok (.iconst 1, 1) := by decide +kernel
theorem d11_2 : decode jdk_92_method_15_code 2 = .ok (.iadd, 1) := by decide +kernel
theorem d11_3 : decode jdk_92_method_15_code 3 = .ok (.istore_n 2, 1) := by decide +kernel
theorem d11_4 : decode jdk_92_method_15_code 4 = .ok (.aload_n 0, 1) := by decide +kernel
theorem d11_5 : decode jdk_92_method_15_code 5 = .ok (.getfield 7, 3) := by decide +kernel
theorem d11_8 : decode jdk_92_method_15_code 8 = .ok (.iload_n 2, 1) := by decide +kernel
theorem d11_9 : decode jdk_92_method_15_code 9 = .ok (.if_icmp .ge 13, 3) := by decide +kernel
theorem d11_12 : decode jdk_92_method_15_code 12 = .ok (.aload_n 0, 1) := by decide +kernel
theorem d11_13 : decode jdk_92_method_15_code 13 = .ok (.iload_n 2, 1) := by decide +kernel
theorem w_66 {a0 : Array Value} {Z : State} (hw : ∀ d ∈ tables_1, d.before a0 Z = true) : (Jvm.Cond.methodLink "java/util/BitSet" (139 : Nat) ({ cls := "java/util/BitSet", name := "ensureCapacity", desc := "(I)V" } : Jvm.MethodName)).before a0 Z = true := hw _ (List.mem_of_getElem? (i := 66) rfl)
theorem d11_14 : decode jdk_92_method_15_code 14 = .ok (.invokevirtual 139, 3) := by decide +kernel
theorem w_70 {a0 : Array Value} {Z : State} (hw : ∀ d ∈ tables_1, d.before a0 Z = true) : (Jvm.Cond.code ({ cls := "java/util/BitSet", name := "ensureCapacity", desc := "(I)V" } : Jvm.MethodName) jdk_92_method_14_code (3 : Nat) (Option.none : Option Jvm.ClassFile.FieldType)).before a0 Z = true := hw _ (List.mem_of_getElem? (i := 70) rfl)
theorem w_68 {a0 : Array Value} {Z : State} (hw : ∀ d ∈ tables_1, d.before a0 Z = true) : (Jvm.Cond.privateMethod ({ cls := "java/util/BitSet", name := "ensureCapacity", desc := "(I)V" } : Jvm.MethodName)).before a0 Z = true := hw _ (List.mem_of_getElem? (i := 68) rfl)
theorem w_69 {a0 : Array Value} {Z : State} (hw : ∀ d ∈ tables_1, d.before a0 Z = true) : (Jvm.Cond.selects "java/util/BitSet" ({ cls := "java/util/BitSet", name := "ensureCapacity", desc := "(I)V" } : Jvm.MethodName) ({ cls := "java/util/BitSet", name := "ensureCapacity", desc := "(I)V" } : Jvm.MethodName)).before a0 Z = true := hw _ (List.mem_of_getElem? (i := 69) rfl)
theorem w_67 {a0 : Array Value} {Z : State} (hw : ∀ d ∈ tables_1, d.before a0 Z = true) : (Jvm.Cond.instanceMethod ({ cls := "java/util/BitSet", name := "ensureCapacity", desc := "(I)V" } : Jvm.MethodName)).before a0 Z = true := hw _ (List.mem_of_getElem? (i := 67) rfl)
theorem d11_17 : decode jdk_92_method_15_code 17 = .ok (.aload_n 0, 1) := by decide +kernel
theorem d11_18 : decode jdk_92_method_15_code 18 = .ok (.iload_n 2, 1) := by decide +kernel
theorem d11_19 : decode jdk_92_method_15_code 19 = .ok (.putfield 7, 3) := by decide +kernel
theorem d11_22 : decode jdk_92_method_15_code 22 = .ok (.return_, 1) := by decide +kernel
def Q11 (Z : State) (a1 : Addr) (tw : Addr) (kw : ClassId) (ws : List Int64) (u : Nat) (st : Int32) (j : Nat) (h0 : Heap) (n0 : Nat) (v : Option Value) (h : Heap) (L : List Loc) : Prop := ∃ tw2 : Addr, ∃ kw2 : ClassId, ∃ ws2 : List Int64, ∃ st2 : Int32, ∃ u2 : Nat, v = none ∧ Fr n0 L ∧ Keep h0 h [a1, tw] ∧ Fld Z h a1 "java/util/BitSet" "words" "[J" (.ref tw2) ∧ Fld Z h a1 "java/util/BitSet" "wordsInUse" "I" (.int (Int32.ofNat u2)) ∧ Fld Z h a1 "java/util/BitSet" "sizeIsSticky" "Z" (.int st2) ∧ (Arv Z h tw2 kw2 .long (Int32.ofNat ws2.length) (ws2.map Value.long) (.long (0 : Int64))) ∧ n0 ≤ tw2 ∧ a1 ≠ tw2 ∧ (tw2 = tw ∨ h0.size ≤ tw2) ∧ (own_inv ws2 u2) ∧ (j < u2) ∧ (ws2.length ≤ max (2 * ws.length) 1024) ∧ (∀ k, ws2.getD k 0 = ws.getD k 0)
set_option maxRecDepth 65536 in
set_option maxHeartbeats 40000000 in
theorem rm11 (l : Launch) (Z : State) (a0 : Array Value) (hw : ∀ d ∈ tables_1, d.before a0 Z = true) (wsC : List Jvm.Cond) (a1 : Addr) (tw : Addr) (kw : ClassId) (ws : List Int64) (u : Nat) (st : Int32) (j : Nat) (h0 : Heap) (n0 : Nat) (Z0 : n0 ≤ h0.size) (E_a1 : Exa Z h0 a1 "java/util/BitSet") (g_a1 : n0 ≤ a1) (F_a1_words : Fld Z h0 a1 "java/util/BitSet" "words" "[J" (.ref tw)) (F_a1_wordsInUse : Fld Z h0 a1 "java/util/BitSet" "wordsInUse" "I" (.int (Int32.ofNat u))) (F_a1_sizeIsSticky : Fld Z h0 a1 "java/util/BitSet" "sizeIsSticky" "Z" (.int st)) (V_tw : Arv Z h0 tw kw .long (Int32.ofNat ws.length) (ws.map Value.long) (.long (0 : Int64))) (g_tw : n0 ≤ tw) (ne_a1_tw : a1 ≠ tw) (hinv : own_inv ws u) (hwl : ws.length ≤ 1024) (OLD : Old Z n0 h0) (O5 : Sta Z Z.heap "java/util/BitSet" "$assertionsDisabled" "Z" (.int (1 : Int32))) (hj : j ≤ 1023) :
    MetFree l (⟨"java/util/BitSet", "expandTo", "(I)V"⟩ : MethodName) (head1 (Jvm.Cond.code (⟨"java/util/BitSet", "expandTo", "(I)V"⟩ : MethodName) jdk_92_method_15_code 3 none :: wsC) ({ frames := 3, cells := 1, slots := 2048, locals := 47 } : Room)) (fun a U => a = #[(.ref a1), (.int (Int32.ofNat j))] ∧ Z.Warmed39 U.vm ∧ U.heap = h0) (fun _ _ _ _ _ => True) (fun _ U o U' => ∃ v L, o = .returned v ∧ Q11 Z a1 tw kw ws u st j h0 n0 v U'.heap L ∧ FrameEnd U o U' L ({ frames := 3, cells := 1, slots := 2048, locals := 47 } : Room).cells ({ frames := 3, cells := 1, slots := 2048, locals := 47 } : Room).slots) := by
  refine MetFree.of_bodySF (plainFor_of_name pn_0) hisR ?_
  intro p e s m args below meth c s₁ Bd hml0 hP hK
  obtain ⟨rfl, hZ, hh⟩ := hP
  have hx := Bd.exec
  have hby := Bd.bytes
  have hml : c.maxLocals = 3 := hml0
  have hown : s.vm.findClass "java/util/BitSet" = some m.cls := findClass_of_methodNamed Bd.named
  have hnm := (name_of_methodNamed Bd.named Bd.method).1
  have X0 : Stand p l e ({ frames := 3, cells := 1, slots := 2048, locals := 47 } : Room) s m #[(.ref a1), (.int (Int32.ofNat j))] below meth c s₁ [] 0 0 := Stand.of_body Bd
  have e0 : s₁.heap = h0 := by rw [← hh, Bd.state]; rfl
  have NF := Fr.nil n0
  have KP : Keep h0 h0 [a1, tw] := Keep.refl h0 _
  refine WP.go ?_
  refine WP.cast (ef_11 m a1 (Int32.ofNat j)) ?_
  refine WP.name ?_
  intro G hG
  refine WP.st (T' := s₁) (f' := (mkF m 3 #[.val (.ref a1), .val (.int (Int32.ofNat j)), .unset] [(.int ((Int32.ofNat j) + (1 : Int32)))])) (fun t k => ?_) ?_
  · refine XS.iloadN X0.here hx rfl (hb hby d11_0) rfl ?_
    refine XS.iconst X0.here hx rfl (hb hby d11_1) ?_
    refine XS.iadd X0.here hx rfl (hb hby d11_2) rfl ?_
    exact k
  rw [show ((Int32.ofNat j) + (1 : Int32)) = (Int32.ofNat (j + 1)) from own_add j 1]
  show WP p.tables e below _ s₁ (mkF m 3 #[.val (.ref a1), .val (.int (Int32.ofNat j)), .unset] [(.int (Int32.ofNat (j + 1)))])
  refine WP.st (T' := s₁) (f' := (mkF m 5 #[.val (.ref a1), .val (.int (Int32.ofNat j)), .val (.int (Int32.ofNat (j + 1)))] [(.ref a1)])) (fun t k => ?_) ?_
  · refine XS.istoreN X0.here hx rfl (hb hby d11_3) rfl (l' := #[.val (.ref a1), .val (.int (Int32.ofNat j)), .val (.int (Int32.ofNat (j + 1)))]) rfl ?_
    refine XS.aloadN X0.here hx rfl (hb hby d11_4) rfl rfl ?_
    exact k
  obtain ⟨T40, X40, e40, st40⟩ := getF X0 hx hZ hown (host := "") (Or.inl (w_41 hw)) Via.refl e0 F_a1_wordsInUse (g := (mkF m 5 #[.val (.ref a1), .val (.int (Int32.ofNat j)), .val (.int (Int32.ofNat (j + 1)))] [(.ref a1)])) rfl rfl (hb hby d11_5)
  refine WP.st st40 ?_
  clear st40
  show WP p.tables e below _ T40 (mkF m 8 #[.val (.ref a1), .val (.int (Int32.ofNat j)), .val (.int (Int32.ofNat (j + 1)))] [(.int (Int32.ofNat u))])
  refine WP.st (T' := T40) (f' := (mkF m 9 #[.val (.ref a1), .val (.int (Int32.ofNat j)), .val (.int (Int32.ofNat (j + 1)))] [(.int (Int32.ofNat (j + 1))), (.int (Int32.ofNat u))])) (fun t k => ?_) ?_
  · refine XS.iloadN X40.here hx rfl (hb hby d11_8) rfl ?_
    exact k
  by_cases hc41 : (Int32.ofNat u) < (Int32.ofNat (j + 1))
  · skip
    refine WP.st (T' := T40) (f' := (mkF m 14 #[.val (.ref a1), .val (.int (Int32.ofNat j)), .val (.int (Int32.ofNat (j + 1)))] [(.int (Int32.ofNat (j + 1))), (.ref a1)])) (fun t k => ?_) ?_
    · refine XS.icmpNo X40.here hx rfl (hb hby d11_9) rfl (tlt hc41).2.1 ?_
      refine XS.aloadN X40.here hx rfl (hb hby d11_12) rfl rfl ?_
      refine XS.iloadN X40.here hx rfl (hb hby d11_13) rfl ?_
      exact k
    obtain ⟨cq42, q42, q42'⟩ := E_a1.cell
    obtain ⟨_, _, ⟨T42, L42, k42, n42⟩, -, X42, ⟨Lc42, hQ42, l42, y42, z42⟩, st42⟩ := X40.privateBack hx (y := (⟨"java/util/BitSet", "ensureCapacity", "(I)V"⟩ : MethodName)) hown (mvT hZ (w_66 hw)) (mvT hZ (w_67 hw)) (mvT hZ (w_69 hw)) (Cond.privateMethod_at (mvP hZ (w_68 hw) (args := #[]))) (mvT hZ (w_70 hw)) (by decide) (backOf (W := 0) (rm12 l Z a0 hw [] a1 tw kw ws u st (j + 1) h0 n0 Z0 E_a1 g_a1 F_a1_words F_a1_wordsInUse F_a1_sizeIsSticky V_tw g_tw ne_a1_tw (hinv : own_inv ws u) (hwl : ws.length ≤ 1024) OLD (O5 : Sta Z Z.heap "java/util/BitSet" "$assertionsDisabled" "Z" (.int (1 : Int32))) (by omega : (j + 1) ≤ 1024)) hZ (w_70 hw) (w_36 hw) (by decide) (by decide)) (g := (mkF m 14 #[.val (.ref a1), .val (.int (Int32.ofNat j)), .val (.int (Int32.ofNat (j + 1)))] [(.int (Int32.ofNat (j + 1))), (.ref a1)])) rfl (by rw [hml]; rfl) (Steps.refl _) (a := a1) (by rw [e40]; exact q42) q42' (argsL := [(.int (Int32.ofNat (j + 1)))]) (rest := []) (lenOf pd_1 rfl) rfl (by show 2 * 0 + _ ≤ _; exact Nat.le_of_eq rfl) (hb hby d11_14) (fun _ _ => ⟨rfl, e40, (by decide : 0 + 1 ≤ _), (by decide : 0 + 2048 ≤ _)⟩)
    dsimp only [Pt.U, Pt.locs, Pt.cells, Pt.slots] at X42 l42 y42 z42 st42 hQ42
    subst l42 y42 z42
    obtain ⟨tw2_42, kw2_42, ws2_42, st2_42, rfl, Nq42, Kq42, nF42_a1_words, nF42_a1_wordsInUse, nF42_a1_sizeIsSticky, nA42_tw2_42, g_tw2_42, ne_a1_tw2_42, or_tw2_42, hq2_42, hb2_42, hg2_42, hle2_42⟩ := hQ42
    replace NF := Fr.app NF Nq42
    clear Nq42
    refine WP.tr st42 ?_
    clear st42
    obtain ⟨h42, e42⟩ : ∃ h, T42.heap = h := ⟨_, rfl⟩
    rw [e42] at Kq42 nF42_a1_words nF42_a1_wordsInUse nF42_a1_sizeIsSticky nA42_tw2_42
    have old_tw2_42 : tw2_42 ∈ [a1, tw] ∨ h0.size ≤ tw2_42 := or_tw2_42.elim (fun q => q ▸ (Or.inl (List.mem_of_getElem? (i := 1) rfl))) (fun q => Or.inr (Nat.le_trans KP.1 q))
    replace E_a1 := E_a1.keep Kq42
    clear F_a1_words
    clear F_a1_wordsInUse
    clear F_a1_sizeIsSticky
    clear V_tw
    replace OLD := OLD.keep Kq42 (allS g_a1 (allS g_tw all0))
    replace Z0 := Nat.le_trans Z0 Kq42.1
    replace KP := KP.trans Kq42 (allS (Or.inl (List.mem_of_getElem? (i := 0) rfl)) (allS (Or.inl (List.mem_of_getElem? (i := 1) rfl)) all0))
    clear Kq42
    have F_a1_words := nF42_a1_words
    clear nF42_a1_words
    have F_a1_wordsInUse := nF42_a1_wordsInUse
    clear nF42_a1_wordsInUse
    have F_a1_sizeIsSticky := nF42_a1_sizeIsSticky
    clear nF42_a1_sizeIsSticky
    have V_tw2_42 := nA42_tw2_42
    clear nA42_tw2_42
    have hXN : ∃ LL, Stand p l e ({ frames := 3, cells := 1, slots := 2048, locals := 47 } : Room) s m #[(.ref a1), (.int (Int32.ofNat j))] below meth c T42 LL 1 2048 ∧ Fr n0 LL := ⟨_, X42, NF⟩
    clear X42 NF
    obtain ⟨LL43, X42, NF⟩ := hXN
    show WP p.tables e below _ T42 (mkF m 17 #[.val (.ref a1), .val (.int (Int32.ofNat j)), .val (.int (Int32.ofNat (j + 1)))] [])
    refine WP.st (T' := T42) (f' := (mkF m 19 #[.val (.ref a1), .val (.int (Int32.ofNat j)), .val (.int (Int32.ofNat (j + 1)))] [(.int (Int32.ofNat (j + 1))), (.ref a1)])) (fun t k => ?_) ?_
    · refine XS.aloadN X42.here hx rfl (hb hby d11_17) rfl rfl ?_
      refine XS.iloadN X42.here hx rfl (hb hby d11_18) rfl ?_
      exact k
    obtain ⟨T44, h44, X44, e44, W44, st44⟩ := putF X42 hx hZ hown (host := "") (Or.inl (w_41 hw)) Via.refl e42 F_a1_wordsInUse E_a1 (Or.inl (w_42 hw)) (w_35 hw) (ty := .int) (by decide) rfl rfl (g := (mkF m 19 #[.val (.ref a1), .val (.int (Int32.ofNat j)), .val (.int (Int32.ofNat (j + 1)))] [(.int (Int32.ofNat (j + 1))), (.ref a1)])) rfl rfl (hb hby d11_19)
    refine WP.st st44 ?_
    clear st44
    replace E_a1 := E_a1.wr W44
    replace OLD := OLD.wr W44 g_a1
    replace F_a1_words := F_a1_words.other W44 (Or.inr (sn_2 hw))
    replace F_a1_wordsInUse := F_a1_wordsInUse.same W44
    replace F_a1_sizeIsSticky := F_a1_sizeIsSticky.other W44 (Or.inr (sn_3 hw))
    replace V_tw2_42 := V_tw2_42.other W44 (Ne.symm ne_a1_tw2_42)
    replace Z0 := Nat.le_trans Z0 (Keep.of_wr W44).1
    replace KP := KP.wr W44 (Or.inl (List.mem_of_getElem? (i := 0) rfl))
    replace NF := Fr.snoc X44 NF g_a1
    clear W44
    have hXN : ∃ LL, Stand p l e ({ frames := 3, cells := 1, slots := 2048, locals := 47 } : Room) s m #[(.ref a1), (.int (Int32.ofNat j))] below meth c T44 LL 1 2048 ∧ Fr n0 LL := ⟨_, X44, NF⟩
    clear X44 NF
    obtain ⟨LL45, X44, NF⟩ := hXN
    show WP p.tables e below _ T44 (mkF m 22 #[.val (.ref a1), .val (.int (Int32.ofNat j)), .val (.int (Int32.ofNat (j + 1)))] [])
    subst hG
    obtain ⟨fs, hr, hrun, hended, hW, hsame⟩ := X44.leave (v := none) (fun _ => rfl)
    refine WP.fin ⟨_, _, ?_, hrun, hended, _, _, rfl, ?_, ⟨_, rfl⟩, hW, hsame.mono (by decide) (by decide)⟩
    · exact X44.returnOut hx Bd.returns (hb hby d11_22) hr
    · show Q11 Z a1 tw kw ws u st j h0 n0 _ T44.heap _
      rw [e44]
      exact ⟨tw2_42, kw2_42, ws2_42, st2_42, (j + 1), rfl, NF, KP, F_a1_words, F_a1_wordsInUse, F_a1_sizeIsSticky, V_tw2_42, g_tw2_42, ne_a1_tw2_42, or_tw2_42, (own_inv_ext hinv hg2_42 (by have := (own_lt (by have := hinv.1; omega) (by omega)).1 hc41; omega) hq2_42), (Nat.lt_succ_self _), hb2_42, hg2_42⟩
  · skip
    refine WP.st (T' := T40) (f' := (mkF m 22 #[.val (.ref a1), .val (.int (Int32.ofNat j)), .val (.int (Int32.ofNat (j + 1)))] [])) (fun t k => ?_) ?_
    · refine XS.icmpYes X40.here hx rfl (pc0 := 9) (pc' := 22) rfl (hb hby d11_9) rfl (flt hc41).2.1 (by decide) (by decide) ?_
      exact k
    subst hG
    obtain ⟨fs, hr, hrun, hended, hW, hsame⟩ := X40.leave (v := none) (fun _ => rfl)
    refine WP.fin ⟨_, _, ?_, hrun, hended, _, _, rfl, ?_, ⟨_, rfl⟩, hW, hsame.mono (by decide) (by decide)⟩
    · exact X40.returnOut hx Bd.returns (hb hby d11_22) hr
    · show Q11 Z a1 tw kw ws u st j h0 n0 _ T40.heap _
      rw [e40]
      exact ⟨tw, kw, ws, st, u, rfl, NF, KP, F_a1_words, F_a1_wordsInUse, F_a1_sizeIsSticky, V_tw, g_tw, ne_a1_tw, (Or.inl rfl), hinv, (by have : ¬ (u < j + 1) := fun z => hc41 ((own_lt (a := u) (b := j + 1) (by have := hinv.1; omega) (by omega)).2 z); omega), (by omega), (fun _ => rfl)⟩
theorem ef_10 (m : MethodId) (z0 : Addr) (z1 : Int32) : entryFrame m #[(.ref z0), (.int z1)] 3 = mkF m 0 #[.val (.ref z0), .val (.int z1), .unset] [] := by
  all_goals first | (simp [entryFrame, mkF, argsToLocals, Value.category]; done) | rfl
theorem d10_0 : decode jdk_92_method_19_code 0 = .ok (.iload_n 1, 1) := by decide +kernel
theorem d10_1 : decode jdk_92_method_19_code 1 = .ok (.ifCond .ge 30, 3) := by decide +kernel
theorem d10_31 : decode jdk_92_method_19_code 31 = .ok (.iload_n 1, 1) := by decide +kernel
theorem d10_32 : decode jdk_92_method_19_code 32 = .ok (.invokestatic 52, 3) := by decide +kernel
theorem d10_35 : decode jdk_92_method_19_code 35 = .ok (.istore_n 2, 1) := by decide +kernel
theorem d10_36 : decode jdk_92_method_19_code 36 = .ok (.aload_n 0, 1) := by decide +kernel
theorem d10_37 : decode jdk_92_method_19_code 37 = .ok (.iload_n 2, 1) := by decide +kernel
theorem w_61 {a0 : Array Value} {Z : State} (hw : ∀ d ∈ tables_1, d.before a0 Z = true) : (Jvm.Cond.methodLink "java/util/BitSet" (155 : Nat) ({ cls := "java/util/BitSet", name := "expandTo", desc := "(I)V" } : Jvm.MethodName)).before a0 Z = true := hw _ (List.mem_of_getElem? (i := 61) rfl)
theorem d10_38 : decode jdk_92_method_19_code 38 = .ok (.invokevirtual 155, 3) := by decide +kernel
theorem w_65 {a0 : Array Value} {Z : State} (hw : ∀ d ∈ tables_1, d.before a0 Z = true) : (Jvm.Cond.code ({ cls := "java/util/BitSet", name := "expandTo", desc := "(I)V" } : Jvm.MethodName) jdk_92_method_15_code (3 : Nat) (Option.none : Option Jvm.ClassFile.FieldType)).before a0 Z = true := hw _ (List.mem_of_getElem? (i := 65) rfl)
theorem w_63 {a0 : Array Value} {Z : State} (hw : ∀ d ∈ tables_1, d.before a0 Z = true) : (Jvm.Cond.privateMethod ({ cls := "java/util/BitSet", name := "expandTo", desc := "(I)V" } : Jvm.MethodName)).before a0 Z = true := hw _ (List.mem_of_getElem? (i := 63) rfl)
theorem w_64 {a0 : Array Value} {Z : State} (hw : ∀ d ∈ tables_1, d.before a0 Z = true) : (Jvm.Cond.selects "java/util/BitSet" ({ cls := "java/util/BitSet", name := "expandTo", desc := "(I)V" } : Jvm.MethodName) ({ cls := "java/util/BitSet", name := "expandTo", desc := "(I)V" } : Jvm.MethodName)).before a0 Z = true := hw _ (List.mem_of_getElem? (i := 64) rfl)
theorem w_62 {a0 : Array Value} {Z : State} (hw : ∀ d ∈ tables_1, d.before a0 Z = true) : (Jvm.Cond.instanceMethod ({ cls := "java/util/BitSet", name := "expandTo", desc := "(I)V" } : Jvm.MethodName)).before a0 Z = true := hw _ (List.mem_of_getElem? (i := 62) rfl)
theorem d10_41 : decode jdk_92_method_19_code 41 = .ok (.aload_n 0, 1) := by decide +kernel
theorem d10_42 : decode jdk_92_method_19_code 42 = .ok (.getfield 11, 3) := by decide +kernel
theorem d10_45 : decode jdk_92_method_19_code 45 = .ok (.iload_n 2, 1) := by decide +kernel
theorem d10_46 : decode jdk_92_method_19_code 46 = .ok (.dup2, 1) := by decide +kernel
theorem d10_47 : decode jdk_92_method_19_code 47 = .ok (.laload, 1) := by decide +kernel
theorem d10_48 : decode jdk_92_method_19_code 48 = .ok (.lconst 1, 1) := by decide +kernel
theorem d10_49 : decode jdk_92_method_19_code 49 = .ok (.iload_n 1, 1) := by decide +kernel
theorem d10_50 : decode jdk_92_method_19_code 50 = .ok (.lshl, 1) := by decide +kernel
theorem d10_51 : decode jdk_92_method_19_code 51 = .ok (.lor, 1) := by decide +kernel
theorem d10_52 : decode jdk_92_method_19_code 52 = .ok (.lastore, 1) := by decide +kernel
theorem d10_53 : decode jdk_92_method_19_code 53 = .ok (.aload_n 0, 1) := by decide +kernel
theorem w_71 {a0 : Array Value} {Z : State} (hw : ∀ d ∈ tables_1, d.before a0 Z = true) : (Jvm.Cond.methodLink "java/util/BitSet" (56 : Nat) ({ cls := "java/util/BitSet", name := "checkInvariants", desc := "()V" } : Jvm.MethodName)).before a0 Z = true := hw _ (List.mem_of_getElem? (i := 71) rfl)
theorem d10_54 : decode jdk_92_method_19_code 54 = .ok (.invokevirtual 56, 3) := by decide +kernel
theorem w_75 {a0 : Array Value} {Z : State} (hw : ∀ d ∈ tables_1, d.before a0 Z = true) : (Jvm.Cond.code ({ cls := "java/util/BitSet", name := "checkInvariants", desc := "()V" } : Jvm.MethodName) jdk_92_method_2_code (1 : Nat) (Option.none : Option Jvm.ClassFile.FieldType)).before a0 Z = true := hw _ (List.mem_of_getElem? (i := 75) rfl)
theorem pd_4 : parseMethodDescriptor "()V" = some ⟨[], none⟩ := by decide +kernel
theorem w_73 {a0 : Array Value} {Z : State} (hw : ∀ d ∈ tables_1, d.before a0 Z = true) : (Jvm.Cond.privateMethod ({ cls := "java/util/BitSet", name := "checkInvariants", desc := "()V" } : Jvm.MethodName)).before a0 Z = true := hw _ (List.mem_of_getElem? (i := 73) rfl)
theorem w_74 {a0 : Array Value} {Z : State} (hw : ∀ d ∈ tables_1, d.before a0 Z = true) : (Jvm.Cond.selects "java/util/BitSet" ({ cls := "java/util/BitSet", name := "checkInvariants", desc := "()V" } : Jvm.MethodName) ({ cls := "java/util/BitSet", name := "checkInvariants", desc := "()V" } : Jvm.MethodName)).before a0 Z = true := hw _ (List.mem_of_getElem? (i := 74) rfl)
theorem w_72 {a0 : Array Value} {Z : State} (hw : ∀ d ∈ tables_1, d.before a0 Z = true) : (Jvm.Cond.instanceMethod ({ cls := "java/util/BitSet", name := "checkInvariants", desc := "()V" } : Jvm.MethodName)).before a0 Z = true := hw _ (List.mem_of_getElem? (i := 72) rfl)
theorem d10_57 : decode jdk_92_method_19_code 57 = .ok (.return_, 1) := by decide +kernel
def Q10 (Z : State) (a1 : Addr) (tw : Addr) (kw : ClassId) (ws : List Int64) (u : Nat) (st : Int32) (i : Nat) (h0 : Heap) (n0 : Nat) (v : Option Value) (h : Heap) (L : List Loc) : Prop := ∃ tw2 : Addr, ∃ kw2 : ClassId, ∃ ws3 : List Int64, ∃ st2 : Int32, ∃ u2 : Nat, v = none ∧ Fr n0 L ∧ Keep h0 h [a1, tw] ∧ Fld Z h a1 "java/util/BitSet" "words" "[J" (.ref tw2) ∧ Fld Z h a1 "java/util/BitSet" "wordsInUse" "I" (.int (Int32.ofNat u2)) ∧ Fld Z h a1 "java/util/BitSet" "sizeIsSticky" "Z" (.int st2) ∧ (Arv Z h tw2 kw2 .long (Int32.ofNat ws3.length) (ws3.map Value.long) (.long (0 : Int64))) ∧ n0 ≤ tw2 ∧ a1 ≠ tw2 ∧ (tw2 = tw ∨ h0.size ≤ tw2) ∧ (own_inv ws3 u2) ∧ (∀ k, k ≤ 65535 → own_get ws3 k = if k = i then 1 else own_get ws k) ∧ (ws3.length ≤ max (2 * ws.length) 1024)
set_option maxRecDepth 65536 in
set_option maxHeartbeats 40000000 in
theorem rm10 (l : Launch) (Z : State) (a0 : Array Value) (hw : ∀ d ∈ tables_1, d.before a0 Z = true) (wsC : List Jvm.Cond) (a1 : Addr) (tw : Addr) (kw : ClassId) (ws : List Int64) (u : Nat) (st : Int32) (i : Nat) (h0 : Heap) (n0 : Nat) (Z0 : n0 ≤ h0.size) (E_a1 : Exa Z h0 a1 "java/util/BitSet") (g_a1 : n0 ≤ a1) (F_a1_words : Fld Z h0 a1 "java/util/BitSet" "words" "[J" (.ref tw)) (F_a1_wordsInUse : Fld Z h0 a1 "java/util/BitSet" "wordsInUse" "I" (.int (Int32.ofNat u))) (F_a1_sizeIsSticky : Fld Z h0 a1 "java/util/BitSet" "sizeIsSticky" "Z" (.int st)) (V_tw : Arv Z h0 tw kw .long (Int32.ofNat ws.length) (ws.map Value.long) (.long (0 : Int64))) (g_tw : n0 ≤ tw) (ne_a1_tw : a1 ≠ tw) (hinv : own_inv ws u) (hwl : ws.length ≤ 1024) (OLD : Old Z n0 h0) (O5 : Sta Z Z.heap "java/util/BitSet" "$assertionsDisabled" "Z" (.int (1 : Int32))) (hi : i ≤ 65535) :
    MetFree l (⟨"java/util/BitSet", "set", "(I)V"⟩ : MethodName) (head1 (Jvm.Cond.code (⟨"java/util/BitSet", "set", "(I)V"⟩ : MethodName) jdk_92_method_19_code 3 none :: wsC) ({ frames := 4, cells := 1, slots := 2048, locals := 61 } : Room)) (fun a U => a = #[(.ref a1), (.int (Int32.ofNat i))] ∧ Z.Warmed39 U.vm ∧ U.heap = h0) (fun _ _ _ _ _ => True) (fun _ U o U' => ∃ v L, o = .returned v ∧ Q10 Z a1 tw kw ws u st i h0 n0 v U'.heap L ∧ FrameEnd U o U' L ({ frames := 4, cells := 1, slots := 2048, locals := 61 } : Room).cells ({ frames := 4, cells := 1, slots := 2048, locals := 61 } : Room).slots) := by
  refine MetFree.of_bodySF (plainFor_of_name pn_0) hisR ?_
  intro p e s m args below meth c s₁ Bd hml0 hP hK
  obtain ⟨rfl, hZ, hh⟩ := hP
  have hx := Bd.exec
  have hby := Bd.bytes
  have hml : c.maxLocals = 3 := hml0
  have hown : s.vm.findClass "java/util/BitSet" = some m.cls := findClass_of_methodNamed Bd.named
  have hnm := (name_of_methodNamed Bd.named Bd.method).1
  have X0 : Stand p l e ({ frames := 4, cells := 1, slots := 2048, locals := 61 } : Room) s m #[(.ref a1), (.int (Int32.ofNat i))] below meth c s₁ [] 0 0 := Stand.of_body Bd
  have e0 : s₁.heap = h0 := by rw [← hh, Bd.state]; rfl
  have NF := Fr.nil n0
  have KP : Keep h0 h0 [a1, tw] := Keep.refl h0 _
  refine WP.go ?_
  refine WP.cast (ef_10 m a1 (Int32.ofNat i)) ?_
  refine WP.name ?_
  intro G hG
  have hnn : ¬ ((Int32.ofNat i) < (0 : Int32)) := own_nn (Nat.lt_of_le_of_lt hi (by decide))
  refine WP.st (T' := s₁) (f' := (mkF m 32 #[.val (.ref a1), .val (.int (Int32.ofNat i)), .unset] [(.int (Int32.ofNat i))])) (fun t k => ?_) ?_
  · refine XS.iloadN X0.here hx rfl (hb hby d10_0) rfl ?_
    refine XS.ifYes X0.here hx rfl (pc0 := 1) (pc' := 31) rfl (hb hby d10_1) rfl ((if0 _ _).trans (flt hnn).2.1) (by decide) (by decide) ?_
    refine XS.iloadN X0.here hx rfl (hb hby d10_31) rfl ?_
    exact k
  obtain ⟨_, _, ⟨T46, L46, k46, n46⟩, -, X46, ⟨Lc46, hQ46, l46, y46, z46⟩, st46⟩ := Jvm.LawKit.callS X0 hx (y := (⟨"java/util/BitSet", "wordIndex", "(I)I"⟩ : MethodName)) hown (mvT hZ (w_50 hw)) (mvT hZ (w_51 hw)) (mvT hZ (w_36 hw)) (mvT hZ (w_52 hw)) (by decide) (backOf (W := 0) (rm9 l Z a0 hw [] i h0 n0 Z0 (hi : i ≤ 65535)) hZ (w_52 hw) (w_36 hw) (by decide) (by decide)) (g := (mkF m 32 #[.val (.ref a1), .val (.int (Int32.ofNat i)), .unset] [(.int (Int32.ofNat i))])) rfl (by rw [hml]; rfl) (argsL := [(.int (Int32.ofNat i))]) (rest := []) (lenOf pd_0 rfl) rfl (by show 2 * 0 + _ ≤ _; exact Nat.le_of_eq rfl) (hb hby d10_32) (fun _ _ => ⟨rfl, e0, (by decide : 0 + 0 ≤ _), (by decide : 0 + 0 ≤ _)⟩)
  dsimp only [Pt.U, Pt.locs, Pt.cells, Pt.slots] at X46 l46 y46 z46 st46 hQ46
  subst l46 y46 z46
  obtain ⟨rfl, Nq46, Kq46⟩ := hQ46
  replace NF := Fr.app NF Nq46
  clear Nq46
  refine WP.st st46 ?_
  clear st46
  replace Kq46 := Kq46.trans (rfl : h0 = h0)
  have hXN : ∃ LL, Stand p l e ({ frames := 4, cells := 1, slots := 2048, locals := 61 } : Room) s m #[(.ref a1), (.int (Int32.ofNat i))] below meth c T46 LL 0 0 ∧ Fr n0 LL := ⟨_, X46, NF⟩
  clear X46 NF
  obtain ⟨LL47, X46, NF⟩ := hXN
  show WP p.tables e below _ T46 (mkF m 35 #[.val (.ref a1), .val (.int (Int32.ofNat i)), .unset] [(.int (Int32.ofNat (i / 64)))])
  refine WP.st (T' := T46) (f' := (mkF m 38 #[.val (.ref a1), .val (.int (Int32.ofNat i)), .val (.int (Int32.ofNat (i / 64)))] [(.int (Int32.ofNat (i / 64))), (.ref a1)])) (fun t k => ?_) ?_
  · refine XS.istoreN X46.here hx rfl (hb hby d10_35) rfl (l' := #[.val (.ref a1), .val (.int (Int32.ofNat i)), .val (.int (Int32.ofNat (i / 64)))]) rfl ?_
    refine XS.aloadN X46.here hx rfl (hb hby d10_36) rfl rfl ?_
    refine XS.iloadN X46.here hx rfl (hb hby d10_37) rfl ?_
    exact k
  obtain ⟨cq48, q48, q48'⟩ := E_a1.cell
  obtain ⟨_, _, ⟨T48, L48, k48, n48⟩, -, X48, ⟨Lc48, hQ48, l48, y48, z48⟩, st48⟩ := X46.privateBack hx (y := (⟨"java/util/BitSet", "expandTo", "(I)V"⟩ : MethodName)) hown (mvT hZ (w_61 hw)) (mvT hZ (w_62 hw)) (mvT hZ (w_64 hw)) (Cond.privateMethod_at (mvP hZ (w_63 hw) (args := #[]))) (mvT hZ (w_65 hw)) (by decide) (backOf (W := 0) (rm11 l Z a0 hw [] a1 tw kw ws u st (i / 64) h0 n0 Z0 E_a1 g_a1 F_a1_words F_a1_wordsInUse F_a1_sizeIsSticky V_tw g_tw ne_a1_tw (hinv : own_inv ws u) (hwl : ws.length ≤ 1024) OLD (O5 : Sta Z Z.heap "java/util/BitSet" "$assertionsDisabled" "Z" (.int (1 : Int32))) (by omega : (i / 64) ≤ 1023)) hZ (w_65 hw) (w_36 hw) (by decide) (by decide)) (g := (mkF m 38 #[.val (.ref a1), .val (.int (Int32.ofNat i)), .val (.int (Int32.ofNat (i / 64)))] [(.int (Int32.ofNat (i / 64))), (.ref a1)])) rfl (by rw [hml]; rfl) (Steps.refl _) (a := a1) (by rw [Kq46]; exact q48) q48' (argsL := [(.int (Int32.ofNat (i / 64)))]) (rest := []) (lenOf pd_1 rfl) rfl (by show 2 * 0 + _ ≤ _; exact Nat.le_of_eq rfl) (hb hby d10_38) (fun _ _ => ⟨rfl, Kq46, (by decide : 0 + 1 ≤ _), (by decide : 0 + 2048 ≤ _)⟩)
  dsimp only [Pt.U, Pt.locs, Pt.cells, Pt.slots] at X48 l48 y48 z48 st48 hQ48
  subst l48 y48 z48
  obtain ⟨tw2_48, kw2_48, ws2_48, st2_48, u2_48, rfl, Nq48, Kq48, nF48_a1_words, nF48_a1_wordsInUse, nF48_a1_sizeIsSticky, nA48_tw2_48, g_tw2_48, ne_a1_tw2_48, or_tw2_48, hinv2_48, hju2_48, hb2_48, hg2_48⟩ := hQ48
  replace NF := Fr.app NF Nq48
  clear Nq48
  refine WP.tr st48 ?_
  clear st48
  obtain ⟨h48, e48⟩ : ∃ h, T48.heap = h := ⟨_, rfl⟩
  rw [e48] at Kq48 nF48_a1_words nF48_a1_wordsInUse nF48_a1_sizeIsSticky nA48_tw2_48
  have old_tw2_48 : tw2_48 ∈ [a1, tw] ∨ h0.size ≤ tw2_48 := or_tw2_48.elim (fun q => q ▸ (Or.inl (List.mem_of_getElem? (i := 1) rfl))) (fun q => Or.inr (Nat.le_trans KP.1 q))
  replace E_a1 := E_a1.keep Kq48
  clear F_a1_words
  clear F_a1_wordsInUse
  clear F_a1_sizeIsSticky
  clear V_tw
  replace OLD := OLD.keep Kq48 (allS g_a1 (allS g_tw all0))
  replace Z0 := Nat.le_trans Z0 Kq48.1
  replace KP := KP.trans Kq48 (allS (Or.inl (List.mem_of_getElem? (i := 0) rfl)) (allS (Or.inl (List.mem_of_getElem? (i := 1) rfl)) all0))
  clear Kq48
  have F_a1_words := nF48_a1_words
  clear nF48_a1_words
  have F_a1_wordsInUse := nF48_a1_wordsInUse
  clear nF48_a1_wordsInUse
  have F_a1_sizeIsSticky := nF48_a1_sizeIsSticky
  clear nF48_a1_sizeIsSticky
  have V_tw2_48 := nA48_tw2_48
  clear nA48_tw2_48
  have hXN : ∃ LL, Stand p l e ({ frames := 4, cells := 1, slots := 2048, locals := 61 } : Room) s m #[(.ref a1), (.int (Int32.ofNat i))] below meth c T48 LL 1 2048 ∧ Fr n0 LL := ⟨_, X48, NF⟩
  clear X48 NF
  obtain ⟨LL49, X48, NF⟩ := hXN
  show WP p.tables e below _ T48 (mkF m 41 #[.val (.ref a1), .val (.int (Int32.ofNat i)), .val (.int (Int32.ofNat (i / 64)))] [])
  refine WP.st (T' := T48) (f' := (mkF m 42 #[.val (.ref a1), .val (.int (Int32.ofNat i)), .val (.int (Int32.ofNat (i / 64)))] [(.ref a1)])) (fun t k => ?_) ?_
  · refine XS.aloadN X48.here hx rfl (hb hby d10_41) rfl rfl ?_
    exact k
  obtain ⟨T50, X50, e50, st50⟩ := getF X48 hx hZ hown (host := "") (Or.inl (w_54 hw)) Via.refl e48 F_a1_words (g := (mkF m 42 #[.val (.ref a1), .val (.int (Int32.ofNat i)), .val (.int (Int32.ofNat (i / 64)))] [(.ref a1)])) rfl rfl (hb hby d10_42)
  refine WP.st st50 ?_
  clear st50
  show WP p.tables e below _ T50 (mkF m 45 #[.val (.ref a1), .val (.int (Int32.ofNat i)), .val (.int (Int32.ofNat (i / 64)))] [(.ref tw2_48)])
  refine WP.st (T' := T50) (f' := (mkF m 47 #[.val (.ref a1), .val (.int (Int32.ofNat i)), .val (.int (Int32.ofNat (i / 64)))] [(.int (Int32.ofNat (i / 64))), (.ref tw2_48), (.int (Int32.ofNat (i / 64))), (.ref tw2_48)])) (fun t k => ?_) ?_
  · refine XS.iloadN X50.here hx rfl (hb hby d10_45) rfl ?_
    refine Jvm.Free.XT.dup2 X50.here hx rfl (hb hby d10_46) rfl rfl rfl ?_
    exact k
  obtain ⟨cl51, Ar51, hin51, hat51, -⟩ := V_tw2_48.rd (j := (Int32.ofNat (i / 64))) ⟨own_nn (Nat.lt_trans (Nat.lt_of_lt_of_le hju2_48 hinv2_48.1) (by have := hb2_48; omega)), (own_lt (Nat.lt_trans (Nat.lt_of_lt_of_le hju2_48 hinv2_48.1) (by have := hb2_48; omega)) (by have := hb2_48; omega)).2 (Nat.lt_of_lt_of_le hju2_48 hinv2_48.1)⟩
  rw [show ((ws2_48.map Value.long) : List Value).getD ((Int32.ofNat (i / 64))).toNatClampNeg (.long (0 : Int64)) = (.long (ws2_48.getD (i / 64) 0)) from own_mapget (Nat.lt_trans (Nat.lt_of_lt_of_le hju2_48 hinv2_48.1) (by have := hb2_48; omega))] at hat51
  refine WP.st (T' := T50) (f' := (mkF m 51 #[.val (.ref a1), .val (.int (Int32.ofNat i)), .val (.int (Int32.ofNat (i / 64)))] [(.long ((1 : Int64) <<< ((Int32.ofNat i) &&& 0x3f).toInt64)), (.long (ws2_48.getD (i / 64) 0)), (.int (Int32.ofNat (i / 64))), (.ref tw2_48)])) (fun t k => ?_) ?_
  · refine X50.laload hx (j := (Int32.ofNat (i / 64))) (v := (.long (ws2_48.getD (i / 64) 0))) (by rw [e50]; exact Ar51.1) (State.isArrayOf_alike hZ.alike Ar51.2.1) Ar51.2.2 hin51 hat51 (g := (mkF m 47 #[.val (.ref a1), .val (.int (Int32.ofNat i)), .val (.int (Int32.ofNat (i / 64)))] [(.int (Int32.ofNat (i / 64))), (.ref tw2_48), (.int (Int32.ofNat (i / 64))), (.ref tw2_48)])) rfl rfl (hb hby d10_47) _ ?_
    refine XS.lconst X50.here hx rfl (hb hby d10_48) ?_
    refine XS.iloadN X50.here hx rfl (hb hby d10_49) rfl ?_
    refine XS.lshl X50.here hx rfl (hb hby d10_50) rfl ?_
    exact k
  rw [show ((1 : Int64) <<< ((Int32.ofNat i) &&& 0x3f).toInt64) = (own_bit i) from rfl]
  show WP p.tables e below _ T50 (mkF m 51 #[.val (.ref a1), .val (.int (Int32.ofNat i)), .val (.int (Int32.ofNat (i / 64)))] [(.long (own_bit i)), (.long (ws2_48.getD (i / 64) 0)), (.int (Int32.ofNat (i / 64))), (.ref tw2_48)])
  refine WP.st (T' := T50) (f' := (mkF m 52 #[.val (.ref a1), .val (.int (Int32.ofNat i)), .val (.int (Int32.ofNat (i / 64)))] [(.long ((ws2_48.getD (i / 64) 0) ||| (own_bit i))), (.int (Int32.ofNat (i / 64))), (.ref tw2_48)])) (fun t k => ?_) ?_
  · refine XS.lor X50.here hx rfl (hb hby d10_51) rfl ?_
    exact k
  obtain ⟨cl52, Ar52, q52, S52, N52, H52, G52⟩ := V_tw2_48
  have hin52 : ¬ ((Int32.ofNat (i / 64)) < 0 ∨ cl52.slots.size ≤ ((Int32.ofNat (i / 64))).toNatClampNeg) := inb_of S52 ⟨own_nn (Nat.lt_trans (Nat.lt_of_lt_of_le hju2_48 hinv2_48.1) (by have := hb2_48; omega)), (own_lt (Nat.lt_trans (Nat.lt_of_lt_of_le hju2_48 hinv2_48.1) (by have := hb2_48; omega)) (by have := hb2_48; omega)).2 (Nat.lt_of_lt_of_le hju2_48 hinv2_48.1)⟩
  obtain ⟨T53, h53, X53, e53, W53, st53⟩ := stJ X50 hx hZ e50 Ar52 (j := (Int32.ofNat (i / 64))) hin52 (g := (mkF m 52 #[.val (.ref a1), .val (.int (Int32.ofNat i)), .val (.int (Int32.ofNat (i / 64)))] [(.long ((ws2_48.getD (i / 64) 0) ||| (own_bit i))), (.int (Int32.ofNat (i / 64))), (.ref tw2_48)])) rfl rfl (hb hby d10_52)
  refine WP.st st53 ?_
  clear st53
  have Vn : Arv Z h53 tw2_48 kw2_48 .long (Int32.ofNat (ws2_48.set (i / 64) ((ws2_48.getD (i / 64) 0) ||| (own_bit i))).length) ((ws2_48.set (i / 64) ((ws2_48.getD (i / 64) 0) ||| (own_bit i))).map Value.long) (.long (0 : Int64)) := by rw [List.length_set, List.map_set]; exact Arv.set Ar52 q52 S52 N52 H52 G52 rfl W53 _ (own_clamp (Nat.lt_trans (Nat.lt_of_lt_of_le hju2_48 hinv2_48.1) (by have := hb2_48; omega))) (by rw [List.length_map]; exact (Nat.lt_of_lt_of_le hju2_48 hinv2_48.1))
  replace E_a1 := E_a1.wr W53
  replace OLD := OLD.wr W53 g_tw2_48
  replace F_a1_words := F_a1_words.other W53 (Or.inl ne_a1_tw2_48)
  replace F_a1_wordsInUse := F_a1_wordsInUse.other W53 (Or.inl ne_a1_tw2_48)
  replace F_a1_sizeIsSticky := F_a1_sizeIsSticky.other W53 (Or.inl ne_a1_tw2_48)
  replace Z0 := Nat.le_trans Z0 (Keep.of_wr W53).1
  replace KP := KP.wr W53 old_tw2_48
  replace V_tw2_48 := Vn
  replace NF := Fr.snoc X53 NF g_tw2_48
  clear W53 hin52 q52 S52 N52 H52 G52 Ar52
  have hXN : ∃ LL, Stand p l e ({ frames := 4, cells := 1, slots := 2048, locals := 61 } : Room) s m #[(.ref a1), (.int (Int32.ofNat i))] below meth c T53 LL 1 2048 ∧ Fr n0 LL := ⟨_, X53, NF⟩
  clear X53 NF
  obtain ⟨LL54, X53, NF⟩ := hXN
  show WP p.tables e below _ T53 (mkF m 53 #[.val (.ref a1), .val (.int (Int32.ofNat i)), .val (.int (Int32.ofNat (i / 64)))] [])
  refine WP.st (T' := T53) (f' := (mkF m 54 #[.val (.ref a1), .val (.int (Int32.ofNat i)), .val (.int (Int32.ofNat (i / 64)))] [(.ref a1)])) (fun t k => ?_) ?_
  · refine XS.aloadN X53.here hx rfl (hb hby d10_53) rfl rfl ?_
    exact k
  obtain ⟨cq55, q55, q55'⟩ := E_a1.cell
  obtain ⟨_, _, ⟨T55, L55, k55, n55⟩, -, X55, ⟨Lc55, hQ55, l55, y55, z55⟩, st55⟩ := X53.privateBack hx (y := (⟨"java/util/BitSet", "checkInvariants", "()V"⟩ : MethodName)) hown (mvT hZ (w_71 hw)) (mvT hZ (w_72 hw)) (mvT hZ (w_74 hw)) (Cond.privateMethod_at (mvP hZ (w_73 hw) (args := #[]))) (mvT hZ (w_75 hw)) (by decide) (backOf (W := 0) (rm13 l Z a0 hw [] a1 h53 n0 Z0 (O5.ext OLD.2)) hZ (w_75 hw) (w_36 hw) (by decide) (by decide)) (g := (mkF m 54 #[.val (.ref a1), .val (.int (Int32.ofNat i)), .val (.int (Int32.ofNat (i / 64)))] [(.ref a1)])) rfl (by rw [hml]; rfl) (Steps.refl _) (a := a1) (by rw [e53]; exact q55) q55' (argsL := []) (rest := []) (lenOf pd_4 rfl) rfl (by show 2 * 0 + _ ≤ _; exact Nat.le_of_eq rfl) (hb hby d10_54) (fun _ _ => ⟨rfl, e53, (by decide : 1 + 0 ≤ _), (by decide : 2048 + 0 ≤ _)⟩)
  dsimp only [Pt.U, Pt.locs, Pt.cells, Pt.slots] at X55 l55 y55 z55 st55 hQ55
  subst l55 y55 z55
  obtain ⟨rfl, Nq55, Kq55⟩ := hQ55
  replace NF := Fr.app NF Nq55
  clear Nq55
  refine WP.tr st55 ?_
  clear st55
  replace Kq55 := Kq55.trans (rfl : h53 = h53)
  have hXN : ∃ LL, Stand p l e ({ frames := 4, cells := 1, slots := 2048, locals := 61 } : Room) s m #[(.ref a1), (.int (Int32.ofNat i))] below meth c T55 LL 1 2048 ∧ Fr n0 LL := ⟨_, X55, NF⟩
  clear X55 NF
  obtain ⟨LL56, X55, NF⟩ := hXN
  show WP p.tables e below _ T55 (mkF m 57 #[.val (.ref a1), .val (.int (Int32.ofNat i)), .val (.int (Int32.ofNat (i / 64)))] [])
  subst hG
  obtain ⟨fs, hr, hrun, hended, hW, hsame⟩ := X55.leave (v := none) (fun _ => rfl)
  refine WP.fin ⟨_, _, ?_, hrun, hended, _, _, rfl, ?_, ⟨_, rfl⟩, hW, hsame.mono (by decide) (by decide)⟩
  · exact X55.returnOut hx Bd.returns (hb hby d10_57) hr
  · show Q10 Z a1 tw kw ws u st i h0 n0 _ T55.heap _
    rw [Kq55]
    exact ⟨tw2_48, kw2_48, (ws2_48.set (i / 64) ((ws2_48.getD (i / 64) 0) ||| (own_bit i))), st2_48, u2_48, rfl, NF, KP, F_a1_words, F_a1_wordsInUse, F_a1_sizeIsSticky, V_tw2_48, g_tw2_48, ne_a1_tw2_48, or_tw2_48, (own_inv_set hinv2_48 hju2_48), (fun k hk => by rw [own_set_get hi hk (Nat.lt_of_lt_of_le hju2_48 hinv2_48.1), own_get_ext hg2_48]), (by rw [List.length_set]; exact hb2_48)⟩
theorem ef_14 (m : MethodId) (z0 : Addr) (z1 : Int32) : entryFrame m #[(.ref z0), (.int z1)] 3 = mkF m 0 #[.val (.ref z0), .val (.int z1), .unset] [] := by
  all_goals first | (simp [entryFrame, mkF, argsToLocals, Value.category]; done) | rfl
theorem d14_0 : decode jdk_92_method_26_code 0 = .ok (.iload_n 1, 1) := by decide +kernel
theorem d14_1 : decode jdk_92_method_26_code 1 = .ok (.ifCond .ge 30, 3) := by decide +kernel
theorem d14_31 : decode jdk_92_method_26_code 31 = .ok (.aload_n 0, 1) := by decide +kernel
theorem d14_32 : decode jdk_92_method_26_code 32 = .ok (.invokevirtual 56, 3) := by decide +kernel
theorem d14_35 : decode jdk_92_method_26_code 35 = .ok (.iload_n 1, 1) := by decide +kernel
theorem d14_36 : decode jdk_92_method_26_code 36 = .ok (.invokestatic 52, 3) := by decide +kernel
theorem d14_39 : decode jdk_92_method_26_code 39 = .ok (.istore_n 2, 1) := by decide +kernel
theorem d14_40 : decode jdk_92_method_26_code 40 = .ok (.iload_n 2, 1) := by decide +kernel
theorem d14_41 : decode jdk_92_method_26_code 41 = .ok (.aload_n 0, 1) := by decide +kernel
theorem d14_42 : decode jdk_92_method_26_code 42 = .ok (.getfield 7, 3) := by decide +kernel
theorem d14_45 : decode jdk_92_method_26_code 45 = .ok (.if_icmp .ge 22, 3) := by decide +kernel
theorem d14_48 : decode jdk_92_method_26_code 48 = .ok (.aload_n 0, 1) := by decide +kernel
theorem d14_49 : decode jdk_92_method_26_code 49 = .ok (.getfield 11, 3) := by decide +kernel
theorem d14_52 : decode jdk_92_method_26_code 52 = .ok (.iload_n 2, 1) := by decide +kernel
theorem d14_53 : decode jdk_92_method_26_code 53 = .ok (.laload, 1) := by decide +kernel
theorem d14_54 : decode jdk_92_method_26_code 54 = .ok (.lconst 1, 1) := by decide +kernel
theorem d14_55 : decode jdk_92_method_26_code 55 = .ok (.iload_n 1, 1) := by decide +kernel
theorem d14_56 : decode jdk_92_method_26_code 56 = .ok (.lshl, 1) := by decide +kernel
theorem d14_57 : decode jdk_92_method_26_code 57 = .ok (.land, 1) := by decide +kernel
theorem d14_58 : decode jdk_92_method_26_code 58 = .ok (.lconst 0, 1) := by decide +kernel
theorem d14_59 : decode jdk_92_method_26_code 59 = .ok (.lcmp, 1) := by decide +kernel
theorem d14_60 : decode jdk_92_method_26_code 60 = .ok (.ifCond .eq 7, 3) := by decide +kernel
theorem d14_67 : decode jdk_92_method_26_code 67 = .ok (.iconst 0, 1) := by decide +kernel
theorem d14_68 : decode jdk_92_method_26_code 68 = .ok (.ireturn, 1) := by decide +kernel
theorem d14_63 : decode jdk_92_method_26_code 63 = .ok (.iconst 1, 1) := by decide +kernel
theorem d14_64 : decode jdk_92_method_26_code 64 = .ok (.goto 4, 3) := by decide +kernel
def Q14 (Z : State) (a1 : Addr) (tw : Addr) (kw : ClassId) (ws : List Int64) (u : Nat) (st : Int32) (i : Nat) (h0 : Heap) (n0 : Nat) (v : Option Value) (h : Heap) (L : List Loc) : Prop := v = some (.int (own_get ws i)) ∧ Fr n0 L ∧ h = h0
set_option maxRecDepth 65536 in
set_option maxHeartbeats 40000000 in
theorem rm14 (l : Launch) (Z : State) (a0 : Array Value) (hw : ∀ d ∈ tables_1, d.before a0 Z = true) (wsC : List Jvm.Cond) (a1 : Addr) (tw : Addr) (kw : ClassId) (ws : List Int64) (u : Nat) (st : Int32) (i : Nat) (h0 : Heap) (n0 : Nat) (Z0 : n0 ≤ h0.size) (E_a1 : Exa Z h0 a1 "java/util/BitSet") (g_a1 : n0 ≤ a1) (F_a1_words : Fld Z h0 a1 "java/util/BitSet" "words" "[J" (.ref tw)) (F_a1_wordsInUse : Fld Z h0 a1 "java/util/BitSet" "wordsInUse" "I" (.int (Int32.ofNat u))) (F_a1_sizeIsSticky : Fld Z h0 a1 "java/util/BitSet" "sizeIsSticky" "Z" (.int st)) (V_tw : Arv Z h0 tw kw .long (Int32.ofNat ws.length) (ws.map Value.long) (.long (0 : Int64))) (g_tw : n0 ≤ tw) (ne_a1_tw : a1 ≠ tw) (hinv : own_inv ws u) (hwm : ws.length ≤ 2048) (OLD : Old Z n0 h0) (O5 : Sta Z Z.heap "java/util/BitSet" "$assertionsDisabled" "Z" (.int (1 : Int32))) (hi : i ≤ 65535) :
    MetFree l (⟨"java/util/BitSet", "get", "(I)Z"⟩ : MethodName) (head1 (Jvm.Cond.code (⟨"java/util/BitSet", "get", "(I)Z"⟩ : MethodName) jdk_92_method_26_code 3 (some .boolean) :: wsC) ({ frames := 1, cells := 0, slots := 0, locals := 12 } : Room)) (fun a U => a = #[(.ref a1), (.int (Int32.ofNat i))] ∧ Z.Warmed39 U.vm ∧ U.heap = h0) (fun _ _ _ _ _ => True) (fun _ U o U' => ∃ v L, o = .returned v ∧ Q14 Z a1 tw kw ws u st i h0 n0 v U'.heap L ∧ FrameEnd U o U' L ({ frames := 1, cells := 0, slots := 0, locals := 12 } : Room).cells ({ frames := 1, cells := 0, slots := 0, locals := 12 } : Room).slots) := by
  refine MetFree.of_bodySF (plainFor_of_name pn_0) hisR ?_
  intro p e s m args below meth c s₁ Bd hml0 hP hK
  obtain ⟨rfl, hZ, hh⟩ := hP
  have hx := Bd.exec
  have hby := Bd.bytes
  have hml : c.maxLocals = 3 := hml0
  have hown : s.vm.findClass "java/util/BitSet" = some m.cls := findClass_of_methodNamed Bd.named
  have hnm := (name_of_methodNamed Bd.named Bd.method).1
  have X0 : Stand p l e ({ frames := 1, cells := 0, slots := 0, locals := 12 } : Room) s m #[(.ref a1), (.int (Int32.ofNat i))] below meth c s₁ [] 0 0 := Stand.of_body Bd
  have e0 : s₁.heap = h0 := by rw [← hh, Bd.state]; rfl
  have NF := Fr.nil n0
  refine WP.go ?_
  refine WP.cast (ef_14 m a1 (Int32.ofNat i)) ?_
  refine WP.name ?_
  intro G hG
  have hnn : ¬ ((Int32.ofNat i) < (0 : Int32)) := own_nn (Nat.lt_of_le_of_lt hi (by decide))
  refine WP.st (T' := s₁) (f' := (mkF m 32 #[.val (.ref a1), .val (.int (Int32.ofNat i)), .unset] [(.ref a1)])) (fun t k => ?_) ?_
  · refine XS.iloadN X0.here hx rfl (hb hby d14_0) rfl ?_
    refine XS.ifYes X0.here hx rfl (pc0 := 1) (pc' := 31) rfl (hb hby d14_1) rfl ((if0 _ _).trans (flt hnn).2.1) (by decide) (by decide) ?_
    refine XS.aloadN X0.here hx rfl (hb hby d14_31) rfl rfl ?_
    exact k
  obtain ⟨cq57, q57, q57'⟩ := E_a1.cell
  obtain ⟨_, _, ⟨T57, L57, k57, n57⟩, -, X57, ⟨Lc57, hQ57, l57, y57, z57⟩, st57⟩ := X0.privateBack hx (y := (⟨"java/util/BitSet", "checkInvariants", "()V"⟩ : MethodName)) hown (mvT hZ (w_71 hw)) (mvT hZ (w_72 hw)) (mvT hZ (w_74 hw)) (Cond.privateMethod_at (mvP hZ (w_73 hw) (args := #[]))) (mvT hZ (w_75 hw)) (by decide) (backOf (W := 0) (rm13 l Z a0 hw [] a1 h0 n0 Z0 (O5.ext OLD.2)) hZ (w_75 hw) (w_36 hw) (by decide) (by decide)) (g := (mkF m 32 #[.val (.ref a1), .val (.int (Int32.ofNat i)), .unset] [(.ref a1)])) rfl (by rw [hml]; rfl) (Steps.refl _) (a := a1) (by rw [e0]; exact q57) q57' (argsL := []) (rest := []) (lenOf pd_4 rfl) rfl (by show 2 * 0 + _ ≤ _; exact Nat.le_of_eq rfl) (hb hby d14_32) (fun _ _ => ⟨rfl, e0, (by decide : 0 + 0 ≤ _), (by decide : 0 + 0 ≤ _)⟩)
  dsimp only [Pt.U, Pt.locs, Pt.cells, Pt.slots] at X57 l57 y57 z57 st57 hQ57
  subst l57 y57 z57
  obtain ⟨rfl, Nq57, Kq57⟩ := hQ57
  replace NF := Fr.app NF Nq57
  clear Nq57
  refine WP.tr st57 ?_
  clear st57
  replace Kq57 := Kq57.trans (rfl : h0 = h0)
  have hXN : ∃ LL, Stand p l e ({ frames := 1, cells := 0, slots := 0, locals := 12 } : Room) s m #[(.ref a1), (.int (Int32.ofNat i))] below meth c T57 LL 0 0 ∧ Fr n0 LL := ⟨_, X57, NF⟩
  clear X57 NF
  obtain ⟨LL58, X57, NF⟩ := hXN
  show WP p.tables e below _ T57 (mkF m 35 #[.val (.ref a1), .val (.int (Int32.ofNat i)), .unset] [])
  refine WP.st (T' := T57) (f' := (mkF m 36 #[.val (.ref a1), .val (.int (Int32.ofNat i)), .unset] [(.int (Int32.ofNat i))])) (fun t k => ?_) ?_
  · refine XS.iloadN X57.here hx rfl (hb hby d14_35) rfl ?_
    exact k
  obtain ⟨_, _, ⟨T59, L59, k59, n59⟩, -, X59, ⟨Lc59, hQ59, l59, y59, z59⟩, st59⟩ := Jvm.LawKit.callS X57 hx (y := (⟨"java/util/BitSet", "wordIndex", "(I)I"⟩ : MethodName)) hown (mvT hZ (w_50 hw)) (mvT hZ (w_51 hw)) (mvT hZ (w_36 hw)) (mvT hZ (w_52 hw)) (by decide) (backOf (W := 0) (rm9 l Z a0 hw [] i h0 n0 Z0 (hi : i ≤ 65535)) hZ (w_52 hw) (w_36 hw) (by decide) (by decide)) (g := (mkF m 36 #[.val (.ref a1), .val (.int (Int32.ofNat i)), .unset] [(.int (Int32.ofNat i))])) rfl (by rw [hml]; rfl) (argsL := [(.int (Int32.ofNat i))]) (rest := []) (lenOf pd_0 rfl) rfl (by show 2 * 0 + _ ≤ _; exact Nat.le_of_eq rfl) (hb hby d14_36) (fun _ _ => ⟨rfl, Kq57, (by decide : 0 + 0 ≤ _), (by decide : 0 + 0 ≤ _)⟩)
  dsimp only [Pt.U, Pt.locs, Pt.cells, Pt.slots] at X59 l59 y59 z59 st59 hQ59
  subst l59 y59 z59
  obtain ⟨rfl, Nq59, Kq59⟩ := hQ59
  replace NF := Fr.app NF Nq59
  clear Nq59
  refine WP.st st59 ?_
  clear st59
  replace Kq59 := Kq59.trans (rfl : h0 = h0)
  have hXN : ∃ LL, Stand p l e ({ frames := 1, cells := 0, slots := 0, locals := 12 } : Room) s m #[(.ref a1), (.int (Int32.ofNat i))] below meth c T59 LL 0 0 ∧ Fr n0 LL := ⟨_, X59, NF⟩
  clear X59 NF
  obtain ⟨LL60, X59, NF⟩ := hXN
  show WP p.tables e below _ T59 (mkF m 39 #[.val (.ref a1), .val (.int (Int32.ofNat i)), .unset] [(.int (Int32.ofNat (i / 64)))])
  refine WP.st (T' := T59) (f' := (mkF m 42 #[.val (.ref a1), .val (.int (Int32.ofNat i)), .val (.int (Int32.ofNat (i / 64)))] [(.ref a1), (.int (Int32.ofNat (i / 64)))])) (fun t k => ?_) ?_
  · refine XS.istoreN X59.here hx rfl (hb hby d14_39) rfl (l' := #[.val (.ref a1), .val (.int (Int32.ofNat i)), .val (.int (Int32.ofNat (i / 64)))]) rfl ?_
    refine XS.iloadN X59.here hx rfl (hb hby d14_40) rfl ?_
    refine XS.aloadN X59.here hx rfl (hb hby d14_41) rfl rfl ?_
    exact k
  obtain ⟨T61, X61, e61, st61⟩ := getF X59 hx hZ hown (host := "") (Or.inl (w_41 hw)) Via.refl Kq59 F_a1_wordsInUse (g := (mkF m 42 #[.val (.ref a1), .val (.int (Int32.ofNat i)), .val (.int (Int32.ofNat (i / 64)))] [(.ref a1), (.int (Int32.ofNat (i / 64)))])) rfl rfl (hb hby d14_42)
  refine WP.st st61 ?_
  clear st61
  show WP p.tables e below _ T61 (mkF m 45 #[.val (.ref a1), .val (.int (Int32.ofNat i)), .val (.int (Int32.ofNat (i / 64)))] [(.int (Int32.ofNat u)), (.int (Int32.ofNat (i / 64)))])
  by_cases hc62 : (Int32.ofNat (i / 64)) < (Int32.ofNat u)
  · skip
    refine WP.st (T' := T61) (f' := (mkF m 49 #[.val (.ref a1), .val (.int (Int32.ofNat i)), .val (.int (Int32.ofNat (i / 64)))] [(.ref a1)])) (fun t k => ?_) ?_
    · refine XS.icmpNo X61.here hx rfl (hb hby d14_45) rfl (tlt hc62).2.1 ?_
      refine XS.aloadN X61.here hx rfl (hb hby d14_48) rfl rfl ?_
      exact k
    obtain ⟨T63, X63, e63, st63⟩ := getF X61 hx hZ hown (host := "") (Or.inl (w_54 hw)) Via.refl e61 F_a1_words (g := (mkF m 49 #[.val (.ref a1), .val (.int (Int32.ofNat i)), .val (.int (Int32.ofNat (i / 64)))] [(.ref a1)])) rfl rfl (hb hby d14_49)
    refine WP.st st63 ?_
    clear st63
    show WP p.tables e below _ T63 (mkF m 52 #[.val (.ref a1), .val (.int (Int32.ofNat i)), .val (.int (Int32.ofNat (i / 64)))] [(.ref tw)])
    refine WP.st (T' := T63) (f' := (mkF m 53 #[.val (.ref a1), .val (.int (Int32.ofNat i)), .val (.int (Int32.ofNat (i / 64)))] [(.int (Int32.ofNat (i / 64))), (.ref tw)])) (fun t k => ?_) ?_
    · refine XS.iloadN X63.here hx rfl (hb hby d14_52) rfl ?_
      exact k
    obtain ⟨cl64, Ar64, hin64, hat64, -⟩ := V_tw.rd (j := (Int32.ofNat (i / 64))) ⟨own_nn (Nat.lt_trans (Nat.lt_of_lt_of_le ((own_lt (by omega) (Nat.lt_of_le_of_lt hinv.1 (Nat.lt_of_le_of_lt hwm (by decide : 2048 < 2 ^ 31)))).1 hc62) hinv.1) (Nat.lt_of_le_of_lt hwm (by decide : 2048 < 2 ^ 31))), (own_lt (Nat.lt_trans (Nat.lt_of_lt_of_le ((own_lt (by omega) (Nat.lt_of_le_of_lt hinv.1 (Nat.lt_of_le_of_lt hwm (by decide : 2048 < 2 ^ 31)))).1 hc62) hinv.1) (Nat.lt_of_le_of_lt hwm (by decide : 2048 < 2 ^ 31))) (Nat.lt_of_le_of_lt hwm (by decide : 2048 < 2 ^ 31))).2 (Nat.lt_of_lt_of_le ((own_lt (by omega) (Nat.lt_of_le_of_lt hinv.1 (Nat.lt_of_le_of_lt hwm (by decide : 2048 < 2 ^ 31)))).1 hc62) hinv.1)⟩
    rw [show ((ws.map Value.long) : List Value).getD ((Int32.ofNat (i / 64))).toNatClampNeg (.long (0 : Int64)) = (.long (ws.getD (i / 64) 0)) from own_mapget (Nat.lt_trans (Nat.lt_of_lt_of_le ((own_lt (by omega) (Nat.lt_of_le_of_lt hinv.1 (Nat.lt_of_le_of_lt hwm (by decide : 2048 < 2 ^ 31)))).1 hc62) hinv.1) (Nat.lt_of_le_of_lt hwm (by decide : 2048 < 2 ^ 31)))] at hat64
    refine WP.st (T' := T63) (f' := (mkF m 57 #[.val (.ref a1), .val (.int (Int32.ofNat i)), .val (.int (Int32.ofNat (i / 64)))] [(.long ((1 : Int64) <<< ((Int32.ofNat i) &&& 0x3f).toInt64)), (.long (ws.getD (i / 64) 0))])) (fun t k => ?_) ?_
    · refine X63.laload hx (j := (Int32.ofNat (i / 64))) (v := (.long (ws.getD (i / 64) 0))) (by rw [e63]; exact Ar64.1) (State.isArrayOf_alike hZ.alike Ar64.2.1) Ar64.2.2 hin64 hat64 (g := (mkF m 53 #[.val (.ref a1), .val (.int (Int32.ofNat i)), .val (.int (Int32.ofNat (i / 64)))] [(.int (Int32.ofNat (i / 64))), (.ref tw)])) rfl rfl (hb hby d14_53) _ ?_
      refine XS.lconst X63.here hx rfl (hb hby d14_54) ?_
      refine XS.iloadN X63.here hx rfl (hb hby d14_55) rfl ?_
      refine XS.lshl X63.here hx rfl (hb hby d14_56) rfl ?_
      exact k
    rw [show ((1 : Int64) <<< ((Int32.ofNat i) &&& 0x3f).toInt64) = (own_bit i) from rfl]
    show WP p.tables e below _ T63 (mkF m 57 #[.val (.ref a1), .val (.int (Int32.ofNat i)), .val (.int (Int32.ofNat (i / 64)))] [(.long (own_bit i)), (.long (ws.getD (i / 64) 0))])
    refine WP.st (T' := T63) (f' := (mkF m 60 #[.val (.ref a1), .val (.int (Int32.ofNat i)), .val (.int (Int32.ofNat (i / 64)))] [(.int (lcmpW ((ws.getD (i / 64) 0) &&& (own_bit i)) (0 : Int64)))])) (fun t k => ?_) ?_
    · refine XS.land X63.here hx rfl (hb hby d14_57) rfl ?_
      refine XS.lconst X63.here hx rfl (hb hby d14_58) ?_
      refine XS.lcmp X63.here hx rfl (hb hby d14_59) rfl ?_
      exact k
    by_cases hc65 : (lcmpW ((ws.getD (i / 64) 0) &&& (own_bit i)) (0 : Int64)) = (0 : Int32)
    · skip
      refine WP.st (T' := T63) (f' := (mkF m 68 #[.val (.ref a1), .val (.int (Int32.ofNat i)), .val (.int (Int32.ofNat (i / 64)))] [(.int (0 : Int32))])) (fun t k => ?_) ?_
      · refine XS.ifYes X63.here hx rfl (pc0 := 60) (pc' := 67) rfl (hb hby d14_60) rfl ((if0 _ _).trans (teq hc65).1) (by decide) (by decide) ?_
        refine XS.iconst X63.here hx rfl (hb hby d14_67) ?_
        exact k
      subst hG
      obtain ⟨fs, hr, hrun, hended, hW, hsame⟩ := X63.leave (v := some (.int (0 : Int32))) (fun h => by rw [Bd.returns] at h; cases h)
      refine WP.fin ⟨_, _, ?_, hrun, hended, _, _, rfl, ?_, ⟨_, rfl⟩, hW, hsame.mono (by decide) (by decide)⟩
      · exact retN X63 hx (t := .boolean) Bd.returns (by simp) (hb hby d14_68) hr
      · show Q14 Z a1 tw kw ws u st i h0 n0 _ T63.heap _
        rw [e63]
        exact ⟨(by unfold own_get; rw [if_pos ((lw_eq _ _).1 hc65)]), NF, rfl⟩
    · skip
      refine WP.st (T' := T63) (f' := (mkF m 68 #[.val (.ref a1), .val (.int (Int32.ofNat i)), .val (.int (Int32.ofNat (i / 64)))] [(.int (1 : Int32))])) (fun t k => ?_) ?_
      · refine XS.ifNo X63.here hx rfl (hb hby d14_60) rfl ((if0 _ _).trans (feq hc65).1) ?_
        refine XS.iconst X63.here hx rfl (hb hby d14_63) ?_
        refine XS.goto X63.here hx rfl (pc0 := 64) (pc' := 68) rfl (hb hby d14_64) (by decide) (by decide) ?_
        exact k
      subst hG
      obtain ⟨fs, hr, hrun, hended, hW, hsame⟩ := X63.leave (v := some (.int (1 : Int32))) (fun h => by rw [Bd.returns] at h; cases h)
      refine WP.fin ⟨_, _, ?_, hrun, hended, _, _, rfl, ?_, ⟨_, rfl⟩, hW, hsame.mono (by decide) (by decide)⟩
      · exact retN X63 hx (t := .boolean) Bd.returns (by simp) (hb hby d14_68) hr
      · show Q14 Z a1 tw kw ws u st i h0 n0 _ T63.heap _
        rw [e63]
        exact ⟨(by unfold own_get; rw [if_neg (fun q => hc65 ((lw_eq _ _).2 q))]), NF, rfl⟩
  · skip
    refine WP.st (T' := T61) (f' := (mkF m 68 #[.val (.ref a1), .val (.int (Int32.ofNat i)), .val (.int (Int32.ofNat (i / 64)))] [(.int (0 : Int32))])) (fun t k => ?_) ?_
    · refine XS.icmpYes X61.here hx rfl (pc0 := 45) (pc' := 67) rfl (hb hby d14_45) rfl (flt hc62).2.1 (by decide) (by decide) ?_
      refine XS.iconst X61.here hx rfl (hb hby d14_67) ?_
      exact k
    subst hG
    obtain ⟨fs, hr, hrun, hended, hW, hsame⟩ := X61.leave (v := some (.int (0 : Int32))) (fun h => by rw [Bd.returns] at h; cases h)
    refine WP.fin ⟨_, _, ?_, hrun, hended, _, _, rfl, ?_, ⟨_, rfl⟩, hW, hsame.mono (by decide) (by decide)⟩
    · exact retN X61 hx (t := .boolean) Bd.returns (by simp) (hb hby d14_68) hr
    · show Q14 Z a1 tw kw ws u st i h0 n0 _ T61.heap _
      rw [e61]
      exact ⟨(congrArg (fun z => some (Value.int z)) (Classical.byContradiction (fun q => hc62 ((own_lt (by omega) (Nat.lt_of_le_of_lt hinv.1 (Nat.lt_of_le_of_lt hwm (by decide : 2048 < 2 ^ 31)))).2 (own_get_lt hinv (fun z => q z.symm)))))), NF, rfl⟩
theorem ef_20 (m : MethodId) (z0 : Addr) : entryFrame m #[(.ref z0)] 2 = mkF m 0 #[.val (.ref z0), .unset] [] := by
  all_goals first | (simp [entryFrame, mkF, argsToLocals, Value.category]; done) | rfl
theorem d20_0 : decode jdk_92_method_3_code 0 = .ok (.aload_n 0, 1) := by decide +kernel
theorem d20_1 : decode jdk_92_method_3_code 1 = .ok (.getfield 7, 3) := by decide +kernel
theorem d20_4 : decode jdk_92_method_3_code 4 = .ok (.iconst 1, 1) := by decide +kernel
theorem d20_5 : decode jdk_92_method_3_code 5 = .ok (.isub, 1) := by decide +kernel
theorem d20_6 : decode jdk_92_method_3_code 6 = .ok (.istore_n 1, 1) := by decide +kernel
theorem d20_7 : decode jdk_92_method_3_code 7 = .ok (.iload_n 1, 1) := by decide +kernel
theorem d20_8 : decode jdk_92_method_3_code 8 = .ok (.ifCond .lt 23, 3) := by decide +kernel
theorem d20_31 : decode jdk_92_method_3_code 31 = .ok (.aload_n 0, 1) := by decide +kernel
theorem d20_32 : decode jdk_92_method_3_code 32 = .ok (.iload_n 1, 1) := by decide +kernel
theorem d20_33 : decode jdk_92_method_3_code 33 = .ok (.iconst 1, 1) := by decide +kernel
theorem d20_34 : decode jdk_92_method_3_code 34 = .ok (.iadd, 1) := by decide +kernel
theorem d20_35 : decode jdk_92_method_3_code 35 = .ok (.putfield 7, 3) := by decide +kernel
theorem d20_38 : decode jdk_92_method_3_code 38 = .ok (.return_, 1) := by decide +kernel
theorem d20_11 : decode jdk_92_method_3_code 11 = .ok (.aload_n 0, 1) := by decide +kernel
theorem d20_12 : decode jdk_92_method_3_code 12 = .ok (.getfield 11, 3) := by decide +kernel
theorem d20_15 : decode jdk_92_method_3_code 15 = .ok (.iload_n 1, 1) := by decide +kernel
theorem d20_16 : decode jdk_92_method_3_code 16 = .ok (.laload, 1) := by decide +kernel
theorem d20_17 : decode jdk_92_method_3_code 17 = .ok (.lconst 0, 1) := by decide +kernel
theorem d20_18 : decode jdk_92_method_3_code 18 = .ok (.lcmp, 1) := by decide +kernel
theorem d20_19 : decode jdk_92_method_3_code 19 = .ok (.ifCond .eq 6, 3) := by decide +kernel
theorem d20_25 : decode jdk_92_method_3_code 25 = .ok (.iinc 1 (-1), 3) := by decide +kernel
theorem d20_28 : decode jdk_92_method_3_code 28 = .ok (.goto (-21), 3) := by decide +kernel
theorem d20_22 : decode jdk_92_method_3_code 22 = .ok (.goto 9, 3) := by decide +kernel
def Q20 (Z : State) (a1 : Addr) (tw : Addr) (kw : ClassId) (ws : List Int64) (u : Nat) (st : Int32) (h0 : Heap) (n0 : Nat) (v : Option Value) (h : Heap) (L : List Loc) : Prop := ∃ u2 : Nat, v = none ∧ Fr n0 L ∧ Keep h0 h [a1] ∧ Fld Z h a1 "java/util/BitSet" "words" "[J" (.ref tw) ∧ Fld Z h a1 "java/util/BitSet" "wordsInUse" "I" (.int (Int32.ofNat u2)) ∧ Fld Z h a1 "java/util/BitSet" "sizeIsSticky" "Z" (.int st) ∧ (own_inv ws u2)
set_option maxRecDepth 65536 in
set_option maxHeartbeats 40000000 in
theorem rm20 (l : Launch) (Z : State) (a0 : Array Value) (hw : ∀ d ∈ tables_1, d.before a0 Z = true) (wsC : List Jvm.Cond) (a1 : Addr) (tw : Addr) (kw : ClassId) (ws : List Int64) (u : Nat) (st : Int32) (h0 : Heap) (n0 : Nat) (Z0 : n0 ≤ h0.size) (E_a1 : Exa Z h0 a1 "java/util/BitSet") (g_a1 : n0 ≤ a1) (F_a1_words : Fld Z h0 a1 "java/util/BitSet" "words" "[J" (.ref tw)) (F_a1_wordsInUse : Fld Z h0 a1 "java/util/BitSet" "wordsInUse" "I" (.int (Int32.ofNat u))) (F_a1_sizeIsSticky : Fld Z h0 a1 "java/util/BitSet" "sizeIsSticky" "Z" (.int st)) (V_tw : Arv Z h0 tw kw .long (Int32.ofNat ws.length) (ws.map Value.long) (.long (0 : Int64))) (g_tw : n0 ≤ tw) (ne_a1_tw : a1 ≠ tw) (hinv : own_inv ws u) (hwm : ws.length ≤ 2048) (OLD : Old Z n0 h0) (O5 : Sta Z Z.heap "java/util/BitSet" "$assertionsDisabled" "Z" (.int (1 : Int32))) :
    MetFree l (⟨"java/util/BitSet", "recalculateWordsInUse", "()V"⟩ : MethodName) (head1 (Jvm.Cond.code (⟨"java/util/BitSet", "recalculateWordsInUse", "()V"⟩ : MethodName) jdk_92_method_3_code 2 none :: wsC) ({ frames := 0, cells := 0, slots := 0, locals := 0 } : Room)) (fun a U => a = #[(.ref a1)] ∧ Z.Warmed39 U.vm ∧ U.heap = h0) (fun _ _ _ _ _ => True) (fun _ U o U' => ∃ v L, o = .returned v ∧ Q20 Z a1 tw kw ws u st h0 n0 v U'.heap L ∧ FrameEnd U o U' L ({ frames := 0, cells := 0, slots := 0, locals := 0 } : Room).cells ({ frames := 0, cells := 0, slots := 0, locals := 0 } : Room).slots) := by
  refine MetFree.of_bodySF (plainFor_of_name pn_0) hisR ?_
  intro p e s m args below meth c s₁ Bd hml0 hP hK
  obtain ⟨rfl, hZ, hh⟩ := hP
  have hx := Bd.exec
  have hby := Bd.bytes
  have hml : c.maxLocals = 2 := hml0
  have hown : s.vm.findClass "java/util/BitSet" = some m.cls := findClass_of_methodNamed Bd.named
  have hnm := (name_of_methodNamed Bd.named Bd.method).1
  have X0 : Stand p l e ({ frames := 0, cells := 0, slots := 0, locals := 0 } : Room) s m #[(.ref a1)] below meth c s₁ [] 0 0 := Stand.of_body Bd
  have e0 : s₁.heap = h0 := by rw [← hh, Bd.state]; rfl
  have NF := Fr.nil n0
  have KP : Keep h0 h0 [a1] := Keep.refl h0 _
  refine WP.go ?_
  refine WP.cast (ef_20 m a1) ?_
  refine WP.name ?_
  intro G hG
  refine WP.st (T' := s₁) (f' := (mkF m 1 #[.val (.ref a1), .unset] [(.ref a1)])) (fun t k => ?_) ?_
  · refine XS.aloadN X0.here hx rfl (hb hby d20_0) rfl rfl ?_
    exact k
  obtain ⟨T66, X66, e66, st66⟩ := getF X0 hx hZ hown (host := "") (Or.inl (w_41 hw)) Via.refl e0 F_a1_wordsInUse (g := (mkF m 1 #[.val (.ref a1), .unset] [(.ref a1)])) rfl rfl (hb hby d20_1)
  refine WP.st st66 ?_
  clear st66
  show WP p.tables e below _ T66 (mkF m 4 #[.val (.ref a1), .unset] [(.int (Int32.ofNat u))])
  refine WP.st (T' := T66) (f' := (mkF m 7 #[.val (.ref a1), .val (.int ((Int32.ofNat u) - (1 : Int32)))] [])) (fun t k => ?_) ?_
  · refine XS.iconst X66.here hx rfl (hb hby d20_4) ?_
    refine XS.isub X66.here hx rfl (hb hby d20_5) rfl ?_
    refine XS.istoreN X66.here hx rfl (hb hby d20_6) rfl (l' := #[.val (.ref a1), .val (.int ((Int32.ofNat u) - (1 : Int32)))]) rfl ?_
    exact k
  have LP : ∀ (n : Nat), n ≤ u → (∀ k, n ≤ k → ws.getD k 0 = 0) → ∀ (Tj : State) (Lj : List Loc), Stand p l e ({ frames := 0, cells := 0, slots := 0, locals := 0 } : Room) s m #[(.ref a1)] below meth c Tj Lj 0 0 → Tj.heap = h0 → Fr n0 Lj → WP p.tables e below G Tj (mkF m 7 #[.val (.ref a1), .val (.int ((Int32.ofNat n) - (1 : Int32)))] []) := by
    clear NF
    intro n
    induction n with
    | zero =>
      intro hn hz Tj Lj Xj ej NF
      refine WP.st (T' := Tj) (f' := (mkF m 35 #[.val (.ref a1), .val (.int ((Int32.ofNat 0) - (1 : Int32)))] [(.int (((Int32.ofNat 0) - (1 : Int32)) + (1 : Int32))), (.ref a1)])) (fun t k => ?_) ?_
      · refine XS.iloadN Xj.here hx rfl (hb hby d20_7) rfl ?_
        refine XS.ifYes Xj.here hx rfl (pc0 := 8) (pc' := 31) rfl (hb hby d20_8) rfl ((if0 _ _).trans (tlt (by decide : (Int32.ofNat 0) - (1 : Int32) < (0 : Int32))).1) (by decide) (by decide) ?_
        refine XS.aloadN Xj.here hx rfl (hb hby d20_31) rfl rfl ?_
        refine XS.iloadN Xj.here hx rfl (hb hby d20_32) rfl ?_
        show Steps p.tables e below (Tj.setTop (mkF m 33 #[.val (.ref a1), .val (.int ((Int32.ofNat 0) - (1 : Int32)))] [(.int ((Int32.ofNat 0) - (1 : Int32))), (.ref a1)])) t
        refine XS.iconst Xj.here hx rfl (hb hby d20_33) ?_
        refine XS.iadd Xj.here hx rfl (hb hby d20_34) rfl ?_
        exact k
      rw [show (((Int32.ofNat 0) - (1 : Int32)) + (1 : Int32)) = (Int32.ofNat 0) from by decide]
      show WP p.tables e below _ Tj (mkF m 35 #[.val (.ref a1), .val (.int ((Int32.ofNat 0) - (1 : Int32)))] [(.int (Int32.ofNat 0)), (.ref a1)])
      obtain ⟨T68, h68, X68, e68, W68, st68⟩ := putF Xj hx hZ hown (host := "") (Or.inl (w_41 hw)) Via.refl ej F_a1_wordsInUse E_a1 (Or.inl (w_42 hw)) (w_35 hw) (ty := .int) (by decide) rfl rfl (g := (mkF m 35 #[.val (.ref a1), .val (.int ((Int32.ofNat 0) - (1 : Int32)))] [(.int (Int32.ofNat 0)), (.ref a1)])) rfl rfl (hb hby d20_35)
      refine WP.st st68 ?_
      clear st68
      replace E_a1 := E_a1.wr W68
      replace F_a1_words := F_a1_words.other W68 (Or.inr (sn_2 hw))
      replace F_a1_wordsInUse := F_a1_wordsInUse.same W68
      replace F_a1_sizeIsSticky := F_a1_sizeIsSticky.other W68 (Or.inr (sn_3 hw))
      replace V_tw := V_tw.other W68 (Ne.symm ne_a1_tw)
      replace OLD := OLD.wr W68 g_a1
      replace Z0 := Nat.le_trans Z0 (Keep.of_wr W68).1
      replace KP := KP.wr W68 (Or.inl (List.mem_of_getElem? (i := 0) rfl))
      replace NF := Fr.snoc X68 NF g_a1
      clear W68
      have hXN : ∃ LL, Stand p l e ({ frames := 0, cells := 0, slots := 0, locals := 0 } : Room) s m #[(.ref a1)] below meth c T68 LL 0 0 ∧ Fr n0 LL := ⟨_, X68, NF⟩
      clear X68 NF
      obtain ⟨LL69, X68, NF⟩ := hXN
      show WP p.tables e below _ T68 (mkF m 38 #[.val (.ref a1), .val (.int ((Int32.ofNat 0) - (1 : Int32)))] [])
      subst hG
      obtain ⟨fs, hr, hrun, hended, hW, hsame⟩ := X68.leave (v := none) (fun _ => rfl)
      refine WP.fin ⟨_, _, ?_, hrun, hended, _, _, rfl, ?_, ⟨_, rfl⟩, hW, hsame.mono (by decide) (by decide)⟩
      · exact X68.returnOut hx Bd.returns (hb hby d20_38) hr
      · show Q20 Z a1 tw kw ws u st h0 n0 _ T68.heap _
        rw [e68]
        exact ⟨0, rfl, NF, KP, F_a1_words, F_a1_wordsInUse, F_a1_sizeIsSticky, ⟨Nat.zero_le _, fun k _ => hz k (Nat.zero_le _)⟩⟩
    | succ n ih =>
      intro hn hz Tj Lj Xj ej NF
      rw [own_dec]
      have hnl : n < ws.length := by have := hinv.1; omega
      have hnn : ¬ ((Int32.ofNat n) < (0 : Int32)) := own_nn (Nat.lt_trans hnl (Nat.lt_of_le_of_lt hwm (by decide : 2048 < 2 ^ 31)))
      refine WP.st (T' := Tj) (f' := (mkF m 12 #[.val (.ref a1), .val (.int (Int32.ofNat n))] [(.ref a1)])) (fun t k => ?_) ?_
      · refine XS.iloadN Xj.here hx rfl (hb hby d20_7) rfl ?_
        refine XS.ifNo Xj.here hx rfl (hb hby d20_8) rfl ((if0 _ _).trans (flt hnn).1) ?_
        refine XS.aloadN Xj.here hx rfl (hb hby d20_11) rfl rfl ?_
        exact k
      obtain ⟨T70, X70, e70, st70⟩ := getF Xj hx hZ hown (host := "") (Or.inl (w_54 hw)) Via.refl ej F_a1_words (g := (mkF m 12 #[.val (.ref a1), .val (.int (Int32.ofNat n))] [(.ref a1)])) rfl rfl (hb hby d20_12)
      refine WP.st st70 ?_
      clear st70
      show WP p.tables e below _ T70 (mkF m 15 #[.val (.ref a1), .val (.int (Int32.ofNat n))] [(.ref tw)])
      refine WP.st (T' := T70) (f' := (mkF m 16 #[.val (.ref a1), .val (.int (Int32.ofNat n))] [(.int (Int32.ofNat n)), (.ref tw)])) (fun t k => ?_) ?_
      · refine XS.iloadN X70.here hx rfl (hb hby d20_15) rfl ?_
        exact k
      obtain ⟨cl71, Ar71, hin71, hat71, -⟩ := V_tw.rd (j := (Int32.ofNat n)) ⟨own_nn (Nat.lt_trans hnl (Nat.lt_of_le_of_lt hwm (by decide : 2048 < 2 ^ 31))), (own_lt (Nat.lt_trans hnl (Nat.lt_of_le_of_lt hwm (by decide : 2048 < 2 ^ 31))) (Nat.lt_of_le_of_lt hwm (by decide : 2048 < 2 ^ 31))).2 hnl⟩
      rw [show ((ws.map Value.long) : List Value).getD ((Int32.ofNat n)).toNatClampNeg (.long (0 : Int64)) = (.long (ws.getD n 0)) from own_mapget (Nat.lt_trans hnl (Nat.lt_of_le_of_lt hwm (by decide : 2048 < 2 ^ 31)))] at hat71
      refine WP.st (T' := T70) (f' := (mkF m 19 #[.val (.ref a1), .val (.int (Int32.ofNat n))] [(.int (lcmpW (ws.getD n 0) (0 : Int64)))])) (fun t k => ?_) ?_
      · refine X70.laload hx (j := (Int32.ofNat n)) (v := (.long (ws.getD n 0))) (by rw [e70]; exact Ar71.1) (State.isArrayOf_alike hZ.alike Ar71.2.1) Ar71.2.2 hin71 hat71 (g := (mkF m 16 #[.val (.ref a1), .val (.int (Int32.ofNat n))] [(.int (Int32.ofNat n)), (.ref tw)])) rfl rfl (hb hby d20_16) _ ?_
        refine XS.lconst X70.here hx rfl (hb hby d20_17) ?_
        refine XS.lcmp X70.here hx rfl (hb hby d20_18) rfl ?_
        exact k
      by_cases hc72 : (lcmpW (ws.getD n 0) (0 : Int64)) = (0 : Int32)
      · skip
        refine WP.st (T' := T70) (f' := (mkF m 28 #[.val (.ref a1), .val (.int ((Int32.ofNat n) + (-1 : Int32)))] [])) (fun t k => ?_) ?_
        · refine XS.ifYes X70.here hx rfl (pc0 := 19) (pc' := 25) rfl (hb hby d20_19) rfl ((if0 _ _).trans (teq hc72).1) (by decide) (by decide) ?_
          refine XS.iinc X70.here hx rfl (hb hby d20_25) rfl (l' := #[.val (.ref a1), .val (.int ((Int32.ofNat n) + (-1 : Int32)))]) rfl ?_
          exact k
        rw [own_incr]
        show WP p.tables e below _ T70 (mkF m 28 #[.val (.ref a1), .val (.int ((Int32.ofNat n) - (1 : Int32)))] [])
        refine WP.st (T' := T70) (f' := (mkF m 7 #[.val (.ref a1), .val (.int ((Int32.ofNat n) - (1 : Int32)))] [])) (fun t k => ?_) ?_
        · refine XS.goto X70.here hx rfl (pc0 := 28) (pc' := 7) rfl (hb hby d20_28) (by decide) (by decide) ?_
          exact k
        exact ih (by omega) (fun k hk => (Nat.eq_or_lt_of_le hk).elim (fun q => q ▸ (lw_eq _ _).1 hc72) (fun q => hz k q)) _ _ X70 e70 NF
      · skip
        refine WP.st (T' := T70) (f' := (mkF m 35 #[.val (.ref a1), .val (.int (Int32.ofNat n))] [(.int ((Int32.ofNat n) + (1 : Int32))), (.ref a1)])) (fun t k => ?_) ?_
        · refine XS.ifNo X70.here hx rfl (hb hby d20_19) rfl ((if0 _ _).trans (feq hc72).1) ?_
          refine XS.goto X70.here hx rfl (pc0 := 22) (pc' := 31) rfl (hb hby d20_22) (by decide) (by decide) ?_
          refine XS.aloadN X70.here hx rfl (hb hby d20_31) rfl rfl ?_
          refine XS.iloadN X70.here hx rfl (hb hby d20_32) rfl ?_
          show Steps p.tables e below (T70.setTop (mkF m 33 #[.val (.ref a1), .val (.int (Int32.ofNat n))] [(.int (Int32.ofNat n)), (.ref a1)])) t
          refine XS.iconst X70.here hx rfl (hb hby d20_33) ?_
          refine XS.iadd X70.here hx rfl (hb hby d20_34) rfl ?_
          exact k
        rw [show ((Int32.ofNat n) + (1 : Int32)) = (Int32.ofNat (n + 1)) from own_add n 1]
        show WP p.tables e below _ T70 (mkF m 35 #[.val (.ref a1), .val (.int (Int32.ofNat n))] [(.int (Int32.ofNat (n + 1))), (.ref a1)])
        obtain ⟨T73, h73, X73, e73, W73, st73⟩ := putF X70 hx hZ hown (host := "") (Or.inl (w_41 hw)) Via.refl e70 F_a1_wordsInUse E_a1 (Or.inl (w_42 hw)) (w_35 hw) (ty := .int) (by decide) rfl rfl (g := (mkF m 35 #[.val (.ref a1), .val (.int (Int32.ofNat n))] [(.int (Int32.ofNat (n + 1))), (.ref a1)])) rfl rfl (hb hby d20_35)
        refine WP.st st73 ?_
        clear st73
        replace E_a1 := E_a1.wr W73
        replace F_a1_words := F_a1_words.other W73 (Or.inr (sn_2 hw))
        replace F_a1_wordsInUse := F_a1_wordsInUse.same W73
        replace F_a1_sizeIsSticky := F_a1_sizeIsSticky.other W73 (Or.inr (sn_3 hw))
        replace V_tw := V_tw.other W73 (Ne.symm ne_a1_tw)
        replace OLD := OLD.wr W73 g_a1
        replace Z0 := Nat.le_trans Z0 (Keep.of_wr W73).1
        replace KP := KP.wr W73 (Or.inl (List.mem_of_getElem? (i := 0) rfl))
        replace NF := Fr.snoc X73 NF g_a1
        clear W73
        have hXN : ∃ LL, Stand p l e ({ frames := 0, cells := 0, slots := 0, locals := 0 } : Room) s m #[(.ref a1)] below meth c T73 LL 0 0 ∧ Fr n0 LL := ⟨_, X73, NF⟩
        clear X73 NF
        obtain ⟨LL74, X73, NF⟩ := hXN
        show WP p.tables e below _ T73 (mkF m 38 #[.val (.ref a1), .val (.int (Int32.ofNat n))] [])
        subst hG
        obtain ⟨fs, hr, hrun, hended, hW, hsame⟩ := X73.leave (v := none) (fun _ => rfl)
        refine WP.fin ⟨_, _, ?_, hrun, hended, _, _, rfl, ?_, ⟨_, rfl⟩, hW, hsame.mono (by decide) (by decide)⟩
        · exact X73.returnOut hx Bd.returns (hb hby d20_38) hr
        · show Q20 Z a1 tw kw ws u st h0 n0 _ T73.heap _
          rw [e73]
          exact ⟨(n + 1), rfl, NF, KP, F_a1_words, F_a1_wordsInUse, F_a1_sizeIsSticky, ⟨by omega, hz⟩⟩
  exact LP u (Nat.le_refl _) hinv.2 _ _ X66 e66 NF
theorem ef_19 (m : MethodId) (z0 : Addr) (z1 : Int32) : entryFrame m #[(.ref z0), (.int z1)] 3 = mkF m 0 #[.val (.ref z0), .val (.int z1), .unset] [] := by
  all_goals first | (simp [entryFrame, mkF, argsToLocals, Value.category]; done) | rfl
theorem d19_0 : decode jdk_92_method_23_code 0 = .ok (.iload_n 1, 1) := by decide +kernel
theorem d19_1 : decode jdk_92_method_23_code 1 = .ok (.ifCond .ge 30, 3) := by decide +kernel
theorem d19_31 : decode jdk_92_method_23_code 31 = .ok (.iload_n 1, 1) := by decide +kernel
theorem d19_32 : decode jdk_92_method_23_code 32 = .ok (.invokestatic 52, 3) := by decide +kernel
theorem d19_35 : decode jdk_92_method_23_code 35 = .ok (.istore_n 2, 1) := by decide +kernel
theorem d19_36 : decode jdk_92_method_23_code 36 = .ok (.iload_n 2, 1) := by decide +kernel
theorem d19_37 : decode jdk_92_method_23_code 37 = .ok (.aload_n 0, 1) := by decide +kernel
theorem d19_38 : decode jdk_92_method_23_code 38 = .ok (.getfield 7, 3) := by decide +kernel
theorem d19_41 : decode jdk_92_method_23_code 41 = .ok (.if_icmp .lt 4, 3) := by decide +kernel
theorem d19_45 : decode jdk_92_method_23_code 45 = .ok (.aload_n 0, 1) := by decide +kernel
theorem d19_46 : decode jdk_92_method_23_code 46 = .ok (.getfield 11, 3) := by decide +kernel
theorem d19_49 : decode jdk_92_method_23_code 49 = .ok (.iload_n 2, 1) := by decide +kernel
theorem d19_50 : decode jdk_92_method_23_code 50 = .ok (.dup2, 1) := by decide +kernel
theorem d19_51 : decode jdk_92_method_23_code 51 = .ok (.laload, 1) := by decide +kernel
theorem d19_52 : decode jdk_92_method_23_code 52 = .ok (.lconst 1, 1) := by decide +kernel
theorem d19_53 : decode jdk_92_method_23_code 53 = .ok (.iload_n 1, 1) := by decide +kernel
theorem d19_54 : decode jdk_92_method_23_code 54 = .ok (.lshl, 1) := by decide +kernel
theorem w_109 {a0 : Array Value} {Z : State} (hw : ∀ d ∈ tables_1, d.before a0 Z = true) : (Jvm.Cond.constantLong "java/util/BitSet" (165 : Nat) (-1 : Int64)).before a0 Z = true := hw _ (List.mem_of_getElem? (i := 109) rfl)
theorem d19_55 : decode jdk_92_method_23_code 55 = .ok (.ldc2_w 165, 3) := by decide +kernel
theorem d19_58 : decode jdk_92_method_23_code 58 = .ok (.lxor, 1) := by decide +kernel
theorem d19_59 : decode jdk_92_method_23_code 59 = .ok (.land, 1) := by decide +kernel
theorem d19_60 : decode jdk_92_method_23_code 60 = .ok (.lastore, 1) := by decide +kernel
theorem d19_61 : decode jdk_92_method_23_code 61 = .ok (.aload_n 0, 1) := by decide +kernel
theorem w_110 {a0 : Array Value} {Z : State} (hw : ∀ d ∈ tables_1, d.before a0 Z = true) : (Jvm.Cond.methodLink "java/util/BitSet" (158 : Nat) ({ cls := "java/util/BitSet", name := "recalculateWordsInUse", desc := "()V" } : Jvm.MethodName)).before a0 Z = true := hw _ (List.mem_of_getElem? (i := 110) rfl)
theorem d19_62 : decode jdk_92_method_23_code 62 = .ok (.invokevirtual 158, 3) := by decide +kernel
theorem w_114 {a0 : Array Value} {Z : State} (hw : ∀ d ∈ tables_1, d.before a0 Z = true) : (Jvm.Cond.code ({ cls := "java/util/BitSet", name := "recalculateWordsInUse", desc := "()V" } : Jvm.MethodName) jdk_92_method_3_code (2 : Nat) (Option.none : Option Jvm.ClassFile.FieldType)).before a0 Z = true := hw _ (List.mem_of_getElem? (i := 114) rfl)
theorem w_112 {a0 : Array Value} {Z : State} (hw : ∀ d ∈ tables_1, d.before a0 Z = true) : (Jvm.Cond.privateMethod ({ cls := "java/util/BitSet", name := "recalculateWordsInUse", desc := "()V" } : Jvm.MethodName)).before a0 Z = true := hw _ (List.mem_of_getElem? (i := 112) rfl)
theorem w_113 {a0 : Array Value} {Z : State} (hw : ∀ d ∈ tables_1, d.before a0 Z = true) : (Jvm.Cond.selects "java/util/BitSet" ({ cls := "java/util/BitSet", name := "recalculateWordsInUse", desc := "()V" } : Jvm.MethodName) ({ cls := "java/util/BitSet", name := "recalculateWordsInUse", desc := "()V" } : Jvm.MethodName)).before a0 Z = true := hw _ (List.mem_of_getElem? (i := 113) rfl)
theorem w_111 {a0 : Array Value} {Z : State} (hw : ∀ d ∈ tables_1, d.before a0 Z = true) : (Jvm.Cond.instanceMethod ({ cls := "java/util/BitSet", name := "recalculateWordsInUse", desc := "()V" } : Jvm.MethodName)).before a0 Z = true := hw _ (List.mem_of_getElem? (i := 111) rfl)
theorem d19_65 : decode jdk_92_method_23_code 65 = .ok (.aload_n 0, 1) := by decide +kernel
theorem d19_66 : decode jdk_92_method_23_code 66 = .ok (.invokevirtual 56, 3) := by decide +kernel
theorem d19_69 : decode jdk_92_method_23_code 69 = .ok (.return_, 1) := by decide +kernel
def Q19 (Z : State) (a1 : Addr) (tw : Addr) (kw : ClassId) (ws : List Int64) (u : Nat) (st : Int32) (i : Nat) (h0 : Heap) (n0 : Nat) (v : Option Value) (h : Heap) (L : List Loc) : Prop := ∃ ws3 : List Int64, ∃ u2 : Nat, v = none ∧ Fr n0 L ∧ Keep h0 h [a1, tw] ∧ Fld Z h a1 "java/util/BitSet" "words" "[J" (.ref tw) ∧ Fld Z h a1 "java/util/BitSet" "wordsInUse" "I" (.int (Int32.ofNat u2)) ∧ Fld Z h a1 "java/util/BitSet" "sizeIsSticky" "Z" (.int st) ∧ (Arv Z h tw kw .long (Int32.ofNat ws3.length) (ws3.map Value.long) (.long (0 : Int64))) ∧ (own_inv ws3 u2) ∧ (∀ k, k ≤ 65535 → own_get ws3 k = if k = i then 0 else own_get ws k) ∧ (ws3.length = ws.length)
set_option maxRecDepth 65536 in
set_option maxHeartbeats 40000000 in
theorem rm19 (l : Launch) (Z : State) (a0 : Array Value) (hw : ∀ d ∈ tables_1, d.before a0 Z = true) (wsC : List Jvm.Cond) (a1 : Addr) (tw : Addr) (kw : ClassId) (ws : List Int64) (u : Nat) (st : Int32) (i : Nat) (h0 : Heap) (n0 : Nat) (Z0 : n0 ≤ h0.size) (E_a1 : Exa Z h0 a1 "java/util/BitSet") (g_a1 : n0 ≤ a1) (F_a1_words : Fld Z h0 a1 "java/util/BitSet" "words" "[J" (.ref tw)) (F_a1_wordsInUse : Fld Z h0 a1 "java/util/BitSet" "wordsInUse" "I" (.int (Int32.ofNat u))) (F_a1_sizeIsSticky : Fld Z h0 a1 "java/util/BitSet" "sizeIsSticky" "Z" (.int st)) (V_tw : Arv Z h0 tw kw .long (Int32.ofNat ws.length) (ws.map Value.long) (.long (0 : Int64))) (g_tw : n0 ≤ tw) (ne_a1_tw : a1 ≠ tw) (hinv : own_inv ws u) (hwm : ws.length ≤ 2048) (OLD : Old Z n0 h0) (O5 : Sta Z Z.heap "java/util/BitSet" "$assertionsDisabled" "Z" (.int (1 : Int32))) (hi : i ≤ 65535) (hju : i / 64 < u) :
    MetFree l (⟨"java/util/BitSet", "clear", "(I)V"⟩ : MethodName) (head1 (Jvm.Cond.code (⟨"java/util/BitSet", "clear", "(I)V"⟩ : MethodName) jdk_92_method_23_code 3 none :: wsC) ({ frames := 1, cells := 0, slots := 0, locals := 13 } : Room)) (fun a U => a = #[(.ref a1), (.int (Int32.ofNat i))] ∧ Z.Warmed39 U.vm ∧ U.heap = h0) (fun _ _ _ _ _ => True) (fun _ U o U' => ∃ v L, o = .returned v ∧ Q19 Z a1 tw kw ws u st i h0 n0 v U'.heap L ∧ FrameEnd U o U' L ({ frames := 1, cells := 0, slots := 0, locals := 13 } : Room).cells ({ frames := 1, cells := 0, slots := 0, locals := 13 } : Room).slots) := by
  refine MetFree.of_bodySF (plainFor_of_name pn_0) hisR ?_
  intro p e s m args below meth c s₁ Bd hml0 hP hK
  obtain ⟨rfl, hZ, hh⟩ := hP
  have hx := Bd.exec
  have hby := Bd.bytes
  have hml : c.maxLocals = 3 := hml0
  have hown : s.vm.findClass "java/util/BitSet" = some m.cls := findClass_of_methodNamed Bd.named
  have hnm := (name_of_methodNamed Bd.named Bd.method).1
  have X0 : Stand p l e ({ frames := 1, cells := 0, slots := 0, locals := 13 } : Room) s m #[(.ref a1), (.int (Int32.ofNat i))] below meth c s₁ [] 0 0 := Stand.of_body Bd
  have e0 : s₁.heap = h0 := by rw [← hh, Bd.state]; rfl
  have NF := Fr.nil n0
  have KP : Keep h0 h0 [a1, tw] := Keep.refl h0 _
  refine WP.go ?_
  refine WP.cast (ef_19 m a1 (Int32.ofNat i)) ?_
  refine WP.name ?_
  intro G hG
  have hnn : ¬ ((Int32.ofNat i) < (0 : Int32)) := own_nn (Nat.lt_of_le_of_lt hi (by decide))
  have hjc : (Int32.ofNat (i / 64)) < (Int32.ofNat u) := (own_lt (by omega) (Nat.lt_of_le_of_lt hinv.1 (Nat.lt_of_le_of_lt hwm (by decide : 2048 < 2 ^ 31)))).2 hju
  refine WP.st (T' := s₁) (f' := (mkF m 32 #[.val (.ref a1), .val (.int (Int32.ofNat i)), .unset] [(.int (Int32.ofNat i))])) (fun t k => ?_) ?_
  · refine XS.iloadN X0.here hx rfl (hb hby d19_0) rfl ?_
    refine XS.ifYes X0.here hx rfl (pc0 := 1) (pc' := 31) rfl (hb hby d19_1) rfl ((if0 _ _).trans (flt hnn).2.1) (by decide) (by decide) ?_
    refine XS.iloadN X0.here hx rfl (hb hby d19_31) rfl ?_
    exact k
  obtain ⟨_, _, ⟨T75, L75, k75, n75⟩, -, X75, ⟨Lc75, hQ75, l75, y75, z75⟩, st75⟩ := Jvm.LawKit.callS X0 hx (y := (⟨"java/util/BitSet", "wordIndex", "(I)I"⟩ : MethodName)) hown (mvT hZ (w_50 hw)) (mvT hZ (w_51 hw)) (mvT hZ (w_36 hw)) (mvT hZ (w_52 hw)) (by decide) (backOf (W := 0) (rm9 l Z a0 hw [] i h0 n0 Z0 (hi : i ≤ 65535)) hZ (w_52 hw) (w_36 hw) (by decide) (by decide)) (g := (mkF m 32 #[.val (.ref a1), .val (.int (Int32.ofNat i)), .unset] [(.int (Int32.ofNat i))])) rfl (by rw [hml]; rfl) (argsL := [(.int (Int32.ofNat i))]) (rest := []) (lenOf pd_0 rfl) rfl (by show 2 * 0 + _ ≤ _; exact Nat.le_of_eq rfl) (hb hby d19_32) (fun _ _ => ⟨rfl, e0, (by decide : 0 + 0 ≤ _), (by decide : 0 + 0 ≤ _)⟩)
  dsimp only [Pt.U, Pt.locs, Pt.cells, Pt.slots] at X75 l75 y75 z75 st75 hQ75
  subst l75 y75 z75
  obtain ⟨rfl, Nq75, Kq75⟩ := hQ75
  replace NF := Fr.app NF Nq75
  clear Nq75
  refine WP.st st75 ?_
  clear st75
  replace Kq75 := Kq75.trans (rfl : h0 = h0)
  have hXN : ∃ LL, Stand p l e ({ frames := 1, cells := 0, slots := 0, locals := 13 } : Room) s m #[(.ref a1), (.int (Int32.ofNat i))] below meth c T75 LL 0 0 ∧ Fr n0 LL := ⟨_, X75, NF⟩
  clear X75 NF
  obtain ⟨LL76, X75, NF⟩ := hXN
  show WP p.tables e below _ T75 (mkF m 35 #[.val (.ref a1), .val (.int (Int32.ofNat i)), .unset] [(.int (Int32.ofNat (i / 64)))])
  refine WP.st (T' := T75) (f' := (mkF m 38 #[.val (.ref a1), .val (.int (Int32.ofNat i)), .val (.int (Int32.ofNat (i / 64)))] [(.ref a1), (.int (Int32.ofNat (i / 64)))])) (fun t k => ?_) ?_
  · refine XS.istoreN X75.here hx rfl (hb hby d19_35) rfl (l' := #[.val (.ref a1), .val (.int (Int32.ofNat i)), .val (.int (Int32.ofNat (i / 64)))]) rfl ?_
    refine XS.iloadN X75.here hx rfl (hb hby d19_36) rfl ?_
    refine XS.aloadN X75.here hx rfl (hb hby d19_37) rfl rfl ?_
    exact k
  obtain ⟨T77, X77, e77, st77⟩ := getF X75 hx hZ hown (host := "") (Or.inl (w_41 hw)) Via.refl Kq75 F_a1_wordsInUse (g := (mkF m 38 #[.val (.ref a1), .val (.int (Int32.ofNat i)), .val (.int (Int32.ofNat (i / 64)))] [(.ref a1), (.int (Int32.ofNat (i / 64)))])) rfl rfl (hb hby d19_38)
  refine WP.st st77 ?_
  clear st77
  show WP p.tables e below _ T77 (mkF m 41 #[.val (.ref a1), .val (.int (Int32.ofNat i)), .val (.int (Int32.ofNat (i / 64)))] [(.int (Int32.ofNat u)), (.int (Int32.ofNat (i / 64)))])
  refine WP.st (T' := T77) (f' := (mkF m 46 #[.val (.ref a1), .val (.int (Int32.ofNat i)), .val (.int (Int32.ofNat (i / 64)))] [(.ref a1)])) (fun t k => ?_) ?_
  · refine XS.icmpYes X77.here hx rfl (pc0 := 41) (pc' := 45) rfl (hb hby d19_41) rfl (tlt hjc).1 (by decide) (by decide) ?_
    refine XS.aloadN X77.here hx rfl (hb hby d19_45) rfl rfl ?_
    exact k
  obtain ⟨T78, X78, e78, st78⟩ := getF X77 hx hZ hown (host := "") (Or.inl (w_54 hw)) Via.refl e77 F_a1_words (g := (mkF m 46 #[.val (.ref a1), .val (.int (Int32.ofNat i)), .val (.int (Int32.ofNat (i / 64)))] [(.ref a1)])) rfl rfl (hb hby d19_46)
  refine WP.st st78 ?_
  clear st78
  show WP p.tables e below _ T78 (mkF m 49 #[.val (.ref a1), .val (.int (Int32.ofNat i)), .val (.int (Int32.ofNat (i / 64)))] [(.ref tw)])
  refine WP.st (T' := T78) (f' := (mkF m 51 #[.val (.ref a1), .val (.int (Int32.ofNat i)), .val (.int (Int32.ofNat (i / 64)))] [(.int (Int32.ofNat (i / 64))), (.ref tw), (.int (Int32.ofNat (i / 64))), (.ref tw)])) (fun t k => ?_) ?_
  · refine XS.iloadN X78.here hx rfl (hb hby d19_49) rfl ?_
    refine Jvm.Free.XT.dup2 X78.here hx rfl (hb hby d19_50) rfl rfl rfl ?_
    exact k
  obtain ⟨cl79, Ar79, hin79, hat79, -⟩ := V_tw.rd (j := (Int32.ofNat (i / 64))) ⟨own_nn (Nat.lt_trans (Nat.lt_of_lt_of_le hju hinv.1) (Nat.lt_of_le_of_lt hwm (by decide : 2048 < 2 ^ 31))), (own_lt (Nat.lt_trans (Nat.lt_of_lt_of_le hju hinv.1) (Nat.lt_of_le_of_lt hwm (by decide : 2048 < 2 ^ 31))) (Nat.lt_of_le_of_lt hwm (by decide : 2048 < 2 ^ 31))).2 (Nat.lt_of_lt_of_le hju hinv.1)⟩
  rw [show ((ws.map Value.long) : List Value).getD ((Int32.ofNat (i / 64))).toNatClampNeg (.long (0 : Int64)) = (.long (ws.getD (i / 64) 0)) from own_mapget (Nat.lt_trans (Nat.lt_of_lt_of_le hju hinv.1) (Nat.lt_of_le_of_lt hwm (by decide : 2048 < 2 ^ 31)))] at hat79
  refine WP.st (T' := T78) (f' := (mkF m 55 #[.val (.ref a1), .val (.int (Int32.ofNat i)), .val (.int (Int32.ofNat (i / 64)))] [(.long ((1 : Int64) <<< ((Int32.ofNat i) &&& 0x3f).toInt64)), (.long (ws.getD (i / 64) 0)), (.int (Int32.ofNat (i / 64))), (.ref tw)])) (fun t k => ?_) ?_
  · refine X78.laload hx (j := (Int32.ofNat (i / 64))) (v := (.long (ws.getD (i / 64) 0))) (by rw [e78]; exact Ar79.1) (State.isArrayOf_alike hZ.alike Ar79.2.1) Ar79.2.2 hin79 hat79 (g := (mkF m 51 #[.val (.ref a1), .val (.int (Int32.ofNat i)), .val (.int (Int32.ofNat (i / 64)))] [(.int (Int32.ofNat (i / 64))), (.ref tw), (.int (Int32.ofNat (i / 64))), (.ref tw)])) rfl rfl (hb hby d19_51) _ ?_
    refine XS.lconst X78.here hx rfl (hb hby d19_52) ?_
    refine XS.iloadN X78.here hx rfl (hb hby d19_53) rfl ?_
    refine XS.lshl X78.here hx rfl (hb hby d19_54) rfl ?_
    exact k
  rw [show ((1 : Int64) <<< ((Int32.ofNat i) &&& 0x3f).toInt64) = (own_bit i) from rfl]
  show WP p.tables e below _ T78 (mkF m 55 #[.val (.ref a1), .val (.int (Int32.ofNat i)), .val (.int (Int32.ofNat (i / 64)))] [(.long (own_bit i)), (.long (ws.getD (i / 64) 0)), (.int (Int32.ofNat (i / 64))), (.ref tw)])
  refine WP.st (T' := T78) (f' := (mkF m 60 #[.val (.ref a1), .val (.int (Int32.ofNat i)), .val (.int (Int32.ofNat (i / 64)))] [(.long ((ws.getD (i / 64) 0) &&& ((own_bit i) ^^^ (-1 : Int64)))), (.int (Int32.ofNat (i / 64))), (.ref tw)])) (fun t k => ?_) ?_
  · refine X78.ldc2Long hx hown (mvT hZ (w_109 hw)) (g := (mkF m 55 #[.val (.ref a1), .val (.int (Int32.ofNat i)), .val (.int (Int32.ofNat (i / 64)))] [(.long (own_bit i)), (.long (ws.getD (i / 64) 0)), (.int (Int32.ofNat (i / 64))), (.ref tw)])) rfl (hb hby d19_55) _ ?_
    refine XS.lxor X78.here hx rfl (hb hby d19_58) rfl ?_
    refine XS.land X78.here hx rfl (hb hby d19_59) rfl ?_
    exact k
  obtain ⟨cl80, Ar80, q80, S80, N80, H80, G80⟩ := V_tw
  have hin80 : ¬ ((Int32.ofNat (i / 64)) < 0 ∨ cl80.slots.size ≤ ((Int32.ofNat (i / 64))).toNatClampNeg) := inb_of S80 ⟨own_nn (Nat.lt_trans (Nat.lt_of_lt_of_le hju hinv.1) (Nat.lt_of_le_of_lt hwm (by decide : 2048 < 2 ^ 31))), (own_lt (Nat.lt_trans (Nat.lt_of_lt_of_le hju hinv.1) (Nat.lt_of_le_of_lt hwm (by decide : 2048 < 2 ^ 31))) (Nat.lt_of_le_of_lt hwm (by decide : 2048 < 2 ^ 31))).2 (Nat.lt_of_lt_of_le hju hinv.1)⟩
  obtain ⟨T81, h81, X81, e81, W81, st81⟩ := stJ X78 hx hZ e78 Ar80 (j := (Int32.ofNat (i / 64))) hin80 (g := (mkF m 60 #[.val (.ref a1), .val (.int (Int32.ofNat i)), .val (.int (Int32.ofNat (i / 64)))] [(.long ((ws.getD (i / 64) 0) &&& ((own_bit i) ^^^ (-1 : Int64)))), (.int (Int32.ofNat (i / 64))), (.ref tw)])) rfl rfl (hb hby d19_60)
  refine WP.st st81 ?_
  clear st81
  have Vn : Arv Z h81 tw kw .long (Int32.ofNat (ws.set (i / 64) ((ws.getD (i / 64) 0) &&& ((own_bit i) ^^^ (-1 : Int64)))).length) ((ws.set (i / 64) ((ws.getD (i / 64) 0) &&& ((own_bit i) ^^^ (-1 : Int64)))).map Value.long) (.long (0 : Int64)) := by rw [List.length_set, List.map_set]; exact Arv.set Ar80 q80 S80 N80 H80 G80 rfl W81 _ (own_clamp (Nat.lt_trans (Nat.lt_of_lt_of_le hju hinv.1) (Nat.lt_of_le_of_lt hwm (by decide : 2048 < 2 ^ 31)))) (by rw [List.length_map]; exact (Nat.lt_of_lt_of_le hju hinv.1))
  replace E_a1 := E_a1.wr W81
  replace F_a1_words := F_a1_words.other W81 (Or.inl ne_a1_tw)
  replace F_a1_wordsInUse := F_a1_wordsInUse.other W81 (Or.inl ne_a1_tw)
  replace F_a1_sizeIsSticky := F_a1_sizeIsSticky.other W81 (Or.inl ne_a1_tw)
  replace OLD := OLD.wr W81 g_tw
  replace Z0 := Nat.le_trans Z0 (Keep.of_wr W81).1
  replace KP := KP.wr W81 (Or.inl (List.mem_of_getElem? (i := 1) rfl))
  replace V_tw := Vn
  replace NF := Fr.snoc X81 NF g_tw
  clear W81 hin80 q80 S80 N80 H80 G80 Ar80
  have hXN : ∃ LL, Stand p l e ({ frames := 1, cells := 0, slots := 0, locals := 13 } : Room) s m #[(.ref a1), (.int (Int32.ofNat i))] below meth c T81 LL 0 0 ∧ Fr n0 LL := ⟨_, X81, NF⟩
  clear X81 NF
  obtain ⟨LL82, X81, NF⟩ := hXN
  show WP p.tables e below _ T81 (mkF m 61 #[.val (.ref a1), .val (.int (Int32.ofNat i)), .val (.int (Int32.ofNat (i / 64)))] [])
  refine WP.st (T' := T81) (f' := (mkF m 62 #[.val (.ref a1), .val (.int (Int32.ofNat i)), .val (.int (Int32.ofNat (i / 64)))] [(.ref a1)])) (fun t k => ?_) ?_
  · refine XS.aloadN X81.here hx rfl (hb hby d19_61) rfl rfl ?_
    exact k
  obtain ⟨cq83, q83, q83'⟩ := E_a1.cell
  obtain ⟨_, _, ⟨T83, L83, k83, n83⟩, -, X83, ⟨Lc83, hQ83, l83, y83, z83⟩, st83⟩ := X81.privateBack hx (y := (⟨"java/util/BitSet", "recalculateWordsInUse", "()V"⟩ : MethodName)) hown (mvT hZ (w_110 hw)) (mvT hZ (w_111 hw)) (mvT hZ (w_113 hw)) (Cond.privateMethod_at (mvP hZ (w_112 hw) (args := #[]))) (mvT hZ (w_114 hw)) (by decide) (backOf (W := 0) (rm20 l Z a0 hw [] a1 tw kw (ws.set (i / 64) ((ws.getD (i / 64) 0) &&& ((own_bit i) ^^^ (-1 : Int64)))) u st h81 n0 Z0 E_a1 g_a1 F_a1_words F_a1_wordsInUse F_a1_sizeIsSticky V_tw g_tw ne_a1_tw ((own_inv_set hinv hju) : own_inv (ws.set (i / 64) ((ws.getD (i / 64) 0) &&& ((own_bit i) ^^^ (-1 : Int64)))) u) (by rw [List.length_set]; exact hwm : (ws.set (i / 64) ((ws.getD (i / 64) 0) &&& ((own_bit i) ^^^ (-1 : Int64)))).length ≤ 2048) OLD (O5 : Sta Z Z.heap "java/util/BitSet" "$assertionsDisabled" "Z" (.int (1 : Int32)))) hZ (w_114 hw) (w_36 hw) (by decide) (by decide)) (g := (mkF m 62 #[.val (.ref a1), .val (.int (Int32.ofNat i)), .val (.int (Int32.ofNat (i / 64)))] [(.ref a1)])) rfl (by rw [hml]; rfl) (Steps.refl _) (a := a1) (by rw [e81]; exact q83) q83' (argsL := []) (rest := []) (lenOf pd_4 rfl) rfl (by show 2 * 0 + _ ≤ _; exact Nat.le_of_eq rfl) (hb hby d19_62) (fun _ _ => ⟨rfl, e81, (by decide : 0 + 0 ≤ _), (by decide : 0 + 0 ≤ _)⟩)
  dsimp only [Pt.U, Pt.locs, Pt.cells, Pt.slots] at X83 l83 y83 z83 st83 hQ83
  subst l83 y83 z83
  obtain ⟨u2_83, rfl, Nq83, Kq83, nF83_a1_words, nF83_a1_wordsInUse, nF83_a1_sizeIsSticky, hinv2_83⟩ := hQ83
  replace NF := Fr.app NF Nq83
  clear Nq83
  refine WP.tr st83 ?_
  clear st83
  obtain ⟨h83, e83⟩ : ∃ h, T83.heap = h := ⟨_, rfl⟩
  rw [e83] at Kq83 nF83_a1_words nF83_a1_wordsInUse nF83_a1_sizeIsSticky
  replace E_a1 := E_a1.keep Kq83
  clear F_a1_words
  clear F_a1_wordsInUse
  clear F_a1_sizeIsSticky
  replace OLD := OLD.keep Kq83 (allS g_a1 all0)
  replace V_tw := V_tw.keep Kq83 (by exact ninS (Ne.symm ne_a1_tw) (nin0))
  replace Z0 := Nat.le_trans Z0 Kq83.1
  replace KP := KP.trans Kq83 (allS (Or.inl (List.mem_of_getElem? (i := 0) rfl)) all0)
  clear Kq83
  have F_a1_words := nF83_a1_words
  clear nF83_a1_words
  have F_a1_wordsInUse := nF83_a1_wordsInUse
  clear nF83_a1_wordsInUse
  have F_a1_sizeIsSticky := nF83_a1_sizeIsSticky
  clear nF83_a1_sizeIsSticky
  have hXN : ∃ LL, Stand p l e ({ frames := 1, cells := 0, slots := 0, locals := 13 } : Room) s m #[(.ref a1), (.int (Int32.ofNat i))] below meth c T83 LL 0 0 ∧ Fr n0 LL := ⟨_, X83, NF⟩
  clear X83 NF
  obtain ⟨LL84, X83, NF⟩ := hXN
  show WP p.tables e below _ T83 (mkF m 65 #[.val (.ref a1), .val (.int (Int32.ofNat i)), .val (.int (Int32.ofNat (i / 64)))] [])
  refine WP.st (T' := T83) (f' := (mkF m 66 #[.val (.ref a1), .val (.int (Int32.ofNat i)), .val (.int (Int32.ofNat (i / 64)))] [(.ref a1)])) (fun t k => ?_) ?_
  · refine XS.aloadN X83.here hx rfl (hb hby d19_65) rfl rfl ?_
    exact k
  obtain ⟨cq85, q85, q85'⟩ := E_a1.cell
  obtain ⟨_, _, ⟨T85, L85, k85, n85⟩, -, X85, ⟨Lc85, hQ85, l85, y85, z85⟩, st85⟩ := X83.privateBack hx (y := (⟨"java/util/BitSet", "checkInvariants", "()V"⟩ : MethodName)) hown (mvT hZ (w_71 hw)) (mvT hZ (w_72 hw)) (mvT hZ (w_74 hw)) (Cond.privateMethod_at (mvP hZ (w_73 hw) (args := #[]))) (mvT hZ (w_75 hw)) (by decide) (backOf (W := 0) (rm13 l Z a0 hw [] a1 h83 n0 Z0 (O5.ext OLD.2)) hZ (w_75 hw) (w_36 hw) (by decide) (by decide)) (g := (mkF m 66 #[.val (.ref a1), .val (.int (Int32.ofNat i)), .val (.int (Int32.ofNat (i / 64)))] [(.ref a1)])) rfl (by rw [hml]; rfl) (Steps.refl _) (a := a1) (by rw [e83]; exact q85) q85' (argsL := []) (rest := []) (lenOf pd_4 rfl) rfl (by show 2 * 0 + _ ≤ _; exact Nat.le_of_eq rfl) (hb hby d19_66) (fun _ _ => ⟨rfl, e83, (by decide : 0 + 0 ≤ _), (by decide : 0 + 0 ≤ _)⟩)
  dsimp only [Pt.U, Pt.locs, Pt.cells, Pt.slots] at X85 l85 y85 z85 st85 hQ85
  subst l85 y85 z85
  obtain ⟨rfl, Nq85, Kq85⟩ := hQ85
  replace NF := Fr.app NF Nq85
  clear Nq85
  refine WP.tr st85 ?_
  clear st85
  replace Kq85 := Kq85.trans (rfl : h83 = h83)
  have hXN : ∃ LL, Stand p l e ({ frames := 1, cells := 0, slots := 0, locals := 13 } : Room) s m #[(.ref a1), (.int (Int32.ofNat i))] below meth c T85 LL 0 0 ∧ Fr n0 LL := ⟨_, X85, NF⟩
  clear X85 NF
  obtain ⟨LL86, X85, NF⟩ := hXN
  show WP p.tables e below _ T85 (mkF m 69 #[.val (.ref a1), .val (.int (Int32.ofNat i)), .val (.int (Int32.ofNat (i / 64)))] [])
  subst hG
  obtain ⟨fs, hr, hrun, hended, hW, hsame⟩ := X85.leave (v := none) (fun _ => rfl)
  refine WP.fin ⟨_, _, ?_, hrun, hended, _, _, rfl, ?_, ⟨_, rfl⟩, hW, hsame.mono (by decide) (by decide)⟩
  · exact X85.returnOut hx Bd.returns (hb hby d19_69) hr
  · show Q19 Z a1 tw kw ws u st i h0 n0 _ T85.heap _
    rw [Kq85]
    exact ⟨(ws.set (i / 64) ((ws.getD (i / 64) 0) &&& ((own_bit i) ^^^ (-1 : Int64)))), u2_83, rfl, NF, KP, F_a1_words, F_a1_wordsInUse, F_a1_sizeIsSticky, V_tw, hinv2_83, (fun k hk => own_clr_get hi hk (Nat.lt_of_lt_of_le hju hinv.1)), (List.length_set ..)⟩
theorem ef_2 (m : MethodId) (z0 : Addr) : entryFrame m #[(.ref z0)] 1 = mkF m 0 #[.val (.ref z0)] [] := by
  all_goals first | (simp [entryFrame, mkF, argsToLocals, Value.category]; done) | rfl
theorem pn_2 : plainName "com/example/otayori/otayori/codec/PacketIds" = true := by first | (simp [plainName, overriddenIn]; done) | decide +kernel
theorem d2_0 : decode prog_12_method_1_code 0 = .ok (.aload_n 0, 1) := by decide +kernel
theorem w_12 {a0 : Array Value} {Z : State} (hw : ∀ d ∈ tables_1, d.before a0 Z = true) : (Jvm.Cond.methodLink "com/example/otayori/otayori/codec/PacketIds" (1 : Nat) ({ cls := "java/lang/Object", name := "<init>", desc := "()V" } : Jvm.MethodName)).before a0 Z = true := hw _ (List.mem_of_getElem? (i := 12) rfl)
theorem d2_1 : decode prog_12_method_1_code 1 = .ok (.invokespecial 1, 3) := by decide +kernel
theorem d2_4 : decode prog_12_method_1_code 4 = .ok (.aload_n 0, 1) := by decide +kernel
theorem d2_5 : decode prog_12_method_1_code 5 = .ok (.iconst 1, 1) := by decide +kernel
theorem w_15 {a0 : Array Value} {Z : State} (hw : ∀ d ∈ tables_1, d.before a0 Z = true) : (Jvm.Cond.fieldLink "com/example/otayori/otayori/codec/PacketIds" (7 : Nat) "com/example/otayori/otayori/codec/PacketIds" "next" "I").before a0 Z = true := hw _ (List.mem_of_getElem? (i := 15) rfl)
theorem w_16 {a0 : Array Value} {Z : State} (hw : ∀ d ∈ tables_1, d.before a0 Z = true) : (Jvm.Cond.lays "com/example/otayori/otayori/codec/PacketIds" "com/example/otayori/otayori/codec/PacketIds" "next" "I").before a0 Z = true := hw _ (List.mem_of_getElem? (i := 16) rfl)
theorem w_7 {a0 : Array Value} {Z : State} (hw : ∀ d ∈ tables_1, d.before a0 Z = true) : (Jvm.Cond.instantiable "com/example/otayori/otayori/codec/PacketIds" (3 : Nat)).before a0 Z = true := hw _ (List.mem_of_getElem? (i := 7) rfl)
theorem d2_6 : decode prog_12_method_1_code 6 = .ok (.putfield 7, 3) := by decide +kernel
theorem w_23 {a0 : Array Value} {Z : State} (hw : ∀ d ∈ tables_1, d.before a0 Z = true) : (Jvm.Cond.lays "com/example/otayori/otayori/codec/PacketIds" "com/example/otayori/otayori/codec/PacketIds" "held" "Ljava/util/BitSet;").before a0 Z = true := hw _ (List.mem_of_getElem? (i := 23) rfl)
theorem sn_6 {a0 : Array Value} {Z : State} (hw : ∀ d ∈ tables_1, d.before a0 Z = true) : Jvm.RoadKit.slotOf Z "com/example/otayori/otayori/codec/PacketIds" "held" "Ljava/util/BitSet;" ≠ Jvm.RoadKit.slotOf Z "com/example/otayori/otayori/codec/PacketIds" "next" "I" := slot_ne (Or.inl (w_23 hw)) (Or.inl (w_16 hw)) (by decide) (t := (.object "java/util/BitSet")) (t' := .int) (by decide) (by decide)
theorem w_78 {a0 : Array Value} {Z : State} (hw : ∀ d ∈ tables_1, d.before a0 Z = true) : (Jvm.Cond.lays "com/example/otayori/otayori/codec/PacketIds" "com/example/otayori/otayori/codec/PacketIds" "count" "I").before a0 Z = true := hw _ (List.mem_of_getElem? (i := 78) rfl)
theorem sn_7 {a0 : Array Value} {Z : State} (hw : ∀ d ∈ tables_1, d.before a0 Z = true) : Jvm.RoadKit.slotOf Z "com/example/otayori/otayori/codec/PacketIds" "count" "I" ≠ Jvm.RoadKit.slotOf Z "com/example/otayori/otayori/codec/PacketIds" "next" "I" := slot_ne (Or.inl (w_78 hw)) (Or.inl (w_16 hw)) (by decide) (t := .int) (t' := .int) (by decide) (by decide)
theorem d2_9 : decode prog_12_method_1_code 9 = .ok (.return_, 1) := by decide +kernel
def Q2 (Z : State) (a1 : Addr) (cn : Int32) (nx : Int32) (h0 : Heap) (n0 : Nat) (v : Option Value) (h : Heap) (L : List Loc) : Prop := v = none ∧ Fr n0 L ∧ Keep h0 h [a1] ∧ Fld Z h a1 "com/example/otayori/otayori/codec/PacketIds" "held" "Ljava/util/BitSet;" .null ∧ Fld Z h a1 "com/example/otayori/otayori/codec/PacketIds" "count" "I" (.int cn) ∧ Fld Z h a1 "com/example/otayori/otayori/codec/PacketIds" "next" "I" (.int (1 : Int32))
set_option maxRecDepth 65536 in
set_option maxHeartbeats 40000000 in
theorem rm2 (l : Launch) (Z : State) (a0 : Array Value) (hw : ∀ d ∈ tables_1, d.before a0 Z = true) (wsC : List Jvm.Cond) (a1 : Addr) (cn : Int32) (nx : Int32) (h0 : Heap) (n0 : Nat) (Z0 : n0 ≤ h0.size) (E_a1 : Exa Z h0 a1 "com/example/otayori/otayori/codec/PacketIds") (g_a1 : n0 ≤ a1) (F_a1_held : Fld Z h0 a1 "com/example/otayori/otayori/codec/PacketIds" "held" "Ljava/util/BitSet;" .null) (F_a1_count : Fld Z h0 a1 "com/example/otayori/otayori/codec/PacketIds" "count" "I" (.int cn)) (F_a1_next : Fld Z h0 a1 "com/example/otayori/otayori/codec/PacketIds" "next" "I" (.int nx)) :
    MetFree l (⟨"com/example/otayori/otayori/codec/PacketIds", "<init>", "()V"⟩ : MethodName) (head1 (Jvm.Cond.code (⟨"com/example/otayori/otayori/codec/PacketIds", "<init>", "()V"⟩ : MethodName) prog_12_method_1_code 1 none :: wsC) ({ frames := 1, cells := 0, slots := 0, locals := 12 } : Room)) (fun a U => a = #[(.ref a1)] ∧ Z.Warmed39 U.vm ∧ U.heap = h0) (fun _ _ _ _ _ => True) (fun _ U o U' => ∃ v L, o = .returned v ∧ Q2 Z a1 cn nx h0 n0 v U'.heap L ∧ FrameEnd U o U' L ({ frames := 1, cells := 0, slots := 0, locals := 12 } : Room).cells ({ frames := 1, cells := 0, slots := 0, locals := 12 } : Room).slots) := by
  refine MetFree.of_bodySF (plainFor_of_name pn_2) hisR ?_
  intro p e s m args below meth c s₁ Bd hml0 hP hK
  obtain ⟨rfl, hZ, hh⟩ := hP
  have hx := Bd.exec
  have hby := Bd.bytes
  have hml : c.maxLocals = 1 := hml0
  have hown : s.vm.findClass "com/example/otayori/otayori/codec/PacketIds" = some m.cls := findClass_of_methodNamed Bd.named
  have hnm := (name_of_methodNamed Bd.named Bd.method).1
  have X0 : Stand p l e ({ frames := 1, cells := 0, slots := 0, locals := 12 } : Room) s m #[(.ref a1)] below meth c s₁ [] 0 0 := Stand.of_body Bd
  have e0 : s₁.heap = h0 := by rw [← hh, Bd.state]; rfl
  have NF := Fr.nil n0
  have KP : Keep h0 h0 [a1] := Keep.refl h0 _
  refine WP.go ?_
  refine WP.cast (ef_2 m a1) ?_
  refine WP.name ?_
  intro G hG
  refine WP.st (T' := s₁) (f' := (mkF m 1 #[.val (.ref a1)] [(.ref a1)])) (fun t k => ?_) ?_
  · refine XS.aloadN X0.here hx rfl (hb hby d2_0) rfl rfl ?_
    exact k
  obtain ⟨T87, X87, e87, st87⟩ := initO X0 hx hZ hown (w_12 hw) (w_13 hw) (w_14 hw) e0 (g := (mkF m 1 #[.val (.ref a1)] [(.ref a1)])) rfl (by rw [hml]; rfl) rfl (hb hby d2_1) (by decide) (W := 0) (by show 2 * 0 + _ ≤ _; exact Nat.le_of_eq rfl) (by decide)
  refine WP.st st87 ?_
  clear st87
  show WP p.tables e below _ T87 (mkF m 4 #[.val (.ref a1)] [])
  refine WP.st (T' := T87) (f' := (mkF m 6 #[.val (.ref a1)] [(.int (1 : Int32)), (.ref a1)])) (fun t k => ?_) ?_
  · refine XS.aloadN X87.here hx rfl (hb hby d2_4) rfl rfl ?_
    refine XS.iconst X87.here hx rfl (hb hby d2_5) ?_
    exact k
  obtain ⟨T88, h88, X88, e88, W88, st88⟩ := putF X87 hx hZ hown (host := "") (Or.inl (w_15 hw)) Via.refl e87 F_a1_next E_a1 (Or.inl (w_16 hw)) (w_7 hw) (ty := .int) (by decide) rfl rfl (g := (mkF m 6 #[.val (.ref a1)] [(.int (1 : Int32)), (.ref a1)])) rfl rfl (hb hby d2_6)
  refine WP.st st88 ?_
  clear st88
  replace E_a1 := E_a1.wr W88
  replace F_a1_held := F_a1_held.other W88 (Or.inr (sn_6 hw))
  replace F_a1_count := F_a1_count.other W88 (Or.inr (sn_7 hw))
  replace F_a1_next := F_a1_next.same W88
  replace Z0 := Nat.le_trans Z0 (Keep.of_wr W88).1
  replace KP := KP.wr W88 (Or.inl (List.mem_of_getElem? (i := 0) rfl))
  replace NF := Fr.snoc X88 NF g_a1
  clear W88
  have hXN : ∃ LL, Stand p l e ({ frames := 1, cells := 0, slots := 0, locals := 12 } : Room) s m #[(.ref a1)] below meth c T88 LL 0 0 ∧ Fr n0 LL := ⟨_, X88, NF⟩
  clear X88 NF
  obtain ⟨LL89, X88, NF⟩ := hXN
  show WP p.tables e below _ T88 (mkF m 9 #[.val (.ref a1)] [])
  subst hG
  obtain ⟨fs, hr, hrun, hended, hW, hsame⟩ := X88.leave (v := none) (fun _ => rfl)
  refine WP.fin ⟨_, _, ?_, hrun, hended, _, _, rfl, ?_, ⟨_, rfl⟩, hW, hsame.mono (by decide) (by decide)⟩
  · exact X88.returnOut hx Bd.returns (hb hby d2_9) hr
  · show Q2 Z a1 cn nx h0 n0 _ T88.heap _
    rw [e88]
    exact ⟨rfl, NF, KP, F_a1_held, F_a1_count, F_a1_next⟩
theorem ef_4n (m : MethodId) (z0 : Addr) (z1 : Int32) : entryFrame m #[(.ref z0), (.int z1)] 2 = mkF m 0 #[.val (.ref z0), .val (.int z1)] [] := by
  all_goals first | (simp [entryFrame, mkF, argsToLocals, Value.category]; done) | rfl
theorem d4_0 : decode prog_12_method_4_code 0 = .ok (.aload_n 0, 1) := by decide +kernel
theorem w_22 {a0 : Array Value} {Z : State} (hw : ∀ d ∈ tables_1, d.before a0 Z = true) : (Jvm.Cond.fieldLink "com/example/otayori/otayori/codec/PacketIds" (35 : Nat) "com/example/otayori/otayori/codec/PacketIds" "held" "Ljava/util/BitSet;").before a0 Z = true := hw _ (List.mem_of_getElem? (i := 22) rfl)
theorem d4_1 : decode prog_12_method_4_code 1 = .ok (.getfield 35, 3) := by decide +kernel
theorem d4_4 : decode prog_12_method_4_code 4 = .ok (.ifnull 18, 3) := by decide +kernel
theorem d4_22 : decode prog_12_method_4_code 22 = .ok (.iconst 0, 1) := by decide +kernel
theorem d4_23 : decode prog_12_method_4_code 23 = .ok (.ireturn, 1) := by decide +kernel
def Q4n (Z : State) (a1 : Addr) (i : Nat) (h0 : Heap) (n0 : Nat) (v : Option Value) (h : Heap) (L : List Loc) : Prop := v = some (.int (0 : Int32)) ∧ Fr n0 L ∧ h = h0
set_option maxRecDepth 65536 in
set_option maxHeartbeats 40000000 in
theorem rm4n (l : Launch) (Z : State) (a0 : Array Value) (hw : ∀ d ∈ tables_1, d.before a0 Z = true) (wsC : List Jvm.Cond) (a1 : Addr) (i : Nat) (h0 : Heap) (n0 : Nat) (Z0 : n0 ≤ h0.size) (F_a1_held : Fld Z h0 a1 "com/example/otayori/otayori/codec/PacketIds" "held" "Ljava/util/BitSet;" .null) :
    MetFree l (⟨"com/example/otayori/otayori/codec/PacketIds", "isHeld", "(I)Z"⟩ : MethodName) (head1 (Jvm.Cond.code (⟨"com/example/otayori/otayori/codec/PacketIds", "isHeld", "(I)Z"⟩ : MethodName) prog_12_method_4_code 2 (some .boolean) :: wsC) ({ frames := 0, cells := 0, slots := 0, locals := 0 } : Room)) (fun a U => a = #[(.ref a1), (.int (Int32.ofNat i))] ∧ Z.Warmed39 U.vm ∧ U.heap = h0) (fun _ _ _ _ _ => True) (fun _ U o U' => ∃ v L, o = .returned v ∧ Q4n Z a1 i h0 n0 v U'.heap L ∧ FrameEnd U o U' L ({ frames := 0, cells := 0, slots := 0, locals := 0 } : Room).cells ({ frames := 0, cells := 0, slots := 0, locals := 0 } : Room).slots) := by
  refine MetFree.of_bodySF (plainFor_of_name pn_2) hisR ?_
  intro p e s m args below meth c s₁ Bd hml0 hP hK
  obtain ⟨rfl, hZ, hh⟩ := hP
  have hx := Bd.exec
  have hby := Bd.bytes
  have hml : c.maxLocals = 2 := hml0
  have hown : s.vm.findClass "com/example/otayori/otayori/codec/PacketIds" = some m.cls := findClass_of_methodNamed Bd.named
  have hnm := (name_of_methodNamed Bd.named Bd.method).1
  have X0 : Stand p l e ({ frames := 0, cells := 0, slots := 0, locals := 0 } : Room) s m #[(.ref a1), (.int (Int32.ofNat i))] below meth c s₁ [] 0 0 := Stand.of_body Bd
  have e0 : s₁.heap = h0 := by rw [← hh, Bd.state]; rfl
  have NF := Fr.nil n0
  refine WP.go ?_
  refine WP.cast (ef_4n m a1 (Int32.ofNat i)) ?_
  refine WP.name ?_
  intro G hG
  refine WP.st (T' := s₁) (f' := (mkF m 1 #[.val (.ref a1), .val (.int (Int32.ofNat i))] [(.ref a1)])) (fun t k => ?_) ?_
  · refine XS.aloadN X0.here hx rfl (hb hby d4_0) rfl rfl ?_
    exact k
  obtain ⟨T90, X90, e90, st90⟩ := getF X0 hx hZ hown (host := "") (Or.inl (w_22 hw)) Via.refl e0 F_a1_held (g := (mkF m 1 #[.val (.ref a1), .val (.int (Int32.ofNat i))] [(.ref a1)])) rfl rfl (hb hby d4_1)
  refine WP.st st90 ?_
  clear st90
  show WP p.tables e below _ T90 (mkF m 4 #[.val (.ref a1), .val (.int (Int32.ofNat i))] [.null])
  refine WP.st (T' := T90) (f' := (mkF m 23 #[.val (.ref a1), .val (.int (Int32.ofNat i))] [(.int (0 : Int32))])) (fun t k => ?_) ?_
  · refine XS.ifnullYes X90.here hx rfl (pc0 := 4) (pc' := 22) rfl (hb hby d4_4) rfl (by decide) (by decide) ?_
    refine XS.iconst X90.here hx rfl (hb hby d4_22) ?_
    exact k
  subst hG
  obtain ⟨fs, hr, hrun, hended, hW, hsame⟩ := X90.leave (v := some (.int (0 : Int32))) (fun h => by rw [Bd.returns] at h; cases h)
  refine WP.fin ⟨_, _, ?_, hrun, hended, _, _, rfl, ?_, ⟨_, rfl⟩, hW, hsame.mono (by decide) (by decide)⟩
  · exact retN X90 hx (t := .boolean) Bd.returns (by simp) (hb hby d4_23) hr
  · show Q4n Z a1 i h0 n0 _ T90.heap _
    rw [e90]
    exact ⟨rfl, NF, rfl⟩
theorem ef_4y (m : MethodId) (z0 : Addr) (z1 : Int32) : entryFrame m #[(.ref z0), (.int z1)] 2 = mkF m 0 #[.val (.ref z0), .val (.int z1)] [] := by
  all_goals first | (simp [entryFrame, mkF, argsToLocals, Value.category]; done) | rfl
theorem d4_7 : decode prog_12_method_4_code 7 = .ok (.aload_n 0, 1) := by decide +kernel
theorem d4_8 : decode prog_12_method_4_code 8 = .ok (.getfield 35, 3) := by decide +kernel
theorem d4_11 : decode prog_12_method_4_code 11 = .ok (.iload_n 1, 1) := by decide +kernel
theorem w_79 {a0 : Array Value} {Z : State} (hw : ∀ d ∈ tables_1, d.before a0 Z = true) : (Jvm.Cond.methodLink "com/example/otayori/otayori/codec/PacketIds" (39 : Nat) ({ cls := "java/util/BitSet", name := "get", desc := "(I)Z" } : Jvm.MethodName)).before a0 Z = true := hw _ (List.mem_of_getElem? (i := 79) rfl)
theorem d4_12 : decode prog_12_method_4_code 12 = .ok (.invokevirtual 39, 3) := by decide +kernel
theorem w_83 {a0 : Array Value} {Z : State} (hw : ∀ d ∈ tables_1, d.before a0 Z = true) : (Jvm.Cond.code ({ cls := "java/util/BitSet", name := "get", desc := "(I)Z" } : Jvm.MethodName) jdk_92_method_26_code (3 : Nat) (Option.some Jvm.ClassFile.FieldType.boolean)).before a0 Z = true := hw _ (List.mem_of_getElem? (i := 83) rfl)
theorem pd_5 : parseMethodDescriptor "(I)Z" = some ⟨[.int], some .boolean⟩ := by decide +kernel
theorem w_82 {a0 : Array Value} {Z : State} (hw : ∀ d ∈ tables_1, d.before a0 Z = true) : (Jvm.Cond.selects "java/util/BitSet" ({ cls := "java/util/BitSet", name := "get", desc := "(I)Z" } : Jvm.MethodName) ({ cls := "java/util/BitSet", name := "get", desc := "(I)Z" } : Jvm.MethodName)).before a0 Z = true := hw _ (List.mem_of_getElem? (i := 82) rfl)
theorem w_80 {a0 : Array Value} {Z : State} (hw : ∀ d ∈ tables_1, d.before a0 Z = true) : (Jvm.Cond.declares ({ cls := "java/util/BitSet", name := "get", desc := "(I)Z" } : Jvm.MethodName)).before a0 Z = true := hw _ (List.mem_of_getElem? (i := 80) rfl)
theorem w_81 {a0 : Array Value} {Z : State} (hw : ∀ d ∈ tables_1, d.before a0 Z = true) : (Jvm.Cond.instanceMethod ({ cls := "java/util/BitSet", name := "get", desc := "(I)Z" } : Jvm.MethodName)).before a0 Z = true := hw _ (List.mem_of_getElem? (i := 81) rfl)
theorem d4_15 : decode prog_12_method_4_code 15 = .ok (.ifCond .eq 7, 3) := by decide +kernel
theorem d4_18 : decode prog_12_method_4_code 18 = .ok (.iconst 1, 1) := by decide +kernel
theorem d4_19 : decode prog_12_method_4_code 19 = .ok (.goto 4, 3) := by decide +kernel
def Q4y (Z : State) (a1 : Addr) (bs : Addr) (tw : Addr) (kw : ClassId) (ws : List Int64) (u : Nat) (st : Int32) (i : Nat) (h0 : Heap) (n0 : Nat) (v : Option Value) (h : Heap) (L : List Loc) : Prop := v = some (.int (own_get ws i)) ∧ Fr n0 L ∧ h = h0
set_option maxRecDepth 65536 in
set_option maxHeartbeats 40000000 in
theorem rm4y (l : Launch) (Z : State) (a0 : Array Value) (hw : ∀ d ∈ tables_1, d.before a0 Z = true) (wsC : List Jvm.Cond) (a1 : Addr) (bs : Addr) (tw : Addr) (kw : ClassId) (ws : List Int64) (u : Nat) (st : Int32) (i : Nat) (h0 : Heap) (n0 : Nat) (Z0 : n0 ≤ h0.size) (F_a1_held : Fld Z h0 a1 "com/example/otayori/otayori/codec/PacketIds" "held" "Ljava/util/BitSet;" (.ref bs)) (E_bs : Exa Z h0 bs "java/util/BitSet") (g_bs : n0 ≤ bs) (F_bs_words : Fld Z h0 bs "java/util/BitSet" "words" "[J" (.ref tw)) (F_bs_wordsInUse : Fld Z h0 bs "java/util/BitSet" "wordsInUse" "I" (.int (Int32.ofNat u))) (F_bs_sizeIsSticky : Fld Z h0 bs "java/util/BitSet" "sizeIsSticky" "Z" (.int st)) (V_tw : Arv Z h0 tw kw .long (Int32.ofNat ws.length) (ws.map Value.long) (.long (0 : Int64))) (g_tw : n0 ≤ tw) (ne_bs_tw : bs ≠ tw) (hinv : own_inv ws u) (hwm : ws.length ≤ 2048) (OLD : Old Z n0 h0) (O5 : Sta Z Z.heap "java/util/BitSet" "$assertionsDisabled" "Z" (.int (1 : Int32))) (hi : i ≤ 65535) :
    MetFree l (⟨"com/example/otayori/otayori/codec/PacketIds", "isHeld", "(I)Z"⟩ : MethodName) (head1 (Jvm.Cond.code (⟨"com/example/otayori/otayori/codec/PacketIds", "isHeld", "(I)Z"⟩ : MethodName) prog_12_method_4_code 2 (some .boolean) :: wsC) ({ frames := 2, cells := 0, slots := 0, locals := 26 } : Room)) (fun a U => a = #[(.ref a1), (.int (Int32.ofNat i))] ∧ Z.Warmed39 U.vm ∧ U.heap = h0) (fun _ _ _ _ _ => True) (fun _ U o U' => ∃ v L, o = .returned v ∧ Q4y Z a1 bs tw kw ws u st i h0 n0 v U'.heap L ∧ FrameEnd U o U' L ({ frames := 2, cells := 0, slots := 0, locals := 26 } : Room).cells ({ frames := 2, cells := 0, slots := 0, locals := 26 } : Room).slots) := by
  refine MetFree.of_bodySF (plainFor_of_name pn_2) hisR ?_
  intro p e s m args below meth c s₁ Bd hml0 hP hK
  obtain ⟨rfl, hZ, hh⟩ := hP
  have hx := Bd.exec
  have hby := Bd.bytes
  have hml : c.maxLocals = 2 := hml0
  have hown : s.vm.findClass "com/example/otayori/otayori/codec/PacketIds" = some m.cls := findClass_of_methodNamed Bd.named
  have hnm := (name_of_methodNamed Bd.named Bd.method).1
  have X0 : Stand p l e ({ frames := 2, cells := 0, slots := 0, locals := 26 } : Room) s m #[(.ref a1), (.int (Int32.ofNat i))] below meth c s₁ [] 0 0 := Stand.of_body Bd
  have e0 : s₁.heap = h0 := by rw [← hh, Bd.state]; rfl
  have NF := Fr.nil n0
  refine WP.go ?_
  refine WP.cast (ef_4y m a1 (Int32.ofNat i)) ?_
  refine WP.name ?_
  intro G hG
  refine WP.st (T' := s₁) (f' := (mkF m 1 #[.val (.ref a1), .val (.int (Int32.ofNat i))] [(.ref a1)])) (fun t k => ?_) ?_
  · refine XS.aloadN X0.here hx rfl (hb hby d4_0) rfl rfl ?_
    exact k
  obtain ⟨T91, X91, e91, st91⟩ := getF X0 hx hZ hown (host := "") (Or.inl (w_22 hw)) Via.refl e0 F_a1_held (g := (mkF m 1 #[.val (.ref a1), .val (.int (Int32.ofNat i))] [(.ref a1)])) rfl rfl (hb hby d4_1)
  refine WP.st st91 ?_
  clear st91
  show WP p.tables e below _ T91 (mkF m 4 #[.val (.ref a1), .val (.int (Int32.ofNat i))] [(.ref bs)])
  refine WP.st (T' := T91) (f' := (mkF m 8 #[.val (.ref a1), .val (.int (Int32.ofNat i))] [(.ref a1)])) (fun t k => ?_) ?_
  · refine XS.ifnullNo X91.here hx rfl (hb hby d4_4) rfl ?_
    refine XS.aloadN X91.here hx rfl (hb hby d4_7) rfl rfl ?_
    exact k
  obtain ⟨T92, X92, e92, st92⟩ := getF X91 hx hZ hown (host := "") (Or.inl (w_22 hw)) Via.refl e91 F_a1_held (g := (mkF m 8 #[.val (.ref a1), .val (.int (Int32.ofNat i))] [(.ref a1)])) rfl rfl (hb hby d4_8)
  refine WP.st st92 ?_
  clear st92
  show WP p.tables e below _ T92 (mkF m 11 #[.val (.ref a1), .val (.int (Int32.ofNat i))] [(.ref bs)])
  refine WP.st (T' := T92) (f' := (mkF m 12 #[.val (.ref a1), .val (.int (Int32.ofNat i))] [(.int (Int32.ofNat i)), (.ref bs)])) (fun t k => ?_) ?_
  · refine XS.iloadN X92.here hx rfl (hb hby d4_11) rfl ?_
    exact k
  obtain ⟨cq93, kq93, q93a, q93b, q93c⟩ := isOf hZ e92 E_bs
  obtain ⟨_, _, ⟨T93, L93, k93, n93⟩, -, X93, ⟨Lc93, hQ93, l93, y93, z93⟩, st93⟩ := X92.virtualBack hx (y := (⟨"java/util/BitSet", "get", "(I)Z"⟩ : MethodName)) (z := (⟨"java/util/BitSet", "get", "(I)Z"⟩ : MethodName)) hown (mvT hZ (w_79 hw)) (mvT hZ (w_80 hw)) (notFace_of_selects (args := #[]) (mvT hZ (w_82 hw))) (mvT hZ (w_82 hw)) (mvT hZ (w_81 hw)) (by decide) (backOf (W := 0) (rm14 l Z a0 hw [] bs tw kw ws u st i h0 n0 Z0 E_bs g_bs F_bs_words F_bs_wordsInUse F_bs_sizeIsSticky V_tw g_tw ne_bs_tw (hinv : own_inv ws u) (hwm : ws.length ≤ 2048) OLD (O5 : Sta Z Z.heap "java/util/BitSet" "$assertionsDisabled" "Z" (.int (1 : Int32))) (hi : i ≤ 65535)) hZ (w_83 hw) (w_36 hw) (by decide) (by decide)) q93a q93c (g := (mkF m 12 #[.val (.ref a1), .val (.int (Int32.ofNat i))] [(.int (Int32.ofNat i)), (.ref bs)])) rfl (by rw [hml]; rfl) (Steps.refl _) (argsL := [(.int (Int32.ofNat i))]) (rest := []) (lenOf pd_5 rfl) rfl (by show 2 * 0 + _ ≤ _; exact Nat.le_of_eq rfl) (hb hby d4_12) (fun _ _ => ⟨rfl, e92, (by decide : 0 + 0 ≤ _), (by decide : 0 + 0 ≤ _)⟩)
  dsimp only [Pt.U, Pt.locs, Pt.cells, Pt.slots] at X93 l93 y93 z93 st93 hQ93
  subst l93 y93 z93
  obtain ⟨rfl, Nq93, Kq93⟩ := hQ93
  replace NF := Fr.app NF Nq93
  clear Nq93
  refine WP.tr st93 ?_
  clear st93
  replace Kq93 := Kq93.trans (rfl : h0 = h0)
  have hXN : ∃ LL, Stand p l e ({ frames := 2, cells := 0, slots := 0, locals := 26 } : Room) s m #[(.ref a1), (.int (Int32.ofNat i))] below meth c T93 LL 0 0 ∧ Fr n0 LL := ⟨_, X93, NF⟩
  clear X93 NF
  obtain ⟨LL94, X93, NF⟩ := hXN
  show WP p.tables e below _ T93 (mkF m 15 #[.val (.ref a1), .val (.int (Int32.ofNat i))] [(.int (own_get ws i))])
  by_cases hc95 : (own_get ws i) = (0 : Int32)
  · skip
    refine WP.st (T' := T93) (f' := (mkF m 23 #[.val (.ref a1), .val (.int (Int32.ofNat i))] [(.int (0 : Int32))])) (fun t k => ?_) ?_
    · refine XS.ifYes X93.here hx rfl (pc0 := 15) (pc' := 22) rfl (hb hby d4_15) rfl ((if0 _ _).trans (teq hc95).1) (by decide) (by decide) ?_
      refine XS.iconst X93.here hx rfl (hb hby d4_22) ?_
      exact k
    subst hG
    obtain ⟨fs, hr, hrun, hended, hW, hsame⟩ := X93.leave (v := some (.int (0 : Int32))) (fun h => by rw [Bd.returns] at h; cases h)
    refine WP.fin ⟨_, _, ?_, hrun, hended, _, _, rfl, ?_, ⟨_, rfl⟩, hW, hsame.mono (by decide) (by decide)⟩
    · exact retN X93 hx (t := .boolean) Bd.returns (by simp) (hb hby d4_23) hr
    · show Q4y Z a1 bs tw kw ws u st i h0 n0 _ T93.heap _
      rw [Kq93]
      exact ⟨(congrArg (fun z => some (Value.int z)) hc95.symm), NF, rfl⟩
  · skip
    refine WP.st (T' := T93) (f' := (mkF m 23 #[.val (.ref a1), .val (.int (Int32.ofNat i))] [(.int (1 : Int32))])) (fun t k => ?_) ?_
    · refine XS.ifNo X93.here hx rfl (hb hby d4_15) rfl ((if0 _ _).trans (feq hc95).1) ?_
      refine XS.iconst X93.here hx rfl (hb hby d4_18) ?_
      refine XS.goto X93.here hx rfl (pc0 := 19) (pc' := 23) rfl (hb hby d4_19) (by decide) (by decide) ?_
      exact k
    subst hG
    obtain ⟨fs, hr, hrun, hended, hW, hsame⟩ := X93.leave (v := some (.int (1 : Int32))) (fun h => by rw [Bd.returns] at h; cases h)
    refine WP.fin ⟨_, _, ?_, hrun, hended, _, _, rfl, ?_, ⟨_, rfl⟩, hW, hsame.mono (by decide) (by decide)⟩
    · exact retN X93 hx (t := .boolean) Bd.returns (by simp) (hb hby d4_23) hr
    · show Q4y Z a1 bs tw kw ws u st i h0 n0 _ T93.heap _
      rw [Kq93]
      exact ⟨(congrArg (fun z => some (Value.int z)) ((own_get01 ws i).resolve_left hc95).symm), NF, rfl⟩
theorem ef_6n (m : MethodId) (z0 : Addr) : entryFrame m #[(.ref z0)] 1 = mkF m 0 #[.val (.ref z0)] [] := by
  all_goals first | (simp [entryFrame, mkF, argsToLocals, Value.category]; done) | rfl
theorem d6_0 : decode prog_12_method_7_code 0 = .ok (.aload_n 0, 1) := by decide +kernel
theorem d6_1 : decode prog_12_method_7_code 1 = .ok (.getfield 35, 3) := by decide +kernel
theorem d6_4 : decode prog_12_method_7_code 4 = .ok (.ifnonnull 14, 3) := by decide +kernel
theorem d6_7 : decode prog_12_method_7_code 7 = .ok (.aload_n 0, 1) := by decide +kernel
theorem w_34 {a0 : Array Value} {Z : State} (hw : ∀ d ∈ tables_1, d.before a0 Z = true) : (Jvm.Cond.classLink "com/example/otayori/otayori/codec/PacketIds" (22 : Nat) "java/util/BitSet").before a0 Z = true := hw _ (List.mem_of_getElem? (i := 34) rfl)
theorem d6_8 : decode prog_12_method_7_code 8 = .ok (.new 22, 3) := by decide +kernel
theorem d6_11 : decode prog_12_method_7_code 11 = .ok (.dup, 1) := by decide +kernel
theorem w_37 {a0 : Array Value} {Z : State} (hw : ∀ d ∈ tables_1, d.before a0 Z = true) : (Jvm.Cond.methodLink "com/example/otayori/otayori/codec/PacketIds" (45 : Nat) ({ cls := "java/util/BitSet", name := "<init>", desc := "()V" } : Jvm.MethodName)).before a0 Z = true := hw _ (List.mem_of_getElem? (i := 37) rfl)
theorem d6_12 : decode prog_12_method_7_code 12 = .ok (.invokespecial 45, 3) := by decide +kernel
theorem w_39 {a0 : Array Value} {Z : State} (hw : ∀ d ∈ tables_1, d.before a0 Z = true) : (Jvm.Cond.code ({ cls := "java/util/BitSet", name := "<init>", desc := "()V" } : Jvm.MethodName) jdk_92_method_4_code (1 : Nat) (Option.none : Option Jvm.ClassFile.FieldType)).before a0 Z = true := hw _ (List.mem_of_getElem? (i := 39) rfl)
theorem w_38 {a0 : Array Value} {Z : State} (hw : ∀ d ∈ tables_1, d.before a0 Z = true) : (Jvm.Cond.instanceMethod ({ cls := "java/util/BitSet", name := "<init>", desc := "()V" } : Jvm.MethodName)).before a0 Z = true := hw _ (List.mem_of_getElem? (i := 38) rfl)
theorem d6_15 : decode prog_12_method_7_code 15 = .ok (.putfield 35, 3) := by decide +kernel
theorem sn_8 {a0 : Array Value} {Z : State} (hw : ∀ d ∈ tables_1, d.before a0 Z = true) : Jvm.RoadKit.slotOf Z "com/example/otayori/otayori/codec/PacketIds" "count" "I" ≠ Jvm.RoadKit.slotOf Z "com/example/otayori/otayori/codec/PacketIds" "held" "Ljava/util/BitSet;" := slot_ne (Or.inl (w_78 hw)) (Or.inl (w_23 hw)) (by decide) (t := .int) (t' := (.object "java/util/BitSet")) (by decide) (by decide)
theorem sn_9 {a0 : Array Value} {Z : State} (hw : ∀ d ∈ tables_1, d.before a0 Z = true) : Jvm.RoadKit.slotOf Z "com/example/otayori/otayori/codec/PacketIds" "next" "I" ≠ Jvm.RoadKit.slotOf Z "com/example/otayori/otayori/codec/PacketIds" "held" "Ljava/util/BitSet;" := slot_ne (Or.inl (w_16 hw)) (Or.inl (w_23 hw)) (by decide) (t := .int) (t' := (.object "java/util/BitSet")) (by decide) (by decide)
theorem d6_18 : decode prog_12_method_7_code 18 = .ok (.aload_n 0, 1) := by decide +kernel
theorem d6_19 : decode prog_12_method_7_code 19 = .ok (.getfield 35, 3) := by decide +kernel
theorem d6_22 : decode prog_12_method_7_code 22 = .ok (.areturn, 1) := by decide +kernel
def Q6n (Z : State) (a1 : Addr) (cn : Int32) (nx : Int32) (h0 : Heap) (n0 : Nat) (v : Option Value) (h : Heap) (L : List Loc) : Prop := ∃ bs : Addr, ∃ tw : Addr, ∃ kw : ClassId, v = some (.ref bs) ∧ Fr n0 L ∧ Keep h0 h [a1] ∧ Fld Z h a1 "com/example/otayori/otayori/codec/PacketIds" "held" "Ljava/util/BitSet;" (.ref bs) ∧ Fld Z h a1 "com/example/otayori/otayori/codec/PacketIds" "count" "I" (.int cn) ∧ Fld Z h a1 "com/example/otayori/otayori/codec/PacketIds" "next" "I" (.int nx) ∧ Exa Z h bs "java/util/BitSet" ∧ Fld Z h bs "java/util/BitSet" "words" "[J" (.ref tw) ∧ Fld Z h bs "java/util/BitSet" "wordsInUse" "I" (.int (0 : Int32)) ∧ Fld Z h bs "java/util/BitSet" "sizeIsSticky" "Z" (.int (0 : Int32)) ∧ (Arv Z h tw kw .long (1 : Int32) [(.long (0 : Int64))] (.long (0 : Int64))) ∧ h0.size ≤ bs ∧ n0 ≤ bs ∧ h0.size ≤ tw ∧ n0 ≤ tw ∧ bs ≠ tw
set_option maxRecDepth 65536 in
set_option maxHeartbeats 40000000 in
theorem rm6n (l : Launch) (Z : State) (a0 : Array Value) (hw : ∀ d ∈ tables_1, d.before a0 Z = true) (wsC : List Jvm.Cond) (a1 : Addr) (cn : Int32) (nx : Int32) (h0 : Heap) (n0 : Nat) (Z0 : n0 ≤ h0.size) (E_a1 : Exa Z h0 a1 "com/example/otayori/otayori/codec/PacketIds") (g_a1 : n0 ≤ a1) (F_a1_held : Fld Z h0 a1 "com/example/otayori/otayori/codec/PacketIds" "held" "Ljava/util/BitSet;" .null) (F_a1_count : Fld Z h0 a1 "com/example/otayori/otayori/codec/PacketIds" "count" "I" (.int cn)) (F_a1_next : Fld Z h0 a1 "com/example/otayori/otayori/codec/PacketIds" "next" "I" (.int nx)) (OLD : Old Z n0 h0) :
    MetFree l (⟨"com/example/otayori/otayori/codec/PacketIds", "holding", "()Ljava/util/BitSet;"⟩ : MethodName) (head1 (Jvm.Cond.code (⟨"com/example/otayori/otayori/codec/PacketIds", "holding", "()Ljava/util/BitSet;"⟩ : MethodName) prog_12_method_7_code 1 (some (.object "java/util/BitSet")) :: wsC) ({ frames := 3, cells := 2, slots := 4, locals := 40 } : Room)) (fun a U => a = #[(.ref a1)] ∧ Z.Warmed39 U.vm ∧ U.heap = h0) (fun _ _ _ _ _ => True) (fun _ U o U' => ∃ v L, o = .returned v ∧ Q6n Z a1 cn nx h0 n0 v U'.heap L ∧ FrameEnd U o U' L ({ frames := 3, cells := 2, slots := 4, locals := 40 } : Room).cells ({ frames := 3, cells := 2, slots := 4, locals := 40 } : Room).slots) := by
  refine MetFree.of_bodySF (plainFor_of_name pn_2) hisR ?_
  intro p e s m args below meth c s₁ Bd hml0 hP hK
  obtain ⟨rfl, hZ, hh⟩ := hP
  have hx := Bd.exec
  have hby := Bd.bytes
  have hml : c.maxLocals = 1 := hml0
  have hown : s.vm.findClass "com/example/otayori/otayori/codec/PacketIds" = some m.cls := findClass_of_methodNamed Bd.named
  have hnm := (name_of_methodNamed Bd.named Bd.method).1
  have X0 : Stand p l e ({ frames := 3, cells := 2, slots := 4, locals := 40 } : Room) s m #[(.ref a1)] below meth c s₁ [] 0 0 := Stand.of_body Bd
  have e0 : s₁.heap = h0 := by rw [← hh, Bd.state]; rfl
  have NF := Fr.nil n0
  have KP : Keep h0 h0 [a1] := Keep.refl h0 _
  refine WP.go ?_
  refine WP.cast (ef_6n m a1) ?_
  refine WP.name ?_
  intro G hG
  refine WP.st (T' := s₁) (f' := (mkF m 1 #[.val (.ref a1)] [(.ref a1)])) (fun t k => ?_) ?_
  · refine XS.aloadN X0.here hx rfl (hb hby d6_0) rfl rfl ?_
    exact k
  obtain ⟨T96, X96, e96, st96⟩ := getF X0 hx hZ hown (host := "") (Or.inl (w_22 hw)) Via.refl e0 F_a1_held (g := (mkF m 1 #[.val (.ref a1)] [(.ref a1)])) rfl rfl (hb hby d6_1)
  refine WP.st st96 ?_
  clear st96
  show WP p.tables e below _ T96 (mkF m 4 #[.val (.ref a1)] [.null])
  refine WP.st (T' := T96) (f' := (mkF m 8 #[.val (.ref a1)] [(.ref a1)])) (fun t k => ?_) ?_
  · refine XS.ifnonnullNo X96.here hx rfl (hb hby d6_4) rfl ?_
    refine XS.aloadN X96.here hx rfl (hb hby d6_7) rfl rfl ?_
    exact k
  obtain ⟨T97, h97, X97, e97, E97, A97, D97, -, st97⟩ := newO X96 hx hZ hown (w_34 hw) (w_35 hw) (w_36 hw) e96 (g := (mkF m 8 #[.val (.ref a1)] [(.ref a1)])) rfl (hb hby d6_8) (by decide) (by decide)
  obtain ⟨b97, g97⟩ : ∃ z, z = h0.size := ⟨_, rfl⟩
  rw [← g97] at A97 D97 st97
  refine WP.st st97 ?_
  clear st97
  have ne_a1_b97 : a1 ≠ b97 := Nat.ne_of_lt (Nat.lt_of_lt_of_le E_a1.lt (Nat.le_of_eq g97.symm))
  have g_b97 : n0 ≤ b97 := Nat.le_trans Z0 (Nat.le_of_eq g97.symm)
  have sz_b97 : h0.size ≤ b97 := Nat.le_trans KP.1 (Nat.le_of_eq g97.symm)
  replace E_a1 := E_a1.ext E97
  replace F_a1_held := F_a1_held.ext E97
  replace F_a1_count := F_a1_count.ext E97
  replace F_a1_next := F_a1_next.ext E97
  replace OLD := OLD.ext E97
  replace Z0 := Nat.le_trans Z0 E97.1
  replace KP := KP.ext E97
  have E_b97 := A97
  have F_b97_wordsInUse : Fld Z h97 b97 "java/util/BitSet" "wordsInUse" "I" (.int (0 : Int32)) := D97 (Or.inl (w_42 hw)) (ty := .int) (by decide)
  have F_b97_sizeIsSticky : Fld Z h97 b97 "java/util/BitSet" "sizeIsSticky" "Z" (.int (0 : Int32)) := D97 (Or.inl (w_44 hw)) (ty := .boolean) (by decide)
  have F_b97_words : Fld Z h97 b97 "java/util/BitSet" "words" "[J" .null := D97 (Or.inl (w_55 hw)) (ty := (.array .long)) (by decide)
  clear D97 A97
  show WP p.tables e below _ T97 (mkF m 11 #[.val (.ref a1)] [(.ref b97), (.ref a1)])
  refine WP.st (T' := T97) (f' := (mkF m 12 #[.val (.ref a1)] [(.ref b97), (.ref b97), (.ref a1)])) (fun t k => ?_) ?_
  · refine XS.dup X97.here hx rfl (hb hby d6_11) rfl rfl ?_
    exact k
  obtain ⟨_, _, ⟨T98, L98, k98, n98⟩, -, X98, ⟨Lc98, hQ98, l98, y98, z98⟩, st98⟩ := X97.specialBack hx (y := (⟨"java/util/BitSet", "<init>", "()V"⟩ : MethodName)) rfl hown (mvT hZ (w_37 hw)) (mvT hZ (w_38 hw)) (mvT hZ (w_39 hw)) (by decide) (backOf (W := 2) (rm7 l Z a0 hw [] b97 Value.null (0 : Int32) (0 : Int32) h97 n0 Z0 E_b97 g_b97 F_b97_words F_b97_wordsInUse F_b97_sizeIsSticky) hZ (w_39 hw) (w_36 hw) (by decide) (by decide)) (g := (mkF m 12 #[.val (.ref a1)] [(.ref b97), (.ref b97), (.ref a1)])) rfl (by rw [hml]; rfl) (Steps.refl _) (a := b97) (argsL := []) (rest := [(.ref b97), (.ref a1)]) (lenOf pd_4 rfl) rfl (by show 2 * 0 + _ ≤ _; exact Nat.le_of_eq rfl) (hb hby d6_12) (fun _ _ => ⟨rfl, e97, (by decide : 1 + 1 ≤ _), (by decide : 3 + 1 ≤ _)⟩)
  dsimp only [Pt.U, Pt.locs, Pt.cells, Pt.slots] at X98 l98 y98 z98 st98 hQ98
  subst l98 y98 z98
  obtain ⟨tw_98, kw_98, rfl, Nq98, Kq98, nF98_b97_words, nF98_b97_wordsInUse, nF98_b97_sizeIsSticky, nA98_tw_98, szq_tw_98, g_tw_98⟩ := hQ98
  replace NF := Fr.app NF Nq98
  clear Nq98
  refine WP.tr st98 ?_
  clear st98
  obtain ⟨h98, e98⟩ : ∃ h, T98.heap = h := ⟨_, rfl⟩
  rw [e98] at Kq98 nF98_b97_words nF98_b97_wordsInUse nF98_b97_sizeIsSticky nA98_tw_98
  have ne_a1_tw_98 : a1 ≠ tw_98 := Nat.ne_of_lt (Nat.lt_of_lt_of_le E_a1.lt szq_tw_98)
  have ne_b97_tw_98 : b97 ≠ tw_98 := Nat.ne_of_lt (Nat.lt_of_lt_of_le E_b97.lt szq_tw_98)
  have sz_tw_98 : h0.size ≤ tw_98 := Nat.le_trans KP.1 szq_tw_98
  replace E_a1 := E_a1.keep Kq98
  replace F_a1_held := F_a1_held.keep Kq98 (by exact ninS ne_a1_b97 (nin0))
  replace F_a1_count := F_a1_count.keep Kq98 (by exact ninS ne_a1_b97 (nin0))
  replace F_a1_next := F_a1_next.keep Kq98 (by exact ninS ne_a1_b97 (nin0))
  replace OLD := OLD.keep Kq98 (allS g_b97 all0)
  replace E_b97 := E_b97.keep Kq98
  clear F_b97_wordsInUse
  clear F_b97_sizeIsSticky
  clear F_b97_words
  replace Z0 := Nat.le_trans Z0 Kq98.1
  replace KP := KP.trans Kq98 (allS (Or.inr sz_b97) all0)
  clear Kq98
  have F_b97_words := nF98_b97_words
  clear nF98_b97_words
  have F_b97_wordsInUse := nF98_b97_wordsInUse
  clear nF98_b97_wordsInUse
  have F_b97_sizeIsSticky := nF98_b97_sizeIsSticky
  clear nF98_b97_sizeIsSticky
  have V_tw_98 := nA98_tw_98
  clear nA98_tw_98
  have hXN : ∃ LL, Stand p l e ({ frames := 3, cells := 2, slots := 4, locals := 40 } : Room) s m #[(.ref a1)] below meth c T98 LL 2 4 ∧ Fr n0 LL := ⟨_, X98, NF⟩
  clear X98 NF
  obtain ⟨LL99, X98, NF⟩ := hXN
  show WP p.tables e below _ T98 (mkF m 15 #[.val (.ref a1)] [(.ref b97), (.ref a1)])
  obtain ⟨T100, h100, X100, e100, W100, st100⟩ := putF X98 hx hZ hown (host := "") (Or.inl (w_22 hw)) Via.refl e98 F_a1_held E_a1 (Or.inl (w_23 hw)) (w_7 hw) (ty := (.object "java/util/BitSet")) (by decide) rfl rfl (g := (mkF m 15 #[.val (.ref a1)] [(.ref b97), (.ref a1)])) rfl rfl (hb hby d6_15)
  refine WP.st st100 ?_
  clear st100
  replace E_a1 := E_a1.wr W100
  replace F_a1_held := F_a1_held.same W100
  replace F_a1_count := F_a1_count.other W100 (Or.inr (sn_8 hw))
  replace F_a1_next := F_a1_next.other W100 (Or.inr (sn_9 hw))
  replace OLD := OLD.wr W100 g_a1
  replace E_b97 := E_b97.wr W100
  replace F_b97_words := F_b97_words.other W100 (Or.inl (Ne.symm ne_a1_b97))
  replace F_b97_wordsInUse := F_b97_wordsInUse.other W100 (Or.inl (Ne.symm ne_a1_b97))
  replace F_b97_sizeIsSticky := F_b97_sizeIsSticky.other W100 (Or.inl (Ne.symm ne_a1_b97))
  replace V_tw_98 := V_tw_98.other W100 (Ne.symm ne_a1_tw_98)
  replace Z0 := Nat.le_trans Z0 (Keep.of_wr W100).1
  replace KP := KP.wr W100 (Or.inl (List.mem_of_getElem? (i := 0) rfl))
  replace NF := Fr.snoc X100 NF g_a1
  clear W100
  have hXN : ∃ LL, Stand p l e ({ frames := 3, cells := 2, slots := 4, locals := 40 } : Room) s m #[(.ref a1)] below meth c T100 LL 2 4 ∧ Fr n0 LL := ⟨_, X100, NF⟩
  clear X100 NF
  obtain ⟨LL101, X100, NF⟩ := hXN
  show WP p.tables e below _ T100 (mkF m 18 #[.val (.ref a1)] [])
  refine WP.st (T' := T100) (f' := (mkF m 19 #[.val (.ref a1)] [(.ref a1)])) (fun t k => ?_) ?_
  · refine XS.aloadN X100.here hx rfl (hb hby d6_18) rfl rfl ?_
    exact k
  obtain ⟨T102, X102, e102, st102⟩ := getF X100 hx hZ hown (host := "") (Or.inl (w_22 hw)) Via.refl e100 F_a1_held (g := (mkF m 19 #[.val (.ref a1)] [(.ref a1)])) rfl rfl (hb hby d6_19)
  refine WP.st st102 ?_
  clear st102
  show WP p.tables e below _ T102 (mkF m 22 #[.val (.ref a1)] [(.ref b97)])
  subst hG
  obtain ⟨fs, hr, hrun, hended, hW, hsame⟩ := X102.leave (v := some (.ref b97)) (fun h => by rw [Bd.returns] at h; cases h)
  refine WP.fin ⟨_, _, ?_, hrun, hended, _, _, rfl, ?_, ⟨_, rfl⟩, hW, hsame.mono (by decide) (by decide)⟩
  · exact retOut X102 hx Bd.returns rfl (Or.inr (Or.inr (Or.inr (Or.inr ⟨rfl, rfl, rfl⟩)))) (hb hby d6_22) hr
  · show Q6n Z a1 cn nx h0 n0 _ T102.heap _
    rw [e102]
    exact ⟨b97, tw_98, kw_98, rfl, NF, KP, F_a1_held, F_a1_count, F_a1_next, E_b97, F_b97_words, F_b97_wordsInUse, F_b97_sizeIsSticky, V_tw_98, sz_b97, g_b97, sz_tw_98, g_tw_98, ne_b97_tw_98⟩
theorem ef_6y (m : MethodId) (z0 : Addr) : entryFrame m #[(.ref z0)] 1 = mkF m 0 #[.val (.ref z0)] [] := by
  all_goals first | (simp [entryFrame, mkF, argsToLocals, Value.category]; done) | rfl
def Q6y (Z : State) (a1 : Addr) (bs : Addr) (h0 : Heap) (n0 : Nat) (v : Option Value) (h : Heap) (L : List Loc) : Prop := v = some (.ref bs) ∧ Fr n0 L ∧ h = h0
set_option maxRecDepth 65536 in
set_option maxHeartbeats 40000000 in
theorem rm6y (l : Launch) (Z : State) (a0 : Array Value) (hw : ∀ d ∈ tables_1, d.before a0 Z = true) (wsC : List Jvm.Cond) (a1 : Addr) (bs : Addr) (h0 : Heap) (n0 : Nat) (Z0 : n0 ≤ h0.size) (F_a1_held : Fld Z h0 a1 "com/example/otayori/otayori/codec/PacketIds" "held" "Ljava/util/BitSet;" (.ref bs)) :
    MetFree l (⟨"com/example/otayori/otayori/codec/PacketIds", "holding", "()Ljava/util/BitSet;"⟩ : MethodName) (head1 (Jvm.Cond.code (⟨"com/example/otayori/otayori/codec/PacketIds", "holding", "()Ljava/util/BitSet;"⟩ : MethodName) prog_12_method_7_code 1 (some (.object "java/util/BitSet")) :: wsC) ({ frames := 0, cells := 0, slots := 0, locals := 0 } : Room)) (fun a U => a = #[(.ref a1)] ∧ Z.Warmed39 U.vm ∧ U.heap = h0) (fun _ _ _ _ _ => True) (fun _ U o U' => ∃ v L, o = .returned v ∧ Q6y Z a1 bs h0 n0 v U'.heap L ∧ FrameEnd U o U' L ({ frames := 0, cells := 0, slots := 0, locals := 0 } : Room).cells ({ frames := 0, cells := 0, slots := 0, locals := 0 } : Room).slots) := by
  refine MetFree.of_bodySF (plainFor_of_name pn_2) hisR ?_
  intro p e s m args below meth c s₁ Bd hml0 hP hK
  obtain ⟨rfl, hZ, hh⟩ := hP
  have hx := Bd.exec
  have hby := Bd.bytes
  have hml : c.maxLocals = 1 := hml0
  have hown : s.vm.findClass "com/example/otayori/otayori/codec/PacketIds" = some m.cls := findClass_of_methodNamed Bd.named
  have hnm := (name_of_methodNamed Bd.named Bd.method).1
  have X0 : Stand p l e ({ frames := 0, cells := 0, slots := 0, locals := 0 } : Room) s m #[(.ref a1)] below meth c s₁ [] 0 0 := Stand.of_body Bd
  have e0 : s₁.heap = h0 := by rw [← hh, Bd.state]; rfl
  have NF := Fr.nil n0
  refine WP.go ?_
  refine WP.cast (ef_6y m a1) ?_
  refine WP.name ?_
  intro G hG
  refine WP.st (T' := s₁) (f' := (mkF m 1 #[.val (.ref a1)] [(.ref a1)])) (fun t k => ?_) ?_
  · refine XS.aloadN X0.here hx rfl (hb hby d6_0) rfl rfl ?_
    exact k
  obtain ⟨T103, X103, e103, st103⟩ := getF X0 hx hZ hown (host := "") (Or.inl (w_22 hw)) Via.refl e0 F_a1_held (g := (mkF m 1 #[.val (.ref a1)] [(.ref a1)])) rfl rfl (hb hby d6_1)
  refine WP.st st103 ?_
  clear st103
  show WP p.tables e below _ T103 (mkF m 4 #[.val (.ref a1)] [(.ref bs)])
  refine WP.st (T' := T103) (f' := (mkF m 19 #[.val (.ref a1)] [(.ref a1)])) (fun t k => ?_) ?_
  · refine XS.ifnonnullYes X103.here hx rfl (pc0 := 4) (pc' := 18) rfl (hb hby d6_4) rfl (by decide) (by decide) ?_
    refine XS.aloadN X103.here hx rfl (hb hby d6_18) rfl rfl ?_
    exact k
  obtain ⟨T104, X104, e104, st104⟩ := getF X103 hx hZ hown (host := "") (Or.inl (w_22 hw)) Via.refl e103 F_a1_held (g := (mkF m 19 #[.val (.ref a1)] [(.ref a1)])) rfl rfl (hb hby d6_19)
  refine WP.st st104 ?_
  clear st104
  show WP p.tables e below _ T104 (mkF m 22 #[.val (.ref a1)] [(.ref bs)])
  subst hG
  obtain ⟨fs, hr, hrun, hended, hW, hsame⟩ := X104.leave (v := some (.ref bs)) (fun h => by rw [Bd.returns] at h; cases h)
  refine WP.fin ⟨_, _, ?_, hrun, hended, _, _, rfl, ?_, ⟨_, rfl⟩, hW, hsame.mono (by decide) (by decide)⟩
  · exact retOut X104 hx Bd.returns rfl (Or.inr (Or.inr (Or.inr (Or.inr ⟨rfl, rfl, rfl⟩)))) (hb hby d6_22) hr
  · show Q6y Z a1 bs h0 n0 _ T104.heap _
    rw [e104]
    exact ⟨rfl, NF, rfl⟩
theorem ef_5n (m : MethodId) (z0 : Addr) (z1 : Int32) : entryFrame m #[(.ref z0), (.int z1)] 3 = mkF m 0 #[.val (.ref z0), .val (.int z1), .unset] [] := by
  all_goals first | (simp [entryFrame, mkF, argsToLocals, Value.category]; done) | rfl
theorem d5_0 : decode prog_12_method_3_code 0 = .ok (.aload_n 0, 1) := by decide +kernel
theorem d5_1 : decode prog_12_method_3_code 1 = .ok (.iload_n 1, 1) := by decide +kernel
theorem w_29 {a0 : Array Value} {Z : State} (hw : ∀ d ∈ tables_1, d.before a0 Z = true) : (Jvm.Cond.methodLink "com/example/otayori/otayori/codec/PacketIds" (31 : Nat) ({ cls := "com/example/otayori/otayori/codec/PacketIds", name := "isHeld", desc := "(I)Z" } : Jvm.MethodName)).before a0 Z = true := hw _ (List.mem_of_getElem? (i := 29) rfl)
theorem d5_2 : decode prog_12_method_3_code 2 = .ok (.invokevirtual 31, 3) := by decide +kernel
theorem w_21 {a0 : Array Value} {Z : State} (hw : ∀ d ∈ tables_1, d.before a0 Z = true) : (Jvm.Cond.code ({ cls := "com/example/otayori/otayori/codec/PacketIds", name := "isHeld", desc := "(I)Z" } : Jvm.MethodName) prog_12_method_4_code (2 : Nat) (Option.some Jvm.ClassFile.FieldType.boolean)).before a0 Z = true := hw _ (List.mem_of_getElem? (i := 21) rfl)
theorem w_8 {a0 : Array Value} {Z : State} (hw : ∀ d ∈ tables_1, d.before a0 Z = true) : (Jvm.Cond.initialized "com/example/otayori/otayori/codec/PacketIds").before a0 Z = true := hw _ (List.mem_of_getElem? (i := 8) rfl)
theorem w_20 {a0 : Array Value} {Z : State} (hw : ∀ d ∈ tables_1, d.before a0 Z = true) : (Jvm.Cond.selects "com/example/otayori/otayori/codec/PacketIds" ({ cls := "com/example/otayori/otayori/codec/PacketIds", name := "isHeld", desc := "(I)Z" } : Jvm.MethodName) ({ cls := "com/example/otayori/otayori/codec/PacketIds", name := "isHeld", desc := "(I)Z" } : Jvm.MethodName)).before a0 Z = true := hw _ (List.mem_of_getElem? (i := 20) rfl)
theorem w_18 {a0 : Array Value} {Z : State} (hw : ∀ d ∈ tables_1, d.before a0 Z = true) : (Jvm.Cond.declares ({ cls := "com/example/otayori/otayori/codec/PacketIds", name := "isHeld", desc := "(I)Z" } : Jvm.MethodName)).before a0 Z = true := hw _ (List.mem_of_getElem? (i := 18) rfl)
theorem w_19 {a0 : Array Value} {Z : State} (hw : ∀ d ∈ tables_1, d.before a0 Z = true) : (Jvm.Cond.instanceMethod ({ cls := "com/example/otayori/otayori/codec/PacketIds", name := "isHeld", desc := "(I)Z" } : Jvm.MethodName)).before a0 Z = true := hw _ (List.mem_of_getElem? (i := 19) rfl)
theorem d5_5 : decode prog_12_method_3_code 5 = .ok (.ifCond .ne 7, 3) := by decide +kernel
theorem d5_8 : decode prog_12_method_3_code 8 = .ok (.iconst 1, 1) := by decide +kernel
theorem d5_9 : decode prog_12_method_3_code 9 = .ok (.goto 4, 3) := by decide +kernel
theorem d5_13 : decode prog_12_method_3_code 13 = .ok (.istore_n 2, 1) := by decide +kernel
theorem d5_14 : decode prog_12_method_3_code 14 = .ok (.iload_n 2, 1) := by decide +kernel
theorem d5_15 : decode prog_12_method_3_code 15 = .ok (.ifCond .eq 21, 3) := by decide +kernel
theorem d5_18 : decode prog_12_method_3_code 18 = .ok (.aload_n 0, 1) := by decide +kernel
theorem w_30 {a0 : Array Value} {Z : State} (hw : ∀ d ∈ tables_1, d.before a0 Z = true) : (Jvm.Cond.methodLink "com/example/otayori/otayori/codec/PacketIds" (17 : Nat) ({ cls := "com/example/otayori/otayori/codec/PacketIds", name := "holding", desc := "()Ljava/util/BitSet;" } : Jvm.MethodName)).before a0 Z = true := hw _ (List.mem_of_getElem? (i := 30) rfl)
theorem d5_19 : decode prog_12_method_3_code 19 = .ok (.invokevirtual 17, 3) := by decide +kernel
theorem w_33 {a0 : Array Value} {Z : State} (hw : ∀ d ∈ tables_1, d.before a0 Z = true) : (Jvm.Cond.code ({ cls := "com/example/otayori/otayori/codec/PacketIds", name := "holding", desc := "()Ljava/util/BitSet;" } : Jvm.MethodName) prog_12_method_7_code (1 : Nat) (Option.some (Jvm.ClassFile.FieldType.object "java/util/BitSet"))).before a0 Z = true := hw _ (List.mem_of_getElem? (i := 33) rfl)
theorem pd_6 : parseMethodDescriptor "()Ljava/util/BitSet;" = some ⟨[], some (.object "java/util/BitSet")⟩ := by decide +kernel
theorem w_32 {a0 : Array Value} {Z : State} (hw : ∀ d ∈ tables_1, d.before a0 Z = true) : (Jvm.Cond.privateMethod ({ cls := "com/example/otayori/otayori/codec/PacketIds", name := "holding", desc := "()Ljava/util/BitSet;" } : Jvm.MethodName)).before a0 Z = true := hw _ (List.mem_of_getElem? (i := 32) rfl)
theorem w_31 {a0 : Array Value} {Z : State} (hw : ∀ d ∈ tables_1, d.before a0 Z = true) : (Jvm.Cond.instanceMethod ({ cls := "com/example/otayori/otayori/codec/PacketIds", name := "holding", desc := "()Ljava/util/BitSet;" } : Jvm.MethodName)).before a0 Z = true := hw _ (List.mem_of_getElem? (i := 31) rfl)
theorem d5_22 : decode prog_12_method_3_code 22 = .ok (.iload_n 1, 1) := by decide +kernel
theorem w_56 {a0 : Array Value} {Z : State} (hw : ∀ d ∈ tables_1, d.before a0 Z = true) : (Jvm.Cond.methodLink "com/example/otayori/otayori/codec/PacketIds" (27 : Nat) ({ cls := "java/util/BitSet", name := "set", desc := "(I)V" } : Jvm.MethodName)).before a0 Z = true := hw _ (List.mem_of_getElem? (i := 56) rfl)
theorem d5_23 : decode prog_12_method_3_code 23 = .ok (.invokevirtual 27, 3) := by decide +kernel
theorem w_60 {a0 : Array Value} {Z : State} (hw : ∀ d ∈ tables_1, d.before a0 Z = true) : (Jvm.Cond.code ({ cls := "java/util/BitSet", name := "set", desc := "(I)V" } : Jvm.MethodName) jdk_92_method_19_code (3 : Nat) (Option.none : Option Jvm.ClassFile.FieldType)).before a0 Z = true := hw _ (List.mem_of_getElem? (i := 60) rfl)
theorem w_59 {a0 : Array Value} {Z : State} (hw : ∀ d ∈ tables_1, d.before a0 Z = true) : (Jvm.Cond.selects "java/util/BitSet" ({ cls := "java/util/BitSet", name := "set", desc := "(I)V" } : Jvm.MethodName) ({ cls := "java/util/BitSet", name := "set", desc := "(I)V" } : Jvm.MethodName)).before a0 Z = true := hw _ (List.mem_of_getElem? (i := 59) rfl)
theorem w_57 {a0 : Array Value} {Z : State} (hw : ∀ d ∈ tables_1, d.before a0 Z = true) : (Jvm.Cond.declares ({ cls := "java/util/BitSet", name := "set", desc := "(I)V" } : Jvm.MethodName)).before a0 Z = true := hw _ (List.mem_of_getElem? (i := 57) rfl)
theorem w_58 {a0 : Array Value} {Z : State} (hw : ∀ d ∈ tables_1, d.before a0 Z = true) : (Jvm.Cond.instanceMethod ({ cls := "java/util/BitSet", name := "set", desc := "(I)V" } : Jvm.MethodName)).before a0 Z = true := hw _ (List.mem_of_getElem? (i := 58) rfl)
theorem d5_26 : decode prog_12_method_3_code 26 = .ok (.aload_n 0, 1) := by decide +kernel
theorem d5_27 : decode prog_12_method_3_code 27 = .ok (.dup, 1) := by decide +kernel
theorem w_77 {a0 : Array Value} {Z : State} (hw : ∀ d ∈ tables_1, d.before a0 Z = true) : (Jvm.Cond.fieldLink "com/example/otayori/otayori/codec/PacketIds" (13 : Nat) "com/example/otayori/otayori/codec/PacketIds" "count" "I").before a0 Z = true := hw _ (List.mem_of_getElem? (i := 77) rfl)
theorem d5_28 : decode prog_12_method_3_code 28 = .ok (.getfield 13, 3) := by decide +kernel
theorem d5_31 : decode prog_12_method_3_code 31 = .ok (.iconst 1, 1) := by decide +kernel
theorem d5_32 : decode prog_12_method_3_code 32 = .ok (.iadd, 1) := by decide +kernel
theorem d5_33 : decode prog_12_method_3_code 33 = .ok (.putfield 13, 3) := by decide +kernel
theorem sn_10 {a0 : Array Value} {Z : State} (hw : ∀ d ∈ tables_1, d.before a0 Z = true) : Jvm.RoadKit.slotOf Z "com/example/otayori/otayori/codec/PacketIds" "held" "Ljava/util/BitSet;" ≠ Jvm.RoadKit.slotOf Z "com/example/otayori/otayori/codec/PacketIds" "count" "I" := slot_ne (Or.inl (w_23 hw)) (Or.inl (w_78 hw)) (by decide) (t := (.object "java/util/BitSet")) (t' := .int) (by decide) (by decide)
theorem sn_11 {a0 : Array Value} {Z : State} (hw : ∀ d ∈ tables_1, d.before a0 Z = true) : Jvm.RoadKit.slotOf Z "com/example/otayori/otayori/codec/PacketIds" "next" "I" ≠ Jvm.RoadKit.slotOf Z "com/example/otayori/otayori/codec/PacketIds" "count" "I" := slot_ne (Or.inl (w_16 hw)) (Or.inl (w_78 hw)) (by decide) (t := .int) (t' := .int) (by decide) (by decide)
theorem d5_36 : decode prog_12_method_3_code 36 = .ok (.iload_n 2, 1) := by decide +kernel
theorem d5_37 : decode prog_12_method_3_code 37 = .ok (.ireturn, 1) := by decide +kernel
def Q5n (Z : State) (a1 : Addr) (cn : Int32) (nx : Int32) (i : Nat) (h0 : Heap) (n0 : Nat) (v : Option Value) (h : Heap) (L : List Loc) : Prop := ∃ bs : Addr, ∃ tw2 : Addr, ∃ kw2 : ClassId, ∃ ws3 : List Int64, ∃ st2 : Int32, ∃ u2 : Nat, ∃ c2 : Int32, v = some (.int (1 : Int32)) ∧ Fr n0 L ∧ Keep h0 h [a1] ∧ Fld Z h a1 "com/example/otayori/otayori/codec/PacketIds" "held" "Ljava/util/BitSet;" (.ref bs) ∧ Fld Z h a1 "com/example/otayori/otayori/codec/PacketIds" "count" "I" (.int c2) ∧ Fld Z h a1 "com/example/otayori/otayori/codec/PacketIds" "next" "I" (.int nx) ∧ Exa Z h bs "java/util/BitSet" ∧ Fld Z h bs "java/util/BitSet" "words" "[J" (.ref tw2) ∧ Fld Z h bs "java/util/BitSet" "wordsInUse" "I" (.int (Int32.ofNat u2)) ∧ Fld Z h bs "java/util/BitSet" "sizeIsSticky" "Z" (.int st2) ∧ (Arv Z h tw2 kw2 .long (Int32.ofNat ws3.length) (ws3.map Value.long) (.long (0 : Int64))) ∧ h0.size ≤ bs ∧ n0 ≤ bs ∧ h0.size ≤ tw2 ∧ n0 ≤ tw2 ∧ bs ≠ tw2 ∧ (own_inv ws3 u2) ∧ (∀ k, k ≤ 65535 → own_get ws3 k = if k = i then 1 else 0) ∧ (ws3.length ≤ 1024)
set_option maxRecDepth 65536 in
set_option maxHeartbeats 40000000 in
theorem rm5n (l : Launch) (Z : State) (a0 : Array Value) (hw : ∀ d ∈ tables_1, d.before a0 Z = true) (wsC : List Jvm.Cond) (a1 : Addr) (cn : Int32) (nx : Int32) (i : Nat) (h0 : Heap) (n0 : Nat) (Z0 : n0 ≤ h0.size) (E_a1 : Exa Z h0 a1 "com/example/otayori/otayori/codec/PacketIds") (g_a1 : n0 ≤ a1) (F_a1_held : Fld Z h0 a1 "com/example/otayori/otayori/codec/PacketIds" "held" "Ljava/util/BitSet;" .null) (F_a1_count : Fld Z h0 a1 "com/example/otayori/otayori/codec/PacketIds" "count" "I" (.int cn)) (F_a1_next : Fld Z h0 a1 "com/example/otayori/otayori/codec/PacketIds" "next" "I" (.int nx)) (hi : i ≤ 65535) (OLD : Old Z n0 h0) (O5 : Sta Z Z.heap "java/util/BitSet" "$assertionsDisabled" "Z" (.int (1 : Int32))) :
    MetFree l (⟨"com/example/otayori/otayori/codec/PacketIds", "hold", "(I)Z"⟩ : MethodName) (head1 (Jvm.Cond.code (⟨"com/example/otayori/otayori/codec/PacketIds", "hold", "(I)Z"⟩ : MethodName) prog_12_method_3_code 3 (some .boolean) :: wsC) ({ frames := 5, cells := 3, slots := 2052, locals := 75 } : Room)) (fun a U => a = #[(.ref a1), (.int (Int32.ofNat i))] ∧ Z.Warmed39 U.vm ∧ U.heap = h0) (fun _ _ _ _ _ => True) (fun _ U o U' => ∃ v L, o = .returned v ∧ Q5n Z a1 cn nx i h0 n0 v U'.heap L ∧ FrameEnd U o U' L ({ frames := 5, cells := 3, slots := 2052, locals := 75 } : Room).cells ({ frames := 5, cells := 3, slots := 2052, locals := 75 } : Room).slots) := by
  refine MetFree.of_bodySF (plainFor_of_name pn_2) hisR ?_
  intro p e s m args below meth c s₁ Bd hml0 hP hK
  obtain ⟨rfl, hZ, hh⟩ := hP
  have hx := Bd.exec
  have hby := Bd.bytes
  have hml : c.maxLocals = 3 := hml0
  have hown : s.vm.findClass "com/example/otayori/otayori/codec/PacketIds" = some m.cls := findClass_of_methodNamed Bd.named
  have hnm := (name_of_methodNamed Bd.named Bd.method).1
  have X0 : Stand p l e ({ frames := 5, cells := 3, slots := 2052, locals := 75 } : Room) s m #[(.ref a1), (.int (Int32.ofNat i))] below meth c s₁ [] 0 0 := Stand.of_body Bd
  have e0 : s₁.heap = h0 := by rw [← hh, Bd.state]; rfl
  have NF := Fr.nil n0
  have KP : Keep h0 h0 [a1] := Keep.refl h0 _
  refine WP.go ?_
  refine WP.cast (ef_5n m a1 (Int32.ofNat i)) ?_
  refine WP.name ?_
  intro G hG
  refine WP.st (T' := s₁) (f' := (mkF m 2 #[.val (.ref a1), .val (.int (Int32.ofNat i)), .unset] [(.int (Int32.ofNat i)), (.ref a1)])) (fun t k => ?_) ?_
  · refine XS.aloadN X0.here hx rfl (hb hby d5_0) rfl rfl ?_
    refine XS.iloadN X0.here hx rfl (hb hby d5_1) rfl ?_
    exact k
  obtain ⟨cq105, kq105, q105a, q105b, q105c⟩ := isOf hZ e0 E_a1
  obtain ⟨_, _, ⟨T105, L105, k105, n105⟩, -, X105, ⟨Lc105, hQ105, l105, y105, z105⟩, st105⟩ := X0.virtualBack hx (y := (⟨"com/example/otayori/otayori/codec/PacketIds", "isHeld", "(I)Z"⟩ : MethodName)) (z := (⟨"com/example/otayori/otayori/codec/PacketIds", "isHeld", "(I)Z"⟩ : MethodName)) hown (mvT hZ (w_29 hw)) (mvT hZ (w_18 hw)) (notFace_of_selects (args := #[]) (mvT hZ (w_20 hw))) (mvT hZ (w_20 hw)) (mvT hZ (w_19 hw)) (by decide) (backOf (W := 0) (rm4n l Z a0 hw [] a1 i h0 n0 Z0 F_a1_held) hZ (w_21 hw) (w_8 hw) (by decide) (by decide)) q105a q105c (g := (mkF m 2 #[.val (.ref a1), .val (.int (Int32.ofNat i)), .unset] [(.int (Int32.ofNat i)), (.ref a1)])) rfl (by rw [hml]; rfl) (Steps.refl _) (argsL := [(.int (Int32.ofNat i))]) (rest := []) (lenOf pd_5 rfl) rfl (by show 2 * 0 + _ ≤ _; exact Nat.le_of_eq rfl) (hb hby d5_2) (fun _ _ => ⟨rfl, e0, (by decide : 0 + 0 ≤ _), (by decide : 0 + 0 ≤ _)⟩)
  dsimp only [Pt.U, Pt.locs, Pt.cells, Pt.slots] at X105 l105 y105 z105 st105 hQ105
  subst l105 y105 z105
  obtain ⟨rfl, Nq105, Kq105⟩ := hQ105
  replace NF := Fr.app NF Nq105
  clear Nq105
  refine WP.tr st105 ?_
  clear st105
  replace Kq105 := Kq105.trans (rfl : h0 = h0)
  have hXN : ∃ LL, Stand p l e ({ frames := 5, cells := 3, slots := 2052, locals := 75 } : Room) s m #[(.ref a1), (.int (Int32.ofNat i))] below meth c T105 LL 0 0 ∧ Fr n0 LL := ⟨_, X105, NF⟩
  clear X105 NF
  obtain ⟨LL106, X105, NF⟩ := hXN
  show WP p.tables e below _ T105 (mkF m 5 #[.val (.ref a1), .val (.int (Int32.ofNat i)), .unset] [(.int (0 : Int32))])
  refine WP.st (T' := T105) (f' := (mkF m 19 #[.val (.ref a1), .val (.int (Int32.ofNat i)), .val (.int (1 : Int32))] [(.ref a1)])) (fun t k => ?_) ?_
  · refine XS.ifNo X105.here hx rfl (hb hby d5_5) rfl ((if0 _ _).trans (teq (by decide : (0 : Int32) = (0 : Int32))).2) ?_
    refine XS.iconst X105.here hx rfl (hb hby d5_8) ?_
    refine XS.goto X105.here hx rfl (pc0 := 9) (pc' := 13) rfl (hb hby d5_9) (by decide) (by decide) ?_
    refine XS.istoreN X105.here hx rfl (hb hby d5_13) rfl (l' := #[.val (.ref a1), .val (.int (Int32.ofNat i)), .val (.int (1 : Int32))]) rfl ?_
    show Steps p.tables e below (T105.setTop (mkF m 14 #[.val (.ref a1), .val (.int (Int32.ofNat i)), .val (.int (1 : Int32))] [])) t
    refine XS.iloadN X105.here hx rfl (hb hby d5_14) rfl ?_
    refine XS.ifNo X105.here hx rfl (hb hby d5_15) rfl ((if0 _ _).trans (feq (by decide : ¬ ((1 : Int32) = (0 : Int32)))).1) ?_
    refine XS.aloadN X105.here hx rfl (hb hby d5_18) rfl rfl ?_
    exact k
  obtain ⟨cq107, q107, q107'⟩ := E_a1.cell
  obtain ⟨_, _, ⟨T107, L107, k107, n107⟩, -, X107, ⟨Lc107, hQ107, l107, y107, z107⟩, st107⟩ := X105.privateBack hx (y := (⟨"com/example/otayori/otayori/codec/PacketIds", "holding", "()Ljava/util/BitSet;"⟩ : MethodName)) hown (mvT hZ (w_30 hw)) (mvT hZ (w_31 hw)) (ownSel (y := (⟨"com/example/otayori/otayori/codec/PacketIds", "holding", "()Ljava/util/BitSet;"⟩ : MethodName)) (mvT hZ (w_20 hw)) rfl (Cond.privateMethod_at (mvP hZ (w_32 hw) (args := #[]))) (mvT hZ (w_31 hw)) (by decide)) (Cond.privateMethod_at (mvP hZ (w_32 hw) (args := #[]))) (mvT hZ (w_33 hw)) (by decide) (backOf (W := 0) (rm6n l Z a0 hw [] a1 cn nx h0 n0 Z0 E_a1 g_a1 F_a1_held F_a1_count F_a1_next OLD) hZ (w_33 hw) (w_8 hw) (by decide) (by decide)) (g := (mkF m 19 #[.val (.ref a1), .val (.int (Int32.ofNat i)), .val (.int (1 : Int32))] [(.ref a1)])) rfl (by rw [hml]; rfl) (Steps.refl _) (a := a1) (by rw [Kq105]; exact q107) q107' (argsL := []) (rest := []) (lenOf pd_6 rfl) rfl (by show 2 * 0 + _ ≤ _; exact Nat.le_of_eq rfl) (hb hby d5_19) (fun _ _ => ⟨rfl, Kq105, (by decide : 0 + 2 ≤ _), (by decide : 0 + 4 ≤ _)⟩)
  dsimp only [Pt.U, Pt.locs, Pt.cells, Pt.slots] at X107 l107 y107 z107 st107 hQ107
  subst l107 y107 z107
  obtain ⟨bs_107, tw_107, kw_107, rfl, Nq107, Kq107, nF107_a1_held, nF107_a1_count, nF107_a1_next, nE107_bs_107, nF107_bs_107_words, nF107_bs_107_wordsInUse, nF107_bs_107_sizeIsSticky, nA107_tw_107, szq_bs_107, g_bs_107, szq_tw_107, g_tw_107, ne_bs_107_tw_107⟩ := hQ107
  replace NF := Fr.app NF Nq107
  clear Nq107
  refine WP.tr st107 ?_
  clear st107
  obtain ⟨h107, e107⟩ : ∃ h, T107.heap = h := ⟨_, rfl⟩
  rw [e107] at Kq107 nF107_a1_held nF107_a1_count nF107_a1_next nE107_bs_107 nF107_bs_107_words nF107_bs_107_wordsInUse nF107_bs_107_sizeIsSticky nA107_tw_107
  have ne_a1_bs_107 : a1 ≠ bs_107 := Nat.ne_of_lt (Nat.lt_of_lt_of_le E_a1.lt szq_bs_107)
  have sz_bs_107 : h0.size ≤ bs_107 := Nat.le_trans KP.1 szq_bs_107
  have ne_a1_tw_107 : a1 ≠ tw_107 := Nat.ne_of_lt (Nat.lt_of_lt_of_le E_a1.lt szq_tw_107)
  have sz_tw_107 : h0.size ≤ tw_107 := Nat.le_trans KP.1 szq_tw_107
  replace E_a1 := E_a1.keep Kq107
  clear F_a1_held
  clear F_a1_count
  clear F_a1_next
  replace OLD := OLD.keep Kq107 (allS g_a1 all0)
  replace Z0 := Nat.le_trans Z0 Kq107.1
  replace KP := KP.trans Kq107 (allS (Or.inl (List.mem_of_getElem? (i := 0) rfl)) all0)
  clear Kq107
  have F_a1_held := nF107_a1_held
  clear nF107_a1_held
  have F_a1_count := nF107_a1_count
  clear nF107_a1_count
  have F_a1_next := nF107_a1_next
  clear nF107_a1_next
  have E_bs_107 := nE107_bs_107
  clear nE107_bs_107
  have F_bs_107_words := nF107_bs_107_words
  clear nF107_bs_107_words
  have F_bs_107_wordsInUse := nF107_bs_107_wordsInUse
  clear nF107_bs_107_wordsInUse
  have F_bs_107_sizeIsSticky := nF107_bs_107_sizeIsSticky
  clear nF107_bs_107_sizeIsSticky
  have V_tw_107 := nA107_tw_107
  clear nA107_tw_107
  have hXN : ∃ LL, Stand p l e ({ frames := 5, cells := 3, slots := 2052, locals := 75 } : Room) s m #[(.ref a1), (.int (Int32.ofNat i))] below meth c T107 LL 2 4 ∧ Fr n0 LL := ⟨_, X107, NF⟩
  clear X107 NF
  obtain ⟨LL108, X107, NF⟩ := hXN
  show WP p.tables e below _ T107 (mkF m 22 #[.val (.ref a1), .val (.int (Int32.ofNat i)), .val (.int (1 : Int32))] [(.ref bs_107)])
  refine WP.st (T' := T107) (f' := (mkF m 23 #[.val (.ref a1), .val (.int (Int32.ofNat i)), .val (.int (1 : Int32))] [(.int (Int32.ofNat i)), (.ref bs_107)])) (fun t k => ?_) ?_
  · refine XS.iloadN X107.here hx rfl (hb hby d5_22) rfl ?_
    exact k
  obtain ⟨cq109, kq109, q109a, q109b, q109c⟩ := isOf hZ e107 E_bs_107
  obtain ⟨_, _, ⟨T109, L109, k109, n109⟩, -, X109, ⟨Lc109, hQ109, l109, y109, z109⟩, st109⟩ := X107.virtualBack hx (y := (⟨"java/util/BitSet", "set", "(I)V"⟩ : MethodName)) (z := (⟨"java/util/BitSet", "set", "(I)V"⟩ : MethodName)) hown (mvT hZ (w_56 hw)) (mvT hZ (w_57 hw)) (notFace_of_selects (args := #[]) (mvT hZ (w_59 hw))) (mvT hZ (w_59 hw)) (mvT hZ (w_58 hw)) (by decide) (backOf (W := 0) (rm10 l Z a0 hw [] bs_107 tw_107 kw_107 [(0 : Int64)] 0 (0 : Int32) i h107 n0 Z0 E_bs_107 g_bs_107 F_bs_107_words F_bs_107_wordsInUse F_bs_107_sizeIsSticky V_tw_107 g_tw_107 ne_bs_107_tw_107 (own_inv0 : own_inv [(0 : Int64)] 0) (by decide : [(0 : Int64)].length ≤ 1024) OLD (O5 : Sta Z Z.heap "java/util/BitSet" "$assertionsDisabled" "Z" (.int (1 : Int32))) (hi : i ≤ 65535)) hZ (w_60 hw) (w_36 hw) (by decide) (by decide)) q109a q109c (g := (mkF m 23 #[.val (.ref a1), .val (.int (Int32.ofNat i)), .val (.int (1 : Int32))] [(.int (Int32.ofNat i)), (.ref bs_107)])) rfl (by rw [hml]; rfl) (Steps.refl _) (argsL := [(.int (Int32.ofNat i))]) (rest := []) (lenOf pd_1 rfl) rfl (by show 2 * 0 + _ ≤ _; exact Nat.le_of_eq rfl) (hb hby d5_23) (fun _ _ => ⟨rfl, e107, (by decide : 2 + 1 ≤ _), (by decide : 4 + 2048 ≤ _)⟩)
  dsimp only [Pt.U, Pt.locs, Pt.cells, Pt.slots] at X109 l109 y109 z109 st109 hQ109
  subst l109 y109 z109
  obtain ⟨tw2_109, kw2_109, ws3_109, st2_109, u2_109, rfl, Nq109, Kq109, nF109_bs_107_words, nF109_bs_107_wordsInUse, nF109_bs_107_sizeIsSticky, nA109_tw2_109, g_tw2_109, ne_bs_107_tw2_109, or_tw2_109, hinv3_109, hget3_109, hb3_109⟩ := hQ109
  replace NF := Fr.app NF Nq109
  clear Nq109
  refine WP.tr st109 ?_
  clear st109
  obtain ⟨h109, e109⟩ : ∃ h, T109.heap = h := ⟨_, rfl⟩
  rw [e109] at Kq109 nF109_bs_107_words nF109_bs_107_wordsInUse nF109_bs_107_sizeIsSticky nA109_tw2_109
  have ne_a1_tw2_109 : a1 ≠ tw2_109 := ownNeOr ne_a1_tw_107 E_a1.lt or_tw2_109
  have old_tw2_109 : tw2_109 ∈ [a1] ∨ h0.size ≤ tw2_109 := or_tw2_109.elim (fun q => q ▸ (Or.inr sz_tw_107)) (fun q => Or.inr (Nat.le_trans KP.1 q))
  replace E_a1 := E_a1.keep Kq109
  replace OLD := OLD.keep Kq109 (allS g_bs_107 (allS g_tw_107 all0))
  replace F_a1_held := F_a1_held.keep Kq109 (by exact ninS ne_a1_bs_107 (ninS ne_a1_tw_107 (nin0)))
  replace F_a1_count := F_a1_count.keep Kq109 (by exact ninS ne_a1_bs_107 (ninS ne_a1_tw_107 (nin0)))
  replace F_a1_next := F_a1_next.keep Kq109 (by exact ninS ne_a1_bs_107 (ninS ne_a1_tw_107 (nin0)))
  replace E_bs_107 := E_bs_107.keep Kq109
  clear F_bs_107_words
  clear F_bs_107_wordsInUse
  clear F_bs_107_sizeIsSticky
  clear V_tw_107
  replace Z0 := Nat.le_trans Z0 Kq109.1
  replace KP := KP.trans Kq109 (allS (Or.inr sz_bs_107) (allS (Or.inr sz_tw_107) all0))
  clear Kq109
  have F_bs_107_words := nF109_bs_107_words
  clear nF109_bs_107_words
  have F_bs_107_wordsInUse := nF109_bs_107_wordsInUse
  clear nF109_bs_107_wordsInUse
  have F_bs_107_sizeIsSticky := nF109_bs_107_sizeIsSticky
  clear nF109_bs_107_sizeIsSticky
  have V_tw2_109 := nA109_tw2_109
  clear nA109_tw2_109
  have hXN : ∃ LL, Stand p l e ({ frames := 5, cells := 3, slots := 2052, locals := 75 } : Room) s m #[(.ref a1), (.int (Int32.ofNat i))] below meth c T109 LL 3 2052 ∧ Fr n0 LL := ⟨_, X109, NF⟩
  clear X109 NF
  obtain ⟨LL110, X109, NF⟩ := hXN
  show WP p.tables e below _ T109 (mkF m 26 #[.val (.ref a1), .val (.int (Int32.ofNat i)), .val (.int (1 : Int32))] [])
  refine WP.st (T' := T109) (f' := (mkF m 28 #[.val (.ref a1), .val (.int (Int32.ofNat i)), .val (.int (1 : Int32))] [(.ref a1), (.ref a1)])) (fun t k => ?_) ?_
  · refine XS.aloadN X109.here hx rfl (hb hby d5_26) rfl rfl ?_
    refine XS.dup X109.here hx rfl (hb hby d5_27) rfl rfl ?_
    exact k
  obtain ⟨T111, X111, e111, st111⟩ := getF X109 hx hZ hown (host := "") (Or.inl (w_77 hw)) Via.refl e109 F_a1_count (g := (mkF m 28 #[.val (.ref a1), .val (.int (Int32.ofNat i)), .val (.int (1 : Int32))] [(.ref a1), (.ref a1)])) rfl rfl (hb hby d5_28)
  refine WP.st st111 ?_
  clear st111
  show WP p.tables e below _ T111 (mkF m 31 #[.val (.ref a1), .val (.int (Int32.ofNat i)), .val (.int (1 : Int32))] [(.int cn), (.ref a1)])
  refine WP.st (T' := T111) (f' := (mkF m 33 #[.val (.ref a1), .val (.int (Int32.ofNat i)), .val (.int (1 : Int32))] [(.int (cn + (1 : Int32))), (.ref a1)])) (fun t k => ?_) ?_
  · refine XS.iconst X111.here hx rfl (hb hby d5_31) ?_
    refine XS.iadd X111.here hx rfl (hb hby d5_32) rfl ?_
    exact k
  obtain ⟨T112, h112, X112, e112, W112, st112⟩ := putF X111 hx hZ hown (host := "") (Or.inl (w_77 hw)) Via.refl e111 F_a1_count E_a1 (Or.inl (w_78 hw)) (w_7 hw) (ty := .int) (by decide) rfl rfl (g := (mkF m 33 #[.val (.ref a1), .val (.int (Int32.ofNat i)), .val (.int (1 : Int32))] [(.int (cn + (1 : Int32))), (.ref a1)])) rfl rfl (hb hby d5_33)
  refine WP.st st112 ?_
  clear st112
  replace E_a1 := E_a1.wr W112
  replace OLD := OLD.wr W112 g_a1
  replace F_a1_held := F_a1_held.other W112 (Or.inr (sn_10 hw))
  replace F_a1_count := F_a1_count.same W112
  replace F_a1_next := F_a1_next.other W112 (Or.inr (sn_11 hw))
  replace E_bs_107 := E_bs_107.wr W112
  replace F_bs_107_words := F_bs_107_words.other W112 (Or.inl (Ne.symm ne_a1_bs_107))
  replace F_bs_107_wordsInUse := F_bs_107_wordsInUse.other W112 (Or.inl (Ne.symm ne_a1_bs_107))
  replace F_bs_107_sizeIsSticky := F_bs_107_sizeIsSticky.other W112 (Or.inl (Ne.symm ne_a1_bs_107))
  replace V_tw2_109 := V_tw2_109.other W112 (Ne.symm ne_a1_tw2_109)
  replace Z0 := Nat.le_trans Z0 (Keep.of_wr W112).1
  replace KP := KP.wr W112 (Or.inl (List.mem_of_getElem? (i := 0) rfl))
  replace NF := Fr.snoc X112 NF g_a1
  clear W112
  have hXN : ∃ LL, Stand p l e ({ frames := 5, cells := 3, slots := 2052, locals := 75 } : Room) s m #[(.ref a1), (.int (Int32.ofNat i))] below meth c T112 LL 3 2052 ∧ Fr n0 LL := ⟨_, X112, NF⟩
  clear X112 NF
  obtain ⟨LL113, X112, NF⟩ := hXN
  show WP p.tables e below _ T112 (mkF m 36 #[.val (.ref a1), .val (.int (Int32.ofNat i)), .val (.int (1 : Int32))] [])
  refine WP.st (T' := T112) (f' := (mkF m 37 #[.val (.ref a1), .val (.int (Int32.ofNat i)), .val (.int (1 : Int32))] [(.int (1 : Int32))])) (fun t k => ?_) ?_
  · refine XS.iloadN X112.here hx rfl (hb hby d5_36) rfl ?_
    exact k
  subst hG
  obtain ⟨fs, hr, hrun, hended, hW, hsame⟩ := X112.leave (v := some (.int (1 : Int32))) (fun h => by rw [Bd.returns] at h; cases h)
  refine WP.fin ⟨_, _, ?_, hrun, hended, _, _, rfl, ?_, ⟨_, rfl⟩, hW, hsame.mono (by decide) (by decide)⟩
  · exact retN X112 hx (t := .boolean) Bd.returns (by simp) (hb hby d5_37) hr
  · show Q5n Z a1 cn nx i h0 n0 _ T112.heap _
    rw [e112]
    exact ⟨bs_107, tw2_109, kw2_109, ws3_109, st2_109, u2_109, (cn + (1 : Int32)), rfl, NF, KP, F_a1_held, F_a1_count, F_a1_next, E_bs_107, F_bs_107_words, F_bs_107_wordsInUse, F_bs_107_sizeIsSticky, V_tw2_109, sz_bs_107, g_bs_107, (old_tw2_109.resolve_left (fun q => ne_a1_tw2_109 (List.mem_singleton.mp q).symm)), g_tw2_109, ne_bs_107_tw2_109, hinv3_109, (fun k hk => by rw [hget3_109 k hk, own_get0]), (Nat.le_trans hb3_109 (by decide))⟩
theorem ef_5y (m : MethodId) (z0 : Addr) (z1 : Int32) : entryFrame m #[(.ref z0), (.int z1)] 3 = mkF m 0 #[.val (.ref z0), .val (.int z1), .unset] [] := by
  all_goals first | (simp [entryFrame, mkF, argsToLocals, Value.category]; done) | rfl
theorem d5_12 : decode prog_12_method_3_code 12 = .ok (.iconst 0, 1) := by decide +kernel
def Q5y (Z : State) (a1 : Addr) (cn : Int32) (nx : Int32) (bs : Addr) (tw : Addr) (kw : ClassId) (ws : List Int64) (u : Nat) (st : Int32) (i : Nat) (h0 : Heap) (n0 : Nat) (v : Option Value) (h : Heap) (L : List Loc) : Prop := ∃ r : Int32, ∃ tw2 : Addr, ∃ kw2 : ClassId, ∃ ws3 : List Int64, ∃ st2 : Int32, ∃ u2 : Nat, ∃ c2 : Int32, v = some (.int r) ∧ Fr n0 L ∧ Keep h0 h [a1, bs, tw] ∧ Fld Z h a1 "com/example/otayori/otayori/codec/PacketIds" "held" "Ljava/util/BitSet;" (.ref bs) ∧ Fld Z h a1 "com/example/otayori/otayori/codec/PacketIds" "count" "I" (.int c2) ∧ Fld Z h a1 "com/example/otayori/otayori/codec/PacketIds" "next" "I" (.int nx) ∧ Exa Z h bs "java/util/BitSet" ∧ Fld Z h bs "java/util/BitSet" "words" "[J" (.ref tw2) ∧ Fld Z h bs "java/util/BitSet" "wordsInUse" "I" (.int (Int32.ofNat u2)) ∧ Fld Z h bs "java/util/BitSet" "sizeIsSticky" "Z" (.int st2) ∧ (Arv Z h tw2 kw2 .long (Int32.ofNat ws3.length) (ws3.map Value.long) (.long (0 : Int64))) ∧ n0 ≤ tw2 ∧ bs ≠ tw2 ∧ (tw2 = tw ∨ h0.size ≤ tw2) ∧ (own_inv ws3 u2) ∧ (∀ k, k ≤ 65535 → own_get ws3 k = if k = i then 1 else own_get ws k) ∧ (ws3.length ≤ 2048)
set_option maxRecDepth 65536 in
set_option maxHeartbeats 40000000 in
theorem rm5y (l : Launch) (Z : State) (a0 : Array Value) (hw : ∀ d ∈ tables_1, d.before a0 Z = true) (wsC : List Jvm.Cond) (a1 : Addr) (cn : Int32) (nx : Int32) (bs : Addr) (tw : Addr) (kw : ClassId) (ws : List Int64) (u : Nat) (st : Int32) (i : Nat) (h0 : Heap) (n0 : Nat) (Z0 : n0 ≤ h0.size) (E_a1 : Exa Z h0 a1 "com/example/otayori/otayori/codec/PacketIds") (g_a1 : n0 ≤ a1) (F_a1_held : Fld Z h0 a1 "com/example/otayori/otayori/codec/PacketIds" "held" "Ljava/util/BitSet;" (.ref bs)) (F_a1_count : Fld Z h0 a1 "com/example/otayori/otayori/codec/PacketIds" "count" "I" (.int cn)) (F_a1_next : Fld Z h0 a1 "com/example/otayori/otayori/codec/PacketIds" "next" "I" (.int nx)) (E_bs : Exa Z h0 bs "java/util/BitSet") (g_bs : n0 ≤ bs) (F_bs_words : Fld Z h0 bs "java/util/BitSet" "words" "[J" (.ref tw)) (F_bs_wordsInUse : Fld Z h0 bs "java/util/BitSet" "wordsInUse" "I" (.int (Int32.ofNat u))) (F_bs_sizeIsSticky : Fld Z h0 bs "java/util/BitSet" "sizeIsSticky" "Z" (.int st)) (V_tw : Arv Z h0 tw kw .long (Int32.ofNat ws.length) (ws.map Value.long) (.long (0 : Int64))) (g_tw : n0 ≤ tw) (ne_bs_tw : bs ≠ tw) (hinv : own_inv ws u) (hwl : ws.length ≤ 1024) (OLD : Old Z n0 h0) (O5 : Sta Z Z.heap "java/util/BitSet" "$assertionsDisabled" "Z" (.int (1 : Int32))) (hi : i ≤ 65535) (ne_a1_bs : a1 ≠ bs) (ne_a1_tw : a1 ≠ tw) :
    MetFree l (⟨"com/example/otayori/otayori/codec/PacketIds", "hold", "(I)Z"⟩ : MethodName) (head1 (Jvm.Cond.code (⟨"com/example/otayori/otayori/codec/PacketIds", "hold", "(I)Z"⟩ : MethodName) prog_12_method_3_code 3 (some .boolean) :: wsC) ({ frames := 5, cells := 1, slots := 2048, locals := 75 } : Room)) (fun a U => a = #[(.ref a1), (.int (Int32.ofNat i))] ∧ Z.Warmed39 U.vm ∧ U.heap = h0) (fun _ _ _ _ _ => True) (fun _ U o U' => ∃ v L, o = .returned v ∧ Q5y Z a1 cn nx bs tw kw ws u st i h0 n0 v U'.heap L ∧ FrameEnd U o U' L ({ frames := 5, cells := 1, slots := 2048, locals := 75 } : Room).cells ({ frames := 5, cells := 1, slots := 2048, locals := 75 } : Room).slots) := by
  refine MetFree.of_bodySF (plainFor_of_name pn_2) hisR ?_
  intro p e s m args below meth c s₁ Bd hml0 hP hK
  obtain ⟨rfl, hZ, hh⟩ := hP
  have hx := Bd.exec
  have hby := Bd.bytes
  have hml : c.maxLocals = 3 := hml0
  have hown : s.vm.findClass "com/example/otayori/otayori/codec/PacketIds" = some m.cls := findClass_of_methodNamed Bd.named
  have hnm := (name_of_methodNamed Bd.named Bd.method).1
  have X0 : Stand p l e ({ frames := 5, cells := 1, slots := 2048, locals := 75 } : Room) s m #[(.ref a1), (.int (Int32.ofNat i))] below meth c s₁ [] 0 0 := Stand.of_body Bd
  have e0 : s₁.heap = h0 := by rw [← hh, Bd.state]; rfl
  have NF := Fr.nil n0
  have KP : Keep h0 h0 [a1, bs, tw] := Keep.refl h0 _
  refine WP.go ?_
  refine WP.cast (ef_5y m a1 (Int32.ofNat i)) ?_
  refine WP.name ?_
  intro G hG
  refine WP.st (T' := s₁) (f' := (mkF m 2 #[.val (.ref a1), .val (.int (Int32.ofNat i)), .unset] [(.int (Int32.ofNat i)), (.ref a1)])) (fun t k => ?_) ?_
  · refine XS.aloadN X0.here hx rfl (hb hby d5_0) rfl rfl ?_
    refine XS.iloadN X0.here hx rfl (hb hby d5_1) rfl ?_
    exact k
  obtain ⟨cq114, kq114, q114a, q114b, q114c⟩ := isOf hZ e0 E_a1
  obtain ⟨_, _, ⟨T114, L114, k114, n114⟩, -, X114, ⟨Lc114, hQ114, l114, y114, z114⟩, st114⟩ := X0.virtualBack hx (y := (⟨"com/example/otayori/otayori/codec/PacketIds", "isHeld", "(I)Z"⟩ : MethodName)) (z := (⟨"com/example/otayori/otayori/codec/PacketIds", "isHeld", "(I)Z"⟩ : MethodName)) hown (mvT hZ (w_29 hw)) (mvT hZ (w_18 hw)) (notFace_of_selects (args := #[]) (mvT hZ (w_20 hw))) (mvT hZ (w_20 hw)) (mvT hZ (w_19 hw)) (by decide) (backOf (W := 0) (rm4y l Z a0 hw [] a1 bs tw kw ws u st i h0 n0 Z0 F_a1_held E_bs g_bs F_bs_words F_bs_wordsInUse F_bs_sizeIsSticky V_tw g_tw ne_bs_tw (hinv : own_inv ws u) (Nat.le_trans hwl (by decide) : ws.length ≤ 2048) OLD (O5 : Sta Z Z.heap "java/util/BitSet" "$assertionsDisabled" "Z" (.int (1 : Int32))) (hi : i ≤ 65535)) hZ (w_21 hw) (w_8 hw) (by decide) (by decide)) q114a q114c (g := (mkF m 2 #[.val (.ref a1), .val (.int (Int32.ofNat i)), .unset] [(.int (Int32.ofNat i)), (.ref a1)])) rfl (by rw [hml]; rfl) (Steps.refl _) (argsL := [(.int (Int32.ofNat i))]) (rest := []) (lenOf pd_5 rfl) rfl (by show 2 * 0 + _ ≤ _; exact Nat.le_of_eq rfl) (hb hby d5_2) (fun _ _ => ⟨rfl, e0, (by decide : 0 + 0 ≤ _), (by decide : 0 + 0 ≤ _)⟩)
  dsimp only [Pt.U, Pt.locs, Pt.cells, Pt.slots] at X114 l114 y114 z114 st114 hQ114
  subst l114 y114 z114
  obtain ⟨rfl, Nq114, Kq114⟩ := hQ114
  replace NF := Fr.app NF Nq114
  clear Nq114
  refine WP.tr st114 ?_
  clear st114
  replace Kq114 := Kq114.trans (rfl : h0 = h0)
  have hXN : ∃ LL, Stand p l e ({ frames := 5, cells := 1, slots := 2048, locals := 75 } : Room) s m #[(.ref a1), (.int (Int32.ofNat i))] below meth c T114 LL 0 0 ∧ Fr n0 LL := ⟨_, X114, NF⟩
  clear X114 NF
  obtain ⟨LL115, X114, NF⟩ := hXN
  show WP p.tables e below _ T114 (mkF m 5 #[.val (.ref a1), .val (.int (Int32.ofNat i)), .unset] [(.int (own_get ws i))])
  by_cases hc116 : (own_get ws i) = (0 : Int32)
  · skip
    refine WP.st (T' := T114) (f' := (mkF m 19 #[.val (.ref a1), .val (.int (Int32.ofNat i)), .val (.int (1 : Int32))] [(.ref a1)])) (fun t k => ?_) ?_
    · refine XS.ifNo X114.here hx rfl (hb hby d5_5) rfl ((if0 _ _).trans (teq hc116).2) ?_
      refine XS.iconst X114.here hx rfl (hb hby d5_8) ?_
      refine XS.goto X114.here hx rfl (pc0 := 9) (pc' := 13) rfl (hb hby d5_9) (by decide) (by decide) ?_
      refine XS.istoreN X114.here hx rfl (hb hby d5_13) rfl (l' := #[.val (.ref a1), .val (.int (Int32.ofNat i)), .val (.int (1 : Int32))]) rfl ?_
      show Steps p.tables e below (T114.setTop (mkF m 14 #[.val (.ref a1), .val (.int (Int32.ofNat i)), .val (.int (1 : Int32))] [])) t
      refine XS.iloadN X114.here hx rfl (hb hby d5_14) rfl ?_
      refine XS.ifNo X114.here hx rfl (hb hby d5_15) rfl ((if0 _ _).trans (feq (by decide : ¬ ((1 : Int32) = (0 : Int32)))).1) ?_
      refine XS.aloadN X114.here hx rfl (hb hby d5_18) rfl rfl ?_
      exact k
    obtain ⟨cq117, q117, q117'⟩ := E_a1.cell
    obtain ⟨_, _, ⟨T117, L117, k117, n117⟩, -, X117, ⟨Lc117, hQ117, l117, y117, z117⟩, st117⟩ := X114.privateBack hx (y := (⟨"com/example/otayori/otayori/codec/PacketIds", "holding", "()Ljava/util/BitSet;"⟩ : MethodName)) hown (mvT hZ (w_30 hw)) (mvT hZ (w_31 hw)) (ownSel (y := (⟨"com/example/otayori/otayori/codec/PacketIds", "holding", "()Ljava/util/BitSet;"⟩ : MethodName)) (mvT hZ (w_20 hw)) rfl (Cond.privateMethod_at (mvP hZ (w_32 hw) (args := #[]))) (mvT hZ (w_31 hw)) (by decide)) (Cond.privateMethod_at (mvP hZ (w_32 hw) (args := #[]))) (mvT hZ (w_33 hw)) (by decide) (backOf (W := 0) (rm6y l Z a0 hw [] a1 bs h0 n0 Z0 F_a1_held) hZ (w_33 hw) (w_8 hw) (by decide) (by decide)) (g := (mkF m 19 #[.val (.ref a1), .val (.int (Int32.ofNat i)), .val (.int (1 : Int32))] [(.ref a1)])) rfl (by rw [hml]; rfl) (Steps.refl _) (a := a1) (by rw [Kq114]; exact q117) q117' (argsL := []) (rest := []) (lenOf pd_6 rfl) rfl (by show 2 * 0 + _ ≤ _; exact Nat.le_of_eq rfl) (hb hby d5_19) (fun _ _ => ⟨rfl, Kq114, (by decide : 0 + 0 ≤ _), (by decide : 0 + 0 ≤ _)⟩)
    dsimp only [Pt.U, Pt.locs, Pt.cells, Pt.slots] at X117 l117 y117 z117 st117 hQ117
    subst l117 y117 z117
    obtain ⟨rfl, Nq117, Kq117⟩ := hQ117
    replace NF := Fr.app NF Nq117
    clear Nq117
    refine WP.tr st117 ?_
    clear st117
    replace Kq117 := Kq117.trans (rfl : h0 = h0)
    have hXN : ∃ LL, Stand p l e ({ frames := 5, cells := 1, slots := 2048, locals := 75 } : Room) s m #[(.ref a1), (.int (Int32.ofNat i))] below meth c T117 LL 0 0 ∧ Fr n0 LL := ⟨_, X117, NF⟩
    clear X117 NF
    obtain ⟨LL118, X117, NF⟩ := hXN
    show WP p.tables e below _ T117 (mkF m 22 #[.val (.ref a1), .val (.int (Int32.ofNat i)), .val (.int (1 : Int32))] [(.ref bs)])
    refine WP.st (T' := T117) (f' := (mkF m 23 #[.val (.ref a1), .val (.int (Int32.ofNat i)), .val (.int (1 : Int32))] [(.int (Int32.ofNat i)), (.ref bs)])) (fun t k => ?_) ?_
    · refine XS.iloadN X117.here hx rfl (hb hby d5_22) rfl ?_
      exact k
    obtain ⟨cq119, kq119, q119a, q119b, q119c⟩ := isOf hZ Kq117 E_bs
    obtain ⟨_, _, ⟨T119, L119, k119, n119⟩, -, X119, ⟨Lc119, hQ119, l119, y119, z119⟩, st119⟩ := X117.virtualBack hx (y := (⟨"java/util/BitSet", "set", "(I)V"⟩ : MethodName)) (z := (⟨"java/util/BitSet", "set", "(I)V"⟩ : MethodName)) hown (mvT hZ (w_56 hw)) (mvT hZ (w_57 hw)) (notFace_of_selects (args := #[]) (mvT hZ (w_59 hw))) (mvT hZ (w_59 hw)) (mvT hZ (w_58 hw)) (by decide) (backOf (W := 0) (rm10 l Z a0 hw [] bs tw kw ws u st i h0 n0 Z0 E_bs g_bs F_bs_words F_bs_wordsInUse F_bs_sizeIsSticky V_tw g_tw ne_bs_tw (hinv : own_inv ws u) (hwl : ws.length ≤ 1024) OLD (O5 : Sta Z Z.heap "java/util/BitSet" "$assertionsDisabled" "Z" (.int (1 : Int32))) (hi : i ≤ 65535)) hZ (w_60 hw) (w_36 hw) (by decide) (by decide)) q119a q119c (g := (mkF m 23 #[.val (.ref a1), .val (.int (Int32.ofNat i)), .val (.int (1 : Int32))] [(.int (Int32.ofNat i)), (.ref bs)])) rfl (by rw [hml]; rfl) (Steps.refl _) (argsL := [(.int (Int32.ofNat i))]) (rest := []) (lenOf pd_1 rfl) rfl (by show 2 * 0 + _ ≤ _; exact Nat.le_of_eq rfl) (hb hby d5_23) (fun _ _ => ⟨rfl, Kq117, (by decide : 0 + 1 ≤ _), (by decide : 0 + 2048 ≤ _)⟩)
    dsimp only [Pt.U, Pt.locs, Pt.cells, Pt.slots] at X119 l119 y119 z119 st119 hQ119
    subst l119 y119 z119
    obtain ⟨tw2_119, kw2_119, ws3_119, st2_119, u2_119, rfl, Nq119, Kq119, nF119_bs_words, nF119_bs_wordsInUse, nF119_bs_sizeIsSticky, nA119_tw2_119, g_tw2_119, ne_bs_tw2_119, or_tw2_119, hinv3_119, hget3_119, hb3_119⟩ := hQ119
    replace NF := Fr.app NF Nq119
    clear Nq119
    refine WP.tr st119 ?_
    clear st119
    obtain ⟨h119, e119⟩ : ∃ h, T119.heap = h := ⟨_, rfl⟩
    rw [e119] at Kq119 nF119_bs_words nF119_bs_wordsInUse nF119_bs_sizeIsSticky nA119_tw2_119
    have ne_a1_tw2_119 : a1 ≠ tw2_119 := ownNeOr ne_a1_tw E_a1.lt or_tw2_119
    have old_tw2_119 : tw2_119 ∈ [a1, bs, tw] ∨ h0.size ≤ tw2_119 := or_tw2_119.elim (fun q => q ▸ (Or.inl (List.mem_of_getElem? (i := 2) rfl))) (fun q => Or.inr (Nat.le_trans KP.1 q))
    replace E_a1 := E_a1.keep Kq119
    replace F_a1_held := F_a1_held.keep Kq119 (by exact ninS ne_a1_bs (ninS ne_a1_tw (nin0)))
    replace F_a1_count := F_a1_count.keep Kq119 (by exact ninS ne_a1_bs (ninS ne_a1_tw (nin0)))
    replace F_a1_next := F_a1_next.keep Kq119 (by exact ninS ne_a1_bs (ninS ne_a1_tw (nin0)))
    replace E_bs := E_bs.keep Kq119
    clear F_bs_words
    clear F_bs_wordsInUse
    clear F_bs_sizeIsSticky
    clear V_tw
    replace OLD := OLD.keep Kq119 (allS g_bs (allS g_tw all0))
    replace Z0 := Nat.le_trans Z0 Kq119.1
    replace KP := KP.trans Kq119 (allS (Or.inl (List.mem_of_getElem? (i := 1) rfl)) (allS (Or.inl (List.mem_of_getElem? (i := 2) rfl)) all0))
    clear Kq119
    have F_bs_words := nF119_bs_words
    clear nF119_bs_words
    have F_bs_wordsInUse := nF119_bs_wordsInUse
    clear nF119_bs_wordsInUse
    have F_bs_sizeIsSticky := nF119_bs_sizeIsSticky
    clear nF119_bs_sizeIsSticky
    have V_tw2_119 := nA119_tw2_119
    clear nA119_tw2_119
    have hXN : ∃ LL, Stand p l e ({ frames := 5, cells := 1, slots := 2048, locals := 75 } : Room) s m #[(.ref a1), (.int (Int32.ofNat i))] below meth c T119 LL 1 2048 ∧ Fr n0 LL := ⟨_, X119, NF⟩
    clear X119 NF
    obtain ⟨LL120, X119, NF⟩ := hXN
    show WP p.tables e below _ T119 (mkF m 26 #[.val (.ref a1), .val (.int (Int32.ofNat i)), .val (.int (1 : Int32))] [])
    refine WP.st (T' := T119) (f' := (mkF m 28 #[.val (.ref a1), .val (.int (Int32.ofNat i)), .val (.int (1 : Int32))] [(.ref a1), (.ref a1)])) (fun t k => ?_) ?_
    · refine XS.aloadN X119.here hx rfl (hb hby d5_26) rfl rfl ?_
      refine XS.dup X119.here hx rfl (hb hby d5_27) rfl rfl ?_
      exact k
    obtain ⟨T121, X121, e121, st121⟩ := getF X119 hx hZ hown (host := "") (Or.inl (w_77 hw)) Via.refl e119 F_a1_count (g := (mkF m 28 #[.val (.ref a1), .val (.int (Int32.ofNat i)), .val (.int (1 : Int32))] [(.ref a1), (.ref a1)])) rfl rfl (hb hby d5_28)
    refine WP.st st121 ?_
    clear st121
    show WP p.tables e below _ T121 (mkF m 31 #[.val (.ref a1), .val (.int (Int32.ofNat i)), .val (.int (1 : Int32))] [(.int cn), (.ref a1)])
    refine WP.st (T' := T121) (f' := (mkF m 33 #[.val (.ref a1), .val (.int (Int32.ofNat i)), .val (.int (1 : Int32))] [(.int (cn + (1 : Int32))), (.ref a1)])) (fun t k => ?_) ?_
    · refine XS.iconst X121.here hx rfl (hb hby d5_31) ?_
      refine XS.iadd X121.here hx rfl (hb hby d5_32) rfl ?_
      exact k
    obtain ⟨T122, h122, X122, e122, W122, st122⟩ := putF X121 hx hZ hown (host := "") (Or.inl (w_77 hw)) Via.refl e121 F_a1_count E_a1 (Or.inl (w_78 hw)) (w_7 hw) (ty := .int) (by decide) rfl rfl (g := (mkF m 33 #[.val (.ref a1), .val (.int (Int32.ofNat i)), .val (.int (1 : Int32))] [(.int (cn + (1 : Int32))), (.ref a1)])) rfl rfl (hb hby d5_33)
    refine WP.st st122 ?_
    clear st122
    replace E_a1 := E_a1.wr W122
    replace F_a1_held := F_a1_held.other W122 (Or.inr (sn_10 hw))
    replace F_a1_count := F_a1_count.same W122
    replace F_a1_next := F_a1_next.other W122 (Or.inr (sn_11 hw))
    replace E_bs := E_bs.wr W122
    replace OLD := OLD.wr W122 g_a1
    replace F_bs_words := F_bs_words.other W122 (Or.inl (Ne.symm ne_a1_bs))
    replace F_bs_wordsInUse := F_bs_wordsInUse.other W122 (Or.inl (Ne.symm ne_a1_bs))
    replace F_bs_sizeIsSticky := F_bs_sizeIsSticky.other W122 (Or.inl (Ne.symm ne_a1_bs))
    replace V_tw2_119 := V_tw2_119.other W122 (Ne.symm ne_a1_tw2_119)
    replace Z0 := Nat.le_trans Z0 (Keep.of_wr W122).1
    replace KP := KP.wr W122 (Or.inl (List.mem_of_getElem? (i := 0) rfl))
    replace NF := Fr.snoc X122 NF g_a1
    clear W122
    have hXN : ∃ LL, Stand p l e ({ frames := 5, cells := 1, slots := 2048, locals := 75 } : Room) s m #[(.ref a1), (.int (Int32.ofNat i))] below meth c T122 LL 1 2048 ∧ Fr n0 LL := ⟨_, X122, NF⟩
    clear X122 NF
    obtain ⟨LL123, X122, NF⟩ := hXN
    show WP p.tables e below _ T122 (mkF m 36 #[.val (.ref a1), .val (.int (Int32.ofNat i)), .val (.int (1 : Int32))] [])
    refine WP.st (T' := T122) (f' := (mkF m 37 #[.val (.ref a1), .val (.int (Int32.ofNat i)), .val (.int (1 : Int32))] [(.int (1 : Int32))])) (fun t k => ?_) ?_
    · refine XS.iloadN X122.here hx rfl (hb hby d5_36) rfl ?_
      exact k
    subst hG
    obtain ⟨fs, hr, hrun, hended, hW, hsame⟩ := X122.leave (v := some (.int (1 : Int32))) (fun h => by rw [Bd.returns] at h; cases h)
    refine WP.fin ⟨_, _, ?_, hrun, hended, _, _, rfl, ?_, ⟨_, rfl⟩, hW, hsame.mono (by decide) (by decide)⟩
    · exact retN X122 hx (t := .boolean) Bd.returns (by simp) (hb hby d5_37) hr
    · show Q5y Z a1 cn nx bs tw kw ws u st i h0 n0 _ T122.heap _
      rw [e122]
      exact ⟨(1 : Int32), tw2_119, kw2_119, ws3_119, st2_119, u2_119, (cn + (1 : Int32)), rfl, NF, KP, F_a1_held, F_a1_count, F_a1_next, E_bs, F_bs_words, F_bs_wordsInUse, F_bs_sizeIsSticky, V_tw2_119, g_tw2_119, ne_bs_tw2_119, or_tw2_119, hinv3_119, hget3_119, (by have := hb3_119; omega)⟩
  · skip
    refine WP.st (T' := T114) (f' := (mkF m 37 #[.val (.ref a1), .val (.int (Int32.ofNat i)), .val (.int (0 : Int32))] [(.int (0 : Int32))])) (fun t k => ?_) ?_
    · refine XS.ifYes X114.here hx rfl (pc0 := 5) (pc' := 12) rfl (hb hby d5_5) rfl ((if0 _ _).trans (feq hc116).2) (by decide) (by decide) ?_
      refine XS.iconst X114.here hx rfl (hb hby d5_12) ?_
      refine XS.istoreN X114.here hx rfl (hb hby d5_13) rfl (l' := #[.val (.ref a1), .val (.int (Int32.ofNat i)), .val (.int (0 : Int32))]) rfl ?_
      refine XS.iloadN X114.here hx rfl (hb hby d5_14) rfl ?_
      show Steps p.tables e below (T114.setTop (mkF m 15 #[.val (.ref a1), .val (.int (Int32.ofNat i)), .val (.int (0 : Int32))] [(.int (0 : Int32))])) t
      refine XS.ifYes X114.here hx rfl (pc0 := 15) (pc' := 36) rfl (hb hby d5_15) rfl ((if0 _ _).trans (teq (by decide : (0 : Int32) = (0 : Int32))).1) (by decide) (by decide) ?_
      refine XS.iloadN X114.here hx rfl (hb hby d5_36) rfl ?_
      exact k
    subst hG
    obtain ⟨fs, hr, hrun, hended, hW, hsame⟩ := X114.leave (v := some (.int (0 : Int32))) (fun h => by rw [Bd.returns] at h; cases h)
    refine WP.fin ⟨_, _, ?_, hrun, hended, _, _, rfl, ?_, ⟨_, rfl⟩, hW, hsame.mono (by decide) (by decide)⟩
    · exact retN X114 hx (t := .boolean) Bd.returns (by simp) (hb hby d5_37) hr
    · show Q5y Z a1 cn nx bs tw kw ws u st i h0 n0 _ T114.heap _
      rw [Kq114]
      exact ⟨(0 : Int32), tw, kw, ws, st, u, cn, rfl, NF, KP, F_a1_held, F_a1_count, F_a1_next, E_bs, F_bs_words, F_bs_wordsInUse, F_bs_sizeIsSticky, V_tw, g_tw, ne_bs_tw, (Or.inl rfl), hinv, (fun k hk => if q : k = i then (by rw [if_pos q, q]; exact (own_get01 ws i).resolve_left hc116) else (by rw [if_neg q])), (by omega)⟩
theorem ef_18n (m : MethodId) (z0 : Addr) (z1 : Int32) : entryFrame m #[(.ref z0), (.int z1)] 3 = mkF m 0 #[.val (.ref z0), .val (.int z1), .unset] [] := by
  all_goals first | (simp [entryFrame, mkF, argsToLocals, Value.category]; done) | rfl
theorem d18_0 : decode prog_12_method_5_code 0 = .ok (.aload_n 0, 1) := by decide +kernel
theorem d18_1 : decode prog_12_method_5_code 1 = .ok (.iload_n 1, 1) := by decide +kernel
theorem d18_2 : decode prog_12_method_5_code 2 = .ok (.invokevirtual 31, 3) := by decide +kernel
theorem d18_5 : decode prog_12_method_5_code 5 = .ok (.istore_n 2, 1) := by decide +kernel
theorem d18_6 : decode prog_12_method_5_code 6 = .ok (.iload_n 2, 1) := by decide +kernel
theorem d18_7 : decode prog_12_method_5_code 7 = .ok (.ifCond .eq 21, 3) := by decide +kernel
theorem d18_28 : decode prog_12_method_5_code 28 = .ok (.iload_n 2, 1) := by decide +kernel
theorem d18_29 : decode prog_12_method_5_code 29 = .ok (.ireturn, 1) := by decide +kernel
def Q18n (Z : State) (a1 : Addr) (i : Nat) (h0 : Heap) (n0 : Nat) (v : Option Value) (h : Heap) (L : List Loc) : Prop := v = some (.int (0 : Int32)) ∧ Fr n0 L ∧ h = h0
set_option maxRecDepth 65536 in
set_option maxHeartbeats 40000000 in
theorem rm18n (l : Launch) (Z : State) (a0 : Array Value) (hw : ∀ d ∈ tables_1, d.before a0 Z = true) (wsC : List Jvm.Cond) (a1 : Addr) (i : Nat) (h0 : Heap) (n0 : Nat) (Z0 : n0 ≤ h0.size) (E_a1 : Exa Z h0 a1 "com/example/otayori/otayori/codec/PacketIds") (F_a1_held : Fld Z h0 a1 "com/example/otayori/otayori/codec/PacketIds" "held" "Ljava/util/BitSet;" .null) :
    MetFree l (⟨"com/example/otayori/otayori/codec/PacketIds", "release", "(I)Z"⟩ : MethodName) (head1 (Jvm.Cond.code (⟨"com/example/otayori/otayori/codec/PacketIds", "release", "(I)Z"⟩ : MethodName) prog_12_method_5_code 3 (some .boolean) :: wsC) ({ frames := 1, cells := 0, slots := 0, locals := 13 } : Room)) (fun a U => a = #[(.ref a1), (.int (Int32.ofNat i))] ∧ Z.Warmed39 U.vm ∧ U.heap = h0) (fun _ _ _ _ _ => True) (fun _ U o U' => ∃ v L, o = .returned v ∧ Q18n Z a1 i h0 n0 v U'.heap L ∧ FrameEnd U o U' L ({ frames := 1, cells := 0, slots := 0, locals := 13 } : Room).cells ({ frames := 1, cells := 0, slots := 0, locals := 13 } : Room).slots) := by
  refine MetFree.of_bodySF (plainFor_of_name pn_2) hisR ?_
  intro p e s m args below meth c s₁ Bd hml0 hP hK
  obtain ⟨rfl, hZ, hh⟩ := hP
  have hx := Bd.exec
  have hby := Bd.bytes
  have hml : c.maxLocals = 3 := hml0
  have hown : s.vm.findClass "com/example/otayori/otayori/codec/PacketIds" = some m.cls := findClass_of_methodNamed Bd.named
  have hnm := (name_of_methodNamed Bd.named Bd.method).1
  have X0 : Stand p l e ({ frames := 1, cells := 0, slots := 0, locals := 13 } : Room) s m #[(.ref a1), (.int (Int32.ofNat i))] below meth c s₁ [] 0 0 := Stand.of_body Bd
  have e0 : s₁.heap = h0 := by rw [← hh, Bd.state]; rfl
  have NF := Fr.nil n0
  refine WP.go ?_
  refine WP.cast (ef_18n m a1 (Int32.ofNat i)) ?_
  refine WP.name ?_
  intro G hG
  refine WP.st (T' := s₁) (f' := (mkF m 2 #[.val (.ref a1), .val (.int (Int32.ofNat i)), .unset] [(.int (Int32.ofNat i)), (.ref a1)])) (fun t k => ?_) ?_
  · refine XS.aloadN X0.here hx rfl (hb hby d18_0) rfl rfl ?_
    refine XS.iloadN X0.here hx rfl (hb hby d18_1) rfl ?_
    exact k
  obtain ⟨cq124, kq124, q124a, q124b, q124c⟩ := isOf hZ e0 E_a1
  obtain ⟨_, _, ⟨T124, L124, k124, n124⟩, -, X124, ⟨Lc124, hQ124, l124, y124, z124⟩, st124⟩ := X0.virtualBack hx (y := (⟨"com/example/otayori/otayori/codec/PacketIds", "isHeld", "(I)Z"⟩ : MethodName)) (z := (⟨"com/example/otayori/otayori/codec/PacketIds", "isHeld", "(I)Z"⟩ : MethodName)) hown (mvT hZ (w_29 hw)) (mvT hZ (w_18 hw)) (notFace_of_selects (args := #[]) (mvT hZ (w_20 hw))) (mvT hZ (w_20 hw)) (mvT hZ (w_19 hw)) (by decide) (backOf (W := 0) (rm4n l Z a0 hw [] a1 i h0 n0 Z0 F_a1_held) hZ (w_21 hw) (w_8 hw) (by decide) (by decide)) q124a q124c (g := (mkF m 2 #[.val (.ref a1), .val (.int (Int32.ofNat i)), .unset] [(.int (Int32.ofNat i)), (.ref a1)])) rfl (by rw [hml]; rfl) (Steps.refl _) (argsL := [(.int (Int32.ofNat i))]) (rest := []) (lenOf pd_5 rfl) rfl (by show 2 * 0 + _ ≤ _; exact Nat.le_of_eq rfl) (hb hby d18_2) (fun _ _ => ⟨rfl, e0, (by decide : 0 + 0 ≤ _), (by decide : 0 + 0 ≤ _)⟩)
  dsimp only [Pt.U, Pt.locs, Pt.cells, Pt.slots] at X124 l124 y124 z124 st124 hQ124
  subst l124 y124 z124
  obtain ⟨rfl, Nq124, Kq124⟩ := hQ124
  replace NF := Fr.app NF Nq124
  clear Nq124
  refine WP.tr st124 ?_
  clear st124
  replace Kq124 := Kq124.trans (rfl : h0 = h0)
  have hXN : ∃ LL, Stand p l e ({ frames := 1, cells := 0, slots := 0, locals := 13 } : Room) s m #[(.ref a1), (.int (Int32.ofNat i))] below meth c T124 LL 0 0 ∧ Fr n0 LL := ⟨_, X124, NF⟩
  clear X124 NF
  obtain ⟨LL125, X124, NF⟩ := hXN
  show WP p.tables e below _ T124 (mkF m 5 #[.val (.ref a1), .val (.int (Int32.ofNat i)), .unset] [(.int (0 : Int32))])
  refine WP.st (T' := T124) (f' := (mkF m 29 #[.val (.ref a1), .val (.int (Int32.ofNat i)), .val (.int (0 : Int32))] [(.int (0 : Int32))])) (fun t k => ?_) ?_
  · refine XS.istoreN X124.here hx rfl (hb hby d18_5) rfl (l' := #[.val (.ref a1), .val (.int (Int32.ofNat i)), .val (.int (0 : Int32))]) rfl ?_
    refine XS.iloadN X124.here hx rfl (hb hby d18_6) rfl ?_
    refine XS.ifYes X124.here hx rfl (pc0 := 7) (pc' := 28) rfl (hb hby d18_7) rfl ((if0 _ _).trans (teq (by decide : (0 : Int32) = (0 : Int32))).1) (by decide) (by decide) ?_
    refine XS.iloadN X124.here hx rfl (hb hby d18_28) rfl ?_
    exact k
  subst hG
  obtain ⟨fs, hr, hrun, hended, hW, hsame⟩ := X124.leave (v := some (.int (0 : Int32))) (fun h => by rw [Bd.returns] at h; cases h)
  refine WP.fin ⟨_, _, ?_, hrun, hended, _, _, rfl, ?_, ⟨_, rfl⟩, hW, hsame.mono (by decide) (by decide)⟩
  · exact retN X124 hx (t := .boolean) Bd.returns (by simp) (hb hby d18_29) hr
  · show Q18n Z a1 i h0 n0 _ T124.heap _
    rw [Kq124]
    exact ⟨rfl, NF, rfl⟩
theorem ef_18y (m : MethodId) (z0 : Addr) (z1 : Int32) : entryFrame m #[(.ref z0), (.int z1)] 3 = mkF m 0 #[.val (.ref z0), .val (.int z1), .unset] [] := by
  all_goals first | (simp [entryFrame, mkF, argsToLocals, Value.category]; done) | rfl
theorem d18_10 : decode prog_12_method_5_code 10 = .ok (.aload_n 0, 1) := by decide +kernel
theorem d18_11 : decode prog_12_method_5_code 11 = .ok (.getfield 35, 3) := by decide +kernel
theorem d18_14 : decode prog_12_method_5_code 14 = .ok (.iload_n 1, 1) := by decide +kernel
theorem w_104 {a0 : Array Value} {Z : State} (hw : ∀ d ∈ tables_1, d.before a0 Z = true) : (Jvm.Cond.methodLink "com/example/otayori/otayori/codec/PacketIds" (42 : Nat) ({ cls := "java/util/BitSet", name := "clear", desc := "(I)V" } : Jvm.MethodName)).before a0 Z = true := hw _ (List.mem_of_getElem? (i := 104) rfl)
theorem d18_15 : decode prog_12_method_5_code 15 = .ok (.invokevirtual 42, 3) := by decide +kernel
theorem w_108 {a0 : Array Value} {Z : State} (hw : ∀ d ∈ tables_1, d.before a0 Z = true) : (Jvm.Cond.code ({ cls := "java/util/BitSet", name := "clear", desc := "(I)V" } : Jvm.MethodName) jdk_92_method_23_code (3 : Nat) (Option.none : Option Jvm.ClassFile.FieldType)).before a0 Z = true := hw _ (List.mem_of_getElem? (i := 108) rfl)
theorem w_107 {a0 : Array Value} {Z : State} (hw : ∀ d ∈ tables_1, d.before a0 Z = true) : (Jvm.Cond.selects "java/util/BitSet" ({ cls := "java/util/BitSet", name := "clear", desc := "(I)V" } : Jvm.MethodName) ({ cls := "java/util/BitSet", name := "clear", desc := "(I)V" } : Jvm.MethodName)).before a0 Z = true := hw _ (List.mem_of_getElem? (i := 107) rfl)
theorem w_105 {a0 : Array Value} {Z : State} (hw : ∀ d ∈ tables_1, d.before a0 Z = true) : (Jvm.Cond.declares ({ cls := "java/util/BitSet", name := "clear", desc := "(I)V" } : Jvm.MethodName)).before a0 Z = true := hw _ (List.mem_of_getElem? (i := 105) rfl)
theorem w_106 {a0 : Array Value} {Z : State} (hw : ∀ d ∈ tables_1, d.before a0 Z = true) : (Jvm.Cond.instanceMethod ({ cls := "java/util/BitSet", name := "clear", desc := "(I)V" } : Jvm.MethodName)).before a0 Z = true := hw _ (List.mem_of_getElem? (i := 106) rfl)
theorem d18_18 : decode prog_12_method_5_code 18 = .ok (.aload_n 0, 1) := by decide +kernel
theorem d18_19 : decode prog_12_method_5_code 19 = .ok (.dup, 1) := by decide +kernel
theorem d18_20 : decode prog_12_method_5_code 20 = .ok (.getfield 13, 3) := by decide +kernel
theorem d18_23 : decode prog_12_method_5_code 23 = .ok (.iconst 1, 1) := by decide +kernel
theorem d18_24 : decode prog_12_method_5_code 24 = .ok (.isub, 1) := by decide +kernel
theorem d18_25 : decode prog_12_method_5_code 25 = .ok (.putfield 13, 3) := by decide +kernel
def Q18y (Z : State) (a1 : Addr) (cn : Int32) (nx : Int32) (bs : Addr) (tw : Addr) (kw : ClassId) (ws : List Int64) (u : Nat) (st : Int32) (i : Nat) (h0 : Heap) (n0 : Nat) (v : Option Value) (h : Heap) (L : List Loc) : Prop := ∃ r : Int32, ∃ ws3 : List Int64, ∃ u2 : Nat, ∃ c2 : Int32, v = some (.int r) ∧ Fr n0 L ∧ Keep h0 h [a1, bs, tw] ∧ Fld Z h a1 "com/example/otayori/otayori/codec/PacketIds" "held" "Ljava/util/BitSet;" (.ref bs) ∧ Fld Z h a1 "com/example/otayori/otayori/codec/PacketIds" "count" "I" (.int c2) ∧ Fld Z h a1 "com/example/otayori/otayori/codec/PacketIds" "next" "I" (.int nx) ∧ Exa Z h bs "java/util/BitSet" ∧ Fld Z h bs "java/util/BitSet" "words" "[J" (.ref tw) ∧ Fld Z h bs "java/util/BitSet" "wordsInUse" "I" (.int (Int32.ofNat u2)) ∧ Fld Z h bs "java/util/BitSet" "sizeIsSticky" "Z" (.int st) ∧ (Arv Z h tw kw .long (Int32.ofNat ws3.length) (ws3.map Value.long) (.long (0 : Int64))) ∧ (own_inv ws3 u2) ∧ (∀ k, k ≤ 65535 → own_get ws3 k = if k = i then 0 else own_get ws k) ∧ (ws3.length ≤ 2048)
set_option maxRecDepth 65536 in
set_option maxHeartbeats 40000000 in
theorem rm18y (l : Launch) (Z : State) (a0 : Array Value) (hw : ∀ d ∈ tables_1, d.before a0 Z = true) (wsC : List Jvm.Cond) (a1 : Addr) (cn : Int32) (nx : Int32) (bs : Addr) (tw : Addr) (kw : ClassId) (ws : List Int64) (u : Nat) (st : Int32) (i : Nat) (h0 : Heap) (n0 : Nat) (Z0 : n0 ≤ h0.size) (E_a1 : Exa Z h0 a1 "com/example/otayori/otayori/codec/PacketIds") (g_a1 : n0 ≤ a1) (F_a1_held : Fld Z h0 a1 "com/example/otayori/otayori/codec/PacketIds" "held" "Ljava/util/BitSet;" (.ref bs)) (F_a1_count : Fld Z h0 a1 "com/example/otayori/otayori/codec/PacketIds" "count" "I" (.int cn)) (F_a1_next : Fld Z h0 a1 "com/example/otayori/otayori/codec/PacketIds" "next" "I" (.int nx)) (E_bs : Exa Z h0 bs "java/util/BitSet") (g_bs : n0 ≤ bs) (F_bs_words : Fld Z h0 bs "java/util/BitSet" "words" "[J" (.ref tw)) (F_bs_wordsInUse : Fld Z h0 bs "java/util/BitSet" "wordsInUse" "I" (.int (Int32.ofNat u))) (F_bs_sizeIsSticky : Fld Z h0 bs "java/util/BitSet" "sizeIsSticky" "Z" (.int st)) (V_tw : Arv Z h0 tw kw .long (Int32.ofNat ws.length) (ws.map Value.long) (.long (0 : Int64))) (g_tw : n0 ≤ tw) (ne_bs_tw : bs ≠ tw) (hinv : own_inv ws u) (hwm : ws.length ≤ 2048) (OLD : Old Z n0 h0) (O5 : Sta Z Z.heap "java/util/BitSet" "$assertionsDisabled" "Z" (.int (1 : Int32))) (hi : i ≤ 65535) (ne_a1_bs : a1 ≠ bs) (ne_a1_tw : a1 ≠ tw) :
    MetFree l (⟨"com/example/otayori/otayori/codec/PacketIds", "release", "(I)Z"⟩ : MethodName) (head1 (Jvm.Cond.code (⟨"com/example/otayori/otayori/codec/PacketIds", "release", "(I)Z"⟩ : MethodName) prog_12_method_5_code 3 (some .boolean) :: wsC) ({ frames := 3, cells := 0, slots := 0, locals := 39 } : Room)) (fun a U => a = #[(.ref a1), (.int (Int32.ofNat i))] ∧ Z.Warmed39 U.vm ∧ U.heap = h0) (fun _ _ _ _ _ => True) (fun _ U o U' => ∃ v L, o = .returned v ∧ Q18y Z a1 cn nx bs tw kw ws u st i h0 n0 v U'.heap L ∧ FrameEnd U o U' L ({ frames := 3, cells := 0, slots := 0, locals := 39 } : Room).cells ({ frames := 3, cells := 0, slots := 0, locals := 39 } : Room).slots) := by
  refine MetFree.of_bodySF (plainFor_of_name pn_2) hisR ?_
  intro p e s m args below meth c s₁ Bd hml0 hP hK
  obtain ⟨rfl, hZ, hh⟩ := hP
  have hx := Bd.exec
  have hby := Bd.bytes
  have hml : c.maxLocals = 3 := hml0
  have hown : s.vm.findClass "com/example/otayori/otayori/codec/PacketIds" = some m.cls := findClass_of_methodNamed Bd.named
  have hnm := (name_of_methodNamed Bd.named Bd.method).1
  have X0 : Stand p l e ({ frames := 3, cells := 0, slots := 0, locals := 39 } : Room) s m #[(.ref a1), (.int (Int32.ofNat i))] below meth c s₁ [] 0 0 := Stand.of_body Bd
  have e0 : s₁.heap = h0 := by rw [← hh, Bd.state]; rfl
  have NF := Fr.nil n0
  have KP : Keep h0 h0 [a1, bs, tw] := Keep.refl h0 _
  refine WP.go ?_
  refine WP.cast (ef_18y m a1 (Int32.ofNat i)) ?_
  refine WP.name ?_
  intro G hG
  refine WP.st (T' := s₁) (f' := (mkF m 2 #[.val (.ref a1), .val (.int (Int32.ofNat i)), .unset] [(.int (Int32.ofNat i)), (.ref a1)])) (fun t k => ?_) ?_
  · refine XS.aloadN X0.here hx rfl (hb hby d18_0) rfl rfl ?_
    refine XS.iloadN X0.here hx rfl (hb hby d18_1) rfl ?_
    exact k
  obtain ⟨cq126, kq126, q126a, q126b, q126c⟩ := isOf hZ e0 E_a1
  obtain ⟨_, _, ⟨T126, L126, k126, n126⟩, -, X126, ⟨Lc126, hQ126, l126, y126, z126⟩, st126⟩ := X0.virtualBack hx (y := (⟨"com/example/otayori/otayori/codec/PacketIds", "isHeld", "(I)Z"⟩ : MethodName)) (z := (⟨"com/example/otayori/otayori/codec/PacketIds", "isHeld", "(I)Z"⟩ : MethodName)) hown (mvT hZ (w_29 hw)) (mvT hZ (w_18 hw)) (notFace_of_selects (args := #[]) (mvT hZ (w_20 hw))) (mvT hZ (w_20 hw)) (mvT hZ (w_19 hw)) (by decide) (backOf (W := 0) (rm4y l Z a0 hw [] a1 bs tw kw ws u st i h0 n0 Z0 F_a1_held E_bs g_bs F_bs_words F_bs_wordsInUse F_bs_sizeIsSticky V_tw g_tw ne_bs_tw (hinv : own_inv ws u) (hwm : ws.length ≤ 2048) OLD (O5 : Sta Z Z.heap "java/util/BitSet" "$assertionsDisabled" "Z" (.int (1 : Int32))) (hi : i ≤ 65535)) hZ (w_21 hw) (w_8 hw) (by decide) (by decide)) q126a q126c (g := (mkF m 2 #[.val (.ref a1), .val (.int (Int32.ofNat i)), .unset] [(.int (Int32.ofNat i)), (.ref a1)])) rfl (by rw [hml]; rfl) (Steps.refl _) (argsL := [(.int (Int32.ofNat i))]) (rest := []) (lenOf pd_5 rfl) rfl (by show 2 * 0 + _ ≤ _; exact Nat.le_of_eq rfl) (hb hby d18_2) (fun _ _ => ⟨rfl, e0, (by decide : 0 + 0 ≤ _), (by decide : 0 + 0 ≤ _)⟩)
  dsimp only [Pt.U, Pt.locs, Pt.cells, Pt.slots] at X126 l126 y126 z126 st126 hQ126
  subst l126 y126 z126
  obtain ⟨rfl, Nq126, Kq126⟩ := hQ126
  replace NF := Fr.app NF Nq126
  clear Nq126
  refine WP.tr st126 ?_
  clear st126
  replace Kq126 := Kq126.trans (rfl : h0 = h0)
  have hXN : ∃ LL, Stand p l e ({ frames := 3, cells := 0, slots := 0, locals := 39 } : Room) s m #[(.ref a1), (.int (Int32.ofNat i))] below meth c T126 LL 0 0 ∧ Fr n0 LL := ⟨_, X126, NF⟩
  clear X126 NF
  obtain ⟨LL127, X126, NF⟩ := hXN
  show WP p.tables e below _ T126 (mkF m 5 #[.val (.ref a1), .val (.int (Int32.ofNat i)), .unset] [(.int (own_get ws i))])
  refine WP.st (T' := T126) (f' := (mkF m 7 #[.val (.ref a1), .val (.int (Int32.ofNat i)), .val (.int (own_get ws i))] [(.int (own_get ws i))])) (fun t k => ?_) ?_
  · refine XS.istoreN X126.here hx rfl (hb hby d18_5) rfl (l' := #[.val (.ref a1), .val (.int (Int32.ofNat i)), .val (.int (own_get ws i))]) rfl ?_
    refine XS.iloadN X126.here hx rfl (hb hby d18_6) rfl ?_
    exact k
  by_cases hc128 : (own_get ws i) = (0 : Int32)
  · skip
    refine WP.st (T' := T126) (f' := (mkF m 29 #[.val (.ref a1), .val (.int (Int32.ofNat i)), .val (.int (own_get ws i))] [(.int (own_get ws i))])) (fun t k => ?_) ?_
    · refine XS.ifYes X126.here hx rfl (pc0 := 7) (pc' := 28) rfl (hb hby d18_7) rfl ((if0 _ _).trans (teq hc128).1) (by decide) (by decide) ?_
      refine XS.iloadN X126.here hx rfl (hb hby d18_28) rfl ?_
      exact k
    subst hG
    obtain ⟨fs, hr, hrun, hended, hW, hsame⟩ := X126.leave (v := some (.int (nar .boolean (own_get ws i)))) (fun h => by rw [Bd.returns] at h; cases h)
    refine WP.fin ⟨_, _, ?_, hrun, hended, _, _, rfl, ?_, ⟨_, rfl⟩, hW, hsame.mono (by decide) (by decide)⟩
    · exact retN X126 hx (t := .boolean) Bd.returns (by simp) (hb hby d18_29) hr
    · show Q18y Z a1 cn nx bs tw kw ws u st i h0 n0 _ T126.heap _
      rw [Kq126]
      exact ⟨(nar .boolean (own_get ws i)), ws, u, cn, rfl, NF, KP, F_a1_held, F_a1_count, F_a1_next, E_bs, F_bs_words, F_bs_wordsInUse, F_bs_sizeIsSticky, V_tw, hinv, (fun k hk => if q : k = i then (by rw [if_pos q, q]; exact hc128) else (by rw [if_neg q])), hwm⟩
  · skip
    refine WP.st (T' := T126) (f' := (mkF m 11 #[.val (.ref a1), .val (.int (Int32.ofNat i)), .val (.int (own_get ws i))] [(.ref a1)])) (fun t k => ?_) ?_
    · refine XS.ifNo X126.here hx rfl (hb hby d18_7) rfl ((if0 _ _).trans (feq hc128).1) ?_
      refine XS.aloadN X126.here hx rfl (hb hby d18_10) rfl rfl ?_
      exact k
    obtain ⟨T129, X129, e129, st129⟩ := getF X126 hx hZ hown (host := "") (Or.inl (w_22 hw)) Via.refl Kq126 F_a1_held (g := (mkF m 11 #[.val (.ref a1), .val (.int (Int32.ofNat i)), .val (.int (own_get ws i))] [(.ref a1)])) rfl rfl (hb hby d18_11)
    refine WP.st st129 ?_
    clear st129
    show WP p.tables e below _ T129 (mkF m 14 #[.val (.ref a1), .val (.int (Int32.ofNat i)), .val (.int (own_get ws i))] [(.ref bs)])
    refine WP.st (T' := T129) (f' := (mkF m 15 #[.val (.ref a1), .val (.int (Int32.ofNat i)), .val (.int (own_get ws i))] [(.int (Int32.ofNat i)), (.ref bs)])) (fun t k => ?_) ?_
    · refine XS.iloadN X129.here hx rfl (hb hby d18_14) rfl ?_
      exact k
    obtain ⟨cq130, kq130, q130a, q130b, q130c⟩ := isOf hZ e129 E_bs
    obtain ⟨_, _, ⟨T130, L130, k130, n130⟩, -, X130, ⟨Lc130, hQ130, l130, y130, z130⟩, st130⟩ := X129.virtualBack hx (y := (⟨"java/util/BitSet", "clear", "(I)V"⟩ : MethodName)) (z := (⟨"java/util/BitSet", "clear", "(I)V"⟩ : MethodName)) hown (mvT hZ (w_104 hw)) (mvT hZ (w_105 hw)) (notFace_of_selects (args := #[]) (mvT hZ (w_107 hw))) (mvT hZ (w_107 hw)) (mvT hZ (w_106 hw)) (by decide) (backOf (W := 0) (rm19 l Z a0 hw [] bs tw kw ws u st i h0 n0 Z0 E_bs g_bs F_bs_words F_bs_wordsInUse F_bs_sizeIsSticky V_tw g_tw ne_bs_tw (hinv : own_inv ws u) (hwm : ws.length ≤ 2048) OLD (O5 : Sta Z Z.heap "java/util/BitSet" "$assertionsDisabled" "Z" (.int (1 : Int32))) (hi : i ≤ 65535) (own_get_lt hinv hc128 : i / 64 < u)) hZ (w_108 hw) (w_36 hw) (by decide) (by decide)) q130a q130c (g := (mkF m 15 #[.val (.ref a1), .val (.int (Int32.ofNat i)), .val (.int (own_get ws i))] [(.int (Int32.ofNat i)), (.ref bs)])) rfl (by rw [hml]; rfl) (Steps.refl _) (argsL := [(.int (Int32.ofNat i))]) (rest := []) (lenOf pd_1 rfl) rfl (by show 2 * 0 + _ ≤ _; exact Nat.le_of_eq rfl) (hb hby d18_15) (fun _ _ => ⟨rfl, e129, (by decide : 0 + 0 ≤ _), (by decide : 0 + 0 ≤ _)⟩)
    dsimp only [Pt.U, Pt.locs, Pt.cells, Pt.slots] at X130 l130 y130 z130 st130 hQ130
    subst l130 y130 z130
    obtain ⟨ws3_130, u2_130, rfl, Nq130, Kq130, nF130_bs_words, nF130_bs_wordsInUse, nF130_bs_sizeIsSticky, nA130_tw, hinv3_130, hget3_130, hlen3_130⟩ := hQ130
    replace NF := Fr.app NF Nq130
    clear Nq130
    refine WP.tr st130 ?_
    clear st130
    obtain ⟨h130, e130⟩ : ∃ h, T130.heap = h := ⟨_, rfl⟩
    rw [e130] at Kq130 nF130_bs_words nF130_bs_wordsInUse nF130_bs_sizeIsSticky nA130_tw
    replace E_a1 := E_a1.keep Kq130
    replace F_a1_held := F_a1_held.keep Kq130 (by exact ninS ne_a1_bs (ninS ne_a1_tw (nin0)))
    replace F_a1_count := F_a1_count.keep Kq130 (by exact ninS ne_a1_bs (ninS ne_a1_tw (nin0)))
    replace F_a1_next := F_a1_next.keep Kq130 (by exact ninS ne_a1_bs (ninS ne_a1_tw (nin0)))
    replace E_bs := E_bs.keep Kq130
    clear F_bs_words
    clear F_bs_wordsInUse
    clear F_bs_sizeIsSticky
    clear V_tw
    replace OLD := OLD.keep Kq130 (allS g_bs (allS g_tw all0))
    replace Z0 := Nat.le_trans Z0 Kq130.1
    replace KP := KP.trans Kq130 (allS (Or.inl (List.mem_of_getElem? (i := 1) rfl)) (allS (Or.inl (List.mem_of_getElem? (i := 2) rfl)) all0))
    clear Kq130
    have F_bs_words := nF130_bs_words
    clear nF130_bs_words
    have F_bs_wordsInUse := nF130_bs_wordsInUse
    clear nF130_bs_wordsInUse
    have F_bs_sizeIsSticky := nF130_bs_sizeIsSticky
    clear nF130_bs_sizeIsSticky
    have V_tw := nA130_tw
    clear nA130_tw
    have hXN : ∃ LL, Stand p l e ({ frames := 3, cells := 0, slots := 0, locals := 39 } : Room) s m #[(.ref a1), (.int (Int32.ofNat i))] below meth c T130 LL 0 0 ∧ Fr n0 LL := ⟨_, X130, NF⟩
    clear X130 NF
    obtain ⟨LL131, X130, NF⟩ := hXN
    show WP p.tables e below _ T130 (mkF m 18 #[.val (.ref a1), .val (.int (Int32.ofNat i)), .val (.int (own_get ws i))] [])
    refine WP.st (T' := T130) (f' := (mkF m 20 #[.val (.ref a1), .val (.int (Int32.ofNat i)), .val (.int (own_get ws i))] [(.ref a1), (.ref a1)])) (fun t k => ?_) ?_
    · refine XS.aloadN X130.here hx rfl (hb hby d18_18) rfl rfl ?_
      refine XS.dup X130.here hx rfl (hb hby d18_19) rfl rfl ?_
      exact k
    obtain ⟨T132, X132, e132, st132⟩ := getF X130 hx hZ hown (host := "") (Or.inl (w_77 hw)) Via.refl e130 F_a1_count (g := (mkF m 20 #[.val (.ref a1), .val (.int (Int32.ofNat i)), .val (.int (own_get ws i))] [(.ref a1), (.ref a1)])) rfl rfl (hb hby d18_20)
    refine WP.st st132 ?_
    clear st132
    show WP p.tables e below _ T132 (mkF m 23 #[.val (.ref a1), .val (.int (Int32.ofNat i)), .val (.int (own_get ws i))] [(.int cn), (.ref a1)])
    refine WP.st (T' := T132) (f' := (mkF m 25 #[.val (.ref a1), .val (.int (Int32.ofNat i)), .val (.int (own_get ws i))] [(.int (cn - (1 : Int32))), (.ref a1)])) (fun t k => ?_) ?_
    · refine XS.iconst X132.here hx rfl (hb hby d18_23) ?_
      refine XS.isub X132.here hx rfl (hb hby d18_24) rfl ?_
      exact k
    obtain ⟨T133, h133, X133, e133, W133, st133⟩ := putF X132 hx hZ hown (host := "") (Or.inl (w_77 hw)) Via.refl e132 F_a1_count E_a1 (Or.inl (w_78 hw)) (w_7 hw) (ty := .int) (by decide) rfl rfl (g := (mkF m 25 #[.val (.ref a1), .val (.int (Int32.ofNat i)), .val (.int (own_get ws i))] [(.int (cn - (1 : Int32))), (.ref a1)])) rfl rfl (hb hby d18_25)
    refine WP.st st133 ?_
    clear st133
    replace E_a1 := E_a1.wr W133
    replace F_a1_held := F_a1_held.other W133 (Or.inr (sn_10 hw))
    replace F_a1_count := F_a1_count.same W133
    replace F_a1_next := F_a1_next.other W133 (Or.inr (sn_11 hw))
    replace E_bs := E_bs.wr W133
    replace OLD := OLD.wr W133 g_a1
    replace F_bs_words := F_bs_words.other W133 (Or.inl (Ne.symm ne_a1_bs))
    replace F_bs_wordsInUse := F_bs_wordsInUse.other W133 (Or.inl (Ne.symm ne_a1_bs))
    replace F_bs_sizeIsSticky := F_bs_sizeIsSticky.other W133 (Or.inl (Ne.symm ne_a1_bs))
    replace V_tw := V_tw.other W133 (Ne.symm ne_a1_tw)
    replace Z0 := Nat.le_trans Z0 (Keep.of_wr W133).1
    replace KP := KP.wr W133 (Or.inl (List.mem_of_getElem? (i := 0) rfl))
    replace NF := Fr.snoc X133 NF g_a1
    clear W133
    have hXN : ∃ LL, Stand p l e ({ frames := 3, cells := 0, slots := 0, locals := 39 } : Room) s m #[(.ref a1), (.int (Int32.ofNat i))] below meth c T133 LL 0 0 ∧ Fr n0 LL := ⟨_, X133, NF⟩
    clear X133 NF
    obtain ⟨LL134, X133, NF⟩ := hXN
    show WP p.tables e below _ T133 (mkF m 28 #[.val (.ref a1), .val (.int (Int32.ofNat i)), .val (.int (own_get ws i))] [])
    refine WP.st (T' := T133) (f' := (mkF m 29 #[.val (.ref a1), .val (.int (Int32.ofNat i)), .val (.int (own_get ws i))] [(.int (own_get ws i))])) (fun t k => ?_) ?_
    · refine XS.iloadN X133.here hx rfl (hb hby d18_28) rfl ?_
      exact k
    subst hG
    obtain ⟨fs, hr, hrun, hended, hW, hsame⟩ := X133.leave (v := some (.int (nar .boolean (own_get ws i)))) (fun h => by rw [Bd.returns] at h; cases h)
    refine WP.fin ⟨_, _, ?_, hrun, hended, _, _, rfl, ?_, ⟨_, rfl⟩, hW, hsame.mono (by decide) (by decide)⟩
    · exact retN X133 hx (t := .boolean) Bd.returns (by simp) (hb hby d18_29) hr
    · show Q18y Z a1 cn nx bs tw kw ws u st i h0 n0 _ T133.heap _
      rw [e133]
      exact ⟨(nar .boolean (own_get ws i)), ws3_130, u2_130, (cn - (1 : Int32)), rfl, NF, KP, F_a1_held, F_a1_count, F_a1_next, E_bs, F_bs_words, F_bs_wordsInUse, F_bs_sizeIsSticky, V_tw, hinv3_130, hget3_130, (by have := hlen3_130; omega)⟩
theorem ef_1 (m : MethodId) (z0 : Int32) : entryFrame m #[(.int z0)] 1 = mkF m 0 #[.val (.int z0)] [] := by
  all_goals first | (simp [entryFrame, mkF, argsToLocals, Value.category]; done) | rfl
theorem pn_3 : plainName "com/example/otayori/otayori/codec/PacketIdsIsHeldPinLaw" = true := by first | (simp [plainName, overriddenIn]; done) | decide +kernel
theorem d1_0 : decode method_2_code 0 = .ok (.iconst 1, 1) := by decide +kernel
theorem d1_1 : decode method_2_code 1 = .ok (.iload_n 0, 1) := by decide +kernel
theorem w_4 {a0 : Array Value} {Z : State} (hw : ∀ d ∈ tables_1, d.before a0 Z = true) : (Jvm.Cond.constant "com/example/otayori/otayori/codec/PacketIdsIsHeldPinLaw" (7 : Nat) (2147483647 : Int32)).before a0 Z = true := hw _ (List.mem_of_getElem? (i := 4) rfl)
theorem d1_2 : decode method_2_code 2 = .ok (.ldc 7, 2) := by decide +kernel
theorem d1_4 : decode method_2_code 4 = .ok (.iand, 1) := by decide +kernel
theorem w_5 {a0 : Array Value} {Z : State} (hw : ∀ d ∈ tables_1, d.before a0 Z = true) : (Jvm.Cond.constant "com/example/otayori/otayori/codec/PacketIdsIsHeldPinLaw" (10 : Nat) (65535 : Int32)).before a0 Z = true := hw _ (List.mem_of_getElem? (i := 5) rfl)
theorem d1_5 : decode method_2_code 5 = .ok (.ldc 10, 2) := by decide +kernel
theorem d1_7 : decode method_2_code 7 = .ok (.irem, 1) := by decide +kernel
theorem d1_8 : decode method_2_code 8 = .ok (.iadd, 1) := by decide +kernel
theorem d1_9 : decode method_2_code 9 = .ok (.ireturn, 1) := by decide +kernel
def Q1 (Z : State) (p1 : Int32) (h0 : Heap) (n0 : Nat) (v : Option Value) (h : Heap) (L : List Loc) : Prop := v = some (.int ((1 : Int32) + ((p1 &&& (2147483647 : Int32)) % (65535 : Int32)))) ∧ Fr n0 L ∧ h = h0
set_option maxRecDepth 65536 in
set_option maxHeartbeats 40000000 in
theorem rm1 (l : Launch) (Z : State) (a0 : Array Value) (hw : ∀ d ∈ tables_1, d.before a0 Z = true) (wsC : List Jvm.Cond) (p1 : Int32) (h0 : Heap) (n0 : Nat) (Z0 : n0 ≤ h0.size)  :
    MetFree l (⟨"com/example/otayori/otayori/codec/PacketIdsIsHeldPinLaw", "id", "(I)I"⟩ : MethodName) (head1 (Jvm.Cond.code (⟨"com/example/otayori/otayori/codec/PacketIdsIsHeldPinLaw", "id", "(I)I"⟩ : MethodName) method_2_code 1 (some .int) :: wsC) ({ frames := 0, cells := 0, slots := 0, locals := 0 } : Room)) (fun a U => a = #[(.int p1)] ∧ Z.Warmed39 U.vm ∧ U.heap = h0) (fun _ _ _ _ _ => True) (fun _ U o U' => ∃ v L, o = .returned v ∧ Q1 Z p1 h0 n0 v U'.heap L ∧ FrameEnd U o U' L ({ frames := 0, cells := 0, slots := 0, locals := 0 } : Room).cells ({ frames := 0, cells := 0, slots := 0, locals := 0 } : Room).slots) := by
  refine MetFree.of_bodySF (plainFor_of_name pn_3) hisR ?_
  intro p e s m args below meth c s₁ Bd hml0 hP hK
  obtain ⟨rfl, hZ, hh⟩ := hP
  have hx := Bd.exec
  have hby := Bd.bytes
  have hml : c.maxLocals = 1 := hml0
  have hown : s.vm.findClass "com/example/otayori/otayori/codec/PacketIdsIsHeldPinLaw" = some m.cls := findClass_of_methodNamed Bd.named
  have hnm := (name_of_methodNamed Bd.named Bd.method).1
  have X0 : Stand p l e ({ frames := 0, cells := 0, slots := 0, locals := 0 } : Room) s m #[(.int p1)] below meth c s₁ [] 0 0 := Stand.of_body Bd
  have e0 : s₁.heap = h0 := by rw [← hh, Bd.state]; rfl
  have NF := Fr.nil n0
  refine WP.go ?_
  refine WP.cast (ef_1 m p1) ?_
  refine WP.name ?_
  intro G hG
  refine WP.st (T' := s₁) (f' := (mkF m 9 #[.val (.int p1)] [(.int ((1 : Int32) + ((p1 &&& (2147483647 : Int32)) % (65535 : Int32))))])) (fun t k => ?_) ?_
  · refine XS.iconst X0.here hx rfl (hb hby d1_0) ?_
    refine XS.iloadN X0.here hx rfl (hb hby d1_1) rfl ?_
    refine X0.ldcInt hx hown (mvT hZ (w_4 hw)) (g := (mkF m 2 #[.val (.int p1)] [(.int p1), (.int (1 : Int32))])) rfl (hb hby d1_2) _ ?_
    refine XS.iand X0.here hx rfl (hb hby d1_4) rfl ?_
    show Steps p.tables e below (s₁.setTop (mkF m 5 #[.val (.int p1)] [(.int (p1 &&& (2147483647 : Int32))), (.int (1 : Int32))])) t
    refine X0.ldcInt hx hown (mvT hZ (w_5 hw)) (g := (mkF m 5 #[.val (.int p1)] [(.int (p1 &&& (2147483647 : Int32))), (.int (1 : Int32))])) rfl (hb hby d1_5) _ ?_
    refine iremM X0 hx rfl (hb hby d1_7) rfl (by decide) ?_
    refine XS.iadd X0.here hx rfl (hb hby d1_8) rfl ?_
    exact k
  subst hG
  obtain ⟨fs, hr, hrun, hended, hW, hsame⟩ := X0.leave (v := some (.int ((1 : Int32) + ((p1 &&& (2147483647 : Int32)) % (65535 : Int32))))) (fun h => by rw [Bd.returns] at h; cases h)
  refine WP.fin ⟨_, _, ?_, hrun, hended, _, _, rfl, ?_, ⟨_, rfl⟩, hW, hsame.mono (by decide) (by decide)⟩
  · exact retI X0 hx Bd.returns (hb hby d1_9) hr
  · show Q1 Z p1 h0 n0 _ s₁.heap _
    rw [e0]
    exact ⟨rfl, NF, rfl⟩
theorem ef_0 (m : MethodId) (z0 : Int32) (z1 : Int32) (z2 : Int32) (z3 : Int32) : entryFrame m #[(.int z0), (.int z1), (.int z2), (.int z3)] maxLocals = mkF m 0 #[.val (.int z0), .val (.int z1), .val (.int z2), .val (.int z3), .unset, .unset, .unset, .unset, .unset, .unset, .unset, .unset, .unset] [] := by
  all_goals first | (simp [entryFrame, mkF, argsToLocals, Value.category, maxLocals]; done) | rfl
theorem w_0 {a0 : Array Value} {Z : State} (hw : ∀ d ∈ tables_1, d.before a0 Z = true) : (Jvm.Cond.methodLink "com/example/otayori/otayori/codec/PacketIdsIsHeldPinLaw" (11 : Nat) ({ cls := "com/example/otayori/otayori/codec/PacketIdsIsHeldPinLaw", name := "id", desc := "(I)I" } : Jvm.MethodName)).before a0 Z = true := hw _ (List.mem_of_getElem? (i := 0) rfl)
theorem w_3 {a0 : Array Value} {Z : State} (hw : ∀ d ∈ tables_1, d.before a0 Z = true) : (Jvm.Cond.code ({ cls := "com/example/otayori/otayori/codec/PacketIdsIsHeldPinLaw", name := "id", desc := "(I)I" } : Jvm.MethodName) method_2_code (1 : Nat) (Option.some Jvm.ClassFile.FieldType.int)).before a0 Z = true := hw _ (List.mem_of_getElem? (i := 3) rfl)
theorem w_2 {a0 : Array Value} {Z : State} (hw : ∀ d ∈ tables_1, d.before a0 Z = true) : (Jvm.Cond.initialized "com/example/otayori/otayori/codec/PacketIdsIsHeldPinLaw").before a0 Z = true := hw _ (List.mem_of_getElem? (i := 2) rfl)
theorem w_1 {a0 : Array Value} {Z : State} (hw : ∀ d ∈ tables_1, d.before a0 Z = true) : (Jvm.Cond.static ({ cls := "com/example/otayori/otayori/codec/PacketIdsIsHeldPinLaw", name := "id", desc := "(I)I" } : Jvm.MethodName)).before a0 Z = true := hw _ (List.mem_of_getElem? (i := 1) rfl)
theorem w_6 {a0 : Array Value} {Z : State} (hw : ∀ d ∈ tables_1, d.before a0 Z = true) : (Jvm.Cond.classLink "com/example/otayori/otayori/codec/PacketIdsIsHeldPinLaw" (8 : Nat) "com/example/otayori/otayori/codec/PacketIds").before a0 Z = true := hw _ (List.mem_of_getElem? (i := 6) rfl)
theorem w_9 {a0 : Array Value} {Z : State} (hw : ∀ d ∈ tables_1, d.before a0 Z = true) : (Jvm.Cond.methodLink "com/example/otayori/otayori/codec/PacketIdsIsHeldPinLaw" (17 : Nat) ({ cls := "com/example/otayori/otayori/codec/PacketIds", name := "<init>", desc := "()V" } : Jvm.MethodName)).before a0 Z = true := hw _ (List.mem_of_getElem? (i := 9) rfl)
theorem w_11 {a0 : Array Value} {Z : State} (hw : ∀ d ∈ tables_1, d.before a0 Z = true) : (Jvm.Cond.code ({ cls := "com/example/otayori/otayori/codec/PacketIds", name := "<init>", desc := "()V" } : Jvm.MethodName) prog_12_method_1_code (1 : Nat) (Option.none : Option Jvm.ClassFile.FieldType)).before a0 Z = true := hw _ (List.mem_of_getElem? (i := 11) rfl)
theorem w_10 {a0 : Array Value} {Z : State} (hw : ∀ d ∈ tables_1, d.before a0 Z = true) : (Jvm.Cond.instanceMethod ({ cls := "com/example/otayori/otayori/codec/PacketIds", name := "<init>", desc := "()V" } : Jvm.MethodName)).before a0 Z = true := hw _ (List.mem_of_getElem? (i := 10) rfl)
theorem w_17 {a0 : Array Value} {Z : State} (hw : ∀ d ∈ tables_1, d.before a0 Z = true) : (Jvm.Cond.methodLink "com/example/otayori/otayori/codec/PacketIdsIsHeldPinLaw" (18 : Nat) ({ cls := "com/example/otayori/otayori/codec/PacketIds", name := "isHeld", desc := "(I)Z" } : Jvm.MethodName)).before a0 Z = true := hw _ (List.mem_of_getElem? (i := 17) rfl)
theorem w_99 {a0 : Array Value} {Z : State} (hw : ∀ d ∈ tables_1, d.before a0 Z = true) : (Jvm.Cond.methodLink "com/example/otayori/otayori/codec/PacketIdsIsHeldPinLaw" (25 : Nat) ({ cls := "com/example/otayori/otayori/codec/PacketIds", name := "release", desc := "(I)Z" } : Jvm.MethodName)).before a0 Z = true := hw _ (List.mem_of_getElem? (i := 99) rfl)
theorem w_103 {a0 : Array Value} {Z : State} (hw : ∀ d ∈ tables_1, d.before a0 Z = true) : (Jvm.Cond.code ({ cls := "com/example/otayori/otayori/codec/PacketIds", name := "release", desc := "(I)Z" } : Jvm.MethodName) prog_12_method_5_code (3 : Nat) (Option.some Jvm.ClassFile.FieldType.boolean)).before a0 Z = true := hw _ (List.mem_of_getElem? (i := 103) rfl)
theorem w_102 {a0 : Array Value} {Z : State} (hw : ∀ d ∈ tables_1, d.before a0 Z = true) : (Jvm.Cond.selects "com/example/otayori/otayori/codec/PacketIds" ({ cls := "com/example/otayori/otayori/codec/PacketIds", name := "release", desc := "(I)Z" } : Jvm.MethodName) ({ cls := "com/example/otayori/otayori/codec/PacketIds", name := "release", desc := "(I)Z" } : Jvm.MethodName)).before a0 Z = true := hw _ (List.mem_of_getElem? (i := 102) rfl)
theorem w_100 {a0 : Array Value} {Z : State} (hw : ∀ d ∈ tables_1, d.before a0 Z = true) : (Jvm.Cond.declares ({ cls := "com/example/otayori/otayori/codec/PacketIds", name := "release", desc := "(I)Z" } : Jvm.MethodName)).before a0 Z = true := hw _ (List.mem_of_getElem? (i := 100) rfl)
theorem w_101 {a0 : Array Value} {Z : State} (hw : ∀ d ∈ tables_1, d.before a0 Z = true) : (Jvm.Cond.instanceMethod ({ cls := "com/example/otayori/otayori/codec/PacketIds", name := "release", desc := "(I)Z" } : Jvm.MethodName)).before a0 Z = true := hw _ (List.mem_of_getElem? (i := 101) rfl)
theorem w_24 {a0 : Array Value} {Z : State} (hw : ∀ d ∈ tables_1, d.before a0 Z = true) : (Jvm.Cond.methodLink "com/example/otayori/otayori/codec/PacketIdsIsHeldPinLaw" (22 : Nat) ({ cls := "com/example/otayori/otayori/codec/PacketIds", name := "hold", desc := "(I)Z" } : Jvm.MethodName)).before a0 Z = true := hw _ (List.mem_of_getElem? (i := 24) rfl)
theorem w_28 {a0 : Array Value} {Z : State} (hw : ∀ d ∈ tables_1, d.before a0 Z = true) : (Jvm.Cond.code ({ cls := "com/example/otayori/otayori/codec/PacketIds", name := "hold", desc := "(I)Z" } : Jvm.MethodName) prog_12_method_3_code (3 : Nat) (Option.some Jvm.ClassFile.FieldType.boolean)).before a0 Z = true := hw _ (List.mem_of_getElem? (i := 28) rfl)
theorem w_27 {a0 : Array Value} {Z : State} (hw : ∀ d ∈ tables_1, d.before a0 Z = true) : (Jvm.Cond.selects "com/example/otayori/otayori/codec/PacketIds" ({ cls := "com/example/otayori/otayori/codec/PacketIds", name := "hold", desc := "(I)Z" } : Jvm.MethodName) ({ cls := "com/example/otayori/otayori/codec/PacketIds", name := "hold", desc := "(I)Z" } : Jvm.MethodName)).before a0 Z = true := hw _ (List.mem_of_getElem? (i := 27) rfl)
theorem w_25 {a0 : Array Value} {Z : State} (hw : ∀ d ∈ tables_1, d.before a0 Z = true) : (Jvm.Cond.declares ({ cls := "com/example/otayori/otayori/codec/PacketIds", name := "hold", desc := "(I)Z" } : Jvm.MethodName)).before a0 Z = true := hw _ (List.mem_of_getElem? (i := 25) rfl)
theorem w_26 {a0 : Array Value} {Z : State} (hw : ∀ d ∈ tables_1, d.before a0 Z = true) : (Jvm.Cond.instanceMethod ({ cls := "com/example/otayori/otayori/codec/PacketIds", name := "hold", desc := "(I)Z" } : Jvm.MethodName)).before a0 Z = true := hw _ (List.mem_of_getElem? (i := 26) rfl)
def Q0 (Z : State) (p1 : Int32) (p2 : Int32) (p3 : Int32) (p4 : Int32) (h0 : Heap) (n0 : Nat) (v : Option Value) (h : Heap) (L : List Loc) : Prop := v = some (.int 1) ∧ Fr n0 L
set_option maxRecDepth 65536 in
set_option maxHeartbeats 40000000 in
theorem rm0 (l : Launch) (Z : State) (a0 : Array Value) (hw : ∀ d ∈ tables_1, d.before a0 Z = true) (wsC : List Jvm.Cond) (p1 : Int32) (p2 : Int32) (p3 : Int32) (p4 : Int32) (h0 : Heap) (n0 : Nat) (Z0 : n0 ≤ h0.size) (OLD : Old Z n0 h0) (O5 : Sta Z Z.heap "java/util/BitSet" "$assertionsDisabled" "Z" (.int (1 : Int32))) :
    MetFree l x (head1 (Jvm.Cond.code x code maxLocals ret :: wsC) room_1) (fun a U => a = #[(.int p1), (.int p2), (.int p3), (.int p4)] ∧ Z.Warmed39 U.vm ∧ U.heap = h0) (fun _ _ _ _ _ => True) (fun _ U o U' => ∃ v L, o = .returned v ∧ Q0 Z p1 p2 p3 p4 h0 n0 v U'.heap L ∧ FrameEnd U o U' L room_1.cells room_1.slots) := by
  refine MetFree.of_bodySF (plainFor_of_name pn_3) hisR ?_
  intro p e s m args below meth c s₁ Bd hml0 hP hK
  obtain ⟨rfl, hZ, hh⟩ := hP
  have hx := Bd.exec
  have hby := Bd.bytes
  have hml : c.maxLocals = 13 := hml0
  have hown : s.vm.findClass "com/example/otayori/otayori/codec/PacketIdsIsHeldPinLaw" = some m.cls := findClass_of_methodNamed Bd.named
  have hnm := (name_of_methodNamed Bd.named Bd.method).1
  have X0 : Stand p l e room_1 s m #[(.int p1), (.int p2), (.int p3), (.int p4)] below meth c s₁ [] 0 0 := Stand.of_body Bd
  have e0 : s₁.heap = h0 := by rw [← hh, Bd.state]; rfl
  have NF := Fr.nil n0
  refine WP.go ?_
  refine WP.cast (ef_0 m p1 p2 p3 p4) ?_
  refine WP.name ?_
  intro G hG
  refine WP.st (T' := s₁) (f' := (mkF m 1 #[.val (.int p1), .val (.int p2), .val (.int p3), .val (.int p4), .unset, .unset, .unset, .unset, .unset, .unset, .unset, .unset, .unset] [(.int p1)])) (fun t k => ?_) ?_
  · refine XS.iloadN X0.here hx rfl (hb hby at_0) rfl ?_
    exact k
  obtain ⟨_, _, ⟨T135, L135, k135, n135⟩, -, X135, ⟨Lc135, hQ135, l135, y135, z135⟩, st135⟩ := Jvm.LawKit.callS X0 hx (y := (⟨"com/example/otayori/otayori/codec/PacketIdsIsHeldPinLaw", "id", "(I)I"⟩ : MethodName)) hown (mvT hZ (w_0 hw)) (mvT hZ (w_1 hw)) (mvT hZ (w_2 hw)) (mvT hZ (w_3 hw)) (by decide) (backOf (W := 0) (rm1 l Z a0 hw [] p1 h0 n0 Z0 ) hZ (w_3 hw) (w_2 hw) (by decide) (by decide)) (g := (mkF m 1 #[.val (.int p1), .val (.int p2), .val (.int p3), .val (.int p4), .unset, .unset, .unset, .unset, .unset, .unset, .unset, .unset, .unset] [(.int p1)])) rfl (by rw [hml]; rfl) (argsL := [(.int p1)]) (rest := []) (lenOf pd_0 rfl) rfl (by show 2 * 0 + _ ≤ _; exact Nat.le_of_eq rfl) (hb hby at_1) (fun _ _ => ⟨rfl, e0, (by decide : 0 + 0 ≤ _), (by decide : 0 + 0 ≤ _)⟩)
  dsimp only [Pt.U, Pt.locs, Pt.cells, Pt.slots] at X135 l135 y135 z135 st135 hQ135
  subst l135 y135 z135
  obtain ⟨rfl, Nq135, Kq135⟩ := hQ135
  replace NF := Fr.app NF Nq135
  clear Nq135
  refine WP.st st135 ?_
  clear st135
  replace Kq135 := Kq135.trans (rfl : h0 = h0)
  have hXN : ∃ LL, Stand p l e room_1 s m #[(.int p1), (.int p2), (.int p3), (.int p4)] below meth c T135 LL 0 0 ∧ Fr n0 LL := ⟨_, X135, NF⟩
  clear X135 NF
  obtain ⟨LL136, X135, NF⟩ := hXN
  show WP p.tables e below _ T135 (mkF m 4 #[.val (.int p1), .val (.int p2), .val (.int p3), .val (.int p4), .unset, .unset, .unset, .unset, .unset, .unset, .unset, .unset, .unset] [(.int ((1 : Int32) + ((p1 &&& (2147483647 : Int32)) % (65535 : Int32))))])
  obtain ⟨ia, e_ia, l_ia, h_ia⟩ := own_id p1
  rw [e_ia]
  show WP p.tables e below _ T135 (mkF m 4 #[.val (.int p1), .val (.int p2), .val (.int p3), .val (.int p4), .unset, .unset, .unset, .unset, .unset, .unset, .unset, .unset, .unset] [(.int (Int32.ofNat ia))])
  refine WP.st (T' := T135) (f' := (mkF m 7 #[.val (.int p1), .val (.int p2), .val (.int p3), .val (.int p4), .val (.int (Int32.ofNat ia)), .unset, .unset, .unset, .unset, .unset, .unset, .unset, .unset] [(.int p2)])) (fun t k => ?_) ?_
  · refine XS.istore X135.here hx rfl (hb hby at_4) rfl (l' := #[.val (.int p1), .val (.int p2), .val (.int p3), .val (.int p4), .val (.int (Int32.ofNat ia)), .unset, .unset, .unset, .unset, .unset, .unset, .unset, .unset]) rfl ?_
    refine XS.iloadN X135.here hx rfl (hb hby at_6) rfl ?_
    exact k
  obtain ⟨_, _, ⟨T137, L137, k137, n137⟩, -, X137, ⟨Lc137, hQ137, l137, y137, z137⟩, st137⟩ := Jvm.LawKit.callS X135 hx (y := (⟨"com/example/otayori/otayori/codec/PacketIdsIsHeldPinLaw", "id", "(I)I"⟩ : MethodName)) hown (mvT hZ (w_0 hw)) (mvT hZ (w_1 hw)) (mvT hZ (w_2 hw)) (mvT hZ (w_3 hw)) (by decide) (backOf (W := 0) (rm1 l Z a0 hw [] p2 h0 n0 Z0 ) hZ (w_3 hw) (w_2 hw) (by decide) (by decide)) (g := (mkF m 7 #[.val (.int p1), .val (.int p2), .val (.int p3), .val (.int p4), .val (.int (Int32.ofNat ia)), .unset, .unset, .unset, .unset, .unset, .unset, .unset, .unset] [(.int p2)])) rfl (by rw [hml]; rfl) (argsL := [(.int p2)]) (rest := []) (lenOf pd_0 rfl) rfl (by show 2 * 0 + _ ≤ _; exact Nat.le_of_eq rfl) (hb hby at_7) (fun _ _ => ⟨rfl, Kq135, (by decide : 0 + 0 ≤ _), (by decide : 0 + 0 ≤ _)⟩)
  dsimp only [Pt.U, Pt.locs, Pt.cells, Pt.slots] at X137 l137 y137 z137 st137 hQ137
  subst l137 y137 z137
  obtain ⟨rfl, Nq137, Kq137⟩ := hQ137
  replace NF := Fr.app NF Nq137
  clear Nq137
  refine WP.st st137 ?_
  clear st137
  replace Kq137 := Kq137.trans (rfl : h0 = h0)
  have hXN : ∃ LL, Stand p l e room_1 s m #[(.int p1), (.int p2), (.int p3), (.int p4)] below meth c T137 LL 0 0 ∧ Fr n0 LL := ⟨_, X137, NF⟩
  clear X137 NF
  obtain ⟨LL138, X137, NF⟩ := hXN
  show WP p.tables e below _ T137 (mkF m 10 #[.val (.int p1), .val (.int p2), .val (.int p3), .val (.int p4), .val (.int (Int32.ofNat ia)), .unset, .unset, .unset, .unset, .unset, .unset, .unset, .unset] [(.int ((1 : Int32) + ((p2 &&& (2147483647 : Int32)) % (65535 : Int32))))])
  obtain ⟨ib, e_ib, l_ib, h_ib⟩ := own_id p2
  rw [e_ib]
  show WP p.tables e below _ T137 (mkF m 10 #[.val (.int p1), .val (.int p2), .val (.int p3), .val (.int p4), .val (.int (Int32.ofNat ia)), .unset, .unset, .unset, .unset, .unset, .unset, .unset, .unset] [(.int (Int32.ofNat ib))])
  refine WP.st (T' := T137) (f' := (mkF m 19 #[.val (.int p1), .val (.int p2), .val (.int p3), .val (.int p4), .val (.int (Int32.ofNat ia)), .val (.int (Int32.ofNat ib)), .val (.int (((p4.toUInt32 >>> ((3 : Int32) &&& 31).toUInt32).toInt32) &&& (3 : Int32))), .unset, .unset, .unset, .unset, .unset, .unset] [])) (fun t k => ?_) ?_
  · refine XS.istore X137.here hx rfl (hb hby at_10) rfl (l' := #[.val (.int p1), .val (.int p2), .val (.int p3), .val (.int p4), .val (.int (Int32.ofNat ia)), .val (.int (Int32.ofNat ib)), .unset, .unset, .unset, .unset, .unset, .unset, .unset]) rfl ?_
    refine XS.iloadN X137.here hx rfl (hb hby at_12) rfl ?_
    refine XS.iconst X137.here hx rfl (hb hby at_13) ?_
    refine XS.iushr X137.here hx rfl (hb hby at_14) rfl ?_
    show Steps p.tables e below (T137.setTop (mkF m 15 #[.val (.int p1), .val (.int p2), .val (.int p3), .val (.int p4), .val (.int (Int32.ofNat ia)), .val (.int (Int32.ofNat ib)), .unset, .unset, .unset, .unset, .unset, .unset, .unset] [(.int ((p4.toUInt32 >>> ((3 : Int32) &&& 31).toUInt32).toInt32))])) t
    refine XS.iconst X137.here hx rfl (hb hby at_15) ?_
    refine XS.iand X137.here hx rfl (hb hby at_16) rfl ?_
    refine XS.istore X137.here hx rfl (hb hby at_17) rfl (l' := #[.val (.int p1), .val (.int p2), .val (.int p3), .val (.int p4), .val (.int (Int32.ofNat ia)), .val (.int (Int32.ofNat ib)), .val (.int (((p4.toUInt32 >>> ((3 : Int32) &&& 31).toUInt32).toInt32) &&& (3 : Int32))), .unset, .unset, .unset, .unset, .unset, .unset]) rfl ?_
    exact k
  have J139 : ∀ (Tj139 : State) (Lj139 : List Loc)  (iq : Nat), Stand p l e room_1 s m #[(.int p1), (.int p2), (.int p3), (.int p4)] below meth c Tj139 Lj139 0 0 → Tj139.heap = h0 → Fr n0 Lj139 → (1 ≤ iq) → (iq ≤ 65535) → WP p.tables e below G Tj139 (mkF m 76 #[.val (.int p1), .val (.int p2), .val (.int p3), .val (.int p4), .val (.int (Int32.ofNat ia)), .val (.int (Int32.ofNat ib)), .val (.int (((p4.toUInt32 >>> ((3 : Int32) &&& 31).toUInt32).toInt32) &&& (3 : Int32))), .val (.int (Int32.ofNat iq)), .unset, .unset, .unset, .unset, .unset] []) := by
    clear NF
    intro Tj139 Lj139  iq X139 ej139 NF l_iq h_iq
    refine WP.st (T' := Tj139) (f' := (mkF m 79 #[.val (.int p1), .val (.int p2), .val (.int p3), .val (.int p4), .val (.int (Int32.ofNat ia)), .val (.int (Int32.ofNat ib)), .val (.int (((p4.toUInt32 >>> ((3 : Int32) &&& 31).toUInt32).toInt32) &&& (3 : Int32))), .val (.int (Int32.ofNat iq)), .unset, .unset, .unset, .unset, .unset] [(.int (p4 &&& (1 : Int32)))])) (fun t k => ?_) ?_
    · refine XS.iloadN X139.here hx rfl (hb hby at_76) rfl ?_
      refine XS.iconst X139.here hx rfl (hb hby at_77) ?_
      refine XS.iand X139.here hx rfl (hb hby at_78) rfl ?_
      exact k
    by_cases hc140 : (p4 &&& (1 : Int32)) = (0 : Int32)
    · skip
      refine WP.st (T' := Tj139) (f' := (mkF m 92 #[.val (.int p1), .val (.int p2), .val (.int p3), .val (.int p4), .val (.int (Int32.ofNat ia)), .val (.int (Int32.ofNat ib)), .val (.int (((p4.toUInt32 >>> ((3 : Int32) &&& 31).toUInt32).toInt32) &&& (3 : Int32))), .val (.int (Int32.ofNat iq)), .val (.int (0 : Int32)), .unset, .unset, .unset, .unset] [(.int (p4 &&& (2 : Int32)))])) (fun t k => ?_) ?_
      · refine XS.ifYes X139.here hx rfl (pc0 := 79) (pc' := 86) rfl (hb hby at_79) rfl ((if0 _ _).trans (teq hc140).1) (by decide) (by decide) ?_
        refine XS.iconst X139.here hx rfl (hb hby at_86) ?_
        refine XS.istore X139.here hx rfl (hb hby at_87) rfl (l' := #[.val (.int p1), .val (.int p2), .val (.int p3), .val (.int p4), .val (.int (Int32.ofNat ia)), .val (.int (Int32.ofNat ib)), .val (.int (((p4.toUInt32 >>> ((3 : Int32) &&& 31).toUInt32).toInt32) &&& (3 : Int32))), .val (.int (Int32.ofNat iq)), .val (.int (0 : Int32)), .unset, .unset, .unset, .unset]) rfl ?_
        refine XS.iloadN X139.here hx rfl (hb hby at_89) rfl ?_
        show Steps p.tables e below (Tj139.setTop (mkF m 90 #[.val (.int p1), .val (.int p2), .val (.int p3), .val (.int p4), .val (.int (Int32.ofNat ia)), .val (.int (Int32.ofNat ib)), .val (.int (((p4.toUInt32 >>> ((3 : Int32) &&& 31).toUInt32).toInt32) &&& (3 : Int32))), .val (.int (Int32.ofNat iq)), .val (.int (0 : Int32)), .unset, .unset, .unset, .unset] [(.int p4)])) t
        refine XS.iconst X139.here hx rfl (hb hby at_90) ?_
        refine XS.iand X139.here hx rfl (hb hby at_91) rfl ?_
        exact k
      by_cases hc141 : (p4 &&& (2 : Int32)) = (0 : Int32)
      · skip
        refine WP.st (T' := Tj139) (f' := (mkF m 105 #[.val (.int p1), .val (.int p2), .val (.int p3), .val (.int p4), .val (.int (Int32.ofNat ia)), .val (.int (Int32.ofNat ib)), .val (.int (((p4.toUInt32 >>> ((3 : Int32) &&& 31).toUInt32).toInt32) &&& (3 : Int32))), .val (.int (Int32.ofNat iq)), .val (.int (0 : Int32)), .val (.int (0 : Int32)), .unset, .unset, .unset] [(.int (p4 &&& (4 : Int32)))])) (fun t k => ?_) ?_
        · refine XS.ifYes X139.here hx rfl (pc0 := 92) (pc' := 99) rfl (hb hby at_92) rfl ((if0 _ _).trans (teq hc141).1) (by decide) (by decide) ?_
          refine XS.iconst X139.here hx rfl (hb hby at_99) ?_
          refine XS.istore X139.here hx rfl (hb hby at_100) rfl (l' := #[.val (.int p1), .val (.int p2), .val (.int p3), .val (.int p4), .val (.int (Int32.ofNat ia)), .val (.int (Int32.ofNat ib)), .val (.int (((p4.toUInt32 >>> ((3 : Int32) &&& 31).toUInt32).toInt32) &&& (3 : Int32))), .val (.int (Int32.ofNat iq)), .val (.int (0 : Int32)), .val (.int (0 : Int32)), .unset, .unset, .unset]) rfl ?_
          refine XS.iloadN X139.here hx rfl (hb hby at_102) rfl ?_
          show Steps p.tables e below (Tj139.setTop (mkF m 103 #[.val (.int p1), .val (.int p2), .val (.int p3), .val (.int p4), .val (.int (Int32.ofNat ia)), .val (.int (Int32.ofNat ib)), .val (.int (((p4.toUInt32 >>> ((3 : Int32) &&& 31).toUInt32).toInt32) &&& (3 : Int32))), .val (.int (Int32.ofNat iq)), .val (.int (0 : Int32)), .val (.int (0 : Int32)), .unset, .unset, .unset] [(.int p4)])) t
          refine XS.iconst X139.here hx rfl (hb hby at_103) ?_
          refine XS.iand X139.here hx rfl (hb hby at_104) rfl ?_
          exact k
        by_cases hc142 : (p4 &&& (4 : Int32)) = (0 : Int32)
        · skip
          refine WP.st (T' := Tj139) (f' := (mkF m 115 #[.val (.int p1), .val (.int p2), .val (.int p3), .val (.int p4), .val (.int (Int32.ofNat ia)), .val (.int (Int32.ofNat ib)), .val (.int (((p4.toUInt32 >>> ((3 : Int32) &&& 31).toUInt32).toInt32) &&& (3 : Int32))), .val (.int (Int32.ofNat iq)), .val (.int (0 : Int32)), .val (.int (0 : Int32)), .val (.int (0 : Int32)), .unset, .unset] [])) (fun t k => ?_) ?_
          · refine XS.ifYes X139.here hx rfl (pc0 := 105) (pc' := 112) rfl (hb hby at_105) rfl ((if0 _ _).trans (teq hc142).1) (by decide) (by decide) ?_
            refine XS.iconst X139.here hx rfl (hb hby at_112) ?_
            refine XS.istore X139.here hx rfl (hb hby at_113) rfl (l' := #[.val (.int p1), .val (.int p2), .val (.int p3), .val (.int p4), .val (.int (Int32.ofNat ia)), .val (.int (Int32.ofNat ib)), .val (.int (((p4.toUInt32 >>> ((3 : Int32) &&& 31).toUInt32).toInt32) &&& (3 : Int32))), .val (.int (Int32.ofNat iq)), .val (.int (0 : Int32)), .val (.int (0 : Int32)), .val (.int (0 : Int32)), .unset, .unset]) rfl ?_
            exact k
          obtain ⟨T143, h143, X143, e143, E143, A143, D143, -, st143⟩ := newO X139 hx hZ hown (w_6 hw) (w_7 hw) (w_8 hw) ej139 (g := (mkF m 115 #[.val (.int p1), .val (.int p2), .val (.int p3), .val (.int p4), .val (.int (Int32.ofNat ia)), .val (.int (Int32.ofNat ib)), .val (.int (((p4.toUInt32 >>> ((3 : Int32) &&& 31).toUInt32).toInt32) &&& (3 : Int32))), .val (.int (Int32.ofNat iq)), .val (.int (0 : Int32)), .val (.int (0 : Int32)), .val (.int (0 : Int32)), .unset, .unset] [])) rfl (hb hby at_115) (by decide) (by decide)
          obtain ⟨b143, g143⟩ : ∃ z, z = h0.size := ⟨_, rfl⟩
          rw [← g143] at A143 D143 st143
          refine WP.st st143 ?_
          clear st143
          have g_b143 : n0 ≤ b143 := Nat.le_trans Z0 (Nat.le_of_eq g143.symm)
          replace OLD := OLD.ext E143
          replace Z0 := Nat.le_trans Z0 E143.1
          have E_b143 := A143
          have F_b143_next : Fld Z h143 b143 "com/example/otayori/otayori/codec/PacketIds" "next" "I" (.int (0 : Int32)) := D143 (Or.inl (w_16 hw)) (ty := .int) (by decide)
          have F_b143_held : Fld Z h143 b143 "com/example/otayori/otayori/codec/PacketIds" "held" "Ljava/util/BitSet;" .null := D143 (Or.inl (w_23 hw)) (ty := (.object "java/util/BitSet")) (by decide)
          have F_b143_count : Fld Z h143 b143 "com/example/otayori/otayori/codec/PacketIds" "count" "I" (.int (0 : Int32)) := D143 (Or.inl (w_78 hw)) (ty := .int) (by decide)
          clear D143 A143
          show WP p.tables e below _ T143 (mkF m 118 #[.val (.int p1), .val (.int p2), .val (.int p3), .val (.int p4), .val (.int (Int32.ofNat ia)), .val (.int (Int32.ofNat ib)), .val (.int (((p4.toUInt32 >>> ((3 : Int32) &&& 31).toUInt32).toInt32) &&& (3 : Int32))), .val (.int (Int32.ofNat iq)), .val (.int (0 : Int32)), .val (.int (0 : Int32)), .val (.int (0 : Int32)), .unset, .unset] [(.ref b143)])
          refine WP.st (T' := T143) (f' := (mkF m 119 #[.val (.int p1), .val (.int p2), .val (.int p3), .val (.int p4), .val (.int (Int32.ofNat ia)), .val (.int (Int32.ofNat ib)), .val (.int (((p4.toUInt32 >>> ((3 : Int32) &&& 31).toUInt32).toInt32) &&& (3 : Int32))), .val (.int (Int32.ofNat iq)), .val (.int (0 : Int32)), .val (.int (0 : Int32)), .val (.int (0 : Int32)), .unset, .unset] [(.ref b143), (.ref b143)])) (fun t k => ?_) ?_
          · refine XS.dup X143.here hx rfl (hb hby at_118) rfl rfl ?_
            exact k
          obtain ⟨_, _, ⟨T144, L144, k144, n144⟩, -, X144, ⟨Lc144, hQ144, l144, y144, z144⟩, st144⟩ := X143.specialBack hx (y := (⟨"com/example/otayori/otayori/codec/PacketIds", "<init>", "()V"⟩ : MethodName)) rfl hown (mvT hZ (w_9 hw)) (mvT hZ (w_10 hw)) (mvT hZ (w_11 hw)) (by decide) (backOf (W := 1) (rm2 l Z a0 hw [] b143 (0 : Int32) (0 : Int32) h143 n0 Z0 E_b143 g_b143 F_b143_held F_b143_count F_b143_next) hZ (w_11 hw) (w_8 hw) (by decide) (by decide)) (g := (mkF m 119 #[.val (.int p1), .val (.int p2), .val (.int p3), .val (.int p4), .val (.int (Int32.ofNat ia)), .val (.int (Int32.ofNat ib)), .val (.int (((p4.toUInt32 >>> ((3 : Int32) &&& 31).toUInt32).toInt32) &&& (3 : Int32))), .val (.int (Int32.ofNat iq)), .val (.int (0 : Int32)), .val (.int (0 : Int32)), .val (.int (0 : Int32)), .unset, .unset] [(.ref b143), (.ref b143)])) rfl (by rw [hml]; rfl) (Steps.refl _) (a := b143) (argsL := []) (rest := [(.ref b143)]) (lenOf pd_4 rfl) rfl (by show 2 * 0 + _ ≤ _; exact Nat.le_of_eq rfl) (hb hby at_119) (fun _ _ => ⟨rfl, e143, (by decide : 1 + 0 ≤ _), (by decide : 3 + 0 ≤ _)⟩)
          dsimp only [Pt.U, Pt.locs, Pt.cells, Pt.slots] at X144 l144 y144 z144 st144 hQ144
          subst l144 y144 z144
          obtain ⟨rfl, Nq144, Kq144, nF144_b143_held, nF144_b143_count, nF144_b143_next⟩ := hQ144
          replace NF := Fr.app NF Nq144
          clear Nq144
          refine WP.tr st144 ?_
          clear st144
          obtain ⟨h144, e144⟩ : ∃ h, T144.heap = h := ⟨_, rfl⟩
          rw [e144] at Kq144 nF144_b143_held nF144_b143_count nF144_b143_next
          replace OLD := OLD.keep Kq144 (allS g_b143 all0)
          replace E_b143 := E_b143.keep Kq144
          clear F_b143_next
          clear F_b143_held
          clear F_b143_count
          replace Z0 := Nat.le_trans Z0 Kq144.1
          clear Kq144
          have F_b143_held := nF144_b143_held
          clear nF144_b143_held
          have F_b143_count := nF144_b143_count
          clear nF144_b143_count
          have F_b143_next := nF144_b143_next
          clear nF144_b143_next
          have hXN : ∃ LL, Stand p l e room_1 s m #[(.int p1), (.int p2), (.int p3), (.int p4)] below meth c T144 LL 1 3 ∧ Fr n0 LL := ⟨_, X144, NF⟩
          clear X144 NF
          obtain ⟨LL145, X144, NF⟩ := hXN
          show WP p.tables e below _ T144 (mkF m 122 #[.val (.int p1), .val (.int p2), .val (.int p3), .val (.int p4), .val (.int (Int32.ofNat ia)), .val (.int (Int32.ofNat ib)), .val (.int (((p4.toUInt32 >>> ((3 : Int32) &&& 31).toUInt32).toInt32) &&& (3 : Int32))), .val (.int (Int32.ofNat iq)), .val (.int (0 : Int32)), .val (.int (0 : Int32)), .val (.int (0 : Int32)), .unset, .unset] [(.ref b143)])
          refine WP.st (T' := T144) (f' := (mkF m 128 #[.val (.int p1), .val (.int p2), .val (.int p3), .val (.int p4), .val (.int (Int32.ofNat ia)), .val (.int (Int32.ofNat ib)), .val (.int (((p4.toUInt32 >>> ((3 : Int32) &&& 31).toUInt32).toInt32) &&& (3 : Int32))), .val (.int (Int32.ofNat iq)), .val (.int (0 : Int32)), .val (.int (0 : Int32)), .val (.int (0 : Int32)), .val (.ref b143), .unset] [(.int (Int32.ofNat iq)), (.ref b143)])) (fun t k => ?_) ?_
          · refine XS.astore X144.here hx rfl (hb hby at_122) rfl rfl (l' := #[.val (.int p1), .val (.int p2), .val (.int p3), .val (.int p4), .val (.int (Int32.ofNat ia)), .val (.int (Int32.ofNat ib)), .val (.int (((p4.toUInt32 >>> ((3 : Int32) &&& 31).toUInt32).toInt32) &&& (3 : Int32))), .val (.int (Int32.ofNat iq)), .val (.int (0 : Int32)), .val (.int (0 : Int32)), .val (.int (0 : Int32)), .val (.ref b143), .unset]) rfl ?_
            refine XS.aload X144.here hx rfl (hb hby at_124) rfl rfl ?_
            refine XS.iload X144.here hx rfl (hb hby at_126) rfl ?_
            exact k
          obtain ⟨cq146, kq146, q146a, q146b, q146c⟩ := isOf hZ e144 E_b143
          obtain ⟨_, _, ⟨T146, L146, k146, n146⟩, -, X146, ⟨Lc146, hQ146, l146, y146, z146⟩, st146⟩ := X144.virtualBack hx (y := (⟨"com/example/otayori/otayori/codec/PacketIds", "isHeld", "(I)Z"⟩ : MethodName)) (z := (⟨"com/example/otayori/otayori/codec/PacketIds", "isHeld", "(I)Z"⟩ : MethodName)) hown (mvT hZ (w_17 hw)) (mvT hZ (w_18 hw)) (notFace_of_selects (args := #[]) (mvT hZ (w_20 hw))) (mvT hZ (w_20 hw)) (mvT hZ (w_19 hw)) (by decide) (backOf (W := 0) (rm4n l Z a0 hw [] b143 iq h144 n0 Z0 F_b143_held) hZ (w_21 hw) (w_8 hw) (by decide) (by decide)) q146a q146c (g := (mkF m 128 #[.val (.int p1), .val (.int p2), .val (.int p3), .val (.int p4), .val (.int (Int32.ofNat ia)), .val (.int (Int32.ofNat ib)), .val (.int (((p4.toUInt32 >>> ((3 : Int32) &&& 31).toUInt32).toInt32) &&& (3 : Int32))), .val (.int (Int32.ofNat iq)), .val (.int (0 : Int32)), .val (.int (0 : Int32)), .val (.int (0 : Int32)), .val (.ref b143), .unset] [(.int (Int32.ofNat iq)), (.ref b143)])) rfl (by rw [hml]; rfl) (Steps.refl _) (argsL := [(.int (Int32.ofNat iq))]) (rest := []) (lenOf pd_5 rfl) rfl (by show 2 * 0 + _ ≤ _; exact Nat.le_of_eq rfl) (hb hby at_128) (fun _ _ => ⟨rfl, e144, (by decide : 1 + 0 ≤ _), (by decide : 3 + 0 ≤ _)⟩)
          dsimp only [Pt.U, Pt.locs, Pt.cells, Pt.slots] at X146 l146 y146 z146 st146 hQ146
          subst l146 y146 z146
          obtain ⟨rfl, Nq146, Kq146⟩ := hQ146
          replace NF := Fr.app NF Nq146
          clear Nq146
          refine WP.tr st146 ?_
          clear st146
          replace Kq146 := Kq146.trans (rfl : h144 = h144)
          have hXN : ∃ LL, Stand p l e room_1 s m #[(.int p1), (.int p2), (.int p3), (.int p4)] below meth c T146 LL 1 3 ∧ Fr n0 LL := ⟨_, X146, NF⟩
          clear X146 NF
          obtain ⟨LL147, X146, NF⟩ := hXN
          show WP p.tables e below _ T146 (mkF m 131 #[.val (.int p1), .val (.int p2), .val (.int p3), .val (.int p4), .val (.int (Int32.ofNat ia)), .val (.int (Int32.ofNat ib)), .val (.int (((p4.toUInt32 >>> ((3 : Int32) &&& 31).toUInt32).toInt32) &&& (3 : Int32))), .val (.int (Int32.ofNat iq)), .val (.int (0 : Int32)), .val (.int (0 : Int32)), .val (.int (0 : Int32)), .val (.ref b143), .unset] [(.int (0 : Int32))])
          refine WP.st (T' := T146) (f' := (mkF m 175 #[.val (.int p1), .val (.int p2), .val (.int p3), .val (.int p4), .val (.int (Int32.ofNat ia)), .val (.int (Int32.ofNat ib)), .val (.int (((p4.toUInt32 >>> ((3 : Int32) &&& 31).toUInt32).toInt32) &&& (3 : Int32))), .val (.int (Int32.ofNat iq)), .val (.int (0 : Int32)), .val (.int (0 : Int32)), .val (.int (0 : Int32)), .val (.ref b143), .unset] [])) (fun t k => ?_) ?_
          · refine XS.ifYes X146.here hx rfl (pc0 := 131) (pc' := 136) rfl (hb hby at_131) rfl ((if0 _ _).trans (teq (by decide : (0 : Int32) = (0 : Int32))).1) (by decide) (by decide) ?_
            refine XS.iload X146.here hx rfl (hb hby at_136) rfl ?_
            refine XS.ifYes X146.here hx rfl (pc0 := 138) (pc' := 149) rfl (hb hby at_138) rfl ((if0 _ _).trans (teq (by decide : (0 : Int32) = (0 : Int32))).1) (by decide) (by decide) ?_
            refine XS.iload X146.here hx rfl (hb hby at_149) rfl ?_
            show Steps p.tables e below (T146.setTop (mkF m 151 #[.val (.int p1), .val (.int p2), .val (.int p3), .val (.int p4), .val (.int (Int32.ofNat ia)), .val (.int (Int32.ofNat ib)), .val (.int (((p4.toUInt32 >>> ((3 : Int32) &&& 31).toUInt32).toInt32) &&& (3 : Int32))), .val (.int (Int32.ofNat iq)), .val (.int (0 : Int32)), .val (.int (0 : Int32)), .val (.int (0 : Int32)), .val (.ref b143), .unset] [(.int (0 : Int32))])) t
            refine XS.ifYes X146.here hx rfl (pc0 := 151) (pc' := 162) rfl (hb hby at_151) rfl ((if0 _ _).trans (teq (by decide : (0 : Int32) = (0 : Int32))).1) (by decide) (by decide) ?_
            refine XS.iload X146.here hx rfl (hb hby at_162) rfl ?_
            refine XS.ifYes X146.here hx rfl (pc0 := 164) (pc' := 175) rfl (hb hby at_164) rfl ((if0 _ _).trans (teq (by decide : (0 : Int32) = (0 : Int32))).1) (by decide) (by decide) ?_
            exact k
          by_cases hc148 : (Int32.ofNat iq) = (Int32.ofNat ia)
          · skip
            by_cases hc149 : (Int32.ofNat iq) = (Int32.ofNat ib)
            · skip
              have n_ia : iq = ia := (own_eq (Nat.lt_of_le_of_lt h_iq (by decide)) (Nat.lt_of_le_of_lt h_ia (by decide))).1 hc148
              have n_ib : iq = ib := (own_eq (Nat.lt_of_le_of_lt h_iq (by decide)) (Nat.lt_of_le_of_lt h_ib (by decide))).1 hc149
              refine WP.st (T' := T146) (f' := (mkF m 222 #[.val (.int p1), .val (.int p2), .val (.int p3), .val (.int p4), .val (.int (Int32.ofNat ia)), .val (.int (Int32.ofNat ib)), .val (.int (((p4.toUInt32 >>> ((3 : Int32) &&& 31).toUInt32).toInt32) &&& (3 : Int32))), .val (.int (Int32.ofNat iq)), .val (.int (0 : Int32)), .val (.int (0 : Int32)), .val (.int (0 : Int32)), .val (.ref b143), .val (.int (0 : Int32))] [(.int (Int32.ofNat iq)), (.ref b143)])) (fun t k => ?_) ?_
              · refine XS.iload X146.here hx rfl (hb hby at_175) rfl ?_
                refine XS.ifYes X146.here hx rfl (pc0 := 177) (pc' := 187) rfl (hb hby at_177) rfl ((if0 _ _).trans (teq (by decide : (0 : Int32) = (0 : Int32))).1) (by decide) (by decide) ?_
                refine XS.iload X146.here hx rfl (hb hby at_187) rfl ?_
                refine XS.ifYes X146.here hx rfl (pc0 := 189) (pc' := 215) rfl (hb hby at_189) rfl ((if0 _ _).trans (teq (by decide : (0 : Int32) = (0 : Int32))).1) (by decide) (by decide) ?_
                show Steps p.tables e below (T146.setTop (mkF m 215 #[.val (.int p1), .val (.int p2), .val (.int p3), .val (.int p4), .val (.int (Int32.ofNat ia)), .val (.int (Int32.ofNat ib)), .val (.int (((p4.toUInt32 >>> ((3 : Int32) &&& 31).toUInt32).toInt32) &&& (3 : Int32))), .val (.int (Int32.ofNat iq)), .val (.int (0 : Int32)), .val (.int (0 : Int32)), .val (.int (0 : Int32)), .val (.ref b143), .unset] [])) t
                refine XS.iconst X146.here hx rfl (hb hby at_215) ?_
                refine XS.istore X146.here hx rfl (hb hby at_216) rfl (l' := #[.val (.int p1), .val (.int p2), .val (.int p3), .val (.int p4), .val (.int (Int32.ofNat ia)), .val (.int (Int32.ofNat ib)), .val (.int (((p4.toUInt32 >>> ((3 : Int32) &&& 31).toUInt32).toInt32) &&& (3 : Int32))), .val (.int (Int32.ofNat iq)), .val (.int (0 : Int32)), .val (.int (0 : Int32)), .val (.int (0 : Int32)), .val (.ref b143), .val (.int (0 : Int32))]) rfl ?_
                refine XS.aload X146.here hx rfl (hb hby at_218) rfl rfl ?_
                refine XS.iload X146.here hx rfl (hb hby at_220) rfl ?_
                exact k
              obtain ⟨cq150, kq150, q150a, q150b, q150c⟩ := isOf hZ Kq146 E_b143
              obtain ⟨_, _, ⟨T150, L150, k150, n150⟩, -, X150, ⟨Lc150, hQ150, l150, y150, z150⟩, st150⟩ := X146.virtualBack hx (y := (⟨"com/example/otayori/otayori/codec/PacketIds", "isHeld", "(I)Z"⟩ : MethodName)) (z := (⟨"com/example/otayori/otayori/codec/PacketIds", "isHeld", "(I)Z"⟩ : MethodName)) hown (mvT hZ (w_17 hw)) (mvT hZ (w_18 hw)) (notFace_of_selects (args := #[]) (mvT hZ (w_20 hw))) (mvT hZ (w_20 hw)) (mvT hZ (w_19 hw)) (by decide) (backOf (W := 0) (rm4n l Z a0 hw [] b143 iq h144 n0 Z0 F_b143_held) hZ (w_21 hw) (w_8 hw) (by decide) (by decide)) q150a q150c (g := (mkF m 222 #[.val (.int p1), .val (.int p2), .val (.int p3), .val (.int p4), .val (.int (Int32.ofNat ia)), .val (.int (Int32.ofNat ib)), .val (.int (((p4.toUInt32 >>> ((3 : Int32) &&& 31).toUInt32).toInt32) &&& (3 : Int32))), .val (.int (Int32.ofNat iq)), .val (.int (0 : Int32)), .val (.int (0 : Int32)), .val (.int (0 : Int32)), .val (.ref b143), .val (.int (0 : Int32))] [(.int (Int32.ofNat iq)), (.ref b143)])) rfl (by rw [hml]; rfl) (Steps.refl _) (argsL := [(.int (Int32.ofNat iq))]) (rest := []) (lenOf pd_5 rfl) rfl (by show 2 * 0 + _ ≤ _; exact Nat.le_of_eq rfl) (hb hby at_222) (fun _ _ => ⟨rfl, Kq146, (by decide : 1 + 0 ≤ _), (by decide : 3 + 0 ≤ _)⟩)
              dsimp only [Pt.U, Pt.locs, Pt.cells, Pt.slots] at X150 l150 y150 z150 st150 hQ150
              subst l150 y150 z150
              obtain ⟨rfl, Nq150, Kq150⟩ := hQ150
              replace NF := Fr.app NF Nq150
              clear Nq150
              refine WP.tr st150 ?_
              clear st150
              replace Kq150 := Kq150.trans (rfl : h144 = h144)
              have hXN : ∃ LL, Stand p l e room_1 s m #[(.int p1), (.int p2), (.int p3), (.int p4)] below meth c T150 LL 1 3 ∧ Fr n0 LL := ⟨_, X150, NF⟩
              clear X150 NF
              obtain ⟨LL151, X150, NF⟩ := hXN
              show WP p.tables e below _ T150 (mkF m 225 #[.val (.int p1), .val (.int p2), .val (.int p3), .val (.int p4), .val (.int (Int32.ofNat ia)), .val (.int (Int32.ofNat ib)), .val (.int (((p4.toUInt32 >>> ((3 : Int32) &&& 31).toUInt32).toInt32) &&& (3 : Int32))), .val (.int (Int32.ofNat iq)), .val (.int (0 : Int32)), .val (.int (0 : Int32)), .val (.int (0 : Int32)), .val (.ref b143), .val (.int (0 : Int32))] [(.int (0 : Int32))])
              refine WP.st (T' := T150) (f' := (mkF m 235 #[.val (.int p1), .val (.int p2), .val (.int p3), .val (.int p4), .val (.int (Int32.ofNat ia)), .val (.int (Int32.ofNat ib)), .val (.int (((p4.toUInt32 >>> ((3 : Int32) &&& 31).toUInt32).toInt32) &&& (3 : Int32))), .val (.int (Int32.ofNat iq)), .val (.int (0 : Int32)), .val (.int (0 : Int32)), .val (.int (0 : Int32)), .val (.ref b143), .val (.int (0 : Int32))] [(.int (1 : Int32))])) (fun t k => ?_) ?_
              · refine XS.iload X150.here hx rfl (hb hby at_225) rfl ?_
                refine XS.icmpNo X150.here hx rfl (hb hby at_227) rfl (teq (by decide : (0 : Int32) = (0 : Int32))).2 ?_
                refine XS.iconst X150.here hx rfl (hb hby at_230) ?_
                refine XS.goto X150.here hx rfl (pc0 := 231) (pc' := 235) rfl (hb hby at_231) (by decide) (by decide) ?_
                exact k
              subst hG
              obtain ⟨fs, hr, hrun, hended, hW, hsame⟩ := X150.leave (v := some (.int (1 : Int32))) (fun h => by rw [Bd.returns] at h; cases h)
              refine WP.fin ⟨_, _, ?_, hrun, hended, _, _, rfl, ?_, ⟨_, rfl⟩, hW, hsame.mono (by decide) (by decide)⟩
              · exact retN X150 hx (t := .boolean) Bd.returns (by simp) (hb hby at_235) hr
              · show Q0 Z p1 p2 p3 p4 h0 n0 _ T150.heap _
                rw [Kq150]
                exact ⟨rfl, NF⟩
            · skip
              have n_ia : iq = ia := (own_eq (Nat.lt_of_le_of_lt h_iq (by decide)) (Nat.lt_of_le_of_lt h_ia (by decide))).1 hc148
              have n_ib : ¬ iq = ib := fun q => hc149 (congrArg Int32.ofNat q)
              refine WP.st (T' := T146) (f' := (mkF m 222 #[.val (.int p1), .val (.int p2), .val (.int p3), .val (.int p4), .val (.int (Int32.ofNat ia)), .val (.int (Int32.ofNat ib)), .val (.int (((p4.toUInt32 >>> ((3 : Int32) &&& 31).toUInt32).toInt32) &&& (3 : Int32))), .val (.int (Int32.ofNat iq)), .val (.int (0 : Int32)), .val (.int (0 : Int32)), .val (.int (0 : Int32)), .val (.ref b143), .val (.int (0 : Int32))] [(.int (Int32.ofNat iq)), (.ref b143)])) (fun t k => ?_) ?_
              · refine XS.iload X146.here hx rfl (hb hby at_175) rfl ?_
                refine XS.ifYes X146.here hx rfl (pc0 := 177) (pc' := 187) rfl (hb hby at_177) rfl ((if0 _ _).trans (teq (by decide : (0 : Int32) = (0 : Int32))).1) (by decide) (by decide) ?_
                refine XS.iload X146.here hx rfl (hb hby at_187) rfl ?_
                refine XS.ifYes X146.here hx rfl (pc0 := 189) (pc' := 215) rfl (hb hby at_189) rfl ((if0 _ _).trans (teq (by decide : (0 : Int32) = (0 : Int32))).1) (by decide) (by decide) ?_
                show Steps p.tables e below (T146.setTop (mkF m 215 #[.val (.int p1), .val (.int p2), .val (.int p3), .val (.int p4), .val (.int (Int32.ofNat ia)), .val (.int (Int32.ofNat ib)), .val (.int (((p4.toUInt32 >>> ((3 : Int32) &&& 31).toUInt32).toInt32) &&& (3 : Int32))), .val (.int (Int32.ofNat iq)), .val (.int (0 : Int32)), .val (.int (0 : Int32)), .val (.int (0 : Int32)), .val (.ref b143), .unset] [])) t
                refine XS.iconst X146.here hx rfl (hb hby at_215) ?_
                refine XS.istore X146.here hx rfl (hb hby at_216) rfl (l' := #[.val (.int p1), .val (.int p2), .val (.int p3), .val (.int p4), .val (.int (Int32.ofNat ia)), .val (.int (Int32.ofNat ib)), .val (.int (((p4.toUInt32 >>> ((3 : Int32) &&& 31).toUInt32).toInt32) &&& (3 : Int32))), .val (.int (Int32.ofNat iq)), .val (.int (0 : Int32)), .val (.int (0 : Int32)), .val (.int (0 : Int32)), .val (.ref b143), .val (.int (0 : Int32))]) rfl ?_
                refine XS.aload X146.here hx rfl (hb hby at_218) rfl rfl ?_
                refine XS.iload X146.here hx rfl (hb hby at_220) rfl ?_
                exact k
              obtain ⟨cq152, kq152, q152a, q152b, q152c⟩ := isOf hZ Kq146 E_b143
              obtain ⟨_, _, ⟨T152, L152, k152, n152⟩, -, X152, ⟨Lc152, hQ152, l152, y152, z152⟩, st152⟩ := X146.virtualBack hx (y := (⟨"com/example/otayori/otayori/codec/PacketIds", "isHeld", "(I)Z"⟩ : MethodName)) (z := (⟨"com/example/otayori/otayori/codec/PacketIds", "isHeld", "(I)Z"⟩ : MethodName)) hown (mvT hZ (w_17 hw)) (mvT hZ (w_18 hw)) (notFace_of_selects (args := #[]) (mvT hZ (w_20 hw))) (mvT hZ (w_20 hw)) (mvT hZ (w_19 hw)) (by decide) (backOf (W := 0) (rm4n l Z a0 hw [] b143 iq h144 n0 Z0 F_b143_held) hZ (w_21 hw) (w_8 hw) (by decide) (by decide)) q152a q152c (g := (mkF m 222 #[.val (.int p1), .val (.int p2), .val (.int p3), .val (.int p4), .val (.int (Int32.ofNat ia)), .val (.int (Int32.ofNat ib)), .val (.int (((p4.toUInt32 >>> ((3 : Int32) &&& 31).toUInt32).toInt32) &&& (3 : Int32))), .val (.int (Int32.ofNat iq)), .val (.int (0 : Int32)), .val (.int (0 : Int32)), .val (.int (0 : Int32)), .val (.ref b143), .val (.int (0 : Int32))] [(.int (Int32.ofNat iq)), (.ref b143)])) rfl (by rw [hml]; rfl) (Steps.refl _) (argsL := [(.int (Int32.ofNat iq))]) (rest := []) (lenOf pd_5 rfl) rfl (by show 2 * 0 + _ ≤ _; exact Nat.le_of_eq rfl) (hb hby at_222) (fun _ _ => ⟨rfl, Kq146, (by decide : 1 + 0 ≤ _), (by decide : 3 + 0 ≤ _)⟩)
              dsimp only [Pt.U, Pt.locs, Pt.cells, Pt.slots] at X152 l152 y152 z152 st152 hQ152
              subst l152 y152 z152
              obtain ⟨rfl, Nq152, Kq152⟩ := hQ152
              replace NF := Fr.app NF Nq152
              clear Nq152
              refine WP.tr st152 ?_
              clear st152
              replace Kq152 := Kq152.trans (rfl : h144 = h144)
              have hXN : ∃ LL, Stand p l e room_1 s m #[(.int p1), (.int p2), (.int p3), (.int p4)] below meth c T152 LL 1 3 ∧ Fr n0 LL := ⟨_, X152, NF⟩
              clear X152 NF
              obtain ⟨LL153, X152, NF⟩ := hXN
              show WP p.tables e below _ T152 (mkF m 225 #[.val (.int p1), .val (.int p2), .val (.int p3), .val (.int p4), .val (.int (Int32.ofNat ia)), .val (.int (Int32.ofNat ib)), .val (.int (((p4.toUInt32 >>> ((3 : Int32) &&& 31).toUInt32).toInt32) &&& (3 : Int32))), .val (.int (Int32.ofNat iq)), .val (.int (0 : Int32)), .val (.int (0 : Int32)), .val (.int (0 : Int32)), .val (.ref b143), .val (.int (0 : Int32))] [(.int (0 : Int32))])
              refine WP.st (T' := T152) (f' := (mkF m 235 #[.val (.int p1), .val (.int p2), .val (.int p3), .val (.int p4), .val (.int (Int32.ofNat ia)), .val (.int (Int32.ofNat ib)), .val (.int (((p4.toUInt32 >>> ((3 : Int32) &&& 31).toUInt32).toInt32) &&& (3 : Int32))), .val (.int (Int32.ofNat iq)), .val (.int (0 : Int32)), .val (.int (0 : Int32)), .val (.int (0 : Int32)), .val (.ref b143), .val (.int (0 : Int32))] [(.int (1 : Int32))])) (fun t k => ?_) ?_
              · refine XS.iload X152.here hx rfl (hb hby at_225) rfl ?_
                refine XS.icmpNo X152.here hx rfl (hb hby at_227) rfl (teq (by decide : (0 : Int32) = (0 : Int32))).2 ?_
                refine XS.iconst X152.here hx rfl (hb hby at_230) ?_
                refine XS.goto X152.here hx rfl (pc0 := 231) (pc' := 235) rfl (hb hby at_231) (by decide) (by decide) ?_
                exact k
              subst hG
              obtain ⟨fs, hr, hrun, hended, hW, hsame⟩ := X152.leave (v := some (.int (1 : Int32))) (fun h => by rw [Bd.returns] at h; cases h)
              refine WP.fin ⟨_, _, ?_, hrun, hended, _, _, rfl, ?_, ⟨_, rfl⟩, hW, hsame.mono (by decide) (by decide)⟩
              · exact retN X152 hx (t := .boolean) Bd.returns (by simp) (hb hby at_235) hr
              · show Q0 Z p1 p2 p3 p4 h0 n0 _ T152.heap _
                rw [Kq152]
                exact ⟨rfl, NF⟩
          · skip
            by_cases hc154 : (Int32.ofNat iq) = (Int32.ofNat ib)
            · skip
              have n_ia : ¬ iq = ia := fun q => hc148 (congrArg Int32.ofNat q)
              have n_ib : iq = ib := (own_eq (Nat.lt_of_le_of_lt h_iq (by decide)) (Nat.lt_of_le_of_lt h_ib (by decide))).1 hc154
              refine WP.st (T' := T146) (f' := (mkF m 222 #[.val (.int p1), .val (.int p2), .val (.int p3), .val (.int p4), .val (.int (Int32.ofNat ia)), .val (.int (Int32.ofNat ib)), .val (.int (((p4.toUInt32 >>> ((3 : Int32) &&& 31).toUInt32).toInt32) &&& (3 : Int32))), .val (.int (Int32.ofNat iq)), .val (.int (0 : Int32)), .val (.int (0 : Int32)), .val (.int (0 : Int32)), .val (.ref b143), .val (.int (0 : Int32))] [(.int (Int32.ofNat iq)), (.ref b143)])) (fun t k => ?_) ?_
              · refine XS.iload X146.here hx rfl (hb hby at_175) rfl ?_
                refine XS.ifYes X146.here hx rfl (pc0 := 177) (pc' := 187) rfl (hb hby at_177) rfl ((if0 _ _).trans (teq (by decide : (0 : Int32) = (0 : Int32))).1) (by decide) (by decide) ?_
                refine XS.iload X146.here hx rfl (hb hby at_187) rfl ?_
                refine XS.ifYes X146.here hx rfl (pc0 := 189) (pc' := 215) rfl (hb hby at_189) rfl ((if0 _ _).trans (teq (by decide : (0 : Int32) = (0 : Int32))).1) (by decide) (by decide) ?_
                show Steps p.tables e below (T146.setTop (mkF m 215 #[.val (.int p1), .val (.int p2), .val (.int p3), .val (.int p4), .val (.int (Int32.ofNat ia)), .val (.int (Int32.ofNat ib)), .val (.int (((p4.toUInt32 >>> ((3 : Int32) &&& 31).toUInt32).toInt32) &&& (3 : Int32))), .val (.int (Int32.ofNat iq)), .val (.int (0 : Int32)), .val (.int (0 : Int32)), .val (.int (0 : Int32)), .val (.ref b143), .unset] [])) t
                refine XS.iconst X146.here hx rfl (hb hby at_215) ?_
                refine XS.istore X146.here hx rfl (hb hby at_216) rfl (l' := #[.val (.int p1), .val (.int p2), .val (.int p3), .val (.int p4), .val (.int (Int32.ofNat ia)), .val (.int (Int32.ofNat ib)), .val (.int (((p4.toUInt32 >>> ((3 : Int32) &&& 31).toUInt32).toInt32) &&& (3 : Int32))), .val (.int (Int32.ofNat iq)), .val (.int (0 : Int32)), .val (.int (0 : Int32)), .val (.int (0 : Int32)), .val (.ref b143), .val (.int (0 : Int32))]) rfl ?_
                refine XS.aload X146.here hx rfl (hb hby at_218) rfl rfl ?_
                refine XS.iload X146.here hx rfl (hb hby at_220) rfl ?_
                exact k
              obtain ⟨cq155, kq155, q155a, q155b, q155c⟩ := isOf hZ Kq146 E_b143
              obtain ⟨_, _, ⟨T155, L155, k155, n155⟩, -, X155, ⟨Lc155, hQ155, l155, y155, z155⟩, st155⟩ := X146.virtualBack hx (y := (⟨"com/example/otayori/otayori/codec/PacketIds", "isHeld", "(I)Z"⟩ : MethodName)) (z := (⟨"com/example/otayori/otayori/codec/PacketIds", "isHeld", "(I)Z"⟩ : MethodName)) hown (mvT hZ (w_17 hw)) (mvT hZ (w_18 hw)) (notFace_of_selects (args := #[]) (mvT hZ (w_20 hw))) (mvT hZ (w_20 hw)) (mvT hZ (w_19 hw)) (by decide) (backOf (W := 0) (rm4n l Z a0 hw [] b143 iq h144 n0 Z0 F_b143_held) hZ (w_21 hw) (w_8 hw) (by decide) (by decide)) q155a q155c (g := (mkF m 222 #[.val (.int p1), .val (.int p2), .val (.int p3), .val (.int p4), .val (.int (Int32.ofNat ia)), .val (.int (Int32.ofNat ib)), .val (.int (((p4.toUInt32 >>> ((3 : Int32) &&& 31).toUInt32).toInt32) &&& (3 : Int32))), .val (.int (Int32.ofNat iq)), .val (.int (0 : Int32)), .val (.int (0 : Int32)), .val (.int (0 : Int32)), .val (.ref b143), .val (.int (0 : Int32))] [(.int (Int32.ofNat iq)), (.ref b143)])) rfl (by rw [hml]; rfl) (Steps.refl _) (argsL := [(.int (Int32.ofNat iq))]) (rest := []) (lenOf pd_5 rfl) rfl (by show 2 * 0 + _ ≤ _; exact Nat.le_of_eq rfl) (hb hby at_222) (fun _ _ => ⟨rfl, Kq146, (by decide : 1 + 0 ≤ _), (by decide : 3 + 0 ≤ _)⟩)
              dsimp only [Pt.U, Pt.locs, Pt.cells, Pt.slots] at X155 l155 y155 z155 st155 hQ155
              subst l155 y155 z155
              obtain ⟨rfl, Nq155, Kq155⟩ := hQ155
              replace NF := Fr.app NF Nq155
              clear Nq155
              refine WP.tr st155 ?_
              clear st155
              replace Kq155 := Kq155.trans (rfl : h144 = h144)
              have hXN : ∃ LL, Stand p l e room_1 s m #[(.int p1), (.int p2), (.int p3), (.int p4)] below meth c T155 LL 1 3 ∧ Fr n0 LL := ⟨_, X155, NF⟩
              clear X155 NF
              obtain ⟨LL156, X155, NF⟩ := hXN
              show WP p.tables e below _ T155 (mkF m 225 #[.val (.int p1), .val (.int p2), .val (.int p3), .val (.int p4), .val (.int (Int32.ofNat ia)), .val (.int (Int32.ofNat ib)), .val (.int (((p4.toUInt32 >>> ((3 : Int32) &&& 31).toUInt32).toInt32) &&& (3 : Int32))), .val (.int (Int32.ofNat iq)), .val (.int (0 : Int32)), .val (.int (0 : Int32)), .val (.int (0 : Int32)), .val (.ref b143), .val (.int (0 : Int32))] [(.int (0 : Int32))])
              refine WP.st (T' := T155) (f' := (mkF m 235 #[.val (.int p1), .val (.int p2), .val (.int p3), .val (.int p4), .val (.int (Int32.ofNat ia)), .val (.int (Int32.ofNat ib)), .val (.int (((p4.toUInt32 >>> ((3 : Int32) &&& 31).toUInt32).toInt32) &&& (3 : Int32))), .val (.int (Int32.ofNat iq)), .val (.int (0 : Int32)), .val (.int (0 : Int32)), .val (.int (0 : Int32)), .val (.ref b143), .val (.int (0 : Int32))] [(.int (1 : Int32))])) (fun t k => ?_) ?_
              · refine XS.iload X155.here hx rfl (hb hby at_225) rfl ?_
                refine XS.icmpNo X155.here hx rfl (hb hby at_227) rfl (teq (by decide : (0 : Int32) = (0 : Int32))).2 ?_
                refine XS.iconst X155.here hx rfl (hb hby at_230) ?_
                refine XS.goto X155.here hx rfl (pc0 := 231) (pc' := 235) rfl (hb hby at_231) (by decide) (by decide) ?_
                exact k
              subst hG
              obtain ⟨fs, hr, hrun, hended, hW, hsame⟩ := X155.leave (v := some (.int (1 : Int32))) (fun h => by rw [Bd.returns] at h; cases h)
              refine WP.fin ⟨_, _, ?_, hrun, hended, _, _, rfl, ?_, ⟨_, rfl⟩, hW, hsame.mono (by decide) (by decide)⟩
              · exact retN X155 hx (t := .boolean) Bd.returns (by simp) (hb hby at_235) hr
              · show Q0 Z p1 p2 p3 p4 h0 n0 _ T155.heap _
                rw [Kq155]
                exact ⟨rfl, NF⟩
            · skip
              have n_ia : ¬ iq = ia := fun q => hc148 (congrArg Int32.ofNat q)
              have n_ib : ¬ iq = ib := fun q => hc154 (congrArg Int32.ofNat q)
              refine WP.st (T' := T146) (f' := (mkF m 222 #[.val (.int p1), .val (.int p2), .val (.int p3), .val (.int p4), .val (.int (Int32.ofNat ia)), .val (.int (Int32.ofNat ib)), .val (.int (((p4.toUInt32 >>> ((3 : Int32) &&& 31).toUInt32).toInt32) &&& (3 : Int32))), .val (.int (Int32.ofNat iq)), .val (.int (0 : Int32)), .val (.int (0 : Int32)), .val (.int (0 : Int32)), .val (.ref b143), .val (.int (0 : Int32))] [(.int (Int32.ofNat iq)), (.ref b143)])) (fun t k => ?_) ?_
              · refine XS.iload X146.here hx rfl (hb hby at_175) rfl ?_
                refine XS.ifYes X146.here hx rfl (pc0 := 177) (pc' := 187) rfl (hb hby at_177) rfl ((if0 _ _).trans (teq (by decide : (0 : Int32) = (0 : Int32))).1) (by decide) (by decide) ?_
                refine XS.iload X146.here hx rfl (hb hby at_187) rfl ?_
                refine XS.ifYes X146.here hx rfl (pc0 := 189) (pc' := 215) rfl (hb hby at_189) rfl ((if0 _ _).trans (teq (by decide : (0 : Int32) = (0 : Int32))).1) (by decide) (by decide) ?_
                show Steps p.tables e below (T146.setTop (mkF m 215 #[.val (.int p1), .val (.int p2), .val (.int p3), .val (.int p4), .val (.int (Int32.ofNat ia)), .val (.int (Int32.ofNat ib)), .val (.int (((p4.toUInt32 >>> ((3 : Int32) &&& 31).toUInt32).toInt32) &&& (3 : Int32))), .val (.int (Int32.ofNat iq)), .val (.int (0 : Int32)), .val (.int (0 : Int32)), .val (.int (0 : Int32)), .val (.ref b143), .unset] [])) t
                refine XS.iconst X146.here hx rfl (hb hby at_215) ?_
                refine XS.istore X146.here hx rfl (hb hby at_216) rfl (l' := #[.val (.int p1), .val (.int p2), .val (.int p3), .val (.int p4), .val (.int (Int32.ofNat ia)), .val (.int (Int32.ofNat ib)), .val (.int (((p4.toUInt32 >>> ((3 : Int32) &&& 31).toUInt32).toInt32) &&& (3 : Int32))), .val (.int (Int32.ofNat iq)), .val (.int (0 : Int32)), .val (.int (0 : Int32)), .val (.int (0 : Int32)), .val (.ref b143), .val (.int (0 : Int32))]) rfl ?_
                refine XS.aload X146.here hx rfl (hb hby at_218) rfl rfl ?_
                refine XS.iload X146.here hx rfl (hb hby at_220) rfl ?_
                exact k
              obtain ⟨cq157, kq157, q157a, q157b, q157c⟩ := isOf hZ Kq146 E_b143
              obtain ⟨_, _, ⟨T157, L157, k157, n157⟩, -, X157, ⟨Lc157, hQ157, l157, y157, z157⟩, st157⟩ := X146.virtualBack hx (y := (⟨"com/example/otayori/otayori/codec/PacketIds", "isHeld", "(I)Z"⟩ : MethodName)) (z := (⟨"com/example/otayori/otayori/codec/PacketIds", "isHeld", "(I)Z"⟩ : MethodName)) hown (mvT hZ (w_17 hw)) (mvT hZ (w_18 hw)) (notFace_of_selects (args := #[]) (mvT hZ (w_20 hw))) (mvT hZ (w_20 hw)) (mvT hZ (w_19 hw)) (by decide) (backOf (W := 0) (rm4n l Z a0 hw [] b143 iq h144 n0 Z0 F_b143_held) hZ (w_21 hw) (w_8 hw) (by decide) (by decide)) q157a q157c (g := (mkF m 222 #[.val (.int p1), .val (.int p2), .val (.int p3), .val (.int p4), .val (.int (Int32.ofNat ia)), .val (.int (Int32.ofNat ib)), .val (.int (((p4.toUInt32 >>> ((3 : Int32) &&& 31).toUInt32).toInt32) &&& (3 : Int32))), .val (.int (Int32.ofNat iq)), .val (.int (0 : Int32)), .val (.int (0 : Int32)), .val (.int (0 : Int32)), .val (.ref b143), .val (.int (0 : Int32))] [(.int (Int32.ofNat iq)), (.ref b143)])) rfl (by rw [hml]; rfl) (Steps.refl _) (argsL := [(.int (Int32.ofNat iq))]) (rest := []) (lenOf pd_5 rfl) rfl (by show 2 * 0 + _ ≤ _; exact Nat.le_of_eq rfl) (hb hby at_222) (fun _ _ => ⟨rfl, Kq146, (by decide : 1 + 0 ≤ _), (by decide : 3 + 0 ≤ _)⟩)
              dsimp only [Pt.U, Pt.locs, Pt.cells, Pt.slots] at X157 l157 y157 z157 st157 hQ157
              subst l157 y157 z157
              obtain ⟨rfl, Nq157, Kq157⟩ := hQ157
              replace NF := Fr.app NF Nq157
              clear Nq157
              refine WP.tr st157 ?_
              clear st157
              replace Kq157 := Kq157.trans (rfl : h144 = h144)
              have hXN : ∃ LL, Stand p l e room_1 s m #[(.int p1), (.int p2), (.int p3), (.int p4)] below meth c T157 LL 1 3 ∧ Fr n0 LL := ⟨_, X157, NF⟩
              clear X157 NF
              obtain ⟨LL158, X157, NF⟩ := hXN
              show WP p.tables e below _ T157 (mkF m 225 #[.val (.int p1), .val (.int p2), .val (.int p3), .val (.int p4), .val (.int (Int32.ofNat ia)), .val (.int (Int32.ofNat ib)), .val (.int (((p4.toUInt32 >>> ((3 : Int32) &&& 31).toUInt32).toInt32) &&& (3 : Int32))), .val (.int (Int32.ofNat iq)), .val (.int (0 : Int32)), .val (.int (0 : Int32)), .val (.int (0 : Int32)), .val (.ref b143), .val (.int (0 : Int32))] [(.int (0 : Int32))])
              refine WP.st (T' := T157) (f' := (mkF m 235 #[.val (.int p1), .val (.int p2), .val (.int p3), .val (.int p4), .val (.int (Int32.ofNat ia)), .val (.int (Int32.ofNat ib)), .val (.int (((p4.toUInt32 >>> ((3 : Int32) &&& 31).toUInt32).toInt32) &&& (3 : Int32))), .val (.int (Int32.ofNat iq)), .val (.int (0 : Int32)), .val (.int (0 : Int32)), .val (.int (0 : Int32)), .val (.ref b143), .val (.int (0 : Int32))] [(.int (1 : Int32))])) (fun t k => ?_) ?_
              · refine XS.iload X157.here hx rfl (hb hby at_225) rfl ?_
                refine XS.icmpNo X157.here hx rfl (hb hby at_227) rfl (teq (by decide : (0 : Int32) = (0 : Int32))).2 ?_
                refine XS.iconst X157.here hx rfl (hb hby at_230) ?_
                refine XS.goto X157.here hx rfl (pc0 := 231) (pc' := 235) rfl (hb hby at_231) (by decide) (by decide) ?_
                exact k
              subst hG
              obtain ⟨fs, hr, hrun, hended, hW, hsame⟩ := X157.leave (v := some (.int (1 : Int32))) (fun h => by rw [Bd.returns] at h; cases h)
              refine WP.fin ⟨_, _, ?_, hrun, hended, _, _, rfl, ?_, ⟨_, rfl⟩, hW, hsame.mono (by decide) (by decide)⟩
              · exact retN X157 hx (t := .boolean) Bd.returns (by simp) (hb hby at_235) hr
              · show Q0 Z p1 p2 p3 p4 h0 n0 _ T157.heap _
                rw [Kq157]
                exact ⟨rfl, NF⟩
        · skip
          refine WP.st (T' := Tj139) (f' := (mkF m 115 #[.val (.int p1), .val (.int p2), .val (.int p3), .val (.int p4), .val (.int (Int32.ofNat ia)), .val (.int (Int32.ofNat ib)), .val (.int (((p4.toUInt32 >>> ((3 : Int32) &&& 31).toUInt32).toInt32) &&& (3 : Int32))), .val (.int (Int32.ofNat iq)), .val (.int (0 : Int32)), .val (.int (0 : Int32)), .val (.int (1 : Int32)), .unset, .unset] [])) (fun t k => ?_) ?_
          · refine XS.ifNo X139.here hx rfl (hb hby at_105) rfl ((if0 _ _).trans (feq hc142).1) ?_
            refine XS.iconst X139.here hx rfl (hb hby at_108) ?_
            refine XS.goto X139.here hx rfl (pc0 := 109) (pc' := 113) rfl (hb hby at_109) (by decide) (by decide) ?_
            refine XS.istore X139.here hx rfl (hb hby at_113) rfl (l' := #[.val (.int p1), .val (.int p2), .val (.int p3), .val (.int p4), .val (.int (Int32.ofNat ia)), .val (.int (Int32.ofNat ib)), .val (.int (((p4.toUInt32 >>> ((3 : Int32) &&& 31).toUInt32).toInt32) &&& (3 : Int32))), .val (.int (Int32.ofNat iq)), .val (.int (0 : Int32)), .val (.int (0 : Int32)), .val (.int (1 : Int32)), .unset, .unset]) rfl ?_
            exact k
          obtain ⟨T159, h159, X159, e159, E159, A159, D159, -, st159⟩ := newO X139 hx hZ hown (w_6 hw) (w_7 hw) (w_8 hw) ej139 (g := (mkF m 115 #[.val (.int p1), .val (.int p2), .val (.int p3), .val (.int p4), .val (.int (Int32.ofNat ia)), .val (.int (Int32.ofNat ib)), .val (.int (((p4.toUInt32 >>> ((3 : Int32) &&& 31).toUInt32).toInt32) &&& (3 : Int32))), .val (.int (Int32.ofNat iq)), .val (.int (0 : Int32)), .val (.int (0 : Int32)), .val (.int (1 : Int32)), .unset, .unset] [])) rfl (hb hby at_115) (by decide) (by decide)
          obtain ⟨b159, g159⟩ : ∃ z, z = h0.size := ⟨_, rfl⟩
          rw [← g159] at A159 D159 st159
          refine WP.st st159 ?_
          clear st159
          have g_b159 : n0 ≤ b159 := Nat.le_trans Z0 (Nat.le_of_eq g159.symm)
          replace OLD := OLD.ext E159
          replace Z0 := Nat.le_trans Z0 E159.1
          have E_b159 := A159
          have F_b159_next : Fld Z h159 b159 "com/example/otayori/otayori/codec/PacketIds" "next" "I" (.int (0 : Int32)) := D159 (Or.inl (w_16 hw)) (ty := .int) (by decide)
          have F_b159_held : Fld Z h159 b159 "com/example/otayori/otayori/codec/PacketIds" "held" "Ljava/util/BitSet;" .null := D159 (Or.inl (w_23 hw)) (ty := (.object "java/util/BitSet")) (by decide)
          have F_b159_count : Fld Z h159 b159 "com/example/otayori/otayori/codec/PacketIds" "count" "I" (.int (0 : Int32)) := D159 (Or.inl (w_78 hw)) (ty := .int) (by decide)
          clear D159 A159
          show WP p.tables e below _ T159 (mkF m 118 #[.val (.int p1), .val (.int p2), .val (.int p3), .val (.int p4), .val (.int (Int32.ofNat ia)), .val (.int (Int32.ofNat ib)), .val (.int (((p4.toUInt32 >>> ((3 : Int32) &&& 31).toUInt32).toInt32) &&& (3 : Int32))), .val (.int (Int32.ofNat iq)), .val (.int (0 : Int32)), .val (.int (0 : Int32)), .val (.int (1 : Int32)), .unset, .unset] [(.ref b159)])
          refine WP.st (T' := T159) (f' := (mkF m 119 #[.val (.int p1), .val (.int p2), .val (.int p3), .val (.int p4), .val (.int (Int32.ofNat ia)), .val (.int (Int32.ofNat ib)), .val (.int (((p4.toUInt32 >>> ((3 : Int32) &&& 31).toUInt32).toInt32) &&& (3 : Int32))), .val (.int (Int32.ofNat iq)), .val (.int (0 : Int32)), .val (.int (0 : Int32)), .val (.int (1 : Int32)), .unset, .unset] [(.ref b159), (.ref b159)])) (fun t k => ?_) ?_
          · refine XS.dup X159.here hx rfl (hb hby at_118) rfl rfl ?_
            exact k
          obtain ⟨_, _, ⟨T160, L160, k160, n160⟩, -, X160, ⟨Lc160, hQ160, l160, y160, z160⟩, st160⟩ := X159.specialBack hx (y := (⟨"com/example/otayori/otayori/codec/PacketIds", "<init>", "()V"⟩ : MethodName)) rfl hown (mvT hZ (w_9 hw)) (mvT hZ (w_10 hw)) (mvT hZ (w_11 hw)) (by decide) (backOf (W := 1) (rm2 l Z a0 hw [] b159 (0 : Int32) (0 : Int32) h159 n0 Z0 E_b159 g_b159 F_b159_held F_b159_count F_b159_next) hZ (w_11 hw) (w_8 hw) (by decide) (by decide)) (g := (mkF m 119 #[.val (.int p1), .val (.int p2), .val (.int p3), .val (.int p4), .val (.int (Int32.ofNat ia)), .val (.int (Int32.ofNat ib)), .val (.int (((p4.toUInt32 >>> ((3 : Int32) &&& 31).toUInt32).toInt32) &&& (3 : Int32))), .val (.int (Int32.ofNat iq)), .val (.int (0 : Int32)), .val (.int (0 : Int32)), .val (.int (1 : Int32)), .unset, .unset] [(.ref b159), (.ref b159)])) rfl (by rw [hml]; rfl) (Steps.refl _) (a := b159) (argsL := []) (rest := [(.ref b159)]) (lenOf pd_4 rfl) rfl (by show 2 * 0 + _ ≤ _; exact Nat.le_of_eq rfl) (hb hby at_119) (fun _ _ => ⟨rfl, e159, (by decide : 1 + 0 ≤ _), (by decide : 3 + 0 ≤ _)⟩)
          dsimp only [Pt.U, Pt.locs, Pt.cells, Pt.slots] at X160 l160 y160 z160 st160 hQ160
          subst l160 y160 z160
          obtain ⟨rfl, Nq160, Kq160, nF160_b159_held, nF160_b159_count, nF160_b159_next⟩ := hQ160
          replace NF := Fr.app NF Nq160
          clear Nq160
          refine WP.tr st160 ?_
          clear st160
          obtain ⟨h160, e160⟩ : ∃ h, T160.heap = h := ⟨_, rfl⟩
          rw [e160] at Kq160 nF160_b159_held nF160_b159_count nF160_b159_next
          replace OLD := OLD.keep Kq160 (allS g_b159 all0)
          replace E_b159 := E_b159.keep Kq160
          clear F_b159_next
          clear F_b159_held
          clear F_b159_count
          replace Z0 := Nat.le_trans Z0 Kq160.1
          clear Kq160
          have F_b159_held := nF160_b159_held
          clear nF160_b159_held
          have F_b159_count := nF160_b159_count
          clear nF160_b159_count
          have F_b159_next := nF160_b159_next
          clear nF160_b159_next
          have hXN : ∃ LL, Stand p l e room_1 s m #[(.int p1), (.int p2), (.int p3), (.int p4)] below meth c T160 LL 1 3 ∧ Fr n0 LL := ⟨_, X160, NF⟩
          clear X160 NF
          obtain ⟨LL161, X160, NF⟩ := hXN
          show WP p.tables e below _ T160 (mkF m 122 #[.val (.int p1), .val (.int p2), .val (.int p3), .val (.int p4), .val (.int (Int32.ofNat ia)), .val (.int (Int32.ofNat ib)), .val (.int (((p4.toUInt32 >>> ((3 : Int32) &&& 31).toUInt32).toInt32) &&& (3 : Int32))), .val (.int (Int32.ofNat iq)), .val (.int (0 : Int32)), .val (.int (0 : Int32)), .val (.int (1 : Int32)), .unset, .unset] [(.ref b159)])
          refine WP.st (T' := T160) (f' := (mkF m 128 #[.val (.int p1), .val (.int p2), .val (.int p3), .val (.int p4), .val (.int (Int32.ofNat ia)), .val (.int (Int32.ofNat ib)), .val (.int (((p4.toUInt32 >>> ((3 : Int32) &&& 31).toUInt32).toInt32) &&& (3 : Int32))), .val (.int (Int32.ofNat iq)), .val (.int (0 : Int32)), .val (.int (0 : Int32)), .val (.int (1 : Int32)), .val (.ref b159), .unset] [(.int (Int32.ofNat iq)), (.ref b159)])) (fun t k => ?_) ?_
          · refine XS.astore X160.here hx rfl (hb hby at_122) rfl rfl (l' := #[.val (.int p1), .val (.int p2), .val (.int p3), .val (.int p4), .val (.int (Int32.ofNat ia)), .val (.int (Int32.ofNat ib)), .val (.int (((p4.toUInt32 >>> ((3 : Int32) &&& 31).toUInt32).toInt32) &&& (3 : Int32))), .val (.int (Int32.ofNat iq)), .val (.int (0 : Int32)), .val (.int (0 : Int32)), .val (.int (1 : Int32)), .val (.ref b159), .unset]) rfl ?_
            refine XS.aload X160.here hx rfl (hb hby at_124) rfl rfl ?_
            refine XS.iload X160.here hx rfl (hb hby at_126) rfl ?_
            exact k
          obtain ⟨cq162, kq162, q162a, q162b, q162c⟩ := isOf hZ e160 E_b159
          obtain ⟨_, _, ⟨T162, L162, k162, n162⟩, -, X162, ⟨Lc162, hQ162, l162, y162, z162⟩, st162⟩ := X160.virtualBack hx (y := (⟨"com/example/otayori/otayori/codec/PacketIds", "isHeld", "(I)Z"⟩ : MethodName)) (z := (⟨"com/example/otayori/otayori/codec/PacketIds", "isHeld", "(I)Z"⟩ : MethodName)) hown (mvT hZ (w_17 hw)) (mvT hZ (w_18 hw)) (notFace_of_selects (args := #[]) (mvT hZ (w_20 hw))) (mvT hZ (w_20 hw)) (mvT hZ (w_19 hw)) (by decide) (backOf (W := 0) (rm4n l Z a0 hw [] b159 iq h160 n0 Z0 F_b159_held) hZ (w_21 hw) (w_8 hw) (by decide) (by decide)) q162a q162c (g := (mkF m 128 #[.val (.int p1), .val (.int p2), .val (.int p3), .val (.int p4), .val (.int (Int32.ofNat ia)), .val (.int (Int32.ofNat ib)), .val (.int (((p4.toUInt32 >>> ((3 : Int32) &&& 31).toUInt32).toInt32) &&& (3 : Int32))), .val (.int (Int32.ofNat iq)), .val (.int (0 : Int32)), .val (.int (0 : Int32)), .val (.int (1 : Int32)), .val (.ref b159), .unset] [(.int (Int32.ofNat iq)), (.ref b159)])) rfl (by rw [hml]; rfl) (Steps.refl _) (argsL := [(.int (Int32.ofNat iq))]) (rest := []) (lenOf pd_5 rfl) rfl (by show 2 * 0 + _ ≤ _; exact Nat.le_of_eq rfl) (hb hby at_128) (fun _ _ => ⟨rfl, e160, (by decide : 1 + 0 ≤ _), (by decide : 3 + 0 ≤ _)⟩)
          dsimp only [Pt.U, Pt.locs, Pt.cells, Pt.slots] at X162 l162 y162 z162 st162 hQ162
          subst l162 y162 z162
          obtain ⟨rfl, Nq162, Kq162⟩ := hQ162
          replace NF := Fr.app NF Nq162
          clear Nq162
          refine WP.tr st162 ?_
          clear st162
          replace Kq162 := Kq162.trans (rfl : h160 = h160)
          have hXN : ∃ LL, Stand p l e room_1 s m #[(.int p1), (.int p2), (.int p3), (.int p4)] below meth c T162 LL 1 3 ∧ Fr n0 LL := ⟨_, X162, NF⟩
          clear X162 NF
          obtain ⟨LL163, X162, NF⟩ := hXN
          show WP p.tables e below _ T162 (mkF m 131 #[.val (.int p1), .val (.int p2), .val (.int p3), .val (.int p4), .val (.int (Int32.ofNat ia)), .val (.int (Int32.ofNat ib)), .val (.int (((p4.toUInt32 >>> ((3 : Int32) &&& 31).toUInt32).toInt32) &&& (3 : Int32))), .val (.int (Int32.ofNat iq)), .val (.int (0 : Int32)), .val (.int (0 : Int32)), .val (.int (1 : Int32)), .val (.ref b159), .unset] [(.int (0 : Int32))])
          refine WP.st (T' := T162) (f' := (mkF m 171 #[.val (.int p1), .val (.int p2), .val (.int p3), .val (.int p4), .val (.int (Int32.ofNat ia)), .val (.int (Int32.ofNat ib)), .val (.int (((p4.toUInt32 >>> ((3 : Int32) &&& 31).toUInt32).toInt32) &&& (3 : Int32))), .val (.int (Int32.ofNat iq)), .val (.int (0 : Int32)), .val (.int (0 : Int32)), .val (.int (1 : Int32)), .val (.ref b159), .unset] [(.int (Int32.ofNat ia)), (.ref b159)])) (fun t k => ?_) ?_
          · refine XS.ifYes X162.here hx rfl (pc0 := 131) (pc' := 136) rfl (hb hby at_131) rfl ((if0 _ _).trans (teq (by decide : (0 : Int32) = (0 : Int32))).1) (by decide) (by decide) ?_
            refine XS.iload X162.here hx rfl (hb hby at_136) rfl ?_
            refine XS.ifYes X162.here hx rfl (pc0 := 138) (pc' := 149) rfl (hb hby at_138) rfl ((if0 _ _).trans (teq (by decide : (0 : Int32) = (0 : Int32))).1) (by decide) (by decide) ?_
            refine XS.iload X162.here hx rfl (hb hby at_149) rfl ?_
            show Steps p.tables e below (T162.setTop (mkF m 151 #[.val (.int p1), .val (.int p2), .val (.int p3), .val (.int p4), .val (.int (Int32.ofNat ia)), .val (.int (Int32.ofNat ib)), .val (.int (((p4.toUInt32 >>> ((3 : Int32) &&& 31).toUInt32).toInt32) &&& (3 : Int32))), .val (.int (Int32.ofNat iq)), .val (.int (0 : Int32)), .val (.int (0 : Int32)), .val (.int (1 : Int32)), .val (.ref b159), .unset] [(.int (0 : Int32))])) t
            refine XS.ifYes X162.here hx rfl (pc0 := 151) (pc' := 162) rfl (hb hby at_151) rfl ((if0 _ _).trans (teq (by decide : (0 : Int32) = (0 : Int32))).1) (by decide) (by decide) ?_
            refine XS.iload X162.here hx rfl (hb hby at_162) rfl ?_
            refine XS.ifNo X162.here hx rfl (hb hby at_164) rfl ((if0 _ _).trans (feq (by decide : ¬ ((1 : Int32) = (0 : Int32)))).1) ?_
            refine XS.aload X162.here hx rfl (hb hby at_167) rfl rfl ?_
            show Steps p.tables e below (T162.setTop (mkF m 169 #[.val (.int p1), .val (.int p2), .val (.int p3), .val (.int p4), .val (.int (Int32.ofNat ia)), .val (.int (Int32.ofNat ib)), .val (.int (((p4.toUInt32 >>> ((3 : Int32) &&& 31).toUInt32).toInt32) &&& (3 : Int32))), .val (.int (Int32.ofNat iq)), .val (.int (0 : Int32)), .val (.int (0 : Int32)), .val (.int (1 : Int32)), .val (.ref b159), .unset] [(.ref b159)])) t
            refine XS.iload X162.here hx rfl (hb hby at_169) rfl ?_
            exact k
          obtain ⟨cq164, kq164, q164a, q164b, q164c⟩ := isOf hZ Kq162 E_b159
          obtain ⟨_, _, ⟨T164, L164, k164, n164⟩, -, X164, ⟨Lc164, hQ164, l164, y164, z164⟩, st164⟩ := X162.virtualBack hx (y := (⟨"com/example/otayori/otayori/codec/PacketIds", "release", "(I)Z"⟩ : MethodName)) (z := (⟨"com/example/otayori/otayori/codec/PacketIds", "release", "(I)Z"⟩ : MethodName)) hown (mvT hZ (w_99 hw)) (mvT hZ (w_100 hw)) (notFace_of_selects (args := #[]) (mvT hZ (w_102 hw))) (mvT hZ (w_102 hw)) (mvT hZ (w_101 hw)) (by decide) (backOf (W := 0) (rm18n l Z a0 hw [] b159 ia h160 n0 Z0 E_b159 F_b159_held) hZ (w_103 hw) (w_8 hw) (by decide) (by decide)) q164a q164c (g := (mkF m 171 #[.val (.int p1), .val (.int p2), .val (.int p3), .val (.int p4), .val (.int (Int32.ofNat ia)), .val (.int (Int32.ofNat ib)), .val (.int (((p4.toUInt32 >>> ((3 : Int32) &&& 31).toUInt32).toInt32) &&& (3 : Int32))), .val (.int (Int32.ofNat iq)), .val (.int (0 : Int32)), .val (.int (0 : Int32)), .val (.int (1 : Int32)), .val (.ref b159), .unset] [(.int (Int32.ofNat ia)), (.ref b159)])) rfl (by rw [hml]; rfl) (Steps.refl _) (argsL := [(.int (Int32.ofNat ia))]) (rest := []) (lenOf pd_5 rfl) rfl (by show 2 * 0 + _ ≤ _; exact Nat.le_of_eq rfl) (hb hby at_171) (fun _ _ => ⟨rfl, Kq162, (by decide : 1 + 0 ≤ _), (by decide : 3 + 0 ≤ _)⟩)
          dsimp only [Pt.U, Pt.locs, Pt.cells, Pt.slots] at X164 l164 y164 z164 st164 hQ164
          subst l164 y164 z164
          obtain ⟨rfl, Nq164, Kq164⟩ := hQ164
          replace NF := Fr.app NF Nq164
          clear Nq164
          refine WP.tr st164 ?_
          clear st164
          replace Kq164 := Kq164.trans (rfl : h160 = h160)
          have hXN : ∃ LL, Stand p l e room_1 s m #[(.int p1), (.int p2), (.int p3), (.int p4)] below meth c T164 LL 1 3 ∧ Fr n0 LL := ⟨_, X164, NF⟩
          clear X164 NF
          obtain ⟨LL165, X164, NF⟩ := hXN
          show WP p.tables e below _ T164 (mkF m 174 #[.val (.int p1), .val (.int p2), .val (.int p3), .val (.int p4), .val (.int (Int32.ofNat ia)), .val (.int (Int32.ofNat ib)), .val (.int (((p4.toUInt32 >>> ((3 : Int32) &&& 31).toUInt32).toInt32) &&& (3 : Int32))), .val (.int (Int32.ofNat iq)), .val (.int (0 : Int32)), .val (.int (0 : Int32)), .val (.int (1 : Int32)), .val (.ref b159), .unset] [(.int (0 : Int32))])
          refine WP.st (T' := T164) (f' := (mkF m 175 #[.val (.int p1), .val (.int p2), .val (.int p3), .val (.int p4), .val (.int (Int32.ofNat ia)), .val (.int (Int32.ofNat ib)), .val (.int (((p4.toUInt32 >>> ((3 : Int32) &&& 31).toUInt32).toInt32) &&& (3 : Int32))), .val (.int (Int32.ofNat iq)), .val (.int (0 : Int32)), .val (.int (0 : Int32)), .val (.int (1 : Int32)), .val (.ref b159), .unset] [])) (fun t k => ?_) ?_
          · refine XS.pop X164.here hx rfl (hb hby at_174) rfl rfl ?_
            exact k
          by_cases hc166 : (Int32.ofNat iq) = (Int32.ofNat ia)
          · skip
            by_cases hc167 : (Int32.ofNat iq) = (Int32.ofNat ib)
            · skip
              have n_ia : iq = ia := (own_eq (Nat.lt_of_le_of_lt h_iq (by decide)) (Nat.lt_of_le_of_lt h_ia (by decide))).1 hc166
              have n_ib : iq = ib := (own_eq (Nat.lt_of_le_of_lt h_iq (by decide)) (Nat.lt_of_le_of_lt h_ib (by decide))).1 hc167
              refine WP.st (T' := T164) (f' := (mkF m 222 #[.val (.int p1), .val (.int p2), .val (.int p3), .val (.int p4), .val (.int (Int32.ofNat ia)), .val (.int (Int32.ofNat ib)), .val (.int (((p4.toUInt32 >>> ((3 : Int32) &&& 31).toUInt32).toInt32) &&& (3 : Int32))), .val (.int (Int32.ofNat iq)), .val (.int (0 : Int32)), .val (.int (0 : Int32)), .val (.int (1 : Int32)), .val (.ref b159), .val (.int (0 : Int32))] [(.int (Int32.ofNat iq)), (.ref b159)])) (fun t k => ?_) ?_
              · refine XS.iload X164.here hx rfl (hb hby at_175) rfl ?_
                refine XS.ifYes X164.here hx rfl (pc0 := 177) (pc' := 187) rfl (hb hby at_177) rfl ((if0 _ _).trans (teq (by decide : (0 : Int32) = (0 : Int32))).1) (by decide) (by decide) ?_
                refine XS.iload X164.here hx rfl (hb hby at_187) rfl ?_
                refine XS.ifYes X164.here hx rfl (pc0 := 189) (pc' := 215) rfl (hb hby at_189) rfl ((if0 _ _).trans (teq (by decide : (0 : Int32) = (0 : Int32))).1) (by decide) (by decide) ?_
                show Steps p.tables e below (T164.setTop (mkF m 215 #[.val (.int p1), .val (.int p2), .val (.int p3), .val (.int p4), .val (.int (Int32.ofNat ia)), .val (.int (Int32.ofNat ib)), .val (.int (((p4.toUInt32 >>> ((3 : Int32) &&& 31).toUInt32).toInt32) &&& (3 : Int32))), .val (.int (Int32.ofNat iq)), .val (.int (0 : Int32)), .val (.int (0 : Int32)), .val (.int (1 : Int32)), .val (.ref b159), .unset] [])) t
                refine XS.iconst X164.here hx rfl (hb hby at_215) ?_
                refine XS.istore X164.here hx rfl (hb hby at_216) rfl (l' := #[.val (.int p1), .val (.int p2), .val (.int p3), .val (.int p4), .val (.int (Int32.ofNat ia)), .val (.int (Int32.ofNat ib)), .val (.int (((p4.toUInt32 >>> ((3 : Int32) &&& 31).toUInt32).toInt32) &&& (3 : Int32))), .val (.int (Int32.ofNat iq)), .val (.int (0 : Int32)), .val (.int (0 : Int32)), .val (.int (1 : Int32)), .val (.ref b159), .val (.int (0 : Int32))]) rfl ?_
                refine XS.aload X164.here hx rfl (hb hby at_218) rfl rfl ?_
                refine XS.iload X164.here hx rfl (hb hby at_220) rfl ?_
                exact k
              obtain ⟨cq168, kq168, q168a, q168b, q168c⟩ := isOf hZ Kq164 E_b159
              obtain ⟨_, _, ⟨T168, L168, k168, n168⟩, -, X168, ⟨Lc168, hQ168, l168, y168, z168⟩, st168⟩ := X164.virtualBack hx (y := (⟨"com/example/otayori/otayori/codec/PacketIds", "isHeld", "(I)Z"⟩ : MethodName)) (z := (⟨"com/example/otayori/otayori/codec/PacketIds", "isHeld", "(I)Z"⟩ : MethodName)) hown (mvT hZ (w_17 hw)) (mvT hZ (w_18 hw)) (notFace_of_selects (args := #[]) (mvT hZ (w_20 hw))) (mvT hZ (w_20 hw)) (mvT hZ (w_19 hw)) (by decide) (backOf (W := 0) (rm4n l Z a0 hw [] b159 iq h160 n0 Z0 F_b159_held) hZ (w_21 hw) (w_8 hw) (by decide) (by decide)) q168a q168c (g := (mkF m 222 #[.val (.int p1), .val (.int p2), .val (.int p3), .val (.int p4), .val (.int (Int32.ofNat ia)), .val (.int (Int32.ofNat ib)), .val (.int (((p4.toUInt32 >>> ((3 : Int32) &&& 31).toUInt32).toInt32) &&& (3 : Int32))), .val (.int (Int32.ofNat iq)), .val (.int (0 : Int32)), .val (.int (0 : Int32)), .val (.int (1 : Int32)), .val (.ref b159), .val (.int (0 : Int32))] [(.int (Int32.ofNat iq)), (.ref b159)])) rfl (by rw [hml]; rfl) (Steps.refl _) (argsL := [(.int (Int32.ofNat iq))]) (rest := []) (lenOf pd_5 rfl) rfl (by show 2 * 0 + _ ≤ _; exact Nat.le_of_eq rfl) (hb hby at_222) (fun _ _ => ⟨rfl, Kq164, (by decide : 1 + 0 ≤ _), (by decide : 3 + 0 ≤ _)⟩)
              dsimp only [Pt.U, Pt.locs, Pt.cells, Pt.slots] at X168 l168 y168 z168 st168 hQ168
              subst l168 y168 z168
              obtain ⟨rfl, Nq168, Kq168⟩ := hQ168
              replace NF := Fr.app NF Nq168
              clear Nq168
              refine WP.tr st168 ?_
              clear st168
              replace Kq168 := Kq168.trans (rfl : h160 = h160)
              have hXN : ∃ LL, Stand p l e room_1 s m #[(.int p1), (.int p2), (.int p3), (.int p4)] below meth c T168 LL 1 3 ∧ Fr n0 LL := ⟨_, X168, NF⟩
              clear X168 NF
              obtain ⟨LL169, X168, NF⟩ := hXN
              show WP p.tables e below _ T168 (mkF m 225 #[.val (.int p1), .val (.int p2), .val (.int p3), .val (.int p4), .val (.int (Int32.ofNat ia)), .val (.int (Int32.ofNat ib)), .val (.int (((p4.toUInt32 >>> ((3 : Int32) &&& 31).toUInt32).toInt32) &&& (3 : Int32))), .val (.int (Int32.ofNat iq)), .val (.int (0 : Int32)), .val (.int (0 : Int32)), .val (.int (1 : Int32)), .val (.ref b159), .val (.int (0 : Int32))] [(.int (0 : Int32))])
              refine WP.st (T' := T168) (f' := (mkF m 235 #[.val (.int p1), .val (.int p2), .val (.int p3), .val (.int p4), .val (.int (Int32.ofNat ia)), .val (.int (Int32.ofNat ib)), .val (.int (((p4.toUInt32 >>> ((3 : Int32) &&& 31).toUInt32).toInt32) &&& (3 : Int32))), .val (.int (Int32.ofNat iq)), .val (.int (0 : Int32)), .val (.int (0 : Int32)), .val (.int (1 : Int32)), .val (.ref b159), .val (.int (0 : Int32))] [(.int (1 : Int32))])) (fun t k => ?_) ?_
              · refine XS.iload X168.here hx rfl (hb hby at_225) rfl ?_
                refine XS.icmpNo X168.here hx rfl (hb hby at_227) rfl (teq (by decide : (0 : Int32) = (0 : Int32))).2 ?_
                refine XS.iconst X168.here hx rfl (hb hby at_230) ?_
                refine XS.goto X168.here hx rfl (pc0 := 231) (pc' := 235) rfl (hb hby at_231) (by decide) (by decide) ?_
                exact k
              subst hG
              obtain ⟨fs, hr, hrun, hended, hW, hsame⟩ := X168.leave (v := some (.int (1 : Int32))) (fun h => by rw [Bd.returns] at h; cases h)
              refine WP.fin ⟨_, _, ?_, hrun, hended, _, _, rfl, ?_, ⟨_, rfl⟩, hW, hsame.mono (by decide) (by decide)⟩
              · exact retN X168 hx (t := .boolean) Bd.returns (by simp) (hb hby at_235) hr
              · show Q0 Z p1 p2 p3 p4 h0 n0 _ T168.heap _
                rw [Kq168]
                exact ⟨rfl, NF⟩
            · skip
              have n_ia : iq = ia := (own_eq (Nat.lt_of_le_of_lt h_iq (by decide)) (Nat.lt_of_le_of_lt h_ia (by decide))).1 hc166
              have n_ib : ¬ iq = ib := fun q => hc167 (congrArg Int32.ofNat q)
              refine WP.st (T' := T164) (f' := (mkF m 222 #[.val (.int p1), .val (.int p2), .val (.int p3), .val (.int p4), .val (.int (Int32.ofNat ia)), .val (.int (Int32.ofNat ib)), .val (.int (((p4.toUInt32 >>> ((3 : Int32) &&& 31).toUInt32).toInt32) &&& (3 : Int32))), .val (.int (Int32.ofNat iq)), .val (.int (0 : Int32)), .val (.int (0 : Int32)), .val (.int (1 : Int32)), .val (.ref b159), .val (.int (0 : Int32))] [(.int (Int32.ofNat iq)), (.ref b159)])) (fun t k => ?_) ?_
              · refine XS.iload X164.here hx rfl (hb hby at_175) rfl ?_
                refine XS.ifYes X164.here hx rfl (pc0 := 177) (pc' := 187) rfl (hb hby at_177) rfl ((if0 _ _).trans (teq (by decide : (0 : Int32) = (0 : Int32))).1) (by decide) (by decide) ?_
                refine XS.iload X164.here hx rfl (hb hby at_187) rfl ?_
                refine XS.ifYes X164.here hx rfl (pc0 := 189) (pc' := 215) rfl (hb hby at_189) rfl ((if0 _ _).trans (teq (by decide : (0 : Int32) = (0 : Int32))).1) (by decide) (by decide) ?_
                show Steps p.tables e below (T164.setTop (mkF m 215 #[.val (.int p1), .val (.int p2), .val (.int p3), .val (.int p4), .val (.int (Int32.ofNat ia)), .val (.int (Int32.ofNat ib)), .val (.int (((p4.toUInt32 >>> ((3 : Int32) &&& 31).toUInt32).toInt32) &&& (3 : Int32))), .val (.int (Int32.ofNat iq)), .val (.int (0 : Int32)), .val (.int (0 : Int32)), .val (.int (1 : Int32)), .val (.ref b159), .unset] [])) t
                refine XS.iconst X164.here hx rfl (hb hby at_215) ?_
                refine XS.istore X164.here hx rfl (hb hby at_216) rfl (l' := #[.val (.int p1), .val (.int p2), .val (.int p3), .val (.int p4), .val (.int (Int32.ofNat ia)), .val (.int (Int32.ofNat ib)), .val (.int (((p4.toUInt32 >>> ((3 : Int32) &&& 31).toUInt32).toInt32) &&& (3 : Int32))), .val (.int (Int32.ofNat iq)), .val (.int (0 : Int32)), .val (.int (0 : Int32)), .val (.int (1 : Int32)), .val (.ref b159), .val (.int (0 : Int32))]) rfl ?_
                refine XS.aload X164.here hx rfl (hb hby at_218) rfl rfl ?_
                refine XS.iload X164.here hx rfl (hb hby at_220) rfl ?_
                exact k
              obtain ⟨cq170, kq170, q170a, q170b, q170c⟩ := isOf hZ Kq164 E_b159
              obtain ⟨_, _, ⟨T170, L170, k170, n170⟩, -, X170, ⟨Lc170, hQ170, l170, y170, z170⟩, st170⟩ := X164.virtualBack hx (y := (⟨"com/example/otayori/otayori/codec/PacketIds", "isHeld", "(I)Z"⟩ : MethodName)) (z := (⟨"com/example/otayori/otayori/codec/PacketIds", "isHeld", "(I)Z"⟩ : MethodName)) hown (mvT hZ (w_17 hw)) (mvT hZ (w_18 hw)) (notFace_of_selects (args := #[]) (mvT hZ (w_20 hw))) (mvT hZ (w_20 hw)) (mvT hZ (w_19 hw)) (by decide) (backOf (W := 0) (rm4n l Z a0 hw [] b159 iq h160 n0 Z0 F_b159_held) hZ (w_21 hw) (w_8 hw) (by decide) (by decide)) q170a q170c (g := (mkF m 222 #[.val (.int p1), .val (.int p2), .val (.int p3), .val (.int p4), .val (.int (Int32.ofNat ia)), .val (.int (Int32.ofNat ib)), .val (.int (((p4.toUInt32 >>> ((3 : Int32) &&& 31).toUInt32).toInt32) &&& (3 : Int32))), .val (.int (Int32.ofNat iq)), .val (.int (0 : Int32)), .val (.int (0 : Int32)), .val (.int (1 : Int32)), .val (.ref b159), .val (.int (0 : Int32))] [(.int (Int32.ofNat iq)), (.ref b159)])) rfl (by rw [hml]; rfl) (Steps.refl _) (argsL := [(.int (Int32.ofNat iq))]) (rest := []) (lenOf pd_5 rfl) rfl (by show 2 * 0 + _ ≤ _; exact Nat.le_of_eq rfl) (hb hby at_222) (fun _ _ => ⟨rfl, Kq164, (by decide : 1 + 0 ≤ _), (by decide : 3 + 0 ≤ _)⟩)
              dsimp only [Pt.U, Pt.locs, Pt.cells, Pt.slots] at X170 l170 y170 z170 st170 hQ170
              subst l170 y170 z170
              obtain ⟨rfl, Nq170, Kq170⟩ := hQ170
              replace NF := Fr.app NF Nq170
              clear Nq170
              refine WP.tr st170 ?_
              clear st170
              replace Kq170 := Kq170.trans (rfl : h160 = h160)
              have hXN : ∃ LL, Stand p l e room_1 s m #[(.int p1), (.int p2), (.int p3), (.int p4)] below meth c T170 LL 1 3 ∧ Fr n0 LL := ⟨_, X170, NF⟩
              clear X170 NF
              obtain ⟨LL171, X170, NF⟩ := hXN
              show WP p.tables e below _ T170 (mkF m 225 #[.val (.int p1), .val (.int p2), .val (.int p3), .val (.int p4), .val (.int (Int32.ofNat ia)), .val (.int (Int32.ofNat ib)), .val (.int (((p4.toUInt32 >>> ((3 : Int32) &&& 31).toUInt32).toInt32) &&& (3 : Int32))), .val (.int (Int32.ofNat iq)), .val (.int (0 : Int32)), .val (.int (0 : Int32)), .val (.int (1 : Int32)), .val (.ref b159), .val (.int (0 : Int32))] [(.int (0 : Int32))])
              refine WP.st (T' := T170) (f' := (mkF m 235 #[.val (.int p1), .val (.int p2), .val (.int p3), .val (.int p4), .val (.int (Int32.ofNat ia)), .val (.int (Int32.ofNat ib)), .val (.int (((p4.toUInt32 >>> ((3 : Int32) &&& 31).toUInt32).toInt32) &&& (3 : Int32))), .val (.int (Int32.ofNat iq)), .val (.int (0 : Int32)), .val (.int (0 : Int32)), .val (.int (1 : Int32)), .val (.ref b159), .val (.int (0 : Int32))] [(.int (1 : Int32))])) (fun t k => ?_) ?_
              · refine XS.iload X170.here hx rfl (hb hby at_225) rfl ?_
                refine XS.icmpNo X170.here hx rfl (hb hby at_227) rfl (teq (by decide : (0 : Int32) = (0 : Int32))).2 ?_
                refine XS.iconst X170.here hx rfl (hb hby at_230) ?_
                refine XS.goto X170.here hx rfl (pc0 := 231) (pc' := 235) rfl (hb hby at_231) (by decide) (by decide) ?_
                exact k
              subst hG
              obtain ⟨fs, hr, hrun, hended, hW, hsame⟩ := X170.leave (v := some (.int (1 : Int32))) (fun h => by rw [Bd.returns] at h; cases h)
              refine WP.fin ⟨_, _, ?_, hrun, hended, _, _, rfl, ?_, ⟨_, rfl⟩, hW, hsame.mono (by decide) (by decide)⟩
              · exact retN X170 hx (t := .boolean) Bd.returns (by simp) (hb hby at_235) hr
              · show Q0 Z p1 p2 p3 p4 h0 n0 _ T170.heap _
                rw [Kq170]
                exact ⟨rfl, NF⟩
          · skip
            by_cases hc172 : (Int32.ofNat iq) = (Int32.ofNat ib)
            · skip
              have n_ia : ¬ iq = ia := fun q => hc166 (congrArg Int32.ofNat q)
              have n_ib : iq = ib := (own_eq (Nat.lt_of_le_of_lt h_iq (by decide)) (Nat.lt_of_le_of_lt h_ib (by decide))).1 hc172
              refine WP.st (T' := T164) (f' := (mkF m 222 #[.val (.int p1), .val (.int p2), .val (.int p3), .val (.int p4), .val (.int (Int32.ofNat ia)), .val (.int (Int32.ofNat ib)), .val (.int (((p4.toUInt32 >>> ((3 : Int32) &&& 31).toUInt32).toInt32) &&& (3 : Int32))), .val (.int (Int32.ofNat iq)), .val (.int (0 : Int32)), .val (.int (0 : Int32)), .val (.int (1 : Int32)), .val (.ref b159), .val (.int (0 : Int32))] [(.int (Int32.ofNat iq)), (.ref b159)])) (fun t k => ?_) ?_
              · refine XS.iload X164.here hx rfl (hb hby at_175) rfl ?_
                refine XS.ifYes X164.here hx rfl (pc0 := 177) (pc' := 187) rfl (hb hby at_177) rfl ((if0 _ _).trans (teq (by decide : (0 : Int32) = (0 : Int32))).1) (by decide) (by decide) ?_
                refine XS.iload X164.here hx rfl (hb hby at_187) rfl ?_
                refine XS.ifYes X164.here hx rfl (pc0 := 189) (pc' := 215) rfl (hb hby at_189) rfl ((if0 _ _).trans (teq (by decide : (0 : Int32) = (0 : Int32))).1) (by decide) (by decide) ?_
                show Steps p.tables e below (T164.setTop (mkF m 215 #[.val (.int p1), .val (.int p2), .val (.int p3), .val (.int p4), .val (.int (Int32.ofNat ia)), .val (.int (Int32.ofNat ib)), .val (.int (((p4.toUInt32 >>> ((3 : Int32) &&& 31).toUInt32).toInt32) &&& (3 : Int32))), .val (.int (Int32.ofNat iq)), .val (.int (0 : Int32)), .val (.int (0 : Int32)), .val (.int (1 : Int32)), .val (.ref b159), .unset] [])) t
                refine XS.iconst X164.here hx rfl (hb hby at_215) ?_
                refine XS.istore X164.here hx rfl (hb hby at_216) rfl (l' := #[.val (.int p1), .val (.int p2), .val (.int p3), .val (.int p4), .val (.int (Int32.ofNat ia)), .val (.int (Int32.ofNat ib)), .val (.int (((p4.toUInt32 >>> ((3 : Int32) &&& 31).toUInt32).toInt32) &&& (3 : Int32))), .val (.int (Int32.ofNat iq)), .val (.int (0 : Int32)), .val (.int (0 : Int32)), .val (.int (1 : Int32)), .val (.ref b159), .val (.int (0 : Int32))]) rfl ?_
                refine XS.aload X164.here hx rfl (hb hby at_218) rfl rfl ?_
                refine XS.iload X164.here hx rfl (hb hby at_220) rfl ?_
                exact k
              obtain ⟨cq173, kq173, q173a, q173b, q173c⟩ := isOf hZ Kq164 E_b159
              obtain ⟨_, _, ⟨T173, L173, k173, n173⟩, -, X173, ⟨Lc173, hQ173, l173, y173, z173⟩, st173⟩ := X164.virtualBack hx (y := (⟨"com/example/otayori/otayori/codec/PacketIds", "isHeld", "(I)Z"⟩ : MethodName)) (z := (⟨"com/example/otayori/otayori/codec/PacketIds", "isHeld", "(I)Z"⟩ : MethodName)) hown (mvT hZ (w_17 hw)) (mvT hZ (w_18 hw)) (notFace_of_selects (args := #[]) (mvT hZ (w_20 hw))) (mvT hZ (w_20 hw)) (mvT hZ (w_19 hw)) (by decide) (backOf (W := 0) (rm4n l Z a0 hw [] b159 iq h160 n0 Z0 F_b159_held) hZ (w_21 hw) (w_8 hw) (by decide) (by decide)) q173a q173c (g := (mkF m 222 #[.val (.int p1), .val (.int p2), .val (.int p3), .val (.int p4), .val (.int (Int32.ofNat ia)), .val (.int (Int32.ofNat ib)), .val (.int (((p4.toUInt32 >>> ((3 : Int32) &&& 31).toUInt32).toInt32) &&& (3 : Int32))), .val (.int (Int32.ofNat iq)), .val (.int (0 : Int32)), .val (.int (0 : Int32)), .val (.int (1 : Int32)), .val (.ref b159), .val (.int (0 : Int32))] [(.int (Int32.ofNat iq)), (.ref b159)])) rfl (by rw [hml]; rfl) (Steps.refl _) (argsL := [(.int (Int32.ofNat iq))]) (rest := []) (lenOf pd_5 rfl) rfl (by show 2 * 0 + _ ≤ _; exact Nat.le_of_eq rfl) (hb hby at_222) (fun _ _ => ⟨rfl, Kq164, (by decide : 1 + 0 ≤ _), (by decide : 3 + 0 ≤ _)⟩)
              dsimp only [Pt.U, Pt.locs, Pt.cells, Pt.slots] at X173 l173 y173 z173 st173 hQ173
              subst l173 y173 z173
              obtain ⟨rfl, Nq173, Kq173⟩ := hQ173
              replace NF := Fr.app NF Nq173
              clear Nq173
              refine WP.tr st173 ?_
              clear st173
              replace Kq173 := Kq173.trans (rfl : h160 = h160)
              have hXN : ∃ LL, Stand p l e room_1 s m #[(.int p1), (.int p2), (.int p3), (.int p4)] below meth c T173 LL 1 3 ∧ Fr n0 LL := ⟨_, X173, NF⟩
              clear X173 NF
              obtain ⟨LL174, X173, NF⟩ := hXN
              show WP p.tables e below _ T173 (mkF m 225 #[.val (.int p1), .val (.int p2), .val (.int p3), .val (.int p4), .val (.int (Int32.ofNat ia)), .val (.int (Int32.ofNat ib)), .val (.int (((p4.toUInt32 >>> ((3 : Int32) &&& 31).toUInt32).toInt32) &&& (3 : Int32))), .val (.int (Int32.ofNat iq)), .val (.int (0 : Int32)), .val (.int (0 : Int32)), .val (.int (1 : Int32)), .val (.ref b159), .val (.int (0 : Int32))] [(.int (0 : Int32))])
              refine WP.st (T' := T173) (f' := (mkF m 235 #[.val (.int p1), .val (.int p2), .val (.int p3), .val (.int p4), .val (.int (Int32.ofNat ia)), .val (.int (Int32.ofNat ib)), .val (.int (((p4.toUInt32 >>> ((3 : Int32) &&& 31).toUInt32).toInt32) &&& (3 : Int32))), .val (.int (Int32.ofNat iq)), .val (.int (0 : Int32)), .val (.int (0 : Int32)), .val (.int (1 : Int32)), .val (.ref b159), .val (.int (0 : Int32))] [(.int (1 : Int32))])) (fun t k => ?_) ?_
              · refine XS.iload X173.here hx rfl (hb hby at_225) rfl ?_
                refine XS.icmpNo X173.here hx rfl (hb hby at_227) rfl (teq (by decide : (0 : Int32) = (0 : Int32))).2 ?_
                refine XS.iconst X173.here hx rfl (hb hby at_230) ?_
                refine XS.goto X173.here hx rfl (pc0 := 231) (pc' := 235) rfl (hb hby at_231) (by decide) (by decide) ?_
                exact k
              subst hG
              obtain ⟨fs, hr, hrun, hended, hW, hsame⟩ := X173.leave (v := some (.int (1 : Int32))) (fun h => by rw [Bd.returns] at h; cases h)
              refine WP.fin ⟨_, _, ?_, hrun, hended, _, _, rfl, ?_, ⟨_, rfl⟩, hW, hsame.mono (by decide) (by decide)⟩
              · exact retN X173 hx (t := .boolean) Bd.returns (by simp) (hb hby at_235) hr
              · show Q0 Z p1 p2 p3 p4 h0 n0 _ T173.heap _
                rw [Kq173]
                exact ⟨rfl, NF⟩
            · skip
              have n_ia : ¬ iq = ia := fun q => hc166 (congrArg Int32.ofNat q)
              have n_ib : ¬ iq = ib := fun q => hc172 (congrArg Int32.ofNat q)
              refine WP.st (T' := T164) (f' := (mkF m 222 #[.val (.int p1), .val (.int p2), .val (.int p3), .val (.int p4), .val (.int (Int32.ofNat ia)), .val (.int (Int32.ofNat ib)), .val (.int (((p4.toUInt32 >>> ((3 : Int32) &&& 31).toUInt32).toInt32) &&& (3 : Int32))), .val (.int (Int32.ofNat iq)), .val (.int (0 : Int32)), .val (.int (0 : Int32)), .val (.int (1 : Int32)), .val (.ref b159), .val (.int (0 : Int32))] [(.int (Int32.ofNat iq)), (.ref b159)])) (fun t k => ?_) ?_
              · refine XS.iload X164.here hx rfl (hb hby at_175) rfl ?_
                refine XS.ifYes X164.here hx rfl (pc0 := 177) (pc' := 187) rfl (hb hby at_177) rfl ((if0 _ _).trans (teq (by decide : (0 : Int32) = (0 : Int32))).1) (by decide) (by decide) ?_
                refine XS.iload X164.here hx rfl (hb hby at_187) rfl ?_
                refine XS.ifYes X164.here hx rfl (pc0 := 189) (pc' := 215) rfl (hb hby at_189) rfl ((if0 _ _).trans (teq (by decide : (0 : Int32) = (0 : Int32))).1) (by decide) (by decide) ?_
                show Steps p.tables e below (T164.setTop (mkF m 215 #[.val (.int p1), .val (.int p2), .val (.int p3), .val (.int p4), .val (.int (Int32.ofNat ia)), .val (.int (Int32.ofNat ib)), .val (.int (((p4.toUInt32 >>> ((3 : Int32) &&& 31).toUInt32).toInt32) &&& (3 : Int32))), .val (.int (Int32.ofNat iq)), .val (.int (0 : Int32)), .val (.int (0 : Int32)), .val (.int (1 : Int32)), .val (.ref b159), .unset] [])) t
                refine XS.iconst X164.here hx rfl (hb hby at_215) ?_
                refine XS.istore X164.here hx rfl (hb hby at_216) rfl (l' := #[.val (.int p1), .val (.int p2), .val (.int p3), .val (.int p4), .val (.int (Int32.ofNat ia)), .val (.int (Int32.ofNat ib)), .val (.int (((p4.toUInt32 >>> ((3 : Int32) &&& 31).toUInt32).toInt32) &&& (3 : Int32))), .val (.int (Int32.ofNat iq)), .val (.int (0 : Int32)), .val (.int (0 : Int32)), .val (.int (1 : Int32)), .val (.ref b159), .val (.int (0 : Int32))]) rfl ?_
                refine XS.aload X164.here hx rfl (hb hby at_218) rfl rfl ?_
                refine XS.iload X164.here hx rfl (hb hby at_220) rfl ?_
                exact k
              obtain ⟨cq175, kq175, q175a, q175b, q175c⟩ := isOf hZ Kq164 E_b159
              obtain ⟨_, _, ⟨T175, L175, k175, n175⟩, -, X175, ⟨Lc175, hQ175, l175, y175, z175⟩, st175⟩ := X164.virtualBack hx (y := (⟨"com/example/otayori/otayori/codec/PacketIds", "isHeld", "(I)Z"⟩ : MethodName)) (z := (⟨"com/example/otayori/otayori/codec/PacketIds", "isHeld", "(I)Z"⟩ : MethodName)) hown (mvT hZ (w_17 hw)) (mvT hZ (w_18 hw)) (notFace_of_selects (args := #[]) (mvT hZ (w_20 hw))) (mvT hZ (w_20 hw)) (mvT hZ (w_19 hw)) (by decide) (backOf (W := 0) (rm4n l Z a0 hw [] b159 iq h160 n0 Z0 F_b159_held) hZ (w_21 hw) (w_8 hw) (by decide) (by decide)) q175a q175c (g := (mkF m 222 #[.val (.int p1), .val (.int p2), .val (.int p3), .val (.int p4), .val (.int (Int32.ofNat ia)), .val (.int (Int32.ofNat ib)), .val (.int (((p4.toUInt32 >>> ((3 : Int32) &&& 31).toUInt32).toInt32) &&& (3 : Int32))), .val (.int (Int32.ofNat iq)), .val (.int (0 : Int32)), .val (.int (0 : Int32)), .val (.int (1 : Int32)), .val (.ref b159), .val (.int (0 : Int32))] [(.int (Int32.ofNat iq)), (.ref b159)])) rfl (by rw [hml]; rfl) (Steps.refl _) (argsL := [(.int (Int32.ofNat iq))]) (rest := []) (lenOf pd_5 rfl) rfl (by show 2 * 0 + _ ≤ _; exact Nat.le_of_eq rfl) (hb hby at_222) (fun _ _ => ⟨rfl, Kq164, (by decide : 1 + 0 ≤ _), (by decide : 3 + 0 ≤ _)⟩)
              dsimp only [Pt.U, Pt.locs, Pt.cells, Pt.slots] at X175 l175 y175 z175 st175 hQ175
              subst l175 y175 z175
              obtain ⟨rfl, Nq175, Kq175⟩ := hQ175
              replace NF := Fr.app NF Nq175
              clear Nq175
              refine WP.tr st175 ?_
              clear st175
              replace Kq175 := Kq175.trans (rfl : h160 = h160)
              have hXN : ∃ LL, Stand p l e room_1 s m #[(.int p1), (.int p2), (.int p3), (.int p4)] below meth c T175 LL 1 3 ∧ Fr n0 LL := ⟨_, X175, NF⟩
              clear X175 NF
              obtain ⟨LL176, X175, NF⟩ := hXN
              show WP p.tables e below _ T175 (mkF m 225 #[.val (.int p1), .val (.int p2), .val (.int p3), .val (.int p4), .val (.int (Int32.ofNat ia)), .val (.int (Int32.ofNat ib)), .val (.int (((p4.toUInt32 >>> ((3 : Int32) &&& 31).toUInt32).toInt32) &&& (3 : Int32))), .val (.int (Int32.ofNat iq)), .val (.int (0 : Int32)), .val (.int (0 : Int32)), .val (.int (1 : Int32)), .val (.ref b159), .val (.int (0 : Int32))] [(.int (0 : Int32))])
              refine WP.st (T' := T175) (f' := (mkF m 235 #[.val (.int p1), .val (.int p2), .val (.int p3), .val (.int p4), .val (.int (Int32.ofNat ia)), .val (.int (Int32.ofNat ib)), .val (.int (((p4.toUInt32 >>> ((3 : Int32) &&& 31).toUInt32).toInt32) &&& (3 : Int32))), .val (.int (Int32.ofNat iq)), .val (.int (0 : Int32)), .val (.int (0 : Int32)), .val (.int (1 : Int32)), .val (.ref b159), .val (.int (0 : Int32))] [(.int (1 : Int32))])) (fun t k => ?_) ?_
              · refine XS.iload X175.here hx rfl (hb hby at_225) rfl ?_
                refine XS.icmpNo X175.here hx rfl (hb hby at_227) rfl (teq (by decide : (0 : Int32) = (0 : Int32))).2 ?_
                refine XS.iconst X175.here hx rfl (hb hby at_230) ?_
                refine XS.goto X175.here hx rfl (pc0 := 231) (pc' := 235) rfl (hb hby at_231) (by decide) (by decide) ?_
                exact k
              subst hG
              obtain ⟨fs, hr, hrun, hended, hW, hsame⟩ := X175.leave (v := some (.int (1 : Int32))) (fun h => by rw [Bd.returns] at h; cases h)
              refine WP.fin ⟨_, _, ?_, hrun, hended, _, _, rfl, ?_, ⟨_, rfl⟩, hW, hsame.mono (by decide) (by decide)⟩
              · exact retN X175 hx (t := .boolean) Bd.returns (by simp) (hb hby at_235) hr
              · show Q0 Z p1 p2 p3 p4 h0 n0 _ T175.heap _
                rw [Kq175]
                exact ⟨rfl, NF⟩
      · skip
        refine WP.st (T' := Tj139) (f' := (mkF m 105 #[.val (.int p1), .val (.int p2), .val (.int p3), .val (.int p4), .val (.int (Int32.ofNat ia)), .val (.int (Int32.ofNat ib)), .val (.int (((p4.toUInt32 >>> ((3 : Int32) &&& 31).toUInt32).toInt32) &&& (3 : Int32))), .val (.int (Int32.ofNat iq)), .val (.int (0 : Int32)), .val (.int (1 : Int32)), .unset, .unset, .unset] [(.int (p4 &&& (4 : Int32)))])) (fun t k => ?_) ?_
        · refine XS.ifNo X139.here hx rfl (hb hby at_92) rfl ((if0 _ _).trans (feq hc141).1) ?_
          refine XS.iconst X139.here hx rfl (hb hby at_95) ?_
          refine XS.goto X139.here hx rfl (pc0 := 96) (pc' := 100) rfl (hb hby at_96) (by decide) (by decide) ?_
          refine XS.istore X139.here hx rfl (hb hby at_100) rfl (l' := #[.val (.int p1), .val (.int p2), .val (.int p3), .val (.int p4), .val (.int (Int32.ofNat ia)), .val (.int (Int32.ofNat ib)), .val (.int (((p4.toUInt32 >>> ((3 : Int32) &&& 31).toUInt32).toInt32) &&& (3 : Int32))), .val (.int (Int32.ofNat iq)), .val (.int (0 : Int32)), .val (.int (1 : Int32)), .unset, .unset, .unset]) rfl ?_
          show Steps p.tables e below (Tj139.setTop (mkF m 102 #[.val (.int p1), .val (.int p2), .val (.int p3), .val (.int p4), .val (.int (Int32.ofNat ia)), .val (.int (Int32.ofNat ib)), .val (.int (((p4.toUInt32 >>> ((3 : Int32) &&& 31).toUInt32).toInt32) &&& (3 : Int32))), .val (.int (Int32.ofNat iq)), .val (.int (0 : Int32)), .val (.int (1 : Int32)), .unset, .unset, .unset] [])) t
          refine XS.iloadN X139.here hx rfl (hb hby at_102) rfl ?_
          refine XS.iconst X139.here hx rfl (hb hby at_103) ?_
          refine XS.iand X139.here hx rfl (hb hby at_104) rfl ?_
          exact k
        by_cases hc177 : (p4 &&& (4 : Int32)) = (0 : Int32)
        · skip
          refine WP.st (T' := Tj139) (f' := (mkF m 115 #[.val (.int p1), .val (.int p2), .val (.int p3), .val (.int p4), .val (.int (Int32.ofNat ia)), .val (.int (Int32.ofNat ib)), .val (.int (((p4.toUInt32 >>> ((3 : Int32) &&& 31).toUInt32).toInt32) &&& (3 : Int32))), .val (.int (Int32.ofNat iq)), .val (.int (0 : Int32)), .val (.int (1 : Int32)), .val (.int (0 : Int32)), .unset, .unset] [])) (fun t k => ?_) ?_
          · refine XS.ifYes X139.here hx rfl (pc0 := 105) (pc' := 112) rfl (hb hby at_105) rfl ((if0 _ _).trans (teq hc177).1) (by decide) (by decide) ?_
            refine XS.iconst X139.here hx rfl (hb hby at_112) ?_
            refine XS.istore X139.here hx rfl (hb hby at_113) rfl (l' := #[.val (.int p1), .val (.int p2), .val (.int p3), .val (.int p4), .val (.int (Int32.ofNat ia)), .val (.int (Int32.ofNat ib)), .val (.int (((p4.toUInt32 >>> ((3 : Int32) &&& 31).toUInt32).toInt32) &&& (3 : Int32))), .val (.int (Int32.ofNat iq)), .val (.int (0 : Int32)), .val (.int (1 : Int32)), .val (.int (0 : Int32)), .unset, .unset]) rfl ?_
            exact k
          obtain ⟨T178, h178, X178, e178, E178, A178, D178, -, st178⟩ := newO X139 hx hZ hown (w_6 hw) (w_7 hw) (w_8 hw) ej139 (g := (mkF m 115 #[.val (.int p1), .val (.int p2), .val (.int p3), .val (.int p4), .val (.int (Int32.ofNat ia)), .val (.int (Int32.ofNat ib)), .val (.int (((p4.toUInt32 >>> ((3 : Int32) &&& 31).toUInt32).toInt32) &&& (3 : Int32))), .val (.int (Int32.ofNat iq)), .val (.int (0 : Int32)), .val (.int (1 : Int32)), .val (.int (0 : Int32)), .unset, .unset] [])) rfl (hb hby at_115) (by decide) (by decide)
          obtain ⟨b178, g178⟩ : ∃ z, z = h0.size := ⟨_, rfl⟩
          rw [← g178] at A178 D178 st178
          refine WP.st st178 ?_
          clear st178
          have g_b178 : n0 ≤ b178 := Nat.le_trans Z0 (Nat.le_of_eq g178.symm)
          replace OLD := OLD.ext E178
          replace Z0 := Nat.le_trans Z0 E178.1
          have E_b178 := A178
          have F_b178_next : Fld Z h178 b178 "com/example/otayori/otayori/codec/PacketIds" "next" "I" (.int (0 : Int32)) := D178 (Or.inl (w_16 hw)) (ty := .int) (by decide)
          have F_b178_held : Fld Z h178 b178 "com/example/otayori/otayori/codec/PacketIds" "held" "Ljava/util/BitSet;" .null := D178 (Or.inl (w_23 hw)) (ty := (.object "java/util/BitSet")) (by decide)
          have F_b178_count : Fld Z h178 b178 "com/example/otayori/otayori/codec/PacketIds" "count" "I" (.int (0 : Int32)) := D178 (Or.inl (w_78 hw)) (ty := .int) (by decide)
          clear D178 A178
          show WP p.tables e below _ T178 (mkF m 118 #[.val (.int p1), .val (.int p2), .val (.int p3), .val (.int p4), .val (.int (Int32.ofNat ia)), .val (.int (Int32.ofNat ib)), .val (.int (((p4.toUInt32 >>> ((3 : Int32) &&& 31).toUInt32).toInt32) &&& (3 : Int32))), .val (.int (Int32.ofNat iq)), .val (.int (0 : Int32)), .val (.int (1 : Int32)), .val (.int (0 : Int32)), .unset, .unset] [(.ref b178)])
          refine WP.st (T' := T178) (f' := (mkF m 119 #[.val (.int p1), .val (.int p2), .val (.int p3), .val (.int p4), .val (.int (Int32.ofNat ia)), .val (.int (Int32.ofNat ib)), .val (.int (((p4.toUInt32 >>> ((3 : Int32) &&& 31).toUInt32).toInt32) &&& (3 : Int32))), .val (.int (Int32.ofNat iq)), .val (.int (0 : Int32)), .val (.int (1 : Int32)), .val (.int (0 : Int32)), .unset, .unset] [(.ref b178), (.ref b178)])) (fun t k => ?_) ?_
          · refine XS.dup X178.here hx rfl (hb hby at_118) rfl rfl ?_
            exact k
          obtain ⟨_, _, ⟨T179, L179, k179, n179⟩, -, X179, ⟨Lc179, hQ179, l179, y179, z179⟩, st179⟩ := X178.specialBack hx (y := (⟨"com/example/otayori/otayori/codec/PacketIds", "<init>", "()V"⟩ : MethodName)) rfl hown (mvT hZ (w_9 hw)) (mvT hZ (w_10 hw)) (mvT hZ (w_11 hw)) (by decide) (backOf (W := 1) (rm2 l Z a0 hw [] b178 (0 : Int32) (0 : Int32) h178 n0 Z0 E_b178 g_b178 F_b178_held F_b178_count F_b178_next) hZ (w_11 hw) (w_8 hw) (by decide) (by decide)) (g := (mkF m 119 #[.val (.int p1), .val (.int p2), .val (.int p3), .val (.int p4), .val (.int (Int32.ofNat ia)), .val (.int (Int32.ofNat ib)), .val (.int (((p4.toUInt32 >>> ((3 : Int32) &&& 31).toUInt32).toInt32) &&& (3 : Int32))), .val (.int (Int32.ofNat iq)), .val (.int (0 : Int32)), .val (.int (1 : Int32)), .val (.int (0 : Int32)), .unset, .unset] [(.ref b178), (.ref b178)])) rfl (by rw [hml]; rfl) (Steps.refl _) (a := b178) (argsL := []) (rest := [(.ref b178)]) (lenOf pd_4 rfl) rfl (by show 2 * 0 + _ ≤ _; exact Nat.le_of_eq rfl) (hb hby at_119) (fun _ _ => ⟨rfl, e178, (by decide : 1 + 0 ≤ _), (by decide : 3 + 0 ≤ _)⟩)
          dsimp only [Pt.U, Pt.locs, Pt.cells, Pt.slots] at X179 l179 y179 z179 st179 hQ179
          subst l179 y179 z179
          obtain ⟨rfl, Nq179, Kq179, nF179_b178_held, nF179_b178_count, nF179_b178_next⟩ := hQ179
          replace NF := Fr.app NF Nq179
          clear Nq179
          refine WP.tr st179 ?_
          clear st179
          obtain ⟨h179, e179⟩ : ∃ h, T179.heap = h := ⟨_, rfl⟩
          rw [e179] at Kq179 nF179_b178_held nF179_b178_count nF179_b178_next
          replace OLD := OLD.keep Kq179 (allS g_b178 all0)
          replace E_b178 := E_b178.keep Kq179
          clear F_b178_next
          clear F_b178_held
          clear F_b178_count
          replace Z0 := Nat.le_trans Z0 Kq179.1
          clear Kq179
          have F_b178_held := nF179_b178_held
          clear nF179_b178_held
          have F_b178_count := nF179_b178_count
          clear nF179_b178_count
          have F_b178_next := nF179_b178_next
          clear nF179_b178_next
          have hXN : ∃ LL, Stand p l e room_1 s m #[(.int p1), (.int p2), (.int p3), (.int p4)] below meth c T179 LL 1 3 ∧ Fr n0 LL := ⟨_, X179, NF⟩
          clear X179 NF
          obtain ⟨LL180, X179, NF⟩ := hXN
          show WP p.tables e below _ T179 (mkF m 122 #[.val (.int p1), .val (.int p2), .val (.int p3), .val (.int p4), .val (.int (Int32.ofNat ia)), .val (.int (Int32.ofNat ib)), .val (.int (((p4.toUInt32 >>> ((3 : Int32) &&& 31).toUInt32).toInt32) &&& (3 : Int32))), .val (.int (Int32.ofNat iq)), .val (.int (0 : Int32)), .val (.int (1 : Int32)), .val (.int (0 : Int32)), .unset, .unset] [(.ref b178)])
          refine WP.st (T' := T179) (f' := (mkF m 128 #[.val (.int p1), .val (.int p2), .val (.int p3), .val (.int p4), .val (.int (Int32.ofNat ia)), .val (.int (Int32.ofNat ib)), .val (.int (((p4.toUInt32 >>> ((3 : Int32) &&& 31).toUInt32).toInt32) &&& (3 : Int32))), .val (.int (Int32.ofNat iq)), .val (.int (0 : Int32)), .val (.int (1 : Int32)), .val (.int (0 : Int32)), .val (.ref b178), .unset] [(.int (Int32.ofNat iq)), (.ref b178)])) (fun t k => ?_) ?_
          · refine XS.astore X179.here hx rfl (hb hby at_122) rfl rfl (l' := #[.val (.int p1), .val (.int p2), .val (.int p3), .val (.int p4), .val (.int (Int32.ofNat ia)), .val (.int (Int32.ofNat ib)), .val (.int (((p4.toUInt32 >>> ((3 : Int32) &&& 31).toUInt32).toInt32) &&& (3 : Int32))), .val (.int (Int32.ofNat iq)), .val (.int (0 : Int32)), .val (.int (1 : Int32)), .val (.int (0 : Int32)), .val (.ref b178), .unset]) rfl ?_
            refine XS.aload X179.here hx rfl (hb hby at_124) rfl rfl ?_
            refine XS.iload X179.here hx rfl (hb hby at_126) rfl ?_
            exact k
          obtain ⟨cq181, kq181, q181a, q181b, q181c⟩ := isOf hZ e179 E_b178
          obtain ⟨_, _, ⟨T181, L181, k181, n181⟩, -, X181, ⟨Lc181, hQ181, l181, y181, z181⟩, st181⟩ := X179.virtualBack hx (y := (⟨"com/example/otayori/otayori/codec/PacketIds", "isHeld", "(I)Z"⟩ : MethodName)) (z := (⟨"com/example/otayori/otayori/codec/PacketIds", "isHeld", "(I)Z"⟩ : MethodName)) hown (mvT hZ (w_17 hw)) (mvT hZ (w_18 hw)) (notFace_of_selects (args := #[]) (mvT hZ (w_20 hw))) (mvT hZ (w_20 hw)) (mvT hZ (w_19 hw)) (by decide) (backOf (W := 0) (rm4n l Z a0 hw [] b178 iq h179 n0 Z0 F_b178_held) hZ (w_21 hw) (w_8 hw) (by decide) (by decide)) q181a q181c (g := (mkF m 128 #[.val (.int p1), .val (.int p2), .val (.int p3), .val (.int p4), .val (.int (Int32.ofNat ia)), .val (.int (Int32.ofNat ib)), .val (.int (((p4.toUInt32 >>> ((3 : Int32) &&& 31).toUInt32).toInt32) &&& (3 : Int32))), .val (.int (Int32.ofNat iq)), .val (.int (0 : Int32)), .val (.int (1 : Int32)), .val (.int (0 : Int32)), .val (.ref b178), .unset] [(.int (Int32.ofNat iq)), (.ref b178)])) rfl (by rw [hml]; rfl) (Steps.refl _) (argsL := [(.int (Int32.ofNat iq))]) (rest := []) (lenOf pd_5 rfl) rfl (by show 2 * 0 + _ ≤ _; exact Nat.le_of_eq rfl) (hb hby at_128) (fun _ _ => ⟨rfl, e179, (by decide : 1 + 0 ≤ _), (by decide : 3 + 0 ≤ _)⟩)
          dsimp only [Pt.U, Pt.locs, Pt.cells, Pt.slots] at X181 l181 y181 z181 st181 hQ181
          subst l181 y181 z181
          obtain ⟨rfl, Nq181, Kq181⟩ := hQ181
          replace NF := Fr.app NF Nq181
          clear Nq181
          refine WP.tr st181 ?_
          clear st181
          replace Kq181 := Kq181.trans (rfl : h179 = h179)
          have hXN : ∃ LL, Stand p l e room_1 s m #[(.int p1), (.int p2), (.int p3), (.int p4)] below meth c T181 LL 1 3 ∧ Fr n0 LL := ⟨_, X181, NF⟩
          clear X181 NF
          obtain ⟨LL182, X181, NF⟩ := hXN
          show WP p.tables e below _ T181 (mkF m 131 #[.val (.int p1), .val (.int p2), .val (.int p3), .val (.int p4), .val (.int (Int32.ofNat ia)), .val (.int (Int32.ofNat ib)), .val (.int (((p4.toUInt32 >>> ((3 : Int32) &&& 31).toUInt32).toInt32) &&& (3 : Int32))), .val (.int (Int32.ofNat iq)), .val (.int (0 : Int32)), .val (.int (1 : Int32)), .val (.int (0 : Int32)), .val (.ref b178), .unset] [(.int (0 : Int32))])
          refine WP.st (T' := T181) (f' := (mkF m 158 #[.val (.int p1), .val (.int p2), .val (.int p3), .val (.int p4), .val (.int (Int32.ofNat ia)), .val (.int (Int32.ofNat ib)), .val (.int (((p4.toUInt32 >>> ((3 : Int32) &&& 31).toUInt32).toInt32) &&& (3 : Int32))), .val (.int (Int32.ofNat iq)), .val (.int (0 : Int32)), .val (.int (1 : Int32)), .val (.int (0 : Int32)), .val (.ref b178), .unset] [(.int (Int32.ofNat ib)), (.ref b178)])) (fun t k => ?_) ?_
          · refine XS.ifYes X181.here hx rfl (pc0 := 131) (pc' := 136) rfl (hb hby at_131) rfl ((if0 _ _).trans (teq (by decide : (0 : Int32) = (0 : Int32))).1) (by decide) (by decide) ?_
            refine XS.iload X181.here hx rfl (hb hby at_136) rfl ?_
            refine XS.ifYes X181.here hx rfl (pc0 := 138) (pc' := 149) rfl (hb hby at_138) rfl ((if0 _ _).trans (teq (by decide : (0 : Int32) = (0 : Int32))).1) (by decide) (by decide) ?_
            refine XS.iload X181.here hx rfl (hb hby at_149) rfl ?_
            show Steps p.tables e below (T181.setTop (mkF m 151 #[.val (.int p1), .val (.int p2), .val (.int p3), .val (.int p4), .val (.int (Int32.ofNat ia)), .val (.int (Int32.ofNat ib)), .val (.int (((p4.toUInt32 >>> ((3 : Int32) &&& 31).toUInt32).toInt32) &&& (3 : Int32))), .val (.int (Int32.ofNat iq)), .val (.int (0 : Int32)), .val (.int (1 : Int32)), .val (.int (0 : Int32)), .val (.ref b178), .unset] [(.int (1 : Int32))])) t
            refine XS.ifNo X181.here hx rfl (hb hby at_151) rfl ((if0 _ _).trans (feq (by decide : ¬ ((1 : Int32) = (0 : Int32)))).1) ?_
            refine XS.aload X181.here hx rfl (hb hby at_154) rfl rfl ?_
            refine XS.iload X181.here hx rfl (hb hby at_156) rfl ?_
            exact k
          obtain ⟨cq183, kq183, q183a, q183b, q183c⟩ := isOf hZ Kq181 E_b178
          obtain ⟨_, _, ⟨T183, L183, k183, n183⟩, -, X183, ⟨Lc183, hQ183, l183, y183, z183⟩, st183⟩ := X181.virtualBack hx (y := (⟨"com/example/otayori/otayori/codec/PacketIds", "hold", "(I)Z"⟩ : MethodName)) (z := (⟨"com/example/otayori/otayori/codec/PacketIds", "hold", "(I)Z"⟩ : MethodName)) hown (mvT hZ (w_24 hw)) (mvT hZ (w_25 hw)) (notFace_of_selects (args := #[]) (mvT hZ (w_27 hw))) (mvT hZ (w_27 hw)) (mvT hZ (w_26 hw)) (by decide) (backOf (W := 0) (rm5n l Z a0 hw [] b178 (0 : Int32) (1 : Int32) ib h179 n0 Z0 E_b178 g_b178 F_b178_held F_b178_count F_b178_next (h_ib : ib ≤ 65535) OLD (O5 : Sta Z Z.heap "java/util/BitSet" "$assertionsDisabled" "Z" (.int (1 : Int32)))) hZ (w_28 hw) (w_8 hw) (by decide) (by decide)) q183a q183c (g := (mkF m 158 #[.val (.int p1), .val (.int p2), .val (.int p3), .val (.int p4), .val (.int (Int32.ofNat ia)), .val (.int (Int32.ofNat ib)), .val (.int (((p4.toUInt32 >>> ((3 : Int32) &&& 31).toUInt32).toInt32) &&& (3 : Int32))), .val (.int (Int32.ofNat iq)), .val (.int (0 : Int32)), .val (.int (1 : Int32)), .val (.int (0 : Int32)), .val (.ref b178), .unset] [(.int (Int32.ofNat ib)), (.ref b178)])) rfl (by rw [hml]; rfl) (Steps.refl _) (argsL := [(.int (Int32.ofNat ib))]) (rest := []) (lenOf pd_5 rfl) rfl (by show 2 * 0 + _ ≤ _; exact Nat.le_of_eq rfl) (hb hby at_158) (fun _ _ => ⟨rfl, Kq181, (by decide : 1 + 3 ≤ _), (by decide : 3 + 2052 ≤ _)⟩)
          dsimp only [Pt.U, Pt.locs, Pt.cells, Pt.slots] at X183 l183 y183 z183 st183 hQ183
          subst l183 y183 z183
          obtain ⟨bs_183, tw2_183, kw2_183, ws3_183, st2_183, u2_183, c2_183, rfl, Nq183, Kq183, nF183_b178_held, nF183_b178_count, nF183_b178_next, nE183_bs_183, nF183_bs_183_words, nF183_bs_183_wordsInUse, nF183_bs_183_sizeIsSticky, nA183_tw2_183, szq_bs_183, g_bs_183, szq_tw2_183, g_tw2_183, ne_bs_183_tw2_183, hinv3_183, hget3_183, hb3_183⟩ := hQ183
          replace NF := Fr.app NF Nq183
          clear Nq183
          refine WP.tr st183 ?_
          clear st183
          obtain ⟨h183, e183⟩ : ∃ h, T183.heap = h := ⟨_, rfl⟩
          rw [e183] at Kq183 nF183_b178_held nF183_b178_count nF183_b178_next nE183_bs_183 nF183_bs_183_words nF183_bs_183_wordsInUse nF183_bs_183_sizeIsSticky nA183_tw2_183
          have ne_b178_bs_183 : b178 ≠ bs_183 := Nat.ne_of_lt (Nat.lt_of_lt_of_le E_b178.lt szq_bs_183)
          have ne_b178_tw2_183 : b178 ≠ tw2_183 := Nat.ne_of_lt (Nat.lt_of_lt_of_le E_b178.lt szq_tw2_183)
          replace OLD := OLD.keep Kq183 (allS g_b178 all0)
          replace E_b178 := E_b178.keep Kq183
          clear F_b178_held
          clear F_b178_count
          clear F_b178_next
          replace Z0 := Nat.le_trans Z0 Kq183.1
          clear Kq183
          have F_b178_held := nF183_b178_held
          clear nF183_b178_held
          have F_b178_count := nF183_b178_count
          clear nF183_b178_count
          have F_b178_next := nF183_b178_next
          clear nF183_b178_next
          have E_bs_183 := nE183_bs_183
          clear nE183_bs_183
          have F_bs_183_words := nF183_bs_183_words
          clear nF183_bs_183_words
          have F_bs_183_wordsInUse := nF183_bs_183_wordsInUse
          clear nF183_bs_183_wordsInUse
          have F_bs_183_sizeIsSticky := nF183_bs_183_sizeIsSticky
          clear nF183_bs_183_sizeIsSticky
          have V_tw2_183 := nA183_tw2_183
          clear nA183_tw2_183
          have hXN : ∃ LL, Stand p l e room_1 s m #[(.int p1), (.int p2), (.int p3), (.int p4)] below meth c T183 LL 4 2055 ∧ Fr n0 LL := ⟨_, X183, NF⟩
          clear X183 NF
          obtain ⟨LL184, X183, NF⟩ := hXN
          show WP p.tables e below _ T183 (mkF m 161 #[.val (.int p1), .val (.int p2), .val (.int p3), .val (.int p4), .val (.int (Int32.ofNat ia)), .val (.int (Int32.ofNat ib)), .val (.int (((p4.toUInt32 >>> ((3 : Int32) &&& 31).toUInt32).toInt32) &&& (3 : Int32))), .val (.int (Int32.ofNat iq)), .val (.int (0 : Int32)), .val (.int (1 : Int32)), .val (.int (0 : Int32)), .val (.ref b178), .unset] [(.int (1 : Int32))])
          refine WP.st (T' := T183) (f' := (mkF m 175 #[.val (.int p1), .val (.int p2), .val (.int p3), .val (.int p4), .val (.int (Int32.ofNat ia)), .val (.int (Int32.ofNat ib)), .val (.int (((p4.toUInt32 >>> ((3 : Int32) &&& 31).toUInt32).toInt32) &&& (3 : Int32))), .val (.int (Int32.ofNat iq)), .val (.int (0 : Int32)), .val (.int (1 : Int32)), .val (.int (0 : Int32)), .val (.ref b178), .unset] [])) (fun t k => ?_) ?_
          · refine XS.pop X183.here hx rfl (hb hby at_161) rfl rfl ?_
            refine XS.iload X183.here hx rfl (hb hby at_162) rfl ?_
            refine XS.ifYes X183.here hx rfl (pc0 := 164) (pc' := 175) rfl (hb hby at_164) rfl ((if0 _ _).trans (teq (by decide : (0 : Int32) = (0 : Int32))).1) (by decide) (by decide) ?_
            exact k
          by_cases hc185 : (Int32.ofNat iq) = (Int32.ofNat ia)
          · skip
            by_cases hc186 : (Int32.ofNat iq) = (Int32.ofNat ib)
            · skip
              have n_ia : iq = ia := (own_eq (Nat.lt_of_le_of_lt h_iq (by decide)) (Nat.lt_of_le_of_lt h_ia (by decide))).1 hc185
              have n_ib : iq = ib := (own_eq (Nat.lt_of_le_of_lt h_iq (by decide)) (Nat.lt_of_le_of_lt h_ib (by decide))).1 hc186
              refine WP.st (T' := T183) (f' := (mkF m 222 #[.val (.int p1), .val (.int p2), .val (.int p3), .val (.int p4), .val (.int (Int32.ofNat ia)), .val (.int (Int32.ofNat ib)), .val (.int (((p4.toUInt32 >>> ((3 : Int32) &&& 31).toUInt32).toInt32) &&& (3 : Int32))), .val (.int (Int32.ofNat iq)), .val (.int (0 : Int32)), .val (.int (1 : Int32)), .val (.int (0 : Int32)), .val (.ref b178), .val (.int (1 : Int32))] [(.int (Int32.ofNat iq)), (.ref b178)])) (fun t k => ?_) ?_
              · refine XS.iload X183.here hx rfl (hb hby at_175) rfl ?_
                refine XS.ifYes X183.here hx rfl (pc0 := 177) (pc' := 187) rfl (hb hby at_177) rfl ((if0 _ _).trans (teq (by decide : (0 : Int32) = (0 : Int32))).1) (by decide) (by decide) ?_
                refine XS.iload X183.here hx rfl (hb hby at_187) rfl ?_
                refine XS.ifNo X183.here hx rfl (hb hby at_189) rfl ((if0 _ _).trans (feq (by decide : ¬ ((1 : Int32) = (0 : Int32)))).1) ?_
                show Steps p.tables e below (T183.setTop (mkF m 192 #[.val (.int p1), .val (.int p2), .val (.int p3), .val (.int p4), .val (.int (Int32.ofNat ia)), .val (.int (Int32.ofNat ib)), .val (.int (((p4.toUInt32 >>> ((3 : Int32) &&& 31).toUInt32).toInt32) &&& (3 : Int32))), .val (.int (Int32.ofNat iq)), .val (.int (0 : Int32)), .val (.int (1 : Int32)), .val (.int (0 : Int32)), .val (.ref b178), .unset] [])) t
                refine XS.iload X183.here hx rfl (hb hby at_192) rfl ?_
                refine XS.iload X183.here hx rfl (hb hby at_194) rfl ?_
                refine XS.icmpNo X183.here hx rfl (hb hby at_196) rfl (teq hc186).2 ?_
                refine XS.iload X183.here hx rfl (hb hby at_199) rfl ?_
                show Steps p.tables e below (T183.setTop (mkF m 201 #[.val (.int p1), .val (.int p2), .val (.int p3), .val (.int p4), .val (.int (Int32.ofNat ia)), .val (.int (Int32.ofNat ib)), .val (.int (((p4.toUInt32 >>> ((3 : Int32) &&& 31).toUInt32).toInt32) &&& (3 : Int32))), .val (.int (Int32.ofNat iq)), .val (.int (0 : Int32)), .val (.int (1 : Int32)), .val (.int (0 : Int32)), .val (.ref b178), .unset] [(.int (0 : Int32))])) t
                refine XS.ifYes X183.here hx rfl (pc0 := 201) (pc' := 211) rfl (hb hby at_201) rfl ((if0 _ _).trans (teq (by decide : (0 : Int32) = (0 : Int32))).1) (by decide) (by decide) ?_
                refine XS.iconst X183.here hx rfl (hb hby at_211) ?_
                refine XS.goto X183.here hx rfl (pc0 := 212) (pc' := 216) rfl (hb hby at_212) (by decide) (by decide) ?_
                refine XS.istore X183.here hx rfl (hb hby at_216) rfl (l' := #[.val (.int p1), .val (.int p2), .val (.int p3), .val (.int p4), .val (.int (Int32.ofNat ia)), .val (.int (Int32.ofNat ib)), .val (.int (((p4.toUInt32 >>> ((3 : Int32) &&& 31).toUInt32).toInt32) &&& (3 : Int32))), .val (.int (Int32.ofNat iq)), .val (.int (0 : Int32)), .val (.int (1 : Int32)), .val (.int (0 : Int32)), .val (.ref b178), .val (.int (1 : Int32))]) rfl ?_
                show Steps p.tables e below (T183.setTop (mkF m 218 #[.val (.int p1), .val (.int p2), .val (.int p3), .val (.int p4), .val (.int (Int32.ofNat ia)), .val (.int (Int32.ofNat ib)), .val (.int (((p4.toUInt32 >>> ((3 : Int32) &&& 31).toUInt32).toInt32) &&& (3 : Int32))), .val (.int (Int32.ofNat iq)), .val (.int (0 : Int32)), .val (.int (1 : Int32)), .val (.int (0 : Int32)), .val (.ref b178), .val (.int (1 : Int32))] [])) t
                refine XS.aload X183.here hx rfl (hb hby at_218) rfl rfl ?_
                refine XS.iload X183.here hx rfl (hb hby at_220) rfl ?_
                exact k
              obtain ⟨cq187, kq187, q187a, q187b, q187c⟩ := isOf hZ e183 E_b178
              obtain ⟨_, _, ⟨T187, L187, k187, n187⟩, -, X187, ⟨Lc187, hQ187, l187, y187, z187⟩, st187⟩ := X183.virtualBack hx (y := (⟨"com/example/otayori/otayori/codec/PacketIds", "isHeld", "(I)Z"⟩ : MethodName)) (z := (⟨"com/example/otayori/otayori/codec/PacketIds", "isHeld", "(I)Z"⟩ : MethodName)) hown (mvT hZ (w_17 hw)) (mvT hZ (w_18 hw)) (notFace_of_selects (args := #[]) (mvT hZ (w_20 hw))) (mvT hZ (w_20 hw)) (mvT hZ (w_19 hw)) (by decide) (backOf (W := 0) (rm4y l Z a0 hw [] b178 bs_183 tw2_183 kw2_183 ws3_183 u2_183 st2_183 iq h183 n0 Z0 F_b178_held E_bs_183 g_bs_183 F_bs_183_words F_bs_183_wordsInUse F_bs_183_sizeIsSticky V_tw2_183 g_tw2_183 ne_bs_183_tw2_183 (hinv3_183 : own_inv ws3_183 u2_183) (Nat.le_trans hb3_183 (by decide) : ws3_183.length ≤ 2048) OLD (O5 : Sta Z Z.heap "java/util/BitSet" "$assertionsDisabled" "Z" (.int (1 : Int32))) (h_iq : iq ≤ 65535)) hZ (w_21 hw) (w_8 hw) (by decide) (by decide)) q187a q187c (g := (mkF m 222 #[.val (.int p1), .val (.int p2), .val (.int p3), .val (.int p4), .val (.int (Int32.ofNat ia)), .val (.int (Int32.ofNat ib)), .val (.int (((p4.toUInt32 >>> ((3 : Int32) &&& 31).toUInt32).toInt32) &&& (3 : Int32))), .val (.int (Int32.ofNat iq)), .val (.int (0 : Int32)), .val (.int (1 : Int32)), .val (.int (0 : Int32)), .val (.ref b178), .val (.int (1 : Int32))] [(.int (Int32.ofNat iq)), (.ref b178)])) rfl (by rw [hml]; rfl) (Steps.refl _) (argsL := [(.int (Int32.ofNat iq))]) (rest := []) (lenOf pd_5 rfl) rfl (by show 2 * 0 + _ ≤ _; exact Nat.le_of_eq rfl) (hb hby at_222) (fun _ _ => ⟨rfl, e183, (by decide : 4 + 0 ≤ _), (by decide : 2055 + 0 ≤ _)⟩)
              dsimp only [Pt.U, Pt.locs, Pt.cells, Pt.slots] at X187 l187 y187 z187 st187 hQ187
              subst l187 y187 z187
              obtain ⟨rfl, Nq187, Kq187⟩ := hQ187
              replace NF := Fr.app NF Nq187
              clear Nq187
              refine WP.tr st187 ?_
              clear st187
              replace Kq187 := Kq187.trans (rfl : h183 = h183)
              have hXN : ∃ LL, Stand p l e room_1 s m #[(.int p1), (.int p2), (.int p3), (.int p4)] below meth c T187 LL 4 2055 ∧ Fr n0 LL := ⟨_, X187, NF⟩
              clear X187 NF
              obtain ⟨LL188, X187, NF⟩ := hXN
              show WP p.tables e below _ T187 (mkF m 225 #[.val (.int p1), .val (.int p2), .val (.int p3), .val (.int p4), .val (.int (Int32.ofNat ia)), .val (.int (Int32.ofNat ib)), .val (.int (((p4.toUInt32 >>> ((3 : Int32) &&& 31).toUInt32).toInt32) &&& (3 : Int32))), .val (.int (Int32.ofNat iq)), .val (.int (0 : Int32)), .val (.int (1 : Int32)), .val (.int (0 : Int32)), .val (.ref b178), .val (.int (1 : Int32))] [(.int (own_get ws3_183 iq))])
              rw [show (own_get ws3_183 iq) = (1 : Int32) from by rw [hget3_183 iq h_iq]; (repeat' split) <;> first | rfl | (exfalso; omega)]
              show WP p.tables e below _ T187 (mkF m 225 #[.val (.int p1), .val (.int p2), .val (.int p3), .val (.int p4), .val (.int (Int32.ofNat ia)), .val (.int (Int32.ofNat ib)), .val (.int (((p4.toUInt32 >>> ((3 : Int32) &&& 31).toUInt32).toInt32) &&& (3 : Int32))), .val (.int (Int32.ofNat iq)), .val (.int (0 : Int32)), .val (.int (1 : Int32)), .val (.int (0 : Int32)), .val (.ref b178), .val (.int (1 : Int32))] [(.int (1 : Int32))])
              refine WP.st (T' := T187) (f' := (mkF m 235 #[.val (.int p1), .val (.int p2), .val (.int p3), .val (.int p4), .val (.int (Int32.ofNat ia)), .val (.int (Int32.ofNat ib)), .val (.int (((p4.toUInt32 >>> ((3 : Int32) &&& 31).toUInt32).toInt32) &&& (3 : Int32))), .val (.int (Int32.ofNat iq)), .val (.int (0 : Int32)), .val (.int (1 : Int32)), .val (.int (0 : Int32)), .val (.ref b178), .val (.int (1 : Int32))] [(.int (1 : Int32))])) (fun t k => ?_) ?_
              · refine XS.iload X187.here hx rfl (hb hby at_225) rfl ?_
                refine XS.icmpNo X187.here hx rfl (hb hby at_227) rfl (teq (by decide : (1 : Int32) = (1 : Int32))).2 ?_
                refine XS.iconst X187.here hx rfl (hb hby at_230) ?_
                refine XS.goto X187.here hx rfl (pc0 := 231) (pc' := 235) rfl (hb hby at_231) (by decide) (by decide) ?_
                exact k
              subst hG
              obtain ⟨fs, hr, hrun, hended, hW, hsame⟩ := X187.leave (v := some (.int (1 : Int32))) (fun h => by rw [Bd.returns] at h; cases h)
              refine WP.fin ⟨_, _, ?_, hrun, hended, _, _, rfl, ?_, ⟨_, rfl⟩, hW, hsame.mono (by decide) (by decide)⟩
              · exact retN X187 hx (t := .boolean) Bd.returns (by simp) (hb hby at_235) hr
              · show Q0 Z p1 p2 p3 p4 h0 n0 _ T187.heap _
                rw [Kq187]
                exact ⟨rfl, NF⟩
            · skip
              have n_ia : iq = ia := (own_eq (Nat.lt_of_le_of_lt h_iq (by decide)) (Nat.lt_of_le_of_lt h_ia (by decide))).1 hc185
              have n_ib : ¬ iq = ib := fun q => hc186 (congrArg Int32.ofNat q)
              refine WP.st (T' := T183) (f' := (mkF m 222 #[.val (.int p1), .val (.int p2), .val (.int p3), .val (.int p4), .val (.int (Int32.ofNat ia)), .val (.int (Int32.ofNat ib)), .val (.int (((p4.toUInt32 >>> ((3 : Int32) &&& 31).toUInt32).toInt32) &&& (3 : Int32))), .val (.int (Int32.ofNat iq)), .val (.int (0 : Int32)), .val (.int (1 : Int32)), .val (.int (0 : Int32)), .val (.ref b178), .val (.int (0 : Int32))] [(.int (Int32.ofNat iq)), (.ref b178)])) (fun t k => ?_) ?_
              · refine XS.iload X183.here hx rfl (hb hby at_175) rfl ?_
                refine XS.ifYes X183.here hx rfl (pc0 := 177) (pc' := 187) rfl (hb hby at_177) rfl ((if0 _ _).trans (teq (by decide : (0 : Int32) = (0 : Int32))).1) (by decide) (by decide) ?_
                refine XS.iload X183.here hx rfl (hb hby at_187) rfl ?_
                refine XS.ifNo X183.here hx rfl (hb hby at_189) rfl ((if0 _ _).trans (feq (by decide : ¬ ((1 : Int32) = (0 : Int32)))).1) ?_
                show Steps p.tables e below (T183.setTop (mkF m 192 #[.val (.int p1), .val (.int p2), .val (.int p3), .val (.int p4), .val (.int (Int32.ofNat ia)), .val (.int (Int32.ofNat ib)), .val (.int (((p4.toUInt32 >>> ((3 : Int32) &&& 31).toUInt32).toInt32) &&& (3 : Int32))), .val (.int (Int32.ofNat iq)), .val (.int (0 : Int32)), .val (.int (1 : Int32)), .val (.int (0 : Int32)), .val (.ref b178), .unset] [])) t
                refine XS.iload X183.here hx rfl (hb hby at_192) rfl ?_
                refine XS.iload X183.here hx rfl (hb hby at_194) rfl ?_
                refine XS.icmpYes X183.here hx rfl (pc0 := 196) (pc' := 215) rfl (hb hby at_196) rfl (feq hc186).2 (by decide) (by decide) ?_
                refine XS.iconst X183.here hx rfl (hb hby at_215) ?_
                show Steps p.tables e below (T183.setTop (mkF m 216 #[.val (.int p1), .val (.int p2), .val (.int p3), .val (.int p4), .val (.int (Int32.ofNat ia)), .val (.int (Int32.ofNat ib)), .val (.int (((p4.toUInt32 >>> ((3 : Int32) &&& 31).toUInt32).toInt32) &&& (3 : Int32))), .val (.int (Int32.ofNat iq)), .val (.int (0 : Int32)), .val (.int (1 : Int32)), .val (.int (0 : Int32)), .val (.ref b178), .unset] [(.int (0 : Int32))])) t
                refine XS.istore X183.here hx rfl (hb hby at_216) rfl (l' := #[.val (.int p1), .val (.int p2), .val (.int p3), .val (.int p4), .val (.int (Int32.ofNat ia)), .val (.int (Int32.ofNat ib)), .val (.int (((p4.toUInt32 >>> ((3 : Int32) &&& 31).toUInt32).toInt32) &&& (3 : Int32))), .val (.int (Int32.ofNat iq)), .val (.int (0 : Int32)), .val (.int (1 : Int32)), .val (.int (0 : Int32)), .val (.ref b178), .val (.int (0 : Int32))]) rfl ?_
                refine XS.aload X183.here hx rfl (hb hby at_218) rfl rfl ?_
                refine XS.iload X183.here hx rfl (hb hby at_220) rfl ?_
                exact k
              obtain ⟨cq189, kq189, q189a, q189b, q189c⟩ := isOf hZ e183 E_b178
              obtain ⟨_, _, ⟨T189, L189, k189, n189⟩, -, X189, ⟨Lc189, hQ189, l189, y189, z189⟩, st189⟩ := X183.virtualBack hx (y := (⟨"com/example/otayori/otayori/codec/PacketIds", "isHeld", "(I)Z"⟩ : MethodName)) (z := (⟨"com/example/otayori/otayori/codec/PacketIds", "isHeld", "(I)Z"⟩ : MethodName)) hown (mvT hZ (w_17 hw)) (mvT hZ (w_18 hw)) (notFace_of_selects (args := #[]) (mvT hZ (w_20 hw))) (mvT hZ (w_20 hw)) (mvT hZ (w_19 hw)) (by decide) (backOf (W := 0) (rm4y l Z a0 hw [] b178 bs_183 tw2_183 kw2_183 ws3_183 u2_183 st2_183 iq h183 n0 Z0 F_b178_held E_bs_183 g_bs_183 F_bs_183_words F_bs_183_wordsInUse F_bs_183_sizeIsSticky V_tw2_183 g_tw2_183 ne_bs_183_tw2_183 (hinv3_183 : own_inv ws3_183 u2_183) (Nat.le_trans hb3_183 (by decide) : ws3_183.length ≤ 2048) OLD (O5 : Sta Z Z.heap "java/util/BitSet" "$assertionsDisabled" "Z" (.int (1 : Int32))) (h_iq : iq ≤ 65535)) hZ (w_21 hw) (w_8 hw) (by decide) (by decide)) q189a q189c (g := (mkF m 222 #[.val (.int p1), .val (.int p2), .val (.int p3), .val (.int p4), .val (.int (Int32.ofNat ia)), .val (.int (Int32.ofNat ib)), .val (.int (((p4.toUInt32 >>> ((3 : Int32) &&& 31).toUInt32).toInt32) &&& (3 : Int32))), .val (.int (Int32.ofNat iq)), .val (.int (0 : Int32)), .val (.int (1 : Int32)), .val (.int (0 : Int32)), .val (.ref b178), .val (.int (0 : Int32))] [(.int (Int32.ofNat iq)), (.ref b178)])) rfl (by rw [hml]; rfl) (Steps.refl _) (argsL := [(.int (Int32.ofNat iq))]) (rest := []) (lenOf pd_5 rfl) rfl (by show 2 * 0 + _ ≤ _; exact Nat.le_of_eq rfl) (hb hby at_222) (fun _ _ => ⟨rfl, e183, (by decide : 4 + 0 ≤ _), (by decide : 2055 + 0 ≤ _)⟩)
              dsimp only [Pt.U, Pt.locs, Pt.cells, Pt.slots] at X189 l189 y189 z189 st189 hQ189
              subst l189 y189 z189
              obtain ⟨rfl, Nq189, Kq189⟩ := hQ189
              replace NF := Fr.app NF Nq189
              clear Nq189
              refine WP.tr st189 ?_
              clear st189
              replace Kq189 := Kq189.trans (rfl : h183 = h183)
              have hXN : ∃ LL, Stand p l e room_1 s m #[(.int p1), (.int p2), (.int p3), (.int p4)] below meth c T189 LL 4 2055 ∧ Fr n0 LL := ⟨_, X189, NF⟩
              clear X189 NF
              obtain ⟨LL190, X189, NF⟩ := hXN
              show WP p.tables e below _ T189 (mkF m 225 #[.val (.int p1), .val (.int p2), .val (.int p3), .val (.int p4), .val (.int (Int32.ofNat ia)), .val (.int (Int32.ofNat ib)), .val (.int (((p4.toUInt32 >>> ((3 : Int32) &&& 31).toUInt32).toInt32) &&& (3 : Int32))), .val (.int (Int32.ofNat iq)), .val (.int (0 : Int32)), .val (.int (1 : Int32)), .val (.int (0 : Int32)), .val (.ref b178), .val (.int (0 : Int32))] [(.int (own_get ws3_183 iq))])
              rw [show (own_get ws3_183 iq) = (0 : Int32) from by rw [hget3_183 iq h_iq]; (repeat' split) <;> first | rfl | (exfalso; omega)]
              show WP p.tables e below _ T189 (mkF m 225 #[.val (.int p1), .val (.int p2), .val (.int p3), .val (.int p4), .val (.int (Int32.ofNat ia)), .val (.int (Int32.ofNat ib)), .val (.int (((p4.toUInt32 >>> ((3 : Int32) &&& 31).toUInt32).toInt32) &&& (3 : Int32))), .val (.int (Int32.ofNat iq)), .val (.int (0 : Int32)), .val (.int (1 : Int32)), .val (.int (0 : Int32)), .val (.ref b178), .val (.int (0 : Int32))] [(.int (0 : Int32))])
              refine WP.st (T' := T189) (f' := (mkF m 235 #[.val (.int p1), .val (.int p2), .val (.int p3), .val (.int p4), .val (.int (Int32.ofNat ia)), .val (.int (Int32.ofNat ib)), .val (.int (((p4.toUInt32 >>> ((3 : Int32) &&& 31).toUInt32).toInt32) &&& (3 : Int32))), .val (.int (Int32.ofNat iq)), .val (.int (0 : Int32)), .val (.int (1 : Int32)), .val (.int (0 : Int32)), .val (.ref b178), .val (.int (0 : Int32))] [(.int (1 : Int32))])) (fun t k => ?_) ?_
              · refine XS.iload X189.here hx rfl (hb hby at_225) rfl ?_
                refine XS.icmpNo X189.here hx rfl (hb hby at_227) rfl (teq (by decide : (0 : Int32) = (0 : Int32))).2 ?_
                refine XS.iconst X189.here hx rfl (hb hby at_230) ?_
                refine XS.goto X189.here hx rfl (pc0 := 231) (pc' := 235) rfl (hb hby at_231) (by decide) (by decide) ?_
                exact k
              subst hG
              obtain ⟨fs, hr, hrun, hended, hW, hsame⟩ := X189.leave (v := some (.int (1 : Int32))) (fun h => by rw [Bd.returns] at h; cases h)
              refine WP.fin ⟨_, _, ?_, hrun, hended, _, _, rfl, ?_, ⟨_, rfl⟩, hW, hsame.mono (by decide) (by decide)⟩
              · exact retN X189 hx (t := .boolean) Bd.returns (by simp) (hb hby at_235) hr
              · show Q0 Z p1 p2 p3 p4 h0 n0 _ T189.heap _
                rw [Kq189]
                exact ⟨rfl, NF⟩
          · skip
            by_cases hc191 : (Int32.ofNat iq) = (Int32.ofNat ib)
            · skip
              have n_ia : ¬ iq = ia := fun q => hc185 (congrArg Int32.ofNat q)
              have n_ib : iq = ib := (own_eq (Nat.lt_of_le_of_lt h_iq (by decide)) (Nat.lt_of_le_of_lt h_ib (by decide))).1 hc191
              refine WP.st (T' := T183) (f' := (mkF m 222 #[.val (.int p1), .val (.int p2), .val (.int p3), .val (.int p4), .val (.int (Int32.ofNat ia)), .val (.int (Int32.ofNat ib)), .val (.int (((p4.toUInt32 >>> ((3 : Int32) &&& 31).toUInt32).toInt32) &&& (3 : Int32))), .val (.int (Int32.ofNat iq)), .val (.int (0 : Int32)), .val (.int (1 : Int32)), .val (.int (0 : Int32)), .val (.ref b178), .val (.int (1 : Int32))] [(.int (Int32.ofNat iq)), (.ref b178)])) (fun t k => ?_) ?_
              · refine XS.iload X183.here hx rfl (hb hby at_175) rfl ?_
                refine XS.ifYes X183.here hx rfl (pc0 := 177) (pc' := 187) rfl (hb hby at_177) rfl ((if0 _ _).trans (teq (by decide : (0 : Int32) = (0 : Int32))).1) (by decide) (by decide) ?_
                refine XS.iload X183.here hx rfl (hb hby at_187) rfl ?_
                refine XS.ifNo X183.here hx rfl (hb hby at_189) rfl ((if0 _ _).trans (feq (by decide : ¬ ((1 : Int32) = (0 : Int32)))).1) ?_
                show Steps p.tables e below (T183.setTop (mkF m 192 #[.val (.int p1), .val (.int p2), .val (.int p3), .val (.int p4), .val (.int (Int32.ofNat ia)), .val (.int (Int32.ofNat ib)), .val (.int (((p4.toUInt32 >>> ((3 : Int32) &&& 31).toUInt32).toInt32) &&& (3 : Int32))), .val (.int (Int32.ofNat iq)), .val (.int (0 : Int32)), .val (.int (1 : Int32)), .val (.int (0 : Int32)), .val (.ref b178), .unset] [])) t
                refine XS.iload X183.here hx rfl (hb hby at_192) rfl ?_
                refine XS.iload X183.here hx rfl (hb hby at_194) rfl ?_
                refine XS.icmpNo X183.here hx rfl (hb hby at_196) rfl (teq hc191).2 ?_
                refine XS.iload X183.here hx rfl (hb hby at_199) rfl ?_
                show Steps p.tables e below (T183.setTop (mkF m 201 #[.val (.int p1), .val (.int p2), .val (.int p3), .val (.int p4), .val (.int (Int32.ofNat ia)), .val (.int (Int32.ofNat ib)), .val (.int (((p4.toUInt32 >>> ((3 : Int32) &&& 31).toUInt32).toInt32) &&& (3 : Int32))), .val (.int (Int32.ofNat iq)), .val (.int (0 : Int32)), .val (.int (1 : Int32)), .val (.int (0 : Int32)), .val (.ref b178), .unset] [(.int (0 : Int32))])) t
                refine XS.ifYes X183.here hx rfl (pc0 := 201) (pc' := 211) rfl (hb hby at_201) rfl ((if0 _ _).trans (teq (by decide : (0 : Int32) = (0 : Int32))).1) (by decide) (by decide) ?_
                refine XS.iconst X183.here hx rfl (hb hby at_211) ?_
                refine XS.goto X183.here hx rfl (pc0 := 212) (pc' := 216) rfl (hb hby at_212) (by decide) (by decide) ?_
                refine XS.istore X183.here hx rfl (hb hby at_216) rfl (l' := #[.val (.int p1), .val (.int p2), .val (.int p3), .val (.int p4), .val (.int (Int32.ofNat ia)), .val (.int (Int32.ofNat ib)), .val (.int (((p4.toUInt32 >>> ((3 : Int32) &&& 31).toUInt32).toInt32) &&& (3 : Int32))), .val (.int (Int32.ofNat iq)), .val (.int (0 : Int32)), .val (.int (1 : Int32)), .val (.int (0 : Int32)), .val (.ref b178), .val (.int (1 : Int32))]) rfl ?_
                show Steps p.tables e below (T183.setTop (mkF m 218 #[.val (.int p1), .val (.int p2), .val (.int p3), .val (.int p4), .val (.int (Int32.ofNat ia)), .val (.int (Int32.ofNat ib)), .val (.int (((p4.toUInt32 >>> ((3 : Int32) &&& 31).toUInt32).toInt32) &&& (3 : Int32))), .val (.int (Int32.ofNat iq)), .val (.int (0 : Int32)), .val (.int (1 : Int32)), .val (.int (0 : Int32)), .val (.ref b178), .val (.int (1 : Int32))] [])) t
                refine XS.aload X183.here hx rfl (hb hby at_218) rfl rfl ?_
                refine XS.iload X183.here hx rfl (hb hby at_220) rfl ?_
                exact k
              obtain ⟨cq192, kq192, q192a, q192b, q192c⟩ := isOf hZ e183 E_b178
              obtain ⟨_, _, ⟨T192, L192, k192, n192⟩, -, X192, ⟨Lc192, hQ192, l192, y192, z192⟩, st192⟩ := X183.virtualBack hx (y := (⟨"com/example/otayori/otayori/codec/PacketIds", "isHeld", "(I)Z"⟩ : MethodName)) (z := (⟨"com/example/otayori/otayori/codec/PacketIds", "isHeld", "(I)Z"⟩ : MethodName)) hown (mvT hZ (w_17 hw)) (mvT hZ (w_18 hw)) (notFace_of_selects (args := #[]) (mvT hZ (w_20 hw))) (mvT hZ (w_20 hw)) (mvT hZ (w_19 hw)) (by decide) (backOf (W := 0) (rm4y l Z a0 hw [] b178 bs_183 tw2_183 kw2_183 ws3_183 u2_183 st2_183 iq h183 n0 Z0 F_b178_held E_bs_183 g_bs_183 F_bs_183_words F_bs_183_wordsInUse F_bs_183_sizeIsSticky V_tw2_183 g_tw2_183 ne_bs_183_tw2_183 (hinv3_183 : own_inv ws3_183 u2_183) (Nat.le_trans hb3_183 (by decide) : ws3_183.length ≤ 2048) OLD (O5 : Sta Z Z.heap "java/util/BitSet" "$assertionsDisabled" "Z" (.int (1 : Int32))) (h_iq : iq ≤ 65535)) hZ (w_21 hw) (w_8 hw) (by decide) (by decide)) q192a q192c (g := (mkF m 222 #[.val (.int p1), .val (.int p2), .val (.int p3), .val (.int p4), .val (.int (Int32.ofNat ia)), .val (.int (Int32.ofNat ib)), .val (.int (((p4.toUInt32 >>> ((3 : Int32) &&& 31).toUInt32).toInt32) &&& (3 : Int32))), .val (.int (Int32.ofNat iq)), .val (.int (0 : Int32)), .val (.int (1 : Int32)), .val (.int (0 : Int32)), .val (.ref b178), .val (.int (1 : Int32))] [(.int (Int32.ofNat iq)), (.ref b178)])) rfl (by rw [hml]; rfl) (Steps.refl _) (argsL := [(.int (Int32.ofNat iq))]) (rest := []) (lenOf pd_5 rfl) rfl (by show 2 * 0 + _ ≤ _; exact Nat.le_of_eq rfl) (hb hby at_222) (fun _ _ => ⟨rfl, e183, (by decide : 4 + 0 ≤ _), (by decide : 2055 + 0 ≤ _)⟩)
              dsimp only [Pt.U, Pt.locs, Pt.cells, Pt.slots] at X192 l192 y192 z192 st192 hQ192
              subst l192 y192 z192
              obtain ⟨rfl, Nq192, Kq192⟩ := hQ192
              replace NF := Fr.app NF Nq192
              clear Nq192
              refine WP.tr st192 ?_
              clear st192
              replace Kq192 := Kq192.trans (rfl : h183 = h183)
              have hXN : ∃ LL, Stand p l e room_1 s m #[(.int p1), (.int p2), (.int p3), (.int p4)] below meth c T192 LL 4 2055 ∧ Fr n0 LL := ⟨_, X192, NF⟩
              clear X192 NF
              obtain ⟨LL193, X192, NF⟩ := hXN
              show WP p.tables e below _ T192 (mkF m 225 #[.val (.int p1), .val (.int p2), .val (.int p3), .val (.int p4), .val (.int (Int32.ofNat ia)), .val (.int (Int32.ofNat ib)), .val (.int (((p4.toUInt32 >>> ((3 : Int32) &&& 31).toUInt32).toInt32) &&& (3 : Int32))), .val (.int (Int32.ofNat iq)), .val (.int (0 : Int32)), .val (.int (1 : Int32)), .val (.int (0 : Int32)), .val (.ref b178), .val (.int (1 : Int32))] [(.int (own_get ws3_183 iq))])
              rw [show (own_get ws3_183 iq) = (1 : Int32) from by rw [hget3_183 iq h_iq]; (repeat' split) <;> first | rfl | (exfalso; omega)]
              show WP p.tables e below _ T192 (mkF m 225 #[.val (.int p1), .val (.int p2), .val (.int p3), .val (.int p4), .val (.int (Int32.ofNat ia)), .val (.int (Int32.ofNat ib)), .val (.int (((p4.toUInt32 >>> ((3 : Int32) &&& 31).toUInt32).toInt32) &&& (3 : Int32))), .val (.int (Int32.ofNat iq)), .val (.int (0 : Int32)), .val (.int (1 : Int32)), .val (.int (0 : Int32)), .val (.ref b178), .val (.int (1 : Int32))] [(.int (1 : Int32))])
              refine WP.st (T' := T192) (f' := (mkF m 235 #[.val (.int p1), .val (.int p2), .val (.int p3), .val (.int p4), .val (.int (Int32.ofNat ia)), .val (.int (Int32.ofNat ib)), .val (.int (((p4.toUInt32 >>> ((3 : Int32) &&& 31).toUInt32).toInt32) &&& (3 : Int32))), .val (.int (Int32.ofNat iq)), .val (.int (0 : Int32)), .val (.int (1 : Int32)), .val (.int (0 : Int32)), .val (.ref b178), .val (.int (1 : Int32))] [(.int (1 : Int32))])) (fun t k => ?_) ?_
              · refine XS.iload X192.here hx rfl (hb hby at_225) rfl ?_
                refine XS.icmpNo X192.here hx rfl (hb hby at_227) rfl (teq (by decide : (1 : Int32) = (1 : Int32))).2 ?_
                refine XS.iconst X192.here hx rfl (hb hby at_230) ?_
                refine XS.goto X192.here hx rfl (pc0 := 231) (pc' := 235) rfl (hb hby at_231) (by decide) (by decide) ?_
                exact k
              subst hG
              obtain ⟨fs, hr, hrun, hended, hW, hsame⟩ := X192.leave (v := some (.int (1 : Int32))) (fun h => by rw [Bd.returns] at h; cases h)
              refine WP.fin ⟨_, _, ?_, hrun, hended, _, _, rfl, ?_, ⟨_, rfl⟩, hW, hsame.mono (by decide) (by decide)⟩
              · exact retN X192 hx (t := .boolean) Bd.returns (by simp) (hb hby at_235) hr
              · show Q0 Z p1 p2 p3 p4 h0 n0 _ T192.heap _
                rw [Kq192]
                exact ⟨rfl, NF⟩
            · skip
              have n_ia : ¬ iq = ia := fun q => hc185 (congrArg Int32.ofNat q)
              have n_ib : ¬ iq = ib := fun q => hc191 (congrArg Int32.ofNat q)
              refine WP.st (T' := T183) (f' := (mkF m 222 #[.val (.int p1), .val (.int p2), .val (.int p3), .val (.int p4), .val (.int (Int32.ofNat ia)), .val (.int (Int32.ofNat ib)), .val (.int (((p4.toUInt32 >>> ((3 : Int32) &&& 31).toUInt32).toInt32) &&& (3 : Int32))), .val (.int (Int32.ofNat iq)), .val (.int (0 : Int32)), .val (.int (1 : Int32)), .val (.int (0 : Int32)), .val (.ref b178), .val (.int (0 : Int32))] [(.int (Int32.ofNat iq)), (.ref b178)])) (fun t k => ?_) ?_
              · refine XS.iload X183.here hx rfl (hb hby at_175) rfl ?_
                refine XS.ifYes X183.here hx rfl (pc0 := 177) (pc' := 187) rfl (hb hby at_177) rfl ((if0 _ _).trans (teq (by decide : (0 : Int32) = (0 : Int32))).1) (by decide) (by decide) ?_
                refine XS.iload X183.here hx rfl (hb hby at_187) rfl ?_
                refine XS.ifNo X183.here hx rfl (hb hby at_189) rfl ((if0 _ _).trans (feq (by decide : ¬ ((1 : Int32) = (0 : Int32)))).1) ?_
                show Steps p.tables e below (T183.setTop (mkF m 192 #[.val (.int p1), .val (.int p2), .val (.int p3), .val (.int p4), .val (.int (Int32.ofNat ia)), .val (.int (Int32.ofNat ib)), .val (.int (((p4.toUInt32 >>> ((3 : Int32) &&& 31).toUInt32).toInt32) &&& (3 : Int32))), .val (.int (Int32.ofNat iq)), .val (.int (0 : Int32)), .val (.int (1 : Int32)), .val (.int (0 : Int32)), .val (.ref b178), .unset] [])) t
                refine XS.iload X183.here hx rfl (hb hby at_192) rfl ?_
                refine XS.iload X183.here hx rfl (hb hby at_194) rfl ?_
                refine XS.icmpYes X183.here hx rfl (pc0 := 196) (pc' := 215) rfl (hb hby at_196) rfl (feq hc191).2 (by decide) (by decide) ?_
                refine XS.iconst X183.here hx rfl (hb hby at_215) ?_
                show Steps p.tables e below (T183.setTop (mkF m 216 #[.val (.int p1), .val (.int p2), .val (.int p3), .val (.int p4), .val (.int (Int32.ofNat ia)), .val (.int (Int32.ofNat ib)), .val (.int (((p4.toUInt32 >>> ((3 : Int32) &&& 31).toUInt32).toInt32) &&& (3 : Int32))), .val (.int (Int32.ofNat iq)), .val (.int (0 : Int32)), .val (.int (1 : Int32)), .val (.int (0 : Int32)), .val (.ref b178), .unset] [(.int (0 : Int32))])) t
                refine XS.istore X183.here hx rfl (hb hby at_216) rfl (l' := #[.val (.int p1), .val (.int p2), .val (.int p3), .val (.int p4), .val (.int (Int32.ofNat ia)), .val (.int (Int32.ofNat ib)), .val (.int (((p4.toUInt32 >>> ((3 : Int32) &&& 31).toUInt32).toInt32) &&& (3 : Int32))), .val (.int (Int32.ofNat iq)), .val (.int (0 : Int32)), .val (.int (1 : Int32)), .val (.int (0 : Int32)), .val (.ref b178), .val (.int (0 : Int32))]) rfl ?_
                refine XS.aload X183.here hx rfl (hb hby at_218) rfl rfl ?_
                refine XS.iload X183.here hx rfl (hb hby at_220) rfl ?_
                exact k
              obtain ⟨cq194, kq194, q194a, q194b, q194c⟩ := isOf hZ e183 E_b178
              obtain ⟨_, _, ⟨T194, L194, k194, n194⟩, -, X194, ⟨Lc194, hQ194, l194, y194, z194⟩, st194⟩ := X183.virtualBack hx (y := (⟨"com/example/otayori/otayori/codec/PacketIds", "isHeld", "(I)Z"⟩ : MethodName)) (z := (⟨"com/example/otayori/otayori/codec/PacketIds", "isHeld", "(I)Z"⟩ : MethodName)) hown (mvT hZ (w_17 hw)) (mvT hZ (w_18 hw)) (notFace_of_selects (args := #[]) (mvT hZ (w_20 hw))) (mvT hZ (w_20 hw)) (mvT hZ (w_19 hw)) (by decide) (backOf (W := 0) (rm4y l Z a0 hw [] b178 bs_183 tw2_183 kw2_183 ws3_183 u2_183 st2_183 iq h183 n0 Z0 F_b178_held E_bs_183 g_bs_183 F_bs_183_words F_bs_183_wordsInUse F_bs_183_sizeIsSticky V_tw2_183 g_tw2_183 ne_bs_183_tw2_183 (hinv3_183 : own_inv ws3_183 u2_183) (Nat.le_trans hb3_183 (by decide) : ws3_183.length ≤ 2048) OLD (O5 : Sta Z Z.heap "java/util/BitSet" "$assertionsDisabled" "Z" (.int (1 : Int32))) (h_iq : iq ≤ 65535)) hZ (w_21 hw) (w_8 hw) (by decide) (by decide)) q194a q194c (g := (mkF m 222 #[.val (.int p1), .val (.int p2), .val (.int p3), .val (.int p4), .val (.int (Int32.ofNat ia)), .val (.int (Int32.ofNat ib)), .val (.int (((p4.toUInt32 >>> ((3 : Int32) &&& 31).toUInt32).toInt32) &&& (3 : Int32))), .val (.int (Int32.ofNat iq)), .val (.int (0 : Int32)), .val (.int (1 : Int32)), .val (.int (0 : Int32)), .val (.ref b178), .val (.int (0 : Int32))] [(.int (Int32.ofNat iq)), (.ref b178)])) rfl (by rw [hml]; rfl) (Steps.refl _) (argsL := [(.int (Int32.ofNat iq))]) (rest := []) (lenOf pd_5 rfl) rfl (by show 2 * 0 + _ ≤ _; exact Nat.le_of_eq rfl) (hb hby at_222) (fun _ _ => ⟨rfl, e183, (by decide : 4 + 0 ≤ _), (by decide : 2055 + 0 ≤ _)⟩)
              dsimp only [Pt.U, Pt.locs, Pt.cells, Pt.slots] at X194 l194 y194 z194 st194 hQ194
              subst l194 y194 z194
              obtain ⟨rfl, Nq194, Kq194⟩ := hQ194
              replace NF := Fr.app NF Nq194
              clear Nq194
              refine WP.tr st194 ?_
              clear st194
              replace Kq194 := Kq194.trans (rfl : h183 = h183)
              have hXN : ∃ LL, Stand p l e room_1 s m #[(.int p1), (.int p2), (.int p3), (.int p4)] below meth c T194 LL 4 2055 ∧ Fr n0 LL := ⟨_, X194, NF⟩
              clear X194 NF
              obtain ⟨LL195, X194, NF⟩ := hXN
              show WP p.tables e below _ T194 (mkF m 225 #[.val (.int p1), .val (.int p2), .val (.int p3), .val (.int p4), .val (.int (Int32.ofNat ia)), .val (.int (Int32.ofNat ib)), .val (.int (((p4.toUInt32 >>> ((3 : Int32) &&& 31).toUInt32).toInt32) &&& (3 : Int32))), .val (.int (Int32.ofNat iq)), .val (.int (0 : Int32)), .val (.int (1 : Int32)), .val (.int (0 : Int32)), .val (.ref b178), .val (.int (0 : Int32))] [(.int (own_get ws3_183 iq))])
              rw [show (own_get ws3_183 iq) = (0 : Int32) from by rw [hget3_183 iq h_iq]; (repeat' split) <;> first | rfl | (exfalso; omega)]
              show WP p.tables e below _ T194 (mkF m 225 #[.val (.int p1), .val (.int p2), .val (.int p3), .val (.int p4), .val (.int (Int32.ofNat ia)), .val (.int (Int32.ofNat ib)), .val (.int (((p4.toUInt32 >>> ((3 : Int32) &&& 31).toUInt32).toInt32) &&& (3 : Int32))), .val (.int (Int32.ofNat iq)), .val (.int (0 : Int32)), .val (.int (1 : Int32)), .val (.int (0 : Int32)), .val (.ref b178), .val (.int (0 : Int32))] [(.int (0 : Int32))])
              refine WP.st (T' := T194) (f' := (mkF m 235 #[.val (.int p1), .val (.int p2), .val (.int p3), .val (.int p4), .val (.int (Int32.ofNat ia)), .val (.int (Int32.ofNat ib)), .val (.int (((p4.toUInt32 >>> ((3 : Int32) &&& 31).toUInt32).toInt32) &&& (3 : Int32))), .val (.int (Int32.ofNat iq)), .val (.int (0 : Int32)), .val (.int (1 : Int32)), .val (.int (0 : Int32)), .val (.ref b178), .val (.int (0 : Int32))] [(.int (1 : Int32))])) (fun t k => ?_) ?_
              · refine XS.iload X194.here hx rfl (hb hby at_225) rfl ?_
                refine XS.icmpNo X194.here hx rfl (hb hby at_227) rfl (teq (by decide : (0 : Int32) = (0 : Int32))).2 ?_
                refine XS.iconst X194.here hx rfl (hb hby at_230) ?_
                refine XS.goto X194.here hx rfl (pc0 := 231) (pc' := 235) rfl (hb hby at_231) (by decide) (by decide) ?_
                exact k
              subst hG
              obtain ⟨fs, hr, hrun, hended, hW, hsame⟩ := X194.leave (v := some (.int (1 : Int32))) (fun h => by rw [Bd.returns] at h; cases h)
              refine WP.fin ⟨_, _, ?_, hrun, hended, _, _, rfl, ?_, ⟨_, rfl⟩, hW, hsame.mono (by decide) (by decide)⟩
              · exact retN X194 hx (t := .boolean) Bd.returns (by simp) (hb hby at_235) hr
              · show Q0 Z p1 p2 p3 p4 h0 n0 _ T194.heap _
                rw [Kq194]
                exact ⟨rfl, NF⟩
        · skip
          refine WP.st (T' := Tj139) (f' := (mkF m 115 #[.val (.int p1), .val (.int p2), .val (.int p3), .val (.int p4), .val (.int (Int32.ofNat ia)), .val (.int (Int32.ofNat ib)), .val (.int (((p4.toUInt32 >>> ((3 : Int32) &&& 31).toUInt32).toInt32) &&& (3 : Int32))), .val (.int (Int32.ofNat iq)), .val (.int (0 : Int32)), .val (.int (1 : Int32)), .val (.int (1 : Int32)), .unset, .unset] [])) (fun t k => ?_) ?_
          · refine XS.ifNo X139.here hx rfl (hb hby at_105) rfl ((if0 _ _).trans (feq hc177).1) ?_
            refine XS.iconst X139.here hx rfl (hb hby at_108) ?_
            refine XS.goto X139.here hx rfl (pc0 := 109) (pc' := 113) rfl (hb hby at_109) (by decide) (by decide) ?_
            refine XS.istore X139.here hx rfl (hb hby at_113) rfl (l' := #[.val (.int p1), .val (.int p2), .val (.int p3), .val (.int p4), .val (.int (Int32.ofNat ia)), .val (.int (Int32.ofNat ib)), .val (.int (((p4.toUInt32 >>> ((3 : Int32) &&& 31).toUInt32).toInt32) &&& (3 : Int32))), .val (.int (Int32.ofNat iq)), .val (.int (0 : Int32)), .val (.int (1 : Int32)), .val (.int (1 : Int32)), .unset, .unset]) rfl ?_
            exact k
          obtain ⟨T196, h196, X196, e196, E196, A196, D196, -, st196⟩ := newO X139 hx hZ hown (w_6 hw) (w_7 hw) (w_8 hw) ej139 (g := (mkF m 115 #[.val (.int p1), .val (.int p2), .val (.int p3), .val (.int p4), .val (.int (Int32.ofNat ia)), .val (.int (Int32.ofNat ib)), .val (.int (((p4.toUInt32 >>> ((3 : Int32) &&& 31).toUInt32).toInt32) &&& (3 : Int32))), .val (.int (Int32.ofNat iq)), .val (.int (0 : Int32)), .val (.int (1 : Int32)), .val (.int (1 : Int32)), .unset, .unset] [])) rfl (hb hby at_115) (by decide) (by decide)
          obtain ⟨b196, g196⟩ : ∃ z, z = h0.size := ⟨_, rfl⟩
          rw [← g196] at A196 D196 st196
          refine WP.st st196 ?_
          clear st196
          have g_b196 : n0 ≤ b196 := Nat.le_trans Z0 (Nat.le_of_eq g196.symm)
          replace OLD := OLD.ext E196
          replace Z0 := Nat.le_trans Z0 E196.1
          have E_b196 := A196
          have F_b196_next : Fld Z h196 b196 "com/example/otayori/otayori/codec/PacketIds" "next" "I" (.int (0 : Int32)) := D196 (Or.inl (w_16 hw)) (ty := .int) (by decide)
          have F_b196_held : Fld Z h196 b196 "com/example/otayori/otayori/codec/PacketIds" "held" "Ljava/util/BitSet;" .null := D196 (Or.inl (w_23 hw)) (ty := (.object "java/util/BitSet")) (by decide)
          have F_b196_count : Fld Z h196 b196 "com/example/otayori/otayori/codec/PacketIds" "count" "I" (.int (0 : Int32)) := D196 (Or.inl (w_78 hw)) (ty := .int) (by decide)
          clear D196 A196
          show WP p.tables e below _ T196 (mkF m 118 #[.val (.int p1), .val (.int p2), .val (.int p3), .val (.int p4), .val (.int (Int32.ofNat ia)), .val (.int (Int32.ofNat ib)), .val (.int (((p4.toUInt32 >>> ((3 : Int32) &&& 31).toUInt32).toInt32) &&& (3 : Int32))), .val (.int (Int32.ofNat iq)), .val (.int (0 : Int32)), .val (.int (1 : Int32)), .val (.int (1 : Int32)), .unset, .unset] [(.ref b196)])
          refine WP.st (T' := T196) (f' := (mkF m 119 #[.val (.int p1), .val (.int p2), .val (.int p3), .val (.int p4), .val (.int (Int32.ofNat ia)), .val (.int (Int32.ofNat ib)), .val (.int (((p4.toUInt32 >>> ((3 : Int32) &&& 31).toUInt32).toInt32) &&& (3 : Int32))), .val (.int (Int32.ofNat iq)), .val (.int (0 : Int32)), .val (.int (1 : Int32)), .val (.int (1 : Int32)), .unset, .unset] [(.ref b196), (.ref b196)])) (fun t k => ?_) ?_
          · refine XS.dup X196.here hx rfl (hb hby at_118) rfl rfl ?_
            exact k
          obtain ⟨_, _, ⟨T197, L197, k197, n197⟩, -, X197, ⟨Lc197, hQ197, l197, y197, z197⟩, st197⟩ := X196.specialBack hx (y := (⟨"com/example/otayori/otayori/codec/PacketIds", "<init>", "()V"⟩ : MethodName)) rfl hown (mvT hZ (w_9 hw)) (mvT hZ (w_10 hw)) (mvT hZ (w_11 hw)) (by decide) (backOf (W := 1) (rm2 l Z a0 hw [] b196 (0 : Int32) (0 : Int32) h196 n0 Z0 E_b196 g_b196 F_b196_held F_b196_count F_b196_next) hZ (w_11 hw) (w_8 hw) (by decide) (by decide)) (g := (mkF m 119 #[.val (.int p1), .val (.int p2), .val (.int p3), .val (.int p4), .val (.int (Int32.ofNat ia)), .val (.int (Int32.ofNat ib)), .val (.int (((p4.toUInt32 >>> ((3 : Int32) &&& 31).toUInt32).toInt32) &&& (3 : Int32))), .val (.int (Int32.ofNat iq)), .val (.int (0 : Int32)), .val (.int (1 : Int32)), .val (.int (1 : Int32)), .unset, .unset] [(.ref b196), (.ref b196)])) rfl (by rw [hml]; rfl) (Steps.refl _) (a := b196) (argsL := []) (rest := [(.ref b196)]) (lenOf pd_4 rfl) rfl (by show 2 * 0 + _ ≤ _; exact Nat.le_of_eq rfl) (hb hby at_119) (fun _ _ => ⟨rfl, e196, (by decide : 1 + 0 ≤ _), (by decide : 3 + 0 ≤ _)⟩)
          dsimp only [Pt.U, Pt.locs, Pt.cells, Pt.slots] at X197 l197 y197 z197 st197 hQ197
          subst l197 y197 z197
          obtain ⟨rfl, Nq197, Kq197, nF197_b196_held, nF197_b196_count, nF197_b196_next⟩ := hQ197
          replace NF := Fr.app NF Nq197
          clear Nq197
          refine WP.tr st197 ?_
          clear st197
          obtain ⟨h197, e197⟩ : ∃ h, T197.heap = h := ⟨_, rfl⟩
          rw [e197] at Kq197 nF197_b196_held nF197_b196_count nF197_b196_next
          replace OLD := OLD.keep Kq197 (allS g_b196 all0)
          replace E_b196 := E_b196.keep Kq197
          clear F_b196_next
          clear F_b196_held
          clear F_b196_count
          replace Z0 := Nat.le_trans Z0 Kq197.1
          clear Kq197
          have F_b196_held := nF197_b196_held
          clear nF197_b196_held
          have F_b196_count := nF197_b196_count
          clear nF197_b196_count
          have F_b196_next := nF197_b196_next
          clear nF197_b196_next
          have hXN : ∃ LL, Stand p l e room_1 s m #[(.int p1), (.int p2), (.int p3), (.int p4)] below meth c T197 LL 1 3 ∧ Fr n0 LL := ⟨_, X197, NF⟩
          clear X197 NF
          obtain ⟨LL198, X197, NF⟩ := hXN
          show WP p.tables e below _ T197 (mkF m 122 #[.val (.int p1), .val (.int p2), .val (.int p3), .val (.int p4), .val (.int (Int32.ofNat ia)), .val (.int (Int32.ofNat ib)), .val (.int (((p4.toUInt32 >>> ((3 : Int32) &&& 31).toUInt32).toInt32) &&& (3 : Int32))), .val (.int (Int32.ofNat iq)), .val (.int (0 : Int32)), .val (.int (1 : Int32)), .val (.int (1 : Int32)), .unset, .unset] [(.ref b196)])
          refine WP.st (T' := T197) (f' := (mkF m 128 #[.val (.int p1), .val (.int p2), .val (.int p3), .val (.int p4), .val (.int (Int32.ofNat ia)), .val (.int (Int32.ofNat ib)), .val (.int (((p4.toUInt32 >>> ((3 : Int32) &&& 31).toUInt32).toInt32) &&& (3 : Int32))), .val (.int (Int32.ofNat iq)), .val (.int (0 : Int32)), .val (.int (1 : Int32)), .val (.int (1 : Int32)), .val (.ref b196), .unset] [(.int (Int32.ofNat iq)), (.ref b196)])) (fun t k => ?_) ?_
          · refine XS.astore X197.here hx rfl (hb hby at_122) rfl rfl (l' := #[.val (.int p1), .val (.int p2), .val (.int p3), .val (.int p4), .val (.int (Int32.ofNat ia)), .val (.int (Int32.ofNat ib)), .val (.int (((p4.toUInt32 >>> ((3 : Int32) &&& 31).toUInt32).toInt32) &&& (3 : Int32))), .val (.int (Int32.ofNat iq)), .val (.int (0 : Int32)), .val (.int (1 : Int32)), .val (.int (1 : Int32)), .val (.ref b196), .unset]) rfl ?_
            refine XS.aload X197.here hx rfl (hb hby at_124) rfl rfl ?_
            refine XS.iload X197.here hx rfl (hb hby at_126) rfl ?_
            exact k
          obtain ⟨cq199, kq199, q199a, q199b, q199c⟩ := isOf hZ e197 E_b196
          obtain ⟨_, _, ⟨T199, L199, k199, n199⟩, -, X199, ⟨Lc199, hQ199, l199, y199, z199⟩, st199⟩ := X197.virtualBack hx (y := (⟨"com/example/otayori/otayori/codec/PacketIds", "isHeld", "(I)Z"⟩ : MethodName)) (z := (⟨"com/example/otayori/otayori/codec/PacketIds", "isHeld", "(I)Z"⟩ : MethodName)) hown (mvT hZ (w_17 hw)) (mvT hZ (w_18 hw)) (notFace_of_selects (args := #[]) (mvT hZ (w_20 hw))) (mvT hZ (w_20 hw)) (mvT hZ (w_19 hw)) (by decide) (backOf (W := 0) (rm4n l Z a0 hw [] b196 iq h197 n0 Z0 F_b196_held) hZ (w_21 hw) (w_8 hw) (by decide) (by decide)) q199a q199c (g := (mkF m 128 #[.val (.int p1), .val (.int p2), .val (.int p3), .val (.int p4), .val (.int (Int32.ofNat ia)), .val (.int (Int32.ofNat ib)), .val (.int (((p4.toUInt32 >>> ((3 : Int32) &&& 31).toUInt32).toInt32) &&& (3 : Int32))), .val (.int (Int32.ofNat iq)), .val (.int (0 : Int32)), .val (.int (1 : Int32)), .val (.int (1 : Int32)), .val (.ref b196), .unset] [(.int (Int32.ofNat iq)), (.ref b196)])) rfl (by rw [hml]; rfl) (Steps.refl _) (argsL := [(.int (Int32.ofNat iq))]) (rest := []) (lenOf pd_5 rfl) rfl (by show 2 * 0 + _ ≤ _; exact Nat.le_of_eq rfl) (hb hby at_128) (fun _ _ => ⟨rfl, e197, (by decide : 1 + 0 ≤ _), (by decide : 3 + 0 ≤ _)⟩)
          dsimp only [Pt.U, Pt.locs, Pt.cells, Pt.slots] at X199 l199 y199 z199 st199 hQ199
          subst l199 y199 z199
          obtain ⟨rfl, Nq199, Kq199⟩ := hQ199
          replace NF := Fr.app NF Nq199
          clear Nq199
          refine WP.tr st199 ?_
          clear st199
          replace Kq199 := Kq199.trans (rfl : h197 = h197)
          have hXN : ∃ LL, Stand p l e room_1 s m #[(.int p1), (.int p2), (.int p3), (.int p4)] below meth c T199 LL 1 3 ∧ Fr n0 LL := ⟨_, X199, NF⟩
          clear X199 NF
          obtain ⟨LL200, X199, NF⟩ := hXN
          show WP p.tables e below _ T199 (mkF m 131 #[.val (.int p1), .val (.int p2), .val (.int p3), .val (.int p4), .val (.int (Int32.ofNat ia)), .val (.int (Int32.ofNat ib)), .val (.int (((p4.toUInt32 >>> ((3 : Int32) &&& 31).toUInt32).toInt32) &&& (3 : Int32))), .val (.int (Int32.ofNat iq)), .val (.int (0 : Int32)), .val (.int (1 : Int32)), .val (.int (1 : Int32)), .val (.ref b196), .unset] [(.int (0 : Int32))])
          refine WP.st (T' := T199) (f' := (mkF m 158 #[.val (.int p1), .val (.int p2), .val (.int p3), .val (.int p4), .val (.int (Int32.ofNat ia)), .val (.int (Int32.ofNat ib)), .val (.int (((p4.toUInt32 >>> ((3 : Int32) &&& 31).toUInt32).toInt32) &&& (3 : Int32))), .val (.int (Int32.ofNat iq)), .val (.int (0 : Int32)), .val (.int (1 : Int32)), .val (.int (1 : Int32)), .val (.ref b196), .unset] [(.int (Int32.ofNat ib)), (.ref b196)])) (fun t k => ?_) ?_
          · refine XS.ifYes X199.here hx rfl (pc0 := 131) (pc' := 136) rfl (hb hby at_131) rfl ((if0 _ _).trans (teq (by decide : (0 : Int32) = (0 : Int32))).1) (by decide) (by decide) ?_
            refine XS.iload X199.here hx rfl (hb hby at_136) rfl ?_
            refine XS.ifYes X199.here hx rfl (pc0 := 138) (pc' := 149) rfl (hb hby at_138) rfl ((if0 _ _).trans (teq (by decide : (0 : Int32) = (0 : Int32))).1) (by decide) (by decide) ?_
            refine XS.iload X199.here hx rfl (hb hby at_149) rfl ?_
            show Steps p.tables e below (T199.setTop (mkF m 151 #[.val (.int p1), .val (.int p2), .val (.int p3), .val (.int p4), .val (.int (Int32.ofNat ia)), .val (.int (Int32.ofNat ib)), .val (.int (((p4.toUInt32 >>> ((3 : Int32) &&& 31).toUInt32).toInt32) &&& (3 : Int32))), .val (.int (Int32.ofNat iq)), .val (.int (0 : Int32)), .val (.int (1 : Int32)), .val (.int (1 : Int32)), .val (.ref b196), .unset] [(.int (1 : Int32))])) t
            refine XS.ifNo X199.here hx rfl (hb hby at_151) rfl ((if0 _ _).trans (feq (by decide : ¬ ((1 : Int32) = (0 : Int32)))).1) ?_
            refine XS.aload X199.here hx rfl (hb hby at_154) rfl rfl ?_
            refine XS.iload X199.here hx rfl (hb hby at_156) rfl ?_
            exact k
          obtain ⟨cq201, kq201, q201a, q201b, q201c⟩ := isOf hZ Kq199 E_b196
          obtain ⟨_, _, ⟨T201, L201, k201, n201⟩, -, X201, ⟨Lc201, hQ201, l201, y201, z201⟩, st201⟩ := X199.virtualBack hx (y := (⟨"com/example/otayori/otayori/codec/PacketIds", "hold", "(I)Z"⟩ : MethodName)) (z := (⟨"com/example/otayori/otayori/codec/PacketIds", "hold", "(I)Z"⟩ : MethodName)) hown (mvT hZ (w_24 hw)) (mvT hZ (w_25 hw)) (notFace_of_selects (args := #[]) (mvT hZ (w_27 hw))) (mvT hZ (w_27 hw)) (mvT hZ (w_26 hw)) (by decide) (backOf (W := 0) (rm5n l Z a0 hw [] b196 (0 : Int32) (1 : Int32) ib h197 n0 Z0 E_b196 g_b196 F_b196_held F_b196_count F_b196_next (h_ib : ib ≤ 65535) OLD (O5 : Sta Z Z.heap "java/util/BitSet" "$assertionsDisabled" "Z" (.int (1 : Int32)))) hZ (w_28 hw) (w_8 hw) (by decide) (by decide)) q201a q201c (g := (mkF m 158 #[.val (.int p1), .val (.int p2), .val (.int p3), .val (.int p4), .val (.int (Int32.ofNat ia)), .val (.int (Int32.ofNat ib)), .val (.int (((p4.toUInt32 >>> ((3 : Int32) &&& 31).toUInt32).toInt32) &&& (3 : Int32))), .val (.int (Int32.ofNat iq)), .val (.int (0 : Int32)), .val (.int (1 : Int32)), .val (.int (1 : Int32)), .val (.ref b196), .unset] [(.int (Int32.ofNat ib)), (.ref b196)])) rfl (by rw [hml]; rfl) (Steps.refl _) (argsL := [(.int (Int32.ofNat ib))]) (rest := []) (lenOf pd_5 rfl) rfl (by show 2 * 0 + _ ≤ _; exact Nat.le_of_eq rfl) (hb hby at_158) (fun _ _ => ⟨rfl, Kq199, (by decide : 1 + 3 ≤ _), (by decide : 3 + 2052 ≤ _)⟩)
          dsimp only [Pt.U, Pt.locs, Pt.cells, Pt.slots] at X201 l201 y201 z201 st201 hQ201
          subst l201 y201 z201
          obtain ⟨bs_201, tw2_201, kw2_201, ws3_201, st2_201, u2_201, c2_201, rfl, Nq201, Kq201, nF201_b196_held, nF201_b196_count, nF201_b196_next, nE201_bs_201, nF201_bs_201_words, nF201_bs_201_wordsInUse, nF201_bs_201_sizeIsSticky, nA201_tw2_201, szq_bs_201, g_bs_201, szq_tw2_201, g_tw2_201, ne_bs_201_tw2_201, hinv3_201, hget3_201, hb3_201⟩ := hQ201
          replace NF := Fr.app NF Nq201
          clear Nq201
          refine WP.tr st201 ?_
          clear st201
          obtain ⟨h201, e201⟩ : ∃ h, T201.heap = h := ⟨_, rfl⟩
          rw [e201] at Kq201 nF201_b196_held nF201_b196_count nF201_b196_next nE201_bs_201 nF201_bs_201_words nF201_bs_201_wordsInUse nF201_bs_201_sizeIsSticky nA201_tw2_201
          have ne_b196_bs_201 : b196 ≠ bs_201 := Nat.ne_of_lt (Nat.lt_of_lt_of_le E_b196.lt szq_bs_201)
          have ne_b196_tw2_201 : b196 ≠ tw2_201 := Nat.ne_of_lt (Nat.lt_of_lt_of_le E_b196.lt szq_tw2_201)
          replace OLD := OLD.keep Kq201 (allS g_b196 all0)
          replace E_b196 := E_b196.keep Kq201
          clear F_b196_held
          clear F_b196_count
          clear F_b196_next
          replace Z0 := Nat.le_trans Z0 Kq201.1
          clear Kq201
          have F_b196_held := nF201_b196_held
          clear nF201_b196_held
          have F_b196_count := nF201_b196_count
          clear nF201_b196_count
          have F_b196_next := nF201_b196_next
          clear nF201_b196_next
          have E_bs_201 := nE201_bs_201
          clear nE201_bs_201
          have F_bs_201_words := nF201_bs_201_words
          clear nF201_bs_201_words
          have F_bs_201_wordsInUse := nF201_bs_201_wordsInUse
          clear nF201_bs_201_wordsInUse
          have F_bs_201_sizeIsSticky := nF201_bs_201_sizeIsSticky
          clear nF201_bs_201_sizeIsSticky
          have V_tw2_201 := nA201_tw2_201
          clear nA201_tw2_201
          have hXN : ∃ LL, Stand p l e room_1 s m #[(.int p1), (.int p2), (.int p3), (.int p4)] below meth c T201 LL 4 2055 ∧ Fr n0 LL := ⟨_, X201, NF⟩
          clear X201 NF
          obtain ⟨LL202, X201, NF⟩ := hXN
          show WP p.tables e below _ T201 (mkF m 161 #[.val (.int p1), .val (.int p2), .val (.int p3), .val (.int p4), .val (.int (Int32.ofNat ia)), .val (.int (Int32.ofNat ib)), .val (.int (((p4.toUInt32 >>> ((3 : Int32) &&& 31).toUInt32).toInt32) &&& (3 : Int32))), .val (.int (Int32.ofNat iq)), .val (.int (0 : Int32)), .val (.int (1 : Int32)), .val (.int (1 : Int32)), .val (.ref b196), .unset] [(.int (1 : Int32))])
          refine WP.st (T' := T201) (f' := (mkF m 171 #[.val (.int p1), .val (.int p2), .val (.int p3), .val (.int p4), .val (.int (Int32.ofNat ia)), .val (.int (Int32.ofNat ib)), .val (.int (((p4.toUInt32 >>> ((3 : Int32) &&& 31).toUInt32).toInt32) &&& (3 : Int32))), .val (.int (Int32.ofNat iq)), .val (.int (0 : Int32)), .val (.int (1 : Int32)), .val (.int (1 : Int32)), .val (.ref b196), .unset] [(.int (Int32.ofNat ia)), (.ref b196)])) (fun t k => ?_) ?_
          · refine XS.pop X201.here hx rfl (hb hby at_161) rfl rfl ?_
            refine XS.iload X201.here hx rfl (hb hby at_162) rfl ?_
            refine XS.ifNo X201.here hx rfl (hb hby at_164) rfl ((if0 _ _).trans (feq (by decide : ¬ ((1 : Int32) = (0 : Int32)))).1) ?_
            refine XS.aload X201.here hx rfl (hb hby at_167) rfl rfl ?_
            show Steps p.tables e below (T201.setTop (mkF m 169 #[.val (.int p1), .val (.int p2), .val (.int p3), .val (.int p4), .val (.int (Int32.ofNat ia)), .val (.int (Int32.ofNat ib)), .val (.int (((p4.toUInt32 >>> ((3 : Int32) &&& 31).toUInt32).toInt32) &&& (3 : Int32))), .val (.int (Int32.ofNat iq)), .val (.int (0 : Int32)), .val (.int (1 : Int32)), .val (.int (1 : Int32)), .val (.ref b196), .unset] [(.ref b196)])) t
            refine XS.iload X201.here hx rfl (hb hby at_169) rfl ?_
            exact k
          obtain ⟨cq203, kq203, q203a, q203b, q203c⟩ := isOf hZ e201 E_b196
          obtain ⟨_, _, ⟨T203, L203, k203, n203⟩, -, X203, ⟨Lc203, hQ203, l203, y203, z203⟩, st203⟩ := X201.virtualBack hx (y := (⟨"com/example/otayori/otayori/codec/PacketIds", "release", "(I)Z"⟩ : MethodName)) (z := (⟨"com/example/otayori/otayori/codec/PacketIds", "release", "(I)Z"⟩ : MethodName)) hown (mvT hZ (w_99 hw)) (mvT hZ (w_100 hw)) (notFace_of_selects (args := #[]) (mvT hZ (w_102 hw))) (mvT hZ (w_102 hw)) (mvT hZ (w_101 hw)) (by decide) (backOf (W := 0) (rm18y l Z a0 hw [] b196 c2_201 (1 : Int32) bs_201 tw2_201 kw2_201 ws3_201 u2_201 st2_201 ia h201 n0 Z0 E_b196 g_b196 F_b196_held F_b196_count F_b196_next E_bs_201 g_bs_201 F_bs_201_words F_bs_201_wordsInUse F_bs_201_sizeIsSticky V_tw2_201 g_tw2_201 ne_bs_201_tw2_201 (hinv3_201 : own_inv ws3_201 u2_201) (Nat.le_trans hb3_201 (by decide) : ws3_201.length ≤ 2048) OLD (O5 : Sta Z Z.heap "java/util/BitSet" "$assertionsDisabled" "Z" (.int (1 : Int32))) (h_ia : ia ≤ 65535) ne_b196_bs_201 ne_b196_tw2_201) hZ (w_103 hw) (w_8 hw) (by decide) (by decide)) q203a q203c (g := (mkF m 171 #[.val (.int p1), .val (.int p2), .val (.int p3), .val (.int p4), .val (.int (Int32.ofNat ia)), .val (.int (Int32.ofNat ib)), .val (.int (((p4.toUInt32 >>> ((3 : Int32) &&& 31).toUInt32).toInt32) &&& (3 : Int32))), .val (.int (Int32.ofNat iq)), .val (.int (0 : Int32)), .val (.int (1 : Int32)), .val (.int (1 : Int32)), .val (.ref b196), .unset] [(.int (Int32.ofNat ia)), (.ref b196)])) rfl (by rw [hml]; rfl) (Steps.refl _) (argsL := [(.int (Int32.ofNat ia))]) (rest := []) (lenOf pd_5 rfl) rfl (by show 2 * 0 + _ ≤ _; exact Nat.le_of_eq rfl) (hb hby at_171) (fun _ _ => ⟨rfl, e201, (by decide : 4 + 0 ≤ _), (by decide : 2055 + 0 ≤ _)⟩)
          dsimp only [Pt.U, Pt.locs, Pt.cells, Pt.slots] at X203 l203 y203 z203 st203 hQ203
          subst l203 y203 z203
          obtain ⟨r_203, ws3_203, u2_203, c2_203, rfl, Nq203, Kq203, nF203_b196_held, nF203_b196_count, nF203_b196_next, nE203_bs_201, nF203_bs_201_words, nF203_bs_201_wordsInUse, nF203_bs_201_sizeIsSticky, nA203_tw2_201, hinv3_203, hget3_203, hb3_203⟩ := hQ203
          replace NF := Fr.app NF Nq203
          clear Nq203
          refine WP.tr st203 ?_
          clear st203
          obtain ⟨h203, e203⟩ : ∃ h, T203.heap = h := ⟨_, rfl⟩
          rw [e203] at Kq203 nF203_b196_held nF203_b196_count nF203_b196_next nE203_bs_201 nF203_bs_201_words nF203_bs_201_wordsInUse nF203_bs_201_sizeIsSticky nA203_tw2_201
          replace OLD := OLD.keep Kq203 (allS g_b196 (allS g_bs_201 (allS g_tw2_201 all0)))
          replace E_b196 := E_b196.keep Kq203
          clear F_b196_held
          clear F_b196_count
          clear F_b196_next
          replace E_bs_201 := E_bs_201.keep Kq203
          clear F_bs_201_words
          clear F_bs_201_wordsInUse
          clear F_bs_201_sizeIsSticky
          clear V_tw2_201
          replace Z0 := Nat.le_trans Z0 Kq203.1
          clear Kq203
          have F_b196_held := nF203_b196_held
          clear nF203_b196_held
          have F_b196_count := nF203_b196_count
          clear nF203_b196_count
          have F_b196_next := nF203_b196_next
          clear nF203_b196_next
          clear E_bs_201
          have E_bs_201 := nE203_bs_201
          clear nE203_bs_201
          have F_bs_201_words := nF203_bs_201_words
          clear nF203_bs_201_words
          have F_bs_201_wordsInUse := nF203_bs_201_wordsInUse
          clear nF203_bs_201_wordsInUse
          have F_bs_201_sizeIsSticky := nF203_bs_201_sizeIsSticky
          clear nF203_bs_201_sizeIsSticky
          have V_tw2_201 := nA203_tw2_201
          clear nA203_tw2_201
          have hXN : ∃ LL, Stand p l e room_1 s m #[(.int p1), (.int p2), (.int p3), (.int p4)] below meth c T203 LL 4 2055 ∧ Fr n0 LL := ⟨_, X203, NF⟩
          clear X203 NF
          obtain ⟨LL204, X203, NF⟩ := hXN
          show WP p.tables e below _ T203 (mkF m 174 #[.val (.int p1), .val (.int p2), .val (.int p3), .val (.int p4), .val (.int (Int32.ofNat ia)), .val (.int (Int32.ofNat ib)), .val (.int (((p4.toUInt32 >>> ((3 : Int32) &&& 31).toUInt32).toInt32) &&& (3 : Int32))), .val (.int (Int32.ofNat iq)), .val (.int (0 : Int32)), .val (.int (1 : Int32)), .val (.int (1 : Int32)), .val (.ref b196), .unset] [(.int r_203)])
          refine WP.st (T' := T203) (f' := (mkF m 175 #[.val (.int p1), .val (.int p2), .val (.int p3), .val (.int p4), .val (.int (Int32.ofNat ia)), .val (.int (Int32.ofNat ib)), .val (.int (((p4.toUInt32 >>> ((3 : Int32) &&& 31).toUInt32).toInt32) &&& (3 : Int32))), .val (.int (Int32.ofNat iq)), .val (.int (0 : Int32)), .val (.int (1 : Int32)), .val (.int (1 : Int32)), .val (.ref b196), .unset] [])) (fun t k => ?_) ?_
          · refine XS.pop X203.here hx rfl (hb hby at_174) rfl rfl ?_
            exact k
          by_cases hc205 : (Int32.ofNat iq) = (Int32.ofNat ia)
          · skip
            by_cases hc206 : (Int32.ofNat iq) = (Int32.ofNat ib)
            · skip
              have n_ia : iq = ia := (own_eq (Nat.lt_of_le_of_lt h_iq (by decide)) (Nat.lt_of_le_of_lt h_ia (by decide))).1 hc205
              have n_ib : iq = ib := (own_eq (Nat.lt_of_le_of_lt h_iq (by decide)) (Nat.lt_of_le_of_lt h_ib (by decide))).1 hc206
              refine WP.st (T' := T203) (f' := (mkF m 222 #[.val (.int p1), .val (.int p2), .val (.int p3), .val (.int p4), .val (.int (Int32.ofNat ia)), .val (.int (Int32.ofNat ib)), .val (.int (((p4.toUInt32 >>> ((3 : Int32) &&& 31).toUInt32).toInt32) &&& (3 : Int32))), .val (.int (Int32.ofNat iq)), .val (.int (0 : Int32)), .val (.int (1 : Int32)), .val (.int (1 : Int32)), .val (.ref b196), .val (.int (0 : Int32))] [(.int (Int32.ofNat iq)), (.ref b196)])) (fun t k => ?_) ?_
              · refine XS.iload X203.here hx rfl (hb hby at_175) rfl ?_
                refine XS.ifYes X203.here hx rfl (pc0 := 177) (pc' := 187) rfl (hb hby at_177) rfl ((if0 _ _).trans (teq (by decide : (0 : Int32) = (0 : Int32))).1) (by decide) (by decide) ?_
                refine XS.iload X203.here hx rfl (hb hby at_187) rfl ?_
                refine XS.ifNo X203.here hx rfl (hb hby at_189) rfl ((if0 _ _).trans (feq (by decide : ¬ ((1 : Int32) = (0 : Int32)))).1) ?_
                show Steps p.tables e below (T203.setTop (mkF m 192 #[.val (.int p1), .val (.int p2), .val (.int p3), .val (.int p4), .val (.int (Int32.ofNat ia)), .val (.int (Int32.ofNat ib)), .val (.int (((p4.toUInt32 >>> ((3 : Int32) &&& 31).toUInt32).toInt32) &&& (3 : Int32))), .val (.int (Int32.ofNat iq)), .val (.int (0 : Int32)), .val (.int (1 : Int32)), .val (.int (1 : Int32)), .val (.ref b196), .unset] [])) t
                refine XS.iload X203.here hx rfl (hb hby at_192) rfl ?_
                refine XS.iload X203.here hx rfl (hb hby at_194) rfl ?_
                refine XS.icmpNo X203.here hx rfl (hb hby at_196) rfl (teq hc206).2 ?_
                refine XS.iload X203.here hx rfl (hb hby at_199) rfl ?_
                show Steps p.tables e below (T203.setTop (mkF m 201 #[.val (.int p1), .val (.int p2), .val (.int p3), .val (.int p4), .val (.int (Int32.ofNat ia)), .val (.int (Int32.ofNat ib)), .val (.int (((p4.toUInt32 >>> ((3 : Int32) &&& 31).toUInt32).toInt32) &&& (3 : Int32))), .val (.int (Int32.ofNat iq)), .val (.int (0 : Int32)), .val (.int (1 : Int32)), .val (.int (1 : Int32)), .val (.ref b196), .unset] [(.int (1 : Int32))])) t
                refine XS.ifNo X203.here hx rfl (hb hby at_201) rfl ((if0 _ _).trans (feq (by decide : ¬ ((1 : Int32) = (0 : Int32)))).1) ?_
                refine XS.iload X203.here hx rfl (hb hby at_204) rfl ?_
                refine XS.iload X203.here hx rfl (hb hby at_206) rfl ?_
                refine XS.icmpYes X203.here hx rfl (pc0 := 208) (pc' := 215) rfl (hb hby at_208) rfl (teq hc205).1 (by decide) (by decide) ?_
                show Steps p.tables e below (T203.setTop (mkF m 215 #[.val (.int p1), .val (.int p2), .val (.int p3), .val (.int p4), .val (.int (Int32.ofNat ia)), .val (.int (Int32.ofNat ib)), .val (.int (((p4.toUInt32 >>> ((3 : Int32) &&& 31).toUInt32).toInt32) &&& (3 : Int32))), .val (.int (Int32.ofNat iq)), .val (.int (0 : Int32)), .val (.int (1 : Int32)), .val (.int (1 : Int32)), .val (.ref b196), .unset] [])) t
                refine XS.iconst X203.here hx rfl (hb hby at_215) ?_
                refine XS.istore X203.here hx rfl (hb hby at_216) rfl (l' := #[.val (.int p1), .val (.int p2), .val (.int p3), .val (.int p4), .val (.int (Int32.ofNat ia)), .val (.int (Int32.ofNat ib)), .val (.int (((p4.toUInt32 >>> ((3 : Int32) &&& 31).toUInt32).toInt32) &&& (3 : Int32))), .val (.int (Int32.ofNat iq)), .val (.int (0 : Int32)), .val (.int (1 : Int32)), .val (.int (1 : Int32)), .val (.ref b196), .val (.int (0 : Int32))]) rfl ?_
                refine XS.aload X203.here hx rfl (hb hby at_218) rfl rfl ?_
                refine XS.iload X203.here hx rfl (hb hby at_220) rfl ?_
                exact k
              obtain ⟨cq207, kq207, q207a, q207b, q207c⟩ := isOf hZ e203 E_b196
              obtain ⟨_, _, ⟨T207, L207, k207, n207⟩, -, X207, ⟨Lc207, hQ207, l207, y207, z207⟩, st207⟩ := X203.virtualBack hx (y := (⟨"com/example/otayori/otayori/codec/PacketIds", "isHeld", "(I)Z"⟩ : MethodName)) (z := (⟨"com/example/otayori/otayori/codec/PacketIds", "isHeld", "(I)Z"⟩ : MethodName)) hown (mvT hZ (w_17 hw)) (mvT hZ (w_18 hw)) (notFace_of_selects (args := #[]) (mvT hZ (w_20 hw))) (mvT hZ (w_20 hw)) (mvT hZ (w_19 hw)) (by decide) (backOf (W := 0) (rm4y l Z a0 hw [] b196 bs_201 tw2_201 kw2_201 ws3_203 u2_203 st2_201 iq h203 n0 Z0 F_b196_held E_bs_201 g_bs_201 F_bs_201_words F_bs_201_wordsInUse F_bs_201_sizeIsSticky V_tw2_201 g_tw2_201 ne_bs_201_tw2_201 (hinv3_203 : own_inv ws3_203 u2_203) (hb3_203 : ws3_203.length ≤ 2048) OLD (O5 : Sta Z Z.heap "java/util/BitSet" "$assertionsDisabled" "Z" (.int (1 : Int32))) (h_iq : iq ≤ 65535)) hZ (w_21 hw) (w_8 hw) (by decide) (by decide)) q207a q207c (g := (mkF m 222 #[.val (.int p1), .val (.int p2), .val (.int p3), .val (.int p4), .val (.int (Int32.ofNat ia)), .val (.int (Int32.ofNat ib)), .val (.int (((p4.toUInt32 >>> ((3 : Int32) &&& 31).toUInt32).toInt32) &&& (3 : Int32))), .val (.int (Int32.ofNat iq)), .val (.int (0 : Int32)), .val (.int (1 : Int32)), .val (.int (1 : Int32)), .val (.ref b196), .val (.int (0 : Int32))] [(.int (Int32.ofNat iq)), (.ref b196)])) rfl (by rw [hml]; rfl) (Steps.refl _) (argsL := [(.int (Int32.ofNat iq))]) (rest := []) (lenOf pd_5 rfl) rfl (by show 2 * 0 + _ ≤ _; exact Nat.le_of_eq rfl) (hb hby at_222) (fun _ _ => ⟨rfl, e203, (by decide : 4 + 0 ≤ _), (by decide : 2055 + 0 ≤ _)⟩)
              dsimp only [Pt.U, Pt.locs, Pt.cells, Pt.slots] at X207 l207 y207 z207 st207 hQ207
              subst l207 y207 z207
              obtain ⟨rfl, Nq207, Kq207⟩ := hQ207
              replace NF := Fr.app NF Nq207
              clear Nq207
              refine WP.tr st207 ?_
              clear st207
              replace Kq207 := Kq207.trans (rfl : h203 = h203)
              have hXN : ∃ LL, Stand p l e room_1 s m #[(.int p1), (.int p2), (.int p3), (.int p4)] below meth c T207 LL 4 2055 ∧ Fr n0 LL := ⟨_, X207, NF⟩
              clear X207 NF
              obtain ⟨LL208, X207, NF⟩ := hXN
              show WP p.tables e below _ T207 (mkF m 225 #[.val (.int p1), .val (.int p2), .val (.int p3), .val (.int p4), .val (.int (Int32.ofNat ia)), .val (.int (Int32.ofNat ib)), .val (.int (((p4.toUInt32 >>> ((3 : Int32) &&& 31).toUInt32).toInt32) &&& (3 : Int32))), .val (.int (Int32.ofNat iq)), .val (.int (0 : Int32)), .val (.int (1 : Int32)), .val (.int (1 : Int32)), .val (.ref b196), .val (.int (0 : Int32))] [(.int (own_get ws3_203 iq))])
              rw [show (own_get ws3_203 iq) = (0 : Int32) from by rw [hget3_203 iq h_iq, hget3_201 iq h_iq]; (repeat' split) <;> first | rfl | (exfalso; omega)]
              show WP p.tables e below _ T207 (mkF m 225 #[.val (.int p1), .val (.int p2), .val (.int p3), .val (.int p4), .val (.int (Int32.ofNat ia)), .val (.int (Int32.ofNat ib)), .val (.int (((p4.toUInt32 >>> ((3 : Int32) &&& 31).toUInt32).toInt32) &&& (3 : Int32))), .val (.int (Int32.ofNat iq)), .val (.int (0 : Int32)), .val (.int (1 : Int32)), .val (.int (1 : Int32)), .val (.ref b196), .val (.int (0 : Int32))] [(.int (0 : Int32))])
              refine WP.st (T' := T207) (f' := (mkF m 235 #[.val (.int p1), .val (.int p2), .val (.int p3), .val (.int p4), .val (.int (Int32.ofNat ia)), .val (.int (Int32.ofNat ib)), .val (.int (((p4.toUInt32 >>> ((3 : Int32) &&& 31).toUInt32).toInt32) &&& (3 : Int32))), .val (.int (Int32.ofNat iq)), .val (.int (0 : Int32)), .val (.int (1 : Int32)), .val (.int (1 : Int32)), .val (.ref b196), .val (.int (0 : Int32))] [(.int (1 : Int32))])) (fun t k => ?_) ?_
              · refine XS.iload X207.here hx rfl (hb hby at_225) rfl ?_
                refine XS.icmpNo X207.here hx rfl (hb hby at_227) rfl (teq (by decide : (0 : Int32) = (0 : Int32))).2 ?_
                refine XS.iconst X207.here hx rfl (hb hby at_230) ?_
                refine XS.goto X207.here hx rfl (pc0 := 231) (pc' := 235) rfl (hb hby at_231) (by decide) (by decide) ?_
                exact k
              subst hG
              obtain ⟨fs, hr, hrun, hended, hW, hsame⟩ := X207.leave (v := some (.int (1 : Int32))) (fun h => by rw [Bd.returns] at h; cases h)
              refine WP.fin ⟨_, _, ?_, hrun, hended, _, _, rfl, ?_, ⟨_, rfl⟩, hW, hsame.mono (by decide) (by decide)⟩
              · exact retN X207 hx (t := .boolean) Bd.returns (by simp) (hb hby at_235) hr
              · show Q0 Z p1 p2 p3 p4 h0 n0 _ T207.heap _
                rw [Kq207]
                exact ⟨rfl, NF⟩
            · skip
              have n_ia : iq = ia := (own_eq (Nat.lt_of_le_of_lt h_iq (by decide)) (Nat.lt_of_le_of_lt h_ia (by decide))).1 hc205
              have n_ib : ¬ iq = ib := fun q => hc206 (congrArg Int32.ofNat q)
              refine WP.st (T' := T203) (f' := (mkF m 222 #[.val (.int p1), .val (.int p2), .val (.int p3), .val (.int p4), .val (.int (Int32.ofNat ia)), .val (.int (Int32.ofNat ib)), .val (.int (((p4.toUInt32 >>> ((3 : Int32) &&& 31).toUInt32).toInt32) &&& (3 : Int32))), .val (.int (Int32.ofNat iq)), .val (.int (0 : Int32)), .val (.int (1 : Int32)), .val (.int (1 : Int32)), .val (.ref b196), .val (.int (0 : Int32))] [(.int (Int32.ofNat iq)), (.ref b196)])) (fun t k => ?_) ?_
              · refine XS.iload X203.here hx rfl (hb hby at_175) rfl ?_
                refine XS.ifYes X203.here hx rfl (pc0 := 177) (pc' := 187) rfl (hb hby at_177) rfl ((if0 _ _).trans (teq (by decide : (0 : Int32) = (0 : Int32))).1) (by decide) (by decide) ?_
                refine XS.iload X203.here hx rfl (hb hby at_187) rfl ?_
                refine XS.ifNo X203.here hx rfl (hb hby at_189) rfl ((if0 _ _).trans (feq (by decide : ¬ ((1 : Int32) = (0 : Int32)))).1) ?_
                show Steps p.tables e below (T203.setTop (mkF m 192 #[.val (.int p1), .val (.int p2), .val (.int p3), .val (.int p4), .val (.int (Int32.ofNat ia)), .val (.int (Int32.ofNat ib)), .val (.int (((p4.toUInt32 >>> ((3 : Int32) &&& 31).toUInt32).toInt32) &&& (3 : Int32))), .val (.int (Int32.ofNat iq)), .val (.int (0 : Int32)), .val (.int (1 : Int32)), .val (.int (1 : Int32)), .val (.ref b196), .unset] [])) t
                refine XS.iload X203.here hx rfl (hb hby at_192) rfl ?_
                refine XS.iload X203.here hx rfl (hb hby at_194) rfl ?_
                refine XS.icmpYes X203.here hx rfl (pc0 := 196) (pc' := 215) rfl (hb hby at_196) rfl (feq hc206).2 (by decide) (by decide) ?_
                refine XS.iconst X203.here hx rfl (hb hby at_215) ?_
                show Steps p.tables e below (T203.setTop (mkF m 216 #[.val (.int p1), .val (.int p2), .val (.int p3), .val (.int p4), .val (.int (Int32.ofNat ia)), .val (.int (Int32.ofNat ib)), .val (.int (((p4.toUInt32 >>> ((3 : Int32) &&& 31).toUInt32).toInt32) &&& (3 : Int32))), .val (.int (Int32.ofNat iq)), .val (.int (0 : Int32)), .val (.int (1 : Int32)), .val (.int (1 : Int32)), .val (.ref b196), .unset] [(.int (0 : Int32))])) t
                refine XS.istore X203.here hx rfl (hb hby at_216) rfl (l' := #[.val (.int p1), .val (.int p2), .val (.int p3), .val (.int p4), .val (.int (Int32.ofNat ia)), .val (.int (Int32.ofNat ib)), .val (.int (((p4.toUInt32 >>> ((3 : Int32) &&& 31).toUInt32).toInt32) &&& (3 : Int32))), .val (.int (Int32.ofNat iq)), .val (.int (0 : Int32)), .val (.int (1 : Int32)), .val (.int (1 : Int32)), .val (.ref b196), .val (.int (0 : Int32))]) rfl ?_
                refine XS.aload X203.here hx rfl (hb hby at_218) rfl rfl ?_
                refine XS.iload X203.here hx rfl (hb hby at_220) rfl ?_
                exact k
              obtain ⟨cq209, kq209, q209a, q209b, q209c⟩ := isOf hZ e203 E_b196
              obtain ⟨_, _, ⟨T209, L209, k209, n209⟩, -, X209, ⟨Lc209, hQ209, l209, y209, z209⟩, st209⟩ := X203.virtualBack hx (y := (⟨"com/example/otayori/otayori/codec/PacketIds", "isHeld", "(I)Z"⟩ : MethodName)) (z := (⟨"com/example/otayori/otayori/codec/PacketIds", "isHeld", "(I)Z"⟩ : MethodName)) hown (mvT hZ (w_17 hw)) (mvT hZ (w_18 hw)) (notFace_of_selects (args := #[]) (mvT hZ (w_20 hw))) (mvT hZ (w_20 hw)) (mvT hZ (w_19 hw)) (by decide) (backOf (W := 0) (rm4y l Z a0 hw [] b196 bs_201 tw2_201 kw2_201 ws3_203 u2_203 st2_201 iq h203 n0 Z0 F_b196_held E_bs_201 g_bs_201 F_bs_201_words F_bs_201_wordsInUse F_bs_201_sizeIsSticky V_tw2_201 g_tw2_201 ne_bs_201_tw2_201 (hinv3_203 : own_inv ws3_203 u2_203) (hb3_203 : ws3_203.length ≤ 2048) OLD (O5 : Sta Z Z.heap "java/util/BitSet" "$assertionsDisabled" "Z" (.int (1 : Int32))) (h_iq : iq ≤ 65535)) hZ (w_21 hw) (w_8 hw) (by decide) (by decide)) q209a q209c (g := (mkF m 222 #[.val (.int p1), .val (.int p2), .val (.int p3), .val (.int p4), .val (.int (Int32.ofNat ia)), .val (.int (Int32.ofNat ib)), .val (.int (((p4.toUInt32 >>> ((3 : Int32) &&& 31).toUInt32).toInt32) &&& (3 : Int32))), .val (.int (Int32.ofNat iq)), .val (.int (0 : Int32)), .val (.int (1 : Int32)), .val (.int (1 : Int32)), .val (.ref b196), .val (.int (0 : Int32))] [(.int (Int32.ofNat iq)), (.ref b196)])) rfl (by rw [hml]; rfl) (Steps.refl _) (argsL := [(.int (Int32.ofNat iq))]) (rest := []) (lenOf pd_5 rfl) rfl (by show 2 * 0 + _ ≤ _; exact Nat.le_of_eq rfl) (hb hby at_222) (fun _ _ => ⟨rfl, e203, (by decide : 4 + 0 ≤ _), (by decide : 2055 + 0 ≤ _)⟩)
              dsimp only [Pt.U, Pt.locs, Pt.cells, Pt.slots] at X209 l209 y209 z209 st209 hQ209
              subst l209 y209 z209
              obtain ⟨rfl, Nq209, Kq209⟩ := hQ209
              replace NF := Fr.app NF Nq209
              clear Nq209
              refine WP.tr st209 ?_
              clear st209
              replace Kq209 := Kq209.trans (rfl : h203 = h203)
              have hXN : ∃ LL, Stand p l e room_1 s m #[(.int p1), (.int p2), (.int p3), (.int p4)] below meth c T209 LL 4 2055 ∧ Fr n0 LL := ⟨_, X209, NF⟩
              clear X209 NF
              obtain ⟨LL210, X209, NF⟩ := hXN
              show WP p.tables e below _ T209 (mkF m 225 #[.val (.int p1), .val (.int p2), .val (.int p3), .val (.int p4), .val (.int (Int32.ofNat ia)), .val (.int (Int32.ofNat ib)), .val (.int (((p4.toUInt32 >>> ((3 : Int32) &&& 31).toUInt32).toInt32) &&& (3 : Int32))), .val (.int (Int32.ofNat iq)), .val (.int (0 : Int32)), .val (.int (1 : Int32)), .val (.int (1 : Int32)), .val (.ref b196), .val (.int (0 : Int32))] [(.int (own_get ws3_203 iq))])
              rw [show (own_get ws3_203 iq) = (0 : Int32) from by rw [hget3_203 iq h_iq, hget3_201 iq h_iq]; (repeat' split) <;> first | rfl | (exfalso; omega)]
              show WP p.tables e below _ T209 (mkF m 225 #[.val (.int p1), .val (.int p2), .val (.int p3), .val (.int p4), .val (.int (Int32.ofNat ia)), .val (.int (Int32.ofNat ib)), .val (.int (((p4.toUInt32 >>> ((3 : Int32) &&& 31).toUInt32).toInt32) &&& (3 : Int32))), .val (.int (Int32.ofNat iq)), .val (.int (0 : Int32)), .val (.int (1 : Int32)), .val (.int (1 : Int32)), .val (.ref b196), .val (.int (0 : Int32))] [(.int (0 : Int32))])
              refine WP.st (T' := T209) (f' := (mkF m 235 #[.val (.int p1), .val (.int p2), .val (.int p3), .val (.int p4), .val (.int (Int32.ofNat ia)), .val (.int (Int32.ofNat ib)), .val (.int (((p4.toUInt32 >>> ((3 : Int32) &&& 31).toUInt32).toInt32) &&& (3 : Int32))), .val (.int (Int32.ofNat iq)), .val (.int (0 : Int32)), .val (.int (1 : Int32)), .val (.int (1 : Int32)), .val (.ref b196), .val (.int (0 : Int32))] [(.int (1 : Int32))])) (fun t k => ?_) ?_
              · refine XS.iload X209.here hx rfl (hb hby at_225) rfl ?_
                refine XS.icmpNo X209.here hx rfl (hb hby at_227) rfl (teq (by decide : (0 : Int32) = (0 : Int32))).2 ?_
                refine XS.iconst X209.here hx rfl (hb hby at_230) ?_
                refine XS.goto X209.here hx rfl (pc0 := 231) (pc' := 235) rfl (hb hby at_231) (by decide) (by decide) ?_
                exact k
              subst hG
              obtain ⟨fs, hr, hrun, hended, hW, hsame⟩ := X209.leave (v := some (.int (1 : Int32))) (fun h => by rw [Bd.returns] at h; cases h)
              refine WP.fin ⟨_, _, ?_, hrun, hended, _, _, rfl, ?_, ⟨_, rfl⟩, hW, hsame.mono (by decide) (by decide)⟩
              · exact retN X209 hx (t := .boolean) Bd.returns (by simp) (hb hby at_235) hr
              · show Q0 Z p1 p2 p3 p4 h0 n0 _ T209.heap _
                rw [Kq209]
                exact ⟨rfl, NF⟩
          · skip
            by_cases hc211 : (Int32.ofNat iq) = (Int32.ofNat ib)
            · skip
              have n_ia : ¬ iq = ia := fun q => hc205 (congrArg Int32.ofNat q)
              have n_ib : iq = ib := (own_eq (Nat.lt_of_le_of_lt h_iq (by decide)) (Nat.lt_of_le_of_lt h_ib (by decide))).1 hc211
              refine WP.st (T' := T203) (f' := (mkF m 222 #[.val (.int p1), .val (.int p2), .val (.int p3), .val (.int p4), .val (.int (Int32.ofNat ia)), .val (.int (Int32.ofNat ib)), .val (.int (((p4.toUInt32 >>> ((3 : Int32) &&& 31).toUInt32).toInt32) &&& (3 : Int32))), .val (.int (Int32.ofNat iq)), .val (.int (0 : Int32)), .val (.int (1 : Int32)), .val (.int (1 : Int32)), .val (.ref b196), .val (.int (1 : Int32))] [(.int (Int32.ofNat iq)), (.ref b196)])) (fun t k => ?_) ?_
              · refine XS.iload X203.here hx rfl (hb hby at_175) rfl ?_
                refine XS.ifYes X203.here hx rfl (pc0 := 177) (pc' := 187) rfl (hb hby at_177) rfl ((if0 _ _).trans (teq (by decide : (0 : Int32) = (0 : Int32))).1) (by decide) (by decide) ?_
                refine XS.iload X203.here hx rfl (hb hby at_187) rfl ?_
                refine XS.ifNo X203.here hx rfl (hb hby at_189) rfl ((if0 _ _).trans (feq (by decide : ¬ ((1 : Int32) = (0 : Int32)))).1) ?_
                show Steps p.tables e below (T203.setTop (mkF m 192 #[.val (.int p1), .val (.int p2), .val (.int p3), .val (.int p4), .val (.int (Int32.ofNat ia)), .val (.int (Int32.ofNat ib)), .val (.int (((p4.toUInt32 >>> ((3 : Int32) &&& 31).toUInt32).toInt32) &&& (3 : Int32))), .val (.int (Int32.ofNat iq)), .val (.int (0 : Int32)), .val (.int (1 : Int32)), .val (.int (1 : Int32)), .val (.ref b196), .unset] [])) t
                refine XS.iload X203.here hx rfl (hb hby at_192) rfl ?_
                refine XS.iload X203.here hx rfl (hb hby at_194) rfl ?_
                refine XS.icmpNo X203.here hx rfl (hb hby at_196) rfl (teq hc211).2 ?_
                refine XS.iload X203.here hx rfl (hb hby at_199) rfl ?_
                show Steps p.tables e below (T203.setTop (mkF m 201 #[.val (.int p1), .val (.int p2), .val (.int p3), .val (.int p4), .val (.int (Int32.ofNat ia)), .val (.int (Int32.ofNat ib)), .val (.int (((p4.toUInt32 >>> ((3 : Int32) &&& 31).toUInt32).toInt32) &&& (3 : Int32))), .val (.int (Int32.ofNat iq)), .val (.int (0 : Int32)), .val (.int (1 : Int32)), .val (.int (1 : Int32)), .val (.ref b196), .unset] [(.int (1 : Int32))])) t
                refine XS.ifNo X203.here hx rfl (hb hby at_201) rfl ((if0 _ _).trans (feq (by decide : ¬ ((1 : Int32) = (0 : Int32)))).1) ?_
                refine XS.iload X203.here hx rfl (hb hby at_204) rfl ?_
                refine XS.iload X203.here hx rfl (hb hby at_206) rfl ?_
                refine XS.icmpNo X203.here hx rfl (hb hby at_208) rfl (feq hc205).1 ?_
                show Steps p.tables e below (T203.setTop (mkF m 211 #[.val (.int p1), .val (.int p2), .val (.int p3), .val (.int p4), .val (.int (Int32.ofNat ia)), .val (.int (Int32.ofNat ib)), .val (.int (((p4.toUInt32 >>> ((3 : Int32) &&& 31).toUInt32).toInt32) &&& (3 : Int32))), .val (.int (Int32.ofNat iq)), .val (.int (0 : Int32)), .val (.int (1 : Int32)), .val (.int (1 : Int32)), .val (.ref b196), .unset] [])) t
                refine XS.iconst X203.here hx rfl (hb hby at_211) ?_
                refine XS.goto X203.here hx rfl (pc0 := 212) (pc' := 216) rfl (hb hby at_212) (by decide) (by decide) ?_
                refine XS.istore X203.here hx rfl (hb hby at_216) rfl (l' := #[.val (.int p1), .val (.int p2), .val (.int p3), .val (.int p4), .val (.int (Int32.ofNat ia)), .val (.int (Int32.ofNat ib)), .val (.int (((p4.toUInt32 >>> ((3 : Int32) &&& 31).toUInt32).toInt32) &&& (3 : Int32))), .val (.int (Int32.ofNat iq)), .val (.int (0 : Int32)), .val (.int (1 : Int32)), .val (.int (1 : Int32)), .val (.ref b196), .val (.int (1 : Int32))]) rfl ?_
                refine XS.aload X203.here hx rfl (hb hby at_218) rfl rfl ?_
                show Steps p.tables e below (T203.setTop (mkF m 220 #[.val (.int p1), .val (.int p2), .val (.int p3), .val (.int p4), .val (.int (Int32.ofNat ia)), .val (.int (Int32.ofNat ib)), .val (.int (((p4.toUInt32 >>> ((3 : Int32) &&& 31).toUInt32).toInt32) &&& (3 : Int32))), .val (.int (Int32.ofNat iq)), .val (.int (0 : Int32)), .val (.int (1 : Int32)), .val (.int (1 : Int32)), .val (.ref b196), .val (.int (1 : Int32))] [(.ref b196)])) t
                refine XS.iload X203.here hx rfl (hb hby at_220) rfl ?_
                exact k
              obtain ⟨cq212, kq212, q212a, q212b, q212c⟩ := isOf hZ e203 E_b196
              obtain ⟨_, _, ⟨T212, L212, k212, n212⟩, -, X212, ⟨Lc212, hQ212, l212, y212, z212⟩, st212⟩ := X203.virtualBack hx (y := (⟨"com/example/otayori/otayori/codec/PacketIds", "isHeld", "(I)Z"⟩ : MethodName)) (z := (⟨"com/example/otayori/otayori/codec/PacketIds", "isHeld", "(I)Z"⟩ : MethodName)) hown (mvT hZ (w_17 hw)) (mvT hZ (w_18 hw)) (notFace_of_selects (args := #[]) (mvT hZ (w_20 hw))) (mvT hZ (w_20 hw)) (mvT hZ (w_19 hw)) (by decide) (backOf (W := 0) (rm4y l Z a0 hw [] b196 bs_201 tw2_201 kw2_201 ws3_203 u2_203 st2_201 iq h203 n0 Z0 F_b196_held E_bs_201 g_bs_201 F_bs_201_words F_bs_201_wordsInUse F_bs_201_sizeIsSticky V_tw2_201 g_tw2_201 ne_bs_201_tw2_201 (hinv3_203 : own_inv ws3_203 u2_203) (hb3_203 : ws3_203.length ≤ 2048) OLD (O5 : Sta Z Z.heap "java/util/BitSet" "$assertionsDisabled" "Z" (.int (1 : Int32))) (h_iq : iq ≤ 65535)) hZ (w_21 hw) (w_8 hw) (by decide) (by decide)) q212a q212c (g := (mkF m 222 #[.val (.int p1), .val (.int p2), .val (.int p3), .val (.int p4), .val (.int (Int32.ofNat ia)), .val (.int (Int32.ofNat ib)), .val (.int (((p4.toUInt32 >>> ((3 : Int32) &&& 31).toUInt32).toInt32) &&& (3 : Int32))), .val (.int (Int32.ofNat iq)), .val (.int (0 : Int32)), .val (.int (1 : Int32)), .val (.int (1 : Int32)), .val (.ref b196), .val (.int (1 : Int32))] [(.int (Int32.ofNat iq)), (.ref b196)])) rfl (by rw [hml]; rfl) (Steps.refl _) (argsL := [(.int (Int32.ofNat iq))]) (rest := []) (lenOf pd_5 rfl) rfl (by show 2 * 0 + _ ≤ _; exact Nat.le_of_eq rfl) (hb hby at_222) (fun _ _ => ⟨rfl, e203, (by decide : 4 + 0 ≤ _), (by decide : 2055 + 0 ≤ _)⟩)
              dsimp only [Pt.U, Pt.locs, Pt.cells, Pt.slots] at X212 l212 y212 z212 st212 hQ212
              subst l212 y212 z212
              obtain ⟨rfl, Nq212, Kq212⟩ := hQ212
              replace NF := Fr.app NF Nq212
              clear Nq212
              refine WP.tr st212 ?_
              clear st212
              replace Kq212 := Kq212.trans (rfl : h203 = h203)
              have hXN : ∃ LL, Stand p l e room_1 s m #[(.int p1), (.int p2), (.int p3), (.int p4)] below meth c T212 LL 4 2055 ∧ Fr n0 LL := ⟨_, X212, NF⟩
              clear X212 NF
              obtain ⟨LL213, X212, NF⟩ := hXN
              show WP p.tables e below _ T212 (mkF m 225 #[.val (.int p1), .val (.int p2), .val (.int p3), .val (.int p4), .val (.int (Int32.ofNat ia)), .val (.int (Int32.ofNat ib)), .val (.int (((p4.toUInt32 >>> ((3 : Int32) &&& 31).toUInt32).toInt32) &&& (3 : Int32))), .val (.int (Int32.ofNat iq)), .val (.int (0 : Int32)), .val (.int (1 : Int32)), .val (.int (1 : Int32)), .val (.ref b196), .val (.int (1 : Int32))] [(.int (own_get ws3_203 iq))])
              rw [show (own_get ws3_203 iq) = (1 : Int32) from by rw [hget3_203 iq h_iq, hget3_201 iq h_iq]; (repeat' split) <;> first | rfl | (exfalso; omega)]
              show WP p.tables e below _ T212 (mkF m 225 #[.val (.int p1), .val (.int p2), .val (.int p3), .val (.int p4), .val (.int (Int32.ofNat ia)), .val (.int (Int32.ofNat ib)), .val (.int (((p4.toUInt32 >>> ((3 : Int32) &&& 31).toUInt32).toInt32) &&& (3 : Int32))), .val (.int (Int32.ofNat iq)), .val (.int (0 : Int32)), .val (.int (1 : Int32)), .val (.int (1 : Int32)), .val (.ref b196), .val (.int (1 : Int32))] [(.int (1 : Int32))])
              refine WP.st (T' := T212) (f' := (mkF m 235 #[.val (.int p1), .val (.int p2), .val (.int p3), .val (.int p4), .val (.int (Int32.ofNat ia)), .val (.int (Int32.ofNat ib)), .val (.int (((p4.toUInt32 >>> ((3 : Int32) &&& 31).toUInt32).toInt32) &&& (3 : Int32))), .val (.int (Int32.ofNat iq)), .val (.int (0 : Int32)), .val (.int (1 : Int32)), .val (.int (1 : Int32)), .val (.ref b196), .val (.int (1 : Int32))] [(.int (1 : Int32))])) (fun t k => ?_) ?_
              · refine XS.iload X212.here hx rfl (hb hby at_225) rfl ?_
                refine XS.icmpNo X212.here hx rfl (hb hby at_227) rfl (teq (by decide : (1 : Int32) = (1 : Int32))).2 ?_
                refine XS.iconst X212.here hx rfl (hb hby at_230) ?_
                refine XS.goto X212.here hx rfl (pc0 := 231) (pc' := 235) rfl (hb hby at_231) (by decide) (by decide) ?_
                exact k
              subst hG
              obtain ⟨fs, hr, hrun, hended, hW, hsame⟩ := X212.leave (v := some (.int (1 : Int32))) (fun h => by rw [Bd.returns] at h; cases h)
              refine WP.fin ⟨_, _, ?_, hrun, hended, _, _, rfl, ?_, ⟨_, rfl⟩, hW, hsame.mono (by decide) (by decide)⟩
              · exact retN X212 hx (t := .boolean) Bd.returns (by simp) (hb hby at_235) hr
              · show Q0 Z p1 p2 p3 p4 h0 n0 _ T212.heap _
                rw [Kq212]
                exact ⟨rfl, NF⟩
            · skip
              have n_ia : ¬ iq = ia := fun q => hc205 (congrArg Int32.ofNat q)
              have n_ib : ¬ iq = ib := fun q => hc211 (congrArg Int32.ofNat q)
              refine WP.st (T' := T203) (f' := (mkF m 222 #[.val (.int p1), .val (.int p2), .val (.int p3), .val (.int p4), .val (.int (Int32.ofNat ia)), .val (.int (Int32.ofNat ib)), .val (.int (((p4.toUInt32 >>> ((3 : Int32) &&& 31).toUInt32).toInt32) &&& (3 : Int32))), .val (.int (Int32.ofNat iq)), .val (.int (0 : Int32)), .val (.int (1 : Int32)), .val (.int (1 : Int32)), .val (.ref b196), .val (.int (0 : Int32))] [(.int (Int32.ofNat iq)), (.ref b196)])) (fun t k => ?_) ?_
              · refine XS.iload X203.here hx rfl (hb hby at_175) rfl ?_
                refine XS.ifYes X203.here hx rfl (pc0 := 177) (pc' := 187) rfl (hb hby at_177) rfl ((if0 _ _).trans (teq (by decide : (0 : Int32) = (0 : Int32))).1) (by decide) (by decide) ?_
                refine XS.iload X203.here hx rfl (hb hby at_187) rfl ?_
                refine XS.ifNo X203.here hx rfl (hb hby at_189) rfl ((if0 _ _).trans (feq (by decide : ¬ ((1 : Int32) = (0 : Int32)))).1) ?_
                show Steps p.tables e below (T203.setTop (mkF m 192 #[.val (.int p1), .val (.int p2), .val (.int p3), .val (.int p4), .val (.int (Int32.ofNat ia)), .val (.int (Int32.ofNat ib)), .val (.int (((p4.toUInt32 >>> ((3 : Int32) &&& 31).toUInt32).toInt32) &&& (3 : Int32))), .val (.int (Int32.ofNat iq)), .val (.int (0 : Int32)), .val (.int (1 : Int32)), .val (.int (1 : Int32)), .val (.ref b196), .unset] [])) t
                refine XS.iload X203.here hx rfl (hb hby at_192) rfl ?_
                refine XS.iload X203.here hx rfl (hb hby at_194) rfl ?_
                refine XS.icmpYes X203.here hx rfl (pc0 := 196) (pc' := 215) rfl (hb hby at_196) rfl (feq hc211).2 (by decide) (by decide) ?_
                refine XS.iconst X203.here hx rfl (hb hby at_215) ?_
                show Steps p.tables e below (T203.setTop (mkF m 216 #[.val (.int p1), .val (.int p2), .val (.int p3), .val (.int p4), .val (.int (Int32.ofNat ia)), .val (.int (Int32.ofNat ib)), .val (.int (((p4.toUInt32 >>> ((3 : Int32) &&& 31).toUInt32).toInt32) &&& (3 : Int32))), .val (.int (Int32.ofNat iq)), .val (.int (0 : Int32)), .val (.int (1 : Int32)), .val (.int (1 : Int32)), .val (.ref b196), .unset] [(.int (0 : Int32))])) t
                refine XS.istore X203.here hx rfl (hb hby at_216) rfl (l' := #[.val (.int p1), .val (.int p2), .val (.int p3), .val (.int p4), .val (.int (Int32.ofNat ia)), .val (.int (Int32.ofNat ib)), .val (.int (((p4.toUInt32 >>> ((3 : Int32) &&& 31).toUInt32).toInt32) &&& (3 : Int32))), .val (.int (Int32.ofNat iq)), .val (.int (0 : Int32)), .val (.int (1 : Int32)), .val (.int (1 : Int32)), .val (.ref b196), .val (.int (0 : Int32))]) rfl ?_
                refine XS.aload X203.here hx rfl (hb hby at_218) rfl rfl ?_
                refine XS.iload X203.here hx rfl (hb hby at_220) rfl ?_
                exact k
              obtain ⟨cq214, kq214, q214a, q214b, q214c⟩ := isOf hZ e203 E_b196
              obtain ⟨_, _, ⟨T214, L214, k214, n214⟩, -, X214, ⟨Lc214, hQ214, l214, y214, z214⟩, st214⟩ := X203.virtualBack hx (y := (⟨"com/example/otayori/otayori/codec/PacketIds", "isHeld", "(I)Z"⟩ : MethodName)) (z := (⟨"com/example/otayori/otayori/codec/PacketIds", "isHeld", "(I)Z"⟩ : MethodName)) hown (mvT hZ (w_17 hw)) (mvT hZ (w_18 hw)) (notFace_of_selects (args := #[]) (mvT hZ (w_20 hw))) (mvT hZ (w_20 hw)) (mvT hZ (w_19 hw)) (by decide) (backOf (W := 0) (rm4y l Z a0 hw [] b196 bs_201 tw2_201 kw2_201 ws3_203 u2_203 st2_201 iq h203 n0 Z0 F_b196_held E_bs_201 g_bs_201 F_bs_201_words F_bs_201_wordsInUse F_bs_201_sizeIsSticky V_tw2_201 g_tw2_201 ne_bs_201_tw2_201 (hinv3_203 : own_inv ws3_203 u2_203) (hb3_203 : ws3_203.length ≤ 2048) OLD (O5 : Sta Z Z.heap "java/util/BitSet" "$assertionsDisabled" "Z" (.int (1 : Int32))) (h_iq : iq ≤ 65535)) hZ (w_21 hw) (w_8 hw) (by decide) (by decide)) q214a q214c (g := (mkF m 222 #[.val (.int p1), .val (.int p2), .val (.int p3), .val (.int p4), .val (.int (Int32.ofNat ia)), .val (.int (Int32.ofNat ib)), .val (.int (((p4.toUInt32 >>> ((3 : Int32) &&& 31).toUInt32).toInt32) &&& (3 : Int32))), .val (.int (Int32.ofNat iq)), .val (.int (0 : Int32)), .val (.int (1 : Int32)), .val (.int (1 : Int32)), .val (.ref b196), .val (.int (0 : Int32))] [(.int (Int32.ofNat iq)), (.ref b196)])) rfl (by rw [hml]; rfl) (Steps.refl _) (argsL := [(.int (Int32.ofNat iq))]) (rest := []) (lenOf pd_5 rfl) rfl (by show 2 * 0 + _ ≤ _; exact Nat.le_of_eq rfl) (hb hby at_222) (fun _ _ => ⟨rfl, e203, (by decide : 4 + 0 ≤ _), (by decide : 2055 + 0 ≤ _)⟩)
              dsimp only [Pt.U, Pt.locs, Pt.cells, Pt.slots] at X214 l214 y214 z214 st214 hQ214
              subst l214 y214 z214
              obtain ⟨rfl, Nq214, Kq214⟩ := hQ214
              replace NF := Fr.app NF Nq214
              clear Nq214
              refine WP.tr st214 ?_
              clear st214
              replace Kq214 := Kq214.trans (rfl : h203 = h203)
              have hXN : ∃ LL, Stand p l e room_1 s m #[(.int p1), (.int p2), (.int p3), (.int p4)] below meth c T214 LL 4 2055 ∧ Fr n0 LL := ⟨_, X214, NF⟩
              clear X214 NF
              obtain ⟨LL215, X214, NF⟩ := hXN
              show WP p.tables e below _ T214 (mkF m 225 #[.val (.int p1), .val (.int p2), .val (.int p3), .val (.int p4), .val (.int (Int32.ofNat ia)), .val (.int (Int32.ofNat ib)), .val (.int (((p4.toUInt32 >>> ((3 : Int32) &&& 31).toUInt32).toInt32) &&& (3 : Int32))), .val (.int (Int32.ofNat iq)), .val (.int (0 : Int32)), .val (.int (1 : Int32)), .val (.int (1 : Int32)), .val (.ref b196), .val (.int (0 : Int32))] [(.int (own_get ws3_203 iq))])
              rw [show (own_get ws3_203 iq) = (0 : Int32) from by rw [hget3_203 iq h_iq, hget3_201 iq h_iq]; (repeat' split) <;> first | rfl | (exfalso; omega)]
              show WP p.tables e below _ T214 (mkF m 225 #[.val (.int p1), .val (.int p2), .val (.int p3), .val (.int p4), .val (.int (Int32.ofNat ia)), .val (.int (Int32.ofNat ib)), .val (.int (((p4.toUInt32 >>> ((3 : Int32) &&& 31).toUInt32).toInt32) &&& (3 : Int32))), .val (.int (Int32.ofNat iq)), .val (.int (0 : Int32)), .val (.int (1 : Int32)), .val (.int (1 : Int32)), .val (.ref b196), .val (.int (0 : Int32))] [(.int (0 : Int32))])
              refine WP.st (T' := T214) (f' := (mkF m 235 #[.val (.int p1), .val (.int p2), .val (.int p3), .val (.int p4), .val (.int (Int32.ofNat ia)), .val (.int (Int32.ofNat ib)), .val (.int (((p4.toUInt32 >>> ((3 : Int32) &&& 31).toUInt32).toInt32) &&& (3 : Int32))), .val (.int (Int32.ofNat iq)), .val (.int (0 : Int32)), .val (.int (1 : Int32)), .val (.int (1 : Int32)), .val (.ref b196), .val (.int (0 : Int32))] [(.int (1 : Int32))])) (fun t k => ?_) ?_
              · refine XS.iload X214.here hx rfl (hb hby at_225) rfl ?_
                refine XS.icmpNo X214.here hx rfl (hb hby at_227) rfl (teq (by decide : (0 : Int32) = (0 : Int32))).2 ?_
                refine XS.iconst X214.here hx rfl (hb hby at_230) ?_
                refine XS.goto X214.here hx rfl (pc0 := 231) (pc' := 235) rfl (hb hby at_231) (by decide) (by decide) ?_
                exact k
              subst hG
              obtain ⟨fs, hr, hrun, hended, hW, hsame⟩ := X214.leave (v := some (.int (1 : Int32))) (fun h => by rw [Bd.returns] at h; cases h)
              refine WP.fin ⟨_, _, ?_, hrun, hended, _, _, rfl, ?_, ⟨_, rfl⟩, hW, hsame.mono (by decide) (by decide)⟩
              · exact retN X214 hx (t := .boolean) Bd.returns (by simp) (hb hby at_235) hr
              · show Q0 Z p1 p2 p3 p4 h0 n0 _ T214.heap _
                rw [Kq214]
                exact ⟨rfl, NF⟩
    · skip
      refine WP.st (T' := Tj139) (f' := (mkF m 92 #[.val (.int p1), .val (.int p2), .val (.int p3), .val (.int p4), .val (.int (Int32.ofNat ia)), .val (.int (Int32.ofNat ib)), .val (.int (((p4.toUInt32 >>> ((3 : Int32) &&& 31).toUInt32).toInt32) &&& (3 : Int32))), .val (.int (Int32.ofNat iq)), .val (.int (1 : Int32)), .unset, .unset, .unset, .unset] [(.int (p4 &&& (2 : Int32)))])) (fun t k => ?_) ?_
      · refine XS.ifNo X139.here hx rfl (hb hby at_79) rfl ((if0 _ _).trans (feq hc140).1) ?_
        refine XS.iconst X139.here hx rfl (hb hby at_82) ?_
        refine XS.goto X139.here hx rfl (pc0 := 83) (pc' := 87) rfl (hb hby at_83) (by decide) (by decide) ?_
        refine XS.istore X139.here hx rfl (hb hby at_87) rfl (l' := #[.val (.int p1), .val (.int p2), .val (.int p3), .val (.int p4), .val (.int (Int32.ofNat ia)), .val (.int (Int32.ofNat ib)), .val (.int (((p4.toUInt32 >>> ((3 : Int32) &&& 31).toUInt32).toInt32) &&& (3 : Int32))), .val (.int (Int32.ofNat iq)), .val (.int (1 : Int32)), .unset, .unset, .unset, .unset]) rfl ?_
        show Steps p.tables e below (Tj139.setTop (mkF m 89 #[.val (.int p1), .val (.int p2), .val (.int p3), .val (.int p4), .val (.int (Int32.ofNat ia)), .val (.int (Int32.ofNat ib)), .val (.int (((p4.toUInt32 >>> ((3 : Int32) &&& 31).toUInt32).toInt32) &&& (3 : Int32))), .val (.int (Int32.ofNat iq)), .val (.int (1 : Int32)), .unset, .unset, .unset, .unset] [])) t
        refine XS.iloadN X139.here hx rfl (hb hby at_89) rfl ?_
        refine XS.iconst X139.here hx rfl (hb hby at_90) ?_
        refine XS.iand X139.here hx rfl (hb hby at_91) rfl ?_
        exact k
      by_cases hc216 : (p4 &&& (2 : Int32)) = (0 : Int32)
      · skip
        refine WP.st (T' := Tj139) (f' := (mkF m 105 #[.val (.int p1), .val (.int p2), .val (.int p3), .val (.int p4), .val (.int (Int32.ofNat ia)), .val (.int (Int32.ofNat ib)), .val (.int (((p4.toUInt32 >>> ((3 : Int32) &&& 31).toUInt32).toInt32) &&& (3 : Int32))), .val (.int (Int32.ofNat iq)), .val (.int (1 : Int32)), .val (.int (0 : Int32)), .unset, .unset, .unset] [(.int (p4 &&& (4 : Int32)))])) (fun t k => ?_) ?_
        · refine XS.ifYes X139.here hx rfl (pc0 := 92) (pc' := 99) rfl (hb hby at_92) rfl ((if0 _ _).trans (teq hc216).1) (by decide) (by decide) ?_
          refine XS.iconst X139.here hx rfl (hb hby at_99) ?_
          refine XS.istore X139.here hx rfl (hb hby at_100) rfl (l' := #[.val (.int p1), .val (.int p2), .val (.int p3), .val (.int p4), .val (.int (Int32.ofNat ia)), .val (.int (Int32.ofNat ib)), .val (.int (((p4.toUInt32 >>> ((3 : Int32) &&& 31).toUInt32).toInt32) &&& (3 : Int32))), .val (.int (Int32.ofNat iq)), .val (.int (1 : Int32)), .val (.int (0 : Int32)), .unset, .unset, .unset]) rfl ?_
          refine XS.iloadN X139.here hx rfl (hb hby at_102) rfl ?_
          show Steps p.tables e below (Tj139.setTop (mkF m 103 #[.val (.int p1), .val (.int p2), .val (.int p3), .val (.int p4), .val (.int (Int32.ofNat ia)), .val (.int (Int32.ofNat ib)), .val (.int (((p4.toUInt32 >>> ((3 : Int32) &&& 31).toUInt32).toInt32) &&& (3 : Int32))), .val (.int (Int32.ofNat iq)), .val (.int (1 : Int32)), .val (.int (0 : Int32)), .unset, .unset, .unset] [(.int p4)])) t
          refine XS.iconst X139.here hx rfl (hb hby at_103) ?_
          refine XS.iand X139.here hx rfl (hb hby at_104) rfl ?_
          exact k
        by_cases hc217 : (p4 &&& (4 : Int32)) = (0 : Int32)
        · skip
          refine WP.st (T' := Tj139) (f' := (mkF m 115 #[.val (.int p1), .val (.int p2), .val (.int p3), .val (.int p4), .val (.int (Int32.ofNat ia)), .val (.int (Int32.ofNat ib)), .val (.int (((p4.toUInt32 >>> ((3 : Int32) &&& 31).toUInt32).toInt32) &&& (3 : Int32))), .val (.int (Int32.ofNat iq)), .val (.int (1 : Int32)), .val (.int (0 : Int32)), .val (.int (0 : Int32)), .unset, .unset] [])) (fun t k => ?_) ?_
          · refine XS.ifYes X139.here hx rfl (pc0 := 105) (pc' := 112) rfl (hb hby at_105) rfl ((if0 _ _).trans (teq hc217).1) (by decide) (by decide) ?_
            refine XS.iconst X139.here hx rfl (hb hby at_112) ?_
            refine XS.istore X139.here hx rfl (hb hby at_113) rfl (l' := #[.val (.int p1), .val (.int p2), .val (.int p3), .val (.int p4), .val (.int (Int32.ofNat ia)), .val (.int (Int32.ofNat ib)), .val (.int (((p4.toUInt32 >>> ((3 : Int32) &&& 31).toUInt32).toInt32) &&& (3 : Int32))), .val (.int (Int32.ofNat iq)), .val (.int (1 : Int32)), .val (.int (0 : Int32)), .val (.int (0 : Int32)), .unset, .unset]) rfl ?_
            exact k
          obtain ⟨T218, h218, X218, e218, E218, A218, D218, -, st218⟩ := newO X139 hx hZ hown (w_6 hw) (w_7 hw) (w_8 hw) ej139 (g := (mkF m 115 #[.val (.int p1), .val (.int p2), .val (.int p3), .val (.int p4), .val (.int (Int32.ofNat ia)), .val (.int (Int32.ofNat ib)), .val (.int (((p4.toUInt32 >>> ((3 : Int32) &&& 31).toUInt32).toInt32) &&& (3 : Int32))), .val (.int (Int32.ofNat iq)), .val (.int (1 : Int32)), .val (.int (0 : Int32)), .val (.int (0 : Int32)), .unset, .unset] [])) rfl (hb hby at_115) (by decide) (by decide)
          obtain ⟨b218, g218⟩ : ∃ z, z = h0.size := ⟨_, rfl⟩
          rw [← g218] at A218 D218 st218
          refine WP.st st218 ?_
          clear st218
          have g_b218 : n0 ≤ b218 := Nat.le_trans Z0 (Nat.le_of_eq g218.symm)
          replace OLD := OLD.ext E218
          replace Z0 := Nat.le_trans Z0 E218.1
          have E_b218 := A218
          have F_b218_next : Fld Z h218 b218 "com/example/otayori/otayori/codec/PacketIds" "next" "I" (.int (0 : Int32)) := D218 (Or.inl (w_16 hw)) (ty := .int) (by decide)
          have F_b218_held : Fld Z h218 b218 "com/example/otayori/otayori/codec/PacketIds" "held" "Ljava/util/BitSet;" .null := D218 (Or.inl (w_23 hw)) (ty := (.object "java/util/BitSet")) (by decide)
          have F_b218_count : Fld Z h218 b218 "com/example/otayori/otayori/codec/PacketIds" "count" "I" (.int (0 : Int32)) := D218 (Or.inl (w_78 hw)) (ty := .int) (by decide)
          clear D218 A218
          show WP p.tables e below _ T218 (mkF m 118 #[.val (.int p1), .val (.int p2), .val (.int p3), .val (.int p4), .val (.int (Int32.ofNat ia)), .val (.int (Int32.ofNat ib)), .val (.int (((p4.toUInt32 >>> ((3 : Int32) &&& 31).toUInt32).toInt32) &&& (3 : Int32))), .val (.int (Int32.ofNat iq)), .val (.int (1 : Int32)), .val (.int (0 : Int32)), .val (.int (0 : Int32)), .unset, .unset] [(.ref b218)])
          refine WP.st (T' := T218) (f' := (mkF m 119 #[.val (.int p1), .val (.int p2), .val (.int p3), .val (.int p4), .val (.int (Int32.ofNat ia)), .val (.int (Int32.ofNat ib)), .val (.int (((p4.toUInt32 >>> ((3 : Int32) &&& 31).toUInt32).toInt32) &&& (3 : Int32))), .val (.int (Int32.ofNat iq)), .val (.int (1 : Int32)), .val (.int (0 : Int32)), .val (.int (0 : Int32)), .unset, .unset] [(.ref b218), (.ref b218)])) (fun t k => ?_) ?_
          · refine XS.dup X218.here hx rfl (hb hby at_118) rfl rfl ?_
            exact k
          obtain ⟨_, _, ⟨T219, L219, k219, n219⟩, -, X219, ⟨Lc219, hQ219, l219, y219, z219⟩, st219⟩ := X218.specialBack hx (y := (⟨"com/example/otayori/otayori/codec/PacketIds", "<init>", "()V"⟩ : MethodName)) rfl hown (mvT hZ (w_9 hw)) (mvT hZ (w_10 hw)) (mvT hZ (w_11 hw)) (by decide) (backOf (W := 1) (rm2 l Z a0 hw [] b218 (0 : Int32) (0 : Int32) h218 n0 Z0 E_b218 g_b218 F_b218_held F_b218_count F_b218_next) hZ (w_11 hw) (w_8 hw) (by decide) (by decide)) (g := (mkF m 119 #[.val (.int p1), .val (.int p2), .val (.int p3), .val (.int p4), .val (.int (Int32.ofNat ia)), .val (.int (Int32.ofNat ib)), .val (.int (((p4.toUInt32 >>> ((3 : Int32) &&& 31).toUInt32).toInt32) &&& (3 : Int32))), .val (.int (Int32.ofNat iq)), .val (.int (1 : Int32)), .val (.int (0 : Int32)), .val (.int (0 : Int32)), .unset, .unset] [(.ref b218), (.ref b218)])) rfl (by rw [hml]; rfl) (Steps.refl _) (a := b218) (argsL := []) (rest := [(.ref b218)]) (lenOf pd_4 rfl) rfl (by show 2 * 0 + _ ≤ _; exact Nat.le_of_eq rfl) (hb hby at_119) (fun _ _ => ⟨rfl, e218, (by decide : 1 + 0 ≤ _), (by decide : 3 + 0 ≤ _)⟩)
          dsimp only [Pt.U, Pt.locs, Pt.cells, Pt.slots] at X219 l219 y219 z219 st219 hQ219
          subst l219 y219 z219
          obtain ⟨rfl, Nq219, Kq219, nF219_b218_held, nF219_b218_count, nF219_b218_next⟩ := hQ219
          replace NF := Fr.app NF Nq219
          clear Nq219
          refine WP.tr st219 ?_
          clear st219
          obtain ⟨h219, e219⟩ : ∃ h, T219.heap = h := ⟨_, rfl⟩
          rw [e219] at Kq219 nF219_b218_held nF219_b218_count nF219_b218_next
          replace OLD := OLD.keep Kq219 (allS g_b218 all0)
          replace E_b218 := E_b218.keep Kq219
          clear F_b218_next
          clear F_b218_held
          clear F_b218_count
          replace Z0 := Nat.le_trans Z0 Kq219.1
          clear Kq219
          have F_b218_held := nF219_b218_held
          clear nF219_b218_held
          have F_b218_count := nF219_b218_count
          clear nF219_b218_count
          have F_b218_next := nF219_b218_next
          clear nF219_b218_next
          have hXN : ∃ LL, Stand p l e room_1 s m #[(.int p1), (.int p2), (.int p3), (.int p4)] below meth c T219 LL 1 3 ∧ Fr n0 LL := ⟨_, X219, NF⟩
          clear X219 NF
          obtain ⟨LL220, X219, NF⟩ := hXN
          show WP p.tables e below _ T219 (mkF m 122 #[.val (.int p1), .val (.int p2), .val (.int p3), .val (.int p4), .val (.int (Int32.ofNat ia)), .val (.int (Int32.ofNat ib)), .val (.int (((p4.toUInt32 >>> ((3 : Int32) &&& 31).toUInt32).toInt32) &&& (3 : Int32))), .val (.int (Int32.ofNat iq)), .val (.int (1 : Int32)), .val (.int (0 : Int32)), .val (.int (0 : Int32)), .unset, .unset] [(.ref b218)])
          refine WP.st (T' := T219) (f' := (mkF m 128 #[.val (.int p1), .val (.int p2), .val (.int p3), .val (.int p4), .val (.int (Int32.ofNat ia)), .val (.int (Int32.ofNat ib)), .val (.int (((p4.toUInt32 >>> ((3 : Int32) &&& 31).toUInt32).toInt32) &&& (3 : Int32))), .val (.int (Int32.ofNat iq)), .val (.int (1 : Int32)), .val (.int (0 : Int32)), .val (.int (0 : Int32)), .val (.ref b218), .unset] [(.int (Int32.ofNat iq)), (.ref b218)])) (fun t k => ?_) ?_
          · refine XS.astore X219.here hx rfl (hb hby at_122) rfl rfl (l' := #[.val (.int p1), .val (.int p2), .val (.int p3), .val (.int p4), .val (.int (Int32.ofNat ia)), .val (.int (Int32.ofNat ib)), .val (.int (((p4.toUInt32 >>> ((3 : Int32) &&& 31).toUInt32).toInt32) &&& (3 : Int32))), .val (.int (Int32.ofNat iq)), .val (.int (1 : Int32)), .val (.int (0 : Int32)), .val (.int (0 : Int32)), .val (.ref b218), .unset]) rfl ?_
            refine XS.aload X219.here hx rfl (hb hby at_124) rfl rfl ?_
            refine XS.iload X219.here hx rfl (hb hby at_126) rfl ?_
            exact k
          obtain ⟨cq221, kq221, q221a, q221b, q221c⟩ := isOf hZ e219 E_b218
          obtain ⟨_, _, ⟨T221, L221, k221, n221⟩, -, X221, ⟨Lc221, hQ221, l221, y221, z221⟩, st221⟩ := X219.virtualBack hx (y := (⟨"com/example/otayori/otayori/codec/PacketIds", "isHeld", "(I)Z"⟩ : MethodName)) (z := (⟨"com/example/otayori/otayori/codec/PacketIds", "isHeld", "(I)Z"⟩ : MethodName)) hown (mvT hZ (w_17 hw)) (mvT hZ (w_18 hw)) (notFace_of_selects (args := #[]) (mvT hZ (w_20 hw))) (mvT hZ (w_20 hw)) (mvT hZ (w_19 hw)) (by decide) (backOf (W := 0) (rm4n l Z a0 hw [] b218 iq h219 n0 Z0 F_b218_held) hZ (w_21 hw) (w_8 hw) (by decide) (by decide)) q221a q221c (g := (mkF m 128 #[.val (.int p1), .val (.int p2), .val (.int p3), .val (.int p4), .val (.int (Int32.ofNat ia)), .val (.int (Int32.ofNat ib)), .val (.int (((p4.toUInt32 >>> ((3 : Int32) &&& 31).toUInt32).toInt32) &&& (3 : Int32))), .val (.int (Int32.ofNat iq)), .val (.int (1 : Int32)), .val (.int (0 : Int32)), .val (.int (0 : Int32)), .val (.ref b218), .unset] [(.int (Int32.ofNat iq)), (.ref b218)])) rfl (by rw [hml]; rfl) (Steps.refl _) (argsL := [(.int (Int32.ofNat iq))]) (rest := []) (lenOf pd_5 rfl) rfl (by show 2 * 0 + _ ≤ _; exact Nat.le_of_eq rfl) (hb hby at_128) (fun _ _ => ⟨rfl, e219, (by decide : 1 + 0 ≤ _), (by decide : 3 + 0 ≤ _)⟩)
          dsimp only [Pt.U, Pt.locs, Pt.cells, Pt.slots] at X221 l221 y221 z221 st221 hQ221
          subst l221 y221 z221
          obtain ⟨rfl, Nq221, Kq221⟩ := hQ221
          replace NF := Fr.app NF Nq221
          clear Nq221
          refine WP.tr st221 ?_
          clear st221
          replace Kq221 := Kq221.trans (rfl : h219 = h219)
          have hXN : ∃ LL, Stand p l e room_1 s m #[(.int p1), (.int p2), (.int p3), (.int p4)] below meth c T221 LL 1 3 ∧ Fr n0 LL := ⟨_, X221, NF⟩
          clear X221 NF
          obtain ⟨LL222, X221, NF⟩ := hXN
          show WP p.tables e below _ T221 (mkF m 131 #[.val (.int p1), .val (.int p2), .val (.int p3), .val (.int p4), .val (.int (Int32.ofNat ia)), .val (.int (Int32.ofNat ib)), .val (.int (((p4.toUInt32 >>> ((3 : Int32) &&& 31).toUInt32).toInt32) &&& (3 : Int32))), .val (.int (Int32.ofNat iq)), .val (.int (1 : Int32)), .val (.int (0 : Int32)), .val (.int (0 : Int32)), .val (.ref b218), .unset] [(.int (0 : Int32))])
          refine WP.st (T' := T221) (f' := (mkF m 145 #[.val (.int p1), .val (.int p2), .val (.int p3), .val (.int p4), .val (.int (Int32.ofNat ia)), .val (.int (Int32.ofNat ib)), .val (.int (((p4.toUInt32 >>> ((3 : Int32) &&& 31).toUInt32).toInt32) &&& (3 : Int32))), .val (.int (Int32.ofNat iq)), .val (.int (1 : Int32)), .val (.int (0 : Int32)), .val (.int (0 : Int32)), .val (.ref b218), .unset] [(.int (Int32.ofNat ia)), (.ref b218)])) (fun t k => ?_) ?_
          · refine XS.ifYes X221.here hx rfl (pc0 := 131) (pc' := 136) rfl (hb hby at_131) rfl ((if0 _ _).trans (teq (by decide : (0 : Int32) = (0 : Int32))).1) (by decide) (by decide) ?_
            refine XS.iload X221.here hx rfl (hb hby at_136) rfl ?_
            refine XS.ifNo X221.here hx rfl (hb hby at_138) rfl ((if0 _ _).trans (feq (by decide : ¬ ((1 : Int32) = (0 : Int32)))).1) ?_
            refine XS.aload X221.here hx rfl (hb hby at_141) rfl rfl ?_
            show Steps p.tables e below (T221.setTop (mkF m 143 #[.val (.int p1), .val (.int p2), .val (.int p3), .val (.int p4), .val (.int (Int32.ofNat ia)), .val (.int (Int32.ofNat ib)), .val (.int (((p4.toUInt32 >>> ((3 : Int32) &&& 31).toUInt32).toInt32) &&& (3 : Int32))), .val (.int (Int32.ofNat iq)), .val (.int (1 : Int32)), .val (.int (0 : Int32)), .val (.int (0 : Int32)), .val (.ref b218), .unset] [(.ref b218)])) t
            refine XS.iload X221.here hx rfl (hb hby at_143) rfl ?_
            exact k
          obtain ⟨cq223, kq223, q223a, q223b, q223c⟩ := isOf hZ Kq221 E_b218
          obtain ⟨_, _, ⟨T223, L223, k223, n223⟩, -, X223, ⟨Lc223, hQ223, l223, y223, z223⟩, st223⟩ := X221.virtualBack hx (y := (⟨"com/example/otayori/otayori/codec/PacketIds", "hold", "(I)Z"⟩ : MethodName)) (z := (⟨"com/example/otayori/otayori/codec/PacketIds", "hold", "(I)Z"⟩ : MethodName)) hown (mvT hZ (w_24 hw)) (mvT hZ (w_25 hw)) (notFace_of_selects (args := #[]) (mvT hZ (w_27 hw))) (mvT hZ (w_27 hw)) (mvT hZ (w_26 hw)) (by decide) (backOf (W := 0) (rm5n l Z a0 hw [] b218 (0 : Int32) (1 : Int32) ia h219 n0 Z0 E_b218 g_b218 F_b218_held F_b218_count F_b218_next (h_ia : ia ≤ 65535) OLD (O5 : Sta Z Z.heap "java/util/BitSet" "$assertionsDisabled" "Z" (.int (1 : Int32)))) hZ (w_28 hw) (w_8 hw) (by decide) (by decide)) q223a q223c (g := (mkF m 145 #[.val (.int p1), .val (.int p2), .val (.int p3), .val (.int p4), .val (.int (Int32.ofNat ia)), .val (.int (Int32.ofNat ib)), .val (.int (((p4.toUInt32 >>> ((3 : Int32) &&& 31).toUInt32).toInt32) &&& (3 : Int32))), .val (.int (Int32.ofNat iq)), .val (.int (1 : Int32)), .val (.int (0 : Int32)), .val (.int (0 : Int32)), .val (.ref b218), .unset] [(.int (Int32.ofNat ia)), (.ref b218)])) rfl (by rw [hml]; rfl) (Steps.refl _) (argsL := [(.int (Int32.ofNat ia))]) (rest := []) (lenOf pd_5 rfl) rfl (by show 2 * 0 + _ ≤ _; exact Nat.le_of_eq rfl) (hb hby at_145) (fun _ _ => ⟨rfl, Kq221, (by decide : 1 + 3 ≤ _), (by decide : 3 + 2052 ≤ _)⟩)
          dsimp only [Pt.U, Pt.locs, Pt.cells, Pt.slots] at X223 l223 y223 z223 st223 hQ223
          subst l223 y223 z223
          obtain ⟨bs_223, tw2_223, kw2_223, ws3_223, st2_223, u2_223, c2_223, rfl, Nq223, Kq223, nF223_b218_held, nF223_b218_count, nF223_b218_next, nE223_bs_223, nF223_bs_223_words, nF223_bs_223_wordsInUse, nF223_bs_223_sizeIsSticky, nA223_tw2_223, szq_bs_223, g_bs_223, szq_tw2_223, g_tw2_223, ne_bs_223_tw2_223, hinv3_223, hget3_223, hb3_223⟩ := hQ223
          replace NF := Fr.app NF Nq223
          clear Nq223
          refine WP.tr st223 ?_
          clear st223
          obtain ⟨h223, e223⟩ : ∃ h, T223.heap = h := ⟨_, rfl⟩
          rw [e223] at Kq223 nF223_b218_held nF223_b218_count nF223_b218_next nE223_bs_223 nF223_bs_223_words nF223_bs_223_wordsInUse nF223_bs_223_sizeIsSticky nA223_tw2_223
          have ne_b218_bs_223 : b218 ≠ bs_223 := Nat.ne_of_lt (Nat.lt_of_lt_of_le E_b218.lt szq_bs_223)
          have ne_b218_tw2_223 : b218 ≠ tw2_223 := Nat.ne_of_lt (Nat.lt_of_lt_of_le E_b218.lt szq_tw2_223)
          replace OLD := OLD.keep Kq223 (allS g_b218 all0)
          replace E_b218 := E_b218.keep Kq223
          clear F_b218_held
          clear F_b218_count
          clear F_b218_next
          replace Z0 := Nat.le_trans Z0 Kq223.1
          clear Kq223
          have F_b218_held := nF223_b218_held
          clear nF223_b218_held
          have F_b218_count := nF223_b218_count
          clear nF223_b218_count
          have F_b218_next := nF223_b218_next
          clear nF223_b218_next
          have E_bs_223 := nE223_bs_223
          clear nE223_bs_223
          have F_bs_223_words := nF223_bs_223_words
          clear nF223_bs_223_words
          have F_bs_223_wordsInUse := nF223_bs_223_wordsInUse
          clear nF223_bs_223_wordsInUse
          have F_bs_223_sizeIsSticky := nF223_bs_223_sizeIsSticky
          clear nF223_bs_223_sizeIsSticky
          have V_tw2_223 := nA223_tw2_223
          clear nA223_tw2_223
          have hXN : ∃ LL, Stand p l e room_1 s m #[(.int p1), (.int p2), (.int p3), (.int p4)] below meth c T223 LL 4 2055 ∧ Fr n0 LL := ⟨_, X223, NF⟩
          clear X223 NF
          obtain ⟨LL224, X223, NF⟩ := hXN
          show WP p.tables e below _ T223 (mkF m 148 #[.val (.int p1), .val (.int p2), .val (.int p3), .val (.int p4), .val (.int (Int32.ofNat ia)), .val (.int (Int32.ofNat ib)), .val (.int (((p4.toUInt32 >>> ((3 : Int32) &&& 31).toUInt32).toInt32) &&& (3 : Int32))), .val (.int (Int32.ofNat iq)), .val (.int (1 : Int32)), .val (.int (0 : Int32)), .val (.int (0 : Int32)), .val (.ref b218), .unset] [(.int (1 : Int32))])
          refine WP.st (T' := T223) (f' := (mkF m 175 #[.val (.int p1), .val (.int p2), .val (.int p3), .val (.int p4), .val (.int (Int32.ofNat ia)), .val (.int (Int32.ofNat ib)), .val (.int (((p4.toUInt32 >>> ((3 : Int32) &&& 31).toUInt32).toInt32) &&& (3 : Int32))), .val (.int (Int32.ofNat iq)), .val (.int (1 : Int32)), .val (.int (0 : Int32)), .val (.int (0 : Int32)), .val (.ref b218), .unset] [])) (fun t k => ?_) ?_
          · refine XS.pop X223.here hx rfl (hb hby at_148) rfl rfl ?_
            refine XS.iload X223.here hx rfl (hb hby at_149) rfl ?_
            refine XS.ifYes X223.here hx rfl (pc0 := 151) (pc' := 162) rfl (hb hby at_151) rfl ((if0 _ _).trans (teq (by decide : (0 : Int32) = (0 : Int32))).1) (by decide) (by decide) ?_
            refine XS.iload X223.here hx rfl (hb hby at_162) rfl ?_
            show Steps p.tables e below (T223.setTop (mkF m 164 #[.val (.int p1), .val (.int p2), .val (.int p3), .val (.int p4), .val (.int (Int32.ofNat ia)), .val (.int (Int32.ofNat ib)), .val (.int (((p4.toUInt32 >>> ((3 : Int32) &&& 31).toUInt32).toInt32) &&& (3 : Int32))), .val (.int (Int32.ofNat iq)), .val (.int (1 : Int32)), .val (.int (0 : Int32)), .val (.int (0 : Int32)), .val (.ref b218), .unset] [(.int (0 : Int32))])) t
            refine XS.ifYes X223.here hx rfl (pc0 := 164) (pc' := 175) rfl (hb hby at_164) rfl ((if0 _ _).trans (teq (by decide : (0 : Int32) = (0 : Int32))).1) (by decide) (by decide) ?_
            exact k
          by_cases hc225 : (Int32.ofNat iq) = (Int32.ofNat ia)
          · skip
            by_cases hc226 : (Int32.ofNat iq) = (Int32.ofNat ib)
            · skip
              have n_ia : iq = ia := (own_eq (Nat.lt_of_le_of_lt h_iq (by decide)) (Nat.lt_of_le_of_lt h_ia (by decide))).1 hc225
              have n_ib : iq = ib := (own_eq (Nat.lt_of_le_of_lt h_iq (by decide)) (Nat.lt_of_le_of_lt h_ib (by decide))).1 hc226
              refine WP.st (T' := T223) (f' := (mkF m 222 #[.val (.int p1), .val (.int p2), .val (.int p3), .val (.int p4), .val (.int (Int32.ofNat ia)), .val (.int (Int32.ofNat ib)), .val (.int (((p4.toUInt32 >>> ((3 : Int32) &&& 31).toUInt32).toInt32) &&& (3 : Int32))), .val (.int (Int32.ofNat iq)), .val (.int (1 : Int32)), .val (.int (0 : Int32)), .val (.int (0 : Int32)), .val (.ref b218), .val (.int (1 : Int32))] [(.int (Int32.ofNat iq)), (.ref b218)])) (fun t k => ?_) ?_
              · refine XS.iload X223.here hx rfl (hb hby at_175) rfl ?_
                refine XS.ifNo X223.here hx rfl (hb hby at_177) rfl ((if0 _ _).trans (feq (by decide : ¬ ((1 : Int32) = (0 : Int32)))).1) ?_
                refine XS.iload X223.here hx rfl (hb hby at_180) rfl ?_
                refine XS.iload X223.here hx rfl (hb hby at_182) rfl ?_
                show Steps p.tables e below (T223.setTop (mkF m 184 #[.val (.int p1), .val (.int p2), .val (.int p3), .val (.int p4), .val (.int (Int32.ofNat ia)), .val (.int (Int32.ofNat ib)), .val (.int (((p4.toUInt32 >>> ((3 : Int32) &&& 31).toUInt32).toInt32) &&& (3 : Int32))), .val (.int (Int32.ofNat iq)), .val (.int (1 : Int32)), .val (.int (0 : Int32)), .val (.int (0 : Int32)), .val (.ref b218), .unset] [(.int (Int32.ofNat ia)), (.int (Int32.ofNat iq))])) t
                refine XS.icmpYes X223.here hx rfl (pc0 := 184) (pc' := 199) rfl (hb hby at_184) rfl (teq hc225).1 (by decide) (by decide) ?_
                refine XS.iload X223.here hx rfl (hb hby at_199) rfl ?_
                refine XS.ifYes X223.here hx rfl (pc0 := 201) (pc' := 211) rfl (hb hby at_201) rfl ((if0 _ _).trans (teq (by decide : (0 : Int32) = (0 : Int32))).1) (by decide) (by decide) ?_
                refine XS.iconst X223.here hx rfl (hb hby at_211) ?_
                show Steps p.tables e below (T223.setTop (mkF m 212 #[.val (.int p1), .val (.int p2), .val (.int p3), .val (.int p4), .val (.int (Int32.ofNat ia)), .val (.int (Int32.ofNat ib)), .val (.int (((p4.toUInt32 >>> ((3 : Int32) &&& 31).toUInt32).toInt32) &&& (3 : Int32))), .val (.int (Int32.ofNat iq)), .val (.int (1 : Int32)), .val (.int (0 : Int32)), .val (.int (0 : Int32)), .val (.ref b218), .unset] [(.int (1 : Int32))])) t
                refine XS.goto X223.here hx rfl (pc0 := 212) (pc' := 216) rfl (hb hby at_212) (by decide) (by decide) ?_
                refine XS.istore X223.here hx rfl (hb hby at_216) rfl (l' := #[.val (.int p1), .val (.int p2), .val (.int p3), .val (.int p4), .val (.int (Int32.ofNat ia)), .val (.int (Int32.ofNat ib)), .val (.int (((p4.toUInt32 >>> ((3 : Int32) &&& 31).toUInt32).toInt32) &&& (3 : Int32))), .val (.int (Int32.ofNat iq)), .val (.int (1 : Int32)), .val (.int (0 : Int32)), .val (.int (0 : Int32)), .val (.ref b218), .val (.int (1 : Int32))]) rfl ?_
                refine XS.aload X223.here hx rfl (hb hby at_218) rfl rfl ?_
                refine XS.iload X223.here hx rfl (hb hby at_220) rfl ?_
                exact k
              obtain ⟨cq227, kq227, q227a, q227b, q227c⟩ := isOf hZ e223 E_b218
              obtain ⟨_, _, ⟨T227, L227, k227, n227⟩, -, X227, ⟨Lc227, hQ227, l227, y227, z227⟩, st227⟩ := X223.virtualBack hx (y := (⟨"com/example/otayori/otayori/codec/PacketIds", "isHeld", "(I)Z"⟩ : MethodName)) (z := (⟨"com/example/otayori/otayori/codec/PacketIds", "isHeld", "(I)Z"⟩ : MethodName)) hown (mvT hZ (w_17 hw)) (mvT hZ (w_18 hw)) (notFace_of_selects (args := #[]) (mvT hZ (w_20 hw))) (mvT hZ (w_20 hw)) (mvT hZ (w_19 hw)) (by decide) (backOf (W := 0) (rm4y l Z a0 hw [] b218 bs_223 tw2_223 kw2_223 ws3_223 u2_223 st2_223 iq h223 n0 Z0 F_b218_held E_bs_223 g_bs_223 F_bs_223_words F_bs_223_wordsInUse F_bs_223_sizeIsSticky V_tw2_223 g_tw2_223 ne_bs_223_tw2_223 (hinv3_223 : own_inv ws3_223 u2_223) (Nat.le_trans hb3_223 (by decide) : ws3_223.length ≤ 2048) OLD (O5 : Sta Z Z.heap "java/util/BitSet" "$assertionsDisabled" "Z" (.int (1 : Int32))) (h_iq : iq ≤ 65535)) hZ (w_21 hw) (w_8 hw) (by decide) (by decide)) q227a q227c (g := (mkF m 222 #[.val (.int p1), .val (.int p2), .val (.int p3), .val (.int p4), .val (.int (Int32.ofNat ia)), .val (.int (Int32.ofNat ib)), .val (.int (((p4.toUInt32 >>> ((3 : Int32) &&& 31).toUInt32).toInt32) &&& (3 : Int32))), .val (.int (Int32.ofNat iq)), .val (.int (1 : Int32)), .val (.int (0 : Int32)), .val (.int (0 : Int32)), .val (.ref b218), .val (.int (1 : Int32))] [(.int (Int32.ofNat iq)), (.ref b218)])) rfl (by rw [hml]; rfl) (Steps.refl _) (argsL := [(.int (Int32.ofNat iq))]) (rest := []) (lenOf pd_5 rfl) rfl (by show 2 * 0 + _ ≤ _; exact Nat.le_of_eq rfl) (hb hby at_222) (fun _ _ => ⟨rfl, e223, (by decide : 4 + 0 ≤ _), (by decide : 2055 + 0 ≤ _)⟩)
              dsimp only [Pt.U, Pt.locs, Pt.cells, Pt.slots] at X227 l227 y227 z227 st227 hQ227
              subst l227 y227 z227
              obtain ⟨rfl, Nq227, Kq227⟩ := hQ227
              replace NF := Fr.app NF Nq227
              clear Nq227
              refine WP.tr st227 ?_
              clear st227
              replace Kq227 := Kq227.trans (rfl : h223 = h223)
              have hXN : ∃ LL, Stand p l e room_1 s m #[(.int p1), (.int p2), (.int p3), (.int p4)] below meth c T227 LL 4 2055 ∧ Fr n0 LL := ⟨_, X227, NF⟩
              clear X227 NF
              obtain ⟨LL228, X227, NF⟩ := hXN
              show WP p.tables e below _ T227 (mkF m 225 #[.val (.int p1), .val (.int p2), .val (.int p3), .val (.int p4), .val (.int (Int32.ofNat ia)), .val (.int (Int32.ofNat ib)), .val (.int (((p4.toUInt32 >>> ((3 : Int32) &&& 31).toUInt32).toInt32) &&& (3 : Int32))), .val (.int (Int32.ofNat iq)), .val (.int (1 : Int32)), .val (.int (0 : Int32)), .val (.int (0 : Int32)), .val (.ref b218), .val (.int (1 : Int32))] [(.int (own_get ws3_223 iq))])
              rw [show (own_get ws3_223 iq) = (1 : Int32) from by rw [hget3_223 iq h_iq]; (repeat' split) <;> first | rfl | (exfalso; omega)]
              show WP p.tables e below _ T227 (mkF m 225 #[.val (.int p1), .val (.int p2), .val (.int p3), .val (.int p4), .val (.int (Int32.ofNat ia)), .val (.int (Int32.ofNat ib)), .val (.int (((p4.toUInt32 >>> ((3 : Int32) &&& 31).toUInt32).toInt32) &&& (3 : Int32))), .val (.int (Int32.ofNat iq)), .val (.int (1 : Int32)), .val (.int (0 : Int32)), .val (.int (0 : Int32)), .val (.ref b218), .val (.int (1 : Int32))] [(.int (1 : Int32))])
              refine WP.st (T' := T227) (f' := (mkF m 235 #[.val (.int p1), .val (.int p2), .val (.int p3), .val (.int p4), .val (.int (Int32.ofNat ia)), .val (.int (Int32.ofNat ib)), .val (.int (((p4.toUInt32 >>> ((3 : Int32) &&& 31).toUInt32).toInt32) &&& (3 : Int32))), .val (.int (Int32.ofNat iq)), .val (.int (1 : Int32)), .val (.int (0 : Int32)), .val (.int (0 : Int32)), .val (.ref b218), .val (.int (1 : Int32))] [(.int (1 : Int32))])) (fun t k => ?_) ?_
              · refine XS.iload X227.here hx rfl (hb hby at_225) rfl ?_
                refine XS.icmpNo X227.here hx rfl (hb hby at_227) rfl (teq (by decide : (1 : Int32) = (1 : Int32))).2 ?_
                refine XS.iconst X227.here hx rfl (hb hby at_230) ?_
                refine XS.goto X227.here hx rfl (pc0 := 231) (pc' := 235) rfl (hb hby at_231) (by decide) (by decide) ?_
                exact k
              subst hG
              obtain ⟨fs, hr, hrun, hended, hW, hsame⟩ := X227.leave (v := some (.int (1 : Int32))) (fun h => by rw [Bd.returns] at h; cases h)
              refine WP.fin ⟨_, _, ?_, hrun, hended, _, _, rfl, ?_, ⟨_, rfl⟩, hW, hsame.mono (by decide) (by decide)⟩
              · exact retN X227 hx (t := .boolean) Bd.returns (by simp) (hb hby at_235) hr
              · show Q0 Z p1 p2 p3 p4 h0 n0 _ T227.heap _
                rw [Kq227]
                exact ⟨rfl, NF⟩
            · skip
              have n_ia : iq = ia := (own_eq (Nat.lt_of_le_of_lt h_iq (by decide)) (Nat.lt_of_le_of_lt h_ia (by decide))).1 hc225
              have n_ib : ¬ iq = ib := fun q => hc226 (congrArg Int32.ofNat q)
              refine WP.st (T' := T223) (f' := (mkF m 222 #[.val (.int p1), .val (.int p2), .val (.int p3), .val (.int p4), .val (.int (Int32.ofNat ia)), .val (.int (Int32.ofNat ib)), .val (.int (((p4.toUInt32 >>> ((3 : Int32) &&& 31).toUInt32).toInt32) &&& (3 : Int32))), .val (.int (Int32.ofNat iq)), .val (.int (1 : Int32)), .val (.int (0 : Int32)), .val (.int (0 : Int32)), .val (.ref b218), .val (.int (1 : Int32))] [(.int (Int32.ofNat iq)), (.ref b218)])) (fun t k => ?_) ?_
              · refine XS.iload X223.here hx rfl (hb hby at_175) rfl ?_
                refine XS.ifNo X223.here hx rfl (hb hby at_177) rfl ((if0 _ _).trans (feq (by decide : ¬ ((1 : Int32) = (0 : Int32)))).1) ?_
                refine XS.iload X223.here hx rfl (hb hby at_180) rfl ?_
                refine XS.iload X223.here hx rfl (hb hby at_182) rfl ?_
                show Steps p.tables e below (T223.setTop (mkF m 184 #[.val (.int p1), .val (.int p2), .val (.int p3), .val (.int p4), .val (.int (Int32.ofNat ia)), .val (.int (Int32.ofNat ib)), .val (.int (((p4.toUInt32 >>> ((3 : Int32) &&& 31).toUInt32).toInt32) &&& (3 : Int32))), .val (.int (Int32.ofNat iq)), .val (.int (1 : Int32)), .val (.int (0 : Int32)), .val (.int (0 : Int32)), .val (.ref b218), .unset] [(.int (Int32.ofNat ia)), (.int (Int32.ofNat iq))])) t
                refine XS.icmpYes X223.here hx rfl (pc0 := 184) (pc' := 199) rfl (hb hby at_184) rfl (teq hc225).1 (by decide) (by decide) ?_
                refine XS.iload X223.here hx rfl (hb hby at_199) rfl ?_
                refine XS.ifYes X223.here hx rfl (pc0 := 201) (pc' := 211) rfl (hb hby at_201) rfl ((if0 _ _).trans (teq (by decide : (0 : Int32) = (0 : Int32))).1) (by decide) (by decide) ?_
                refine XS.iconst X223.here hx rfl (hb hby at_211) ?_
                show Steps p.tables e below (T223.setTop (mkF m 212 #[.val (.int p1), .val (.int p2), .val (.int p3), .val (.int p4), .val (.int (Int32.ofNat ia)), .val (.int (Int32.ofNat ib)), .val (.int (((p4.toUInt32 >>> ((3 : Int32) &&& 31).toUInt32).toInt32) &&& (3 : Int32))), .val (.int (Int32.ofNat iq)), .val (.int (1 : Int32)), .val (.int (0 : Int32)), .val (.int (0 : Int32)), .val (.ref b218), .unset] [(.int (1 : Int32))])) t
                refine XS.goto X223.here hx rfl (pc0 := 212) (pc' := 216) rfl (hb hby at_212) (by decide) (by decide) ?_
                refine XS.istore X223.here hx rfl (hb hby at_216) rfl (l' := #[.val (.int p1), .val (.int p2), .val (.int p3), .val (.int p4), .val (.int (Int32.ofNat ia)), .val (.int (Int32.ofNat ib)), .val (.int (((p4.toUInt32 >>> ((3 : Int32) &&& 31).toUInt32).toInt32) &&& (3 : Int32))), .val (.int (Int32.ofNat iq)), .val (.int (1 : Int32)), .val (.int (0 : Int32)), .val (.int (0 : Int32)), .val (.ref b218), .val (.int (1 : Int32))]) rfl ?_
                refine XS.aload X223.here hx rfl (hb hby at_218) rfl rfl ?_
                refine XS.iload X223.here hx rfl (hb hby at_220) rfl ?_
                exact k
              obtain ⟨cq229, kq229, q229a, q229b, q229c⟩ := isOf hZ e223 E_b218
              obtain ⟨_, _, ⟨T229, L229, k229, n229⟩, -, X229, ⟨Lc229, hQ229, l229, y229, z229⟩, st229⟩ := X223.virtualBack hx (y := (⟨"com/example/otayori/otayori/codec/PacketIds", "isHeld", "(I)Z"⟩ : MethodName)) (z := (⟨"com/example/otayori/otayori/codec/PacketIds", "isHeld", "(I)Z"⟩ : MethodName)) hown (mvT hZ (w_17 hw)) (mvT hZ (w_18 hw)) (notFace_of_selects (args := #[]) (mvT hZ (w_20 hw))) (mvT hZ (w_20 hw)) (mvT hZ (w_19 hw)) (by decide) (backOf (W := 0) (rm4y l Z a0 hw [] b218 bs_223 tw2_223 kw2_223 ws3_223 u2_223 st2_223 iq h223 n0 Z0 F_b218_held E_bs_223 g_bs_223 F_bs_223_words F_bs_223_wordsInUse F_bs_223_sizeIsSticky V_tw2_223 g_tw2_223 ne_bs_223_tw2_223 (hinv3_223 : own_inv ws3_223 u2_223) (Nat.le_trans hb3_223 (by decide) : ws3_223.length ≤ 2048) OLD (O5 : Sta Z Z.heap "java/util/BitSet" "$assertionsDisabled" "Z" (.int (1 : Int32))) (h_iq : iq ≤ 65535)) hZ (w_21 hw) (w_8 hw) (by decide) (by decide)) q229a q229c (g := (mkF m 222 #[.val (.int p1), .val (.int p2), .val (.int p3), .val (.int p4), .val (.int (Int32.ofNat ia)), .val (.int (Int32.ofNat ib)), .val (.int (((p4.toUInt32 >>> ((3 : Int32) &&& 31).toUInt32).toInt32) &&& (3 : Int32))), .val (.int (Int32.ofNat iq)), .val (.int (1 : Int32)), .val (.int (0 : Int32)), .val (.int (0 : Int32)), .val (.ref b218), .val (.int (1 : Int32))] [(.int (Int32.ofNat iq)), (.ref b218)])) rfl (by rw [hml]; rfl) (Steps.refl _) (argsL := [(.int (Int32.ofNat iq))]) (rest := []) (lenOf pd_5 rfl) rfl (by show 2 * 0 + _ ≤ _; exact Nat.le_of_eq rfl) (hb hby at_222) (fun _ _ => ⟨rfl, e223, (by decide : 4 + 0 ≤ _), (by decide : 2055 + 0 ≤ _)⟩)
              dsimp only [Pt.U, Pt.locs, Pt.cells, Pt.slots] at X229 l229 y229 z229 st229 hQ229
              subst l229 y229 z229
              obtain ⟨rfl, Nq229, Kq229⟩ := hQ229
              replace NF := Fr.app NF Nq229
              clear Nq229
              refine WP.tr st229 ?_
              clear st229
              replace Kq229 := Kq229.trans (rfl : h223 = h223)
              have hXN : ∃ LL, Stand p l e room_1 s m #[(.int p1), (.int p2), (.int p3), (.int p4)] below meth c T229 LL 4 2055 ∧ Fr n0 LL := ⟨_, X229, NF⟩
              clear X229 NF
              obtain ⟨LL230, X229, NF⟩ := hXN
              show WP p.tables e below _ T229 (mkF m 225 #[.val (.int p1), .val (.int p2), .val (.int p3), .val (.int p4), .val (.int (Int32.ofNat ia)), .val (.int (Int32.ofNat ib)), .val (.int (((p4.toUInt32 >>> ((3 : Int32) &&& 31).toUInt32).toInt32) &&& (3 : Int32))), .val (.int (Int32.ofNat iq)), .val (.int (1 : Int32)), .val (.int (0 : Int32)), .val (.int (0 : Int32)), .val (.ref b218), .val (.int (1 : Int32))] [(.int (own_get ws3_223 iq))])
              rw [show (own_get ws3_223 iq) = (1 : Int32) from by rw [hget3_223 iq h_iq]; (repeat' split) <;> first | rfl | (exfalso; omega)]
              show WP p.tables e below _ T229 (mkF m 225 #[.val (.int p1), .val (.int p2), .val (.int p3), .val (.int p4), .val (.int (Int32.ofNat ia)), .val (.int (Int32.ofNat ib)), .val (.int (((p4.toUInt32 >>> ((3 : Int32) &&& 31).toUInt32).toInt32) &&& (3 : Int32))), .val (.int (Int32.ofNat iq)), .val (.int (1 : Int32)), .val (.int (0 : Int32)), .val (.int (0 : Int32)), .val (.ref b218), .val (.int (1 : Int32))] [(.int (1 : Int32))])
              refine WP.st (T' := T229) (f' := (mkF m 235 #[.val (.int p1), .val (.int p2), .val (.int p3), .val (.int p4), .val (.int (Int32.ofNat ia)), .val (.int (Int32.ofNat ib)), .val (.int (((p4.toUInt32 >>> ((3 : Int32) &&& 31).toUInt32).toInt32) &&& (3 : Int32))), .val (.int (Int32.ofNat iq)), .val (.int (1 : Int32)), .val (.int (0 : Int32)), .val (.int (0 : Int32)), .val (.ref b218), .val (.int (1 : Int32))] [(.int (1 : Int32))])) (fun t k => ?_) ?_
              · refine XS.iload X229.here hx rfl (hb hby at_225) rfl ?_
                refine XS.icmpNo X229.here hx rfl (hb hby at_227) rfl (teq (by decide : (1 : Int32) = (1 : Int32))).2 ?_
                refine XS.iconst X229.here hx rfl (hb hby at_230) ?_
                refine XS.goto X229.here hx rfl (pc0 := 231) (pc' := 235) rfl (hb hby at_231) (by decide) (by decide) ?_
                exact k
              subst hG
              obtain ⟨fs, hr, hrun, hended, hW, hsame⟩ := X229.leave (v := some (.int (1 : Int32))) (fun h => by rw [Bd.returns] at h; cases h)
              refine WP.fin ⟨_, _, ?_, hrun, hended, _, _, rfl, ?_, ⟨_, rfl⟩, hW, hsame.mono (by decide) (by decide)⟩
              · exact retN X229 hx (t := .boolean) Bd.returns (by simp) (hb hby at_235) hr
              · show Q0 Z p1 p2 p3 p4 h0 n0 _ T229.heap _
                rw [Kq229]
                exact ⟨rfl, NF⟩
          · skip
            by_cases hc231 : (Int32.ofNat iq) = (Int32.ofNat ib)
            · skip
              have n_ia : ¬ iq = ia := fun q => hc225 (congrArg Int32.ofNat q)
              have n_ib : iq = ib := (own_eq (Nat.lt_of_le_of_lt h_iq (by decide)) (Nat.lt_of_le_of_lt h_ib (by decide))).1 hc231
              refine WP.st (T' := T223) (f' := (mkF m 222 #[.val (.int p1), .val (.int p2), .val (.int p3), .val (.int p4), .val (.int (Int32.ofNat ia)), .val (.int (Int32.ofNat ib)), .val (.int (((p4.toUInt32 >>> ((3 : Int32) &&& 31).toUInt32).toInt32) &&& (3 : Int32))), .val (.int (Int32.ofNat iq)), .val (.int (1 : Int32)), .val (.int (0 : Int32)), .val (.int (0 : Int32)), .val (.ref b218), .val (.int (0 : Int32))] [(.int (Int32.ofNat iq)), (.ref b218)])) (fun t k => ?_) ?_
              · refine XS.iload X223.here hx rfl (hb hby at_175) rfl ?_
                refine XS.ifNo X223.here hx rfl (hb hby at_177) rfl ((if0 _ _).trans (feq (by decide : ¬ ((1 : Int32) = (0 : Int32)))).1) ?_
                refine XS.iload X223.here hx rfl (hb hby at_180) rfl ?_
                refine XS.iload X223.here hx rfl (hb hby at_182) rfl ?_
                show Steps p.tables e below (T223.setTop (mkF m 184 #[.val (.int p1), .val (.int p2), .val (.int p3), .val (.int p4), .val (.int (Int32.ofNat ia)), .val (.int (Int32.ofNat ib)), .val (.int (((p4.toUInt32 >>> ((3 : Int32) &&& 31).toUInt32).toInt32) &&& (3 : Int32))), .val (.int (Int32.ofNat iq)), .val (.int (1 : Int32)), .val (.int (0 : Int32)), .val (.int (0 : Int32)), .val (.ref b218), .unset] [(.int (Int32.ofNat ia)), (.int (Int32.ofNat iq))])) t
                refine XS.icmpNo X223.here hx rfl (hb hby at_184) rfl (feq hc225).1 ?_
                refine XS.iload X223.here hx rfl (hb hby at_187) rfl ?_
                refine XS.ifYes X223.here hx rfl (pc0 := 189) (pc' := 215) rfl (hb hby at_189) rfl ((if0 _ _).trans (teq (by decide : (0 : Int32) = (0 : Int32))).1) (by decide) (by decide) ?_
                refine XS.iconst X223.here hx rfl (hb hby at_215) ?_
                show Steps p.tables e below (T223.setTop (mkF m 216 #[.val (.int p1), .val (.int p2), .val (.int p3), .val (.int p4), .val (.int (Int32.ofNat ia)), .val (.int (Int32.ofNat ib)), .val (.int (((p4.toUInt32 >>> ((3 : Int32) &&& 31).toUInt32).toInt32) &&& (3 : Int32))), .val (.int (Int32.ofNat iq)), .val (.int (1 : Int32)), .val (.int (0 : Int32)), .val (.int (0 : Int32)), .val (.ref b218), .unset] [(.int (0 : Int32))])) t
                refine XS.istore X223.here hx rfl (hb hby at_216) rfl (l' := #[.val (.int p1), .val (.int p2), .val (.int p3), .val (.int p4), .val (.int (Int32.ofNat ia)), .val (.int (Int32.ofNat ib)), .val (.int (((p4.toUInt32 >>> ((3 : Int32) &&& 31).toUInt32).toInt32) &&& (3 : Int32))), .val (.int (Int32.ofNat iq)), .val (.int (1 : Int32)), .val (.int (0 : Int32)), .val (.int (0 : Int32)), .val (.ref b218), .val (.int (0 : Int32))]) rfl ?_
                refine XS.aload X223.here hx rfl (hb hby at_218) rfl rfl ?_
                refine XS.iload X223.here hx rfl (hb hby at_220) rfl ?_
                exact k
              obtain ⟨cq232, kq232, q232a, q232b, q232c⟩ := isOf hZ e223 E_b218
              obtain ⟨_, _, ⟨T232, L232, k232, n232⟩, -, X232, ⟨Lc232, hQ232, l232, y232, z232⟩, st232⟩ := X223.virtualBack hx (y := (⟨"com/example/otayori/otayori/codec/PacketIds", "isHeld", "(I)Z"⟩ : MethodName)) (z := (⟨"com/example/otayori/otayori/codec/PacketIds", "isHeld", "(I)Z"⟩ : MethodName)) hown (mvT hZ (w_17 hw)) (mvT hZ (w_18 hw)) (notFace_of_selects (args := #[]) (mvT hZ (w_20 hw))) (mvT hZ (w_20 hw)) (mvT hZ (w_19 hw)) (by decide) (backOf (W := 0) (rm4y l Z a0 hw [] b218 bs_223 tw2_223 kw2_223 ws3_223 u2_223 st2_223 iq h223 n0 Z0 F_b218_held E_bs_223 g_bs_223 F_bs_223_words F_bs_223_wordsInUse F_bs_223_sizeIsSticky V_tw2_223 g_tw2_223 ne_bs_223_tw2_223 (hinv3_223 : own_inv ws3_223 u2_223) (Nat.le_trans hb3_223 (by decide) : ws3_223.length ≤ 2048) OLD (O5 : Sta Z Z.heap "java/util/BitSet" "$assertionsDisabled" "Z" (.int (1 : Int32))) (h_iq : iq ≤ 65535)) hZ (w_21 hw) (w_8 hw) (by decide) (by decide)) q232a q232c (g := (mkF m 222 #[.val (.int p1), .val (.int p2), .val (.int p3), .val (.int p4), .val (.int (Int32.ofNat ia)), .val (.int (Int32.ofNat ib)), .val (.int (((p4.toUInt32 >>> ((3 : Int32) &&& 31).toUInt32).toInt32) &&& (3 : Int32))), .val (.int (Int32.ofNat iq)), .val (.int (1 : Int32)), .val (.int (0 : Int32)), .val (.int (0 : Int32)), .val (.ref b218), .val (.int (0 : Int32))] [(.int (Int32.ofNat iq)), (.ref b218)])) rfl (by rw [hml]; rfl) (Steps.refl _) (argsL := [(.int (Int32.ofNat iq))]) (rest := []) (lenOf pd_5 rfl) rfl (by show 2 * 0 + _ ≤ _; exact Nat.le_of_eq rfl) (hb hby at_222) (fun _ _ => ⟨rfl, e223, (by decide : 4 + 0 ≤ _), (by decide : 2055 + 0 ≤ _)⟩)
              dsimp only [Pt.U, Pt.locs, Pt.cells, Pt.slots] at X232 l232 y232 z232 st232 hQ232
              subst l232 y232 z232
              obtain ⟨rfl, Nq232, Kq232⟩ := hQ232
              replace NF := Fr.app NF Nq232
              clear Nq232
              refine WP.tr st232 ?_
              clear st232
              replace Kq232 := Kq232.trans (rfl : h223 = h223)
              have hXN : ∃ LL, Stand p l e room_1 s m #[(.int p1), (.int p2), (.int p3), (.int p4)] below meth c T232 LL 4 2055 ∧ Fr n0 LL := ⟨_, X232, NF⟩
              clear X232 NF
              obtain ⟨LL233, X232, NF⟩ := hXN
              show WP p.tables e below _ T232 (mkF m 225 #[.val (.int p1), .val (.int p2), .val (.int p3), .val (.int p4), .val (.int (Int32.ofNat ia)), .val (.int (Int32.ofNat ib)), .val (.int (((p4.toUInt32 >>> ((3 : Int32) &&& 31).toUInt32).toInt32) &&& (3 : Int32))), .val (.int (Int32.ofNat iq)), .val (.int (1 : Int32)), .val (.int (0 : Int32)), .val (.int (0 : Int32)), .val (.ref b218), .val (.int (0 : Int32))] [(.int (own_get ws3_223 iq))])
              rw [show (own_get ws3_223 iq) = (0 : Int32) from by rw [hget3_223 iq h_iq]; (repeat' split) <;> first | rfl | (exfalso; omega)]
              show WP p.tables e below _ T232 (mkF m 225 #[.val (.int p1), .val (.int p2), .val (.int p3), .val (.int p4), .val (.int (Int32.ofNat ia)), .val (.int (Int32.ofNat ib)), .val (.int (((p4.toUInt32 >>> ((3 : Int32) &&& 31).toUInt32).toInt32) &&& (3 : Int32))), .val (.int (Int32.ofNat iq)), .val (.int (1 : Int32)), .val (.int (0 : Int32)), .val (.int (0 : Int32)), .val (.ref b218), .val (.int (0 : Int32))] [(.int (0 : Int32))])
              refine WP.st (T' := T232) (f' := (mkF m 235 #[.val (.int p1), .val (.int p2), .val (.int p3), .val (.int p4), .val (.int (Int32.ofNat ia)), .val (.int (Int32.ofNat ib)), .val (.int (((p4.toUInt32 >>> ((3 : Int32) &&& 31).toUInt32).toInt32) &&& (3 : Int32))), .val (.int (Int32.ofNat iq)), .val (.int (1 : Int32)), .val (.int (0 : Int32)), .val (.int (0 : Int32)), .val (.ref b218), .val (.int (0 : Int32))] [(.int (1 : Int32))])) (fun t k => ?_) ?_
              · refine XS.iload X232.here hx rfl (hb hby at_225) rfl ?_
                refine XS.icmpNo X232.here hx rfl (hb hby at_227) rfl (teq (by decide : (0 : Int32) = (0 : Int32))).2 ?_
                refine XS.iconst X232.here hx rfl (hb hby at_230) ?_
                refine XS.goto X232.here hx rfl (pc0 := 231) (pc' := 235) rfl (hb hby at_231) (by decide) (by decide) ?_
                exact k
              subst hG
              obtain ⟨fs, hr, hrun, hended, hW, hsame⟩ := X232.leave (v := some (.int (1 : Int32))) (fun h => by rw [Bd.returns] at h; cases h)
              refine WP.fin ⟨_, _, ?_, hrun, hended, _, _, rfl, ?_, ⟨_, rfl⟩, hW, hsame.mono (by decide) (by decide)⟩
              · exact retN X232 hx (t := .boolean) Bd.returns (by simp) (hb hby at_235) hr
              · show Q0 Z p1 p2 p3 p4 h0 n0 _ T232.heap _
                rw [Kq232]
                exact ⟨rfl, NF⟩
            · skip
              have n_ia : ¬ iq = ia := fun q => hc225 (congrArg Int32.ofNat q)
              have n_ib : ¬ iq = ib := fun q => hc231 (congrArg Int32.ofNat q)
              refine WP.st (T' := T223) (f' := (mkF m 222 #[.val (.int p1), .val (.int p2), .val (.int p3), .val (.int p4), .val (.int (Int32.ofNat ia)), .val (.int (Int32.ofNat ib)), .val (.int (((p4.toUInt32 >>> ((3 : Int32) &&& 31).toUInt32).toInt32) &&& (3 : Int32))), .val (.int (Int32.ofNat iq)), .val (.int (1 : Int32)), .val (.int (0 : Int32)), .val (.int (0 : Int32)), .val (.ref b218), .val (.int (0 : Int32))] [(.int (Int32.ofNat iq)), (.ref b218)])) (fun t k => ?_) ?_
              · refine XS.iload X223.here hx rfl (hb hby at_175) rfl ?_
                refine XS.ifNo X223.here hx rfl (hb hby at_177) rfl ((if0 _ _).trans (feq (by decide : ¬ ((1 : Int32) = (0 : Int32)))).1) ?_
                refine XS.iload X223.here hx rfl (hb hby at_180) rfl ?_
                refine XS.iload X223.here hx rfl (hb hby at_182) rfl ?_
                show Steps p.tables e below (T223.setTop (mkF m 184 #[.val (.int p1), .val (.int p2), .val (.int p3), .val (.int p4), .val (.int (Int32.ofNat ia)), .val (.int (Int32.ofNat ib)), .val (.int (((p4.toUInt32 >>> ((3 : Int32) &&& 31).toUInt32).toInt32) &&& (3 : Int32))), .val (.int (Int32.ofNat iq)), .val (.int (1 : Int32)), .val (.int (0 : Int32)), .val (.int (0 : Int32)), .val (.ref b218), .unset] [(.int (Int32.ofNat ia)), (.int (Int32.ofNat iq))])) t
                refine XS.icmpNo X223.here hx rfl (hb hby at_184) rfl (feq hc225).1 ?_
                refine XS.iload X223.here hx rfl (hb hby at_187) rfl ?_
                refine XS.ifYes X223.here hx rfl (pc0 := 189) (pc' := 215) rfl (hb hby at_189) rfl ((if0 _ _).trans (teq (by decide : (0 : Int32) = (0 : Int32))).1) (by decide) (by decide) ?_
                refine XS.iconst X223.here hx rfl (hb hby at_215) ?_
                show Steps p.tables e below (T223.setTop (mkF m 216 #[.val (.int p1), .val (.int p2), .val (.int p3), .val (.int p4), .val (.int (Int32.ofNat ia)), .val (.int (Int32.ofNat ib)), .val (.int (((p4.toUInt32 >>> ((3 : Int32) &&& 31).toUInt32).toInt32) &&& (3 : Int32))), .val (.int (Int32.ofNat iq)), .val (.int (1 : Int32)), .val (.int (0 : Int32)), .val (.int (0 : Int32)), .val (.ref b218), .unset] [(.int (0 : Int32))])) t
                refine XS.istore X223.here hx rfl (hb hby at_216) rfl (l' := #[.val (.int p1), .val (.int p2), .val (.int p3), .val (.int p4), .val (.int (Int32.ofNat ia)), .val (.int (Int32.ofNat ib)), .val (.int (((p4.toUInt32 >>> ((3 : Int32) &&& 31).toUInt32).toInt32) &&& (3 : Int32))), .val (.int (Int32.ofNat iq)), .val (.int (1 : Int32)), .val (.int (0 : Int32)), .val (.int (0 : Int32)), .val (.ref b218), .val (.int (0 : Int32))]) rfl ?_
                refine XS.aload X223.here hx rfl (hb hby at_218) rfl rfl ?_
                refine XS.iload X223.here hx rfl (hb hby at_220) rfl ?_
                exact k
              obtain ⟨cq234, kq234, q234a, q234b, q234c⟩ := isOf hZ e223 E_b218
              obtain ⟨_, _, ⟨T234, L234, k234, n234⟩, -, X234, ⟨Lc234, hQ234, l234, y234, z234⟩, st234⟩ := X223.virtualBack hx (y := (⟨"com/example/otayori/otayori/codec/PacketIds", "isHeld", "(I)Z"⟩ : MethodName)) (z := (⟨"com/example/otayori/otayori/codec/PacketIds", "isHeld", "(I)Z"⟩ : MethodName)) hown (mvT hZ (w_17 hw)) (mvT hZ (w_18 hw)) (notFace_of_selects (args := #[]) (mvT hZ (w_20 hw))) (mvT hZ (w_20 hw)) (mvT hZ (w_19 hw)) (by decide) (backOf (W := 0) (rm4y l Z a0 hw [] b218 bs_223 tw2_223 kw2_223 ws3_223 u2_223 st2_223 iq h223 n0 Z0 F_b218_held E_bs_223 g_bs_223 F_bs_223_words F_bs_223_wordsInUse F_bs_223_sizeIsSticky V_tw2_223 g_tw2_223 ne_bs_223_tw2_223 (hinv3_223 : own_inv ws3_223 u2_223) (Nat.le_trans hb3_223 (by decide) : ws3_223.length ≤ 2048) OLD (O5 : Sta Z Z.heap "java/util/BitSet" "$assertionsDisabled" "Z" (.int (1 : Int32))) (h_iq : iq ≤ 65535)) hZ (w_21 hw) (w_8 hw) (by decide) (by decide)) q234a q234c (g := (mkF m 222 #[.val (.int p1), .val (.int p2), .val (.int p3), .val (.int p4), .val (.int (Int32.ofNat ia)), .val (.int (Int32.ofNat ib)), .val (.int (((p4.toUInt32 >>> ((3 : Int32) &&& 31).toUInt32).toInt32) &&& (3 : Int32))), .val (.int (Int32.ofNat iq)), .val (.int (1 : Int32)), .val (.int (0 : Int32)), .val (.int (0 : Int32)), .val (.ref b218), .val (.int (0 : Int32))] [(.int (Int32.ofNat iq)), (.ref b218)])) rfl (by rw [hml]; rfl) (Steps.refl _) (argsL := [(.int (Int32.ofNat iq))]) (rest := []) (lenOf pd_5 rfl) rfl (by show 2 * 0 + _ ≤ _; exact Nat.le_of_eq rfl) (hb hby at_222) (fun _ _ => ⟨rfl, e223, (by decide : 4 + 0 ≤ _), (by decide : 2055 + 0 ≤ _)⟩)
              dsimp only [Pt.U, Pt.locs, Pt.cells, Pt.slots] at X234 l234 y234 z234 st234 hQ234
              subst l234 y234 z234
              obtain ⟨rfl, Nq234, Kq234⟩ := hQ234
              replace NF := Fr.app NF Nq234
              clear Nq234
              refine WP.tr st234 ?_
              clear st234
              replace Kq234 := Kq234.trans (rfl : h223 = h223)
              have hXN : ∃ LL, Stand p l e room_1 s m #[(.int p1), (.int p2), (.int p3), (.int p4)] below meth c T234 LL 4 2055 ∧ Fr n0 LL := ⟨_, X234, NF⟩
              clear X234 NF
              obtain ⟨LL235, X234, NF⟩ := hXN
              show WP p.tables e below _ T234 (mkF m 225 #[.val (.int p1), .val (.int p2), .val (.int p3), .val (.int p4), .val (.int (Int32.ofNat ia)), .val (.int (Int32.ofNat ib)), .val (.int (((p4.toUInt32 >>> ((3 : Int32) &&& 31).toUInt32).toInt32) &&& (3 : Int32))), .val (.int (Int32.ofNat iq)), .val (.int (1 : Int32)), .val (.int (0 : Int32)), .val (.int (0 : Int32)), .val (.ref b218), .val (.int (0 : Int32))] [(.int (own_get ws3_223 iq))])
              rw [show (own_get ws3_223 iq) = (0 : Int32) from by rw [hget3_223 iq h_iq]; (repeat' split) <;> first | rfl | (exfalso; omega)]
              show WP p.tables e below _ T234 (mkF m 225 #[.val (.int p1), .val (.int p2), .val (.int p3), .val (.int p4), .val (.int (Int32.ofNat ia)), .val (.int (Int32.ofNat ib)), .val (.int (((p4.toUInt32 >>> ((3 : Int32) &&& 31).toUInt32).toInt32) &&& (3 : Int32))), .val (.int (Int32.ofNat iq)), .val (.int (1 : Int32)), .val (.int (0 : Int32)), .val (.int (0 : Int32)), .val (.ref b218), .val (.int (0 : Int32))] [(.int (0 : Int32))])
              refine WP.st (T' := T234) (f' := (mkF m 235 #[.val (.int p1), .val (.int p2), .val (.int p3), .val (.int p4), .val (.int (Int32.ofNat ia)), .val (.int (Int32.ofNat ib)), .val (.int (((p4.toUInt32 >>> ((3 : Int32) &&& 31).toUInt32).toInt32) &&& (3 : Int32))), .val (.int (Int32.ofNat iq)), .val (.int (1 : Int32)), .val (.int (0 : Int32)), .val (.int (0 : Int32)), .val (.ref b218), .val (.int (0 : Int32))] [(.int (1 : Int32))])) (fun t k => ?_) ?_
              · refine XS.iload X234.here hx rfl (hb hby at_225) rfl ?_
                refine XS.icmpNo X234.here hx rfl (hb hby at_227) rfl (teq (by decide : (0 : Int32) = (0 : Int32))).2 ?_
                refine XS.iconst X234.here hx rfl (hb hby at_230) ?_
                refine XS.goto X234.here hx rfl (pc0 := 231) (pc' := 235) rfl (hb hby at_231) (by decide) (by decide) ?_
                exact k
              subst hG
              obtain ⟨fs, hr, hrun, hended, hW, hsame⟩ := X234.leave (v := some (.int (1 : Int32))) (fun h => by rw [Bd.returns] at h; cases h)
              refine WP.fin ⟨_, _, ?_, hrun, hended, _, _, rfl, ?_, ⟨_, rfl⟩, hW, hsame.mono (by decide) (by decide)⟩
              · exact retN X234 hx (t := .boolean) Bd.returns (by simp) (hb hby at_235) hr
              · show Q0 Z p1 p2 p3 p4 h0 n0 _ T234.heap _
                rw [Kq234]
                exact ⟨rfl, NF⟩
        · skip
          refine WP.st (T' := Tj139) (f' := (mkF m 115 #[.val (.int p1), .val (.int p2), .val (.int p3), .val (.int p4), .val (.int (Int32.ofNat ia)), .val (.int (Int32.ofNat ib)), .val (.int (((p4.toUInt32 >>> ((3 : Int32) &&& 31).toUInt32).toInt32) &&& (3 : Int32))), .val (.int (Int32.ofNat iq)), .val (.int (1 : Int32)), .val (.int (0 : Int32)), .val (.int (1 : Int32)), .unset, .unset] [])) (fun t k => ?_) ?_
          · refine XS.ifNo X139.here hx rfl (hb hby at_105) rfl ((if0 _ _).trans (feq hc217).1) ?_
            refine XS.iconst X139.here hx rfl (hb hby at_108) ?_
            refine XS.goto X139.here hx rfl (pc0 := 109) (pc' := 113) rfl (hb hby at_109) (by decide) (by decide) ?_
            refine XS.istore X139.here hx rfl (hb hby at_113) rfl (l' := #[.val (.int p1), .val (.int p2), .val (.int p3), .val (.int p4), .val (.int (Int32.ofNat ia)), .val (.int (Int32.ofNat ib)), .val (.int (((p4.toUInt32 >>> ((3 : Int32) &&& 31).toUInt32).toInt32) &&& (3 : Int32))), .val (.int (Int32.ofNat iq)), .val (.int (1 : Int32)), .val (.int (0 : Int32)), .val (.int (1 : Int32)), .unset, .unset]) rfl ?_
            exact k
          obtain ⟨T236, h236, X236, e236, E236, A236, D236, -, st236⟩ := newO X139 hx hZ hown (w_6 hw) (w_7 hw) (w_8 hw) ej139 (g := (mkF m 115 #[.val (.int p1), .val (.int p2), .val (.int p3), .val (.int p4), .val (.int (Int32.ofNat ia)), .val (.int (Int32.ofNat ib)), .val (.int (((p4.toUInt32 >>> ((3 : Int32) &&& 31).toUInt32).toInt32) &&& (3 : Int32))), .val (.int (Int32.ofNat iq)), .val (.int (1 : Int32)), .val (.int (0 : Int32)), .val (.int (1 : Int32)), .unset, .unset] [])) rfl (hb hby at_115) (by decide) (by decide)
          obtain ⟨b236, g236⟩ : ∃ z, z = h0.size := ⟨_, rfl⟩
          rw [← g236] at A236 D236 st236
          refine WP.st st236 ?_
          clear st236
          have g_b236 : n0 ≤ b236 := Nat.le_trans Z0 (Nat.le_of_eq g236.symm)
          replace OLD := OLD.ext E236
          replace Z0 := Nat.le_trans Z0 E236.1
          have E_b236 := A236
          have F_b236_next : Fld Z h236 b236 "com/example/otayori/otayori/codec/PacketIds" "next" "I" (.int (0 : Int32)) := D236 (Or.inl (w_16 hw)) (ty := .int) (by decide)
          have F_b236_held : Fld Z h236 b236 "com/example/otayori/otayori/codec/PacketIds" "held" "Ljava/util/BitSet;" .null := D236 (Or.inl (w_23 hw)) (ty := (.object "java/util/BitSet")) (by decide)
          have F_b236_count : Fld Z h236 b236 "com/example/otayori/otayori/codec/PacketIds" "count" "I" (.int (0 : Int32)) := D236 (Or.inl (w_78 hw)) (ty := .int) (by decide)
          clear D236 A236
          show WP p.tables e below _ T236 (mkF m 118 #[.val (.int p1), .val (.int p2), .val (.int p3), .val (.int p4), .val (.int (Int32.ofNat ia)), .val (.int (Int32.ofNat ib)), .val (.int (((p4.toUInt32 >>> ((3 : Int32) &&& 31).toUInt32).toInt32) &&& (3 : Int32))), .val (.int (Int32.ofNat iq)), .val (.int (1 : Int32)), .val (.int (0 : Int32)), .val (.int (1 : Int32)), .unset, .unset] [(.ref b236)])
          refine WP.st (T' := T236) (f' := (mkF m 119 #[.val (.int p1), .val (.int p2), .val (.int p3), .val (.int p4), .val (.int (Int32.ofNat ia)), .val (.int (Int32.ofNat ib)), .val (.int (((p4.toUInt32 >>> ((3 : Int32) &&& 31).toUInt32).toInt32) &&& (3 : Int32))), .val (.int (Int32.ofNat iq)), .val (.int (1 : Int32)), .val (.int (0 : Int32)), .val (.int (1 : Int32)), .unset, .unset] [(.ref b236), (.ref b236)])) (fun t k => ?_) ?_
          · refine XS.dup X236.here hx rfl (hb hby at_118) rfl rfl ?_
            exact k
          obtain ⟨_, _, ⟨T237, L237, k237, n237⟩, -, X237, ⟨Lc237, hQ237, l237, y237, z237⟩, st237⟩ := X236.specialBack hx (y := (⟨"com/example/otayori/otayori/codec/PacketIds", "<init>", "()V"⟩ : MethodName)) rfl hown (mvT hZ (w_9 hw)) (mvT hZ (w_10 hw)) (mvT hZ (w_11 hw)) (by decide) (backOf (W := 1) (rm2 l Z a0 hw [] b236 (0 : Int32) (0 : Int32) h236 n0 Z0 E_b236 g_b236 F_b236_held F_b236_count F_b236_next) hZ (w_11 hw) (w_8 hw) (by decide) (by decide)) (g := (mkF m 119 #[.val (.int p1), .val (.int p2), .val (.int p3), .val (.int p4), .val (.int (Int32.ofNat ia)), .val (.int (Int32.ofNat ib)), .val (.int (((p4.toUInt32 >>> ((3 : Int32) &&& 31).toUInt32).toInt32) &&& (3 : Int32))), .val (.int (Int32.ofNat iq)), .val (.int (1 : Int32)), .val (.int (0 : Int32)), .val (.int (1 : Int32)), .unset, .unset] [(.ref b236), (.ref b236)])) rfl (by rw [hml]; rfl) (Steps.refl _) (a := b236) (argsL := []) (rest := [(.ref b236)]) (lenOf pd_4 rfl) rfl (by show 2 * 0 + _ ≤ _; exact Nat.le_of_eq rfl) (hb hby at_119) (fun _ _ => ⟨rfl, e236, (by decide : 1 + 0 ≤ _), (by decide : 3 + 0 ≤ _)⟩)
          dsimp only [Pt.U, Pt.locs, Pt.cells, Pt.slots] at X237 l237 y237 z237 st237 hQ237
          subst l237 y237 z237
          obtain ⟨rfl, Nq237, Kq237, nF237_b236_held, nF237_b236_count, nF237_b236_next⟩ := hQ237
          replace NF := Fr.app NF Nq237
          clear Nq237
          refine WP.tr st237 ?_
          clear st237
          obtain ⟨h237, e237⟩ : ∃ h, T237.heap = h := ⟨_, rfl⟩
          rw [e237] at Kq237 nF237_b236_held nF237_b236_count nF237_b236_next
          replace OLD := OLD.keep Kq237 (allS g_b236 all0)
          replace E_b236 := E_b236.keep Kq237
          clear F_b236_next
          clear F_b236_held
          clear F_b236_count
          replace Z0 := Nat.le_trans Z0 Kq237.1
          clear Kq237
          have F_b236_held := nF237_b236_held
          clear nF237_b236_held
          have F_b236_count := nF237_b236_count
          clear nF237_b236_count
          have F_b236_next := nF237_b236_next
          clear nF237_b236_next
          have hXN : ∃ LL, Stand p l e room_1 s m #[(.int p1), (.int p2), (.int p3), (.int p4)] below meth c T237 LL 1 3 ∧ Fr n0 LL := ⟨_, X237, NF⟩
          clear X237 NF
          obtain ⟨LL238, X237, NF⟩ := hXN
          show WP p.tables e below _ T237 (mkF m 122 #[.val (.int p1), .val (.int p2), .val (.int p3), .val (.int p4), .val (.int (Int32.ofNat ia)), .val (.int (Int32.ofNat ib)), .val (.int (((p4.toUInt32 >>> ((3 : Int32) &&& 31).toUInt32).toInt32) &&& (3 : Int32))), .val (.int (Int32.ofNat iq)), .val (.int (1 : Int32)), .val (.int (0 : Int32)), .val (.int (1 : Int32)), .unset, .unset] [(.ref b236)])
          refine WP.st (T' := T237) (f' := (mkF m 128 #[.val (.int p1), .val (.int p2), .val (.int p3), .val (.int p4), .val (.int (Int32.ofNat ia)), .val (.int (Int32.ofNat ib)), .val (.int (((p4.toUInt32 >>> ((3 : Int32) &&& 31).toUInt32).toInt32) &&& (3 : Int32))), .val (.int (Int32.ofNat iq)), .val (.int (1 : Int32)), .val (.int (0 : Int32)), .val (.int (1 : Int32)), .val (.ref b236), .unset] [(.int (Int32.ofNat iq)), (.ref b236)])) (fun t k => ?_) ?_
          · refine XS.astore X237.here hx rfl (hb hby at_122) rfl rfl (l' := #[.val (.int p1), .val (.int p2), .val (.int p3), .val (.int p4), .val (.int (Int32.ofNat ia)), .val (.int (Int32.ofNat ib)), .val (.int (((p4.toUInt32 >>> ((3 : Int32) &&& 31).toUInt32).toInt32) &&& (3 : Int32))), .val (.int (Int32.ofNat iq)), .val (.int (1 : Int32)), .val (.int (0 : Int32)), .val (.int (1 : Int32)), .val (.ref b236), .unset]) rfl ?_
            refine XS.aload X237.here hx rfl (hb hby at_124) rfl rfl ?_
            refine XS.iload X237.here hx rfl (hb hby at_126) rfl ?_
            exact k
          obtain ⟨cq239, kq239, q239a, q239b, q239c⟩ := isOf hZ e237 E_b236
          obtain ⟨_, _, ⟨T239, L239, k239, n239⟩, -, X239, ⟨Lc239, hQ239, l239, y239, z239⟩, st239⟩ := X237.virtualBack hx (y := (⟨"com/example/otayori/otayori/codec/PacketIds", "isHeld", "(I)Z"⟩ : MethodName)) (z := (⟨"com/example/otayori/otayori/codec/PacketIds", "isHeld", "(I)Z"⟩ : MethodName)) hown (mvT hZ (w_17 hw)) (mvT hZ (w_18 hw)) (notFace_of_selects (args := #[]) (mvT hZ (w_20 hw))) (mvT hZ (w_20 hw)) (mvT hZ (w_19 hw)) (by decide) (backOf (W := 0) (rm4n l Z a0 hw [] b236 iq h237 n0 Z0 F_b236_held) hZ (w_21 hw) (w_8 hw) (by decide) (by decide)) q239a q239c (g := (mkF m 128 #[.val (.int p1), .val (.int p2), .val (.int p3), .val (.int p4), .val (.int (Int32.ofNat ia)), .val (.int (Int32.ofNat ib)), .val (.int (((p4.toUInt32 >>> ((3 : Int32) &&& 31).toUInt32).toInt32) &&& (3 : Int32))), .val (.int (Int32.ofNat iq)), .val (.int (1 : Int32)), .val (.int (0 : Int32)), .val (.int (1 : Int32)), .val (.ref b236), .unset] [(.int (Int32.ofNat iq)), (.ref b236)])) rfl (by rw [hml]; rfl) (Steps.refl _) (argsL := [(.int (Int32.ofNat iq))]) (rest := []) (lenOf pd_5 rfl) rfl (by show 2 * 0 + _ ≤ _; exact Nat.le_of_eq rfl) (hb hby at_128) (fun _ _ => ⟨rfl, e237, (by decide : 1 + 0 ≤ _), (by decide : 3 + 0 ≤ _)⟩)
          dsimp only [Pt.U, Pt.locs, Pt.cells, Pt.slots] at X239 l239 y239 z239 st239 hQ239
          subst l239 y239 z239
          obtain ⟨rfl, Nq239, Kq239⟩ := hQ239
          replace NF := Fr.app NF Nq239
          clear Nq239
          refine WP.tr st239 ?_
          clear st239
          replace Kq239 := Kq239.trans (rfl : h237 = h237)
          have hXN : ∃ LL, Stand p l e room_1 s m #[(.int p1), (.int p2), (.int p3), (.int p4)] below meth c T239 LL 1 3 ∧ Fr n0 LL := ⟨_, X239, NF⟩
          clear X239 NF
          obtain ⟨LL240, X239, NF⟩ := hXN
          show WP p.tables e below _ T239 (mkF m 131 #[.val (.int p1), .val (.int p2), .val (.int p3), .val (.int p4), .val (.int (Int32.ofNat ia)), .val (.int (Int32.ofNat ib)), .val (.int (((p4.toUInt32 >>> ((3 : Int32) &&& 31).toUInt32).toInt32) &&& (3 : Int32))), .val (.int (Int32.ofNat iq)), .val (.int (1 : Int32)), .val (.int (0 : Int32)), .val (.int (1 : Int32)), .val (.ref b236), .unset] [(.int (0 : Int32))])
          refine WP.st (T' := T239) (f' := (mkF m 145 #[.val (.int p1), .val (.int p2), .val (.int p3), .val (.int p4), .val (.int (Int32.ofNat ia)), .val (.int (Int32.ofNat ib)), .val (.int (((p4.toUInt32 >>> ((3 : Int32) &&& 31).toUInt32).toInt32) &&& (3 : Int32))), .val (.int (Int32.ofNat iq)), .val (.int (1 : Int32)), .val (.int (0 : Int32)), .val (.int (1 : Int32)), .val (.ref b236), .unset] [(.int (Int32.ofNat ia)), (.ref b236)])) (fun t k => ?_) ?_
          · refine XS.ifYes X239.here hx rfl (pc0 := 131) (pc' := 136) rfl (hb hby at_131) rfl ((if0 _ _).trans (teq (by decide : (0 : Int32) = (0 : Int32))).1) (by decide) (by decide) ?_
            refine XS.iload X239.here hx rfl (hb hby at_136) rfl ?_
            refine XS.ifNo X239.here hx rfl (hb hby at_138) rfl ((if0 _ _).trans (feq (by decide : ¬ ((1 : Int32) = (0 : Int32)))).1) ?_
            refine XS.aload X239.here hx rfl (hb hby at_141) rfl rfl ?_
            show Steps p.tables e below (T239.setTop (mkF m 143 #[.val (.int p1), .val (.int p2), .val (.int p3), .val (.int p4), .val (.int (Int32.ofNat ia)), .val (.int (Int32.ofNat ib)), .val (.int (((p4.toUInt32 >>> ((3 : Int32) &&& 31).toUInt32).toInt32) &&& (3 : Int32))), .val (.int (Int32.ofNat iq)), .val (.int (1 : Int32)), .val (.int (0 : Int32)), .val (.int (1 : Int32)), .val (.ref b236), .unset] [(.ref b236)])) t
            refine XS.iload X239.here hx rfl (hb hby at_143) rfl ?_
            exact k
          obtain ⟨cq241, kq241, q241a, q241b, q241c⟩ := isOf hZ Kq239 E_b236
          obtain ⟨_, _, ⟨T241, L241, k241, n241⟩, -, X241, ⟨Lc241, hQ241, l241, y241, z241⟩, st241⟩ := X239.virtualBack hx (y := (⟨"com/example/otayori/otayori/codec/PacketIds", "hold", "(I)Z"⟩ : MethodName)) (z := (⟨"com/example/otayori/otayori/codec/PacketIds", "hold", "(I)Z"⟩ : MethodName)) hown (mvT hZ (w_24 hw)) (mvT hZ (w_25 hw)) (notFace_of_selects (args := #[]) (mvT hZ (w_27 hw))) (mvT hZ (w_27 hw)) (mvT hZ (w_26 hw)) (by decide) (backOf (W := 0) (rm5n l Z a0 hw [] b236 (0 : Int32) (1 : Int32) ia h237 n0 Z0 E_b236 g_b236 F_b236_held F_b236_count F_b236_next (h_ia : ia ≤ 65535) OLD (O5 : Sta Z Z.heap "java/util/BitSet" "$assertionsDisabled" "Z" (.int (1 : Int32)))) hZ (w_28 hw) (w_8 hw) (by decide) (by decide)) q241a q241c (g := (mkF m 145 #[.val (.int p1), .val (.int p2), .val (.int p3), .val (.int p4), .val (.int (Int32.ofNat ia)), .val (.int (Int32.ofNat ib)), .val (.int (((p4.toUInt32 >>> ((3 : Int32) &&& 31).toUInt32).toInt32) &&& (3 : Int32))), .val (.int (Int32.ofNat iq)), .val (.int (1 : Int32)), .val (.int (0 : Int32)), .val (.int (1 : Int32)), .val (.ref b236), .unset] [(.int (Int32.ofNat ia)), (.ref b236)])) rfl (by rw [hml]; rfl) (Steps.refl _) (argsL := [(.int (Int32.ofNat ia))]) (rest := []) (lenOf pd_5 rfl) rfl (by show 2 * 0 + _ ≤ _; exact Nat.le_of_eq rfl) (hb hby at_145) (fun _ _ => ⟨rfl, Kq239, (by decide : 1 + 3 ≤ _), (by decide : 3 + 2052 ≤ _)⟩)
          dsimp only [Pt.U, Pt.locs, Pt.cells, Pt.slots] at X241 l241 y241 z241 st241 hQ241
          subst l241 y241 z241
          obtain ⟨bs_241, tw2_241, kw2_241, ws3_241, st2_241, u2_241, c2_241, rfl, Nq241, Kq241, nF241_b236_held, nF241_b236_count, nF241_b236_next, nE241_bs_241, nF241_bs_241_words, nF241_bs_241_wordsInUse, nF241_bs_241_sizeIsSticky, nA241_tw2_241, szq_bs_241, g_bs_241, szq_tw2_241, g_tw2_241, ne_bs_241_tw2_241, hinv3_241, hget3_241, hb3_241⟩ := hQ241
          replace NF := Fr.app NF Nq241
          clear Nq241
          refine WP.tr st241 ?_
          clear st241
          obtain ⟨h241, e241⟩ : ∃ h, T241.heap = h := ⟨_, rfl⟩
          rw [e241] at Kq241 nF241_b236_held nF241_b236_count nF241_b236_next nE241_bs_241 nF241_bs_241_words nF241_bs_241_wordsInUse nF241_bs_241_sizeIsSticky nA241_tw2_241
          have ne_b236_bs_241 : b236 ≠ bs_241 := Nat.ne_of_lt (Nat.lt_of_lt_of_le E_b236.lt szq_bs_241)
          have ne_b236_tw2_241 : b236 ≠ tw2_241 := Nat.ne_of_lt (Nat.lt_of_lt_of_le E_b236.lt szq_tw2_241)
          replace OLD := OLD.keep Kq241 (allS g_b236 all0)
          replace E_b236 := E_b236.keep Kq241
          clear F_b236_held
          clear F_b236_count
          clear F_b236_next
          replace Z0 := Nat.le_trans Z0 Kq241.1
          clear Kq241
          have F_b236_held := nF241_b236_held
          clear nF241_b236_held
          have F_b236_count := nF241_b236_count
          clear nF241_b236_count
          have F_b236_next := nF241_b236_next
          clear nF241_b236_next
          have E_bs_241 := nE241_bs_241
          clear nE241_bs_241
          have F_bs_241_words := nF241_bs_241_words
          clear nF241_bs_241_words
          have F_bs_241_wordsInUse := nF241_bs_241_wordsInUse
          clear nF241_bs_241_wordsInUse
          have F_bs_241_sizeIsSticky := nF241_bs_241_sizeIsSticky
          clear nF241_bs_241_sizeIsSticky
          have V_tw2_241 := nA241_tw2_241
          clear nA241_tw2_241
          have hXN : ∃ LL, Stand p l e room_1 s m #[(.int p1), (.int p2), (.int p3), (.int p4)] below meth c T241 LL 4 2055 ∧ Fr n0 LL := ⟨_, X241, NF⟩
          clear X241 NF
          obtain ⟨LL242, X241, NF⟩ := hXN
          show WP p.tables e below _ T241 (mkF m 148 #[.val (.int p1), .val (.int p2), .val (.int p3), .val (.int p4), .val (.int (Int32.ofNat ia)), .val (.int (Int32.ofNat ib)), .val (.int (((p4.toUInt32 >>> ((3 : Int32) &&& 31).toUInt32).toInt32) &&& (3 : Int32))), .val (.int (Int32.ofNat iq)), .val (.int (1 : Int32)), .val (.int (0 : Int32)), .val (.int (1 : Int32)), .val (.ref b236), .unset] [(.int (1 : Int32))])
          refine WP.st (T' := T241) (f' := (mkF m 171 #[.val (.int p1), .val (.int p2), .val (.int p3), .val (.int p4), .val (.int (Int32.ofNat ia)), .val (.int (Int32.ofNat ib)), .val (.int (((p4.toUInt32 >>> ((3 : Int32) &&& 31).toUInt32).toInt32) &&& (3 : Int32))), .val (.int (Int32.ofNat iq)), .val (.int (1 : Int32)), .val (.int (0 : Int32)), .val (.int (1 : Int32)), .val (.ref b236), .unset] [(.int (Int32.ofNat ia)), (.ref b236)])) (fun t k => ?_) ?_
          · refine XS.pop X241.here hx rfl (hb hby at_148) rfl rfl ?_
            refine XS.iload X241.here hx rfl (hb hby at_149) rfl ?_
            refine XS.ifYes X241.here hx rfl (pc0 := 151) (pc' := 162) rfl (hb hby at_151) rfl ((if0 _ _).trans (teq (by decide : (0 : Int32) = (0 : Int32))).1) (by decide) (by decide) ?_
            refine XS.iload X241.here hx rfl (hb hby at_162) rfl ?_
            show Steps p.tables e below (T241.setTop (mkF m 164 #[.val (.int p1), .val (.int p2), .val (.int p3), .val (.int p4), .val (.int (Int32.ofNat ia)), .val (.int (Int32.ofNat ib)), .val (.int (((p4.toUInt32 >>> ((3 : Int32) &&& 31).toUInt32).toInt32) &&& (3 : Int32))), .val (.int (Int32.ofNat iq)), .val (.int (1 : Int32)), .val (.int (0 : Int32)), .val (.int (1 : Int32)), .val (.ref b236), .unset] [(.int (1 : Int32))])) t
            refine XS.ifNo X241.here hx rfl (hb hby at_164) rfl ((if0 _ _).trans (feq (by decide : ¬ ((1 : Int32) = (0 : Int32)))).1) ?_
            refine XS.aload X241.here hx rfl (hb hby at_167) rfl rfl ?_
            refine XS.iload X241.here hx rfl (hb hby at_169) rfl ?_
            exact k
          obtain ⟨cq243, kq243, q243a, q243b, q243c⟩ := isOf hZ e241 E_b236
          obtain ⟨_, _, ⟨T243, L243, k243, n243⟩, -, X243, ⟨Lc243, hQ243, l243, y243, z243⟩, st243⟩ := X241.virtualBack hx (y := (⟨"com/example/otayori/otayori/codec/PacketIds", "release", "(I)Z"⟩ : MethodName)) (z := (⟨"com/example/otayori/otayori/codec/PacketIds", "release", "(I)Z"⟩ : MethodName)) hown (mvT hZ (w_99 hw)) (mvT hZ (w_100 hw)) (notFace_of_selects (args := #[]) (mvT hZ (w_102 hw))) (mvT hZ (w_102 hw)) (mvT hZ (w_101 hw)) (by decide) (backOf (W := 0) (rm18y l Z a0 hw [] b236 c2_241 (1 : Int32) bs_241 tw2_241 kw2_241 ws3_241 u2_241 st2_241 ia h241 n0 Z0 E_b236 g_b236 F_b236_held F_b236_count F_b236_next E_bs_241 g_bs_241 F_bs_241_words F_bs_241_wordsInUse F_bs_241_sizeIsSticky V_tw2_241 g_tw2_241 ne_bs_241_tw2_241 (hinv3_241 : own_inv ws3_241 u2_241) (Nat.le_trans hb3_241 (by decide) : ws3_241.length ≤ 2048) OLD (O5 : Sta Z Z.heap "java/util/BitSet" "$assertionsDisabled" "Z" (.int (1 : Int32))) (h_ia : ia ≤ 65535) ne_b236_bs_241 ne_b236_tw2_241) hZ (w_103 hw) (w_8 hw) (by decide) (by decide)) q243a q243c (g := (mkF m 171 #[.val (.int p1), .val (.int p2), .val (.int p3), .val (.int p4), .val (.int (Int32.ofNat ia)), .val (.int (Int32.ofNat ib)), .val (.int (((p4.toUInt32 >>> ((3 : Int32) &&& 31).toUInt32).toInt32) &&& (3 : Int32))), .val (.int (Int32.ofNat iq)), .val (.int (1 : Int32)), .val (.int (0 : Int32)), .val (.int (1 : Int32)), .val (.ref b236), .unset] [(.int (Int32.ofNat ia)), (.ref b236)])) rfl (by rw [hml]; rfl) (Steps.refl _) (argsL := [(.int (Int32.ofNat ia))]) (rest := []) (lenOf pd_5 rfl) rfl (by show 2 * 0 + _ ≤ _; exact Nat.le_of_eq rfl) (hb hby at_171) (fun _ _ => ⟨rfl, e241, (by decide : 4 + 0 ≤ _), (by decide : 2055 + 0 ≤ _)⟩)
          dsimp only [Pt.U, Pt.locs, Pt.cells, Pt.slots] at X243 l243 y243 z243 st243 hQ243
          subst l243 y243 z243
          obtain ⟨r_243, ws3_243, u2_243, c2_243, rfl, Nq243, Kq243, nF243_b236_held, nF243_b236_count, nF243_b236_next, nE243_bs_241, nF243_bs_241_words, nF243_bs_241_wordsInUse, nF243_bs_241_sizeIsSticky, nA243_tw2_241, hinv3_243, hget3_243, hb3_243⟩ := hQ243
          replace NF := Fr.app NF Nq243
          clear Nq243
          refine WP.tr st243 ?_
          clear st243
          obtain ⟨h243, e243⟩ : ∃ h, T243.heap = h := ⟨_, rfl⟩
          rw [e243] at Kq243 nF243_b236_held nF243_b236_count nF243_b236_next nE243_bs_241 nF243_bs_241_words nF243_bs_241_wordsInUse nF243_bs_241_sizeIsSticky nA243_tw2_241
          replace OLD := OLD.keep Kq243 (allS g_b236 (allS g_bs_241 (allS g_tw2_241 all0)))
          replace E_b236 := E_b236.keep Kq243
          clear F_b236_held
          clear F_b236_count
          clear F_b236_next
          replace E_bs_241 := E_bs_241.keep Kq243
          clear F_bs_241_words
          clear F_bs_241_wordsInUse
          clear F_bs_241_sizeIsSticky
          clear V_tw2_241
          replace Z0 := Nat.le_trans Z0 Kq243.1
          clear Kq243
          have F_b236_held := nF243_b236_held
          clear nF243_b236_held
          have F_b236_count := nF243_b236_count
          clear nF243_b236_count
          have F_b236_next := nF243_b236_next
          clear nF243_b236_next
          clear E_bs_241
          have E_bs_241 := nE243_bs_241
          clear nE243_bs_241
          have F_bs_241_words := nF243_bs_241_words
          clear nF243_bs_241_words
          have F_bs_241_wordsInUse := nF243_bs_241_wordsInUse
          clear nF243_bs_241_wordsInUse
          have F_bs_241_sizeIsSticky := nF243_bs_241_sizeIsSticky
          clear nF243_bs_241_sizeIsSticky
          have V_tw2_241 := nA243_tw2_241
          clear nA243_tw2_241
          have hXN : ∃ LL, Stand p l e room_1 s m #[(.int p1), (.int p2), (.int p3), (.int p4)] below meth c T243 LL 4 2055 ∧ Fr n0 LL := ⟨_, X243, NF⟩
          clear X243 NF
          obtain ⟨LL244, X243, NF⟩ := hXN
          show WP p.tables e below _ T243 (mkF m 174 #[.val (.int p1), .val (.int p2), .val (.int p3), .val (.int p4), .val (.int (Int32.ofNat ia)), .val (.int (Int32.ofNat ib)), .val (.int (((p4.toUInt32 >>> ((3 : Int32) &&& 31).toUInt32).toInt32) &&& (3 : Int32))), .val (.int (Int32.ofNat iq)), .val (.int (1 : Int32)), .val (.int (0 : Int32)), .val (.int (1 : Int32)), .val (.ref b236), .unset] [(.int r_243)])
          refine WP.st (T' := T243) (f' := (mkF m 175 #[.val (.int p1), .val (.int p2), .val (.int p3), .val (.int p4), .val (.int (Int32.ofNat ia)), .val (.int (Int32.ofNat ib)), .val (.int (((p4.toUInt32 >>> ((3 : Int32) &&& 31).toUInt32).toInt32) &&& (3 : Int32))), .val (.int (Int32.ofNat iq)), .val (.int (1 : Int32)), .val (.int (0 : Int32)), .val (.int (1 : Int32)), .val (.ref b236), .unset] [])) (fun t k => ?_) ?_
          · refine XS.pop X243.here hx rfl (hb hby at_174) rfl rfl ?_
            exact k
          by_cases hc245 : (Int32.ofNat iq) = (Int32.ofNat ia)
          · skip
            by_cases hc246 : (Int32.ofNat iq) = (Int32.ofNat ib)
            · skip
              have n_ia : iq = ia := (own_eq (Nat.lt_of_le_of_lt h_iq (by decide)) (Nat.lt_of_le_of_lt h_ia (by decide))).1 hc245
              have n_ib : iq = ib := (own_eq (Nat.lt_of_le_of_lt h_iq (by decide)) (Nat.lt_of_le_of_lt h_ib (by decide))).1 hc246
              refine WP.st (T' := T243) (f' := (mkF m 222 #[.val (.int p1), .val (.int p2), .val (.int p3), .val (.int p4), .val (.int (Int32.ofNat ia)), .val (.int (Int32.ofNat ib)), .val (.int (((p4.toUInt32 >>> ((3 : Int32) &&& 31).toUInt32).toInt32) &&& (3 : Int32))), .val (.int (Int32.ofNat iq)), .val (.int (1 : Int32)), .val (.int (0 : Int32)), .val (.int (1 : Int32)), .val (.ref b236), .val (.int (0 : Int32))] [(.int (Int32.ofNat iq)), (.ref b236)])) (fun t k => ?_) ?_
              · refine XS.iload X243.here hx rfl (hb hby at_175) rfl ?_
                refine XS.ifNo X243.here hx rfl (hb hby at_177) rfl ((if0 _ _).trans (feq (by decide : ¬ ((1 : Int32) = (0 : Int32)))).1) ?_
                refine XS.iload X243.here hx rfl (hb hby at_180) rfl ?_
                refine XS.iload X243.here hx rfl (hb hby at_182) rfl ?_
                show Steps p.tables e below (T243.setTop (mkF m 184 #[.val (.int p1), .val (.int p2), .val (.int p3), .val (.int p4), .val (.int (Int32.ofNat ia)), .val (.int (Int32.ofNat ib)), .val (.int (((p4.toUInt32 >>> ((3 : Int32) &&& 31).toUInt32).toInt32) &&& (3 : Int32))), .val (.int (Int32.ofNat iq)), .val (.int (1 : Int32)), .val (.int (0 : Int32)), .val (.int (1 : Int32)), .val (.ref b236), .unset] [(.int (Int32.ofNat ia)), (.int (Int32.ofNat iq))])) t
                refine XS.icmpYes X243.here hx rfl (pc0 := 184) (pc' := 199) rfl (hb hby at_184) rfl (teq hc245).1 (by decide) (by decide) ?_
                refine XS.iload X243.here hx rfl (hb hby at_199) rfl ?_
                refine XS.ifNo X243.here hx rfl (hb hby at_201) rfl ((if0 _ _).trans (feq (by decide : ¬ ((1 : Int32) = (0 : Int32)))).1) ?_
                refine XS.iload X243.here hx rfl (hb hby at_204) rfl ?_
                show Steps p.tables e below (T243.setTop (mkF m 206 #[.val (.int p1), .val (.int p2), .val (.int p3), .val (.int p4), .val (.int (Int32.ofNat ia)), .val (.int (Int32.ofNat ib)), .val (.int (((p4.toUInt32 >>> ((3 : Int32) &&& 31).toUInt32).toInt32) &&& (3 : Int32))), .val (.int (Int32.ofNat iq)), .val (.int (1 : Int32)), .val (.int (0 : Int32)), .val (.int (1 : Int32)), .val (.ref b236), .unset] [(.int (Int32.ofNat iq))])) t
                refine XS.iload X243.here hx rfl (hb hby at_206) rfl ?_
                refine XS.icmpYes X243.here hx rfl (pc0 := 208) (pc' := 215) rfl (hb hby at_208) rfl (teq hc245).1 (by decide) (by decide) ?_
                refine XS.iconst X243.here hx rfl (hb hby at_215) ?_
                refine XS.istore X243.here hx rfl (hb hby at_216) rfl (l' := #[.val (.int p1), .val (.int p2), .val (.int p3), .val (.int p4), .val (.int (Int32.ofNat ia)), .val (.int (Int32.ofNat ib)), .val (.int (((p4.toUInt32 >>> ((3 : Int32) &&& 31).toUInt32).toInt32) &&& (3 : Int32))), .val (.int (Int32.ofNat iq)), .val (.int (1 : Int32)), .val (.int (0 : Int32)), .val (.int (1 : Int32)), .val (.ref b236), .val (.int (0 : Int32))]) rfl ?_
                show Steps p.tables e below (T243.setTop (mkF m 218 #[.val (.int p1), .val (.int p2), .val (.int p3), .val (.int p4), .val (.int (Int32.ofNat ia)), .val (.int (Int32.ofNat ib)), .val (.int (((p4.toUInt32 >>> ((3 : Int32) &&& 31).toUInt32).toInt32) &&& (3 : Int32))), .val (.int (Int32.ofNat iq)), .val (.int (1 : Int32)), .val (.int (0 : Int32)), .val (.int (1 : Int32)), .val (.ref b236), .val (.int (0 : Int32))] [])) t
                refine XS.aload X243.here hx rfl (hb hby at_218) rfl rfl ?_
                refine XS.iload X243.here hx rfl (hb hby at_220) rfl ?_
                exact k
              obtain ⟨cq247, kq247, q247a, q247b, q247c⟩ := isOf hZ e243 E_b236
              obtain ⟨_, _, ⟨T247, L247, k247, n247⟩, -, X247, ⟨Lc247, hQ247, l247, y247, z247⟩, st247⟩ := X243.virtualBack hx (y := (⟨"com/example/otayori/otayori/codec/PacketIds", "isHeld", "(I)Z"⟩ : MethodName)) (z := (⟨"com/example/otayori/otayori/codec/PacketIds", "isHeld", "(I)Z"⟩ : MethodName)) hown (mvT hZ (w_17 hw)) (mvT hZ (w_18 hw)) (notFace_of_selects (args := #[]) (mvT hZ (w_20 hw))) (mvT hZ (w_20 hw)) (mvT hZ (w_19 hw)) (by decide) (backOf (W := 0) (rm4y l Z a0 hw [] b236 bs_241 tw2_241 kw2_241 ws3_243 u2_243 st2_241 iq h243 n0 Z0 F_b236_held E_bs_241 g_bs_241 F_bs_241_words F_bs_241_wordsInUse F_bs_241_sizeIsSticky V_tw2_241 g_tw2_241 ne_bs_241_tw2_241 (hinv3_243 : own_inv ws3_243 u2_243) (hb3_243 : ws3_243.length ≤ 2048) OLD (O5 : Sta Z Z.heap "java/util/BitSet" "$assertionsDisabled" "Z" (.int (1 : Int32))) (h_iq : iq ≤ 65535)) hZ (w_21 hw) (w_8 hw) (by decide) (by decide)) q247a q247c (g := (mkF m 222 #[.val (.int p1), .val (.int p2), .val (.int p3), .val (.int p4), .val (.int (Int32.ofNat ia)), .val (.int (Int32.ofNat ib)), .val (.int (((p4.toUInt32 >>> ((3 : Int32) &&& 31).toUInt32).toInt32) &&& (3 : Int32))), .val (.int (Int32.ofNat iq)), .val (.int (1 : Int32)), .val (.int (0 : Int32)), .val (.int (1 : Int32)), .val (.ref b236), .val (.int (0 : Int32))] [(.int (Int32.ofNat iq)), (.ref b236)])) rfl (by rw [hml]; rfl) (Steps.refl _) (argsL := [(.int (Int32.ofNat iq))]) (rest := []) (lenOf pd_5 rfl) rfl (by show 2 * 0 + _ ≤ _; exact Nat.le_of_eq rfl) (hb hby at_222) (fun _ _ => ⟨rfl, e243, (by decide : 4 + 0 ≤ _), (by decide : 2055 + 0 ≤ _)⟩)
              dsimp only [Pt.U, Pt.locs, Pt.cells, Pt.slots] at X247 l247 y247 z247 st247 hQ247
              subst l247 y247 z247
              obtain ⟨rfl, Nq247, Kq247⟩ := hQ247
              replace NF := Fr.app NF Nq247
              clear Nq247
              refine WP.tr st247 ?_
              clear st247
              replace Kq247 := Kq247.trans (rfl : h243 = h243)
              have hXN : ∃ LL, Stand p l e room_1 s m #[(.int p1), (.int p2), (.int p3), (.int p4)] below meth c T247 LL 4 2055 ∧ Fr n0 LL := ⟨_, X247, NF⟩
              clear X247 NF
              obtain ⟨LL248, X247, NF⟩ := hXN
              show WP p.tables e below _ T247 (mkF m 225 #[.val (.int p1), .val (.int p2), .val (.int p3), .val (.int p4), .val (.int (Int32.ofNat ia)), .val (.int (Int32.ofNat ib)), .val (.int (((p4.toUInt32 >>> ((3 : Int32) &&& 31).toUInt32).toInt32) &&& (3 : Int32))), .val (.int (Int32.ofNat iq)), .val (.int (1 : Int32)), .val (.int (0 : Int32)), .val (.int (1 : Int32)), .val (.ref b236), .val (.int (0 : Int32))] [(.int (own_get ws3_243 iq))])
              rw [show (own_get ws3_243 iq) = (0 : Int32) from by rw [hget3_243 iq h_iq, hget3_241 iq h_iq]; (repeat' split) <;> first | rfl | (exfalso; omega)]
              show WP p.tables e below _ T247 (mkF m 225 #[.val (.int p1), .val (.int p2), .val (.int p3), .val (.int p4), .val (.int (Int32.ofNat ia)), .val (.int (Int32.ofNat ib)), .val (.int (((p4.toUInt32 >>> ((3 : Int32) &&& 31).toUInt32).toInt32) &&& (3 : Int32))), .val (.int (Int32.ofNat iq)), .val (.int (1 : Int32)), .val (.int (0 : Int32)), .val (.int (1 : Int32)), .val (.ref b236), .val (.int (0 : Int32))] [(.int (0 : Int32))])
              refine WP.st (T' := T247) (f' := (mkF m 235 #[.val (.int p1), .val (.int p2), .val (.int p3), .val (.int p4), .val (.int (Int32.ofNat ia)), .val (.int (Int32.ofNat ib)), .val (.int (((p4.toUInt32 >>> ((3 : Int32) &&& 31).toUInt32).toInt32) &&& (3 : Int32))), .val (.int (Int32.ofNat iq)), .val (.int (1 : Int32)), .val (.int (0 : Int32)), .val (.int (1 : Int32)), .val (.ref b236), .val (.int (0 : Int32))] [(.int (1 : Int32))])) (fun t k => ?_) ?_
              · refine XS.iload X247.here hx rfl (hb hby at_225) rfl ?_
                refine XS.icmpNo X247.here hx rfl (hb hby at_227) rfl (teq (by decide : (0 : Int32) = (0 : Int32))).2 ?_
                refine XS.iconst X247.here hx rfl (hb hby at_230) ?_
                refine XS.goto X247.here hx rfl (pc0 := 231) (pc' := 235) rfl (hb hby at_231) (by decide) (by decide) ?_
                exact k
              subst hG
              obtain ⟨fs, hr, hrun, hended, hW, hsame⟩ := X247.leave (v := some (.int (1 : Int32))) (fun h => by rw [Bd.returns] at h; cases h)
              refine WP.fin ⟨_, _, ?_, hrun, hended, _, _, rfl, ?_, ⟨_, rfl⟩, hW, hsame.mono (by decide) (by decide)⟩
              · exact retN X247 hx (t := .boolean) Bd.returns (by simp) (hb hby at_235) hr
              · show Q0 Z p1 p2 p3 p4 h0 n0 _ T247.heap _
                rw [Kq247]
                exact ⟨rfl, NF⟩
            · skip
              have n_ia : iq = ia := (own_eq (Nat.lt_of_le_of_lt h_iq (by decide)) (Nat.lt_of_le_of_lt h_ia (by decide))).1 hc245
              have n_ib : ¬ iq = ib := fun q => hc246 (congrArg Int32.ofNat q)
              refine WP.st (T' := T243) (f' := (mkF m 222 #[.val (.int p1), .val (.int p2), .val (.int p3), .val (.int p4), .val (.int (Int32.ofNat ia)), .val (.int (Int32.ofNat ib)), .val (.int (((p4.toUInt32 >>> ((3 : Int32) &&& 31).toUInt32).toInt32) &&& (3 : Int32))), .val (.int (Int32.ofNat iq)), .val (.int (1 : Int32)), .val (.int (0 : Int32)), .val (.int (1 : Int32)), .val (.ref b236), .val (.int (0 : Int32))] [(.int (Int32.ofNat iq)), (.ref b236)])) (fun t k => ?_) ?_
              · refine XS.iload X243.here hx rfl (hb hby at_175) rfl ?_
                refine XS.ifNo X243.here hx rfl (hb hby at_177) rfl ((if0 _ _).trans (feq (by decide : ¬ ((1 : Int32) = (0 : Int32)))).1) ?_
                refine XS.iload X243.here hx rfl (hb hby at_180) rfl ?_
                refine XS.iload X243.here hx rfl (hb hby at_182) rfl ?_
                show Steps p.tables e below (T243.setTop (mkF m 184 #[.val (.int p1), .val (.int p2), .val (.int p3), .val (.int p4), .val (.int (Int32.ofNat ia)), .val (.int (Int32.ofNat ib)), .val (.int (((p4.toUInt32 >>> ((3 : Int32) &&& 31).toUInt32).toInt32) &&& (3 : Int32))), .val (.int (Int32.ofNat iq)), .val (.int (1 : Int32)), .val (.int (0 : Int32)), .val (.int (1 : Int32)), .val (.ref b236), .unset] [(.int (Int32.ofNat ia)), (.int (Int32.ofNat iq))])) t
                refine XS.icmpYes X243.here hx rfl (pc0 := 184) (pc' := 199) rfl (hb hby at_184) rfl (teq hc245).1 (by decide) (by decide) ?_
                refine XS.iload X243.here hx rfl (hb hby at_199) rfl ?_
                refine XS.ifNo X243.here hx rfl (hb hby at_201) rfl ((if0 _ _).trans (feq (by decide : ¬ ((1 : Int32) = (0 : Int32)))).1) ?_
                refine XS.iload X243.here hx rfl (hb hby at_204) rfl ?_
                show Steps p.tables e below (T243.setTop (mkF m 206 #[.val (.int p1), .val (.int p2), .val (.int p3), .val (.int p4), .val (.int (Int32.ofNat ia)), .val (.int (Int32.ofNat ib)), .val (.int (((p4.toUInt32 >>> ((3 : Int32) &&& 31).toUInt32).toInt32) &&& (3 : Int32))), .val (.int (Int32.ofNat iq)), .val (.int (1 : Int32)), .val (.int (0 : Int32)), .val (.int (1 : Int32)), .val (.ref b236), .unset] [(.int (Int32.ofNat iq))])) t
                refine XS.iload X243.here hx rfl (hb hby at_206) rfl ?_
                refine XS.icmpYes X243.here hx rfl (pc0 := 208) (pc' := 215) rfl (hb hby at_208) rfl (teq hc245).1 (by decide) (by decide) ?_
                refine XS.iconst X243.here hx rfl (hb hby at_215) ?_
                refine XS.istore X243.here hx rfl (hb hby at_216) rfl (l' := #[.val (.int p1), .val (.int p2), .val (.int p3), .val (.int p4), .val (.int (Int32.ofNat ia)), .val (.int (Int32.ofNat ib)), .val (.int (((p4.toUInt32 >>> ((3 : Int32) &&& 31).toUInt32).toInt32) &&& (3 : Int32))), .val (.int (Int32.ofNat iq)), .val (.int (1 : Int32)), .val (.int (0 : Int32)), .val (.int (1 : Int32)), .val (.ref b236), .val (.int (0 : Int32))]) rfl ?_
                show Steps p.tables e below (T243.setTop (mkF m 218 #[.val (.int p1), .val (.int p2), .val (.int p3), .val (.int p4), .val (.int (Int32.ofNat ia)), .val (.int (Int32.ofNat ib)), .val (.int (((p4.toUInt32 >>> ((3 : Int32) &&& 31).toUInt32).toInt32) &&& (3 : Int32))), .val (.int (Int32.ofNat iq)), .val (.int (1 : Int32)), .val (.int (0 : Int32)), .val (.int (1 : Int32)), .val (.ref b236), .val (.int (0 : Int32))] [])) t
                refine XS.aload X243.here hx rfl (hb hby at_218) rfl rfl ?_
                refine XS.iload X243.here hx rfl (hb hby at_220) rfl ?_
                exact k
              obtain ⟨cq249, kq249, q249a, q249b, q249c⟩ := isOf hZ e243 E_b236
              obtain ⟨_, _, ⟨T249, L249, k249, n249⟩, -, X249, ⟨Lc249, hQ249, l249, y249, z249⟩, st249⟩ := X243.virtualBack hx (y := (⟨"com/example/otayori/otayori/codec/PacketIds", "isHeld", "(I)Z"⟩ : MethodName)) (z := (⟨"com/example/otayori/otayori/codec/PacketIds", "isHeld", "(I)Z"⟩ : MethodName)) hown (mvT hZ (w_17 hw)) (mvT hZ (w_18 hw)) (notFace_of_selects (args := #[]) (mvT hZ (w_20 hw))) (mvT hZ (w_20 hw)) (mvT hZ (w_19 hw)) (by decide) (backOf (W := 0) (rm4y l Z a0 hw [] b236 bs_241 tw2_241 kw2_241 ws3_243 u2_243 st2_241 iq h243 n0 Z0 F_b236_held E_bs_241 g_bs_241 F_bs_241_words F_bs_241_wordsInUse F_bs_241_sizeIsSticky V_tw2_241 g_tw2_241 ne_bs_241_tw2_241 (hinv3_243 : own_inv ws3_243 u2_243) (hb3_243 : ws3_243.length ≤ 2048) OLD (O5 : Sta Z Z.heap "java/util/BitSet" "$assertionsDisabled" "Z" (.int (1 : Int32))) (h_iq : iq ≤ 65535)) hZ (w_21 hw) (w_8 hw) (by decide) (by decide)) q249a q249c (g := (mkF m 222 #[.val (.int p1), .val (.int p2), .val (.int p3), .val (.int p4), .val (.int (Int32.ofNat ia)), .val (.int (Int32.ofNat ib)), .val (.int (((p4.toUInt32 >>> ((3 : Int32) &&& 31).toUInt32).toInt32) &&& (3 : Int32))), .val (.int (Int32.ofNat iq)), .val (.int (1 : Int32)), .val (.int (0 : Int32)), .val (.int (1 : Int32)), .val (.ref b236), .val (.int (0 : Int32))] [(.int (Int32.ofNat iq)), (.ref b236)])) rfl (by rw [hml]; rfl) (Steps.refl _) (argsL := [(.int (Int32.ofNat iq))]) (rest := []) (lenOf pd_5 rfl) rfl (by show 2 * 0 + _ ≤ _; exact Nat.le_of_eq rfl) (hb hby at_222) (fun _ _ => ⟨rfl, e243, (by decide : 4 + 0 ≤ _), (by decide : 2055 + 0 ≤ _)⟩)
              dsimp only [Pt.U, Pt.locs, Pt.cells, Pt.slots] at X249 l249 y249 z249 st249 hQ249
              subst l249 y249 z249
              obtain ⟨rfl, Nq249, Kq249⟩ := hQ249
              replace NF := Fr.app NF Nq249
              clear Nq249
              refine WP.tr st249 ?_
              clear st249
              replace Kq249 := Kq249.trans (rfl : h243 = h243)
              have hXN : ∃ LL, Stand p l e room_1 s m #[(.int p1), (.int p2), (.int p3), (.int p4)] below meth c T249 LL 4 2055 ∧ Fr n0 LL := ⟨_, X249, NF⟩
              clear X249 NF
              obtain ⟨LL250, X249, NF⟩ := hXN
              show WP p.tables e below _ T249 (mkF m 225 #[.val (.int p1), .val (.int p2), .val (.int p3), .val (.int p4), .val (.int (Int32.ofNat ia)), .val (.int (Int32.ofNat ib)), .val (.int (((p4.toUInt32 >>> ((3 : Int32) &&& 31).toUInt32).toInt32) &&& (3 : Int32))), .val (.int (Int32.ofNat iq)), .val (.int (1 : Int32)), .val (.int (0 : Int32)), .val (.int (1 : Int32)), .val (.ref b236), .val (.int (0 : Int32))] [(.int (own_get ws3_243 iq))])
              rw [show (own_get ws3_243 iq) = (0 : Int32) from by rw [hget3_243 iq h_iq, hget3_241 iq h_iq]; (repeat' split) <;> first | rfl | (exfalso; omega)]
              show WP p.tables e below _ T249 (mkF m 225 #[.val (.int p1), .val (.int p2), .val (.int p3), .val (.int p4), .val (.int (Int32.ofNat ia)), .val (.int (Int32.ofNat ib)), .val (.int (((p4.toUInt32 >>> ((3 : Int32) &&& 31).toUInt32).toInt32) &&& (3 : Int32))), .val (.int (Int32.ofNat iq)), .val (.int (1 : Int32)), .val (.int (0 : Int32)), .val (.int (1 : Int32)), .val (.ref b236), .val (.int (0 : Int32))] [(.int (0 : Int32))])
              refine WP.st (T' := T249) (f' := (mkF m 235 #[.val (.int p1), .val (.int p2), .val (.int p3), .val (.int p4), .val (.int (Int32.ofNat ia)), .val (.int (Int32.ofNat ib)), .val (.int (((p4.toUInt32 >>> ((3 : Int32) &&& 31).toUInt32).toInt32) &&& (3 : Int32))), .val (.int (Int32.ofNat iq)), .val (.int (1 : Int32)), .val (.int (0 : Int32)), .val (.int (1 : Int32)), .val (.ref b236), .val (.int (0 : Int32))] [(.int (1 : Int32))])) (fun t k => ?_) ?_
              · refine XS.iload X249.here hx rfl (hb hby at_225) rfl ?_
                refine XS.icmpNo X249.here hx rfl (hb hby at_227) rfl (teq (by decide : (0 : Int32) = (0 : Int32))).2 ?_
                refine XS.iconst X249.here hx rfl (hb hby at_230) ?_
                refine XS.goto X249.here hx rfl (pc0 := 231) (pc' := 235) rfl (hb hby at_231) (by decide) (by decide) ?_
                exact k
              subst hG
              obtain ⟨fs, hr, hrun, hended, hW, hsame⟩ := X249.leave (v := some (.int (1 : Int32))) (fun h => by rw [Bd.returns] at h; cases h)
              refine WP.fin ⟨_, _, ?_, hrun, hended, _, _, rfl, ?_, ⟨_, rfl⟩, hW, hsame.mono (by decide) (by decide)⟩
              · exact retN X249 hx (t := .boolean) Bd.returns (by simp) (hb hby at_235) hr
              · show Q0 Z p1 p2 p3 p4 h0 n0 _ T249.heap _
                rw [Kq249]
                exact ⟨rfl, NF⟩
          · skip
            by_cases hc251 : (Int32.ofNat iq) = (Int32.ofNat ib)
            · skip
              have n_ia : ¬ iq = ia := fun q => hc245 (congrArg Int32.ofNat q)
              have n_ib : iq = ib := (own_eq (Nat.lt_of_le_of_lt h_iq (by decide)) (Nat.lt_of_le_of_lt h_ib (by decide))).1 hc251
              refine WP.st (T' := T243) (f' := (mkF m 222 #[.val (.int p1), .val (.int p2), .val (.int p3), .val (.int p4), .val (.int (Int32.ofNat ia)), .val (.int (Int32.ofNat ib)), .val (.int (((p4.toUInt32 >>> ((3 : Int32) &&& 31).toUInt32).toInt32) &&& (3 : Int32))), .val (.int (Int32.ofNat iq)), .val (.int (1 : Int32)), .val (.int (0 : Int32)), .val (.int (1 : Int32)), .val (.ref b236), .val (.int (0 : Int32))] [(.int (Int32.ofNat iq)), (.ref b236)])) (fun t k => ?_) ?_
              · refine XS.iload X243.here hx rfl (hb hby at_175) rfl ?_
                refine XS.ifNo X243.here hx rfl (hb hby at_177) rfl ((if0 _ _).trans (feq (by decide : ¬ ((1 : Int32) = (0 : Int32)))).1) ?_
                refine XS.iload X243.here hx rfl (hb hby at_180) rfl ?_
                refine XS.iload X243.here hx rfl (hb hby at_182) rfl ?_
                show Steps p.tables e below (T243.setTop (mkF m 184 #[.val (.int p1), .val (.int p2), .val (.int p3), .val (.int p4), .val (.int (Int32.ofNat ia)), .val (.int (Int32.ofNat ib)), .val (.int (((p4.toUInt32 >>> ((3 : Int32) &&& 31).toUInt32).toInt32) &&& (3 : Int32))), .val (.int (Int32.ofNat iq)), .val (.int (1 : Int32)), .val (.int (0 : Int32)), .val (.int (1 : Int32)), .val (.ref b236), .unset] [(.int (Int32.ofNat ia)), (.int (Int32.ofNat iq))])) t
                refine XS.icmpNo X243.here hx rfl (hb hby at_184) rfl (feq hc245).1 ?_
                refine XS.iload X243.here hx rfl (hb hby at_187) rfl ?_
                refine XS.ifYes X243.here hx rfl (pc0 := 189) (pc' := 215) rfl (hb hby at_189) rfl ((if0 _ _).trans (teq (by decide : (0 : Int32) = (0 : Int32))).1) (by decide) (by decide) ?_
                refine XS.iconst X243.here hx rfl (hb hby at_215) ?_
                show Steps p.tables e below (T243.setTop (mkF m 216 #[.val (.int p1), .val (.int p2), .val (.int p3), .val (.int p4), .val (.int (Int32.ofNat ia)), .val (.int (Int32.ofNat ib)), .val (.int (((p4.toUInt32 >>> ((3 : Int32) &&& 31).toUInt32).toInt32) &&& (3 : Int32))), .val (.int (Int32.ofNat iq)), .val (.int (1 : Int32)), .val (.int (0 : Int32)), .val (.int (1 : Int32)), .val (.ref b236), .unset] [(.int (0 : Int32))])) t
                refine XS.istore X243.here hx rfl (hb hby at_216) rfl (l' := #[.val (.int p1), .val (.int p2), .val (.int p3), .val (.int p4), .val (.int (Int32.ofNat ia)), .val (.int (Int32.ofNat ib)), .val (.int (((p4.toUInt32 >>> ((3 : Int32) &&& 31).toUInt32).toInt32) &&& (3 : Int32))), .val (.int (Int32.ofNat iq)), .val (.int (1 : Int32)), .val (.int (0 : Int32)), .val (.int (1 : Int32)), .val (.ref b236), .val (.int (0 : Int32))]) rfl ?_
                refine XS.aload X243.here hx rfl (hb hby at_218) rfl rfl ?_
                refine XS.iload X243.here hx rfl (hb hby at_220) rfl ?_
                exact k
              obtain ⟨cq252, kq252, q252a, q252b, q252c⟩ := isOf hZ e243 E_b236
              obtain ⟨_, _, ⟨T252, L252, k252, n252⟩, -, X252, ⟨Lc252, hQ252, l252, y252, z252⟩, st252⟩ := X243.virtualBack hx (y := (⟨"com/example/otayori/otayori/codec/PacketIds", "isHeld", "(I)Z"⟩ : MethodName)) (z := (⟨"com/example/otayori/otayori/codec/PacketIds", "isHeld", "(I)Z"⟩ : MethodName)) hown (mvT hZ (w_17 hw)) (mvT hZ (w_18 hw)) (notFace_of_selects (args := #[]) (mvT hZ (w_20 hw))) (mvT hZ (w_20 hw)) (mvT hZ (w_19 hw)) (by decide) (backOf (W := 0) (rm4y l Z a0 hw [] b236 bs_241 tw2_241 kw2_241 ws3_243 u2_243 st2_241 iq h243 n0 Z0 F_b236_held E_bs_241 g_bs_241 F_bs_241_words F_bs_241_wordsInUse F_bs_241_sizeIsSticky V_tw2_241 g_tw2_241 ne_bs_241_tw2_241 (hinv3_243 : own_inv ws3_243 u2_243) (hb3_243 : ws3_243.length ≤ 2048) OLD (O5 : Sta Z Z.heap "java/util/BitSet" "$assertionsDisabled" "Z" (.int (1 : Int32))) (h_iq : iq ≤ 65535)) hZ (w_21 hw) (w_8 hw) (by decide) (by decide)) q252a q252c (g := (mkF m 222 #[.val (.int p1), .val (.int p2), .val (.int p3), .val (.int p4), .val (.int (Int32.ofNat ia)), .val (.int (Int32.ofNat ib)), .val (.int (((p4.toUInt32 >>> ((3 : Int32) &&& 31).toUInt32).toInt32) &&& (3 : Int32))), .val (.int (Int32.ofNat iq)), .val (.int (1 : Int32)), .val (.int (0 : Int32)), .val (.int (1 : Int32)), .val (.ref b236), .val (.int (0 : Int32))] [(.int (Int32.ofNat iq)), (.ref b236)])) rfl (by rw [hml]; rfl) (Steps.refl _) (argsL := [(.int (Int32.ofNat iq))]) (rest := []) (lenOf pd_5 rfl) rfl (by show 2 * 0 + _ ≤ _; exact Nat.le_of_eq rfl) (hb hby at_222) (fun _ _ => ⟨rfl, e243, (by decide : 4 + 0 ≤ _), (by decide : 2055 + 0 ≤ _)⟩)
              dsimp only [Pt.U, Pt.locs, Pt.cells, Pt.slots] at X252 l252 y252 z252 st252 hQ252
              subst l252 y252 z252
              obtain ⟨rfl, Nq252, Kq252⟩ := hQ252
              replace NF := Fr.app NF Nq252
              clear Nq252
              refine WP.tr st252 ?_
              clear st252
              replace Kq252 := Kq252.trans (rfl : h243 = h243)
              have hXN : ∃ LL, Stand p l e room_1 s m #[(.int p1), (.int p2), (.int p3), (.int p4)] below meth c T252 LL 4 2055 ∧ Fr n0 LL := ⟨_, X252, NF⟩
              clear X252 NF
              obtain ⟨LL253, X252, NF⟩ := hXN
              show WP p.tables e below _ T252 (mkF m 225 #[.val (.int p1), .val (.int p2), .val (.int p3), .val (.int p4), .val (.int (Int32.ofNat ia)), .val (.int (Int32.ofNat ib)), .val (.int (((p4.toUInt32 >>> ((3 : Int32) &&& 31).toUInt32).toInt32) &&& (3 : Int32))), .val (.int (Int32.ofNat iq)), .val (.int (1 : Int32)), .val (.int (0 : Int32)), .val (.int (1 : Int32)), .val (.ref b236), .val (.int (0 : Int32))] [(.int (own_get ws3_243 iq))])
              rw [show (own_get ws3_243 iq) = (0 : Int32) from by rw [hget3_243 iq h_iq, hget3_241 iq h_iq]; (repeat' split) <;> first | rfl | (exfalso; omega)]
              show WP p.tables e below _ T252 (mkF m 225 #[.val (.int p1), .val (.int p2), .val (.int p3), .val (.int p4), .val (.int (Int32.ofNat ia)), .val (.int (Int32.ofNat ib)), .val (.int (((p4.toUInt32 >>> ((3 : Int32) &&& 31).toUInt32).toInt32) &&& (3 : Int32))), .val (.int (Int32.ofNat iq)), .val (.int (1 : Int32)), .val (.int (0 : Int32)), .val (.int (1 : Int32)), .val (.ref b236), .val (.int (0 : Int32))] [(.int (0 : Int32))])
              refine WP.st (T' := T252) (f' := (mkF m 235 #[.val (.int p1), .val (.int p2), .val (.int p3), .val (.int p4), .val (.int (Int32.ofNat ia)), .val (.int (Int32.ofNat ib)), .val (.int (((p4.toUInt32 >>> ((3 : Int32) &&& 31).toUInt32).toInt32) &&& (3 : Int32))), .val (.int (Int32.ofNat iq)), .val (.int (1 : Int32)), .val (.int (0 : Int32)), .val (.int (1 : Int32)), .val (.ref b236), .val (.int (0 : Int32))] [(.int (1 : Int32))])) (fun t k => ?_) ?_
              · refine XS.iload X252.here hx rfl (hb hby at_225) rfl ?_
                refine XS.icmpNo X252.here hx rfl (hb hby at_227) rfl (teq (by decide : (0 : Int32) = (0 : Int32))).2 ?_
                refine XS.iconst X252.here hx rfl (hb hby at_230) ?_
                refine XS.goto X252.here hx rfl (pc0 := 231) (pc' := 235) rfl (hb hby at_231) (by decide) (by decide) ?_
                exact k
              subst hG
              obtain ⟨fs, hr, hrun, hended, hW, hsame⟩ := X252.leave (v := some (.int (1 : Int32))) (fun h => by rw [Bd.returns] at h; cases h)
              refine WP.fin ⟨_, _, ?_, hrun, hended, _, _, rfl, ?_, ⟨_, rfl⟩, hW, hsame.mono (by decide) (by decide)⟩
              · exact retN X252 hx (t := .boolean) Bd.returns (by simp) (hb hby at_235) hr
              · show Q0 Z p1 p2 p3 p4 h0 n0 _ T252.heap _
                rw [Kq252]
                exact ⟨rfl, NF⟩
            · skip
              have n_ia : ¬ iq = ia := fun q => hc245 (congrArg Int32.ofNat q)
              have n_ib : ¬ iq = ib := fun q => hc251 (congrArg Int32.ofNat q)
              refine WP.st (T' := T243) (f' := (mkF m 222 #[.val (.int p1), .val (.int p2), .val (.int p3), .val (.int p4), .val (.int (Int32.ofNat ia)), .val (.int (Int32.ofNat ib)), .val (.int (((p4.toUInt32 >>> ((3 : Int32) &&& 31).toUInt32).toInt32) &&& (3 : Int32))), .val (.int (Int32.ofNat iq)), .val (.int (1 : Int32)), .val (.int (0 : Int32)), .val (.int (1 : Int32)), .val (.ref b236), .val (.int (0 : Int32))] [(.int (Int32.ofNat iq)), (.ref b236)])) (fun t k => ?_) ?_
              · refine XS.iload X243.here hx rfl (hb hby at_175) rfl ?_
                refine XS.ifNo X243.here hx rfl (hb hby at_177) rfl ((if0 _ _).trans (feq (by decide : ¬ ((1 : Int32) = (0 : Int32)))).1) ?_
                refine XS.iload X243.here hx rfl (hb hby at_180) rfl ?_
                refine XS.iload X243.here hx rfl (hb hby at_182) rfl ?_
                show Steps p.tables e below (T243.setTop (mkF m 184 #[.val (.int p1), .val (.int p2), .val (.int p3), .val (.int p4), .val (.int (Int32.ofNat ia)), .val (.int (Int32.ofNat ib)), .val (.int (((p4.toUInt32 >>> ((3 : Int32) &&& 31).toUInt32).toInt32) &&& (3 : Int32))), .val (.int (Int32.ofNat iq)), .val (.int (1 : Int32)), .val (.int (0 : Int32)), .val (.int (1 : Int32)), .val (.ref b236), .unset] [(.int (Int32.ofNat ia)), (.int (Int32.ofNat iq))])) t
                refine XS.icmpNo X243.here hx rfl (hb hby at_184) rfl (feq hc245).1 ?_
                refine XS.iload X243.here hx rfl (hb hby at_187) rfl ?_
                refine XS.ifYes X243.here hx rfl (pc0 := 189) (pc' := 215) rfl (hb hby at_189) rfl ((if0 _ _).trans (teq (by decide : (0 : Int32) = (0 : Int32))).1) (by decide) (by decide) ?_
                refine XS.iconst X243.here hx rfl (hb hby at_215) ?_
                show Steps p.tables e below (T243.setTop (mkF m 216 #[.val (.int p1), .val (.int p2), .val (.int p3), .val (.int p4), .val (.int (Int32.ofNat ia)), .val (.int (Int32.ofNat ib)), .val (.int (((p4.toUInt32 >>> ((3 : Int32) &&& 31).toUInt32).toInt32) &&& (3 : Int32))), .val (.int (Int32.ofNat iq)), .val (.int (1 : Int32)), .val (.int (0 : Int32)), .val (.int (1 : Int32)), .val (.ref b236), .unset] [(.int (0 : Int32))])) t
                refine XS.istore X243.here hx rfl (hb hby at_216) rfl (l' := #[.val (.int p1), .val (.int p2), .val (.int p3), .val (.int p4), .val (.int (Int32.ofNat ia)), .val (.int (Int32.ofNat ib)), .val (.int (((p4.toUInt32 >>> ((3 : Int32) &&& 31).toUInt32).toInt32) &&& (3 : Int32))), .val (.int (Int32.ofNat iq)), .val (.int (1 : Int32)), .val (.int (0 : Int32)), .val (.int (1 : Int32)), .val (.ref b236), .val (.int (0 : Int32))]) rfl ?_
                refine XS.aload X243.here hx rfl (hb hby at_218) rfl rfl ?_
                refine XS.iload X243.here hx rfl (hb hby at_220) rfl ?_
                exact k
              obtain ⟨cq254, kq254, q254a, q254b, q254c⟩ := isOf hZ e243 E_b236
              obtain ⟨_, _, ⟨T254, L254, k254, n254⟩, -, X254, ⟨Lc254, hQ254, l254, y254, z254⟩, st254⟩ := X243.virtualBack hx (y := (⟨"com/example/otayori/otayori/codec/PacketIds", "isHeld", "(I)Z"⟩ : MethodName)) (z := (⟨"com/example/otayori/otayori/codec/PacketIds", "isHeld", "(I)Z"⟩ : MethodName)) hown (mvT hZ (w_17 hw)) (mvT hZ (w_18 hw)) (notFace_of_selects (args := #[]) (mvT hZ (w_20 hw))) (mvT hZ (w_20 hw)) (mvT hZ (w_19 hw)) (by decide) (backOf (W := 0) (rm4y l Z a0 hw [] b236 bs_241 tw2_241 kw2_241 ws3_243 u2_243 st2_241 iq h243 n0 Z0 F_b236_held E_bs_241 g_bs_241 F_bs_241_words F_bs_241_wordsInUse F_bs_241_sizeIsSticky V_tw2_241 g_tw2_241 ne_bs_241_tw2_241 (hinv3_243 : own_inv ws3_243 u2_243) (hb3_243 : ws3_243.length ≤ 2048) OLD (O5 : Sta Z Z.heap "java/util/BitSet" "$assertionsDisabled" "Z" (.int (1 : Int32))) (h_iq : iq ≤ 65535)) hZ (w_21 hw) (w_8 hw) (by decide) (by decide)) q254a q254c (g := (mkF m 222 #[.val (.int p1), .val (.int p2), .val (.int p3), .val (.int p4), .val (.int (Int32.ofNat ia)), .val (.int (Int32.ofNat ib)), .val (.int (((p4.toUInt32 >>> ((3 : Int32) &&& 31).toUInt32).toInt32) &&& (3 : Int32))), .val (.int (Int32.ofNat iq)), .val (.int (1 : Int32)), .val (.int (0 : Int32)), .val (.int (1 : Int32)), .val (.ref b236), .val (.int (0 : Int32))] [(.int (Int32.ofNat iq)), (.ref b236)])) rfl (by rw [hml]; rfl) (Steps.refl _) (argsL := [(.int (Int32.ofNat iq))]) (rest := []) (lenOf pd_5 rfl) rfl (by show 2 * 0 + _ ≤ _; exact Nat.le_of_eq rfl) (hb hby at_222) (fun _ _ => ⟨rfl, e243, (by decide : 4 + 0 ≤ _), (by decide : 2055 + 0 ≤ _)⟩)
              dsimp only [Pt.U, Pt.locs, Pt.cells, Pt.slots] at X254 l254 y254 z254 st254 hQ254
              subst l254 y254 z254
              obtain ⟨rfl, Nq254, Kq254⟩ := hQ254
              replace NF := Fr.app NF Nq254
              clear Nq254
              refine WP.tr st254 ?_
              clear st254
              replace Kq254 := Kq254.trans (rfl : h243 = h243)
              have hXN : ∃ LL, Stand p l e room_1 s m #[(.int p1), (.int p2), (.int p3), (.int p4)] below meth c T254 LL 4 2055 ∧ Fr n0 LL := ⟨_, X254, NF⟩
              clear X254 NF
              obtain ⟨LL255, X254, NF⟩ := hXN
              show WP p.tables e below _ T254 (mkF m 225 #[.val (.int p1), .val (.int p2), .val (.int p3), .val (.int p4), .val (.int (Int32.ofNat ia)), .val (.int (Int32.ofNat ib)), .val (.int (((p4.toUInt32 >>> ((3 : Int32) &&& 31).toUInt32).toInt32) &&& (3 : Int32))), .val (.int (Int32.ofNat iq)), .val (.int (1 : Int32)), .val (.int (0 : Int32)), .val (.int (1 : Int32)), .val (.ref b236), .val (.int (0 : Int32))] [(.int (own_get ws3_243 iq))])
              rw [show (own_get ws3_243 iq) = (0 : Int32) from by rw [hget3_243 iq h_iq, hget3_241 iq h_iq]; (repeat' split) <;> first | rfl | (exfalso; omega)]
              show WP p.tables e below _ T254 (mkF m 225 #[.val (.int p1), .val (.int p2), .val (.int p3), .val (.int p4), .val (.int (Int32.ofNat ia)), .val (.int (Int32.ofNat ib)), .val (.int (((p4.toUInt32 >>> ((3 : Int32) &&& 31).toUInt32).toInt32) &&& (3 : Int32))), .val (.int (Int32.ofNat iq)), .val (.int (1 : Int32)), .val (.int (0 : Int32)), .val (.int (1 : Int32)), .val (.ref b236), .val (.int (0 : Int32))] [(.int (0 : Int32))])
              refine WP.st (T' := T254) (f' := (mkF m 235 #[.val (.int p1), .val (.int p2), .val (.int p3), .val (.int p4), .val (.int (Int32.ofNat ia)), .val (.int (Int32.ofNat ib)), .val (.int (((p4.toUInt32 >>> ((3 : Int32) &&& 31).toUInt32).toInt32) &&& (3 : Int32))), .val (.int (Int32.ofNat iq)), .val (.int (1 : Int32)), .val (.int (0 : Int32)), .val (.int (1 : Int32)), .val (.ref b236), .val (.int (0 : Int32))] [(.int (1 : Int32))])) (fun t k => ?_) ?_
              · refine XS.iload X254.here hx rfl (hb hby at_225) rfl ?_
                refine XS.icmpNo X254.here hx rfl (hb hby at_227) rfl (teq (by decide : (0 : Int32) = (0 : Int32))).2 ?_
                refine XS.iconst X254.here hx rfl (hb hby at_230) ?_
                refine XS.goto X254.here hx rfl (pc0 := 231) (pc' := 235) rfl (hb hby at_231) (by decide) (by decide) ?_
                exact k
              subst hG
              obtain ⟨fs, hr, hrun, hended, hW, hsame⟩ := X254.leave (v := some (.int (1 : Int32))) (fun h => by rw [Bd.returns] at h; cases h)
              refine WP.fin ⟨_, _, ?_, hrun, hended, _, _, rfl, ?_, ⟨_, rfl⟩, hW, hsame.mono (by decide) (by decide)⟩
              · exact retN X254 hx (t := .boolean) Bd.returns (by simp) (hb hby at_235) hr
              · show Q0 Z p1 p2 p3 p4 h0 n0 _ T254.heap _
                rw [Kq254]
                exact ⟨rfl, NF⟩
      · skip
        refine WP.st (T' := Tj139) (f' := (mkF m 105 #[.val (.int p1), .val (.int p2), .val (.int p3), .val (.int p4), .val (.int (Int32.ofNat ia)), .val (.int (Int32.ofNat ib)), .val (.int (((p4.toUInt32 >>> ((3 : Int32) &&& 31).toUInt32).toInt32) &&& (3 : Int32))), .val (.int (Int32.ofNat iq)), .val (.int (1 : Int32)), .val (.int (1 : Int32)), .unset, .unset, .unset] [(.int (p4 &&& (4 : Int32)))])) (fun t k => ?_) ?_
        · refine XS.ifNo X139.here hx rfl (hb hby at_92) rfl ((if0 _ _).trans (feq hc216).1) ?_
          refine XS.iconst X139.here hx rfl (hb hby at_95) ?_
          refine XS.goto X139.here hx rfl (pc0 := 96) (pc' := 100) rfl (hb hby at_96) (by decide) (by decide) ?_
          refine XS.istore X139.here hx rfl (hb hby at_100) rfl (l' := #[.val (.int p1), .val (.int p2), .val (.int p3), .val (.int p4), .val (.int (Int32.ofNat ia)), .val (.int (Int32.ofNat ib)), .val (.int (((p4.toUInt32 >>> ((3 : Int32) &&& 31).toUInt32).toInt32) &&& (3 : Int32))), .val (.int (Int32.ofNat iq)), .val (.int (1 : Int32)), .val (.int (1 : Int32)), .unset, .unset, .unset]) rfl ?_
          show Steps p.tables e below (Tj139.setTop (mkF m 102 #[.val (.int p1), .val (.int p2), .val (.int p3), .val (.int p4), .val (.int (Int32.ofNat ia)), .val (.int (Int32.ofNat ib)), .val (.int (((p4.toUInt32 >>> ((3 : Int32) &&& 31).toUInt32).toInt32) &&& (3 : Int32))), .val (.int (Int32.ofNat iq)), .val (.int (1 : Int32)), .val (.int (1 : Int32)), .unset, .unset, .unset] [])) t
          refine XS.iloadN X139.here hx rfl (hb hby at_102) rfl ?_
          refine XS.iconst X139.here hx rfl (hb hby at_103) ?_
          refine XS.iand X139.here hx rfl (hb hby at_104) rfl ?_
          exact k
        by_cases hc256 : (p4 &&& (4 : Int32)) = (0 : Int32)
        · skip
          refine WP.st (T' := Tj139) (f' := (mkF m 115 #[.val (.int p1), .val (.int p2), .val (.int p3), .val (.int p4), .val (.int (Int32.ofNat ia)), .val (.int (Int32.ofNat ib)), .val (.int (((p4.toUInt32 >>> ((3 : Int32) &&& 31).toUInt32).toInt32) &&& (3 : Int32))), .val (.int (Int32.ofNat iq)), .val (.int (1 : Int32)), .val (.int (1 : Int32)), .val (.int (0 : Int32)), .unset, .unset] [])) (fun t k => ?_) ?_
          · refine XS.ifYes X139.here hx rfl (pc0 := 105) (pc' := 112) rfl (hb hby at_105) rfl ((if0 _ _).trans (teq hc256).1) (by decide) (by decide) ?_
            refine XS.iconst X139.here hx rfl (hb hby at_112) ?_
            refine XS.istore X139.here hx rfl (hb hby at_113) rfl (l' := #[.val (.int p1), .val (.int p2), .val (.int p3), .val (.int p4), .val (.int (Int32.ofNat ia)), .val (.int (Int32.ofNat ib)), .val (.int (((p4.toUInt32 >>> ((3 : Int32) &&& 31).toUInt32).toInt32) &&& (3 : Int32))), .val (.int (Int32.ofNat iq)), .val (.int (1 : Int32)), .val (.int (1 : Int32)), .val (.int (0 : Int32)), .unset, .unset]) rfl ?_
            exact k
          obtain ⟨T257, h257, X257, e257, E257, A257, D257, -, st257⟩ := newO X139 hx hZ hown (w_6 hw) (w_7 hw) (w_8 hw) ej139 (g := (mkF m 115 #[.val (.int p1), .val (.int p2), .val (.int p3), .val (.int p4), .val (.int (Int32.ofNat ia)), .val (.int (Int32.ofNat ib)), .val (.int (((p4.toUInt32 >>> ((3 : Int32) &&& 31).toUInt32).toInt32) &&& (3 : Int32))), .val (.int (Int32.ofNat iq)), .val (.int (1 : Int32)), .val (.int (1 : Int32)), .val (.int (0 : Int32)), .unset, .unset] [])) rfl (hb hby at_115) (by decide) (by decide)
          obtain ⟨b257, g257⟩ : ∃ z, z = h0.size := ⟨_, rfl⟩
          rw [← g257] at A257 D257 st257
          refine WP.st st257 ?_
          clear st257
          have g_b257 : n0 ≤ b257 := Nat.le_trans Z0 (Nat.le_of_eq g257.symm)
          replace OLD := OLD.ext E257
          replace Z0 := Nat.le_trans Z0 E257.1
          have E_b257 := A257
          have F_b257_next : Fld Z h257 b257 "com/example/otayori/otayori/codec/PacketIds" "next" "I" (.int (0 : Int32)) := D257 (Or.inl (w_16 hw)) (ty := .int) (by decide)
          have F_b257_held : Fld Z h257 b257 "com/example/otayori/otayori/codec/PacketIds" "held" "Ljava/util/BitSet;" .null := D257 (Or.inl (w_23 hw)) (ty := (.object "java/util/BitSet")) (by decide)
          have F_b257_count : Fld Z h257 b257 "com/example/otayori/otayori/codec/PacketIds" "count" "I" (.int (0 : Int32)) := D257 (Or.inl (w_78 hw)) (ty := .int) (by decide)
          clear D257 A257
          show WP p.tables e below _ T257 (mkF m 118 #[.val (.int p1), .val (.int p2), .val (.int p3), .val (.int p4), .val (.int (Int32.ofNat ia)), .val (.int (Int32.ofNat ib)), .val (.int (((p4.toUInt32 >>> ((3 : Int32) &&& 31).toUInt32).toInt32) &&& (3 : Int32))), .val (.int (Int32.ofNat iq)), .val (.int (1 : Int32)), .val (.int (1 : Int32)), .val (.int (0 : Int32)), .unset, .unset] [(.ref b257)])
          refine WP.st (T' := T257) (f' := (mkF m 119 #[.val (.int p1), .val (.int p2), .val (.int p3), .val (.int p4), .val (.int (Int32.ofNat ia)), .val (.int (Int32.ofNat ib)), .val (.int (((p4.toUInt32 >>> ((3 : Int32) &&& 31).toUInt32).toInt32) &&& (3 : Int32))), .val (.int (Int32.ofNat iq)), .val (.int (1 : Int32)), .val (.int (1 : Int32)), .val (.int (0 : Int32)), .unset, .unset] [(.ref b257), (.ref b257)])) (fun t k => ?_) ?_
          · refine XS.dup X257.here hx rfl (hb hby at_118) rfl rfl ?_
            exact k
          obtain ⟨_, _, ⟨T258, L258, k258, n258⟩, -, X258, ⟨Lc258, hQ258, l258, y258, z258⟩, st258⟩ := X257.specialBack hx (y := (⟨"com/example/otayori/otayori/codec/PacketIds", "<init>", "()V"⟩ : MethodName)) rfl hown (mvT hZ (w_9 hw)) (mvT hZ (w_10 hw)) (mvT hZ (w_11 hw)) (by decide) (backOf (W := 1) (rm2 l Z a0 hw [] b257 (0 : Int32) (0 : Int32) h257 n0 Z0 E_b257 g_b257 F_b257_held F_b257_count F_b257_next) hZ (w_11 hw) (w_8 hw) (by decide) (by decide)) (g := (mkF m 119 #[.val (.int p1), .val (.int p2), .val (.int p3), .val (.int p4), .val (.int (Int32.ofNat ia)), .val (.int (Int32.ofNat ib)), .val (.int (((p4.toUInt32 >>> ((3 : Int32) &&& 31).toUInt32).toInt32) &&& (3 : Int32))), .val (.int (Int32.ofNat iq)), .val (.int (1 : Int32)), .val (.int (1 : Int32)), .val (.int (0 : Int32)), .unset, .unset] [(.ref b257), (.ref b257)])) rfl (by rw [hml]; rfl) (Steps.refl _) (a := b257) (argsL := []) (rest := [(.ref b257)]) (lenOf pd_4 rfl) rfl (by show 2 * 0 + _ ≤ _; exact Nat.le_of_eq rfl) (hb hby at_119) (fun _ _ => ⟨rfl, e257, (by decide : 1 + 0 ≤ _), (by decide : 3 + 0 ≤ _)⟩)
          dsimp only [Pt.U, Pt.locs, Pt.cells, Pt.slots] at X258 l258 y258 z258 st258 hQ258
          subst l258 y258 z258
          obtain ⟨rfl, Nq258, Kq258, nF258_b257_held, nF258_b257_count, nF258_b257_next⟩ := hQ258
          replace NF := Fr.app NF Nq258
          clear Nq258
          refine WP.tr st258 ?_
          clear st258
          obtain ⟨h258, e258⟩ : ∃ h, T258.heap = h := ⟨_, rfl⟩
          rw [e258] at Kq258 nF258_b257_held nF258_b257_count nF258_b257_next
          replace OLD := OLD.keep Kq258 (allS g_b257 all0)
          replace E_b257 := E_b257.keep Kq258
          clear F_b257_next
          clear F_b257_held
          clear F_b257_count
          replace Z0 := Nat.le_trans Z0 Kq258.1
          clear Kq258
          have F_b257_held := nF258_b257_held
          clear nF258_b257_held
          have F_b257_count := nF258_b257_count
          clear nF258_b257_count
          have F_b257_next := nF258_b257_next
          clear nF258_b257_next
          have hXN : ∃ LL, Stand p l e room_1 s m #[(.int p1), (.int p2), (.int p3), (.int p4)] below meth c T258 LL 1 3 ∧ Fr n0 LL := ⟨_, X258, NF⟩
          clear X258 NF
          obtain ⟨LL259, X258, NF⟩ := hXN
          show WP p.tables e below _ T258 (mkF m 122 #[.val (.int p1), .val (.int p2), .val (.int p3), .val (.int p4), .val (.int (Int32.ofNat ia)), .val (.int (Int32.ofNat ib)), .val (.int (((p4.toUInt32 >>> ((3 : Int32) &&& 31).toUInt32).toInt32) &&& (3 : Int32))), .val (.int (Int32.ofNat iq)), .val (.int (1 : Int32)), .val (.int (1 : Int32)), .val (.int (0 : Int32)), .unset, .unset] [(.ref b257)])
          refine WP.st (T' := T258) (f' := (mkF m 128 #[.val (.int p1), .val (.int p2), .val (.int p3), .val (.int p4), .val (.int (Int32.ofNat ia)), .val (.int (Int32.ofNat ib)), .val (.int (((p4.toUInt32 >>> ((3 : Int32) &&& 31).toUInt32).toInt32) &&& (3 : Int32))), .val (.int (Int32.ofNat iq)), .val (.int (1 : Int32)), .val (.int (1 : Int32)), .val (.int (0 : Int32)), .val (.ref b257), .unset] [(.int (Int32.ofNat iq)), (.ref b257)])) (fun t k => ?_) ?_
          · refine XS.astore X258.here hx rfl (hb hby at_122) rfl rfl (l' := #[.val (.int p1), .val (.int p2), .val (.int p3), .val (.int p4), .val (.int (Int32.ofNat ia)), .val (.int (Int32.ofNat ib)), .val (.int (((p4.toUInt32 >>> ((3 : Int32) &&& 31).toUInt32).toInt32) &&& (3 : Int32))), .val (.int (Int32.ofNat iq)), .val (.int (1 : Int32)), .val (.int (1 : Int32)), .val (.int (0 : Int32)), .val (.ref b257), .unset]) rfl ?_
            refine XS.aload X258.here hx rfl (hb hby at_124) rfl rfl ?_
            refine XS.iload X258.here hx rfl (hb hby at_126) rfl ?_
            exact k
          obtain ⟨cq260, kq260, q260a, q260b, q260c⟩ := isOf hZ e258 E_b257
          obtain ⟨_, _, ⟨T260, L260, k260, n260⟩, -, X260, ⟨Lc260, hQ260, l260, y260, z260⟩, st260⟩ := X258.virtualBack hx (y := (⟨"com/example/otayori/otayori/codec/PacketIds", "isHeld", "(I)Z"⟩ : MethodName)) (z := (⟨"com/example/otayori/otayori/codec/PacketIds", "isHeld", "(I)Z"⟩ : MethodName)) hown (mvT hZ (w_17 hw)) (mvT hZ (w_18 hw)) (notFace_of_selects (args := #[]) (mvT hZ (w_20 hw))) (mvT hZ (w_20 hw)) (mvT hZ (w_19 hw)) (by decide) (backOf (W := 0) (rm4n l Z a0 hw [] b257 iq h258 n0 Z0 F_b257_held) hZ (w_21 hw) (w_8 hw) (by decide) (by decide)) q260a q260c (g := (mkF m 128 #[.val (.int p1), .val (.int p2), .val (.int p3), .val (.int p4), .val (.int (Int32.ofNat ia)), .val (.int (Int32.ofNat ib)), .val (.int (((p4.toUInt32 >>> ((3 : Int32) &&& 31).toUInt32).toInt32) &&& (3 : Int32))), .val (.int (Int32.ofNat iq)), .val (.int (1 : Int32)), .val (.int (1 : Int32)), .val (.int (0 : Int32)), .val (.ref b257), .unset] [(.int (Int32.ofNat iq)), (.ref b257)])) rfl (by rw [hml]; rfl) (Steps.refl _) (argsL := [(.int (Int32.ofNat iq))]) (rest := []) (lenOf pd_5 rfl) rfl (by show 2 * 0 + _ ≤ _; exact Nat.le_of_eq rfl) (hb hby at_128) (fun _ _ => ⟨rfl, e258, (by decide : 1 + 0 ≤ _), (by decide : 3 + 0 ≤ _)⟩)
          dsimp only [Pt.U, Pt.locs, Pt.cells, Pt.slots] at X260 l260 y260 z260 st260 hQ260
          subst l260 y260 z260
          obtain ⟨rfl, Nq260, Kq260⟩ := hQ260
          replace NF := Fr.app NF Nq260
          clear Nq260
          refine WP.tr st260 ?_
          clear st260
          replace Kq260 := Kq260.trans (rfl : h258 = h258)
          have hXN : ∃ LL, Stand p l e room_1 s m #[(.int p1), (.int p2), (.int p3), (.int p4)] below meth c T260 LL 1 3 ∧ Fr n0 LL := ⟨_, X260, NF⟩
          clear X260 NF
          obtain ⟨LL261, X260, NF⟩ := hXN
          show WP p.tables e below _ T260 (mkF m 131 #[.val (.int p1), .val (.int p2), .val (.int p3), .val (.int p4), .val (.int (Int32.ofNat ia)), .val (.int (Int32.ofNat ib)), .val (.int (((p4.toUInt32 >>> ((3 : Int32) &&& 31).toUInt32).toInt32) &&& (3 : Int32))), .val (.int (Int32.ofNat iq)), .val (.int (1 : Int32)), .val (.int (1 : Int32)), .val (.int (0 : Int32)), .val (.ref b257), .unset] [(.int (0 : Int32))])
          refine WP.st (T' := T260) (f' := (mkF m 145 #[.val (.int p1), .val (.int p2), .val (.int p3), .val (.int p4), .val (.int (Int32.ofNat ia)), .val (.int (Int32.ofNat ib)), .val (.int (((p4.toUInt32 >>> ((3 : Int32) &&& 31).toUInt32).toInt32) &&& (3 : Int32))), .val (.int (Int32.ofNat iq)), .val (.int (1 : Int32)), .val (.int (1 : Int32)), .val (.int (0 : Int32)), .val (.ref b257), .unset] [(.int (Int32.ofNat ia)), (.ref b257)])) (fun t k => ?_) ?_
          · refine XS.ifYes X260.here hx rfl (pc0 := 131) (pc' := 136) rfl (hb hby at_131) rfl ((if0 _ _).trans (teq (by decide : (0 : Int32) = (0 : Int32))).1) (by decide) (by decide) ?_
            refine XS.iload X260.here hx rfl (hb hby at_136) rfl ?_
            refine XS.ifNo X260.here hx rfl (hb hby at_138) rfl ((if0 _ _).trans (feq (by decide : ¬ ((1 : Int32) = (0 : Int32)))).1) ?_
            refine XS.aload X260.here hx rfl (hb hby at_141) rfl rfl ?_
            show Steps p.tables e below (T260.setTop (mkF m 143 #[.val (.int p1), .val (.int p2), .val (.int p3), .val (.int p4), .val (.int (Int32.ofNat ia)), .val (.int (Int32.ofNat ib)), .val (.int (((p4.toUInt32 >>> ((3 : Int32) &&& 31).toUInt32).toInt32) &&& (3 : Int32))), .val (.int (Int32.ofNat iq)), .val (.int (1 : Int32)), .val (.int (1 : Int32)), .val (.int (0 : Int32)), .val (.ref b257), .unset] [(.ref b257)])) t
            refine XS.iload X260.here hx rfl (hb hby at_143) rfl ?_
            exact k
          obtain ⟨cq262, kq262, q262a, q262b, q262c⟩ := isOf hZ Kq260 E_b257
          obtain ⟨_, _, ⟨T262, L262, k262, n262⟩, -, X262, ⟨Lc262, hQ262, l262, y262, z262⟩, st262⟩ := X260.virtualBack hx (y := (⟨"com/example/otayori/otayori/codec/PacketIds", "hold", "(I)Z"⟩ : MethodName)) (z := (⟨"com/example/otayori/otayori/codec/PacketIds", "hold", "(I)Z"⟩ : MethodName)) hown (mvT hZ (w_24 hw)) (mvT hZ (w_25 hw)) (notFace_of_selects (args := #[]) (mvT hZ (w_27 hw))) (mvT hZ (w_27 hw)) (mvT hZ (w_26 hw)) (by decide) (backOf (W := 0) (rm5n l Z a0 hw [] b257 (0 : Int32) (1 : Int32) ia h258 n0 Z0 E_b257 g_b257 F_b257_held F_b257_count F_b257_next (h_ia : ia ≤ 65535) OLD (O5 : Sta Z Z.heap "java/util/BitSet" "$assertionsDisabled" "Z" (.int (1 : Int32)))) hZ (w_28 hw) (w_8 hw) (by decide) (by decide)) q262a q262c (g := (mkF m 145 #[.val (.int p1), .val (.int p2), .val (.int p3), .val (.int p4), .val (.int (Int32.ofNat ia)), .val (.int (Int32.ofNat ib)), .val (.int (((p4.toUInt32 >>> ((3 : Int32) &&& 31).toUInt32).toInt32) &&& (3 : Int32))), .val (.int (Int32.ofNat iq)), .val (.int (1 : Int32)), .val (.int (1 : Int32)), .val (.int (0 : Int32)), .val (.ref b257), .unset] [(.int (Int32.ofNat ia)), (.ref b257)])) rfl (by rw [hml]; rfl) (Steps.refl _) (argsL := [(.int (Int32.ofNat ia))]) (rest := []) (lenOf pd_5 rfl) rfl (by show 2 * 0 + _ ≤ _; exact Nat.le_of_eq rfl) (hb hby at_145) (fun _ _ => ⟨rfl, Kq260, (by decide : 1 + 3 ≤ _), (by decide : 3 + 2052 ≤ _)⟩)
          dsimp only [Pt.U, Pt.locs, Pt.cells, Pt.slots] at X262 l262 y262 z262 st262 hQ262
          subst l262 y262 z262
          obtain ⟨bs_262, tw2_262, kw2_262, ws3_262, st2_262, u2_262, c2_262, rfl, Nq262, Kq262, nF262_b257_held, nF262_b257_count, nF262_b257_next, nE262_bs_262, nF262_bs_262_words, nF262_bs_262_wordsInUse, nF262_bs_262_sizeIsSticky, nA262_tw2_262, szq_bs_262, g_bs_262, szq_tw2_262, g_tw2_262, ne_bs_262_tw2_262, hinv3_262, hget3_262, hb3_262⟩ := hQ262
          replace NF := Fr.app NF Nq262
          clear Nq262
          refine WP.tr st262 ?_
          clear st262
          obtain ⟨h262, e262⟩ : ∃ h, T262.heap = h := ⟨_, rfl⟩
          rw [e262] at Kq262 nF262_b257_held nF262_b257_count nF262_b257_next nE262_bs_262 nF262_bs_262_words nF262_bs_262_wordsInUse nF262_bs_262_sizeIsSticky nA262_tw2_262
          have ne_b257_bs_262 : b257 ≠ bs_262 := Nat.ne_of_lt (Nat.lt_of_lt_of_le E_b257.lt szq_bs_262)
          have ne_b257_tw2_262 : b257 ≠ tw2_262 := Nat.ne_of_lt (Nat.lt_of_lt_of_le E_b257.lt szq_tw2_262)
          replace OLD := OLD.keep Kq262 (allS g_b257 all0)
          replace E_b257 := E_b257.keep Kq262
          clear F_b257_held
          clear F_b257_count
          clear F_b257_next
          replace Z0 := Nat.le_trans Z0 Kq262.1
          clear Kq262
          have F_b257_held := nF262_b257_held
          clear nF262_b257_held
          have F_b257_count := nF262_b257_count
          clear nF262_b257_count
          have F_b257_next := nF262_b257_next
          clear nF262_b257_next
          have E_bs_262 := nE262_bs_262
          clear nE262_bs_262
          have F_bs_262_words := nF262_bs_262_words
          clear nF262_bs_262_words
          have F_bs_262_wordsInUse := nF262_bs_262_wordsInUse
          clear nF262_bs_262_wordsInUse
          have F_bs_262_sizeIsSticky := nF262_bs_262_sizeIsSticky
          clear nF262_bs_262_sizeIsSticky
          have V_tw2_262 := nA262_tw2_262
          clear nA262_tw2_262
          have hXN : ∃ LL, Stand p l e room_1 s m #[(.int p1), (.int p2), (.int p3), (.int p4)] below meth c T262 LL 4 2055 ∧ Fr n0 LL := ⟨_, X262, NF⟩
          clear X262 NF
          obtain ⟨LL263, X262, NF⟩ := hXN
          show WP p.tables e below _ T262 (mkF m 148 #[.val (.int p1), .val (.int p2), .val (.int p3), .val (.int p4), .val (.int (Int32.ofNat ia)), .val (.int (Int32.ofNat ib)), .val (.int (((p4.toUInt32 >>> ((3 : Int32) &&& 31).toUInt32).toInt32) &&& (3 : Int32))), .val (.int (Int32.ofNat iq)), .val (.int (1 : Int32)), .val (.int (1 : Int32)), .val (.int (0 : Int32)), .val (.ref b257), .unset] [(.int (1 : Int32))])
          refine WP.st (T' := T262) (f' := (mkF m 158 #[.val (.int p1), .val (.int p2), .val (.int p3), .val (.int p4), .val (.int (Int32.ofNat ia)), .val (.int (Int32.ofNat ib)), .val (.int (((p4.toUInt32 >>> ((3 : Int32) &&& 31).toUInt32).toInt32) &&& (3 : Int32))), .val (.int (Int32.ofNat iq)), .val (.int (1 : Int32)), .val (.int (1 : Int32)), .val (.int (0 : Int32)), .val (.ref b257), .unset] [(.int (Int32.ofNat ib)), (.ref b257)])) (fun t k => ?_) ?_
          · refine XS.pop X262.here hx rfl (hb hby at_148) rfl rfl ?_
            refine XS.iload X262.here hx rfl (hb hby at_149) rfl ?_
            refine XS.ifNo X262.here hx rfl (hb hby at_151) rfl ((if0 _ _).trans (feq (by decide : ¬ ((1 : Int32) = (0 : Int32)))).1) ?_
            refine XS.aload X262.here hx rfl (hb hby at_154) rfl rfl ?_
            show Steps p.tables e below (T262.setTop (mkF m 156 #[.val (.int p1), .val (.int p2), .val (.int p3), .val (.int p4), .val (.int (Int32.ofNat ia)), .val (.int (Int32.ofNat ib)), .val (.int (((p4.toUInt32 >>> ((3 : Int32) &&& 31).toUInt32).toInt32) &&& (3 : Int32))), .val (.int (Int32.ofNat iq)), .val (.int (1 : Int32)), .val (.int (1 : Int32)), .val (.int (0 : Int32)), .val (.ref b257), .unset] [(.ref b257)])) t
            refine XS.iload X262.here hx rfl (hb hby at_156) rfl ?_
            exact k
          obtain ⟨cq264, kq264, q264a, q264b, q264c⟩ := isOf hZ e262 E_b257
          obtain ⟨_, _, ⟨T264, L264, k264, n264⟩, -, X264, ⟨Lc264, hQ264, l264, y264, z264⟩, st264⟩ := X262.virtualBack hx (y := (⟨"com/example/otayori/otayori/codec/PacketIds", "hold", "(I)Z"⟩ : MethodName)) (z := (⟨"com/example/otayori/otayori/codec/PacketIds", "hold", "(I)Z"⟩ : MethodName)) hown (mvT hZ (w_24 hw)) (mvT hZ (w_25 hw)) (notFace_of_selects (args := #[]) (mvT hZ (w_27 hw))) (mvT hZ (w_27 hw)) (mvT hZ (w_26 hw)) (by decide) (backOf (W := 0) (rm5y l Z a0 hw [] b257 c2_262 (1 : Int32) bs_262 tw2_262 kw2_262 ws3_262 u2_262 st2_262 ib h262 n0 Z0 E_b257 g_b257 F_b257_held F_b257_count F_b257_next E_bs_262 g_bs_262 F_bs_262_words F_bs_262_wordsInUse F_bs_262_sizeIsSticky V_tw2_262 g_tw2_262 ne_bs_262_tw2_262 (hinv3_262 : own_inv ws3_262 u2_262) (hb3_262 : ws3_262.length ≤ 1024) OLD (O5 : Sta Z Z.heap "java/util/BitSet" "$assertionsDisabled" "Z" (.int (1 : Int32))) (h_ib : ib ≤ 65535) ne_b257_bs_262 ne_b257_tw2_262) hZ (w_28 hw) (w_8 hw) (by decide) (by decide)) q264a q264c (g := (mkF m 158 #[.val (.int p1), .val (.int p2), .val (.int p3), .val (.int p4), .val (.int (Int32.ofNat ia)), .val (.int (Int32.ofNat ib)), .val (.int (((p4.toUInt32 >>> ((3 : Int32) &&& 31).toUInt32).toInt32) &&& (3 : Int32))), .val (.int (Int32.ofNat iq)), .val (.int (1 : Int32)), .val (.int (1 : Int32)), .val (.int (0 : Int32)), .val (.ref b257), .unset] [(.int (Int32.ofNat ib)), (.ref b257)])) rfl (by rw [hml]; rfl) (Steps.refl _) (argsL := [(.int (Int32.ofNat ib))]) (rest := []) (lenOf pd_5 rfl) rfl (by show 2 * 0 + _ ≤ _; exact Nat.le_of_eq rfl) (hb hby at_158) (fun _ _ => ⟨rfl, e262, (by decide : 4 + 1 ≤ _), (by decide : 2055 + 2048 ≤ _)⟩)
          dsimp only [Pt.U, Pt.locs, Pt.cells, Pt.slots] at X264 l264 y264 z264 st264 hQ264
          subst l264 y264 z264
          obtain ⟨r_264, tw2_264, kw2_264, ws3_264, st2_264, u2_264, c2_264, rfl, Nq264, Kq264, nF264_b257_held, nF264_b257_count, nF264_b257_next, nE264_bs_262, nF264_bs_262_words, nF264_bs_262_wordsInUse, nF264_bs_262_sizeIsSticky, nA264_tw2_264, g_tw2_264, ne_bs_262_tw2_264, or_tw2_264, hinv3_264, hget3_264, hb3_264⟩ := hQ264
          replace NF := Fr.app NF Nq264
          clear Nq264
          refine WP.tr st264 ?_
          clear st264
          obtain ⟨h264, e264⟩ : ∃ h, T264.heap = h := ⟨_, rfl⟩
          rw [e264] at Kq264 nF264_b257_held nF264_b257_count nF264_b257_next nE264_bs_262 nF264_bs_262_words nF264_bs_262_wordsInUse nF264_bs_262_sizeIsSticky nA264_tw2_264
          have ne_b257_tw2_264 : b257 ≠ tw2_264 := ownNeOr ne_b257_tw2_262 E_b257.lt or_tw2_264
          replace OLD := OLD.keep Kq264 (allS g_b257 (allS g_bs_262 (allS g_tw2_262 all0)))
          replace E_b257 := E_b257.keep Kq264
          clear F_b257_held
          clear F_b257_count
          clear F_b257_next
          replace E_bs_262 := E_bs_262.keep Kq264
          clear F_bs_262_words
          clear F_bs_262_wordsInUse
          clear F_bs_262_sizeIsSticky
          clear V_tw2_262
          replace Z0 := Nat.le_trans Z0 Kq264.1
          clear Kq264
          have F_b257_held := nF264_b257_held
          clear nF264_b257_held
          have F_b257_count := nF264_b257_count
          clear nF264_b257_count
          have F_b257_next := nF264_b257_next
          clear nF264_b257_next
          clear E_bs_262
          have E_bs_262 := nE264_bs_262
          clear nE264_bs_262
          have F_bs_262_words := nF264_bs_262_words
          clear nF264_bs_262_words
          have F_bs_262_wordsInUse := nF264_bs_262_wordsInUse
          clear nF264_bs_262_wordsInUse
          have F_bs_262_sizeIsSticky := nF264_bs_262_sizeIsSticky
          clear nF264_bs_262_sizeIsSticky
          have V_tw2_264 := nA264_tw2_264
          clear nA264_tw2_264
          have hXN : ∃ LL, Stand p l e room_1 s m #[(.int p1), (.int p2), (.int p3), (.int p4)] below meth c T264 LL 5 4103 ∧ Fr n0 LL := ⟨_, X264, NF⟩
          clear X264 NF
          obtain ⟨LL265, X264, NF⟩ := hXN
          show WP p.tables e below _ T264 (mkF m 161 #[.val (.int p1), .val (.int p2), .val (.int p3), .val (.int p4), .val (.int (Int32.ofNat ia)), .val (.int (Int32.ofNat ib)), .val (.int (((p4.toUInt32 >>> ((3 : Int32) &&& 31).toUInt32).toInt32) &&& (3 : Int32))), .val (.int (Int32.ofNat iq)), .val (.int (1 : Int32)), .val (.int (1 : Int32)), .val (.int (0 : Int32)), .val (.ref b257), .unset] [(.int r_264)])
          refine WP.st (T' := T264) (f' := (mkF m 175 #[.val (.int p1), .val (.int p2), .val (.int p3), .val (.int p4), .val (.int (Int32.ofNat ia)), .val (.int (Int32.ofNat ib)), .val (.int (((p4.toUInt32 >>> ((3 : Int32) &&& 31).toUInt32).toInt32) &&& (3 : Int32))), .val (.int (Int32.ofNat iq)), .val (.int (1 : Int32)), .val (.int (1 : Int32)), .val (.int (0 : Int32)), .val (.ref b257), .unset] [])) (fun t k => ?_) ?_
          · refine XS.pop X264.here hx rfl (hb hby at_161) rfl rfl ?_
            refine XS.iload X264.here hx rfl (hb hby at_162) rfl ?_
            refine XS.ifYes X264.here hx rfl (pc0 := 164) (pc' := 175) rfl (hb hby at_164) rfl ((if0 _ _).trans (teq (by decide : (0 : Int32) = (0 : Int32))).1) (by decide) (by decide) ?_
            exact k
          by_cases hc266 : (Int32.ofNat iq) = (Int32.ofNat ia)
          · skip
            by_cases hc267 : (Int32.ofNat iq) = (Int32.ofNat ib)
            · skip
              have n_ia : iq = ia := (own_eq (Nat.lt_of_le_of_lt h_iq (by decide)) (Nat.lt_of_le_of_lt h_ia (by decide))).1 hc266
              have n_ib : iq = ib := (own_eq (Nat.lt_of_le_of_lt h_iq (by decide)) (Nat.lt_of_le_of_lt h_ib (by decide))).1 hc267
              refine WP.st (T' := T264) (f' := (mkF m 222 #[.val (.int p1), .val (.int p2), .val (.int p3), .val (.int p4), .val (.int (Int32.ofNat ia)), .val (.int (Int32.ofNat ib)), .val (.int (((p4.toUInt32 >>> ((3 : Int32) &&& 31).toUInt32).toInt32) &&& (3 : Int32))), .val (.int (Int32.ofNat iq)), .val (.int (1 : Int32)), .val (.int (1 : Int32)), .val (.int (0 : Int32)), .val (.ref b257), .val (.int (1 : Int32))] [(.int (Int32.ofNat iq)), (.ref b257)])) (fun t k => ?_) ?_
              · refine XS.iload X264.here hx rfl (hb hby at_175) rfl ?_
                refine XS.ifNo X264.here hx rfl (hb hby at_177) rfl ((if0 _ _).trans (feq (by decide : ¬ ((1 : Int32) = (0 : Int32)))).1) ?_
                refine XS.iload X264.here hx rfl (hb hby at_180) rfl ?_
                refine XS.iload X264.here hx rfl (hb hby at_182) rfl ?_
                show Steps p.tables e below (T264.setTop (mkF m 184 #[.val (.int p1), .val (.int p2), .val (.int p3), .val (.int p4), .val (.int (Int32.ofNat ia)), .val (.int (Int32.ofNat ib)), .val (.int (((p4.toUInt32 >>> ((3 : Int32) &&& 31).toUInt32).toInt32) &&& (3 : Int32))), .val (.int (Int32.ofNat iq)), .val (.int (1 : Int32)), .val (.int (1 : Int32)), .val (.int (0 : Int32)), .val (.ref b257), .unset] [(.int (Int32.ofNat ia)), (.int (Int32.ofNat iq))])) t
                refine XS.icmpYes X264.here hx rfl (pc0 := 184) (pc' := 199) rfl (hb hby at_184) rfl (teq hc266).1 (by decide) (by decide) ?_
                refine XS.iload X264.here hx rfl (hb hby at_199) rfl ?_
                refine XS.ifYes X264.here hx rfl (pc0 := 201) (pc' := 211) rfl (hb hby at_201) rfl ((if0 _ _).trans (teq (by decide : (0 : Int32) = (0 : Int32))).1) (by decide) (by decide) ?_
                refine XS.iconst X264.here hx rfl (hb hby at_211) ?_
                show Steps p.tables e below (T264.setTop (mkF m 212 #[.val (.int p1), .val (.int p2), .val (.int p3), .val (.int p4), .val (.int (Int32.ofNat ia)), .val (.int (Int32.ofNat ib)), .val (.int (((p4.toUInt32 >>> ((3 : Int32) &&& 31).toUInt32).toInt32) &&& (3 : Int32))), .val (.int (Int32.ofNat iq)), .val (.int (1 : Int32)), .val (.int (1 : Int32)), .val (.int (0 : Int32)), .val (.ref b257), .unset] [(.int (1 : Int32))])) t
                refine XS.goto X264.here hx rfl (pc0 := 212) (pc' := 216) rfl (hb hby at_212) (by decide) (by decide) ?_
                refine XS.istore X264.here hx rfl (hb hby at_216) rfl (l' := #[.val (.int p1), .val (.int p2), .val (.int p3), .val (.int p4), .val (.int (Int32.ofNat ia)), .val (.int (Int32.ofNat ib)), .val (.int (((p4.toUInt32 >>> ((3 : Int32) &&& 31).toUInt32).toInt32) &&& (3 : Int32))), .val (.int (Int32.ofNat iq)), .val (.int (1 : Int32)), .val (.int (1 : Int32)), .val (.int (0 : Int32)), .val (.ref b257), .val (.int (1 : Int32))]) rfl ?_
                refine XS.aload X264.here hx rfl (hb hby at_218) rfl rfl ?_
                refine XS.iload X264.here hx rfl (hb hby at_220) rfl ?_
                exact k
              obtain ⟨cq268, kq268, q268a, q268b, q268c⟩ := isOf hZ e264 E_b257
              obtain ⟨_, _, ⟨T268, L268, k268, n268⟩, -, X268, ⟨Lc268, hQ268, l268, y268, z268⟩, st268⟩ := X264.virtualBack hx (y := (⟨"com/example/otayori/otayori/codec/PacketIds", "isHeld", "(I)Z"⟩ : MethodName)) (z := (⟨"com/example/otayori/otayori/codec/PacketIds", "isHeld", "(I)Z"⟩ : MethodName)) hown (mvT hZ (w_17 hw)) (mvT hZ (w_18 hw)) (notFace_of_selects (args := #[]) (mvT hZ (w_20 hw))) (mvT hZ (w_20 hw)) (mvT hZ (w_19 hw)) (by decide) (backOf (W := 0) (rm4y l Z a0 hw [] b257 bs_262 tw2_264 kw2_264 ws3_264 u2_264 st2_264 iq h264 n0 Z0 F_b257_held E_bs_262 g_bs_262 F_bs_262_words F_bs_262_wordsInUse F_bs_262_sizeIsSticky V_tw2_264 g_tw2_264 ne_bs_262_tw2_264 (hinv3_264 : own_inv ws3_264 u2_264) (hb3_264 : ws3_264.length ≤ 2048) OLD (O5 : Sta Z Z.heap "java/util/BitSet" "$assertionsDisabled" "Z" (.int (1 : Int32))) (h_iq : iq ≤ 65535)) hZ (w_21 hw) (w_8 hw) (by decide) (by decide)) q268a q268c (g := (mkF m 222 #[.val (.int p1), .val (.int p2), .val (.int p3), .val (.int p4), .val (.int (Int32.ofNat ia)), .val (.int (Int32.ofNat ib)), .val (.int (((p4.toUInt32 >>> ((3 : Int32) &&& 31).toUInt32).toInt32) &&& (3 : Int32))), .val (.int (Int32.ofNat iq)), .val (.int (1 : Int32)), .val (.int (1 : Int32)), .val (.int (0 : Int32)), .val (.ref b257), .val (.int (1 : Int32))] [(.int (Int32.ofNat iq)), (.ref b257)])) rfl (by rw [hml]; rfl) (Steps.refl _) (argsL := [(.int (Int32.ofNat iq))]) (rest := []) (lenOf pd_5 rfl) rfl (by show 2 * 0 + _ ≤ _; exact Nat.le_of_eq rfl) (hb hby at_222) (fun _ _ => ⟨rfl, e264, (by decide : 5 + 0 ≤ _), (by decide : 4103 + 0 ≤ _)⟩)
              dsimp only [Pt.U, Pt.locs, Pt.cells, Pt.slots] at X268 l268 y268 z268 st268 hQ268
              subst l268 y268 z268
              obtain ⟨rfl, Nq268, Kq268⟩ := hQ268
              replace NF := Fr.app NF Nq268
              clear Nq268
              refine WP.tr st268 ?_
              clear st268
              replace Kq268 := Kq268.trans (rfl : h264 = h264)
              have hXN : ∃ LL, Stand p l e room_1 s m #[(.int p1), (.int p2), (.int p3), (.int p4)] below meth c T268 LL 5 4103 ∧ Fr n0 LL := ⟨_, X268, NF⟩
              clear X268 NF
              obtain ⟨LL269, X268, NF⟩ := hXN
              show WP p.tables e below _ T268 (mkF m 225 #[.val (.int p1), .val (.int p2), .val (.int p3), .val (.int p4), .val (.int (Int32.ofNat ia)), .val (.int (Int32.ofNat ib)), .val (.int (((p4.toUInt32 >>> ((3 : Int32) &&& 31).toUInt32).toInt32) &&& (3 : Int32))), .val (.int (Int32.ofNat iq)), .val (.int (1 : Int32)), .val (.int (1 : Int32)), .val (.int (0 : Int32)), .val (.ref b257), .val (.int (1 : Int32))] [(.int (own_get ws3_264 iq))])
              rw [show (own_get ws3_264 iq) = (1 : Int32) from by rw [hget3_264 iq h_iq, hget3_262 iq h_iq]; (repeat' split) <;> first | rfl | (exfalso; omega)]
              show WP p.tables e below _ T268 (mkF m 225 #[.val (.int p1), .val (.int p2), .val (.int p3), .val (.int p4), .val (.int (Int32.ofNat ia)), .val (.int (Int32.ofNat ib)), .val (.int (((p4.toUInt32 >>> ((3 : Int32) &&& 31).toUInt32).toInt32) &&& (3 : Int32))), .val (.int (Int32.ofNat iq)), .val (.int (1 : Int32)), .val (.int (1 : Int32)), .val (.int (0 : Int32)), .val (.ref b257), .val (.int (1 : Int32))] [(.int (1 : Int32))])
              refine WP.st (T' := T268) (f' := (mkF m 235 #[.val (.int p1), .val (.int p2), .val (.int p3), .val (.int p4), .val (.int (Int32.ofNat ia)), .val (.int (Int32.ofNat ib)), .val (.int (((p4.toUInt32 >>> ((3 : Int32) &&& 31).toUInt32).toInt32) &&& (3 : Int32))), .val (.int (Int32.ofNat iq)), .val (.int (1 : Int32)), .val (.int (1 : Int32)), .val (.int (0 : Int32)), .val (.ref b257), .val (.int (1 : Int32))] [(.int (1 : Int32))])) (fun t k => ?_) ?_
              · refine XS.iload X268.here hx rfl (hb hby at_225) rfl ?_
                refine XS.icmpNo X268.here hx rfl (hb hby at_227) rfl (teq (by decide : (1 : Int32) = (1 : Int32))).2 ?_
                refine XS.iconst X268.here hx rfl (hb hby at_230) ?_
                refine XS.goto X268.here hx rfl (pc0 := 231) (pc' := 235) rfl (hb hby at_231) (by decide) (by decide) ?_
                exact k
              subst hG
              obtain ⟨fs, hr, hrun, hended, hW, hsame⟩ := X268.leave (v := some (.int (1 : Int32))) (fun h => by rw [Bd.returns] at h; cases h)
              refine WP.fin ⟨_, _, ?_, hrun, hended, _, _, rfl, ?_, ⟨_, rfl⟩, hW, hsame.mono (by decide) (by decide)⟩
              · exact retN X268 hx (t := .boolean) Bd.returns (by simp) (hb hby at_235) hr
              · show Q0 Z p1 p2 p3 p4 h0 n0 _ T268.heap _
                rw [Kq268]
                exact ⟨rfl, NF⟩
            · skip
              have n_ia : iq = ia := (own_eq (Nat.lt_of_le_of_lt h_iq (by decide)) (Nat.lt_of_le_of_lt h_ia (by decide))).1 hc266
              have n_ib : ¬ iq = ib := fun q => hc267 (congrArg Int32.ofNat q)
              refine WP.st (T' := T264) (f' := (mkF m 222 #[.val (.int p1), .val (.int p2), .val (.int p3), .val (.int p4), .val (.int (Int32.ofNat ia)), .val (.int (Int32.ofNat ib)), .val (.int (((p4.toUInt32 >>> ((3 : Int32) &&& 31).toUInt32).toInt32) &&& (3 : Int32))), .val (.int (Int32.ofNat iq)), .val (.int (1 : Int32)), .val (.int (1 : Int32)), .val (.int (0 : Int32)), .val (.ref b257), .val (.int (1 : Int32))] [(.int (Int32.ofNat iq)), (.ref b257)])) (fun t k => ?_) ?_
              · refine XS.iload X264.here hx rfl (hb hby at_175) rfl ?_
                refine XS.ifNo X264.here hx rfl (hb hby at_177) rfl ((if0 _ _).trans (feq (by decide : ¬ ((1 : Int32) = (0 : Int32)))).1) ?_
                refine XS.iload X264.here hx rfl (hb hby at_180) rfl ?_
                refine XS.iload X264.here hx rfl (hb hby at_182) rfl ?_
                show Steps p.tables e below (T264.setTop (mkF m 184 #[.val (.int p1), .val (.int p2), .val (.int p3), .val (.int p4), .val (.int (Int32.ofNat ia)), .val (.int (Int32.ofNat ib)), .val (.int (((p4.toUInt32 >>> ((3 : Int32) &&& 31).toUInt32).toInt32) &&& (3 : Int32))), .val (.int (Int32.ofNat iq)), .val (.int (1 : Int32)), .val (.int (1 : Int32)), .val (.int (0 : Int32)), .val (.ref b257), .unset] [(.int (Int32.ofNat ia)), (.int (Int32.ofNat iq))])) t
                refine XS.icmpYes X264.here hx rfl (pc0 := 184) (pc' := 199) rfl (hb hby at_184) rfl (teq hc266).1 (by decide) (by decide) ?_
                refine XS.iload X264.here hx rfl (hb hby at_199) rfl ?_
                refine XS.ifYes X264.here hx rfl (pc0 := 201) (pc' := 211) rfl (hb hby at_201) rfl ((if0 _ _).trans (teq (by decide : (0 : Int32) = (0 : Int32))).1) (by decide) (by decide) ?_
                refine XS.iconst X264.here hx rfl (hb hby at_211) ?_
                show Steps p.tables e below (T264.setTop (mkF m 212 #[.val (.int p1), .val (.int p2), .val (.int p3), .val (.int p4), .val (.int (Int32.ofNat ia)), .val (.int (Int32.ofNat ib)), .val (.int (((p4.toUInt32 >>> ((3 : Int32) &&& 31).toUInt32).toInt32) &&& (3 : Int32))), .val (.int (Int32.ofNat iq)), .val (.int (1 : Int32)), .val (.int (1 : Int32)), .val (.int (0 : Int32)), .val (.ref b257), .unset] [(.int (1 : Int32))])) t
                refine XS.goto X264.here hx rfl (pc0 := 212) (pc' := 216) rfl (hb hby at_212) (by decide) (by decide) ?_
                refine XS.istore X264.here hx rfl (hb hby at_216) rfl (l' := #[.val (.int p1), .val (.int p2), .val (.int p3), .val (.int p4), .val (.int (Int32.ofNat ia)), .val (.int (Int32.ofNat ib)), .val (.int (((p4.toUInt32 >>> ((3 : Int32) &&& 31).toUInt32).toInt32) &&& (3 : Int32))), .val (.int (Int32.ofNat iq)), .val (.int (1 : Int32)), .val (.int (1 : Int32)), .val (.int (0 : Int32)), .val (.ref b257), .val (.int (1 : Int32))]) rfl ?_
                refine XS.aload X264.here hx rfl (hb hby at_218) rfl rfl ?_
                refine XS.iload X264.here hx rfl (hb hby at_220) rfl ?_
                exact k
              obtain ⟨cq270, kq270, q270a, q270b, q270c⟩ := isOf hZ e264 E_b257
              obtain ⟨_, _, ⟨T270, L270, k270, n270⟩, -, X270, ⟨Lc270, hQ270, l270, y270, z270⟩, st270⟩ := X264.virtualBack hx (y := (⟨"com/example/otayori/otayori/codec/PacketIds", "isHeld", "(I)Z"⟩ : MethodName)) (z := (⟨"com/example/otayori/otayori/codec/PacketIds", "isHeld", "(I)Z"⟩ : MethodName)) hown (mvT hZ (w_17 hw)) (mvT hZ (w_18 hw)) (notFace_of_selects (args := #[]) (mvT hZ (w_20 hw))) (mvT hZ (w_20 hw)) (mvT hZ (w_19 hw)) (by decide) (backOf (W := 0) (rm4y l Z a0 hw [] b257 bs_262 tw2_264 kw2_264 ws3_264 u2_264 st2_264 iq h264 n0 Z0 F_b257_held E_bs_262 g_bs_262 F_bs_262_words F_bs_262_wordsInUse F_bs_262_sizeIsSticky V_tw2_264 g_tw2_264 ne_bs_262_tw2_264 (hinv3_264 : own_inv ws3_264 u2_264) (hb3_264 : ws3_264.length ≤ 2048) OLD (O5 : Sta Z Z.heap "java/util/BitSet" "$assertionsDisabled" "Z" (.int (1 : Int32))) (h_iq : iq ≤ 65535)) hZ (w_21 hw) (w_8 hw) (by decide) (by decide)) q270a q270c (g := (mkF m 222 #[.val (.int p1), .val (.int p2), .val (.int p3), .val (.int p4), .val (.int (Int32.ofNat ia)), .val (.int (Int32.ofNat ib)), .val (.int (((p4.toUInt32 >>> ((3 : Int32) &&& 31).toUInt32).toInt32) &&& (3 : Int32))), .val (.int (Int32.ofNat iq)), .val (.int (1 : Int32)), .val (.int (1 : Int32)), .val (.int (0 : Int32)), .val (.ref b257), .val (.int (1 : Int32))] [(.int (Int32.ofNat iq)), (.ref b257)])) rfl (by rw [hml]; rfl) (Steps.refl _) (argsL := [(.int (Int32.ofNat iq))]) (rest := []) (lenOf pd_5 rfl) rfl (by show 2 * 0 + _ ≤ _; exact Nat.le_of_eq rfl) (hb hby at_222) (fun _ _ => ⟨rfl, e264, (by decide : 5 + 0 ≤ _), (by decide : 4103 + 0 ≤ _)⟩)
              dsimp only [Pt.U, Pt.locs, Pt.cells, Pt.slots] at X270 l270 y270 z270 st270 hQ270
              subst l270 y270 z270
              obtain ⟨rfl, Nq270, Kq270⟩ := hQ270
              replace NF := Fr.app NF Nq270
              clear Nq270
              refine WP.tr st270 ?_
              clear st270
              replace Kq270 := Kq270.trans (rfl : h264 = h264)
              have hXN : ∃ LL, Stand p l e room_1 s m #[(.int p1), (.int p2), (.int p3), (.int p4)] below meth c T270 LL 5 4103 ∧ Fr n0 LL := ⟨_, X270, NF⟩
              clear X270 NF
              obtain ⟨LL271, X270, NF⟩ := hXN
              show WP p.tables e below _ T270 (mkF m 225 #[.val (.int p1), .val (.int p2), .val (.int p3), .val (.int p4), .val (.int (Int32.ofNat ia)), .val (.int (Int32.ofNat ib)), .val (.int (((p4.toUInt32 >>> ((3 : Int32) &&& 31).toUInt32).toInt32) &&& (3 : Int32))), .val (.int (Int32.ofNat iq)), .val (.int (1 : Int32)), .val (.int (1 : Int32)), .val (.int (0 : Int32)), .val (.ref b257), .val (.int (1 : Int32))] [(.int (own_get ws3_264 iq))])
              rw [show (own_get ws3_264 iq) = (1 : Int32) from by rw [hget3_264 iq h_iq, hget3_262 iq h_iq]; (repeat' split) <;> first | rfl | (exfalso; omega)]
              show WP p.tables e below _ T270 (mkF m 225 #[.val (.int p1), .val (.int p2), .val (.int p3), .val (.int p4), .val (.int (Int32.ofNat ia)), .val (.int (Int32.ofNat ib)), .val (.int (((p4.toUInt32 >>> ((3 : Int32) &&& 31).toUInt32).toInt32) &&& (3 : Int32))), .val (.int (Int32.ofNat iq)), .val (.int (1 : Int32)), .val (.int (1 : Int32)), .val (.int (0 : Int32)), .val (.ref b257), .val (.int (1 : Int32))] [(.int (1 : Int32))])
              refine WP.st (T' := T270) (f' := (mkF m 235 #[.val (.int p1), .val (.int p2), .val (.int p3), .val (.int p4), .val (.int (Int32.ofNat ia)), .val (.int (Int32.ofNat ib)), .val (.int (((p4.toUInt32 >>> ((3 : Int32) &&& 31).toUInt32).toInt32) &&& (3 : Int32))), .val (.int (Int32.ofNat iq)), .val (.int (1 : Int32)), .val (.int (1 : Int32)), .val (.int (0 : Int32)), .val (.ref b257), .val (.int (1 : Int32))] [(.int (1 : Int32))])) (fun t k => ?_) ?_
              · refine XS.iload X270.here hx rfl (hb hby at_225) rfl ?_
                refine XS.icmpNo X270.here hx rfl (hb hby at_227) rfl (teq (by decide : (1 : Int32) = (1 : Int32))).2 ?_
                refine XS.iconst X270.here hx rfl (hb hby at_230) ?_
                refine XS.goto X270.here hx rfl (pc0 := 231) (pc' := 235) rfl (hb hby at_231) (by decide) (by decide) ?_
                exact k
              subst hG
              obtain ⟨fs, hr, hrun, hended, hW, hsame⟩ := X270.leave (v := some (.int (1 : Int32))) (fun h => by rw [Bd.returns] at h; cases h)
              refine WP.fin ⟨_, _, ?_, hrun, hended, _, _, rfl, ?_, ⟨_, rfl⟩, hW, hsame.mono (by decide) (by decide)⟩
              · exact retN X270 hx (t := .boolean) Bd.returns (by simp) (hb hby at_235) hr
              · show Q0 Z p1 p2 p3 p4 h0 n0 _ T270.heap _
                rw [Kq270]
                exact ⟨rfl, NF⟩
          · skip
            by_cases hc272 : (Int32.ofNat iq) = (Int32.ofNat ib)
            · skip
              have n_ia : ¬ iq = ia := fun q => hc266 (congrArg Int32.ofNat q)
              have n_ib : iq = ib := (own_eq (Nat.lt_of_le_of_lt h_iq (by decide)) (Nat.lt_of_le_of_lt h_ib (by decide))).1 hc272
              refine WP.st (T' := T264) (f' := (mkF m 222 #[.val (.int p1), .val (.int p2), .val (.int p3), .val (.int p4), .val (.int (Int32.ofNat ia)), .val (.int (Int32.ofNat ib)), .val (.int (((p4.toUInt32 >>> ((3 : Int32) &&& 31).toUInt32).toInt32) &&& (3 : Int32))), .val (.int (Int32.ofNat iq)), .val (.int (1 : Int32)), .val (.int (1 : Int32)), .val (.int (0 : Int32)), .val (.ref b257), .val (.int (1 : Int32))] [(.int (Int32.ofNat iq)), (.ref b257)])) (fun t k => ?_) ?_
              · refine XS.iload X264.here hx rfl (hb hby at_175) rfl ?_
                refine XS.ifNo X264.here hx rfl (hb hby at_177) rfl ((if0 _ _).trans (feq (by decide : ¬ ((1 : Int32) = (0 : Int32)))).1) ?_
                refine XS.iload X264.here hx rfl (hb hby at_180) rfl ?_
                refine XS.iload X264.here hx rfl (hb hby at_182) rfl ?_
                show Steps p.tables e below (T264.setTop (mkF m 184 #[.val (.int p1), .val (.int p2), .val (.int p3), .val (.int p4), .val (.int (Int32.ofNat ia)), .val (.int (Int32.ofNat ib)), .val (.int (((p4.toUInt32 >>> ((3 : Int32) &&& 31).toUInt32).toInt32) &&& (3 : Int32))), .val (.int (Int32.ofNat iq)), .val (.int (1 : Int32)), .val (.int (1 : Int32)), .val (.int (0 : Int32)), .val (.ref b257), .unset] [(.int (Int32.ofNat ia)), (.int (Int32.ofNat iq))])) t
                refine XS.icmpNo X264.here hx rfl (hb hby at_184) rfl (feq hc266).1 ?_
                refine XS.iload X264.here hx rfl (hb hby at_187) rfl ?_
                refine XS.ifNo X264.here hx rfl (hb hby at_189) rfl ((if0 _ _).trans (feq (by decide : ¬ ((1 : Int32) = (0 : Int32)))).1) ?_
                refine XS.iload X264.here hx rfl (hb hby at_192) rfl ?_
                show Steps p.tables e below (T264.setTop (mkF m 194 #[.val (.int p1), .val (.int p2), .val (.int p3), .val (.int p4), .val (.int (Int32.ofNat ia)), .val (.int (Int32.ofNat ib)), .val (.int (((p4.toUInt32 >>> ((3 : Int32) &&& 31).toUInt32).toInt32) &&& (3 : Int32))), .val (.int (Int32.ofNat iq)), .val (.int (1 : Int32)), .val (.int (1 : Int32)), .val (.int (0 : Int32)), .val (.ref b257), .unset] [(.int (Int32.ofNat iq))])) t
                refine XS.iload X264.here hx rfl (hb hby at_194) rfl ?_
                refine XS.icmpNo X264.here hx rfl (hb hby at_196) rfl (teq hc272).2 ?_
                refine XS.iload X264.here hx rfl (hb hby at_199) rfl ?_
                refine XS.ifYes X264.here hx rfl (pc0 := 201) (pc' := 211) rfl (hb hby at_201) rfl ((if0 _ _).trans (teq (by decide : (0 : Int32) = (0 : Int32))).1) (by decide) (by decide) ?_
                show Steps p.tables e below (T264.setTop (mkF m 211 #[.val (.int p1), .val (.int p2), .val (.int p3), .val (.int p4), .val (.int (Int32.ofNat ia)), .val (.int (Int32.ofNat ib)), .val (.int (((p4.toUInt32 >>> ((3 : Int32) &&& 31).toUInt32).toInt32) &&& (3 : Int32))), .val (.int (Int32.ofNat iq)), .val (.int (1 : Int32)), .val (.int (1 : Int32)), .val (.int (0 : Int32)), .val (.ref b257), .unset] [])) t
                refine XS.iconst X264.here hx rfl (hb hby at_211) ?_
                refine XS.goto X264.here hx rfl (pc0 := 212) (pc' := 216) rfl (hb hby at_212) (by decide) (by decide) ?_
                refine XS.istore X264.here hx rfl (hb hby at_216) rfl (l' := #[.val (.int p1), .val (.int p2), .val (.int p3), .val (.int p4), .val (.int (Int32.ofNat ia)), .val (.int (Int32.ofNat ib)), .val (.int (((p4.toUInt32 >>> ((3 : Int32) &&& 31).toUInt32).toInt32) &&& (3 : Int32))), .val (.int (Int32.ofNat iq)), .val (.int (1 : Int32)), .val (.int (1 : Int32)), .val (.int (0 : Int32)), .val (.ref b257), .val (.int (1 : Int32))]) rfl ?_
                refine XS.aload X264.here hx rfl (hb hby at_218) rfl rfl ?_
                show Steps p.tables e below (T264.setTop (mkF m 220 #[.val (.int p1), .val (.int p2), .val (.int p3), .val (.int p4), .val (.int (Int32.ofNat ia)), .val (.int (Int32.ofNat ib)), .val (.int (((p4.toUInt32 >>> ((3 : Int32) &&& 31).toUInt32).toInt32) &&& (3 : Int32))), .val (.int (Int32.ofNat iq)), .val (.int (1 : Int32)), .val (.int (1 : Int32)), .val (.int (0 : Int32)), .val (.ref b257), .val (.int (1 : Int32))] [(.ref b257)])) t
                refine XS.iload X264.here hx rfl (hb hby at_220) rfl ?_
                exact k
              obtain ⟨cq273, kq273, q273a, q273b, q273c⟩ := isOf hZ e264 E_b257
              obtain ⟨_, _, ⟨T273, L273, k273, n273⟩, -, X273, ⟨Lc273, hQ273, l273, y273, z273⟩, st273⟩ := X264.virtualBack hx (y := (⟨"com/example/otayori/otayori/codec/PacketIds", "isHeld", "(I)Z"⟩ : MethodName)) (z := (⟨"com/example/otayori/otayori/codec/PacketIds", "isHeld", "(I)Z"⟩ : MethodName)) hown (mvT hZ (w_17 hw)) (mvT hZ (w_18 hw)) (notFace_of_selects (args := #[]) (mvT hZ (w_20 hw))) (mvT hZ (w_20 hw)) (mvT hZ (w_19 hw)) (by decide) (backOf (W := 0) (rm4y l Z a0 hw [] b257 bs_262 tw2_264 kw2_264 ws3_264 u2_264 st2_264 iq h264 n0 Z0 F_b257_held E_bs_262 g_bs_262 F_bs_262_words F_bs_262_wordsInUse F_bs_262_sizeIsSticky V_tw2_264 g_tw2_264 ne_bs_262_tw2_264 (hinv3_264 : own_inv ws3_264 u2_264) (hb3_264 : ws3_264.length ≤ 2048) OLD (O5 : Sta Z Z.heap "java/util/BitSet" "$assertionsDisabled" "Z" (.int (1 : Int32))) (h_iq : iq ≤ 65535)) hZ (w_21 hw) (w_8 hw) (by decide) (by decide)) q273a q273c (g := (mkF m 222 #[.val (.int p1), .val (.int p2), .val (.int p3), .val (.int p4), .val (.int (Int32.ofNat ia)), .val (.int (Int32.ofNat ib)), .val (.int (((p4.toUInt32 >>> ((3 : Int32) &&& 31).toUInt32).toInt32) &&& (3 : Int32))), .val (.int (Int32.ofNat iq)), .val (.int (1 : Int32)), .val (.int (1 : Int32)), .val (.int (0 : Int32)), .val (.ref b257), .val (.int (1 : Int32))] [(.int (Int32.ofNat iq)), (.ref b257)])) rfl (by rw [hml]; rfl) (Steps.refl _) (argsL := [(.int (Int32.ofNat iq))]) (rest := []) (lenOf pd_5 rfl) rfl (by show 2 * 0 + _ ≤ _; exact Nat.le_of_eq rfl) (hb hby at_222) (fun _ _ => ⟨rfl, e264, (by decide : 5 + 0 ≤ _), (by decide : 4103 + 0 ≤ _)⟩)
              dsimp only [Pt.U, Pt.locs, Pt.cells, Pt.slots] at X273 l273 y273 z273 st273 hQ273
              subst l273 y273 z273
              obtain ⟨rfl, Nq273, Kq273⟩ := hQ273
              replace NF := Fr.app NF Nq273
              clear Nq273
              refine WP.tr st273 ?_
              clear st273
              replace Kq273 := Kq273.trans (rfl : h264 = h264)
              have hXN : ∃ LL, Stand p l e room_1 s m #[(.int p1), (.int p2), (.int p3), (.int p4)] below meth c T273 LL 5 4103 ∧ Fr n0 LL := ⟨_, X273, NF⟩
              clear X273 NF
              obtain ⟨LL274, X273, NF⟩ := hXN
              show WP p.tables e below _ T273 (mkF m 225 #[.val (.int p1), .val (.int p2), .val (.int p3), .val (.int p4), .val (.int (Int32.ofNat ia)), .val (.int (Int32.ofNat ib)), .val (.int (((p4.toUInt32 >>> ((3 : Int32) &&& 31).toUInt32).toInt32) &&& (3 : Int32))), .val (.int (Int32.ofNat iq)), .val (.int (1 : Int32)), .val (.int (1 : Int32)), .val (.int (0 : Int32)), .val (.ref b257), .val (.int (1 : Int32))] [(.int (own_get ws3_264 iq))])
              rw [show (own_get ws3_264 iq) = (1 : Int32) from by rw [hget3_264 iq h_iq, hget3_262 iq h_iq]; (repeat' split) <;> first | rfl | (exfalso; omega)]
              show WP p.tables e below _ T273 (mkF m 225 #[.val (.int p1), .val (.int p2), .val (.int p3), .val (.int p4), .val (.int (Int32.ofNat ia)), .val (.int (Int32.ofNat ib)), .val (.int (((p4.toUInt32 >>> ((3 : Int32) &&& 31).toUInt32).toInt32) &&& (3 : Int32))), .val (.int (Int32.ofNat iq)), .val (.int (1 : Int32)), .val (.int (1 : Int32)), .val (.int (0 : Int32)), .val (.ref b257), .val (.int (1 : Int32))] [(.int (1 : Int32))])
              refine WP.st (T' := T273) (f' := (mkF m 235 #[.val (.int p1), .val (.int p2), .val (.int p3), .val (.int p4), .val (.int (Int32.ofNat ia)), .val (.int (Int32.ofNat ib)), .val (.int (((p4.toUInt32 >>> ((3 : Int32) &&& 31).toUInt32).toInt32) &&& (3 : Int32))), .val (.int (Int32.ofNat iq)), .val (.int (1 : Int32)), .val (.int (1 : Int32)), .val (.int (0 : Int32)), .val (.ref b257), .val (.int (1 : Int32))] [(.int (1 : Int32))])) (fun t k => ?_) ?_
              · refine XS.iload X273.here hx rfl (hb hby at_225) rfl ?_
                refine XS.icmpNo X273.here hx rfl (hb hby at_227) rfl (teq (by decide : (1 : Int32) = (1 : Int32))).2 ?_
                refine XS.iconst X273.here hx rfl (hb hby at_230) ?_
                refine XS.goto X273.here hx rfl (pc0 := 231) (pc' := 235) rfl (hb hby at_231) (by decide) (by decide) ?_
                exact k
              subst hG
              obtain ⟨fs, hr, hrun, hended, hW, hsame⟩ := X273.leave (v := some (.int (1 : Int32))) (fun h => by rw [Bd.returns] at h; cases h)
              refine WP.fin ⟨_, _, ?_, hrun, hended, _, _, rfl, ?_, ⟨_, rfl⟩, hW, hsame.mono (by decide) (by decide)⟩
              · exact retN X273 hx (t := .boolean) Bd.returns (by simp) (hb hby at_235) hr
              · show Q0 Z p1 p2 p3 p4 h0 n0 _ T273.heap _
                rw [Kq273]
                exact ⟨rfl, NF⟩
            · skip
              have n_ia : ¬ iq = ia := fun q => hc266 (congrArg Int32.ofNat q)
              have n_ib : ¬ iq = ib := fun q => hc272 (congrArg Int32.ofNat q)
              refine WP.st (T' := T264) (f' := (mkF m 222 #[.val (.int p1), .val (.int p2), .val (.int p3), .val (.int p4), .val (.int (Int32.ofNat ia)), .val (.int (Int32.ofNat ib)), .val (.int (((p4.toUInt32 >>> ((3 : Int32) &&& 31).toUInt32).toInt32) &&& (3 : Int32))), .val (.int (Int32.ofNat iq)), .val (.int (1 : Int32)), .val (.int (1 : Int32)), .val (.int (0 : Int32)), .val (.ref b257), .val (.int (0 : Int32))] [(.int (Int32.ofNat iq)), (.ref b257)])) (fun t k => ?_) ?_
              · refine XS.iload X264.here hx rfl (hb hby at_175) rfl ?_
                refine XS.ifNo X264.here hx rfl (hb hby at_177) rfl ((if0 _ _).trans (feq (by decide : ¬ ((1 : Int32) = (0 : Int32)))).1) ?_
                refine XS.iload X264.here hx rfl (hb hby at_180) rfl ?_
                refine XS.iload X264.here hx rfl (hb hby at_182) rfl ?_
                show Steps p.tables e below (T264.setTop (mkF m 184 #[.val (.int p1), .val (.int p2), .val (.int p3), .val (.int p4), .val (.int (Int32.ofNat ia)), .val (.int (Int32.ofNat ib)), .val (.int (((p4.toUInt32 >>> ((3 : Int32) &&& 31).toUInt32).toInt32) &&& (3 : Int32))), .val (.int (Int32.ofNat iq)), .val (.int (1 : Int32)), .val (.int (1 : Int32)), .val (.int (0 : Int32)), .val (.ref b257), .unset] [(.int (Int32.ofNat ia)), (.int (Int32.ofNat iq))])) t
                refine XS.icmpNo X264.here hx rfl (hb hby at_184) rfl (feq hc266).1 ?_
                refine XS.iload X264.here hx rfl (hb hby at_187) rfl ?_
                refine XS.ifNo X264.here hx rfl (hb hby at_189) rfl ((if0 _ _).trans (feq (by decide : ¬ ((1 : Int32) = (0 : Int32)))).1) ?_
                refine XS.iload X264.here hx rfl (hb hby at_192) rfl ?_
                show Steps p.tables e below (T264.setTop (mkF m 194 #[.val (.int p1), .val (.int p2), .val (.int p3), .val (.int p4), .val (.int (Int32.ofNat ia)), .val (.int (Int32.ofNat ib)), .val (.int (((p4.toUInt32 >>> ((3 : Int32) &&& 31).toUInt32).toInt32) &&& (3 : Int32))), .val (.int (Int32.ofNat iq)), .val (.int (1 : Int32)), .val (.int (1 : Int32)), .val (.int (0 : Int32)), .val (.ref b257), .unset] [(.int (Int32.ofNat iq))])) t
                refine XS.iload X264.here hx rfl (hb hby at_194) rfl ?_
                refine XS.icmpYes X264.here hx rfl (pc0 := 196) (pc' := 215) rfl (hb hby at_196) rfl (feq hc272).2 (by decide) (by decide) ?_
                refine XS.iconst X264.here hx rfl (hb hby at_215) ?_
                refine XS.istore X264.here hx rfl (hb hby at_216) rfl (l' := #[.val (.int p1), .val (.int p2), .val (.int p3), .val (.int p4), .val (.int (Int32.ofNat ia)), .val (.int (Int32.ofNat ib)), .val (.int (((p4.toUInt32 >>> ((3 : Int32) &&& 31).toUInt32).toInt32) &&& (3 : Int32))), .val (.int (Int32.ofNat iq)), .val (.int (1 : Int32)), .val (.int (1 : Int32)), .val (.int (0 : Int32)), .val (.ref b257), .val (.int (0 : Int32))]) rfl ?_
                show Steps p.tables e below (T264.setTop (mkF m 218 #[.val (.int p1), .val (.int p2), .val (.int p3), .val (.int p4), .val (.int (Int32.ofNat ia)), .val (.int (Int32.ofNat ib)), .val (.int (((p4.toUInt32 >>> ((3 : Int32) &&& 31).toUInt32).toInt32) &&& (3 : Int32))), .val (.int (Int32.ofNat iq)), .val (.int (1 : Int32)), .val (.int (1 : Int32)), .val (.int (0 : Int32)), .val (.ref b257), .val (.int (0 : Int32))] [])) t
                refine XS.aload X264.here hx rfl (hb hby at_218) rfl rfl ?_
                refine XS.iload X264.here hx rfl (hb hby at_220) rfl ?_
                exact k
              obtain ⟨cq275, kq275, q275a, q275b, q275c⟩ := isOf hZ e264 E_b257
              obtain ⟨_, _, ⟨T275, L275, k275, n275⟩, -, X275, ⟨Lc275, hQ275, l275, y275, z275⟩, st275⟩ := X264.virtualBack hx (y := (⟨"com/example/otayori/otayori/codec/PacketIds", "isHeld", "(I)Z"⟩ : MethodName)) (z := (⟨"com/example/otayori/otayori/codec/PacketIds", "isHeld", "(I)Z"⟩ : MethodName)) hown (mvT hZ (w_17 hw)) (mvT hZ (w_18 hw)) (notFace_of_selects (args := #[]) (mvT hZ (w_20 hw))) (mvT hZ (w_20 hw)) (mvT hZ (w_19 hw)) (by decide) (backOf (W := 0) (rm4y l Z a0 hw [] b257 bs_262 tw2_264 kw2_264 ws3_264 u2_264 st2_264 iq h264 n0 Z0 F_b257_held E_bs_262 g_bs_262 F_bs_262_words F_bs_262_wordsInUse F_bs_262_sizeIsSticky V_tw2_264 g_tw2_264 ne_bs_262_tw2_264 (hinv3_264 : own_inv ws3_264 u2_264) (hb3_264 : ws3_264.length ≤ 2048) OLD (O5 : Sta Z Z.heap "java/util/BitSet" "$assertionsDisabled" "Z" (.int (1 : Int32))) (h_iq : iq ≤ 65535)) hZ (w_21 hw) (w_8 hw) (by decide) (by decide)) q275a q275c (g := (mkF m 222 #[.val (.int p1), .val (.int p2), .val (.int p3), .val (.int p4), .val (.int (Int32.ofNat ia)), .val (.int (Int32.ofNat ib)), .val (.int (((p4.toUInt32 >>> ((3 : Int32) &&& 31).toUInt32).toInt32) &&& (3 : Int32))), .val (.int (Int32.ofNat iq)), .val (.int (1 : Int32)), .val (.int (1 : Int32)), .val (.int (0 : Int32)), .val (.ref b257), .val (.int (0 : Int32))] [(.int (Int32.ofNat iq)), (.ref b257)])) rfl (by rw [hml]; rfl) (Steps.refl _) (argsL := [(.int (Int32.ofNat iq))]) (rest := []) (lenOf pd_5 rfl) rfl (by show 2 * 0 + _ ≤ _; exact Nat.le_of_eq rfl) (hb hby at_222) (fun _ _ => ⟨rfl, e264, (by decide : 5 + 0 ≤ _), (by decide : 4103 + 0 ≤ _)⟩)
              dsimp only [Pt.U, Pt.locs, Pt.cells, Pt.slots] at X275 l275 y275 z275 st275 hQ275
              subst l275 y275 z275
              obtain ⟨rfl, Nq275, Kq275⟩ := hQ275
              replace NF := Fr.app NF Nq275
              clear Nq275
              refine WP.tr st275 ?_
              clear st275
              replace Kq275 := Kq275.trans (rfl : h264 = h264)
              have hXN : ∃ LL, Stand p l e room_1 s m #[(.int p1), (.int p2), (.int p3), (.int p4)] below meth c T275 LL 5 4103 ∧ Fr n0 LL := ⟨_, X275, NF⟩
              clear X275 NF
              obtain ⟨LL276, X275, NF⟩ := hXN
              show WP p.tables e below _ T275 (mkF m 225 #[.val (.int p1), .val (.int p2), .val (.int p3), .val (.int p4), .val (.int (Int32.ofNat ia)), .val (.int (Int32.ofNat ib)), .val (.int (((p4.toUInt32 >>> ((3 : Int32) &&& 31).toUInt32).toInt32) &&& (3 : Int32))), .val (.int (Int32.ofNat iq)), .val (.int (1 : Int32)), .val (.int (1 : Int32)), .val (.int (0 : Int32)), .val (.ref b257), .val (.int (0 : Int32))] [(.int (own_get ws3_264 iq))])
              rw [show (own_get ws3_264 iq) = (0 : Int32) from by rw [hget3_264 iq h_iq, hget3_262 iq h_iq]; (repeat' split) <;> first | rfl | (exfalso; omega)]
              show WP p.tables e below _ T275 (mkF m 225 #[.val (.int p1), .val (.int p2), .val (.int p3), .val (.int p4), .val (.int (Int32.ofNat ia)), .val (.int (Int32.ofNat ib)), .val (.int (((p4.toUInt32 >>> ((3 : Int32) &&& 31).toUInt32).toInt32) &&& (3 : Int32))), .val (.int (Int32.ofNat iq)), .val (.int (1 : Int32)), .val (.int (1 : Int32)), .val (.int (0 : Int32)), .val (.ref b257), .val (.int (0 : Int32))] [(.int (0 : Int32))])
              refine WP.st (T' := T275) (f' := (mkF m 235 #[.val (.int p1), .val (.int p2), .val (.int p3), .val (.int p4), .val (.int (Int32.ofNat ia)), .val (.int (Int32.ofNat ib)), .val (.int (((p4.toUInt32 >>> ((3 : Int32) &&& 31).toUInt32).toInt32) &&& (3 : Int32))), .val (.int (Int32.ofNat iq)), .val (.int (1 : Int32)), .val (.int (1 : Int32)), .val (.int (0 : Int32)), .val (.ref b257), .val (.int (0 : Int32))] [(.int (1 : Int32))])) (fun t k => ?_) ?_
              · refine XS.iload X275.here hx rfl (hb hby at_225) rfl ?_
                refine XS.icmpNo X275.here hx rfl (hb hby at_227) rfl (teq (by decide : (0 : Int32) = (0 : Int32))).2 ?_
                refine XS.iconst X275.here hx rfl (hb hby at_230) ?_
                refine XS.goto X275.here hx rfl (pc0 := 231) (pc' := 235) rfl (hb hby at_231) (by decide) (by decide) ?_
                exact k
              subst hG
              obtain ⟨fs, hr, hrun, hended, hW, hsame⟩ := X275.leave (v := some (.int (1 : Int32))) (fun h => by rw [Bd.returns] at h; cases h)
              refine WP.fin ⟨_, _, ?_, hrun, hended, _, _, rfl, ?_, ⟨_, rfl⟩, hW, hsame.mono (by decide) (by decide)⟩
              · exact retN X275 hx (t := .boolean) Bd.returns (by simp) (hb hby at_235) hr
              · show Q0 Z p1 p2 p3 p4 h0 n0 _ T275.heap _
                rw [Kq275]
                exact ⟨rfl, NF⟩
        · skip
          refine WP.st (T' := Tj139) (f' := (mkF m 115 #[.val (.int p1), .val (.int p2), .val (.int p3), .val (.int p4), .val (.int (Int32.ofNat ia)), .val (.int (Int32.ofNat ib)), .val (.int (((p4.toUInt32 >>> ((3 : Int32) &&& 31).toUInt32).toInt32) &&& (3 : Int32))), .val (.int (Int32.ofNat iq)), .val (.int (1 : Int32)), .val (.int (1 : Int32)), .val (.int (1 : Int32)), .unset, .unset] [])) (fun t k => ?_) ?_
          · refine XS.ifNo X139.here hx rfl (hb hby at_105) rfl ((if0 _ _).trans (feq hc256).1) ?_
            refine XS.iconst X139.here hx rfl (hb hby at_108) ?_
            refine XS.goto X139.here hx rfl (pc0 := 109) (pc' := 113) rfl (hb hby at_109) (by decide) (by decide) ?_
            refine XS.istore X139.here hx rfl (hb hby at_113) rfl (l' := #[.val (.int p1), .val (.int p2), .val (.int p3), .val (.int p4), .val (.int (Int32.ofNat ia)), .val (.int (Int32.ofNat ib)), .val (.int (((p4.toUInt32 >>> ((3 : Int32) &&& 31).toUInt32).toInt32) &&& (3 : Int32))), .val (.int (Int32.ofNat iq)), .val (.int (1 : Int32)), .val (.int (1 : Int32)), .val (.int (1 : Int32)), .unset, .unset]) rfl ?_
            exact k
          obtain ⟨T277, h277, X277, e277, E277, A277, D277, -, st277⟩ := newO X139 hx hZ hown (w_6 hw) (w_7 hw) (w_8 hw) ej139 (g := (mkF m 115 #[.val (.int p1), .val (.int p2), .val (.int p3), .val (.int p4), .val (.int (Int32.ofNat ia)), .val (.int (Int32.ofNat ib)), .val (.int (((p4.toUInt32 >>> ((3 : Int32) &&& 31).toUInt32).toInt32) &&& (3 : Int32))), .val (.int (Int32.ofNat iq)), .val (.int (1 : Int32)), .val (.int (1 : Int32)), .val (.int (1 : Int32)), .unset, .unset] [])) rfl (hb hby at_115) (by decide) (by decide)
          obtain ⟨b277, g277⟩ : ∃ z, z = h0.size := ⟨_, rfl⟩
          rw [← g277] at A277 D277 st277
          refine WP.st st277 ?_
          clear st277
          have g_b277 : n0 ≤ b277 := Nat.le_trans Z0 (Nat.le_of_eq g277.symm)
          replace OLD := OLD.ext E277
          replace Z0 := Nat.le_trans Z0 E277.1
          have E_b277 := A277
          have F_b277_next : Fld Z h277 b277 "com/example/otayori/otayori/codec/PacketIds" "next" "I" (.int (0 : Int32)) := D277 (Or.inl (w_16 hw)) (ty := .int) (by decide)
          have F_b277_held : Fld Z h277 b277 "com/example/otayori/otayori/codec/PacketIds" "held" "Ljava/util/BitSet;" .null := D277 (Or.inl (w_23 hw)) (ty := (.object "java/util/BitSet")) (by decide)
          have F_b277_count : Fld Z h277 b277 "com/example/otayori/otayori/codec/PacketIds" "count" "I" (.int (0 : Int32)) := D277 (Or.inl (w_78 hw)) (ty := .int) (by decide)
          clear D277 A277
          show WP p.tables e below _ T277 (mkF m 118 #[.val (.int p1), .val (.int p2), .val (.int p3), .val (.int p4), .val (.int (Int32.ofNat ia)), .val (.int (Int32.ofNat ib)), .val (.int (((p4.toUInt32 >>> ((3 : Int32) &&& 31).toUInt32).toInt32) &&& (3 : Int32))), .val (.int (Int32.ofNat iq)), .val (.int (1 : Int32)), .val (.int (1 : Int32)), .val (.int (1 : Int32)), .unset, .unset] [(.ref b277)])
          refine WP.st (T' := T277) (f' := (mkF m 119 #[.val (.int p1), .val (.int p2), .val (.int p3), .val (.int p4), .val (.int (Int32.ofNat ia)), .val (.int (Int32.ofNat ib)), .val (.int (((p4.toUInt32 >>> ((3 : Int32) &&& 31).toUInt32).toInt32) &&& (3 : Int32))), .val (.int (Int32.ofNat iq)), .val (.int (1 : Int32)), .val (.int (1 : Int32)), .val (.int (1 : Int32)), .unset, .unset] [(.ref b277), (.ref b277)])) (fun t k => ?_) ?_
          · refine XS.dup X277.here hx rfl (hb hby at_118) rfl rfl ?_
            exact k
          obtain ⟨_, _, ⟨T278, L278, k278, n278⟩, -, X278, ⟨Lc278, hQ278, l278, y278, z278⟩, st278⟩ := X277.specialBack hx (y := (⟨"com/example/otayori/otayori/codec/PacketIds", "<init>", "()V"⟩ : MethodName)) rfl hown (mvT hZ (w_9 hw)) (mvT hZ (w_10 hw)) (mvT hZ (w_11 hw)) (by decide) (backOf (W := 1) (rm2 l Z a0 hw [] b277 (0 : Int32) (0 : Int32) h277 n0 Z0 E_b277 g_b277 F_b277_held F_b277_count F_b277_next) hZ (w_11 hw) (w_8 hw) (by decide) (by decide)) (g := (mkF m 119 #[.val (.int p1), .val (.int p2), .val (.int p3), .val (.int p4), .val (.int (Int32.ofNat ia)), .val (.int (Int32.ofNat ib)), .val (.int (((p4.toUInt32 >>> ((3 : Int32) &&& 31).toUInt32).toInt32) &&& (3 : Int32))), .val (.int (Int32.ofNat iq)), .val (.int (1 : Int32)), .val (.int (1 : Int32)), .val (.int (1 : Int32)), .unset, .unset] [(.ref b277), (.ref b277)])) rfl (by rw [hml]; rfl) (Steps.refl _) (a := b277) (argsL := []) (rest := [(.ref b277)]) (lenOf pd_4 rfl) rfl (by show 2 * 0 + _ ≤ _; exact Nat.le_of_eq rfl) (hb hby at_119) (fun _ _ => ⟨rfl, e277, (by decide : 1 + 0 ≤ _), (by decide : 3 + 0 ≤ _)⟩)
          dsimp only [Pt.U, Pt.locs, Pt.cells, Pt.slots] at X278 l278 y278 z278 st278 hQ278
          subst l278 y278 z278
          obtain ⟨rfl, Nq278, Kq278, nF278_b277_held, nF278_b277_count, nF278_b277_next⟩ := hQ278
          replace NF := Fr.app NF Nq278
          clear Nq278
          refine WP.tr st278 ?_
          clear st278
          obtain ⟨h278, e278⟩ : ∃ h, T278.heap = h := ⟨_, rfl⟩
          rw [e278] at Kq278 nF278_b277_held nF278_b277_count nF278_b277_next
          replace OLD := OLD.keep Kq278 (allS g_b277 all0)
          replace E_b277 := E_b277.keep Kq278
          clear F_b277_next
          clear F_b277_held
          clear F_b277_count
          replace Z0 := Nat.le_trans Z0 Kq278.1
          clear Kq278
          have F_b277_held := nF278_b277_held
          clear nF278_b277_held
          have F_b277_count := nF278_b277_count
          clear nF278_b277_count
          have F_b277_next := nF278_b277_next
          clear nF278_b277_next
          have hXN : ∃ LL, Stand p l e room_1 s m #[(.int p1), (.int p2), (.int p3), (.int p4)] below meth c T278 LL 1 3 ∧ Fr n0 LL := ⟨_, X278, NF⟩
          clear X278 NF
          obtain ⟨LL279, X278, NF⟩ := hXN
          show WP p.tables e below _ T278 (mkF m 122 #[.val (.int p1), .val (.int p2), .val (.int p3), .val (.int p4), .val (.int (Int32.ofNat ia)), .val (.int (Int32.ofNat ib)), .val (.int (((p4.toUInt32 >>> ((3 : Int32) &&& 31).toUInt32).toInt32) &&& (3 : Int32))), .val (.int (Int32.ofNat iq)), .val (.int (1 : Int32)), .val (.int (1 : Int32)), .val (.int (1 : Int32)), .unset, .unset] [(.ref b277)])
          refine WP.st (T' := T278) (f' := (mkF m 128 #[.val (.int p1), .val (.int p2), .val (.int p3), .val (.int p4), .val (.int (Int32.ofNat ia)), .val (.int (Int32.ofNat ib)), .val (.int (((p4.toUInt32 >>> ((3 : Int32) &&& 31).toUInt32).toInt32) &&& (3 : Int32))), .val (.int (Int32.ofNat iq)), .val (.int (1 : Int32)), .val (.int (1 : Int32)), .val (.int (1 : Int32)), .val (.ref b277), .unset] [(.int (Int32.ofNat iq)), (.ref b277)])) (fun t k => ?_) ?_
          · refine XS.astore X278.here hx rfl (hb hby at_122) rfl rfl (l' := #[.val (.int p1), .val (.int p2), .val (.int p3), .val (.int p4), .val (.int (Int32.ofNat ia)), .val (.int (Int32.ofNat ib)), .val (.int (((p4.toUInt32 >>> ((3 : Int32) &&& 31).toUInt32).toInt32) &&& (3 : Int32))), .val (.int (Int32.ofNat iq)), .val (.int (1 : Int32)), .val (.int (1 : Int32)), .val (.int (1 : Int32)), .val (.ref b277), .unset]) rfl ?_
            refine XS.aload X278.here hx rfl (hb hby at_124) rfl rfl ?_
            refine XS.iload X278.here hx rfl (hb hby at_126) rfl ?_
            exact k
          obtain ⟨cq280, kq280, q280a, q280b, q280c⟩ := isOf hZ e278 E_b277
          obtain ⟨_, _, ⟨T280, L280, k280, n280⟩, -, X280, ⟨Lc280, hQ280, l280, y280, z280⟩, st280⟩ := X278.virtualBack hx (y := (⟨"com/example/otayori/otayori/codec/PacketIds", "isHeld", "(I)Z"⟩ : MethodName)) (z := (⟨"com/example/otayori/otayori/codec/PacketIds", "isHeld", "(I)Z"⟩ : MethodName)) hown (mvT hZ (w_17 hw)) (mvT hZ (w_18 hw)) (notFace_of_selects (args := #[]) (mvT hZ (w_20 hw))) (mvT hZ (w_20 hw)) (mvT hZ (w_19 hw)) (by decide) (backOf (W := 0) (rm4n l Z a0 hw [] b277 iq h278 n0 Z0 F_b277_held) hZ (w_21 hw) (w_8 hw) (by decide) (by decide)) q280a q280c (g := (mkF m 128 #[.val (.int p1), .val (.int p2), .val (.int p3), .val (.int p4), .val (.int (Int32.ofNat ia)), .val (.int (Int32.ofNat ib)), .val (.int (((p4.toUInt32 >>> ((3 : Int32) &&& 31).toUInt32).toInt32) &&& (3 : Int32))), .val (.int (Int32.ofNat iq)), .val (.int (1 : Int32)), .val (.int (1 : Int32)), .val (.int (1 : Int32)), .val (.ref b277), .unset] [(.int (Int32.ofNat iq)), (.ref b277)])) rfl (by rw [hml]; rfl) (Steps.refl _) (argsL := [(.int (Int32.ofNat iq))]) (rest := []) (lenOf pd_5 rfl) rfl (by show 2 * 0 + _ ≤ _; exact Nat.le_of_eq rfl) (hb hby at_128) (fun _ _ => ⟨rfl, e278, (by decide : 1 + 0 ≤ _), (by decide : 3 + 0 ≤ _)⟩)
          dsimp only [Pt.U, Pt.locs, Pt.cells, Pt.slots] at X280 l280 y280 z280 st280 hQ280
          subst l280 y280 z280
          obtain ⟨rfl, Nq280, Kq280⟩ := hQ280
          replace NF := Fr.app NF Nq280
          clear Nq280
          refine WP.tr st280 ?_
          clear st280
          replace Kq280 := Kq280.trans (rfl : h278 = h278)
          have hXN : ∃ LL, Stand p l e room_1 s m #[(.int p1), (.int p2), (.int p3), (.int p4)] below meth c T280 LL 1 3 ∧ Fr n0 LL := ⟨_, X280, NF⟩
          clear X280 NF
          obtain ⟨LL281, X280, NF⟩ := hXN
          show WP p.tables e below _ T280 (mkF m 131 #[.val (.int p1), .val (.int p2), .val (.int p3), .val (.int p4), .val (.int (Int32.ofNat ia)), .val (.int (Int32.ofNat ib)), .val (.int (((p4.toUInt32 >>> ((3 : Int32) &&& 31).toUInt32).toInt32) &&& (3 : Int32))), .val (.int (Int32.ofNat iq)), .val (.int (1 : Int32)), .val (.int (1 : Int32)), .val (.int (1 : Int32)), .val (.ref b277), .unset] [(.int (0 : Int32))])
          refine WP.st (T' := T280) (f' := (mkF m 145 #[.val (.int p1), .val (.int p2), .val (.int p3), .val (.int p4), .val (.int (Int32.ofNat ia)), .val (.int (Int32.ofNat ib)), .val (.int (((p4.toUInt32 >>> ((3 : Int32) &&& 31).toUInt32).toInt32) &&& (3 : Int32))), .val (.int (Int32.ofNat iq)), .val (.int (1 : Int32)), .val (.int (1 : Int32)), .val (.int (1 : Int32)), .val (.ref b277), .unset] [(.int (Int32.ofNat ia)), (.ref b277)])) (fun t k => ?_) ?_
          · refine XS.ifYes X280.here hx rfl (pc0 := 131) (pc' := 136) rfl (hb hby at_131) rfl ((if0 _ _).trans (teq (by decide : (0 : Int32) = (0 : Int32))).1) (by decide) (by decide) ?_
            refine XS.iload X280.here hx rfl (hb hby at_136) rfl ?_
            refine XS.ifNo X280.here hx rfl (hb hby at_138) rfl ((if0 _ _).trans (feq (by decide : ¬ ((1 : Int32) = (0 : Int32)))).1) ?_
            refine XS.aload X280.here hx rfl (hb hby at_141) rfl rfl ?_
            show Steps p.tables e below (T280.setTop (mkF m 143 #[.val (.int p1), .val (.int p2), .val (.int p3), .val (.int p4), .val (.int (Int32.ofNat ia)), .val (.int (Int32.ofNat ib)), .val (.int (((p4.toUInt32 >>> ((3 : Int32) &&& 31).toUInt32).toInt32) &&& (3 : Int32))), .val (.int (Int32.ofNat iq)), .val (.int (1 : Int32)), .val (.int (1 : Int32)), .val (.int (1 : Int32)), .val (.ref b277), .unset] [(.ref b277)])) t
            refine XS.iload X280.here hx rfl (hb hby at_143) rfl ?_
            exact k
          obtain ⟨cq282, kq282, q282a, q282b, q282c⟩ := isOf hZ Kq280 E_b277
          obtain ⟨_, _, ⟨T282, L282, k282, n282⟩, -, X282, ⟨Lc282, hQ282, l282, y282, z282⟩, st282⟩ := X280.virtualBack hx (y := (⟨"com/example/otayori/otayori/codec/PacketIds", "hold", "(I)Z"⟩ : MethodName)) (z := (⟨"com/example/otayori/otayori/codec/PacketIds", "hold", "(I)Z"⟩ : MethodName)) hown (mvT hZ (w_24 hw)) (mvT hZ (w_25 hw)) (notFace_of_selects (args := #[]) (mvT hZ (w_27 hw))) (mvT hZ (w_27 hw)) (mvT hZ (w_26 hw)) (by decide) (backOf (W := 0) (rm5n l Z a0 hw [] b277 (0 : Int32) (1 : Int32) ia h278 n0 Z0 E_b277 g_b277 F_b277_held F_b277_count F_b277_next (h_ia : ia ≤ 65535) OLD (O5 : Sta Z Z.heap "java/util/BitSet" "$assertionsDisabled" "Z" (.int (1 : Int32)))) hZ (w_28 hw) (w_8 hw) (by decide) (by decide)) q282a q282c (g := (mkF m 145 #[.val (.int p1), .val (.int p2), .val (.int p3), .val (.int p4), .val (.int (Int32.ofNat ia)), .val (.int (Int32.ofNat ib)), .val (.int (((p4.toUInt32 >>> ((3 : Int32) &&& 31).toUInt32).toInt32) &&& (3 : Int32))), .val (.int (Int32.ofNat iq)), .val (.int (1 : Int32)), .val (.int (1 : Int32)), .val (.int (1 : Int32)), .val (.ref b277), .unset] [(.int (Int32.ofNat ia)), (.ref b277)])) rfl (by rw [hml]; rfl) (Steps.refl _) (argsL := [(.int (Int32.ofNat ia))]) (rest := []) (lenOf pd_5 rfl) rfl (by show 2 * 0 + _ ≤ _; exact Nat.le_of_eq rfl) (hb hby at_145) (fun _ _ => ⟨rfl, Kq280, (by decide : 1 + 3 ≤ _), (by decide : 3 + 2052 ≤ _)⟩)
          dsimp only [Pt.U, Pt.locs, Pt.cells, Pt.slots] at X282 l282 y282 z282 st282 hQ282
          subst l282 y282 z282
          obtain ⟨bs_282, tw2_282, kw2_282, ws3_282, st2_282, u2_282, c2_282, rfl, Nq282, Kq282, nF282_b277_held, nF282_b277_count, nF282_b277_next, nE282_bs_282, nF282_bs_282_words, nF282_bs_282_wordsInUse, nF282_bs_282_sizeIsSticky, nA282_tw2_282, szq_bs_282, g_bs_282, szq_tw2_282, g_tw2_282, ne_bs_282_tw2_282, hinv3_282, hget3_282, hb3_282⟩ := hQ282
          replace NF := Fr.app NF Nq282
          clear Nq282
          refine WP.tr st282 ?_
          clear st282
          obtain ⟨h282, e282⟩ : ∃ h, T282.heap = h := ⟨_, rfl⟩
          rw [e282] at Kq282 nF282_b277_held nF282_b277_count nF282_b277_next nE282_bs_282 nF282_bs_282_words nF282_bs_282_wordsInUse nF282_bs_282_sizeIsSticky nA282_tw2_282
          have ne_b277_bs_282 : b277 ≠ bs_282 := Nat.ne_of_lt (Nat.lt_of_lt_of_le E_b277.lt szq_bs_282)
          have ne_b277_tw2_282 : b277 ≠ tw2_282 := Nat.ne_of_lt (Nat.lt_of_lt_of_le E_b277.lt szq_tw2_282)
          replace OLD := OLD.keep Kq282 (allS g_b277 all0)
          replace E_b277 := E_b277.keep Kq282
          clear F_b277_held
          clear F_b277_count
          clear F_b277_next
          replace Z0 := Nat.le_trans Z0 Kq282.1
          clear Kq282
          have F_b277_held := nF282_b277_held
          clear nF282_b277_held
          have F_b277_count := nF282_b277_count
          clear nF282_b277_count
          have F_b277_next := nF282_b277_next
          clear nF282_b277_next
          have E_bs_282 := nE282_bs_282
          clear nE282_bs_282
          have F_bs_282_words := nF282_bs_282_words
          clear nF282_bs_282_words
          have F_bs_282_wordsInUse := nF282_bs_282_wordsInUse
          clear nF282_bs_282_wordsInUse
          have F_bs_282_sizeIsSticky := nF282_bs_282_sizeIsSticky
          clear nF282_bs_282_sizeIsSticky
          have V_tw2_282 := nA282_tw2_282
          clear nA282_tw2_282
          have hXN : ∃ LL, Stand p l e room_1 s m #[(.int p1), (.int p2), (.int p3), (.int p4)] below meth c T282 LL 4 2055 ∧ Fr n0 LL := ⟨_, X282, NF⟩
          clear X282 NF
          obtain ⟨LL283, X282, NF⟩ := hXN
          show WP p.tables e below _ T282 (mkF m 148 #[.val (.int p1), .val (.int p2), .val (.int p3), .val (.int p4), .val (.int (Int32.ofNat ia)), .val (.int (Int32.ofNat ib)), .val (.int (((p4.toUInt32 >>> ((3 : Int32) &&& 31).toUInt32).toInt32) &&& (3 : Int32))), .val (.int (Int32.ofNat iq)), .val (.int (1 : Int32)), .val (.int (1 : Int32)), .val (.int (1 : Int32)), .val (.ref b277), .unset] [(.int (1 : Int32))])
          refine WP.st (T' := T282) (f' := (mkF m 158 #[.val (.int p1), .val (.int p2), .val (.int p3), .val (.int p4), .val (.int (Int32.ofNat ia)), .val (.int (Int32.ofNat ib)), .val (.int (((p4.toUInt32 >>> ((3 : Int32) &&& 31).toUInt32).toInt32) &&& (3 : Int32))), .val (.int (Int32.ofNat iq)), .val (.int (1 : Int32)), .val (.int (1 : Int32)), .val (.int (1 : Int32)), .val (.ref b277), .unset] [(.int (Int32.ofNat ib)), (.ref b277)])) (fun t k => ?_) ?_
          · refine XS.pop X282.here hx rfl (hb hby at_148) rfl rfl ?_
            refine XS.iload X282.here hx rfl (hb hby at_149) rfl ?_
            refine XS.ifNo X282.here hx rfl (hb hby at_151) rfl ((if0 _ _).trans (feq (by decide : ¬ ((1 : Int32) = (0 : Int32)))).1) ?_
            refine XS.aload X282.here hx rfl (hb hby at_154) rfl rfl ?_
            show Steps p.tables e below (T282.setTop (mkF m 156 #[.val (.int p1), .val (.int p2), .val (.int p3), .val (.int p4), .val (.int (Int32.ofNat ia)), .val (.int (Int32.ofNat ib)), .val (.int (((p4.toUInt32 >>> ((3 : Int32) &&& 31).toUInt32).toInt32) &&& (3 : Int32))), .val (.int (Int32.ofNat iq)), .val (.int (1 : Int32)), .val (.int (1 : Int32)), .val (.int (1 : Int32)), .val (.ref b277), .unset] [(.ref b277)])) t
            refine XS.iload X282.here hx rfl (hb hby at_156) rfl ?_
            exact k
          obtain ⟨cq284, kq284, q284a, q284b, q284c⟩ := isOf hZ e282 E_b277
          obtain ⟨_, _, ⟨T284, L284, k284, n284⟩, -, X284, ⟨Lc284, hQ284, l284, y284, z284⟩, st284⟩ := X282.virtualBack hx (y := (⟨"com/example/otayori/otayori/codec/PacketIds", "hold", "(I)Z"⟩ : MethodName)) (z := (⟨"com/example/otayori/otayori/codec/PacketIds", "hold", "(I)Z"⟩ : MethodName)) hown (mvT hZ (w_24 hw)) (mvT hZ (w_25 hw)) (notFace_of_selects (args := #[]) (mvT hZ (w_27 hw))) (mvT hZ (w_27 hw)) (mvT hZ (w_26 hw)) (by decide) (backOf (W := 0) (rm5y l Z a0 hw [] b277 c2_282 (1 : Int32) bs_282 tw2_282 kw2_282 ws3_282 u2_282 st2_282 ib h282 n0 Z0 E_b277 g_b277 F_b277_held F_b277_count F_b277_next E_bs_282 g_bs_282 F_bs_282_words F_bs_282_wordsInUse F_bs_282_sizeIsSticky V_tw2_282 g_tw2_282 ne_bs_282_tw2_282 (hinv3_282 : own_inv ws3_282 u2_282) (hb3_282 : ws3_282.length ≤ 1024) OLD (O5 : Sta Z Z.heap "java/util/BitSet" "$assertionsDisabled" "Z" (.int (1 : Int32))) (h_ib : ib ≤ 65535) ne_b277_bs_282 ne_b277_tw2_282) hZ (w_28 hw) (w_8 hw) (by decide) (by decide)) q284a q284c (g := (mkF m 158 #[.val (.int p1), .val (.int p2), .val (.int p3), .val (.int p4), .val (.int (Int32.ofNat ia)), .val (.int (Int32.ofNat ib)), .val (.int (((p4.toUInt32 >>> ((3 : Int32) &&& 31).toUInt32).toInt32) &&& (3 : Int32))), .val (.int (Int32.ofNat iq)), .val (.int (1 : Int32)), .val (.int (1 : Int32)), .val (.int (1 : Int32)), .val (.ref b277), .unset] [(.int (Int32.ofNat ib)), (.ref b277)])) rfl (by rw [hml]; rfl) (Steps.refl _) (argsL := [(.int (Int32.ofNat ib))]) (rest := []) (lenOf pd_5 rfl) rfl (by show 2 * 0 + _ ≤ _; exact Nat.le_of_eq rfl) (hb hby at_158) (fun _ _ => ⟨rfl, e282, (by decide : 4 + 1 ≤ _), (by decide : 2055 + 2048 ≤ _)⟩)
          dsimp only [Pt.U, Pt.locs, Pt.cells, Pt.slots] at X284 l284 y284 z284 st284 hQ284
          subst l284 y284 z284
          obtain ⟨r_284, tw2_284, kw2_284, ws3_284, st2_284, u2_284, c2_284, rfl, Nq284, Kq284, nF284_b277_held, nF284_b277_count, nF284_b277_next, nE284_bs_282, nF284_bs_282_words, nF284_bs_282_wordsInUse, nF284_bs_282_sizeIsSticky, nA284_tw2_284, g_tw2_284, ne_bs_282_tw2_284, or_tw2_284, hinv3_284, hget3_284, hb3_284⟩ := hQ284
          replace NF := Fr.app NF Nq284
          clear Nq284
          refine WP.tr st284 ?_
          clear st284
          obtain ⟨h284, e284⟩ : ∃ h, T284.heap = h := ⟨_, rfl⟩
          rw [e284] at Kq284 nF284_b277_held nF284_b277_count nF284_b277_next nE284_bs_282 nF284_bs_282_words nF284_bs_282_wordsInUse nF284_bs_282_sizeIsSticky nA284_tw2_284
          have ne_b277_tw2_284 : b277 ≠ tw2_284 := ownNeOr ne_b277_tw2_282 E_b277.lt or_tw2_284
          replace OLD := OLD.keep Kq284 (allS g_b277 (allS g_bs_282 (allS g_tw2_282 all0)))
          replace E_b277 := E_b277.keep Kq284
          clear F_b277_held
          clear F_b277_count
          clear F_b277_next
          replace E_bs_282 := E_bs_282.keep Kq284
          clear F_bs_282_words
          clear F_bs_282_wordsInUse
          clear F_bs_282_sizeIsSticky
          clear V_tw2_282
          replace Z0 := Nat.le_trans Z0 Kq284.1
          clear Kq284
          have F_b277_held := nF284_b277_held
          clear nF284_b277_held
          have F_b277_count := nF284_b277_count
          clear nF284_b277_count
          have F_b277_next := nF284_b277_next
          clear nF284_b277_next
          clear E_bs_282
          have E_bs_282 := nE284_bs_282
          clear nE284_bs_282
          have F_bs_282_words := nF284_bs_282_words
          clear nF284_bs_282_words
          have F_bs_282_wordsInUse := nF284_bs_282_wordsInUse
          clear nF284_bs_282_wordsInUse
          have F_bs_282_sizeIsSticky := nF284_bs_282_sizeIsSticky
          clear nF284_bs_282_sizeIsSticky
          have V_tw2_284 := nA284_tw2_284
          clear nA284_tw2_284
          have hXN : ∃ LL, Stand p l e room_1 s m #[(.int p1), (.int p2), (.int p3), (.int p4)] below meth c T284 LL 5 4103 ∧ Fr n0 LL := ⟨_, X284, NF⟩
          clear X284 NF
          obtain ⟨LL285, X284, NF⟩ := hXN
          show WP p.tables e below _ T284 (mkF m 161 #[.val (.int p1), .val (.int p2), .val (.int p3), .val (.int p4), .val (.int (Int32.ofNat ia)), .val (.int (Int32.ofNat ib)), .val (.int (((p4.toUInt32 >>> ((3 : Int32) &&& 31).toUInt32).toInt32) &&& (3 : Int32))), .val (.int (Int32.ofNat iq)), .val (.int (1 : Int32)), .val (.int (1 : Int32)), .val (.int (1 : Int32)), .val (.ref b277), .unset] [(.int r_284)])
          refine WP.st (T' := T284) (f' := (mkF m 171 #[.val (.int p1), .val (.int p2), .val (.int p3), .val (.int p4), .val (.int (Int32.ofNat ia)), .val (.int (Int32.ofNat ib)), .val (.int (((p4.toUInt32 >>> ((3 : Int32) &&& 31).toUInt32).toInt32) &&& (3 : Int32))), .val (.int (Int32.ofNat iq)), .val (.int (1 : Int32)), .val (.int (1 : Int32)), .val (.int (1 : Int32)), .val (.ref b277), .unset] [(.int (Int32.ofNat ia)), (.ref b277)])) (fun t k => ?_) ?_
          · refine XS.pop X284.here hx rfl (hb hby at_161) rfl rfl ?_
            refine XS.iload X284.here hx rfl (hb hby at_162) rfl ?_
            refine XS.ifNo X284.here hx rfl (hb hby at_164) rfl ((if0 _ _).trans (feq (by decide : ¬ ((1 : Int32) = (0 : Int32)))).1) ?_
            refine XS.aload X284.here hx rfl (hb hby at_167) rfl rfl ?_
            show Steps p.tables e below (T284.setTop (mkF m 169 #[.val (.int p1), .val (.int p2), .val (.int p3), .val (.int p4), .val (.int (Int32.ofNat ia)), .val (.int (Int32.ofNat ib)), .val (.int (((p4.toUInt32 >>> ((3 : Int32) &&& 31).toUInt32).toInt32) &&& (3 : Int32))), .val (.int (Int32.ofNat iq)), .val (.int (1 : Int32)), .val (.int (1 : Int32)), .val (.int (1 : Int32)), .val (.ref b277), .unset] [(.ref b277)])) t
            refine XS.iload X284.here hx rfl (hb hby at_169) rfl ?_
            exact k
          obtain ⟨cq286, kq286, q286a, q286b, q286c⟩ := isOf hZ e284 E_b277
          obtain ⟨_, _, ⟨T286, L286, k286, n286⟩, -, X286, ⟨Lc286, hQ286, l286, y286, z286⟩, st286⟩ := X284.virtualBack hx (y := (⟨"com/example/otayori/otayori/codec/PacketIds", "release", "(I)Z"⟩ : MethodName)) (z := (⟨"com/example/otayori/otayori/codec/PacketIds", "release", "(I)Z"⟩ : MethodName)) hown (mvT hZ (w_99 hw)) (mvT hZ (w_100 hw)) (notFace_of_selects (args := #[]) (mvT hZ (w_102 hw))) (mvT hZ (w_102 hw)) (mvT hZ (w_101 hw)) (by decide) (backOf (W := 0) (rm18y l Z a0 hw [] b277 c2_284 (1 : Int32) bs_282 tw2_284 kw2_284 ws3_284 u2_284 st2_284 ia h284 n0 Z0 E_b277 g_b277 F_b277_held F_b277_count F_b277_next E_bs_282 g_bs_282 F_bs_282_words F_bs_282_wordsInUse F_bs_282_sizeIsSticky V_tw2_284 g_tw2_284 ne_bs_282_tw2_284 (hinv3_284 : own_inv ws3_284 u2_284) (hb3_284 : ws3_284.length ≤ 2048) OLD (O5 : Sta Z Z.heap "java/util/BitSet" "$assertionsDisabled" "Z" (.int (1 : Int32))) (h_ia : ia ≤ 65535) ne_b277_bs_282 ne_b277_tw2_284) hZ (w_103 hw) (w_8 hw) (by decide) (by decide)) q286a q286c (g := (mkF m 171 #[.val (.int p1), .val (.int p2), .val (.int p3), .val (.int p4), .val (.int (Int32.ofNat ia)), .val (.int (Int32.ofNat ib)), .val (.int (((p4.toUInt32 >>> ((3 : Int32) &&& 31).toUInt32).toInt32) &&& (3 : Int32))), .val (.int (Int32.ofNat iq)), .val (.int (1 : Int32)), .val (.int (1 : Int32)), .val (.int (1 : Int32)), .val (.ref b277), .unset] [(.int (Int32.ofNat ia)), (.ref b277)])) rfl (by rw [hml]; rfl) (Steps.refl _) (argsL := [(.int (Int32.ofNat ia))]) (rest := []) (lenOf pd_5 rfl) rfl (by show 2 * 0 + _ ≤ _; exact Nat.le_of_eq rfl) (hb hby at_171) (fun _ _ => ⟨rfl, e284, (by decide : 5 + 0 ≤ _), (by decide : 4103 + 0 ≤ _)⟩)
          dsimp only [Pt.U, Pt.locs, Pt.cells, Pt.slots] at X286 l286 y286 z286 st286 hQ286
          subst l286 y286 z286
          obtain ⟨r_286, ws3_286, u2_286, c2_286, rfl, Nq286, Kq286, nF286_b277_held, nF286_b277_count, nF286_b277_next, nE286_bs_282, nF286_bs_282_words, nF286_bs_282_wordsInUse, nF286_bs_282_sizeIsSticky, nA286_tw2_284, hinv3_286, hget3_286, hb3_286⟩ := hQ286
          replace NF := Fr.app NF Nq286
          clear Nq286
          refine WP.tr st286 ?_
          clear st286
          obtain ⟨h286, e286⟩ : ∃ h, T286.heap = h := ⟨_, rfl⟩
          rw [e286] at Kq286 nF286_b277_held nF286_b277_count nF286_b277_next nE286_bs_282 nF286_bs_282_words nF286_bs_282_wordsInUse nF286_bs_282_sizeIsSticky nA286_tw2_284
          replace OLD := OLD.keep Kq286 (allS g_b277 (allS g_bs_282 (allS g_tw2_284 all0)))
          replace E_b277 := E_b277.keep Kq286
          replace E_bs_282 := E_bs_282.keep Kq286
          clear F_b277_held
          clear F_b277_count
          clear F_b277_next
          clear F_bs_282_words
          clear F_bs_282_wordsInUse
          clear F_bs_282_sizeIsSticky
          clear V_tw2_284
          replace Z0 := Nat.le_trans Z0 Kq286.1
          clear Kq286
          have F_b277_held := nF286_b277_held
          clear nF286_b277_held
          have F_b277_count := nF286_b277_count
          clear nF286_b277_count
          have F_b277_next := nF286_b277_next
          clear nF286_b277_next
          clear E_bs_282
          have E_bs_282 := nE286_bs_282
          clear nE286_bs_282
          have F_bs_282_words := nF286_bs_282_words
          clear nF286_bs_282_words
          have F_bs_282_wordsInUse := nF286_bs_282_wordsInUse
          clear nF286_bs_282_wordsInUse
          have F_bs_282_sizeIsSticky := nF286_bs_282_sizeIsSticky
          clear nF286_bs_282_sizeIsSticky
          have V_tw2_284 := nA286_tw2_284
          clear nA286_tw2_284
          have hXN : ∃ LL, Stand p l e room_1 s m #[(.int p1), (.int p2), (.int p3), (.int p4)] below meth c T286 LL 5 4103 ∧ Fr n0 LL := ⟨_, X286, NF⟩
          clear X286 NF
          obtain ⟨LL287, X286, NF⟩ := hXN
          show WP p.tables e below _ T286 (mkF m 174 #[.val (.int p1), .val (.int p2), .val (.int p3), .val (.int p4), .val (.int (Int32.ofNat ia)), .val (.int (Int32.ofNat ib)), .val (.int (((p4.toUInt32 >>> ((3 : Int32) &&& 31).toUInt32).toInt32) &&& (3 : Int32))), .val (.int (Int32.ofNat iq)), .val (.int (1 : Int32)), .val (.int (1 : Int32)), .val (.int (1 : Int32)), .val (.ref b277), .unset] [(.int r_286)])
          refine WP.st (T' := T286) (f' := (mkF m 175 #[.val (.int p1), .val (.int p2), .val (.int p3), .val (.int p4), .val (.int (Int32.ofNat ia)), .val (.int (Int32.ofNat ib)), .val (.int (((p4.toUInt32 >>> ((3 : Int32) &&& 31).toUInt32).toInt32) &&& (3 : Int32))), .val (.int (Int32.ofNat iq)), .val (.int (1 : Int32)), .val (.int (1 : Int32)), .val (.int (1 : Int32)), .val (.ref b277), .unset] [])) (fun t k => ?_) ?_
          · refine XS.pop X286.here hx rfl (hb hby at_174) rfl rfl ?_
            exact k
          by_cases hc288 : (Int32.ofNat iq) = (Int32.ofNat ia)
          · skip
            by_cases hc289 : (Int32.ofNat iq) = (Int32.ofNat ib)
            · skip
              have n_ia : iq = ia := (own_eq (Nat.lt_of_le_of_lt h_iq (by decide)) (Nat.lt_of_le_of_lt h_ia (by decide))).1 hc288
              have n_ib : iq = ib := (own_eq (Nat.lt_of_le_of_lt h_iq (by decide)) (Nat.lt_of_le_of_lt h_ib (by decide))).1 hc289
              refine WP.st (T' := T286) (f' := (mkF m 222 #[.val (.int p1), .val (.int p2), .val (.int p3), .val (.int p4), .val (.int (Int32.ofNat ia)), .val (.int (Int32.ofNat ib)), .val (.int (((p4.toUInt32 >>> ((3 : Int32) &&& 31).toUInt32).toInt32) &&& (3 : Int32))), .val (.int (Int32.ofNat iq)), .val (.int (1 : Int32)), .val (.int (1 : Int32)), .val (.int (1 : Int32)), .val (.ref b277), .val (.int (0 : Int32))] [(.int (Int32.ofNat iq)), (.ref b277)])) (fun t k => ?_) ?_
              · refine XS.iload X286.here hx rfl (hb hby at_175) rfl ?_
                refine XS.ifNo X286.here hx rfl (hb hby at_177) rfl ((if0 _ _).trans (feq (by decide : ¬ ((1 : Int32) = (0 : Int32)))).1) ?_
                refine XS.iload X286.here hx rfl (hb hby at_180) rfl ?_
                refine XS.iload X286.here hx rfl (hb hby at_182) rfl ?_
                show Steps p.tables e below (T286.setTop (mkF m 184 #[.val (.int p1), .val (.int p2), .val (.int p3), .val (.int p4), .val (.int (Int32.ofNat ia)), .val (.int (Int32.ofNat ib)), .val (.int (((p4.toUInt32 >>> ((3 : Int32) &&& 31).toUInt32).toInt32) &&& (3 : Int32))), .val (.int (Int32.ofNat iq)), .val (.int (1 : Int32)), .val (.int (1 : Int32)), .val (.int (1 : Int32)), .val (.ref b277), .unset] [(.int (Int32.ofNat ia)), (.int (Int32.ofNat iq))])) t
                refine XS.icmpYes X286.here hx rfl (pc0 := 184) (pc' := 199) rfl (hb hby at_184) rfl (teq hc288).1 (by decide) (by decide) ?_
                refine XS.iload X286.here hx rfl (hb hby at_199) rfl ?_
                refine XS.ifNo X286.here hx rfl (hb hby at_201) rfl ((if0 _ _).trans (feq (by decide : ¬ ((1 : Int32) = (0 : Int32)))).1) ?_
                refine XS.iload X286.here hx rfl (hb hby at_204) rfl ?_
                show Steps p.tables e below (T286.setTop (mkF m 206 #[.val (.int p1), .val (.int p2), .val (.int p3), .val (.int p4), .val (.int (Int32.ofNat ia)), .val (.int (Int32.ofNat ib)), .val (.int (((p4.toUInt32 >>> ((3 : Int32) &&& 31).toUInt32).toInt32) &&& (3 : Int32))), .val (.int (Int32.ofNat iq)), .val (.int (1 : Int32)), .val (.int (1 : Int32)), .val (.int (1 : Int32)), .val (.ref b277), .unset] [(.int (Int32.ofNat iq))])) t
                refine XS.iload X286.here hx rfl (hb hby at_206) rfl ?_
                refine XS.icmpYes X286.here hx rfl (pc0 := 208) (pc' := 215) rfl (hb hby at_208) rfl (teq hc288).1 (by decide) (by decide) ?_
                refine XS.iconst X286.here hx rfl (hb hby at_215) ?_
                refine XS.istore X286.here hx rfl (hb hby at_216) rfl (l' := #[.val (.int p1), .val (.int p2), .val (.int p3), .val (.int p4), .val (.int (Int32.ofNat ia)), .val (.int (Int32.ofNat ib)), .val (.int (((p4.toUInt32 >>> ((3 : Int32) &&& 31).toUInt32).toInt32) &&& (3 : Int32))), .val (.int (Int32.ofNat iq)), .val (.int (1 : Int32)), .val (.int (1 : Int32)), .val (.int (1 : Int32)), .val (.ref b277), .val (.int (0 : Int32))]) rfl ?_
                show Steps p.tables e below (T286.setTop (mkF m 218 #[.val (.int p1), .val (.int p2), .val (.int p3), .val (.int p4), .val (.int (Int32.ofNat ia)), .val (.int (Int32.ofNat ib)), .val (.int (((p4.toUInt32 >>> ((3 : Int32) &&& 31).toUInt32).toInt32) &&& (3 : Int32))), .val (.int (Int32.ofNat iq)), .val (.int (1 : Int32)), .val (.int (1 : Int32)), .val (.int (1 : Int32)), .val (.ref b277), .val (.int (0 : Int32))] [])) t
                refine XS.aload X286.here hx rfl (hb hby at_218) rfl rfl ?_
                refine XS.iload X286.here hx rfl (hb hby at_220) rfl ?_
                exact k
              obtain ⟨cq290, kq290, q290a, q290b, q290c⟩ := isOf hZ e286 E_b277
              obtain ⟨_, _, ⟨T290, L290, k290, n290⟩, -, X290, ⟨Lc290, hQ290, l290, y290, z290⟩, st290⟩ := X286.virtualBack hx (y := (⟨"com/example/otayori/otayori/codec/PacketIds", "isHeld", "(I)Z"⟩ : MethodName)) (z := (⟨"com/example/otayori/otayori/codec/PacketIds", "isHeld", "(I)Z"⟩ : MethodName)) hown (mvT hZ (w_17 hw)) (mvT hZ (w_18 hw)) (notFace_of_selects (args := #[]) (mvT hZ (w_20 hw))) (mvT hZ (w_20 hw)) (mvT hZ (w_19 hw)) (by decide) (backOf (W := 0) (rm4y l Z a0 hw [] b277 bs_282 tw2_284 kw2_284 ws3_286 u2_286 st2_284 iq h286 n0 Z0 F_b277_held E_bs_282 g_bs_282 F_bs_282_words F_bs_282_wordsInUse F_bs_282_sizeIsSticky V_tw2_284 g_tw2_284 ne_bs_282_tw2_284 (hinv3_286 : own_inv ws3_286 u2_286) (hb3_286 : ws3_286.length ≤ 2048) OLD (O5 : Sta Z Z.heap "java/util/BitSet" "$assertionsDisabled" "Z" (.int (1 : Int32))) (h_iq : iq ≤ 65535)) hZ (w_21 hw) (w_8 hw) (by decide) (by decide)) q290a q290c (g := (mkF m 222 #[.val (.int p1), .val (.int p2), .val (.int p3), .val (.int p4), .val (.int (Int32.ofNat ia)), .val (.int (Int32.ofNat ib)), .val (.int (((p4.toUInt32 >>> ((3 : Int32) &&& 31).toUInt32).toInt32) &&& (3 : Int32))), .val (.int (Int32.ofNat iq)), .val (.int (1 : Int32)), .val (.int (1 : Int32)), .val (.int (1 : Int32)), .val (.ref b277), .val (.int (0 : Int32))] [(.int (Int32.ofNat iq)), (.ref b277)])) rfl (by rw [hml]; rfl) (Steps.refl _) (argsL := [(.int (Int32.ofNat iq))]) (rest := []) (lenOf pd_5 rfl) rfl (by show 2 * 0 + _ ≤ _; exact Nat.le_of_eq rfl) (hb hby at_222) (fun _ _ => ⟨rfl, e286, (by decide : 5 + 0 ≤ _), (by decide : 4103 + 0 ≤ _)⟩)
              dsimp only [Pt.U, Pt.locs, Pt.cells, Pt.slots] at X290 l290 y290 z290 st290 hQ290
              subst l290 y290 z290
              obtain ⟨rfl, Nq290, Kq290⟩ := hQ290
              replace NF := Fr.app NF Nq290
              clear Nq290
              refine WP.tr st290 ?_
              clear st290
              replace Kq290 := Kq290.trans (rfl : h286 = h286)
              have hXN : ∃ LL, Stand p l e room_1 s m #[(.int p1), (.int p2), (.int p3), (.int p4)] below meth c T290 LL 5 4103 ∧ Fr n0 LL := ⟨_, X290, NF⟩
              clear X290 NF
              obtain ⟨LL291, X290, NF⟩ := hXN
              show WP p.tables e below _ T290 (mkF m 225 #[.val (.int p1), .val (.int p2), .val (.int p3), .val (.int p4), .val (.int (Int32.ofNat ia)), .val (.int (Int32.ofNat ib)), .val (.int (((p4.toUInt32 >>> ((3 : Int32) &&& 31).toUInt32).toInt32) &&& (3 : Int32))), .val (.int (Int32.ofNat iq)), .val (.int (1 : Int32)), .val (.int (1 : Int32)), .val (.int (1 : Int32)), .val (.ref b277), .val (.int (0 : Int32))] [(.int (own_get ws3_286 iq))])
              rw [show (own_get ws3_286 iq) = (0 : Int32) from by rw [hget3_286 iq h_iq, hget3_284 iq h_iq, hget3_282 iq h_iq]; (repeat' split) <;> first | rfl | (exfalso; omega)]
              show WP p.tables e below _ T290 (mkF m 225 #[.val (.int p1), .val (.int p2), .val (.int p3), .val (.int p4), .val (.int (Int32.ofNat ia)), .val (.int (Int32.ofNat ib)), .val (.int (((p4.toUInt32 >>> ((3 : Int32) &&& 31).toUInt32).toInt32) &&& (3 : Int32))), .val (.int (Int32.ofNat iq)), .val (.int (1 : Int32)), .val (.int (1 : Int32)), .val (.int (1 : Int32)), .val (.ref b277), .val (.int (0 : Int32))] [(.int (0 : Int32))])
              refine WP.st (T' := T290) (f' := (mkF m 235 #[.val (.int p1), .val (.int p2), .val (.int p3), .val (.int p4), .val (.int (Int32.ofNat ia)), .val (.int (Int32.ofNat ib)), .val (.int (((p4.toUInt32 >>> ((3 : Int32) &&& 31).toUInt32).toInt32) &&& (3 : Int32))), .val (.int (Int32.ofNat iq)), .val (.int (1 : Int32)), .val (.int (1 : Int32)), .val (.int (1 : Int32)), .val (.ref b277), .val (.int (0 : Int32))] [(.int (1 : Int32))])) (fun t k => ?_) ?_
              · refine XS.iload X290.here hx rfl (hb hby at_225) rfl ?_
                refine XS.icmpNo X290.here hx rfl (hb hby at_227) rfl (teq (by decide : (0 : Int32) = (0 : Int32))).2 ?_
                refine XS.iconst X290.here hx rfl (hb hby at_230) ?_
                refine XS.goto X290.here hx rfl (pc0 := 231) (pc' := 235) rfl (hb hby at_231) (by decide) (by decide) ?_
                exact k
              subst hG
              obtain ⟨fs, hr, hrun, hended, hW, hsame⟩ := X290.leave (v := some (.int (1 : Int32))) (fun h => by rw [Bd.returns] at h; cases h)
              refine WP.fin ⟨_, _, ?_, hrun, hended, _, _, rfl, ?_, ⟨_, rfl⟩, hW, hsame.mono (by decide) (by decide)⟩
              · exact retN X290 hx (t := .boolean) Bd.returns (by simp) (hb hby at_235) hr
              · show Q0 Z p1 p2 p3 p4 h0 n0 _ T290.heap _
                rw [Kq290]
                exact ⟨rfl, NF⟩
            · skip
              have n_ia : iq = ia := (own_eq (Nat.lt_of_le_of_lt h_iq (by decide)) (Nat.lt_of_le_of_lt h_ia (by decide))).1 hc288
              have n_ib : ¬ iq = ib := fun q => hc289 (congrArg Int32.ofNat q)
              refine WP.st (T' := T286) (f' := (mkF m 222 #[.val (.int p1), .val (.int p2), .val (.int p3), .val (.int p4), .val (.int (Int32.ofNat ia)), .val (.int (Int32.ofNat ib)), .val (.int (((p4.toUInt32 >>> ((3 : Int32) &&& 31).toUInt32).toInt32) &&& (3 : Int32))), .val (.int (Int32.ofNat iq)), .val (.int (1 : Int32)), .val (.int (1 : Int32)), .val (.int (1 : Int32)), .val (.ref b277), .val (.int (0 : Int32))] [(.int (Int32.ofNat iq)), (.ref b277)])) (fun t k => ?_) ?_
              · refine XS.iload X286.here hx rfl (hb hby at_175) rfl ?_
                refine XS.ifNo X286.here hx rfl (hb hby at_177) rfl ((if0 _ _).trans (feq (by decide : ¬ ((1 : Int32) = (0 : Int32)))).1) ?_
                refine XS.iload X286.here hx rfl (hb hby at_180) rfl ?_
                refine XS.iload X286.here hx rfl (hb hby at_182) rfl ?_
                show Steps p.tables e below (T286.setTop (mkF m 184 #[.val (.int p1), .val (.int p2), .val (.int p3), .val (.int p4), .val (.int (Int32.ofNat ia)), .val (.int (Int32.ofNat ib)), .val (.int (((p4.toUInt32 >>> ((3 : Int32) &&& 31).toUInt32).toInt32) &&& (3 : Int32))), .val (.int (Int32.ofNat iq)), .val (.int (1 : Int32)), .val (.int (1 : Int32)), .val (.int (1 : Int32)), .val (.ref b277), .unset] [(.int (Int32.ofNat ia)), (.int (Int32.ofNat iq))])) t
                refine XS.icmpYes X286.here hx rfl (pc0 := 184) (pc' := 199) rfl (hb hby at_184) rfl (teq hc288).1 (by decide) (by decide) ?_
                refine XS.iload X286.here hx rfl (hb hby at_199) rfl ?_
                refine XS.ifNo X286.here hx rfl (hb hby at_201) rfl ((if0 _ _).trans (feq (by decide : ¬ ((1 : Int32) = (0 : Int32)))).1) ?_
                refine XS.iload X286.here hx rfl (hb hby at_204) rfl ?_
                show Steps p.tables e below (T286.setTop (mkF m 206 #[.val (.int p1), .val (.int p2), .val (.int p3), .val (.int p4), .val (.int (Int32.ofNat ia)), .val (.int (Int32.ofNat ib)), .val (.int (((p4.toUInt32 >>> ((3 : Int32) &&& 31).toUInt32).toInt32) &&& (3 : Int32))), .val (.int (Int32.ofNat iq)), .val (.int (1 : Int32)), .val (.int (1 : Int32)), .val (.int (1 : Int32)), .val (.ref b277), .unset] [(.int (Int32.ofNat iq))])) t
                refine XS.iload X286.here hx rfl (hb hby at_206) rfl ?_
                refine XS.icmpYes X286.here hx rfl (pc0 := 208) (pc' := 215) rfl (hb hby at_208) rfl (teq hc288).1 (by decide) (by decide) ?_
                refine XS.iconst X286.here hx rfl (hb hby at_215) ?_
                refine XS.istore X286.here hx rfl (hb hby at_216) rfl (l' := #[.val (.int p1), .val (.int p2), .val (.int p3), .val (.int p4), .val (.int (Int32.ofNat ia)), .val (.int (Int32.ofNat ib)), .val (.int (((p4.toUInt32 >>> ((3 : Int32) &&& 31).toUInt32).toInt32) &&& (3 : Int32))), .val (.int (Int32.ofNat iq)), .val (.int (1 : Int32)), .val (.int (1 : Int32)), .val (.int (1 : Int32)), .val (.ref b277), .val (.int (0 : Int32))]) rfl ?_
                show Steps p.tables e below (T286.setTop (mkF m 218 #[.val (.int p1), .val (.int p2), .val (.int p3), .val (.int p4), .val (.int (Int32.ofNat ia)), .val (.int (Int32.ofNat ib)), .val (.int (((p4.toUInt32 >>> ((3 : Int32) &&& 31).toUInt32).toInt32) &&& (3 : Int32))), .val (.int (Int32.ofNat iq)), .val (.int (1 : Int32)), .val (.int (1 : Int32)), .val (.int (1 : Int32)), .val (.ref b277), .val (.int (0 : Int32))] [])) t
                refine XS.aload X286.here hx rfl (hb hby at_218) rfl rfl ?_
                refine XS.iload X286.here hx rfl (hb hby at_220) rfl ?_
                exact k
              obtain ⟨cq292, kq292, q292a, q292b, q292c⟩ := isOf hZ e286 E_b277
              obtain ⟨_, _, ⟨T292, L292, k292, n292⟩, -, X292, ⟨Lc292, hQ292, l292, y292, z292⟩, st292⟩ := X286.virtualBack hx (y := (⟨"com/example/otayori/otayori/codec/PacketIds", "isHeld", "(I)Z"⟩ : MethodName)) (z := (⟨"com/example/otayori/otayori/codec/PacketIds", "isHeld", "(I)Z"⟩ : MethodName)) hown (mvT hZ (w_17 hw)) (mvT hZ (w_18 hw)) (notFace_of_selects (args := #[]) (mvT hZ (w_20 hw))) (mvT hZ (w_20 hw)) (mvT hZ (w_19 hw)) (by decide) (backOf (W := 0) (rm4y l Z a0 hw [] b277 bs_282 tw2_284 kw2_284 ws3_286 u2_286 st2_284 iq h286 n0 Z0 F_b277_held E_bs_282 g_bs_282 F_bs_282_words F_bs_282_wordsInUse F_bs_282_sizeIsSticky V_tw2_284 g_tw2_284 ne_bs_282_tw2_284 (hinv3_286 : own_inv ws3_286 u2_286) (hb3_286 : ws3_286.length ≤ 2048) OLD (O5 : Sta Z Z.heap "java/util/BitSet" "$assertionsDisabled" "Z" (.int (1 : Int32))) (h_iq : iq ≤ 65535)) hZ (w_21 hw) (w_8 hw) (by decide) (by decide)) q292a q292c (g := (mkF m 222 #[.val (.int p1), .val (.int p2), .val (.int p3), .val (.int p4), .val (.int (Int32.ofNat ia)), .val (.int (Int32.ofNat ib)), .val (.int (((p4.toUInt32 >>> ((3 : Int32) &&& 31).toUInt32).toInt32) &&& (3 : Int32))), .val (.int (Int32.ofNat iq)), .val (.int (1 : Int32)), .val (.int (1 : Int32)), .val (.int (1 : Int32)), .val (.ref b277), .val (.int (0 : Int32))] [(.int (Int32.ofNat iq)), (.ref b277)])) rfl (by rw [hml]; rfl) (Steps.refl _) (argsL := [(.int (Int32.ofNat iq))]) (rest := []) (lenOf pd_5 rfl) rfl (by show 2 * 0 + _ ≤ _; exact Nat.le_of_eq rfl) (hb hby at_222) (fun _ _ => ⟨rfl, e286, (by decide : 5 + 0 ≤ _), (by decide : 4103 + 0 ≤ _)⟩)
              dsimp only [Pt.U, Pt.locs, Pt.cells, Pt.slots] at X292 l292 y292 z292 st292 hQ292
              subst l292 y292 z292
              obtain ⟨rfl, Nq292, Kq292⟩ := hQ292
              replace NF := Fr.app NF Nq292
              clear Nq292
              refine WP.tr st292 ?_
              clear st292
              replace Kq292 := Kq292.trans (rfl : h286 = h286)
              have hXN : ∃ LL, Stand p l e room_1 s m #[(.int p1), (.int p2), (.int p3), (.int p4)] below meth c T292 LL 5 4103 ∧ Fr n0 LL := ⟨_, X292, NF⟩
              clear X292 NF
              obtain ⟨LL293, X292, NF⟩ := hXN
              show WP p.tables e below _ T292 (mkF m 225 #[.val (.int p1), .val (.int p2), .val (.int p3), .val (.int p4), .val (.int (Int32.ofNat ia)), .val (.int (Int32.ofNat ib)), .val (.int (((p4.toUInt32 >>> ((3 : Int32) &&& 31).toUInt32).toInt32) &&& (3 : Int32))), .val (.int (Int32.ofNat iq)), .val (.int (1 : Int32)), .val (.int (1 : Int32)), .val (.int (1 : Int32)), .val (.ref b277), .val (.int (0 : Int32))] [(.int (own_get ws3_286 iq))])
              rw [show (own_get ws3_286 iq) = (0 : Int32) from by rw [hget3_286 iq h_iq, hget3_284 iq h_iq, hget3_282 iq h_iq]; (repeat' split) <;> first | rfl | (exfalso; omega)]
              show WP p.tables e below _ T292 (mkF m 225 #[.val (.int p1), .val (.int p2), .val (.int p3), .val (.int p4), .val (.int (Int32.ofNat ia)), .val (.int (Int32.ofNat ib)), .val (.int (((p4.toUInt32 >>> ((3 : Int32) &&& 31).toUInt32).toInt32) &&& (3 : Int32))), .val (.int (Int32.ofNat iq)), .val (.int (1 : Int32)), .val (.int (1 : Int32)), .val (.int (1 : Int32)), .val (.ref b277), .val (.int (0 : Int32))] [(.int (0 : Int32))])
              refine WP.st (T' := T292) (f' := (mkF m 235 #[.val (.int p1), .val (.int p2), .val (.int p3), .val (.int p4), .val (.int (Int32.ofNat ia)), .val (.int (Int32.ofNat ib)), .val (.int (((p4.toUInt32 >>> ((3 : Int32) &&& 31).toUInt32).toInt32) &&& (3 : Int32))), .val (.int (Int32.ofNat iq)), .val (.int (1 : Int32)), .val (.int (1 : Int32)), .val (.int (1 : Int32)), .val (.ref b277), .val (.int (0 : Int32))] [(.int (1 : Int32))])) (fun t k => ?_) ?_
              · refine XS.iload X292.here hx rfl (hb hby at_225) rfl ?_
                refine XS.icmpNo X292.here hx rfl (hb hby at_227) rfl (teq (by decide : (0 : Int32) = (0 : Int32))).2 ?_
                refine XS.iconst X292.here hx rfl (hb hby at_230) ?_
                refine XS.goto X292.here hx rfl (pc0 := 231) (pc' := 235) rfl (hb hby at_231) (by decide) (by decide) ?_
                exact k
              subst hG
              obtain ⟨fs, hr, hrun, hended, hW, hsame⟩ := X292.leave (v := some (.int (1 : Int32))) (fun h => by rw [Bd.returns] at h; cases h)
              refine WP.fin ⟨_, _, ?_, hrun, hended, _, _, rfl, ?_, ⟨_, rfl⟩, hW, hsame.mono (by decide) (by decide)⟩
              · exact retN X292 hx (t := .boolean) Bd.returns (by simp) (hb hby at_235) hr
              · show Q0 Z p1 p2 p3 p4 h0 n0 _ T292.heap _
                rw [Kq292]
                exact ⟨rfl, NF⟩
          · skip
            by_cases hc294 : (Int32.ofNat iq) = (Int32.ofNat ib)
            · skip
              have n_ia : ¬ iq = ia := fun q => hc288 (congrArg Int32.ofNat q)
              have n_ib : iq = ib := (own_eq (Nat.lt_of_le_of_lt h_iq (by decide)) (Nat.lt_of_le_of_lt h_ib (by decide))).1 hc294
              refine WP.st (T' := T286) (f' := (mkF m 222 #[.val (.int p1), .val (.int p2), .val (.int p3), .val (.int p4), .val (.int (Int32.ofNat ia)), .val (.int (Int32.ofNat ib)), .val (.int (((p4.toUInt32 >>> ((3 : Int32) &&& 31).toUInt32).toInt32) &&& (3 : Int32))), .val (.int (Int32.ofNat iq)), .val (.int (1 : Int32)), .val (.int (1 : Int32)), .val (.int (1 : Int32)), .val (.ref b277), .val (.int (1 : Int32))] [(.int (Int32.ofNat iq)), (.ref b277)])) (fun t k => ?_) ?_
              · refine XS.iload X286.here hx rfl (hb hby at_175) rfl ?_
                refine XS.ifNo X286.here hx rfl (hb hby at_177) rfl ((if0 _ _).trans (feq (by decide : ¬ ((1 : Int32) = (0 : Int32)))).1) ?_
                refine XS.iload X286.here hx rfl (hb hby at_180) rfl ?_
                refine XS.iload X286.here hx rfl (hb hby at_182) rfl ?_
                show Steps p.tables e below (T286.setTop (mkF m 184 #[.val (.int p1), .val (.int p2), .val (.int p3), .val (.int p4), .val (.int (Int32.ofNat ia)), .val (.int (Int32.ofNat ib)), .val (.int (((p4.toUInt32 >>> ((3 : Int32) &&& 31).toUInt32).toInt32) &&& (3 : Int32))), .val (.int (Int32.ofNat iq)), .val (.int (1 : Int32)), .val (.int (1 : Int32)), .val (.int (1 : Int32)), .val (.ref b277), .unset] [(.int (Int32.ofNat ia)), (.int (Int32.ofNat iq))])) t
                refine XS.icmpNo X286.here hx rfl (hb hby at_184) rfl (feq hc288).1 ?_
                refine XS.iload X286.here hx rfl (hb hby at_187) rfl ?_
                refine XS.ifNo X286.here hx rfl (hb hby at_189) rfl ((if0 _ _).trans (feq (by decide : ¬ ((1 : Int32) = (0 : Int32)))).1) ?_
                refine XS.iload X286.here hx rfl (hb hby at_192) rfl ?_
                show Steps p.tables e below (T286.setTop (mkF m 194 #[.val (.int p1), .val (.int p2), .val (.int p3), .val (.int p4), .val (.int (Int32.ofNat ia)), .val (.int (Int32.ofNat ib)), .val (.int (((p4.toUInt32 >>> ((3 : Int32) &&& 31).toUInt32).toInt32) &&& (3 : Int32))), .val (.int (Int32.ofNat iq)), .val (.int (1 : Int32)), .val (.int (1 : Int32)), .val (.int (1 : Int32)), .val (.ref b277), .unset] [(.int (Int32.ofNat iq))])) t
                refine XS.iload X286.here hx rfl (hb hby at_194) rfl ?_
                refine XS.icmpNo X286.here hx rfl (hb hby at_196) rfl (teq hc294).2 ?_
                refine XS.iload X286.here hx rfl (hb hby at_199) rfl ?_
                refine XS.ifNo X286.here hx rfl (hb hby at_201) rfl ((if0 _ _).trans (feq (by decide : ¬ ((1 : Int32) = (0 : Int32)))).1) ?_
                show Steps p.tables e below (T286.setTop (mkF m 204 #[.val (.int p1), .val (.int p2), .val (.int p3), .val (.int p4), .val (.int (Int32.ofNat ia)), .val (.int (Int32.ofNat ib)), .val (.int (((p4.toUInt32 >>> ((3 : Int32) &&& 31).toUInt32).toInt32) &&& (3 : Int32))), .val (.int (Int32.ofNat iq)), .val (.int (1 : Int32)), .val (.int (1 : Int32)), .val (.int (1 : Int32)), .val (.ref b277), .unset] [])) t
                refine XS.iload X286.here hx rfl (hb hby at_204) rfl ?_
                refine XS.iload X286.here hx rfl (hb hby at_206) rfl ?_
                refine XS.icmpNo X286.here hx rfl (hb hby at_208) rfl (feq hc288).1 ?_
                refine XS.iconst X286.here hx rfl (hb hby at_211) ?_
                show Steps p.tables e below (T286.setTop (mkF m 212 #[.val (.int p1), .val (.int p2), .val (.int p3), .val (.int p4), .val (.int (Int32.ofNat ia)), .val (.int (Int32.ofNat ib)), .val (.int (((p4.toUInt32 >>> ((3 : Int32) &&& 31).toUInt32).toInt32) &&& (3 : Int32))), .val (.int (Int32.ofNat iq)), .val (.int (1 : Int32)), .val (.int (1 : Int32)), .val (.int (1 : Int32)), .val (.ref b277), .unset] [(.int (1 : Int32))])) t
                refine XS.goto X286.here hx rfl (pc0 := 212) (pc' := 216) rfl (hb hby at_212) (by decide) (by decide) ?_
                refine XS.istore X286.here hx rfl (hb hby at_216) rfl (l' := #[.val (.int p1), .val (.int p2), .val (.int p3), .val (.int p4), .val (.int (Int32.ofNat ia)), .val (.int (Int32.ofNat ib)), .val (.int (((p4.toUInt32 >>> ((3 : Int32) &&& 31).toUInt32).toInt32) &&& (3 : Int32))), .val (.int (Int32.ofNat iq)), .val (.int (1 : Int32)), .val (.int (1 : Int32)), .val (.int (1 : Int32)), .val (.ref b277), .val (.int (1 : Int32))]) rfl ?_
                refine XS.aload X286.here hx rfl (hb hby at_218) rfl rfl ?_
                refine XS.iload X286.here hx rfl (hb hby at_220) rfl ?_
                exact k
              obtain ⟨cq295, kq295, q295a, q295b, q295c⟩ := isOf hZ e286 E_b277
              obtain ⟨_, _, ⟨T295, L295, k295, n295⟩, -, X295, ⟨Lc295, hQ295, l295, y295, z295⟩, st295⟩ := X286.virtualBack hx (y := (⟨"com/example/otayori/otayori/codec/PacketIds", "isHeld", "(I)Z"⟩ : MethodName)) (z := (⟨"com/example/otayori/otayori/codec/PacketIds", "isHeld", "(I)Z"⟩ : MethodName)) hown (mvT hZ (w_17 hw)) (mvT hZ (w_18 hw)) (notFace_of_selects (args := #[]) (mvT hZ (w_20 hw))) (mvT hZ (w_20 hw)) (mvT hZ (w_19 hw)) (by decide) (backOf (W := 0) (rm4y l Z a0 hw [] b277 bs_282 tw2_284 kw2_284 ws3_286 u2_286 st2_284 iq h286 n0 Z0 F_b277_held E_bs_282 g_bs_282 F_bs_282_words F_bs_282_wordsInUse F_bs_282_sizeIsSticky V_tw2_284 g_tw2_284 ne_bs_282_tw2_284 (hinv3_286 : own_inv ws3_286 u2_286) (hb3_286 : ws3_286.length ≤ 2048) OLD (O5 : Sta Z Z.heap "java/util/BitSet" "$assertionsDisabled" "Z" (.int (1 : Int32))) (h_iq : iq ≤ 65535)) hZ (w_21 hw) (w_8 hw) (by decide) (by decide)) q295a q295c (g := (mkF m 222 #[.val (.int p1), .val (.int p2), .val (.int p3), .val (.int p4), .val (.int (Int32.ofNat ia)), .val (.int (Int32.ofNat ib)), .val (.int (((p4.toUInt32 >>> ((3 : Int32) &&& 31).toUInt32).toInt32) &&& (3 : Int32))), .val (.int (Int32.ofNat iq)), .val (.int (1 : Int32)), .val (.int (1 : Int32)), .val (.int (1 : Int32)), .val (.ref b277), .val (.int (1 : Int32))] [(.int (Int32.ofNat iq)), (.ref b277)])) rfl (by rw [hml]; rfl) (Steps.refl _) (argsL := [(.int (Int32.ofNat iq))]) (rest := []) (lenOf pd_5 rfl) rfl (by show 2 * 0 + _ ≤ _; exact Nat.le_of_eq rfl) (hb hby at_222) (fun _ _ => ⟨rfl, e286, (by decide : 5 + 0 ≤ _), (by decide : 4103 + 0 ≤ _)⟩)
              dsimp only [Pt.U, Pt.locs, Pt.cells, Pt.slots] at X295 l295 y295 z295 st295 hQ295
              subst l295 y295 z295
              obtain ⟨rfl, Nq295, Kq295⟩ := hQ295
              replace NF := Fr.app NF Nq295
              clear Nq295
              refine WP.tr st295 ?_
              clear st295
              replace Kq295 := Kq295.trans (rfl : h286 = h286)
              have hXN : ∃ LL, Stand p l e room_1 s m #[(.int p1), (.int p2), (.int p3), (.int p4)] below meth c T295 LL 5 4103 ∧ Fr n0 LL := ⟨_, X295, NF⟩
              clear X295 NF
              obtain ⟨LL296, X295, NF⟩ := hXN
              show WP p.tables e below _ T295 (mkF m 225 #[.val (.int p1), .val (.int p2), .val (.int p3), .val (.int p4), .val (.int (Int32.ofNat ia)), .val (.int (Int32.ofNat ib)), .val (.int (((p4.toUInt32 >>> ((3 : Int32) &&& 31).toUInt32).toInt32) &&& (3 : Int32))), .val (.int (Int32.ofNat iq)), .val (.int (1 : Int32)), .val (.int (1 : Int32)), .val (.int (1 : Int32)), .val (.ref b277), .val (.int (1 : Int32))] [(.int (own_get ws3_286 iq))])
              rw [show (own_get ws3_286 iq) = (1 : Int32) from by rw [hget3_286 iq h_iq, hget3_284 iq h_iq, hget3_282 iq h_iq]; (repeat' split) <;> first | rfl | (exfalso; omega)]
              show WP p.tables e below _ T295 (mkF m 225 #[.val (.int p1), .val (.int p2), .val (.int p3), .val (.int p4), .val (.int (Int32.ofNat ia)), .val (.int (Int32.ofNat ib)), .val (.int (((p4.toUInt32 >>> ((3 : Int32) &&& 31).toUInt32).toInt32) &&& (3 : Int32))), .val (.int (Int32.ofNat iq)), .val (.int (1 : Int32)), .val (.int (1 : Int32)), .val (.int (1 : Int32)), .val (.ref b277), .val (.int (1 : Int32))] [(.int (1 : Int32))])
              refine WP.st (T' := T295) (f' := (mkF m 235 #[.val (.int p1), .val (.int p2), .val (.int p3), .val (.int p4), .val (.int (Int32.ofNat ia)), .val (.int (Int32.ofNat ib)), .val (.int (((p4.toUInt32 >>> ((3 : Int32) &&& 31).toUInt32).toInt32) &&& (3 : Int32))), .val (.int (Int32.ofNat iq)), .val (.int (1 : Int32)), .val (.int (1 : Int32)), .val (.int (1 : Int32)), .val (.ref b277), .val (.int (1 : Int32))] [(.int (1 : Int32))])) (fun t k => ?_) ?_
              · refine XS.iload X295.here hx rfl (hb hby at_225) rfl ?_
                refine XS.icmpNo X295.here hx rfl (hb hby at_227) rfl (teq (by decide : (1 : Int32) = (1 : Int32))).2 ?_
                refine XS.iconst X295.here hx rfl (hb hby at_230) ?_
                refine XS.goto X295.here hx rfl (pc0 := 231) (pc' := 235) rfl (hb hby at_231) (by decide) (by decide) ?_
                exact k
              subst hG
              obtain ⟨fs, hr, hrun, hended, hW, hsame⟩ := X295.leave (v := some (.int (1 : Int32))) (fun h => by rw [Bd.returns] at h; cases h)
              refine WP.fin ⟨_, _, ?_, hrun, hended, _, _, rfl, ?_, ⟨_, rfl⟩, hW, hsame.mono (by decide) (by decide)⟩
              · exact retN X295 hx (t := .boolean) Bd.returns (by simp) (hb hby at_235) hr
              · show Q0 Z p1 p2 p3 p4 h0 n0 _ T295.heap _
                rw [Kq295]
                exact ⟨rfl, NF⟩
            · skip
              have n_ia : ¬ iq = ia := fun q => hc288 (congrArg Int32.ofNat q)
              have n_ib : ¬ iq = ib := fun q => hc294 (congrArg Int32.ofNat q)
              refine WP.st (T' := T286) (f' := (mkF m 222 #[.val (.int p1), .val (.int p2), .val (.int p3), .val (.int p4), .val (.int (Int32.ofNat ia)), .val (.int (Int32.ofNat ib)), .val (.int (((p4.toUInt32 >>> ((3 : Int32) &&& 31).toUInt32).toInt32) &&& (3 : Int32))), .val (.int (Int32.ofNat iq)), .val (.int (1 : Int32)), .val (.int (1 : Int32)), .val (.int (1 : Int32)), .val (.ref b277), .val (.int (0 : Int32))] [(.int (Int32.ofNat iq)), (.ref b277)])) (fun t k => ?_) ?_
              · refine XS.iload X286.here hx rfl (hb hby at_175) rfl ?_
                refine XS.ifNo X286.here hx rfl (hb hby at_177) rfl ((if0 _ _).trans (feq (by decide : ¬ ((1 : Int32) = (0 : Int32)))).1) ?_
                refine XS.iload X286.here hx rfl (hb hby at_180) rfl ?_
                refine XS.iload X286.here hx rfl (hb hby at_182) rfl ?_
                show Steps p.tables e below (T286.setTop (mkF m 184 #[.val (.int p1), .val (.int p2), .val (.int p3), .val (.int p4), .val (.int (Int32.ofNat ia)), .val (.int (Int32.ofNat ib)), .val (.int (((p4.toUInt32 >>> ((3 : Int32) &&& 31).toUInt32).toInt32) &&& (3 : Int32))), .val (.int (Int32.ofNat iq)), .val (.int (1 : Int32)), .val (.int (1 : Int32)), .val (.int (1 : Int32)), .val (.ref b277), .unset] [(.int (Int32.ofNat ia)), (.int (Int32.ofNat iq))])) t
                refine XS.icmpNo X286.here hx rfl (hb hby at_184) rfl (feq hc288).1 ?_
                refine XS.iload X286.here hx rfl (hb hby at_187) rfl ?_
                refine XS.ifNo X286.here hx rfl (hb hby at_189) rfl ((if0 _ _).trans (feq (by decide : ¬ ((1 : Int32) = (0 : Int32)))).1) ?_
                refine XS.iload X286.here hx rfl (hb hby at_192) rfl ?_
                show Steps p.tables e below (T286.setTop (mkF m 194 #[.val (.int p1), .val (.int p2), .val (.int p3), .val (.int p4), .val (.int (Int32.ofNat ia)), .val (.int (Int32.ofNat ib)), .val (.int (((p4.toUInt32 >>> ((3 : Int32) &&& 31).toUInt32).toInt32) &&& (3 : Int32))), .val (.int (Int32.ofNat iq)), .val (.int (1 : Int32)), .val (.int (1 : Int32)), .val (.int (1 : Int32)), .val (.ref b277), .unset] [(.int (Int32.ofNat iq))])) t
                refine XS.iload X286.here hx rfl (hb hby at_194) rfl ?_
                refine XS.icmpYes X286.here hx rfl (pc0 := 196) (pc' := 215) rfl (hb hby at_196) rfl (feq hc294).2 (by decide) (by decide) ?_
                refine XS.iconst X286.here hx rfl (hb hby at_215) ?_
                refine XS.istore X286.here hx rfl (hb hby at_216) rfl (l' := #[.val (.int p1), .val (.int p2), .val (.int p3), .val (.int p4), .val (.int (Int32.ofNat ia)), .val (.int (Int32.ofNat ib)), .val (.int (((p4.toUInt32 >>> ((3 : Int32) &&& 31).toUInt32).toInt32) &&& (3 : Int32))), .val (.int (Int32.ofNat iq)), .val (.int (1 : Int32)), .val (.int (1 : Int32)), .val (.int (1 : Int32)), .val (.ref b277), .val (.int (0 : Int32))]) rfl ?_
                show Steps p.tables e below (T286.setTop (mkF m 218 #[.val (.int p1), .val (.int p2), .val (.int p3), .val (.int p4), .val (.int (Int32.ofNat ia)), .val (.int (Int32.ofNat ib)), .val (.int (((p4.toUInt32 >>> ((3 : Int32) &&& 31).toUInt32).toInt32) &&& (3 : Int32))), .val (.int (Int32.ofNat iq)), .val (.int (1 : Int32)), .val (.int (1 : Int32)), .val (.int (1 : Int32)), .val (.ref b277), .val (.int (0 : Int32))] [])) t
                refine XS.aload X286.here hx rfl (hb hby at_218) rfl rfl ?_
                refine XS.iload X286.here hx rfl (hb hby at_220) rfl ?_
                exact k
              obtain ⟨cq297, kq297, q297a, q297b, q297c⟩ := isOf hZ e286 E_b277
              obtain ⟨_, _, ⟨T297, L297, k297, n297⟩, -, X297, ⟨Lc297, hQ297, l297, y297, z297⟩, st297⟩ := X286.virtualBack hx (y := (⟨"com/example/otayori/otayori/codec/PacketIds", "isHeld", "(I)Z"⟩ : MethodName)) (z := (⟨"com/example/otayori/otayori/codec/PacketIds", "isHeld", "(I)Z"⟩ : MethodName)) hown (mvT hZ (w_17 hw)) (mvT hZ (w_18 hw)) (notFace_of_selects (args := #[]) (mvT hZ (w_20 hw))) (mvT hZ (w_20 hw)) (mvT hZ (w_19 hw)) (by decide) (backOf (W := 0) (rm4y l Z a0 hw [] b277 bs_282 tw2_284 kw2_284 ws3_286 u2_286 st2_284 iq h286 n0 Z0 F_b277_held E_bs_282 g_bs_282 F_bs_282_words F_bs_282_wordsInUse F_bs_282_sizeIsSticky V_tw2_284 g_tw2_284 ne_bs_282_tw2_284 (hinv3_286 : own_inv ws3_286 u2_286) (hb3_286 : ws3_286.length ≤ 2048) OLD (O5 : Sta Z Z.heap "java/util/BitSet" "$assertionsDisabled" "Z" (.int (1 : Int32))) (h_iq : iq ≤ 65535)) hZ (w_21 hw) (w_8 hw) (by decide) (by decide)) q297a q297c (g := (mkF m 222 #[.val (.int p1), .val (.int p2), .val (.int p3), .val (.int p4), .val (.int (Int32.ofNat ia)), .val (.int (Int32.ofNat ib)), .val (.int (((p4.toUInt32 >>> ((3 : Int32) &&& 31).toUInt32).toInt32) &&& (3 : Int32))), .val (.int (Int32.ofNat iq)), .val (.int (1 : Int32)), .val (.int (1 : Int32)), .val (.int (1 : Int32)), .val (.ref b277), .val (.int (0 : Int32))] [(.int (Int32.ofNat iq)), (.ref b277)])) rfl (by rw [hml]; rfl) (Steps.refl _) (argsL := [(.int (Int32.ofNat iq))]) (rest := []) (lenOf pd_5 rfl) rfl (by show 2 * 0 + _ ≤ _; exact Nat.le_of_eq rfl) (hb hby at_222) (fun _ _ => ⟨rfl, e286, (by decide : 5 + 0 ≤ _), (by decide : 4103 + 0 ≤ _)⟩)
              dsimp only [Pt.U, Pt.locs, Pt.cells, Pt.slots] at X297 l297 y297 z297 st297 hQ297
              subst l297 y297 z297
              obtain ⟨rfl, Nq297, Kq297⟩ := hQ297
              replace NF := Fr.app NF Nq297
              clear Nq297
              refine WP.tr st297 ?_
              clear st297
              replace Kq297 := Kq297.trans (rfl : h286 = h286)
              have hXN : ∃ LL, Stand p l e room_1 s m #[(.int p1), (.int p2), (.int p3), (.int p4)] below meth c T297 LL 5 4103 ∧ Fr n0 LL := ⟨_, X297, NF⟩
              clear X297 NF
              obtain ⟨LL298, X297, NF⟩ := hXN
              show WP p.tables e below _ T297 (mkF m 225 #[.val (.int p1), .val (.int p2), .val (.int p3), .val (.int p4), .val (.int (Int32.ofNat ia)), .val (.int (Int32.ofNat ib)), .val (.int (((p4.toUInt32 >>> ((3 : Int32) &&& 31).toUInt32).toInt32) &&& (3 : Int32))), .val (.int (Int32.ofNat iq)), .val (.int (1 : Int32)), .val (.int (1 : Int32)), .val (.int (1 : Int32)), .val (.ref b277), .val (.int (0 : Int32))] [(.int (own_get ws3_286 iq))])
              rw [show (own_get ws3_286 iq) = (0 : Int32) from by rw [hget3_286 iq h_iq, hget3_284 iq h_iq, hget3_282 iq h_iq]; (repeat' split) <;> first | rfl | (exfalso; omega)]
              show WP p.tables e below _ T297 (mkF m 225 #[.val (.int p1), .val (.int p2), .val (.int p3), .val (.int p4), .val (.int (Int32.ofNat ia)), .val (.int (Int32.ofNat ib)), .val (.int (((p4.toUInt32 >>> ((3 : Int32) &&& 31).toUInt32).toInt32) &&& (3 : Int32))), .val (.int (Int32.ofNat iq)), .val (.int (1 : Int32)), .val (.int (1 : Int32)), .val (.int (1 : Int32)), .val (.ref b277), .val (.int (0 : Int32))] [(.int (0 : Int32))])
              refine WP.st (T' := T297) (f' := (mkF m 235 #[.val (.int p1), .val (.int p2), .val (.int p3), .val (.int p4), .val (.int (Int32.ofNat ia)), .val (.int (Int32.ofNat ib)), .val (.int (((p4.toUInt32 >>> ((3 : Int32) &&& 31).toUInt32).toInt32) &&& (3 : Int32))), .val (.int (Int32.ofNat iq)), .val (.int (1 : Int32)), .val (.int (1 : Int32)), .val (.int (1 : Int32)), .val (.ref b277), .val (.int (0 : Int32))] [(.int (1 : Int32))])) (fun t k => ?_) ?_
              · refine XS.iload X297.here hx rfl (hb hby at_225) rfl ?_
                refine XS.icmpNo X297.here hx rfl (hb hby at_227) rfl (teq (by decide : (0 : Int32) = (0 : Int32))).2 ?_
                refine XS.iconst X297.here hx rfl (hb hby at_230) ?_
                refine XS.goto X297.here hx rfl (pc0 := 231) (pc' := 235) rfl (hb hby at_231) (by decide) (by decide) ?_
                exact k
              subst hG
              obtain ⟨fs, hr, hrun, hended, hW, hsame⟩ := X297.leave (v := some (.int (1 : Int32))) (fun h => by rw [Bd.returns] at h; cases h)
              refine WP.fin ⟨_, _, ?_, hrun, hended, _, _, rfl, ?_, ⟨_, rfl⟩, hW, hsame.mono (by decide) (by decide)⟩
              · exact retN X297 hx (t := .boolean) Bd.returns (by simp) (hb hby at_235) hr
              · show Q0 Z p1 p2 p3 p4 h0 n0 _ T297.heap _
                rw [Kq297]
                exact ⟨rfl, NF⟩
  refine WP.st (T' := T137) (f' := (mkF m 21 #[.val (.int p1), .val (.int p2), .val (.int p3), .val (.int p4), .val (.int (Int32.ofNat ia)), .val (.int (Int32.ofNat ib)), .val (.int (((p4.toUInt32 >>> ((3 : Int32) &&& 31).toUInt32).toInt32) &&& (3 : Int32))), .unset, .unset, .unset, .unset, .unset, .unset] [(.int (((p4.toUInt32 >>> ((3 : Int32) &&& 31).toUInt32).toInt32) &&& (3 : Int32)))])) (fun t k => ?_) ?_
  · refine XS.iload X137.here hx rfl (hb hby at_19) rfl ?_
    exact k
  by_cases hc299 : (((p4.toUInt32 >>> ((3 : Int32) &&& 31).toUInt32).toInt32) &&& (3 : Int32)) = (0 : Int32)
  · skip
    refine WP.st (T' := T137) (f' := (mkF m 76 #[.val (.int p1), .val (.int p2), .val (.int p3), .val (.int p4), .val (.int (Int32.ofNat ia)), .val (.int (Int32.ofNat ib)), .val (.int (((p4.toUInt32 >>> ((3 : Int32) &&& 31).toUInt32).toInt32) &&& (3 : Int32))), .val (.int (Int32.ofNat ia)), .unset, .unset, .unset, .unset, .unset] [])) (fun t k => ?_) ?_
    · refine XS.ifNo X137.here hx rfl (hb hby at_21) rfl ((if0 _ _).trans (teq hc299).2) ?_
      refine XS.iload X137.here hx rfl (hb hby at_24) rfl ?_
      refine XS.istore X137.here hx rfl (hb hby at_26) rfl (l' := #[.val (.int p1), .val (.int p2), .val (.int p3), .val (.int p4), .val (.int (Int32.ofNat ia)), .val (.int (Int32.ofNat ib)), .val (.int (((p4.toUInt32 >>> ((3 : Int32) &&& 31).toUInt32).toInt32) &&& (3 : Int32))), .val (.int (Int32.ofNat ia)), .unset, .unset, .unset, .unset, .unset]) rfl ?_
      refine XS.goto X137.here hx rfl (pc0 := 28) (pc' := 76) rfl (hb hby at_28) (by decide) (by decide) ?_
      exact k
    exact J139 _ _  ia (ownWider X137 (by decide) (by decide)) Kq137 NF  l_ia h_ia
  · skip
    refine WP.st (T' := T137) (f' := (mkF m 34 #[.val (.int p1), .val (.int p2), .val (.int p3), .val (.int p4), .val (.int (Int32.ofNat ia)), .val (.int (Int32.ofNat ib)), .val (.int (((p4.toUInt32 >>> ((3 : Int32) &&& 31).toUInt32).toInt32) &&& (3 : Int32))), .unset, .unset, .unset, .unset, .unset, .unset] [(.int (1 : Int32)), (.int (((p4.toUInt32 >>> ((3 : Int32) &&& 31).toUInt32).toInt32) &&& (3 : Int32)))])) (fun t k => ?_) ?_
    · refine XS.ifYes X137.here hx rfl (pc0 := 21) (pc' := 31) rfl (hb hby at_21) rfl ((if0 _ _).trans (feq hc299).2) (by decide) (by decide) ?_
      refine XS.iload X137.here hx rfl (hb hby at_31) rfl ?_
      refine XS.iconst X137.here hx rfl (hb hby at_33) ?_
      exact k
    by_cases hc300 : (((p4.toUInt32 >>> ((3 : Int32) &&& 31).toUInt32).toInt32) &&& (3 : Int32)) = (1 : Int32)
    · skip
      refine WP.st (T' := T137) (f' := (mkF m 76 #[.val (.int p1), .val (.int p2), .val (.int p3), .val (.int p4), .val (.int (Int32.ofNat ia)), .val (.int (Int32.ofNat ib)), .val (.int (((p4.toUInt32 >>> ((3 : Int32) &&& 31).toUInt32).toInt32) &&& (3 : Int32))), .val (.int (Int32.ofNat ib)), .unset, .unset, .unset, .unset, .unset] [])) (fun t k => ?_) ?_
      · refine XS.icmpNo X137.here hx rfl (hb hby at_34) rfl (teq hc300).2 ?_
        refine XS.iload X137.here hx rfl (hb hby at_37) rfl ?_
        refine XS.istore X137.here hx rfl (hb hby at_39) rfl (l' := #[.val (.int p1), .val (.int p2), .val (.int p3), .val (.int p4), .val (.int (Int32.ofNat ia)), .val (.int (Int32.ofNat ib)), .val (.int (((p4.toUInt32 >>> ((3 : Int32) &&& 31).toUInt32).toInt32) &&& (3 : Int32))), .val (.int (Int32.ofNat ib)), .unset, .unset, .unset, .unset, .unset]) rfl ?_
        refine XS.goto X137.here hx rfl (pc0 := 41) (pc' := 76) rfl (hb hby at_41) (by decide) (by decide) ?_
        exact k
      exact J139 _ _  ib (ownWider X137 (by decide) (by decide)) Kq137 NF  l_ib h_ib
    · skip
      refine WP.st (T' := T137) (f' := (mkF m 47 #[.val (.int p1), .val (.int p2), .val (.int p3), .val (.int p4), .val (.int (Int32.ofNat ia)), .val (.int (Int32.ofNat ib)), .val (.int (((p4.toUInt32 >>> ((3 : Int32) &&& 31).toUInt32).toInt32) &&& (3 : Int32))), .unset, .unset, .unset, .unset, .unset, .unset] [(.int (2 : Int32)), (.int (((p4.toUInt32 >>> ((3 : Int32) &&& 31).toUInt32).toInt32) &&& (3 : Int32)))])) (fun t k => ?_) ?_
      · refine XS.icmpYes X137.here hx rfl (pc0 := 34) (pc' := 44) rfl (hb hby at_34) rfl (feq hc300).2 (by decide) (by decide) ?_
        refine XS.iload X137.here hx rfl (hb hby at_44) rfl ?_
        refine XS.iconst X137.here hx rfl (hb hby at_46) ?_
        exact k
      by_cases hc301 : (((p4.toUInt32 >>> ((3 : Int32) &&& 31).toUInt32).toInt32) &&& (3 : Int32)) = (2 : Int32)
      · skip
        refine WP.st (T' := T137) (f' := (mkF m 54 #[.val (.int p1), .val (.int p2), .val (.int p3), .val (.int p4), .val (.int (Int32.ofNat ia)), .val (.int (Int32.ofNat ib)), .val (.int (((p4.toUInt32 >>> ((3 : Int32) &&& 31).toUInt32).toInt32) &&& (3 : Int32))), .unset, .unset, .unset, .unset, .unset, .unset] [(.int (65535 : Int32)), (.int (Int32.ofNat ia))])) (fun t k => ?_) ?_
        · refine XS.icmpNo X137.here hx rfl (hb hby at_47) rfl (teq hc301).2 ?_
          refine XS.iload X137.here hx rfl (hb hby at_50) rfl ?_
          refine X137.ldcInt hx hown (mvT hZ (w_5 hw)) (g := (mkF m 52 #[.val (.int p1), .val (.int p2), .val (.int p3), .val (.int p4), .val (.int (Int32.ofNat ia)), .val (.int (Int32.ofNat ib)), .val (.int (((p4.toUInt32 >>> ((3 : Int32) &&& 31).toUInt32).toInt32) &&& (3 : Int32))), .unset, .unset, .unset, .unset, .unset, .unset] [(.int (Int32.ofNat ia))])) rfl (hb hby at_52) _ ?_
          exact k
        by_cases hc302 : (Int32.ofNat ia) = (65535 : Int32)
        · skip
          refine WP.st (T' := T137) (f' := (mkF m 76 #[.val (.int p1), .val (.int p2), .val (.int p3), .val (.int p4), .val (.int (Int32.ofNat ia)), .val (.int (Int32.ofNat ib)), .val (.int (((p4.toUInt32 >>> ((3 : Int32) &&& 31).toUInt32).toInt32) &&& (3 : Int32))), .val (.int (1 : Int32)), .unset, .unset, .unset, .unset, .unset] [])) (fun t k => ?_) ?_
          · refine XS.icmpNo X137.here hx rfl (hb hby at_54) rfl (teq hc302).2 ?_
            refine XS.iconst X137.here hx rfl (hb hby at_57) ?_
            refine XS.goto X137.here hx rfl (pc0 := 58) (pc' := 65) rfl (hb hby at_58) (by decide) (by decide) ?_
            refine XS.istore X137.here hx rfl (hb hby at_65) rfl (l' := #[.val (.int p1), .val (.int p2), .val (.int p3), .val (.int p4), .val (.int (Int32.ofNat ia)), .val (.int (Int32.ofNat ib)), .val (.int (((p4.toUInt32 >>> ((3 : Int32) &&& 31).toUInt32).toInt32) &&& (3 : Int32))), .val (.int (1 : Int32)), .unset, .unset, .unset, .unset, .unset]) rfl ?_
            show Steps p.tables e below (T137.setTop (mkF m 67 #[.val (.int p1), .val (.int p2), .val (.int p3), .val (.int p4), .val (.int (Int32.ofNat ia)), .val (.int (Int32.ofNat ib)), .val (.int (((p4.toUInt32 >>> ((3 : Int32) &&& 31).toUInt32).toInt32) &&& (3 : Int32))), .val (.int (1 : Int32)), .unset, .unset, .unset, .unset, .unset] [])) t
            refine XS.goto X137.here hx rfl (pc0 := 67) (pc' := 76) rfl (hb hby at_67) (by decide) (by decide) ?_
            exact k
          exact J139 _ _  1 (ownWider X137 (by decide) (by decide)) Kq137 NF  (by decide) (by decide)
        · skip
          refine WP.st (T' := T137) (f' := (mkF m 76 #[.val (.int p1), .val (.int p2), .val (.int p3), .val (.int p4), .val (.int (Int32.ofNat ia)), .val (.int (Int32.ofNat ib)), .val (.int (((p4.toUInt32 >>> ((3 : Int32) &&& 31).toUInt32).toInt32) &&& (3 : Int32))), .val (.int ((Int32.ofNat ia) + (1 : Int32))), .unset, .unset, .unset, .unset, .unset] [])) (fun t k => ?_) ?_
          · refine XS.icmpYes X137.here hx rfl (pc0 := 54) (pc' := 61) rfl (hb hby at_54) rfl (feq hc302).2 (by decide) (by decide) ?_
            refine XS.iload X137.here hx rfl (hb hby at_61) rfl ?_
            refine XS.iconst X137.here hx rfl (hb hby at_63) ?_
            refine XS.iadd X137.here hx rfl (hb hby at_64) rfl ?_
            show Steps p.tables e below (T137.setTop (mkF m 65 #[.val (.int p1), .val (.int p2), .val (.int p3), .val (.int p4), .val (.int (Int32.ofNat ia)), .val (.int (Int32.ofNat ib)), .val (.int (((p4.toUInt32 >>> ((3 : Int32) &&& 31).toUInt32).toInt32) &&& (3 : Int32))), .unset, .unset, .unset, .unset, .unset, .unset] [(.int ((Int32.ofNat ia) + (1 : Int32)))])) t
            refine XS.istore X137.here hx rfl (hb hby at_65) rfl (l' := #[.val (.int p1), .val (.int p2), .val (.int p3), .val (.int p4), .val (.int (Int32.ofNat ia)), .val (.int (Int32.ofNat ib)), .val (.int (((p4.toUInt32 >>> ((3 : Int32) &&& 31).toUInt32).toInt32) &&& (3 : Int32))), .val (.int ((Int32.ofNat ia) + (1 : Int32))), .unset, .unset, .unset, .unset, .unset]) rfl ?_
            refine XS.goto X137.here hx rfl (pc0 := 67) (pc' := 76) rfl (hb hby at_67) (by decide) (by decide) ?_
            exact k
          have hlt : ia ≠ 65535 := fun q => hc302 (by rw [q]; rfl)
          rw [show (Int32.ofNat ia) + (1 : Int32) = Int32.ofNat (ia + 1) from own_add ia 1]
          exact J139 _ _  (ia + 1) (ownWider X137 (by decide) (by decide)) Kq137 NF  (by omega) (by omega)
      · skip
        refine WP.st (T' := T137) (f' := (mkF m 71 #[.val (.int p1), .val (.int p2), .val (.int p3), .val (.int p4), .val (.int (Int32.ofNat ia)), .val (.int (Int32.ofNat ib)), .val (.int (((p4.toUInt32 >>> ((3 : Int32) &&& 31).toUInt32).toInt32) &&& (3 : Int32))), .unset, .unset, .unset, .unset, .unset, .unset] [(.int p3)])) (fun t k => ?_) ?_
        · refine XS.icmpYes X137.here hx rfl (pc0 := 47) (pc' := 70) rfl (hb hby at_47) rfl (feq hc301).2 (by decide) (by decide) ?_
          refine XS.iloadN X137.here hx rfl (hb hby at_70) rfl ?_
          exact k
        obtain ⟨_, _, ⟨T303, L303, k303, n303⟩, -, X303, ⟨Lc303, hQ303, l303, y303, z303⟩, st303⟩ := Jvm.LawKit.callS X137 hx (y := (⟨"com/example/otayori/otayori/codec/PacketIdsIsHeldPinLaw", "id", "(I)I"⟩ : MethodName)) hown (mvT hZ (w_0 hw)) (mvT hZ (w_1 hw)) (mvT hZ (w_2 hw)) (mvT hZ (w_3 hw)) (by decide) (backOf (W := 0) (rm1 l Z a0 hw [] p3 h0 n0 Z0 ) hZ (w_3 hw) (w_2 hw) (by decide) (by decide)) (g := (mkF m 71 #[.val (.int p1), .val (.int p2), .val (.int p3), .val (.int p4), .val (.int (Int32.ofNat ia)), .val (.int (Int32.ofNat ib)), .val (.int (((p4.toUInt32 >>> ((3 : Int32) &&& 31).toUInt32).toInt32) &&& (3 : Int32))), .unset, .unset, .unset, .unset, .unset, .unset] [(.int p3)])) rfl (by rw [hml]; rfl) (argsL := [(.int p3)]) (rest := []) (lenOf pd_0 rfl) rfl (by show 2 * 0 + _ ≤ _; exact Nat.le_of_eq rfl) (hb hby at_71) (fun _ _ => ⟨rfl, Kq137, (by decide : 0 + 0 ≤ _), (by decide : 0 + 0 ≤ _)⟩)
        dsimp only [Pt.U, Pt.locs, Pt.cells, Pt.slots] at X303 l303 y303 z303 st303 hQ303
        subst l303 y303 z303
        obtain ⟨rfl, Nq303, Kq303⟩ := hQ303
        replace NF := Fr.app NF Nq303
        clear Nq303
        refine WP.st st303 ?_
        clear st303
        replace Kq303 := Kq303.trans (rfl : h0 = h0)
        have hXN : ∃ LL, Stand p l e room_1 s m #[(.int p1), (.int p2), (.int p3), (.int p4)] below meth c T303 LL 0 0 ∧ Fr n0 LL := ⟨_, X303, NF⟩
        clear X303 NF
        obtain ⟨LL304, X303, NF⟩ := hXN
        show WP p.tables e below _ T303 (mkF m 74 #[.val (.int p1), .val (.int p2), .val (.int p3), .val (.int p4), .val (.int (Int32.ofNat ia)), .val (.int (Int32.ofNat ib)), .val (.int (((p4.toUInt32 >>> ((3 : Int32) &&& 31).toUInt32).toInt32) &&& (3 : Int32))), .unset, .unset, .unset, .unset, .unset, .unset] [(.int ((1 : Int32) + ((p3 &&& (2147483647 : Int32)) % (65535 : Int32))))])
        obtain ⟨iz, e_iz, l_iz, h_iz⟩ := own_id p3
        rw [e_iz]
        show WP p.tables e below _ T303 (mkF m 74 #[.val (.int p1), .val (.int p2), .val (.int p3), .val (.int p4), .val (.int (Int32.ofNat ia)), .val (.int (Int32.ofNat ib)), .val (.int (((p4.toUInt32 >>> ((3 : Int32) &&& 31).toUInt32).toInt32) &&& (3 : Int32))), .unset, .unset, .unset, .unset, .unset, .unset] [(.int (Int32.ofNat iz))])
        refine WP.st (T' := T303) (f' := (mkF m 76 #[.val (.int p1), .val (.int p2), .val (.int p3), .val (.int p4), .val (.int (Int32.ofNat ia)), .val (.int (Int32.ofNat ib)), .val (.int (((p4.toUInt32 >>> ((3 : Int32) &&& 31).toUInt32).toInt32) &&& (3 : Int32))), .val (.int (Int32.ofNat iz)), .unset, .unset, .unset, .unset, .unset] [])) (fun t k => ?_) ?_
        · refine XS.istore X303.here hx rfl (hb hby at_74) rfl (l' := #[.val (.int p1), .val (.int p2), .val (.int p3), .val (.int p4), .val (.int (Int32.ofNat ia)), .val (.int (Int32.ofNat ib)), .val (.int (((p4.toUInt32 >>> ((3 : Int32) &&& 31).toUInt32).toInt32) &&& (3 : Int32))), .val (.int (Int32.ofNat iz)), .unset, .unset, .unset, .unset, .unset]) rfl ?_
          exact k
        exact J139 _ _  iz (ownWider X303 (by decide) (by decide)) Kq303 NF  l_iz h_iz
set_option maxRecDepth 65536 in
set_option maxHeartbeats 40000000 in
theorem comes_1 {Post : Tables → Env → Array Value → State → Outcome → State → Prop} (hpost : ∀ tb e args s v u, (limb_1_1.after args s (.returned v) u = true ∧ limb_1_2.after args s (.returned v) u = true ∧ True) → FrameEnd s (.returned v) u (Jvm.fieldLocs frame_1_writes args s ++ Jvm.arrayLocs frame_1_arrays args s ++ Jvm.staticLocs frame_1_statics s) 24 4544 → Post tb e args s (.returned v) u) :
    ArmFor flags0 classFile x code maxLocals ret World_1 tables_1 room_1 Calls_1 rest_1 Pre_1 Post := by
  intro l hfl _ _ p e ha hc hk s m args below hf hA hF happ hP
  obtain ⟨hcalls, hrest, hpre⟩ := hP
  obtain ⟨-, -, -, hnamed, -, -, -, hat⟩ := (Spec.applies_iff hf).mp happ
  obtain ⟨hg, hn⟩ := and_e (Cond.before_iff.mp (show (Jvm.Cond.and given_1 narrow_1).before args s = true from hpre))
  obtain ⟨gg1, gg2⟩ := and_e hg
  obtain ⟨gg3, gg4⟩ := and_e gg2
  obtain ⟨gg5, gg6⟩ := and_e gg4
  obtain ⟨gg7, gg8⟩ := and_e gg6
  obtain ⟨w0, w1, w2, w3, rfl⟩ : ∃ w0 w1 w2 w3 : Value, args = #[w0, w1, w2, w3] := by
    have hs : args.size = 4 := by simpa [Cond.value, given_1] using gg1
    obtain ⟨L⟩ := args
    match L, hs with
    | [w0, w1, w2, w3], _ => exact ⟨w0, w1, w2, w3, rfl⟩
  have hw := fun d (hd : d ∈ tables_1) => atoms_spec (ws := Jvm.Cond.code x code maxLocals ret :: tables_1) hat d (List.mem_cons_of_mem _ hd)
  have hfit : Fit s := fun {y c} hc i hi => by
    obtain ⟨ha, rfl⟩ := Array.getElem?_eq_some_iff.mp hc
    have q := List.all_eq_true.mp ((Array.all_eq_true_iff_forall_mem.mp hF) _ (Array.getElem_mem ha)) i (List.mem_range.mpr hi)
    simpa [Array.getElem?_eq_getElem hi] using q
  obtain ⟨hsets, hown0⟩ := atoms_of _ (rest_1_c_eq ▸ (show rest_1_c.before _ s = true from hrest))
  have hr0 := Cond.before_iff.mp hown0
  obtain ⟨i0, ei0⟩ := is_v gg3
  obtain rfl : w0 = (.int i0) := Option.some.inj ei0
  obtain ⟨i1, ei1⟩ := is_v gg5
  obtain rfl : w1 = (.int i1) := Option.some.inj ei1
  obtain ⟨i2, ei2⟩ := is_v gg7
  obtain rfl : w2 = (.int i2) := Option.some.inj ei2
  obtain ⟨i3, ei3⟩ := is_v gg8
  obtain rfl : w3 = (.int i3) := Option.some.inj ei3
  obtain ⟨yh, eh1, eh2⟩ := Cond.eq_one (hsets _ (List.mem_of_getElem? (i := 2) rfl))
  cases eh2
  have O5 := Sta.start eh1 (Or.inl (hsets _ (List.mem_of_getElem? (i := 1) rfl)))
  obtain ⟨n, o, h1, h2, h3, _, L, rfl, ⟨rfl, N⟩, hq⟩ := rm0 l s _ hw tables_1 i0 i1 i2 i3 s.heap s.heap.size (Nat.le_refl _) (Old.start s) O5 p e ha hc hk s m _ below hf ((Spec.applies_iff_loose hf).mp happ).1 ⟨rfl, State.Warmed39.refl s, rfl⟩ trivial
  refine ⟨n, _, h1, h2, h3, hpost _ _ _ _ _ _ ⟨Cond.after_iff.mpr rfl, Cond.after_iff.mpr (eq_i res_at (Term.int_eval (1)) rfl), trivial⟩ ⟨hq.1, hq.2.1, (hq.2.2.sift fun y hy => Or.inr (N y hy)).mono (by decide) (by decide)⟩⟩
theorem main_1_1 : Claimed_1_1 := comes_1 fun _ _ _ _ _ _ h hF => ⟨h.1, hF⟩
theorem main_1_2 : Claimed_1_2 := comes_1 fun _ _ _ _ _ _ h hF => ⟨h.2.1, hF⟩
end Jvm.Pilot.@@N@@
namespace Jvm.Pilot.@@N@@
open Jvm Jvm.ClassFile Sem Op Lib Jvm.Free Jvm.Stand Jvm.Pilot.@@N@@.Jvm.D
/-! MADE BY PROGRAM (witnessworld.py) out of the Statement's table words and the real class files: 15 classes; the members and pool entries that the words name. The judged class is class 1, her method 2. -/
namespace start1
open Jvm.ClassFile
def u (s : String) : CpInfo := .utf8 (stringToUtf16 s)
/-- a pool by its gaps: so many unusable entries, then the entry; so many at the end -/
def gap : Nat → List CpInfo → List CpInfo
  | 0, r => r
  | n + 1, r => .unusable :: gap n r
def poolList (es : List (Nat × CpInfo)) (last : Nat) : List CpInfo := es.foldr (fun e r => gap e.1 (e.2 :: r)) (gap last [])
def pool (es : List (Nat × CpInfo)) (last : Nat) : Array CpInfo := ⟨poolList es last⟩
def fileOf (pool : Array CpInfo) (this : Nat) (attrs : Array Attribute := #[]) (ms : Array MethodInfo := #[]) (fl : Nat := 33) (sup : Nat := 0) (ifs : Array Nat := #[]) (fds : Array FieldInfo := #[]) : ClassFile where
  minorVersion := 0
  majorVersion := 65
  constantPool := pool
  accessFlags := fl
  thisClass := this
  superClass := sup
  interfaces := ifs
  fields := fds
  methods := ms
  attributes := attrs
def plain (name : String) (sup : Option ClassId) : Class where
  name := name
  kind := .ordinary
  loader := none
  accessFlags := 33
  super := sup
  interfaces := #[]
  cf := none
  fields := #[]
  methods := #[]
  instanceTypes := #[]
  staticTypes := #[]
  resolved := #[]
  callSites := []
  init := .initialized
  statics := none
  mirror := none

def pool0 : Array CpInfo := pool [(5, u "<init>"), (0, u "()V"), (1, .class_ 10), (1, u "java/lang/Object")] 113

def k0c0 : Code := { maxStack := 0, maxLocals := 1, code := object_method_1_code, exceptionTable := #[], attributes := #[] }
def k0m0 : Method := { name := "<init>", desc := "()V", sig := { parameters := [], returnType := none }, accessFlags := 1, code := some k0c0 }
/-- java/lang/Object -/
def k0 : Class := { plain "java/lang/Object" none with
  accessFlags := 33
  interfaces := #[]
  cf := some (fileOf pool0 8 #[] #[{ accessFlags := 1, nameIndex := 5, descriptorIndex := 6, attributes := #[] }] 33 0 #[] #[])
  fields := #[]
  methods := #[k0m0]
  instanceTypes := #[]
  staticTypes := #[]
  resolved := Array.replicate 124 none
  statics := none }

def pool1 : Array CpInfo := pool [(2, .class_ 4), (0, .nameAndType 5 6), (0, u "java/lang/Object"), (0, u "<init>"), (0, u "()V"), (0, .integer 2147483647), (0, .class_ 9), (0, u "com/example/otayori/otayori/codec/PacketIds"), (0, .integer 65535), (0, .methodref 12 13), (0, .class_ 14), (0, .nameAndType 15 16), (0, u "com/example/otayori/otayori/codec/PacketIdsIsHeldPinLaw"), (0, u "id"), (0, u "(I)I"), (0, .methodref 8 3), (0, .methodref 8 19), (0, .nameAndType 20 21), (0, u "isHeld"), (0, u "(I)Z"), (0, .methodref 8 23), (0, .nameAndType 24 21), (0, u "hold"), (0, .methodref 8 26), (0, .nameAndType 27 21), (0, u "release"), (2, u "law"), (0, u "(IIII)Z")] 3

def k1m0 : Method := { name := "<init>", desc := "()V", sig := { parameters := [], returnType := none }, accessFlags := 1, code := none }
def k1c1 : Code := { maxStack := 3, maxLocals := 1, code := method_2_code, exceptionTable := #[], attributes := #[] }
def k1m1 : Method := { name := "id", desc := "(I)I", sig := { parameters := [.int], returnType := some .int }, accessFlags := 10, code := some k1c1 }
def k1c2 : Code := { maxStack := 2, maxLocals := 13, code := code, exceptionTable := #[], attributes := #[] }
def k1m2 : Method := { name := "law", desc := "(IIII)Z", sig := { parameters := [.int, .int, .int, .int], returnType := some .boolean }, accessFlags := 9, code := some k1c2 }
/-- com/example/otayori/otayori/codec/PacketIdsIsHeldPinLaw -/
def k1 : Class := { plain "com/example/otayori/otayori/codec/PacketIdsIsHeldPinLaw" (some 0) with
  accessFlags := 49
  interfaces := #[]
  cf := some (fileOf pool1 12 #[] #[{ accessFlags := 1, nameIndex := 5, descriptorIndex := 6, attributes := #[] }, { accessFlags := 10, nameIndex := 15, descriptorIndex := 16, attributes := #[] }, { accessFlags := 9, nameIndex := 30, descriptorIndex := 31, attributes := #[] }] 49 2 #[] #[])
  fields := #[]
  methods := #[k1m0, k1m1, k1m2]
  instanceTypes := #[]
  staticTypes := #[]
  resolved := Array.replicate 35 none
  statics := none }

def pool2 : Array CpInfo := pool [(1, .methodref 2 3), (0, .class_ 4), (0, .nameAndType 5 6), (0, u "java/lang/Object"), (0, u "<init>"), (0, u "()V"), (0, .fieldref 8 9), (0, .class_ 10), (0, .nameAndType 11 12), (0, u "com/example/otayori/otayori/codec/PacketIds"), (0, u "next"), (0, u "I"), (0, .fieldref 8 14), (0, .nameAndType 15 12), (0, u "count"), (1, .methodref 8 18), (0, .nameAndType 19 20), (0, u "holding"), (0, u "()Ljava/util/BitSet;"), (1, .class_ 24), (1, u "java/util/BitSet"), (2, .methodref 22 28), (0, .nameAndType 29 30), (0, u "set"), (0, u "(I)V"), (0, .methodref 8 32), (0, .nameAndType 33 34), (0, u "isHeld"), (0, u "(I)Z"), (0, .fieldref 8 36), (0, .nameAndType 37 38), (0, u "held"), (0, u "Ljava/util/BitSet;"), (0, .methodref 22 40), (0, .nameAndType 41 34), (0, u "get"), (0, .methodref 22 43), (0, .nameAndType 44 30), (0, u "clear"), (0, .methodref 22 3), (0, u "MAX"), (6, u "hold"), (0, u "release")] 3

def k2c0 : Code := { maxStack := 2, maxLocals := 1, code := prog_12_method_1_code, exceptionTable := #[], attributes := #[] }
def k2m0 : Method := { name := "<init>", desc := "()V", sig := { parameters := [], returnType := none }, accessFlags := 1, code := some k2c0 }
def k2c1 : Code := { maxStack := 3, maxLocals := 3, code := prog_12_method_3_code, exceptionTable := #[], attributes := #[] }
def k2m1 : Method := { name := "hold", desc := "(I)Z", sig := { parameters := [.int], returnType := some .boolean }, accessFlags := 1, code := some k2c1 }
def k2c2 : Code := { maxStack := 2, maxLocals := 2, code := prog_12_method_4_code, exceptionTable := #[], attributes := #[] }
def k2m2 : Method := { name := "isHeld", desc := "(I)Z", sig := { parameters := [.int], returnType := some .boolean }, accessFlags := 1, code := some k2c2 }
def k2c3 : Code := { maxStack := 3, maxLocals := 3, code := prog_12_method_5_code, exceptionTable := #[], attributes := #[] }
def k2m3 : Method := { name := "release", desc := "(I)Z", sig := { parameters := [.int], returnType := some .boolean }, accessFlags := 1, code := some k2c3 }
def k2c4 : Code := { maxStack := 3, maxLocals := 1, code := prog_12_method_7_code, exceptionTable := #[], attributes := #[] }
def k2m4 : Method := { name := "holding", desc := "()Ljava/util/BitSet;", sig := { parameters := [], returnType := some (.object "java/util/BitSet") }, accessFlags := 2, code := some k2c4 }
/-- com/example/otayori/otayori/codec/PacketIds -/
def k2 : Class := { plain "com/example/otayori/otayori/codec/PacketIds" (some 0) with
  accessFlags := 49
  interfaces := #[]
  cf := some (fileOf pool2 8 #[] #[{ accessFlags := 1, nameIndex := 5, descriptorIndex := 6, attributes := #[] }, { accessFlags := 1, nameIndex := 53, descriptorIndex := 34, attributes := #[] }, { accessFlags := 1, nameIndex := 33, descriptorIndex := 34, attributes := #[] }, { accessFlags := 1, nameIndex := 54, descriptorIndex := 34, attributes := #[] }, { accessFlags := 2, nameIndex := 19, descriptorIndex := 20, attributes := #[] }] 49 2 #[] #[{ accessFlags := 25, nameIndex := 46, descriptorIndex := 12, attributes := #[] }, { accessFlags := 2, nameIndex := 37, descriptorIndex := 38, attributes := #[] }, { accessFlags := 2, nameIndex := 15, descriptorIndex := 12, attributes := #[] }, { accessFlags := 2, nameIndex := 11, descriptorIndex := 12, attributes := #[] }])
  fields := #[{ name := "MAX", type := .int, accessFlags := 25, slot := 0, constantValue := 0 }, { name := "held", type := (.object "java/util/BitSet"), accessFlags := 2, slot := 0, constantValue := 0 }, { name := "count", type := .int, accessFlags := 2, slot := 1, constantValue := 0 }, { name := "next", type := .int, accessFlags := 2, slot := 2, constantValue := 0 }]
  methods := #[k2m0, k2m1, k2m2, k2m3, k2m4]
  instanceTypes := #[(.object "java/util/BitSet"), .int, .int]
  staticTypes := #[.int]
  resolved := Array.replicate 58 none
  statics := none }

def pool3 : Array CpInfo := pool [(1, .class_ 2), (0, u "java/lang/Cloneable"), (0, .class_ 4), (0, u "java/lang/Object")] 2

/-- java/lang/Cloneable -/
def k3 : Class := { plain "java/lang/Cloneable" (some 0) with
  accessFlags := 1537
  interfaces := #[]
  cf := some (fileOf pool3 1 #[] #[] 1537 3 #[] #[])
  fields := #[]
  methods := #[]
  instanceTypes := #[]
  staticTypes := #[]
  resolved := Array.replicate 7 none
  statics := none }

def pool4 : Array CpInfo := pool [(1, .class_ 2), (0, u "java/io/Serializable"), (0, .class_ 4), (0, u "java/lang/Object")] 2

/-- java/io/Serializable -/
def k4 : Class := { plain "java/io/Serializable" (some 0) with
  accessFlags := 1537
  interfaces := #[]
  cf := some (fileOf pool4 1 #[] #[] 1537 3 #[] #[])
  fields := #[]
  methods := #[]
  instanceTypes := #[]
  staticTypes := #[]
  resolved := Array.replicate 7 none
  statics := none }

def pool5 : Array CpInfo := pool [(1, .class_ 2), (0, u "java/util/BitSet"), (0, .fieldref 1 4), (0, .nameAndType 5 6), (0, u "$assertionsDisabled"), (0, u "Z"), (0, .fieldref 1 8), (0, .nameAndType 9 10), (0, u "wordsInUse"), (0, u "I"), (0, .fieldref 1 12), (0, .nameAndType 13 14), (0, u "words"), (0, u "[J"), (3, .nameAndType 19 20), (0, u "<init>"), (0, u "()V"), (0, .methodref 22 18), (0, .class_ 23), (0, u "java/lang/Object"), (0, .fieldref 1 25), (0, .nameAndType 26 6), (0, u "sizeIsSticky"), (0, .methodref 1 28), (0, .nameAndType 29 30), (0, u "initWords"), (0, u "(I)V"), (21, .methodref 1 53), (0, .nameAndType 54 55), (0, u "wordIndex"), (0, u "(I)I"), (0, .methodref 1 57), (0, .nameAndType 58 20), (0, u "checkInvariants"), (0, .methodref 60 61), (0, .class_ 62), (0, .nameAndType 63 64), (0, u "java/util/Arrays"), (0, u "copyOf"), (0, u "([JI)[J"), (15, u "get"), (52, .methodref 134 135), (0, .class_ 136), (0, .nameAndType 137 138), (0, u "java/lang/Math"), (0, u "max"), (0, u "(II)I"), (0, .methodref 1 140), (0, .nameAndType 141 30), (0, u "ensureCapacity"), (13, .methodref 1 156), (0, .nameAndType 157 30), (0, u "expandTo"), (0, .methodref 1 159), (0, .nameAndType 160 20), (0, u "recalculateWordsInUse"), (4, .long 18446744073709551615), (3, u "set"), (2, u "clear"), (96, .class_ 270), (0, u "java/util/BitSet$1BitSetSpliterator"), (22, u "serialPersistentFields"), (0, u "[Ljava/io/ObjectStreamField;"), (0, .class_ 296), (0, u "java/lang/Cloneable"), (0, .class_ 298), (0, u "java/io/Serializable"), (0, u "ADDRESS_BITS_PER_WORD"), (2, u "BITS_PER_WORD"), (1, u "BIT_INDEX_MASK"), (1, u "WORD_MASK"), (0, u "J"), (0, u "serialVersionUID"), (42, u "(I)Z")] 65

def k5c0 : Code := { maxStack := 2, maxLocals := 1, code := jdk_92_method_1_code, exceptionTable := #[], attributes := #[] }
def k5m0 : Method := { name := "wordIndex", desc := "(I)I", sig := { parameters := [.int], returnType := some .int }, accessFlags := 10, code := some k5c0 }
def k5c1 : Code := { maxStack := 4, maxLocals := 1, code := jdk_92_method_2_code, exceptionTable := #[], attributes := #[] }
def k5m1 : Method := { name := "checkInvariants", desc := "()V", sig := { parameters := [], returnType := none }, accessFlags := 2, code := some k5c1 }
def k5c2 : Code := { maxStack := 4, maxLocals := 2, code := jdk_92_method_3_code, exceptionTable := #[], attributes := #[] }
def k5m2 : Method := { name := "recalculateWordsInUse", desc := "()V", sig := { parameters := [], returnType := none }, accessFlags := 2, code := some k5c2 }
def k5c3 : Code := { maxStack := 2, maxLocals := 1, code := jdk_92_method_4_code, exceptionTable := #[], attributes := #[] }
def k5m3 : Method := { name := "<init>", desc := "()V", sig := { parameters := [], returnType := none }, accessFlags := 1, code := some k5c3 }
def k5c4 : Code := { maxStack := 3, maxLocals := 2, code := jdk_92_method_6_code, exceptionTable := #[], attributes := #[] }
def k5m4 : Method := { name := "initWords", desc := "(I)V", sig := { parameters := [.int], returnType := none }, accessFlags := 2, code := some k5c4 }
def k5c5 : Code := { maxStack := 3, maxLocals := 3, code := jdk_92_method_14_code, exceptionTable := #[], attributes := #[] }
def k5m5 : Method := { name := "ensureCapacity", desc := "(I)V", sig := { parameters := [.int], returnType := none }, accessFlags := 2, code := some k5c5 }
def k5c6 : Code := { maxStack := 2, maxLocals := 3, code := jdk_92_method_15_code, exceptionTable := #[], attributes := #[] }
def k5m6 : Method := { name := "expandTo", desc := "(I)V", sig := { parameters := [.int], returnType := none }, accessFlags := 2, code := some k5c6 }
def k5c7 : Code := { maxStack := 7, maxLocals := 3, code := jdk_92_method_19_code, exceptionTable := #[], attributes := #[] }
def k5m7 : Method := { name := "set", desc := "(I)V", sig := { parameters := [.int], returnType := none }, accessFlags := 1, code := some k5c7 }
def k5c8 : Code := { maxStack := 8, maxLocals := 3, code := jdk_92_method_23_code, exceptionTable := #[], attributes := #[] }
def k5m8 : Method := { name := "clear", desc := "(I)V", sig := { parameters := [.int], returnType := none }, accessFlags := 1, code := some k5c8 }
def k5c9 : Code := { maxStack := 5, maxLocals := 3, code := jdk_92_method_26_code, exceptionTable := #[], attributes := #[] }
def k5m9 : Method := { name := "get", desc := "(I)Z", sig := { parameters := [.int], returnType := some .boolean }, accessFlags := 1, code := some k5c9 }
/-- java/util/BitSet -/
def k5 : Class := { plain "java/util/BitSet" (some 0) with
  accessFlags := 33
  interfaces := #[3, 4]
  cf := some (fileOf pool5 1 #[.nestMembers #[269]] #[{ accessFlags := 10, nameIndex := 54, descriptorIndex := 55, attributes := #[] }, { accessFlags := 2, nameIndex := 58, descriptorIndex := 20, attributes := #[] }, { accessFlags := 2, nameIndex := 160, descriptorIndex := 20, attributes := #[] }, { accessFlags := 1, nameIndex := 19, descriptorIndex := 20, attributes := #[] }, { accessFlags := 2, nameIndex := 29, descriptorIndex := 30, attributes := #[] }, { accessFlags := 2, nameIndex := 141, descriptorIndex := 30, attributes := #[] }, { accessFlags := 2, nameIndex := 157, descriptorIndex := 30, attributes := #[] }, { accessFlags := 1, nameIndex := 169, descriptorIndex := 30, attributes := #[] }, { accessFlags := 1, nameIndex := 172, descriptorIndex := 30, attributes := #[] }, { accessFlags := 1, nameIndex := 80, descriptorIndex := 351, attributes := #[] }] 33 22 #[295, 297] #[{ accessFlags := 26, nameIndex := 299, descriptorIndex := 10, attributes := #[] }, { accessFlags := 26, nameIndex := 302, descriptorIndex := 10, attributes := #[] }, { accessFlags := 26, nameIndex := 304, descriptorIndex := 10, attributes := #[] }, { accessFlags := 26, nameIndex := 306, descriptorIndex := 307, attributes := #[] }, { accessFlags := 26, nameIndex := 293, descriptorIndex := 294, attributes := #[] }, { accessFlags := 2, nameIndex := 13, descriptorIndex := 14, attributes := #[] }, { accessFlags := 130, nameIndex := 9, descriptorIndex := 10, attributes := #[] }, { accessFlags := 130, nameIndex := 26, descriptorIndex := 6, attributes := #[] }, { accessFlags := 26, nameIndex := 308, descriptorIndex := 307, attributes := #[] }, { accessFlags := 4120, nameIndex := 5, descriptorIndex := 6, attributes := #[] }])
  fields := #[{ name := "ADDRESS_BITS_PER_WORD", type := .int, accessFlags := 26, slot := 0, constantValue := 0 }, { name := "BITS_PER_WORD", type := .int, accessFlags := 26, slot := 1, constantValue := 0 }, { name := "BIT_INDEX_MASK", type := .int, accessFlags := 26, slot := 2, constantValue := 0 }, { name := "WORD_MASK", type := .long, accessFlags := 26, slot := 3, constantValue := 0 }, { name := "serialPersistentFields", type := (.array (.object "java/io/ObjectStreamField")), accessFlags := 26, slot := 4, constantValue := 0 }, { name := "words", type := (.array .long), accessFlags := 2, slot := 0, constantValue := 0 }, { name := "wordsInUse", type := .int, accessFlags := 130, slot := 1, constantValue := 0 }, { name := "sizeIsSticky", type := .boolean, accessFlags := 130, slot := 2, constantValue := 0 }, { name := "serialVersionUID", type := .long, accessFlags := 26, slot := 5, constantValue := 0 }, { name := "$assertionsDisabled", type := .boolean, accessFlags := 4120, slot := 6, constantValue := 0 }]
  methods := #[k5m0, k5m1, k5m2, k5m3, k5m4, k5m5, k5m6, k5m7, k5m8, k5m9]
  instanceTypes := #[(.array .long), .int, .boolean]
  staticTypes := #[.int, .int, .int, .long, (.array (.object "java/io/ObjectStreamField")), .long, .boolean]
  resolved := Array.replicate 417 none
  statics := some 0 }

def pool6 : Array CpInfo := pool [(1, .class_ 2), (0, u "java/lang/Math"), (1, .class_ 6), (1, u "java/lang/Object"), (0, u "<init>"), (0, u "()V"), (89, .class_ 100), (1, u "java/lang/Math$RandomNumberGeneratorHolder"), (71, u "negativeZeroFloatBits"), (0, u "J"), (2, u "negativeZeroDoubleBits"), (21, u "max"), (2, u "min"), (43, u "$assertionsDisabled"), (0, u "Z"), (88, u "(II)I"), (2, u "twoToTheDoubleScaleDown"), (0, u "D"), (4, u "twoToTheDoubleScaleUp"), (9, u "E"), (3, u "PI"), (2, u "TAU"), (2, u "DEGREES_TO_RADIANS"), (0, u "RADIANS_TO_DEGREES")] 94

def k6m0 : Method := { name := "<init>", desc := "()V", sig := { parameters := [], returnType := none }, accessFlags := 2, code := none }
def k6c1 : Code := { maxStack := 2, maxLocals := 2, code := jdk_29_method_65_code, exceptionTable := #[], attributes := #[] }
def k6m1 : Method := { name := "max", desc := "(II)I", sig := { parameters := [.int, .int], returnType := some .int }, accessFlags := 9, code := some k6c1 }
def k6c2 : Code := { maxStack := 2, maxLocals := 2, code := jdk_29_method_69_code, exceptionTable := #[], attributes := #[] }
def k6m2 : Method := { name := "min", desc := "(II)I", sig := { parameters := [.int, .int], returnType := some .int }, accessFlags := 9, code := some k6c2 }
/-- java/lang/Math -/
def k6 : Class := { plain "java/lang/Math" (some 0) with
  accessFlags := 49
  interfaces := #[]
  cf := some (fileOf pool6 1 #[.nestMembers #[98]] #[{ accessFlags := 2, nameIndex := 7, descriptorIndex := 8, attributes := #[] }, { accessFlags := 9, nameIndex := 198, descriptorIndex := 335, attributes := #[] }, { accessFlags := 9, nameIndex := 201, descriptorIndex := 335, attributes := #[] }] 49 4 #[] #[{ accessFlags := 25, nameIndex := 354, descriptorIndex := 339, attributes := #[] }, { accessFlags := 25, nameIndex := 358, descriptorIndex := 339, attributes := #[] }, { accessFlags := 25, nameIndex := 361, descriptorIndex := 339, attributes := #[] }, { accessFlags := 26, nameIndex := 364, descriptorIndex := 339, attributes := #[] }, { accessFlags := 26, nameIndex := 365, descriptorIndex := 339, attributes := #[] }, { accessFlags := 26, nameIndex := 172, descriptorIndex := 173, attributes := #[] }, { accessFlags := 26, nameIndex := 176, descriptorIndex := 173, attributes := #[] }, { accessFlags := 8, nameIndex := 344, descriptorIndex := 339, attributes := #[] }, { accessFlags := 8, nameIndex := 338, descriptorIndex := 339, attributes := #[] }, { accessFlags := 4120, nameIndex := 245, descriptorIndex := 246, attributes := #[] }])
  fields := #[{ name := "E", type := .double, accessFlags := 25, slot := 0, constantValue := 0 }, { name := "PI", type := .double, accessFlags := 25, slot := 1, constantValue := 0 }, { name := "TAU", type := .double, accessFlags := 25, slot := 2, constantValue := 0 }, { name := "DEGREES_TO_RADIANS", type := .double, accessFlags := 26, slot := 3, constantValue := 0 }, { name := "RADIANS_TO_DEGREES", type := .double, accessFlags := 26, slot := 4, constantValue := 0 }, { name := "negativeZeroFloatBits", type := .long, accessFlags := 26, slot := 5, constantValue := 0 }, { name := "negativeZeroDoubleBits", type := .long, accessFlags := 26, slot := 6, constantValue := 0 }, { name := "twoToTheDoubleScaleUp", type := .double, accessFlags := 8, slot := 7, constantValue := 0 }, { name := "twoToTheDoubleScaleDown", type := .double, accessFlags := 8, slot := 8, constantValue := 0 }, { name := "$assertionsDisabled", type := .boolean, accessFlags := 4120, slot := 9, constantValue := 0 }]
  methods := #[k6m0, k6m1, k6m2]
  instanceTypes := #[]
  staticTypes := #[.double, .double, .double, .double, .double, .long, .long, .double, .double, .boolean]
  resolved := Array.replicate 460 none
  statics := none }

def pool7 : Array CpInfo := pool [(2, .class_ 4), (1, u "java/lang/Object"), (0, u "<init>"), (0, u "()V"), (7, .class_ 16), (1, u "java/util/Arrays"), (57, .class_ 76), (1, u "java/util/Arrays$NaturalOrder"), (36, .class_ 115), (1, u "java/util/Arrays$LegacyMergeSort"), (1, u "Z"), (32, .methodref 151 152), (0, .class_ 153), (0, .nameAndType 154 155), (0, u "java/lang/System"), (0, u "arraycopy"), (0, u "(Ljava/lang/Object;ILjava/lang/Object;II)V"), (146, u "copyOf"), (1, .methodref 305 306), (0, .class_ 307), (0, .nameAndType 308 309), (0, u "java/lang/Math"), (0, u "min"), (0, u "(II)I"), (65, .class_ 376), (0, u "java/util/Arrays$ArrayList"), (68, u "$assertionsDisabled"), (269, u "MIN_ARRAY_SORT_GRAN"), (0, u "I"), (2, u "INSERTIONSORT_THRESHOLD"), (152, u "([JI)[J"), (102, .class_ 976), (0, u "java/util/Arrays$ArrayItr")] 52

def k7m0 : Method := { name := "<init>", desc := "()V", sig := { parameters := [], returnType := none }, accessFlags := 2, code := none }
def k7c1 : Code := { maxStack := 6, maxLocals := 3, code := jdk_65_method_124_code, exceptionTable := #[], attributes := #[] }
def k7m1 : Method := { name := "copyOf", desc := "([JI)[J", sig := { parameters := [(.array .long), .int], returnType := some (.array .long) }, accessFlags := 9, code := some k7c1 }
/-- java/util/Arrays -/
def k7 : Class := { plain "java/util/Arrays" (some 0) with
  accessFlags := 49
  interfaces := #[]
  cf := some (fileOf pool7 14 #[.nestMembers #[975, 375, 113, 74]] #[{ accessFlags := 2, nameIndex := 5, descriptorIndex := 6, attributes := #[] }, { accessFlags := 9, nameIndex := 302, descriptorIndex := 872, attributes := #[] }] 49 2 #[] #[{ accessFlags := 26, nameIndex := 715, descriptorIndex := 716, attributes := #[] }, { accessFlags := 26, nameIndex := 719, descriptorIndex := 716, attributes := #[] }, { accessFlags := 4120, nameIndex := 445, descriptorIndex := 117, attributes := #[] }])
  fields := #[{ name := "MIN_ARRAY_SORT_GRAN", type := .int, accessFlags := 26, slot := 0, constantValue := 0 }, { name := "INSERTIONSORT_THRESHOLD", type := .int, accessFlags := 26, slot := 1, constantValue := 0 }, { name := "$assertionsDisabled", type := .boolean, accessFlags := 4120, slot := 2, constantValue := 0 }]
  methods := #[k7m0, k7m1]
  instanceTypes := #[]
  staticTypes := #[.int, .int, .boolean]
  resolved := Array.replicate 1029 none
  statics := none }

def pool8 : Array CpInfo := pool [(2, .class_ 4), (1, u "java/lang/Object"), (0, u "<init>"), (0, u "()V"), (1, .class_ 10), (1, u "java/lang/System"), (0, u "allowSecurityManager"), (0, u "I"), (16, u "cons"), (0, u "Ljava/io/Console;"), (77, .class_ 110), (1, u "java/lang/System$CallersHolder"), (43, u "initialErrStream"), (0, u "Ljava/io/PrintStream;"), (19, u "security"), (0, u "Ljava/lang/SecurityManager;"), (31, .class_ 209), (0, u "java/lang/System$1"), (7, u "props"), (0, u "Ljava/util/Properties;"), (2, u "lineSeparator"), (0, u "Ljava/lang/String;"), (96, .class_ 321), (1, u "java/lang/System$LoggerFinder"), (5, .class_ 328), (0, u "java/lang/System$Logger"), (67, u "err"), (2, u "out"), (91, u "notSupportedJnuEncoding"), (15, u "in"), (17, u "initialIn"), (0, u "Ljava/io/InputStream;"), (35, u "bootLayer"), (0, u "Ljava/lang/ModuleLayer;"), (99, .class_ 664), (0, u "java/lang/System$2"), (9, u "NEVER"), (2, u "MAYBE"), (49, u "arraycopy"), (0, u "(Ljava/lang/Object;ILjava/lang/Object;II)V"), (72, .class_ 802), (0, u "java/lang/System$Logger$Level")] 31

def k8m0 : Method := { name := "<init>", desc := "()V", sig := { parameters := [], returnType := none }, accessFlags := 2, code := none }
def k8m1 : Method := { name := "arraycopy", desc := "(Ljava/lang/Object;ILjava/lang/Object;II)V", sig := { parameters := [(.object "java/lang/Object"), .int, (.object "java/lang/Object"), .int, .int], returnType := none }, accessFlags := 265, code := none }
/-- java/lang/System -/
def k8 : Class := { plain "java/lang/System" (some 0) with
  accessFlags := 49
  interfaces := #[]
  cf := some (fileOf pool8 8 #[.nestMembers #[319, 327, 801, 108, 663, 208]] #[{ accessFlags := 2, nameIndex := 5, descriptorIndex := 6, attributes := #[] }, { accessFlags := 265, nameIndex := 727, descriptorIndex := 728, attributes := #[] }] 49 2 #[] #[{ accessFlags := 25, nameIndex := 507, descriptorIndex := 526, attributes := #[] }, { accessFlags := 25, nameIndex := 399, descriptorIndex := 155, attributes := #[] }, { accessFlags := 25, nameIndex := 396, descriptorIndex := 155, attributes := #[] }, { accessFlags := 10, nameIndex := 525, descriptorIndex := 526, attributes := #[] }, { accessFlags := 26, nameIndex := 674, descriptorIndex := 12, attributes := #[] }, { accessFlags := 26, nameIndex := 677, descriptorIndex := 12, attributes := #[] }, { accessFlags := 10, nameIndex := 11, descriptorIndex := 12, attributes := #[] }, { accessFlags := 74, nameIndex := 175, descriptorIndex := 176, attributes := #[] }, { accessFlags := 10, nameIndex := 491, descriptorIndex := 222, attributes := #[] }, { accessFlags := 74, nameIndex := 29, descriptorIndex := 30, attributes := #[] }, { accessFlags := 74, nameIndex := 154, descriptorIndex := 155, attributes := #[] }, { accessFlags := 10, nameIndex := 217, descriptorIndex := 218, attributes := #[] }, { accessFlags := 10, nameIndex := 221, descriptorIndex := 222, attributes := #[] }, { accessFlags := 8, nameIndex := 562, descriptorIndex := 563, attributes := #[] }])
  fields := #[{ name := "in", type := (.object "java/io/InputStream"), accessFlags := 25, slot := 0, constantValue := 0 }, { name := "out", type := (.object "java/io/PrintStream"), accessFlags := 25, slot := 1, constantValue := 0 }, { name := "err", type := (.object "java/io/PrintStream"), accessFlags := 25, slot := 2, constantValue := 0 }, { name := "initialIn", type := (.object "java/io/InputStream"), accessFlags := 10, slot := 3, constantValue := 0 }, { name := "NEVER", type := .int, accessFlags := 26, slot := 4, constantValue := 0 }, { name := "MAYBE", type := .int, accessFlags := 26, slot := 5, constantValue := 0 }, { name := "allowSecurityManager", type := .int, accessFlags := 10, slot := 6, constantValue := 0 }, { name := "security", type := (.object "java/lang/SecurityManager"), accessFlags := 74, slot := 7, constantValue := 0 }, { name := "notSupportedJnuEncoding", type := (.object "java/lang/String"), accessFlags := 10, slot := 8, constantValue := 0 }, { name := "cons", type := (.object "java/io/Console"), accessFlags := 74, slot := 9, constantValue := 0 }, { name := "initialErrStream", type := (.object "java/io/PrintStream"), accessFlags := 74, slot := 10, constantValue := 0 }, { name := "props", type := (.object "java/util/Properties"), accessFlags := 10, slot := 11, constantValue := 0 }, { name := "lineSeparator", type := (.object "java/lang/String"), accessFlags := 10, slot := 12, constantValue := 0 }, { name := "bootLayer", type := (.object "java/lang/ModuleLayer"), accessFlags := 8, slot := 13, constantValue := 0 }]
  methods := #[k8m0, k8m1]
  instanceTypes := #[]
  staticTypes := #[(.object "java/io/InputStream"), (.object "java/io/PrintStream"), (.object "java/io/PrintStream"), (.object "java/io/InputStream"), .int, .int, .int, (.object "java/lang/SecurityManager"), (.object "java/lang/String"), (.object "java/io/Console"), (.object "java/io/PrintStream"), (.object "java/util/Properties"), (.object "java/lang/String"), (.object "java/lang/ModuleLayer")]
  resolved := Array.replicate 834 none
  statics := none }

/-- the primitive byte -/
def k9 : Class := { plain "byte" none with kind := .primitive 'B', accessFlags := 0x411 }
/-- [B -/
def k10 : Class := { plain "[B" (some 0) with kind := .array 9 .byte, interfaces := #[3, 4], accessFlags := 1041 }

/-- the primitive int -/
def k11 : Class := { plain "int" none with kind := .primitive 'I', accessFlags := 0x411 }
/-- [I -/
def k12 : Class := { plain "[I" (some 0) with kind := .array 11 .int, interfaces := #[3, 4], accessFlags := 1041 }

/-- the primitive long -/
def k13 : Class := { plain "long" none with kind := .primitive 'J', accessFlags := 0x411 }
/-- [J -/
def k14 : Class := { plain "[J" (some 0) with kind := .array 13 .long, interfaces := #[3, 4], accessFlags := 1041 }

def heap : Heap := #[{ cls := 5, slots := #[.int 0, .int 0, .int 0, .long 0, .null, .long 0, .int 1], vm := .statics 5 }]
def classes : Array Class := #[k0, k1, k2, k3, k4, k5, k6, k7, k8, k9, k10, k11, k12, k13, k14]
def interned : List (Array UInt16 × Addr) := []
def slotsUsed : Nat := 7
def theMethod : MethodId := ⟨1, 2⟩
def args0 : Array Value := #[.int 5, .int 3, .int 4, .int 7]
def aboutOver (below : List Frame) : State where
  vm := { classes := classes, interned := interned.toArray }
  heap := heap
  slotsUsed := slotsUsed
  threads := #[{ frames := .invoking theMethod args0 :: below }]
def below0 : List Frame := [.native { method := ⟨0, 0⟩, args := #[] }]
def about1 : State := aboutOver below0
def p0 : Program := .bare "" "" ""
def e0 : Env := launch0.env 0 0 0
theorem w_frames : about1.frames = Frame.invoking theMethod args0 :: below0 := rfl
set_option maxRecDepth 65536 in
theorem w_args : argsFit about1.vm theMethod args0 = true := by decide +kernel
set_option maxRecDepth 65536 in
theorem w_heap : heapFits about1 = true := by decide +kernel
set_option maxRecDepth 65536 in
theorem w_runnable : about1.curStatus? = some .runnable := by decide +kernel
set_option maxRecDepth 65536 in
theorem w_alone : about1.alone = true := by decide +kernel
set_option maxRecDepth 65536 in
theorem w_named : about1.methodNamed? x = some theMethod := by decide +kernel
set_option maxRecDepth 65536 in
theorem w_hears : about1.hears theMethod below0 = true := by decide +kernel
set_option maxRecDepth 65536 in
theorem w_ripe : about1.ripe theMethod args0 below0 = true := by decide +kernel
theorem w_running : about1.status = .running := rfl
set_option maxRecDepth 65536 in
theorem w_room : about1.hasRoom e0.platform room_1 = true :=
  launch0.hasRoom_least _ room_1 (by decide +kernel) (by decide +kernel) (by decide +kernel) (by decide +kernel) (by decide +kernel) (by decide +kernel)
theorem allAtoms_all (ts : List Jvm.Cond) (a : Array Jvm.Value) (st : Jvm.State) : (allAtoms ts).before a st = ts.all (fun c => c.before a st) := by
  induction ts with
  | nil => rfl
  | cons c t ih =>
    show (Jvm.Cond.and c (allAtoms t)).before a st = _
    rw [Jvm.Cond.before_and, ih, List.all_cons]
def words1 : List Jvm.Cond := Jvm.Cond.code x code maxLocals ret :: tables_1
/-- a 'code' word, met by the world's own term for the bytes: nothing is compared byte by byte -/
theorem code_word {y : MethodName} {bytes : ByteArray} {mx : Nat} {rt : Option FieldType} {a : Array Value} {s : State} {m : MethodId} {meth : Method} {c : Code} (h1 : s.methodNamed? y = some m) (h2 : s.vm.method? m = some meth) (h3 : meth.code = some c) (h4 : c.code = bytes)
    (h5 : (c.maxLocals == mx && c.exceptionTable.isEmpty && decide (c.maxStack ≤ mostOperands) && decide (meth.sig.returnType = rt) && !meth.locks && decide (parseMethodDescriptor y.desc = some meth.sig)) = true) : (Jvm.Cond.code y bytes mx rt).before a s = true := by
  simp only [Bool.and_eq_true, beq_iff_eq, Bool.not_eq_true', decide_eq_true_eq] at h5
  obtain ⟨⟨⟨⟨⟨g1, g2⟩, g3⟩, g4⟩, g5⟩, g6⟩ := h5
  simp [Cond.before, Cond.holds, Cond.value, h1, h2, h3, h4, g1, g2, g3, g4, g5, g6]
def isCode : Jvm.Cond → Bool
  | .code _ _ _ _ => true
  | _ => false
theorem all_split {L : List Jvm.Cond} {P : Jvm.Cond → Bool} (h1 : L.all (fun c => isCode c || P c) = true) (h2 : ∀ c ∈ L.filter isCode, P c = true) : L.all P = true := by
  refine List.all_eq_true.mpr fun c hc => ?_
  have h := List.all_eq_true.mp h1 c hc
  rcases Bool.eq_false_or_eq_true (isCode c) with hi | hi
  · exact h2 c (List.mem_filter.mpr ⟨hc, hi⟩)
  · simpa [hi] using h
set_option maxRecDepth 65536 in
theorem w_c0 : (Jvm.Cond.code x code maxLocals ret).before args0 about1 = true := code_word (m := ⟨1, 2⟩) (meth := k1m2) (c := k1c2) (by decide +kernel) rfl rfl rfl (by decide +kernel)
set_option maxRecDepth 65536 in
theorem w_c1 : (Jvm.Cond.code ({ cls := "com/example/otayori/otayori/codec/PacketIdsIsHeldPinLaw", name := "id", desc := "(I)I" } : Jvm.MethodName) method_2_code (1 : Nat) (Option.some Jvm.ClassFile.FieldType.int)).before args0 about1 = true := code_word (m := ⟨1, 1⟩) (meth := k1m1) (c := k1c1) (by decide +kernel) rfl rfl rfl (by decide +kernel)
set_option maxRecDepth 65536 in
theorem w_c2 : (Jvm.Cond.code ({ cls := "com/example/otayori/otayori/codec/PacketIds", name := "<init>", desc := "()V" } : Jvm.MethodName) prog_12_method_1_code (1 : Nat) (Option.none : Option Jvm.ClassFile.FieldType)).before args0 about1 = true := code_word (m := ⟨2, 0⟩) (meth := k2m0) (c := k2c0) (by decide +kernel) rfl rfl rfl (by decide +kernel)
set_option maxRecDepth 65536 in
theorem w_c3 : (Jvm.Cond.code ({ cls := "java/lang/Object", name := "<init>", desc := "()V" } : Jvm.MethodName) object_method_1_code (1 : Nat) (Option.none : Option Jvm.ClassFile.FieldType)).before args0 about1 = true := code_word (m := ⟨0, 0⟩) (meth := k0m0) (c := k0c0) (by decide +kernel) rfl rfl rfl (by decide +kernel)
set_option maxRecDepth 65536 in
theorem w_c4 : (Jvm.Cond.code ({ cls := "com/example/otayori/otayori/codec/PacketIds", name := "isHeld", desc := "(I)Z" } : Jvm.MethodName) prog_12_method_4_code (2 : Nat) (Option.some Jvm.ClassFile.FieldType.boolean)).before args0 about1 = true := code_word (m := ⟨2, 2⟩) (meth := k2m2) (c := k2c2) (by decide +kernel) rfl rfl rfl (by decide +kernel)
set_option maxRecDepth 65536 in
theorem w_c5 : (Jvm.Cond.code ({ cls := "com/example/otayori/otayori/codec/PacketIds", name := "hold", desc := "(I)Z" } : Jvm.MethodName) prog_12_method_3_code (3 : Nat) (Option.some Jvm.ClassFile.FieldType.boolean)).before args0 about1 = true := code_word (m := ⟨2, 1⟩) (meth := k2m1) (c := k2c1) (by decide +kernel) rfl rfl rfl (by decide +kernel)
set_option maxRecDepth 65536 in
theorem w_c6 : (Jvm.Cond.code ({ cls := "com/example/otayori/otayori/codec/PacketIds", name := "holding", desc := "()Ljava/util/BitSet;" } : Jvm.MethodName) prog_12_method_7_code (1 : Nat) (Option.some (Jvm.ClassFile.FieldType.object "java/util/BitSet"))).before args0 about1 = true := code_word (m := ⟨2, 4⟩) (meth := k2m4) (c := k2c4) (by decide +kernel) rfl rfl rfl (by decide +kernel)
set_option maxRecDepth 65536 in
theorem w_c7 : (Jvm.Cond.code ({ cls := "java/util/BitSet", name := "<init>", desc := "()V" } : Jvm.MethodName) jdk_92_method_4_code (1 : Nat) (Option.none : Option Jvm.ClassFile.FieldType)).before args0 about1 = true := code_word (m := ⟨5, 3⟩) (meth := k5m3) (c := k5c3) (by decide +kernel) rfl rfl rfl (by decide +kernel)
set_option maxRecDepth 65536 in
theorem w_c8 : (Jvm.Cond.code ({ cls := "java/util/BitSet", name := "initWords", desc := "(I)V" } : Jvm.MethodName) jdk_92_method_6_code (2 : Nat) (Option.none : Option Jvm.ClassFile.FieldType)).before args0 about1 = true := code_word (m := ⟨5, 4⟩) (meth := k5m4) (c := k5c4) (by decide +kernel) rfl rfl rfl (by decide +kernel)
set_option maxRecDepth 65536 in
theorem w_c9 : (Jvm.Cond.code ({ cls := "java/util/BitSet", name := "wordIndex", desc := "(I)I" } : Jvm.MethodName) jdk_92_method_1_code (1 : Nat) (Option.some Jvm.ClassFile.FieldType.int)).before args0 about1 = true := code_word (m := ⟨5, 0⟩) (meth := k5m0) (c := k5c0) (by decide +kernel) rfl rfl rfl (by decide +kernel)
set_option maxRecDepth 65536 in
theorem w_c10 : (Jvm.Cond.code ({ cls := "java/util/BitSet", name := "set", desc := "(I)V" } : Jvm.MethodName) jdk_92_method_19_code (3 : Nat) (Option.none : Option Jvm.ClassFile.FieldType)).before args0 about1 = true := code_word (m := ⟨5, 7⟩) (meth := k5m7) (c := k5c7) (by decide +kernel) rfl rfl rfl (by decide +kernel)
set_option maxRecDepth 65536 in
theorem w_c11 : (Jvm.Cond.code ({ cls := "java/util/BitSet", name := "expandTo", desc := "(I)V" } : Jvm.MethodName) jdk_92_method_15_code (3 : Nat) (Option.none : Option Jvm.ClassFile.FieldType)).before args0 about1 = true := code_word (m := ⟨5, 6⟩) (meth := k5m6) (c := k5c6) (by decide +kernel) rfl rfl rfl (by decide +kernel)
set_option maxRecDepth 65536 in
theorem w_c12 : (Jvm.Cond.code ({ cls := "java/util/BitSet", name := "ensureCapacity", desc := "(I)V" } : Jvm.MethodName) jdk_92_method_14_code (3 : Nat) (Option.none : Option Jvm.ClassFile.FieldType)).before args0 about1 = true := code_word (m := ⟨5, 5⟩) (meth := k5m5) (c := k5c5) (by decide +kernel) rfl rfl rfl (by decide +kernel)
set_option maxRecDepth 65536 in
theorem w_c13 : (Jvm.Cond.code ({ cls := "java/util/BitSet", name := "checkInvariants", desc := "()V" } : Jvm.MethodName) jdk_92_method_2_code (1 : Nat) (Option.none : Option Jvm.ClassFile.FieldType)).before args0 about1 = true := code_word (m := ⟨5, 1⟩) (meth := k5m1) (c := k5c1) (by decide +kernel) rfl rfl rfl (by decide +kernel)
set_option maxRecDepth 65536 in
theorem w_c14 : (Jvm.Cond.code ({ cls := "java/util/BitSet", name := "get", desc := "(I)Z" } : Jvm.MethodName) jdk_92_method_26_code (3 : Nat) (Option.some Jvm.ClassFile.FieldType.boolean)).before args0 about1 = true := code_word (m := ⟨5, 9⟩) (meth := k5m9) (c := k5c9) (by decide +kernel) rfl rfl rfl (by decide +kernel)
set_option maxRecDepth 65536 in
theorem w_c15 : (Jvm.Cond.code ({ cls := "java/lang/Math", name := "max", desc := "(II)I" } : Jvm.MethodName) jdk_29_method_65_code (2 : Nat) (Option.some Jvm.ClassFile.FieldType.int)).before args0 about1 = true := code_word (m := ⟨6, 1⟩) (meth := k6m1) (c := k6c1) (by decide +kernel) rfl rfl rfl (by decide +kernel)
set_option maxRecDepth 65536 in
theorem w_c16 : (Jvm.Cond.code ({ cls := "java/util/Arrays", name := "copyOf", desc := "([JI)[J" } : Jvm.MethodName) jdk_65_method_124_code (3 : Nat) (Option.some (Jvm.ClassFile.FieldType.array Jvm.ClassFile.FieldType.long))).before args0 about1 = true := code_word (m := ⟨7, 1⟩) (meth := k7m1) (c := k7c1) (by decide +kernel) rfl rfl rfl (by decide +kernel)
set_option maxRecDepth 65536 in
theorem w_c17 : (Jvm.Cond.code ({ cls := "java/lang/Math", name := "min", desc := "(II)I" } : Jvm.MethodName) jdk_29_method_69_code (2 : Nat) (Option.some Jvm.ClassFile.FieldType.int)).before args0 about1 = true := code_word (m := ⟨6, 2⟩) (meth := k6m2) (c := k6c2) (by decide +kernel) rfl rfl rfl (by decide +kernel)
set_option maxRecDepth 65536 in
theorem w_c18 : (Jvm.Cond.code ({ cls := "com/example/otayori/otayori/codec/PacketIds", name := "release", desc := "(I)Z" } : Jvm.MethodName) prog_12_method_5_code (3 : Nat) (Option.some Jvm.ClassFile.FieldType.boolean)).before args0 about1 = true := code_word (m := ⟨2, 3⟩) (meth := k2m3) (c := k2c3) (by decide +kernel) rfl rfl rfl (by decide +kernel)
set_option maxRecDepth 65536 in
theorem w_c19 : (Jvm.Cond.code ({ cls := "java/util/BitSet", name := "clear", desc := "(I)V" } : Jvm.MethodName) jdk_92_method_23_code (3 : Nat) (Option.none : Option Jvm.ClassFile.FieldType)).before args0 about1 = true := code_word (m := ⟨5, 8⟩) (meth := k5m8) (c := k5c8) (by decide +kernel) rfl rfl rfl (by decide +kernel)
set_option maxRecDepth 65536 in
theorem w_c20 : (Jvm.Cond.code ({ cls := "java/util/BitSet", name := "recalculateWordsInUse", desc := "()V" } : Jvm.MethodName) jdk_92_method_3_code (2 : Nat) (Option.none : Option Jvm.ClassFile.FieldType)).before args0 about1 = true := code_word (m := ⟨5, 2⟩) (meth := k5m2) (c := k5c2) (by decide +kernel) rfl rfl rfl (by decide +kernel)
def codes1 : List Jvm.Cond := [Jvm.Cond.code x code maxLocals ret, Jvm.Cond.code ({ cls := "com/example/otayori/otayori/codec/PacketIdsIsHeldPinLaw", name := "id", desc := "(I)I" } : Jvm.MethodName) method_2_code (1 : Nat) (Option.some Jvm.ClassFile.FieldType.int), Jvm.Cond.code ({ cls := "com/example/otayori/otayori/codec/PacketIds", name := "<init>", desc := "()V" } : Jvm.MethodName) prog_12_method_1_code (1 : Nat) (Option.none : Option Jvm.ClassFile.FieldType), Jvm.Cond.code ({ cls := "java/lang/Object", name := "<init>", desc := "()V" } : Jvm.MethodName) object_method_1_code (1 : Nat) (Option.none : Option Jvm.ClassFile.FieldType), Jvm.Cond.code ({ cls := "com/example/otayori/otayori/codec/PacketIds", name := "isHeld", desc := "(I)Z" } : Jvm.MethodName) prog_12_method_4_code (2 : Nat) (Option.some Jvm.ClassFile.FieldType.boolean), Jvm.Cond.code ({ cls := "com/example/otayori/otayori/codec/PacketIds", name := "hold", desc := "(I)Z" } : Jvm.MethodName) prog_12_method_3_code (3 : Nat) (Option.some Jvm.ClassFile.FieldType.boolean), Jvm.Cond.code ({ cls := "com/example/otayori/otayori/codec/PacketIds", name := "holding", desc := "()Ljava/util/BitSet;" } : Jvm.MethodName) prog_12_method_7_code (1 : Nat) (Option.some (Jvm.ClassFile.FieldType.object "java/util/BitSet")), Jvm.Cond.code ({ cls := "java/util/BitSet", name := "<init>", desc := "()V" } : Jvm.MethodName) jdk_92_method_4_code (1 : Nat) (Option.none : Option Jvm.ClassFile.FieldType), Jvm.Cond.code ({ cls := "java/util/BitSet", name := "initWords", desc := "(I)V" } : Jvm.MethodName) jdk_92_method_6_code (2 : Nat) (Option.none : Option Jvm.ClassFile.FieldType), Jvm.Cond.code ({ cls := "java/util/BitSet", name := "wordIndex", desc := "(I)I" } : Jvm.MethodName) jdk_92_method_1_code (1 : Nat) (Option.some Jvm.ClassFile.FieldType.int), Jvm.Cond.code ({ cls := "java/util/BitSet", name := "set", desc := "(I)V" } : Jvm.MethodName) jdk_92_method_19_code (3 : Nat) (Option.none : Option Jvm.ClassFile.FieldType), Jvm.Cond.code ({ cls := "java/util/BitSet", name := "expandTo", desc := "(I)V" } : Jvm.MethodName) jdk_92_method_15_code (3 : Nat) (Option.none : Option Jvm.ClassFile.FieldType), Jvm.Cond.code ({ cls := "java/util/BitSet", name := "ensureCapacity", desc := "(I)V" } : Jvm.MethodName) jdk_92_method_14_code (3 : Nat) (Option.none : Option Jvm.ClassFile.FieldType), Jvm.Cond.code ({ cls := "java/util/BitSet", name := "checkInvariants", desc := "()V" } : Jvm.MethodName) jdk_92_method_2_code (1 : Nat) (Option.none : Option Jvm.ClassFile.FieldType), Jvm.Cond.code ({ cls := "java/util/BitSet", name := "get", desc := "(I)Z" } : Jvm.MethodName) jdk_92_method_26_code (3 : Nat) (Option.some Jvm.ClassFile.FieldType.boolean), Jvm.Cond.code ({ cls := "java/lang/Math", name := "max", desc := "(II)I" } : Jvm.MethodName) jdk_29_method_65_code (2 : Nat) (Option.some Jvm.ClassFile.FieldType.int), Jvm.Cond.code ({ cls := "java/util/Arrays", name := "copyOf", desc := "([JI)[J" } : Jvm.MethodName) jdk_65_method_124_code (3 : Nat) (Option.some (Jvm.ClassFile.FieldType.array Jvm.ClassFile.FieldType.long)), Jvm.Cond.code ({ cls := "java/lang/Math", name := "min", desc := "(II)I" } : Jvm.MethodName) jdk_29_method_69_code (2 : Nat) (Option.some Jvm.ClassFile.FieldType.int), Jvm.Cond.code ({ cls := "com/example/otayori/otayori/codec/PacketIds", name := "release", desc := "(I)Z" } : Jvm.MethodName) prog_12_method_5_code (3 : Nat) (Option.some Jvm.ClassFile.FieldType.boolean), Jvm.Cond.code ({ cls := "java/util/BitSet", name := "clear", desc := "(I)V" } : Jvm.MethodName) jdk_92_method_23_code (3 : Nat) (Option.none : Option Jvm.ClassFile.FieldType), Jvm.Cond.code ({ cls := "java/util/BitSet", name := "recalculateWordsInUse", desc := "()V" } : Jvm.MethodName) jdk_92_method_3_code (2 : Nat) (Option.none : Option Jvm.ClassFile.FieldType)]
set_option maxRecDepth 65536 in
theorem codes_eq : words1.filter isCode = codes1 := rfl
theorem w_codes : ∀ c ∈ words1.filter isCode, c.before args0 about1 = true := by
  rw [codes_eq]
  intro c hc
  simp only [codes1, List.mem_cons, List.not_mem_nil, or_false] at hc
  rcases hc with rfl | rfl | rfl | rfl | rfl | rfl | rfl | rfl | rfl | rfl | rfl | rfl | rfl | rfl | rfl | rfl | rfl | rfl | rfl | rfl | rfl
  · exact w_c0
  · exact w_c1
  · exact w_c2
  · exact w_c3
  · exact w_c4
  · exact w_c5
  · exact w_c6
  · exact w_c7
  · exact w_c8
  · exact w_c9
  · exact w_c10
  · exact w_c11
  · exact w_c12
  · exact w_c13
  · exact w_c14
  · exact w_c15
  · exact w_c16
  · exact w_c17
  · exact w_c18
  · exact w_c19
  · exact w_c20
set_option maxRecDepth 65536 in
theorem w_t1 : (words1.take 24).all (fun c => isCode c || c.before args0 about1) = true := by decide +kernel
set_option maxRecDepth 65536 in
theorem w_t2 : ((words1.drop 24).take 24).all (fun c => isCode c || c.before args0 about1) = true := by decide +kernel
set_option maxRecDepth 65536 in
theorem w_t3 : (((words1.drop 24).drop 24).take 24).all (fun c => isCode c || c.before args0 about1) = true := by decide +kernel
set_option maxRecDepth 65536 in
theorem w_t4 : ((((words1.drop 24).drop 24).drop 24).take 24).all (fun c => isCode c || c.before args0 about1) = true := by decide +kernel
set_option maxRecDepth 65536 in
theorem w_t5 : ((((words1.drop 24).drop 24).drop 24).drop 24).all (fun c => isCode c || c.before args0 about1) = true := by decide +kernel
theorem w_tables : (allAtoms (Jvm.Cond.code x code maxLocals ret :: tables_1)).before args0 about1 = true := by
  rw [allAtoms_all]
  show words1.all (fun c => c.before args0 about1) = true
  refine all_split ?_ w_codes
  rw [← List.take_append_drop 24 words1, List.all_append, w_t1, ← List.take_append_drop 24 (words1.drop 24), List.all_append, w_t2, ← List.take_append_drop 24 ((words1.drop 24).drop 24), List.all_append, w_t3, ← List.take_append_drop 24 (((words1.drop 24).drop 24).drop 24), List.all_append, w_t4, w_t5]
  rfl
set_option maxRecDepth 65536 in
theorem w_rest : rest_1_c.before args0 about1 = true := by decide +kernel
set_option maxRecDepth 65536 in
theorem w_case : (Jvm.Cond.and given_1 narrow_1).before args0 about1 = true := by decide +kernel
theorem w_applies : (headSpec (Jvm.Cond.code x code maxLocals ret :: tables_1) room_1).applies x e0.platform about1 = true :=
  (Spec.applies_iff w_frames).mpr ⟨w_running, w_runnable, w_alone, w_named, w_hears, w_ripe, w_room, w_tables⟩
theorem atStart : AtStart classFile x code maxLocals ret World_1 tables_1 room_1 Calls_1 rest_1 Pre_1 launch0 p0 e0 about1 theMethod args0 below0 :=
  ⟨lists_1, trivial, launch0.admits_env _ _ _, launch0.least_env, fairChoices_fair.cas, fairChoices_fair.clock, w_frames, w_args, w_heap, w_applies, trivial, w_rest, w_case⟩
end start1
theorem witness_1 : WitnessClaimed_1 := ⟨start1.p0, start1.e0, start1.about1, start1.theMethod, start1.args0, start1.below0, start1.atStart⟩
end Jvm.Pilot.@@N@@
