import JvmDerived
import JvmDerived.Pilot.@@N@@Statement
import JvmDerived.Pilot.@@N@@Code
set_option linter.unusedVariables false
set_option linter.unusedSimpArgs false
namespace Jvm.RoadKit
open Sem ClassFile Op Lib Jvm.Stand Jvm.Free Jvm.LawKit
section New
variable {p : Program} {l : Launch} {e : Env} {R : Room} {s : State} {m : MethodId} {args : Array Value} {below : List Frame} {meth : Method} {c : Code} {T : State} {locs : List Loc} {cells slots : Nat}
theorem retI (X : Stand p l e R s m args below meth c T locs cells slots) (hx : p.tables.exec = Jvm.exec) {pc : Nat} {Ls : Array Slot} {z : Int32} {rest : List Value} (hret : meth.sig.returnType = some .int) (hd : decode c.code pc = .ok (.ireturn, 1)) {fs : List Frame}
    (hl : ∀ (f : JFrame) (acts : List Action), f.method = m → f.locked = none → f.entered = [] → (doReturn e (T.setTop f) acts (some (.int z))).1 = T.setFrames fs) : Steps p.tables e below (T.setTop (mkF m pc Ls (.int z :: rest))) (T.setFrames fs) := by
  have hm' : T.vm.method? m = some meth := X.method'
  have hn : narrow .int (.int z) = .int z := rfl
  show Steps p.tables e below (T.setTop { method := m, pc := pc, locals := Ls, stack := _ :: rest, locked := none }) _
  jvm_step X.here [X.here.top, hx, hd, hm', hret, hn]
  first | (intro acts; rw [hl _ acts rfl rfl rfl]) | rw [hl _ _ rfl rfl rfl]
  exact Steps.refl _
/-- from here the run ends as G says -/
def WP (tb : Tables) (e : Env) (below : List Frame) (G : State → Outcome → Prop) (T : State) (f : JFrame) : Prop := ∃ s₂ o, Steps tb e below (T.setTop f) s₂ ∧ G s₂ o
theorem WP.go {tb : Tables} {G : State → Outcome → Prop} {f : JFrame} (h : WP tb e below G T f) : ∃ s₂ o, Steps tb e below (T.setTop f) s₂ ∧ G s₂ o := h
theorem WP.fin {tb : Tables} {G : State → Outcome → Prop} {f : JFrame} (h : ∃ s₂ o, Steps tb e below (T.setTop f) s₂ ∧ G s₂ o) : WP tb e below G T f := h
theorem WP.cast {tb : Tables} {G : State → Outcome → Prop} {f f' : JFrame} (q : f = f') (h : WP tb e below G T f') : WP tb e below G T f := q ▸ h
theorem WP.st {tb : Tables} {G : State → Outcome → Prop} {T' : State} {f f' : JFrame} (k : ∀ t, Steps tb e below (T'.setTop f') t → Steps tb e below (T.setTop f) t) (h : WP tb e below G T' f') : WP tb e below G T f := by
  obtain ⟨s₂, o, h1, h2⟩ := h
  exact ⟨s₂, o, k _ h1, h2⟩
theorem WP.tr {tb : Tables} {G : State → Outcome → Prop} {T' : State} {f f' : JFrame} (k : Steps tb e below (T.setTop f) (T'.setTop f')) (h : WP tb e below G T' f') : WP tb e below G T f := by
  obtain ⟨s₂, o, h1, h2⟩ := h
  exact ⟨s₂, o, k.trans h1, h2⟩
theorem WP.name {tb : Tables} {G : State → Outcome → Prop} {f : JFrame} (h : ∀ G', G' = G → WP tb e below G' T f) : WP tb e below G T f := h G rfl
theorem ownWider (X : Stand p l e R s m args below meth c T locs cells slots) {c' s' : Nat} (h1 : cells ≤ c') (h2 : slots ≤ s') : Stand p l e R s m args below meth c T locs c' s' := { X with same := X.same.mono h1 h2 }
end New
theorem Arv.rd {Z : State} {h : Heap} {a : Addr} {k : ClassId} {ty : FieldType} {z j : Int32} {vs : List Value} {dv : Value} (F : Arv Z h a k ty z vs dv) (hj : ¬ j < 0 ∧ j < z) : ∃ c : Cell, Arr Z h a c ty ∧ ¬ (j < 0 ∨ c.slots.size ≤ j.toNatClampNeg) ∧ c.slots[j.toNatClampNeg]? = some (vs.getD j.toNatClampNeg dv) ∧ c.slots.size.toInt32 = z := by
  obtain ⟨c, A, -, S, q, H, -⟩ := F
  have hin := inb_of S hj
  exact ⟨c, A, hin, H.at hin rfl, len_of S q⟩
theorem Arv.len {Z : State} {h : Heap} {a : Addr} {k : ClassId} {ty : FieldType} {z : Int32} {vs : List Value} {dv : Value} (F : Arv Z h a k ty z vs dv) : ∃ c : Cell, Arr Z h a c ty ∧ c.slots.size.toInt32 = z := by
  obtain ⟨c, A, -, S, q, -, -⟩ := F
  exact ⟨c, A, len_of S q⟩
theorem ownFits {t : FieldType} {x : Int32} {y : Value} (h : narrow t (.int x) = y) (hf : fits t (narrow t (.int x)) = true) : fits t y = true := h ▸ hf
theorem nar01 {b : Int32} (h : b = 0 ∨ b = 1) : nar .boolean b = b := by rcases h with rfl | rfl <;> rfl
end Jvm.RoadKit
namespace Jvm.Pilot.@@N@@
open Jvm Jvm.ClassFile Sem Op Lib Jvm.Free Jvm.Stand Jvm.LawKit Jvm.RoadKit Bundle Jvm.Pilot.@@N@@.Jvm.D
theorem own_rank (x : Int32) : (x &&& 2147483647) % 9 + 1 = 1 ∨ (x &&& 2147483647) % 9 + 1 = 2 ∨ (x &&& 2147483647) % 9 + 1 = 3 ∨ (x &&& 2147483647) % 9 + 1 = 4 ∨ (x &&& 2147483647) % 9 + 1 = 5 ∨ (x &&& 2147483647) % 9 + 1 = 6 ∨ (x &&& 2147483647) % 9 + 1 = 7 ∨ (x &&& 2147483647) % 9 + 1 = 8 ∨ (x &&& 2147483647) % 9 + 1 = 9 := by
  have h0 : 0 ≤ (x &&& 2147483647).toInt := by
    have e : (x &&& 2147483647).toInt = (x.toBitVec &&& 2147483647#32).toInt := rfl
    rw [e, BitVec.toInt_eq_toNat_cond, BitVec.toNat_and, show (2147483647#32).toNat = 2147483647 from rfl]
    have : x.toBitVec.toNat &&& 2147483647 ≤ 2147483647 := Nat.and_le_right
    rw [if_pos (by omega)]
    exact Int.natCast_nonneg _
  generalize x &&& 2147483647 = y at h0 ⊢
  have h1 : (y % 9).toInt = y.toInt.tmod 9 := by rw [Int32.toInt_mod]; rfl
  have h2 : y.toInt.tmod 9 = y.toInt % 9 := Int.tmod_eq_emod_of_nonneg h0
  generalize y % 9 = r at h1 ⊢
  have h3 : r.toInt = 0 ∨ r.toInt = 1 ∨ r.toInt = 2 ∨ r.toInt = 3 ∨ r.toInt = 4 ∨ r.toInt = 5 ∨ r.toInt = 6 ∨ r.toInt = 7 ∨ r.toInt = 8 := by omega
  have k (n : Int) (h : r.toInt = n) : r = Int32.ofInt n := by rw [← h]; simp
  rcases h3 with h | h | h | h | h | h | h | h | h <;> rw [k _ h] <;> decide
theorem ef_1 (m : MethodId) (p1 : Int32) : entryFrame m #[(.int p1)] 1 = mkF m 0 #[.val (.int p1)] [] := by first | (simp [entryFrame, mkF, argsToLocals, Value.category]; done) | rfl
theorem pn_0 : plainName "com/example/banmen/banmen/position/Position" = true := by first | (simp [plainName, overriddenIn]; done) | decide +kernel
theorem d1_0 : decode prog_27_method_7_code 0 = .ok (.iload_n 0, 1) := by decide +kernel
theorem d1_1 : decode prog_27_method_7_code 1 = .ok (.iconst 1, 1) := by decide +kernel
theorem d1_2 : decode prog_27_method_7_code 2 = .ok (.if_icmp .lt 9, 3) := by decide +kernel
theorem d1_5 : decode prog_27_method_7_code 5 = .ok (.iload_n 0, 1) := by decide +kernel
theorem d1_6 : decode prog_27_method_7_code 6 = .ok (.bipush 9, 2) := by decide +kernel
theorem d1_8 : decode prog_27_method_7_code 8 = .ok (.if_icmp .le 17, 3) := by decide +kernel
theorem d1_25 : decode prog_27_method_7_code 25 = .ok (.bipush 97, 2) := by decide +kernel
theorem d1_27 : decode prog_27_method_7_code 27 = .ok (.iload_n 0, 1) := by decide +kernel
theorem d1_28 : decode prog_27_method_7_code 28 = .ok (.iadd, 1) := by decide +kernel
theorem d1_29 : decode prog_27_method_7_code 29 = .ok (.iconst 1, 1) := by decide +kernel
theorem d1_30 : decode prog_27_method_7_code 30 = .ok (.isub, 1) := by decide +kernel
theorem d1_31 : decode prog_27_method_7_code 31 = .ok (.i2c, 1) := by decide +kernel
theorem d1_32 : decode prog_27_method_7_code 32 = .ok (.ireturn, 1) := by decide +kernel
def Q1 (Z : State) (p1 : Int32) (h0 : Heap) (n0 : Nat) (v : Option Value) (h : Heap) (L : List Loc) : Prop := v = some (.int (nar .char (((((97 : Int32) + p1) - (1 : Int32)).toUInt32.toUInt16.toUInt32.toInt32)))) ∧ Fr n0 L ∧ h = h0
set_option maxRecDepth 65536 in
set_option maxHeartbeats 40000000 in
theorem rm1 (l : Launch) (Z : State) (a0 : Array Value) (hw : ∀ d ∈ tables_1, d.before a0 Z = true) (ws : List Jvm.Cond) (p1 : Int32) (h0 : Heap) (n0 : Nat) (Z0 : n0 ≤ h0.size) (h1 : ¬ (p1 < (1 : Int32))) (h9 : ¬ ((9 : Int32) < p1)) :
    MetFree l (⟨"com/example/banmen/banmen/position/Position", "rankLetter", "(I)C"⟩ : MethodName) (head1 (Jvm.Cond.code (⟨"com/example/banmen/banmen/position/Position", "rankLetter", "(I)C"⟩ : MethodName) prog_27_method_7_code 1 (some .char) :: ws) ({ frames := 0, cells := 0, slots := 0, locals := 0 } : Room)) (fun a U => a = #[(.int p1)] ∧ Z.Warmed39 U.vm ∧ U.heap = h0) (fun _ _ _ _ _ => True) (fun _ U o U' => ∃ v L, o = .returned v ∧ Q1 Z p1 h0 n0 v U'.heap L ∧ FrameEnd U o U' L ({ frames := 0, cells := 0, slots := 0, locals := 0 } : Room).cells ({ frames := 0, cells := 0, slots := 0, locals := 0 } : Room).slots) := by
  refine MetFree.of_bodySF (plainFor_of_name pn_0) hisR ?_
  intro p e s m args below meth c s₁ Bd hml0 hP hK
  obtain ⟨rfl, hZ, hh⟩ := hP
  have hx := Bd.exec
  have hby := Bd.bytes
  have hml : c.maxLocals = 1 := hml0
  have hown : s.vm.findClass "com/example/banmen/banmen/position/Position" = some m.cls := findClass_of_methodNamed Bd.named
  have hnm := (name_of_methodNamed Bd.named Bd.method).1
  have X0 : Stand p l e ({ frames := 0, cells := 0, slots := 0, locals := 0 } : Room) s m #[(.int p1)] below meth c s₁ [] 0 0 := Stand.of_body Bd
  have e0 : s₁.heap = h0 := by rw [← hh, Bd.state]; rfl
  have NF := Fr.nil n0
  refine WP.go ?_
  refine WP.cast (ef_1 m p1) ?_
  refine WP.name ?_
  intro G hG
  have bk1 : ∀ t, Steps p.tables e below (s₁.setTop (mkF m 32 #[.val (.int p1)] [(.int ((((97 : Int32) + p1) - (1 : Int32)).toUInt32.toUInt16.toUInt32.toInt32))])) t → Steps p.tables e below (s₁.setTop (mkF m 0 #[.val (.int p1)] [])) t := fun t k => by
    refine XS.iloadN X0.here hx rfl (hb hby d1_0) rfl ?_
    show Steps p.tables e below (s₁.setTop (mkF m 1 #[.val (.int p1)] [(.int p1)])) t
    refine XS.iconst X0.here hx rfl (hb hby d1_1) ?_
    show Steps p.tables e below (s₁.setTop (mkF m 2 #[.val (.int p1)] [(.int (1 : Int32)), (.int p1)])) t
    refine XS.icmpNo X0.here hx rfl (hb hby d1_2) rfl (flt h1).1 ?_
    show Steps p.tables e below (s₁.setTop (mkF m 5 #[.val (.int p1)] [])) t
    refine XS.iloadN X0.here hx rfl (hb hby d1_5) rfl ?_
    show Steps p.tables e below (s₁.setTop (mkF m 6 #[.val (.int p1)] [(.int p1)])) t
    refine XS.bipush X0.here hx rfl (hb hby d1_6) ?_
    show Steps p.tables e below (s₁.setTop (mkF m 8 #[.val (.int p1)] [(.int (9 : Int32)), (.int p1)])) t
    refine XS.icmpYes X0.here hx rfl (pc0 := 8) (pc' := 25) rfl (hb hby d1_8) rfl (flt h9).2.2.2 (by decide) (by decide) ?_
    show Steps p.tables e below (s₁.setTop (mkF m 25 #[.val (.int p1)] [])) t
    refine XS.bipush X0.here hx rfl (hb hby d1_25) ?_
    show Steps p.tables e below (s₁.setTop (mkF m 27 #[.val (.int p1)] [(.int (97 : Int32))])) t
    refine XS.iloadN X0.here hx rfl (hb hby d1_27) rfl ?_
    show Steps p.tables e below (s₁.setTop (mkF m 28 #[.val (.int p1)] [(.int p1), (.int (97 : Int32))])) t
    refine XS.iadd X0.here hx rfl (hb hby d1_28) rfl ?_
    show Steps p.tables e below (s₁.setTop (mkF m 29 #[.val (.int p1)] [(.int ((97 : Int32) + p1))])) t
    refine XS.iconst X0.here hx rfl (hb hby d1_29) ?_
    show Steps p.tables e below (s₁.setTop (mkF m 30 #[.val (.int p1)] [(.int (1 : Int32)), (.int ((97 : Int32) + p1))])) t
    refine XS.isub X0.here hx rfl (hb hby d1_30) rfl ?_
    show Steps p.tables e below (s₁.setTop (mkF m 31 #[.val (.int p1)] [(.int (((97 : Int32) + p1) - (1 : Int32)))])) t
    refine XS.i2c X0.here hx rfl (hb hby d1_31) rfl ?_
    exact k
  refine WP.st bk1 ?_
  clear bk1
  subst hG
  obtain ⟨fs, hr, hrun, hended, hW, hsame⟩ := X0.leave (v := some (.int (nar .char ((((97 : Int32) + p1) - (1 : Int32)).toUInt32.toUInt16.toUInt32.toInt32)))) (fun h => by rw [Bd.returns] at h; cases h)
  refine WP.fin ⟨_, _, ?_, hrun, hended, _, _, rfl, ?_, ⟨_, rfl⟩, hW, hsame.mono (by decide) (by decide)⟩
  · exact retN X0 hx (t := .char) Bd.returns (by simp) (hb hby d1_32) hr
  · show Q1 Z p1 h0 n0 _ s₁.heap _
    rw [e0]
    exact ⟨rfl, NF, rfl⟩
theorem ef_0 (m : MethodId) (p1 : Int32) : entryFrame m #[(.int p1)] maxLocals = mkF m 0 #[.val (.int p1), .unset, .unset] [] := by first | (simp [entryFrame, mkF, argsToLocals, Value.category, maxLocals]; done) | rfl
theorem pn_1 : plainName "com/example/banmen/banmen/position/PositionRankLetterPinLaw" = true := by first | (simp [plainName, overriddenIn]; done) | decide +kernel
theorem pd_0 : parseMethodDescriptor "(I)C" = some ⟨[.int], some .char⟩ := by decide +kernel
def Q0 (Z : State) (p1 : Int32) (h0 : Heap) (n0 : Nat) (v : Option Value) (h : Heap) (L : List Loc) : Prop := v = some (.int 1) ∧ Fr n0 L
set_option maxRecDepth 65536 in
set_option maxHeartbeats 40000000 in
theorem rm0 (l : Launch) (Z : State) (a0 : Array Value) (hw : ∀ d ∈ tables_1, d.before a0 Z = true) (ws : List Jvm.Cond) (p1 : Int32) (h0 : Heap) (n0 : Nat) (Z0 : n0 ≤ h0.size)  :
    MetFree l x (head1 (Jvm.Cond.code x code maxLocals ret :: ws) room_1) (fun a U => a = #[(.int p1)] ∧ Z.Warmed39 U.vm ∧ U.heap = h0) (fun _ _ _ _ _ => True) (fun _ U o U' => ∃ v L, o = .returned v ∧ Q0 Z p1 h0 n0 v U'.heap L ∧ FrameEnd U o U' L room_1.cells room_1.slots) := by
  refine MetFree.of_bodySF (plainFor_of_name pn_1) hisR ?_
  intro p e s m args below meth c s₁ Bd hml0 hP hK
  obtain ⟨rfl, hZ, hh⟩ := hP
  have hx := Bd.exec
  have hby := Bd.bytes
  have hml : c.maxLocals = 3 := hml0
  have hown : s.vm.findClass "com/example/banmen/banmen/position/PositionRankLetterPinLaw" = some m.cls := findClass_of_methodNamed Bd.named
  have hnm := (name_of_methodNamed Bd.named Bd.method).1
  have X0 : Stand p l e room_1 s m #[(.int p1)] below meth c s₁ [] 0 0 := Stand.of_body Bd
  have e0 : s₁.heap = h0 := by rw [← hh, Bd.state]; rfl
  have NF := Fr.nil n0
  refine WP.go ?_
  refine WP.cast (ef_0 m p1) ?_
  refine WP.name ?_
  intro G hG
  have bk2 : ∀ t, Steps p.tables e below (s₁.setTop (mkF m 12 #[.val (.int p1), .val (.int (((p1 &&& (2147483647 : Int32)) % (9 : Int32)) + (1 : Int32))), .unset] [(.int (9 : Int32))])) t → Steps p.tables e below (s₁.setTop (mkF m 0 #[.val (.int p1), .unset, .unset] [])) t := fun t k => by
    refine XS.iloadN X0.here hx rfl (hb hby at_0) rfl ?_
    show Steps p.tables e below (s₁.setTop (mkF m 1 #[.val (.int p1), .unset, .unset] [(.int p1)])) t
    refine X0.ldcInt hx hown (mvT hZ (hw _ (List.mem_of_getElem? (i := 0) rfl))) (g := (mkF m 1 #[.val (.int p1), .unset, .unset] [(.int p1)])) rfl (hb hby at_1) _ ?_
    show Steps p.tables e below (s₁.setTop (mkF m 3 #[.val (.int p1), .unset, .unset] [(.int (2147483647 : Int32)), (.int p1)])) t
    refine XS.iand X0.here hx rfl (hb hby at_3) rfl ?_
    show Steps p.tables e below (s₁.setTop (mkF m 4 #[.val (.int p1), .unset, .unset] [(.int (p1 &&& (2147483647 : Int32)))])) t
    refine XS.bipush X0.here hx rfl (hb hby at_4) ?_
    show Steps p.tables e below (s₁.setTop (mkF m 6 #[.val (.int p1), .unset, .unset] [(.int (9 : Int32)), (.int (p1 &&& (2147483647 : Int32)))])) t
    refine iremM X0 hx rfl (hb hby at_6) rfl (by decide) ?_
    show Steps p.tables e below (s₁.setTop (mkF m 7 #[.val (.int p1), .unset, .unset] [(.int ((p1 &&& (2147483647 : Int32)) % (9 : Int32)))])) t
    refine XS.iconst X0.here hx rfl (hb hby at_7) ?_
    show Steps p.tables e below (s₁.setTop (mkF m 8 #[.val (.int p1), .unset, .unset] [(.int (1 : Int32)), (.int ((p1 &&& (2147483647 : Int32)) % (9 : Int32)))])) t
    refine XS.iadd X0.here hx rfl (hb hby at_8) rfl ?_
    show Steps p.tables e below (s₁.setTop (mkF m 9 #[.val (.int p1), .unset, .unset] [(.int (((p1 &&& (2147483647 : Int32)) % (9 : Int32)) + (1 : Int32)))])) t
    refine XS.istoreN X0.here hx rfl (hb hby at_9) rfl (l' := #[.val (.int p1), .val (.int (((p1 &&& (2147483647 : Int32)) % (9 : Int32)) + (1 : Int32))), .unset]) rfl ?_
    show Steps p.tables e below (s₁.setTop (mkF m 10 #[.val (.int p1), .val (.int (((p1 &&& (2147483647 : Int32)) % (9 : Int32)) + (1 : Int32))), .unset] [])) t
    refine XS.bipush X0.here hx rfl (hb hby at_10) ?_
    exact k
  refine WP.st bk2 ?_
  clear bk2
  obtain ⟨T3, h3, k3, X3, e3, E3, A3, st3⟩ := newP X0 hx hZ (hw _ (List.mem_of_getElem? (i := 1) rfl)) e0 (g := (mkF m 12 #[.val (.int p1), .val (.int (((p1 &&& (2147483647 : Int32)) % (9 : Int32)) + (1 : Int32))), .unset] [(.int (9 : Int32))])) rfl (hb hby at_12) rfl (by decide) (cap := 9) (by decide) (by decide) (by decide) (by decide)
  obtain ⟨b3, g3⟩ : ∃ z, z = h0.size := ⟨_, rfl⟩
  rw [← g3] at A3 st3
  refine WP.st st3 ?_
  clear st3
  have g_b3 : n0 ≤ b3 := Nat.le_trans Z0 (Nat.le_of_eq g3.symm)
  replace Z0 := Nat.le_trans Z0 E3.1
  have V_b3 : Arv Z h3 b3 k3 .char (9 : Int32) [(.int (0 : Int32)), (.int (0 : Int32)), (.int (0 : Int32)), (.int (0 : Int32)), (.int (0 : Int32)), (.int (0 : Int32)), (.int (0 : Int32)), (.int (0 : Int32)), (.int (0 : Int32))] (.int (0 : Int32)) := (Arv.new A3 (by decide)).pad (pad_rep [] (.int (0 : Int32)) 9)
  show WP p.tables e below _ T3 (mkF m 14 #[.val (.int p1), .val (.int (((p1 &&& (2147483647 : Int32)) % (9 : Int32)) + (1 : Int32))), .unset] [(.ref b3)])
  have bk4 : ∀ t, Steps p.tables e below (T3.setTop (mkF m 18 #[.val (.int p1), .val (.int (((p1 &&& (2147483647 : Int32)) % (9 : Int32)) + (1 : Int32))), .unset] [(.int (97 : Int32)), (.int (0 : Int32)), (.ref b3), (.ref b3)])) t → Steps p.tables e below (T3.setTop (mkF m 14 #[.val (.int p1), .val (.int (((p1 &&& (2147483647 : Int32)) % (9 : Int32)) + (1 : Int32))), .unset] [(.ref b3)])) t := fun t k => by
    refine XS.dup X3.here hx rfl (hb hby at_14) rfl rfl ?_
    show Steps p.tables e below (T3.setTop (mkF m 15 #[.val (.int p1), .val (.int (((p1 &&& (2147483647 : Int32)) % (9 : Int32)) + (1 : Int32))), .unset] [(.ref b3), (.ref b3)])) t
    refine XS.iconst X3.here hx rfl (hb hby at_15) ?_
    show Steps p.tables e below (T3.setTop (mkF m 16 #[.val (.int p1), .val (.int (((p1 &&& (2147483647 : Int32)) % (9 : Int32)) + (1 : Int32))), .unset] [(.int (0 : Int32)), (.ref b3), (.ref b3)])) t
    refine XS.bipush X3.here hx rfl (hb hby at_16) ?_
    exact k
  refine WP.st bk4 ?_
  clear bk4
  obtain ⟨cl5, Ar5, q5, S5, N5, H5, G5⟩ := V_b3
  have hin5 : ¬ ((0 : Int32) < 0 ∨ cl5.slots.size ≤ ((0 : Int32)).toNatClampNeg) := inb_of S5 ⟨by decide, by decide⟩
  obtain ⟨T6, h6, X6, e6, W6, st6⟩ := stC X3 hx hZ e3 Ar5 (j := (0 : Int32)) hin5 (g := (mkF m 18 #[.val (.int p1), .val (.int (((p1 &&& (2147483647 : Int32)) % (9 : Int32)) + (1 : Int32))), .unset] [(.int (97 : Int32)), (.int (0 : Int32)), (.ref b3), (.ref b3)])) rfl rfl (hb hby at_18)
  refine WP.st st6 ?_
  clear st6
  have Vn : Arv Z h6 b3 k3 .char (9 : Int32) [(.int (97 : Int32)), (.int (0 : Int32)), (.int (0 : Int32)), (.int (0 : Int32)), (.int (0 : Int32)), (.int (0 : Int32)), (.int (0 : Int32)), (.int (0 : Int32)), (.int (0 : Int32))] (.int (0 : Int32)) := Arv.set Ar5 q5 S5 N5 H5 G5 (fits_nar_char _) W6 0 rfl (Nat.le_of_ble_eq_true rfl)
  replace Z0 := Nat.le_trans Z0 (Keep.of_wr W6).1
  replace V_b3 := Vn
  replace NF := Fr.snoc X6 NF g_b3
  clear W6 hin5 q5 S5 N5 H5 G5 Ar5
  show WP p.tables e below _ T6 (mkF m 19 #[.val (.int p1), .val (.int (((p1 &&& (2147483647 : Int32)) % (9 : Int32)) + (1 : Int32))), .unset] [(.ref b3)])
  have bk7 : ∀ t, Steps p.tables e below (T6.setTop (mkF m 23 #[.val (.int p1), .val (.int (((p1 &&& (2147483647 : Int32)) % (9 : Int32)) + (1 : Int32))), .unset] [(.int (98 : Int32)), (.int (1 : Int32)), (.ref b3), (.ref b3)])) t → Steps p.tables e below (T6.setTop (mkF m 19 #[.val (.int p1), .val (.int (((p1 &&& (2147483647 : Int32)) % (9 : Int32)) + (1 : Int32))), .unset] [(.ref b3)])) t := fun t k => by
    refine XS.dup X6.here hx rfl (hb hby at_19) rfl rfl ?_
    show Steps p.tables e below (T6.setTop (mkF m 20 #[.val (.int p1), .val (.int (((p1 &&& (2147483647 : Int32)) % (9 : Int32)) + (1 : Int32))), .unset] [(.ref b3), (.ref b3)])) t
    refine XS.iconst X6.here hx rfl (hb hby at_20) ?_
    show Steps p.tables e below (T6.setTop (mkF m 21 #[.val (.int p1), .val (.int (((p1 &&& (2147483647 : Int32)) % (9 : Int32)) + (1 : Int32))), .unset] [(.int (1 : Int32)), (.ref b3), (.ref b3)])) t
    refine XS.bipush X6.here hx rfl (hb hby at_21) ?_
    exact k
  refine WP.st bk7 ?_
  clear bk7
  obtain ⟨cl8, Ar8, q8, S8, N8, H8, G8⟩ := V_b3
  have hin8 : ¬ ((1 : Int32) < 0 ∨ cl8.slots.size ≤ ((1 : Int32)).toNatClampNeg) := inb_of S8 ⟨by decide, by decide⟩
  obtain ⟨T9, h9, X9, e9, W9, st9⟩ := stC X6 hx hZ e6 Ar8 (j := (1 : Int32)) hin8 (g := (mkF m 23 #[.val (.int p1), .val (.int (((p1 &&& (2147483647 : Int32)) % (9 : Int32)) + (1 : Int32))), .unset] [(.int (98 : Int32)), (.int (1 : Int32)), (.ref b3), (.ref b3)])) rfl rfl (hb hby at_23)
  refine WP.st st9 ?_
  clear st9
  have Vn : Arv Z h9 b3 k3 .char (9 : Int32) [(.int (97 : Int32)), (.int (98 : Int32)), (.int (0 : Int32)), (.int (0 : Int32)), (.int (0 : Int32)), (.int (0 : Int32)), (.int (0 : Int32)), (.int (0 : Int32)), (.int (0 : Int32))] (.int (0 : Int32)) := Arv.set Ar8 q8 S8 N8 H8 G8 (fits_nar_char _) W9 1 rfl (Nat.le_of_ble_eq_true rfl)
  replace Z0 := Nat.le_trans Z0 (Keep.of_wr W9).1
  replace V_b3 := Vn
  replace NF := Fr.snoc X9 NF g_b3
  clear W9 hin8 q8 S8 N8 H8 G8 Ar8
  show WP p.tables e below _ T9 (mkF m 24 #[.val (.int p1), .val (.int (((p1 &&& (2147483647 : Int32)) % (9 : Int32)) + (1 : Int32))), .unset] [(.ref b3)])
  have bk10 : ∀ t, Steps p.tables e below (T9.setTop (mkF m 28 #[.val (.int p1), .val (.int (((p1 &&& (2147483647 : Int32)) % (9 : Int32)) + (1 : Int32))), .unset] [(.int (99 : Int32)), (.int (2 : Int32)), (.ref b3), (.ref b3)])) t → Steps p.tables e below (T9.setTop (mkF m 24 #[.val (.int p1), .val (.int (((p1 &&& (2147483647 : Int32)) % (9 : Int32)) + (1 : Int32))), .unset] [(.ref b3)])) t := fun t k => by
    refine XS.dup X9.here hx rfl (hb hby at_24) rfl rfl ?_
    show Steps p.tables e below (T9.setTop (mkF m 25 #[.val (.int p1), .val (.int (((p1 &&& (2147483647 : Int32)) % (9 : Int32)) + (1 : Int32))), .unset] [(.ref b3), (.ref b3)])) t
    refine XS.iconst X9.here hx rfl (hb hby at_25) ?_
    show Steps p.tables e below (T9.setTop (mkF m 26 #[.val (.int p1), .val (.int (((p1 &&& (2147483647 : Int32)) % (9 : Int32)) + (1 : Int32))), .unset] [(.int (2 : Int32)), (.ref b3), (.ref b3)])) t
    refine XS.bipush X9.here hx rfl (hb hby at_26) ?_
    exact k
  refine WP.st bk10 ?_
  clear bk10
  obtain ⟨cl11, Ar11, q11, S11, N11, H11, G11⟩ := V_b3
  have hin11 : ¬ ((2 : Int32) < 0 ∨ cl11.slots.size ≤ ((2 : Int32)).toNatClampNeg) := inb_of S11 ⟨by decide, by decide⟩
  obtain ⟨T12, h12, X12, e12, W12, st12⟩ := stC X9 hx hZ e9 Ar11 (j := (2 : Int32)) hin11 (g := (mkF m 28 #[.val (.int p1), .val (.int (((p1 &&& (2147483647 : Int32)) % (9 : Int32)) + (1 : Int32))), .unset] [(.int (99 : Int32)), (.int (2 : Int32)), (.ref b3), (.ref b3)])) rfl rfl (hb hby at_28)
  refine WP.st st12 ?_
  clear st12
  have Vn : Arv Z h12 b3 k3 .char (9 : Int32) [(.int (97 : Int32)), (.int (98 : Int32)), (.int (99 : Int32)), (.int (0 : Int32)), (.int (0 : Int32)), (.int (0 : Int32)), (.int (0 : Int32)), (.int (0 : Int32)), (.int (0 : Int32))] (.int (0 : Int32)) := Arv.set Ar11 q11 S11 N11 H11 G11 (fits_nar_char _) W12 2 rfl (Nat.le_of_ble_eq_true rfl)
  replace Z0 := Nat.le_trans Z0 (Keep.of_wr W12).1
  replace V_b3 := Vn
  replace NF := Fr.snoc X12 NF g_b3
  clear W12 hin11 q11 S11 N11 H11 G11 Ar11
  show WP p.tables e below _ T12 (mkF m 29 #[.val (.int p1), .val (.int (((p1 &&& (2147483647 : Int32)) % (9 : Int32)) + (1 : Int32))), .unset] [(.ref b3)])
  have bk13 : ∀ t, Steps p.tables e below (T12.setTop (mkF m 33 #[.val (.int p1), .val (.int (((p1 &&& (2147483647 : Int32)) % (9 : Int32)) + (1 : Int32))), .unset] [(.int (100 : Int32)), (.int (3 : Int32)), (.ref b3), (.ref b3)])) t → Steps p.tables e below (T12.setTop (mkF m 29 #[.val (.int p1), .val (.int (((p1 &&& (2147483647 : Int32)) % (9 : Int32)) + (1 : Int32))), .unset] [(.ref b3)])) t := fun t k => by
    refine XS.dup X12.here hx rfl (hb hby at_29) rfl rfl ?_
    show Steps p.tables e below (T12.setTop (mkF m 30 #[.val (.int p1), .val (.int (((p1 &&& (2147483647 : Int32)) % (9 : Int32)) + (1 : Int32))), .unset] [(.ref b3), (.ref b3)])) t
    refine XS.iconst X12.here hx rfl (hb hby at_30) ?_
    show Steps p.tables e below (T12.setTop (mkF m 31 #[.val (.int p1), .val (.int (((p1 &&& (2147483647 : Int32)) % (9 : Int32)) + (1 : Int32))), .unset] [(.int (3 : Int32)), (.ref b3), (.ref b3)])) t
    refine XS.bipush X12.here hx rfl (hb hby at_31) ?_
    exact k
  refine WP.st bk13 ?_
  clear bk13
  obtain ⟨cl14, Ar14, q14, S14, N14, H14, G14⟩ := V_b3
  have hin14 : ¬ ((3 : Int32) < 0 ∨ cl14.slots.size ≤ ((3 : Int32)).toNatClampNeg) := inb_of S14 ⟨by decide, by decide⟩
  obtain ⟨T15, h15, X15, e15, W15, st15⟩ := stC X12 hx hZ e12 Ar14 (j := (3 : Int32)) hin14 (g := (mkF m 33 #[.val (.int p1), .val (.int (((p1 &&& (2147483647 : Int32)) % (9 : Int32)) + (1 : Int32))), .unset] [(.int (100 : Int32)), (.int (3 : Int32)), (.ref b3), (.ref b3)])) rfl rfl (hb hby at_33)
  refine WP.st st15 ?_
  clear st15
  have Vn : Arv Z h15 b3 k3 .char (9 : Int32) [(.int (97 : Int32)), (.int (98 : Int32)), (.int (99 : Int32)), (.int (100 : Int32)), (.int (0 : Int32)), (.int (0 : Int32)), (.int (0 : Int32)), (.int (0 : Int32)), (.int (0 : Int32))] (.int (0 : Int32)) := Arv.set Ar14 q14 S14 N14 H14 G14 (fits_nar_char _) W15 3 rfl (Nat.le_of_ble_eq_true rfl)
  replace Z0 := Nat.le_trans Z0 (Keep.of_wr W15).1
  replace V_b3 := Vn
  replace NF := Fr.snoc X15 NF g_b3
  clear W15 hin14 q14 S14 N14 H14 G14 Ar14
  show WP p.tables e below _ T15 (mkF m 34 #[.val (.int p1), .val (.int (((p1 &&& (2147483647 : Int32)) % (9 : Int32)) + (1 : Int32))), .unset] [(.ref b3)])
  have bk16 : ∀ t, Steps p.tables e below (T15.setTop (mkF m 38 #[.val (.int p1), .val (.int (((p1 &&& (2147483647 : Int32)) % (9 : Int32)) + (1 : Int32))), .unset] [(.int (101 : Int32)), (.int (4 : Int32)), (.ref b3), (.ref b3)])) t → Steps p.tables e below (T15.setTop (mkF m 34 #[.val (.int p1), .val (.int (((p1 &&& (2147483647 : Int32)) % (9 : Int32)) + (1 : Int32))), .unset] [(.ref b3)])) t := fun t k => by
    refine XS.dup X15.here hx rfl (hb hby at_34) rfl rfl ?_
    show Steps p.tables e below (T15.setTop (mkF m 35 #[.val (.int p1), .val (.int (((p1 &&& (2147483647 : Int32)) % (9 : Int32)) + (1 : Int32))), .unset] [(.ref b3), (.ref b3)])) t
    refine XS.iconst X15.here hx rfl (hb hby at_35) ?_
    show Steps p.tables e below (T15.setTop (mkF m 36 #[.val (.int p1), .val (.int (((p1 &&& (2147483647 : Int32)) % (9 : Int32)) + (1 : Int32))), .unset] [(.int (4 : Int32)), (.ref b3), (.ref b3)])) t
    refine XS.bipush X15.here hx rfl (hb hby at_36) ?_
    exact k
  refine WP.st bk16 ?_
  clear bk16
  obtain ⟨cl17, Ar17, q17, S17, N17, H17, G17⟩ := V_b3
  have hin17 : ¬ ((4 : Int32) < 0 ∨ cl17.slots.size ≤ ((4 : Int32)).toNatClampNeg) := inb_of S17 ⟨by decide, by decide⟩
  obtain ⟨T18, h18, X18, e18, W18, st18⟩ := stC X15 hx hZ e15 Ar17 (j := (4 : Int32)) hin17 (g := (mkF m 38 #[.val (.int p1), .val (.int (((p1 &&& (2147483647 : Int32)) % (9 : Int32)) + (1 : Int32))), .unset] [(.int (101 : Int32)), (.int (4 : Int32)), (.ref b3), (.ref b3)])) rfl rfl (hb hby at_38)
  refine WP.st st18 ?_
  clear st18
  have Vn : Arv Z h18 b3 k3 .char (9 : Int32) [(.int (97 : Int32)), (.int (98 : Int32)), (.int (99 : Int32)), (.int (100 : Int32)), (.int (101 : Int32)), (.int (0 : Int32)), (.int (0 : Int32)), (.int (0 : Int32)), (.int (0 : Int32))] (.int (0 : Int32)) := Arv.set Ar17 q17 S17 N17 H17 G17 (fits_nar_char _) W18 4 rfl (Nat.le_of_ble_eq_true rfl)
  replace Z0 := Nat.le_trans Z0 (Keep.of_wr W18).1
  replace V_b3 := Vn
  replace NF := Fr.snoc X18 NF g_b3
  clear W18 hin17 q17 S17 N17 H17 G17 Ar17
  show WP p.tables e below _ T18 (mkF m 39 #[.val (.int p1), .val (.int (((p1 &&& (2147483647 : Int32)) % (9 : Int32)) + (1 : Int32))), .unset] [(.ref b3)])
  have bk19 : ∀ t, Steps p.tables e below (T18.setTop (mkF m 43 #[.val (.int p1), .val (.int (((p1 &&& (2147483647 : Int32)) % (9 : Int32)) + (1 : Int32))), .unset] [(.int (102 : Int32)), (.int (5 : Int32)), (.ref b3), (.ref b3)])) t → Steps p.tables e below (T18.setTop (mkF m 39 #[.val (.int p1), .val (.int (((p1 &&& (2147483647 : Int32)) % (9 : Int32)) + (1 : Int32))), .unset] [(.ref b3)])) t := fun t k => by
    refine XS.dup X18.here hx rfl (hb hby at_39) rfl rfl ?_
    show Steps p.tables e below (T18.setTop (mkF m 40 #[.val (.int p1), .val (.int (((p1 &&& (2147483647 : Int32)) % (9 : Int32)) + (1 : Int32))), .unset] [(.ref b3), (.ref b3)])) t
    refine XS.iconst X18.here hx rfl (hb hby at_40) ?_
    show Steps p.tables e below (T18.setTop (mkF m 41 #[.val (.int p1), .val (.int (((p1 &&& (2147483647 : Int32)) % (9 : Int32)) + (1 : Int32))), .unset] [(.int (5 : Int32)), (.ref b3), (.ref b3)])) t
    refine XS.bipush X18.here hx rfl (hb hby at_41) ?_
    exact k
  refine WP.st bk19 ?_
  clear bk19
  obtain ⟨cl20, Ar20, q20, S20, N20, H20, G20⟩ := V_b3
  have hin20 : ¬ ((5 : Int32) < 0 ∨ cl20.slots.size ≤ ((5 : Int32)).toNatClampNeg) := inb_of S20 ⟨by decide, by decide⟩
  obtain ⟨T21, h21, X21, e21, W21, st21⟩ := stC X18 hx hZ e18 Ar20 (j := (5 : Int32)) hin20 (g := (mkF m 43 #[.val (.int p1), .val (.int (((p1 &&& (2147483647 : Int32)) % (9 : Int32)) + (1 : Int32))), .unset] [(.int (102 : Int32)), (.int (5 : Int32)), (.ref b3), (.ref b3)])) rfl rfl (hb hby at_43)
  refine WP.st st21 ?_
  clear st21
  have Vn : Arv Z h21 b3 k3 .char (9 : Int32) [(.int (97 : Int32)), (.int (98 : Int32)), (.int (99 : Int32)), (.int (100 : Int32)), (.int (101 : Int32)), (.int (102 : Int32)), (.int (0 : Int32)), (.int (0 : Int32)), (.int (0 : Int32))] (.int (0 : Int32)) := Arv.set Ar20 q20 S20 N20 H20 G20 (fits_nar_char _) W21 5 rfl (Nat.le_of_ble_eq_true rfl)
  replace Z0 := Nat.le_trans Z0 (Keep.of_wr W21).1
  replace V_b3 := Vn
  replace NF := Fr.snoc X21 NF g_b3
  clear W21 hin20 q20 S20 N20 H20 G20 Ar20
  show WP p.tables e below _ T21 (mkF m 44 #[.val (.int p1), .val (.int (((p1 &&& (2147483647 : Int32)) % (9 : Int32)) + (1 : Int32))), .unset] [(.ref b3)])
  have bk22 : ∀ t, Steps p.tables e below (T21.setTop (mkF m 49 #[.val (.int p1), .val (.int (((p1 &&& (2147483647 : Int32)) % (9 : Int32)) + (1 : Int32))), .unset] [(.int (103 : Int32)), (.int (6 : Int32)), (.ref b3), (.ref b3)])) t → Steps p.tables e below (T21.setTop (mkF m 44 #[.val (.int p1), .val (.int (((p1 &&& (2147483647 : Int32)) % (9 : Int32)) + (1 : Int32))), .unset] [(.ref b3)])) t := fun t k => by
    refine XS.dup X21.here hx rfl (hb hby at_44) rfl rfl ?_
    show Steps p.tables e below (T21.setTop (mkF m 45 #[.val (.int p1), .val (.int (((p1 &&& (2147483647 : Int32)) % (9 : Int32)) + (1 : Int32))), .unset] [(.ref b3), (.ref b3)])) t
    refine XS.bipush X21.here hx rfl (hb hby at_45) ?_
    show Steps p.tables e below (T21.setTop (mkF m 47 #[.val (.int p1), .val (.int (((p1 &&& (2147483647 : Int32)) % (9 : Int32)) + (1 : Int32))), .unset] [(.int (6 : Int32)), (.ref b3), (.ref b3)])) t
    refine XS.bipush X21.here hx rfl (hb hby at_47) ?_
    exact k
  refine WP.st bk22 ?_
  clear bk22
  obtain ⟨cl23, Ar23, q23, S23, N23, H23, G23⟩ := V_b3
  have hin23 : ¬ ((6 : Int32) < 0 ∨ cl23.slots.size ≤ ((6 : Int32)).toNatClampNeg) := inb_of S23 ⟨by decide, by decide⟩
  obtain ⟨T24, h24, X24, e24, W24, st24⟩ := stC X21 hx hZ e21 Ar23 (j := (6 : Int32)) hin23 (g := (mkF m 49 #[.val (.int p1), .val (.int (((p1 &&& (2147483647 : Int32)) % (9 : Int32)) + (1 : Int32))), .unset] [(.int (103 : Int32)), (.int (6 : Int32)), (.ref b3), (.ref b3)])) rfl rfl (hb hby at_49)
  refine WP.st st24 ?_
  clear st24
  have Vn : Arv Z h24 b3 k3 .char (9 : Int32) [(.int (97 : Int32)), (.int (98 : Int32)), (.int (99 : Int32)), (.int (100 : Int32)), (.int (101 : Int32)), (.int (102 : Int32)), (.int (103 : Int32)), (.int (0 : Int32)), (.int (0 : Int32))] (.int (0 : Int32)) := Arv.set Ar23 q23 S23 N23 H23 G23 (fits_nar_char _) W24 6 rfl (Nat.le_of_ble_eq_true rfl)
  replace Z0 := Nat.le_trans Z0 (Keep.of_wr W24).1
  replace V_b3 := Vn
  replace NF := Fr.snoc X24 NF g_b3
  clear W24 hin23 q23 S23 N23 H23 G23 Ar23
  show WP p.tables e below _ T24 (mkF m 50 #[.val (.int p1), .val (.int (((p1 &&& (2147483647 : Int32)) % (9 : Int32)) + (1 : Int32))), .unset] [(.ref b3)])
  have bk25 : ∀ t, Steps p.tables e below (T24.setTop (mkF m 55 #[.val (.int p1), .val (.int (((p1 &&& (2147483647 : Int32)) % (9 : Int32)) + (1 : Int32))), .unset] [(.int (104 : Int32)), (.int (7 : Int32)), (.ref b3), (.ref b3)])) t → Steps p.tables e below (T24.setTop (mkF m 50 #[.val (.int p1), .val (.int (((p1 &&& (2147483647 : Int32)) % (9 : Int32)) + (1 : Int32))), .unset] [(.ref b3)])) t := fun t k => by
    refine XS.dup X24.here hx rfl (hb hby at_50) rfl rfl ?_
    show Steps p.tables e below (T24.setTop (mkF m 51 #[.val (.int p1), .val (.int (((p1 &&& (2147483647 : Int32)) % (9 : Int32)) + (1 : Int32))), .unset] [(.ref b3), (.ref b3)])) t
    refine XS.bipush X24.here hx rfl (hb hby at_51) ?_
    show Steps p.tables e below (T24.setTop (mkF m 53 #[.val (.int p1), .val (.int (((p1 &&& (2147483647 : Int32)) % (9 : Int32)) + (1 : Int32))), .unset] [(.int (7 : Int32)), (.ref b3), (.ref b3)])) t
    refine XS.bipush X24.here hx rfl (hb hby at_53) ?_
    exact k
  refine WP.st bk25 ?_
  clear bk25
  obtain ⟨cl26, Ar26, q26, S26, N26, H26, G26⟩ := V_b3
  have hin26 : ¬ ((7 : Int32) < 0 ∨ cl26.slots.size ≤ ((7 : Int32)).toNatClampNeg) := inb_of S26 ⟨by decide, by decide⟩
  obtain ⟨T27, h27, X27, e27, W27, st27⟩ := stC X24 hx hZ e24 Ar26 (j := (7 : Int32)) hin26 (g := (mkF m 55 #[.val (.int p1), .val (.int (((p1 &&& (2147483647 : Int32)) % (9 : Int32)) + (1 : Int32))), .unset] [(.int (104 : Int32)), (.int (7 : Int32)), (.ref b3), (.ref b3)])) rfl rfl (hb hby at_55)
  refine WP.st st27 ?_
  clear st27
  have Vn : Arv Z h27 b3 k3 .char (9 : Int32) [(.int (97 : Int32)), (.int (98 : Int32)), (.int (99 : Int32)), (.int (100 : Int32)), (.int (101 : Int32)), (.int (102 : Int32)), (.int (103 : Int32)), (.int (104 : Int32)), (.int (0 : Int32))] (.int (0 : Int32)) := Arv.set Ar26 q26 S26 N26 H26 G26 (fits_nar_char _) W27 7 rfl (Nat.le_of_ble_eq_true rfl)
  replace Z0 := Nat.le_trans Z0 (Keep.of_wr W27).1
  replace V_b3 := Vn
  replace NF := Fr.snoc X27 NF g_b3
  clear W27 hin26 q26 S26 N26 H26 G26 Ar26
  show WP p.tables e below _ T27 (mkF m 56 #[.val (.int p1), .val (.int (((p1 &&& (2147483647 : Int32)) % (9 : Int32)) + (1 : Int32))), .unset] [(.ref b3)])
  have bk28 : ∀ t, Steps p.tables e below (T27.setTop (mkF m 61 #[.val (.int p1), .val (.int (((p1 &&& (2147483647 : Int32)) % (9 : Int32)) + (1 : Int32))), .unset] [(.int (105 : Int32)), (.int (8 : Int32)), (.ref b3), (.ref b3)])) t → Steps p.tables e below (T27.setTop (mkF m 56 #[.val (.int p1), .val (.int (((p1 &&& (2147483647 : Int32)) % (9 : Int32)) + (1 : Int32))), .unset] [(.ref b3)])) t := fun t k => by
    refine XS.dup X27.here hx rfl (hb hby at_56) rfl rfl ?_
    show Steps p.tables e below (T27.setTop (mkF m 57 #[.val (.int p1), .val (.int (((p1 &&& (2147483647 : Int32)) % (9 : Int32)) + (1 : Int32))), .unset] [(.ref b3), (.ref b3)])) t
    refine XS.bipush X27.here hx rfl (hb hby at_57) ?_
    show Steps p.tables e below (T27.setTop (mkF m 59 #[.val (.int p1), .val (.int (((p1 &&& (2147483647 : Int32)) % (9 : Int32)) + (1 : Int32))), .unset] [(.int (8 : Int32)), (.ref b3), (.ref b3)])) t
    refine XS.bipush X27.here hx rfl (hb hby at_59) ?_
    exact k
  refine WP.st bk28 ?_
  clear bk28
  obtain ⟨cl29, Ar29, q29, S29, N29, H29, G29⟩ := V_b3
  have hin29 : ¬ ((8 : Int32) < 0 ∨ cl29.slots.size ≤ ((8 : Int32)).toNatClampNeg) := inb_of S29 ⟨by decide, by decide⟩
  obtain ⟨T30, h30, X30, e30, W30, st30⟩ := stC X27 hx hZ e27 Ar29 (j := (8 : Int32)) hin29 (g := (mkF m 61 #[.val (.int p1), .val (.int (((p1 &&& (2147483647 : Int32)) % (9 : Int32)) + (1 : Int32))), .unset] [(.int (105 : Int32)), (.int (8 : Int32)), (.ref b3), (.ref b3)])) rfl rfl (hb hby at_61)
  refine WP.st st30 ?_
  clear st30
  have Vn : Arv Z h30 b3 k3 .char (9 : Int32) [(.int (97 : Int32)), (.int (98 : Int32)), (.int (99 : Int32)), (.int (100 : Int32)), (.int (101 : Int32)), (.int (102 : Int32)), (.int (103 : Int32)), (.int (104 : Int32)), (.int (105 : Int32))] (.int (0 : Int32)) := Arv.set Ar29 q29 S29 N29 H29 G29 (fits_nar_char _) W30 8 rfl (Nat.le_of_ble_eq_true rfl)
  replace Z0 := Nat.le_trans Z0 (Keep.of_wr W30).1
  replace V_b3 := Vn
  replace NF := Fr.snoc X30 NF g_b3
  clear W30 hin29 q29 S29 N29 H29 G29 Ar29
  show WP p.tables e below _ T30 (mkF m 62 #[.val (.int p1), .val (.int (((p1 &&& (2147483647 : Int32)) % (9 : Int32)) + (1 : Int32))), .unset] [(.ref b3)])
  have bk31 : ∀ t, Steps p.tables e below (T30.setTop (mkF m 63 #[.val (.int p1), .val (.int (((p1 &&& (2147483647 : Int32)) % (9 : Int32)) + (1 : Int32))), .val (.ref b3)] [])) t → Steps p.tables e below (T30.setTop (mkF m 62 #[.val (.int p1), .val (.int (((p1 &&& (2147483647 : Int32)) % (9 : Int32)) + (1 : Int32))), .unset] [(.ref b3)])) t := fun t k => by
    refine XS.astoreN X30.here hx rfl (hb hby at_62) rfl rfl (l' := #[.val (.int p1), .val (.int (((p1 &&& (2147483647 : Int32)) % (9 : Int32)) + (1 : Int32))), .val (.ref b3)]) rfl ?_
    exact k
  refine WP.st bk31 ?_
  clear bk31
  have hR := own_rank p1
  generalize (((p1 &&& (2147483647 : Int32)) % (9 : Int32)) + (1 : Int32)) = rk at hR ⊢
  rcases hR with rfl | rfl | rfl | rfl | rfl | rfl | rfl | rfl | rfl
  · skip
    show WP p.tables e below _ T30 (mkF m 63 #[.val (.int p1), .val (.int (1 : Int32)), .val (.ref b3)] [])
    have bk32 : ∀ t, Steps p.tables e below (T30.setTop (mkF m 64 #[.val (.int p1), .val (.int (1 : Int32)), .val (.ref b3)] [(.int (1 : Int32))])) t → Steps p.tables e below (T30.setTop (mkF m 63 #[.val (.int p1), .val (.int (1 : Int32)), .val (.ref b3)] [])) t := fun t k => by
      refine XS.iloadN X30.here hx rfl (hb hby at_63) rfl ?_
      exact k
    refine WP.st bk32 ?_
    clear bk32
    obtain ⟨_, _, ⟨T33, L33, k33, n33⟩, -, X33, ⟨Lc33, hQ33, l33, y33, z33⟩, st33⟩ := Jvm.LawKit.callS X30 hx (y := (⟨"com/example/banmen/banmen/position/Position", "rankLetter", "(I)C"⟩ : MethodName)) hown (mvT hZ (hw _ (List.mem_of_getElem? (i := 2) rfl))) (mvT hZ (hw _ (List.mem_of_getElem? (i := 3) rfl))) (mvT hZ (hw _ (List.mem_of_getElem? (i := 4) rfl))) (mvT hZ (hw _ (List.mem_of_getElem? (i := 5) rfl))) (by decide) (backOf (W := 0) (rm1 l Z a0 hw [] (1 : Int32) h30 n0 Z0 (by decide : ¬ ((1 : Int32) < (1 : Int32))) (by decide : ¬ ((9 : Int32) < (1 : Int32)))) hZ (hw _ (List.mem_of_getElem? (i := 5) rfl)) (hw _ (List.mem_of_getElem? (i := 4) rfl)) (by decide) (by decide)) (g := (mkF m 64 #[.val (.int p1), .val (.int (1 : Int32)), .val (.ref b3)] [(.int (1 : Int32))])) rfl (by rw [hml]; rfl) (argsL := [(.int (1 : Int32))]) (rest := []) (lenOf pd_0 rfl) rfl (by show 2 * 0 + _ ≤ _; exact Nat.le_of_eq rfl) (hb hby at_64) (fun _ _ => ⟨rfl, e30, (by decide : 1 + 0 ≤ _), (by decide : 9 + 0 ≤ _)⟩)
    dsimp only [Pt.U, Pt.locs, Pt.cells, Pt.slots] at X33 l33 y33 z33 st33 hQ33
    subst l33 y33 z33
    obtain ⟨rfl, Nq33, Kq33⟩ := hQ33
    replace NF := Fr.app NF Nq33
    clear Nq33
    refine WP.st st33 ?_
    clear st33
    replace Kq33 := Kq33.trans (rfl : h30 = h30)
    show WP p.tables e below _ T33 (mkF m 67 #[.val (.int p1), .val (.int (1 : Int32)), .val (.ref b3)] [(.int (nar .char (((((97 : Int32) + (1 : Int32)) - (1 : Int32)).toUInt32.toUInt16.toUInt32.toInt32))))])
    rw [show (nar .char (((((97 : Int32) + (1 : Int32)) - (1 : Int32)).toUInt32.toUInt16.toUInt32.toInt32))) = (97 : Int32) from by decide]
    show WP p.tables e below _ T33 (mkF m 67 #[.val (.int p1), .val (.int (1 : Int32)), .val (.ref b3)] [(.int (97 : Int32))])
    have bk34 : ∀ t, Steps p.tables e below (T33.setTop (mkF m 71 #[.val (.int p1), .val (.int (1 : Int32)), .val (.ref b3)] [(.int ((1 : Int32) - (1 : Int32))), (.ref b3), (.int (97 : Int32))])) t → Steps p.tables e below (T33.setTop (mkF m 67 #[.val (.int p1), .val (.int (1 : Int32)), .val (.ref b3)] [(.int (97 : Int32))])) t := fun t k => by
      refine XS.aloadN X33.here hx rfl (hb hby at_67) rfl rfl ?_
      show Steps p.tables e below (T33.setTop (mkF m 68 #[.val (.int p1), .val (.int (1 : Int32)), .val (.ref b3)] [(.ref b3), (.int (97 : Int32))])) t
      refine XS.iloadN X33.here hx rfl (hb hby at_68) rfl ?_
      show Steps p.tables e below (T33.setTop (mkF m 69 #[.val (.int p1), .val (.int (1 : Int32)), .val (.ref b3)] [(.int (1 : Int32)), (.ref b3), (.int (97 : Int32))])) t
      refine XS.iconst X33.here hx rfl (hb hby at_69) ?_
      show Steps p.tables e below (T33.setTop (mkF m 70 #[.val (.int p1), .val (.int (1 : Int32)), .val (.ref b3)] [(.int (1 : Int32)), (.int (1 : Int32)), (.ref b3), (.int (97 : Int32))])) t
      refine XS.isub X33.here hx rfl (hb hby at_70) rfl ?_
      exact k
    refine WP.st bk34 ?_
    clear bk34
    rw [show ((1 : Int32) - (1 : Int32)) = (0 : Int32) from by decide]
    show WP p.tables e below _ T33 (mkF m 71 #[.val (.int p1), .val (.int (1 : Int32)), .val (.ref b3)] [(.int (0 : Int32)), (.ref b3), (.int (97 : Int32))])
    obtain ⟨cl35, Ar35, hin35, hat35, -⟩ := V_b3.rd (j := (0 : Int32)) ⟨by decide, by decide⟩
    replace hat35 : cl35.slots[((0 : Int32)).toNatClampNeg]? = some (.int (97 : Int32)) := hat35
    have bk36 : ∀ t, Steps p.tables e below (T33.setTop (mkF m 80 #[.val (.int p1), .val (.int (1 : Int32)), .val (.ref b3)] [(.int (1 : Int32))])) t → Steps p.tables e below (T33.setTop (mkF m 71 #[.val (.int p1), .val (.int (1 : Int32)), .val (.ref b3)] [(.int (0 : Int32)), (.ref b3), (.int (97 : Int32))])) t := fun t k => by
      refine X33.caload hx (j := (0 : Int32)) (v := (.int (97 : Int32))) (by rw [Kq33]; exact Ar35.1) (State.isArrayOf_alike hZ.alike Ar35.2.1) Ar35.2.2 hin35 hat35 (g := (mkF m 71 #[.val (.int p1), .val (.int (1 : Int32)), .val (.ref b3)] [(.int (0 : Int32)), (.ref b3), (.int (97 : Int32))])) rfl rfl (hb hby at_71) _ ?_
      show Steps p.tables e below (T33.setTop (mkF m 72 #[.val (.int p1), .val (.int (1 : Int32)), .val (.ref b3)] [(.int (97 : Int32)), (.int (97 : Int32))])) t
      refine XS.icmpNo X33.here hx rfl (hb hby at_72) rfl (teq (by decide : (97 : Int32) = (97 : Int32))).2 ?_
      show Steps p.tables e below (T33.setTop (mkF m 75 #[.val (.int p1), .val (.int (1 : Int32)), .val (.ref b3)] [])) t
      refine XS.iconst X33.here hx rfl (hb hby at_75) ?_
      show Steps p.tables e below (T33.setTop (mkF m 76 #[.val (.int p1), .val (.int (1 : Int32)), .val (.ref b3)] [(.int (1 : Int32))])) t
      refine XS.goto X33.here hx rfl (pc0 := 76) (pc' := 80) rfl (hb hby at_76) (by decide) (by decide) ?_
      exact k
    refine WP.st bk36 ?_
    clear bk36
    subst hG
    obtain ⟨fs, hr, hrun, hended, hW, hsame⟩ := X33.leave (v := some (.int (1 : Int32))) (fun h => by rw [Bd.returns] at h; cases h)
    refine WP.fin ⟨_, _, ?_, hrun, hended, _, _, rfl, ?_, ⟨_, rfl⟩, hW, hsame.mono (by decide) (by decide)⟩
    · exact retN X33 hx (t := .boolean) Bd.returns (by simp) (hb hby at_80) hr
    · show Q0 Z p1 h0 n0 _ T33.heap _
      rw [Kq33]
      exact ⟨rfl, NF⟩
  · skip
    show WP p.tables e below _ T30 (mkF m 63 #[.val (.int p1), .val (.int (2 : Int32)), .val (.ref b3)] [])
    have bk37 : ∀ t, Steps p.tables e below (T30.setTop (mkF m 64 #[.val (.int p1), .val (.int (2 : Int32)), .val (.ref b3)] [(.int (2 : Int32))])) t → Steps p.tables e below (T30.setTop (mkF m 63 #[.val (.int p1), .val (.int (2 : Int32)), .val (.ref b3)] [])) t := fun t k => by
      refine XS.iloadN X30.here hx rfl (hb hby at_63) rfl ?_
      exact k
    refine WP.st bk37 ?_
    clear bk37
    obtain ⟨_, _, ⟨T38, L38, k38, n38⟩, -, X38, ⟨Lc38, hQ38, l38, y38, z38⟩, st38⟩ := Jvm.LawKit.callS X30 hx (y := (⟨"com/example/banmen/banmen/position/Position", "rankLetter", "(I)C"⟩ : MethodName)) hown (mvT hZ (hw _ (List.mem_of_getElem? (i := 2) rfl))) (mvT hZ (hw _ (List.mem_of_getElem? (i := 3) rfl))) (mvT hZ (hw _ (List.mem_of_getElem? (i := 4) rfl))) (mvT hZ (hw _ (List.mem_of_getElem? (i := 5) rfl))) (by decide) (backOf (W := 0) (rm1 l Z a0 hw [] (2 : Int32) h30 n0 Z0 (by decide : ¬ ((2 : Int32) < (1 : Int32))) (by decide : ¬ ((9 : Int32) < (2 : Int32)))) hZ (hw _ (List.mem_of_getElem? (i := 5) rfl)) (hw _ (List.mem_of_getElem? (i := 4) rfl)) (by decide) (by decide)) (g := (mkF m 64 #[.val (.int p1), .val (.int (2 : Int32)), .val (.ref b3)] [(.int (2 : Int32))])) rfl (by rw [hml]; rfl) (argsL := [(.int (2 : Int32))]) (rest := []) (lenOf pd_0 rfl) rfl (by show 2 * 0 + _ ≤ _; exact Nat.le_of_eq rfl) (hb hby at_64) (fun _ _ => ⟨rfl, e30, (by decide : 1 + 0 ≤ _), (by decide : 9 + 0 ≤ _)⟩)
    dsimp only [Pt.U, Pt.locs, Pt.cells, Pt.slots] at X38 l38 y38 z38 st38 hQ38
    subst l38 y38 z38
    obtain ⟨rfl, Nq38, Kq38⟩ := hQ38
    replace NF := Fr.app NF Nq38
    clear Nq38
    refine WP.st st38 ?_
    clear st38
    replace Kq38 := Kq38.trans (rfl : h30 = h30)
    show WP p.tables e below _ T38 (mkF m 67 #[.val (.int p1), .val (.int (2 : Int32)), .val (.ref b3)] [(.int (nar .char (((((97 : Int32) + (2 : Int32)) - (1 : Int32)).toUInt32.toUInt16.toUInt32.toInt32))))])
    rw [show (nar .char (((((97 : Int32) + (2 : Int32)) - (1 : Int32)).toUInt32.toUInt16.toUInt32.toInt32))) = (98 : Int32) from by decide]
    show WP p.tables e below _ T38 (mkF m 67 #[.val (.int p1), .val (.int (2 : Int32)), .val (.ref b3)] [(.int (98 : Int32))])
    have bk39 : ∀ t, Steps p.tables e below (T38.setTop (mkF m 71 #[.val (.int p1), .val (.int (2 : Int32)), .val (.ref b3)] [(.int ((2 : Int32) - (1 : Int32))), (.ref b3), (.int (98 : Int32))])) t → Steps p.tables e below (T38.setTop (mkF m 67 #[.val (.int p1), .val (.int (2 : Int32)), .val (.ref b3)] [(.int (98 : Int32))])) t := fun t k => by
      refine XS.aloadN X38.here hx rfl (hb hby at_67) rfl rfl ?_
      show Steps p.tables e below (T38.setTop (mkF m 68 #[.val (.int p1), .val (.int (2 : Int32)), .val (.ref b3)] [(.ref b3), (.int (98 : Int32))])) t
      refine XS.iloadN X38.here hx rfl (hb hby at_68) rfl ?_
      show Steps p.tables e below (T38.setTop (mkF m 69 #[.val (.int p1), .val (.int (2 : Int32)), .val (.ref b3)] [(.int (2 : Int32)), (.ref b3), (.int (98 : Int32))])) t
      refine XS.iconst X38.here hx rfl (hb hby at_69) ?_
      show Steps p.tables e below (T38.setTop (mkF m 70 #[.val (.int p1), .val (.int (2 : Int32)), .val (.ref b3)] [(.int (1 : Int32)), (.int (2 : Int32)), (.ref b3), (.int (98 : Int32))])) t
      refine XS.isub X38.here hx rfl (hb hby at_70) rfl ?_
      exact k
    refine WP.st bk39 ?_
    clear bk39
    rw [show ((2 : Int32) - (1 : Int32)) = (1 : Int32) from by decide]
    show WP p.tables e below _ T38 (mkF m 71 #[.val (.int p1), .val (.int (2 : Int32)), .val (.ref b3)] [(.int (1 : Int32)), (.ref b3), (.int (98 : Int32))])
    obtain ⟨cl40, Ar40, hin40, hat40, -⟩ := V_b3.rd (j := (1 : Int32)) ⟨by decide, by decide⟩
    replace hat40 : cl40.slots[((1 : Int32)).toNatClampNeg]? = some (.int (98 : Int32)) := hat40
    have bk41 : ∀ t, Steps p.tables e below (T38.setTop (mkF m 80 #[.val (.int p1), .val (.int (2 : Int32)), .val (.ref b3)] [(.int (1 : Int32))])) t → Steps p.tables e below (T38.setTop (mkF m 71 #[.val (.int p1), .val (.int (2 : Int32)), .val (.ref b3)] [(.int (1 : Int32)), (.ref b3), (.int (98 : Int32))])) t := fun t k => by
      refine X38.caload hx (j := (1 : Int32)) (v := (.int (98 : Int32))) (by rw [Kq38]; exact Ar40.1) (State.isArrayOf_alike hZ.alike Ar40.2.1) Ar40.2.2 hin40 hat40 (g := (mkF m 71 #[.val (.int p1), .val (.int (2 : Int32)), .val (.ref b3)] [(.int (1 : Int32)), (.ref b3), (.int (98 : Int32))])) rfl rfl (hb hby at_71) _ ?_
      show Steps p.tables e below (T38.setTop (mkF m 72 #[.val (.int p1), .val (.int (2 : Int32)), .val (.ref b3)] [(.int (98 : Int32)), (.int (98 : Int32))])) t
      refine XS.icmpNo X38.here hx rfl (hb hby at_72) rfl (teq (by decide : (98 : Int32) = (98 : Int32))).2 ?_
      show Steps p.tables e below (T38.setTop (mkF m 75 #[.val (.int p1), .val (.int (2 : Int32)), .val (.ref b3)] [])) t
      refine XS.iconst X38.here hx rfl (hb hby at_75) ?_
      show Steps p.tables e below (T38.setTop (mkF m 76 #[.val (.int p1), .val (.int (2 : Int32)), .val (.ref b3)] [(.int (1 : Int32))])) t
      refine XS.goto X38.here hx rfl (pc0 := 76) (pc' := 80) rfl (hb hby at_76) (by decide) (by decide) ?_
      exact k
    refine WP.st bk41 ?_
    clear bk41
    subst hG
    obtain ⟨fs, hr, hrun, hended, hW, hsame⟩ := X38.leave (v := some (.int (1 : Int32))) (fun h => by rw [Bd.returns] at h; cases h)
    refine WP.fin ⟨_, _, ?_, hrun, hended, _, _, rfl, ?_, ⟨_, rfl⟩, hW, hsame.mono (by decide) (by decide)⟩
    · exact retN X38 hx (t := .boolean) Bd.returns (by simp) (hb hby at_80) hr
    · show Q0 Z p1 h0 n0 _ T38.heap _
      rw [Kq38]
      exact ⟨rfl, NF⟩
  · skip
    show WP p.tables e below _ T30 (mkF m 63 #[.val (.int p1), .val (.int (3 : Int32)), .val (.ref b3)] [])
    have bk42 : ∀ t, Steps p.tables e below (T30.setTop (mkF m 64 #[.val (.int p1), .val (.int (3 : Int32)), .val (.ref b3)] [(.int (3 : Int32))])) t → Steps p.tables e below (T30.setTop (mkF m 63 #[.val (.int p1), .val (.int (3 : Int32)), .val (.ref b3)] [])) t := fun t k => by
      refine XS.iloadN X30.here hx rfl (hb hby at_63) rfl ?_
      exact k
    refine WP.st bk42 ?_
    clear bk42
    obtain ⟨_, _, ⟨T43, L43, k43, n43⟩, -, X43, ⟨Lc43, hQ43, l43, y43, z43⟩, st43⟩ := Jvm.LawKit.callS X30 hx (y := (⟨"com/example/banmen/banmen/position/Position", "rankLetter", "(I)C"⟩ : MethodName)) hown (mvT hZ (hw _ (List.mem_of_getElem? (i := 2) rfl))) (mvT hZ (hw _ (List.mem_of_getElem? (i := 3) rfl))) (mvT hZ (hw _ (List.mem_of_getElem? (i := 4) rfl))) (mvT hZ (hw _ (List.mem_of_getElem? (i := 5) rfl))) (by decide) (backOf (W := 0) (rm1 l Z a0 hw [] (3 : Int32) h30 n0 Z0 (by decide : ¬ ((3 : Int32) < (1 : Int32))) (by decide : ¬ ((9 : Int32) < (3 : Int32)))) hZ (hw _ (List.mem_of_getElem? (i := 5) rfl)) (hw _ (List.mem_of_getElem? (i := 4) rfl)) (by decide) (by decide)) (g := (mkF m 64 #[.val (.int p1), .val (.int (3 : Int32)), .val (.ref b3)] [(.int (3 : Int32))])) rfl (by rw [hml]; rfl) (argsL := [(.int (3 : Int32))]) (rest := []) (lenOf pd_0 rfl) rfl (by show 2 * 0 + _ ≤ _; exact Nat.le_of_eq rfl) (hb hby at_64) (fun _ _ => ⟨rfl, e30, (by decide : 1 + 0 ≤ _), (by decide : 9 + 0 ≤ _)⟩)
    dsimp only [Pt.U, Pt.locs, Pt.cells, Pt.slots] at X43 l43 y43 z43 st43 hQ43
    subst l43 y43 z43
    obtain ⟨rfl, Nq43, Kq43⟩ := hQ43
    replace NF := Fr.app NF Nq43
    clear Nq43
    refine WP.st st43 ?_
    clear st43
    replace Kq43 := Kq43.trans (rfl : h30 = h30)
    show WP p.tables e below _ T43 (mkF m 67 #[.val (.int p1), .val (.int (3 : Int32)), .val (.ref b3)] [(.int (nar .char (((((97 : Int32) + (3 : Int32)) - (1 : Int32)).toUInt32.toUInt16.toUInt32.toInt32))))])
    rw [show (nar .char (((((97 : Int32) + (3 : Int32)) - (1 : Int32)).toUInt32.toUInt16.toUInt32.toInt32))) = (99 : Int32) from by decide]
    show WP p.tables e below _ T43 (mkF m 67 #[.val (.int p1), .val (.int (3 : Int32)), .val (.ref b3)] [(.int (99 : Int32))])
    have bk44 : ∀ t, Steps p.tables e below (T43.setTop (mkF m 71 #[.val (.int p1), .val (.int (3 : Int32)), .val (.ref b3)] [(.int ((3 : Int32) - (1 : Int32))), (.ref b3), (.int (99 : Int32))])) t → Steps p.tables e below (T43.setTop (mkF m 67 #[.val (.int p1), .val (.int (3 : Int32)), .val (.ref b3)] [(.int (99 : Int32))])) t := fun t k => by
      refine XS.aloadN X43.here hx rfl (hb hby at_67) rfl rfl ?_
      show Steps p.tables e below (T43.setTop (mkF m 68 #[.val (.int p1), .val (.int (3 : Int32)), .val (.ref b3)] [(.ref b3), (.int (99 : Int32))])) t
      refine XS.iloadN X43.here hx rfl (hb hby at_68) rfl ?_
      show Steps p.tables e below (T43.setTop (mkF m 69 #[.val (.int p1), .val (.int (3 : Int32)), .val (.ref b3)] [(.int (3 : Int32)), (.ref b3), (.int (99 : Int32))])) t
      refine XS.iconst X43.here hx rfl (hb hby at_69) ?_
      show Steps p.tables e below (T43.setTop (mkF m 70 #[.val (.int p1), .val (.int (3 : Int32)), .val (.ref b3)] [(.int (1 : Int32)), (.int (3 : Int32)), (.ref b3), (.int (99 : Int32))])) t
      refine XS.isub X43.here hx rfl (hb hby at_70) rfl ?_
      exact k
    refine WP.st bk44 ?_
    clear bk44
    rw [show ((3 : Int32) - (1 : Int32)) = (2 : Int32) from by decide]
    show WP p.tables e below _ T43 (mkF m 71 #[.val (.int p1), .val (.int (3 : Int32)), .val (.ref b3)] [(.int (2 : Int32)), (.ref b3), (.int (99 : Int32))])
    obtain ⟨cl45, Ar45, hin45, hat45, -⟩ := V_b3.rd (j := (2 : Int32)) ⟨by decide, by decide⟩
    replace hat45 : cl45.slots[((2 : Int32)).toNatClampNeg]? = some (.int (99 : Int32)) := hat45
    have bk46 : ∀ t, Steps p.tables e below (T43.setTop (mkF m 80 #[.val (.int p1), .val (.int (3 : Int32)), .val (.ref b3)] [(.int (1 : Int32))])) t → Steps p.tables e below (T43.setTop (mkF m 71 #[.val (.int p1), .val (.int (3 : Int32)), .val (.ref b3)] [(.int (2 : Int32)), (.ref b3), (.int (99 : Int32))])) t := fun t k => by
      refine X43.caload hx (j := (2 : Int32)) (v := (.int (99 : Int32))) (by rw [Kq43]; exact Ar45.1) (State.isArrayOf_alike hZ.alike Ar45.2.1) Ar45.2.2 hin45 hat45 (g := (mkF m 71 #[.val (.int p1), .val (.int (3 : Int32)), .val (.ref b3)] [(.int (2 : Int32)), (.ref b3), (.int (99 : Int32))])) rfl rfl (hb hby at_71) _ ?_
      show Steps p.tables e below (T43.setTop (mkF m 72 #[.val (.int p1), .val (.int (3 : Int32)), .val (.ref b3)] [(.int (99 : Int32)), (.int (99 : Int32))])) t
      refine XS.icmpNo X43.here hx rfl (hb hby at_72) rfl (teq (by decide : (99 : Int32) = (99 : Int32))).2 ?_
      show Steps p.tables e below (T43.setTop (mkF m 75 #[.val (.int p1), .val (.int (3 : Int32)), .val (.ref b3)] [])) t
      refine XS.iconst X43.here hx rfl (hb hby at_75) ?_
      show Steps p.tables e below (T43.setTop (mkF m 76 #[.val (.int p1), .val (.int (3 : Int32)), .val (.ref b3)] [(.int (1 : Int32))])) t
      refine XS.goto X43.here hx rfl (pc0 := 76) (pc' := 80) rfl (hb hby at_76) (by decide) (by decide) ?_
      exact k
    refine WP.st bk46 ?_
    clear bk46
    subst hG
    obtain ⟨fs, hr, hrun, hended, hW, hsame⟩ := X43.leave (v := some (.int (1 : Int32))) (fun h => by rw [Bd.returns] at h; cases h)
    refine WP.fin ⟨_, _, ?_, hrun, hended, _, _, rfl, ?_, ⟨_, rfl⟩, hW, hsame.mono (by decide) (by decide)⟩
    · exact retN X43 hx (t := .boolean) Bd.returns (by simp) (hb hby at_80) hr
    · show Q0 Z p1 h0 n0 _ T43.heap _
      rw [Kq43]
      exact ⟨rfl, NF⟩
  · skip
    show WP p.tables e below _ T30 (mkF m 63 #[.val (.int p1), .val (.int (4 : Int32)), .val (.ref b3)] [])
    have bk47 : ∀ t, Steps p.tables e below (T30.setTop (mkF m 64 #[.val (.int p1), .val (.int (4 : Int32)), .val (.ref b3)] [(.int (4 : Int32))])) t → Steps p.tables e below (T30.setTop (mkF m 63 #[.val (.int p1), .val (.int (4 : Int32)), .val (.ref b3)] [])) t := fun t k => by
      refine XS.iloadN X30.here hx rfl (hb hby at_63) rfl ?_
      exact k
    refine WP.st bk47 ?_
    clear bk47
    obtain ⟨_, _, ⟨T48, L48, k48, n48⟩, -, X48, ⟨Lc48, hQ48, l48, y48, z48⟩, st48⟩ := Jvm.LawKit.callS X30 hx (y := (⟨"com/example/banmen/banmen/position/Position", "rankLetter", "(I)C"⟩ : MethodName)) hown (mvT hZ (hw _ (List.mem_of_getElem? (i := 2) rfl))) (mvT hZ (hw _ (List.mem_of_getElem? (i := 3) rfl))) (mvT hZ (hw _ (List.mem_of_getElem? (i := 4) rfl))) (mvT hZ (hw _ (List.mem_of_getElem? (i := 5) rfl))) (by decide) (backOf (W := 0) (rm1 l Z a0 hw [] (4 : Int32) h30 n0 Z0 (by decide : ¬ ((4 : Int32) < (1 : Int32))) (by decide : ¬ ((9 : Int32) < (4 : Int32)))) hZ (hw _ (List.mem_of_getElem? (i := 5) rfl)) (hw _ (List.mem_of_getElem? (i := 4) rfl)) (by decide) (by decide)) (g := (mkF m 64 #[.val (.int p1), .val (.int (4 : Int32)), .val (.ref b3)] [(.int (4 : Int32))])) rfl (by rw [hml]; rfl) (argsL := [(.int (4 : Int32))]) (rest := []) (lenOf pd_0 rfl) rfl (by show 2 * 0 + _ ≤ _; exact Nat.le_of_eq rfl) (hb hby at_64) (fun _ _ => ⟨rfl, e30, (by decide : 1 + 0 ≤ _), (by decide : 9 + 0 ≤ _)⟩)
    dsimp only [Pt.U, Pt.locs, Pt.cells, Pt.slots] at X48 l48 y48 z48 st48 hQ48
    subst l48 y48 z48
    obtain ⟨rfl, Nq48, Kq48⟩ := hQ48
    replace NF := Fr.app NF Nq48
    clear Nq48
    refine WP.st st48 ?_
    clear st48
    replace Kq48 := Kq48.trans (rfl : h30 = h30)
    show WP p.tables e below _ T48 (mkF m 67 #[.val (.int p1), .val (.int (4 : Int32)), .val (.ref b3)] [(.int (nar .char (((((97 : Int32) + (4 : Int32)) - (1 : Int32)).toUInt32.toUInt16.toUInt32.toInt32))))])
    rw [show (nar .char (((((97 : Int32) + (4 : Int32)) - (1 : Int32)).toUInt32.toUInt16.toUInt32.toInt32))) = (100 : Int32) from by decide]
    show WP p.tables e below _ T48 (mkF m 67 #[.val (.int p1), .val (.int (4 : Int32)), .val (.ref b3)] [(.int (100 : Int32))])
    have bk49 : ∀ t, Steps p.tables e below (T48.setTop (mkF m 71 #[.val (.int p1), .val (.int (4 : Int32)), .val (.ref b3)] [(.int ((4 : Int32) - (1 : Int32))), (.ref b3), (.int (100 : Int32))])) t → Steps p.tables e below (T48.setTop (mkF m 67 #[.val (.int p1), .val (.int (4 : Int32)), .val (.ref b3)] [(.int (100 : Int32))])) t := fun t k => by
      refine XS.aloadN X48.here hx rfl (hb hby at_67) rfl rfl ?_
      show Steps p.tables e below (T48.setTop (mkF m 68 #[.val (.int p1), .val (.int (4 : Int32)), .val (.ref b3)] [(.ref b3), (.int (100 : Int32))])) t
      refine XS.iloadN X48.here hx rfl (hb hby at_68) rfl ?_
      show Steps p.tables e below (T48.setTop (mkF m 69 #[.val (.int p1), .val (.int (4 : Int32)), .val (.ref b3)] [(.int (4 : Int32)), (.ref b3), (.int (100 : Int32))])) t
      refine XS.iconst X48.here hx rfl (hb hby at_69) ?_
      show Steps p.tables e below (T48.setTop (mkF m 70 #[.val (.int p1), .val (.int (4 : Int32)), .val (.ref b3)] [(.int (1 : Int32)), (.int (4 : Int32)), (.ref b3), (.int (100 : Int32))])) t
      refine XS.isub X48.here hx rfl (hb hby at_70) rfl ?_
      exact k
    refine WP.st bk49 ?_
    clear bk49
    rw [show ((4 : Int32) - (1 : Int32)) = (3 : Int32) from by decide]
    show WP p.tables e below _ T48 (mkF m 71 #[.val (.int p1), .val (.int (4 : Int32)), .val (.ref b3)] [(.int (3 : Int32)), (.ref b3), (.int (100 : Int32))])
    obtain ⟨cl50, Ar50, hin50, hat50, -⟩ := V_b3.rd (j := (3 : Int32)) ⟨by decide, by decide⟩
    replace hat50 : cl50.slots[((3 : Int32)).toNatClampNeg]? = some (.int (100 : Int32)) := hat50
    have bk51 : ∀ t, Steps p.tables e below (T48.setTop (mkF m 80 #[.val (.int p1), .val (.int (4 : Int32)), .val (.ref b3)] [(.int (1 : Int32))])) t → Steps p.tables e below (T48.setTop (mkF m 71 #[.val (.int p1), .val (.int (4 : Int32)), .val (.ref b3)] [(.int (3 : Int32)), (.ref b3), (.int (100 : Int32))])) t := fun t k => by
      refine X48.caload hx (j := (3 : Int32)) (v := (.int (100 : Int32))) (by rw [Kq48]; exact Ar50.1) (State.isArrayOf_alike hZ.alike Ar50.2.1) Ar50.2.2 hin50 hat50 (g := (mkF m 71 #[.val (.int p1), .val (.int (4 : Int32)), .val (.ref b3)] [(.int (3 : Int32)), (.ref b3), (.int (100 : Int32))])) rfl rfl (hb hby at_71) _ ?_
      show Steps p.tables e below (T48.setTop (mkF m 72 #[.val (.int p1), .val (.int (4 : Int32)), .val (.ref b3)] [(.int (100 : Int32)), (.int (100 : Int32))])) t
      refine XS.icmpNo X48.here hx rfl (hb hby at_72) rfl (teq (by decide : (100 : Int32) = (100 : Int32))).2 ?_
      show Steps p.tables e below (T48.setTop (mkF m 75 #[.val (.int p1), .val (.int (4 : Int32)), .val (.ref b3)] [])) t
      refine XS.iconst X48.here hx rfl (hb hby at_75) ?_
      show Steps p.tables e below (T48.setTop (mkF m 76 #[.val (.int p1), .val (.int (4 : Int32)), .val (.ref b3)] [(.int (1 : Int32))])) t
      refine XS.goto X48.here hx rfl (pc0 := 76) (pc' := 80) rfl (hb hby at_76) (by decide) (by decide) ?_
      exact k
    refine WP.st bk51 ?_
    clear bk51
    subst hG
    obtain ⟨fs, hr, hrun, hended, hW, hsame⟩ := X48.leave (v := some (.int (1 : Int32))) (fun h => by rw [Bd.returns] at h; cases h)
    refine WP.fin ⟨_, _, ?_, hrun, hended, _, _, rfl, ?_, ⟨_, rfl⟩, hW, hsame.mono (by decide) (by decide)⟩
    · exact retN X48 hx (t := .boolean) Bd.returns (by simp) (hb hby at_80) hr
    · show Q0 Z p1 h0 n0 _ T48.heap _
      rw [Kq48]
      exact ⟨rfl, NF⟩
  · skip
    show WP p.tables e below _ T30 (mkF m 63 #[.val (.int p1), .val (.int (5 : Int32)), .val (.ref b3)] [])
    have bk52 : ∀ t, Steps p.tables e below (T30.setTop (mkF m 64 #[.val (.int p1), .val (.int (5 : Int32)), .val (.ref b3)] [(.int (5 : Int32))])) t → Steps p.tables e below (T30.setTop (mkF m 63 #[.val (.int p1), .val (.int (5 : Int32)), .val (.ref b3)] [])) t := fun t k => by
      refine XS.iloadN X30.here hx rfl (hb hby at_63) rfl ?_
      exact k
    refine WP.st bk52 ?_
    clear bk52
    obtain ⟨_, _, ⟨T53, L53, k53, n53⟩, -, X53, ⟨Lc53, hQ53, l53, y53, z53⟩, st53⟩ := Jvm.LawKit.callS X30 hx (y := (⟨"com/example/banmen/banmen/position/Position", "rankLetter", "(I)C"⟩ : MethodName)) hown (mvT hZ (hw _ (List.mem_of_getElem? (i := 2) rfl))) (mvT hZ (hw _ (List.mem_of_getElem? (i := 3) rfl))) (mvT hZ (hw _ (List.mem_of_getElem? (i := 4) rfl))) (mvT hZ (hw _ (List.mem_of_getElem? (i := 5) rfl))) (by decide) (backOf (W := 0) (rm1 l Z a0 hw [] (5 : Int32) h30 n0 Z0 (by decide : ¬ ((5 : Int32) < (1 : Int32))) (by decide : ¬ ((9 : Int32) < (5 : Int32)))) hZ (hw _ (List.mem_of_getElem? (i := 5) rfl)) (hw _ (List.mem_of_getElem? (i := 4) rfl)) (by decide) (by decide)) (g := (mkF m 64 #[.val (.int p1), .val (.int (5 : Int32)), .val (.ref b3)] [(.int (5 : Int32))])) rfl (by rw [hml]; rfl) (argsL := [(.int (5 : Int32))]) (rest := []) (lenOf pd_0 rfl) rfl (by show 2 * 0 + _ ≤ _; exact Nat.le_of_eq rfl) (hb hby at_64) (fun _ _ => ⟨rfl, e30, (by decide : 1 + 0 ≤ _), (by decide : 9 + 0 ≤ _)⟩)
    dsimp only [Pt.U, Pt.locs, Pt.cells, Pt.slots] at X53 l53 y53 z53 st53 hQ53
    subst l53 y53 z53
    obtain ⟨rfl, Nq53, Kq53⟩ := hQ53
    replace NF := Fr.app NF Nq53
    clear Nq53
    refine WP.st st53 ?_
    clear st53
    replace Kq53 := Kq53.trans (rfl : h30 = h30)
    show WP p.tables e below _ T53 (mkF m 67 #[.val (.int p1), .val (.int (5 : Int32)), .val (.ref b3)] [(.int (nar .char (((((97 : Int32) + (5 : Int32)) - (1 : Int32)).toUInt32.toUInt16.toUInt32.toInt32))))])
    rw [show (nar .char (((((97 : Int32) + (5 : Int32)) - (1 : Int32)).toUInt32.toUInt16.toUInt32.toInt32))) = (101 : Int32) from by decide]
    show WP p.tables e below _ T53 (mkF m 67 #[.val (.int p1), .val (.int (5 : Int32)), .val (.ref b3)] [(.int (101 : Int32))])
    have bk54 : ∀ t, Steps p.tables e below (T53.setTop (mkF m 71 #[.val (.int p1), .val (.int (5 : Int32)), .val (.ref b3)] [(.int ((5 : Int32) - (1 : Int32))), (.ref b3), (.int (101 : Int32))])) t → Steps p.tables e below (T53.setTop (mkF m 67 #[.val (.int p1), .val (.int (5 : Int32)), .val (.ref b3)] [(.int (101 : Int32))])) t := fun t k => by
      refine XS.aloadN X53.here hx rfl (hb hby at_67) rfl rfl ?_
      show Steps p.tables e below (T53.setTop (mkF m 68 #[.val (.int p1), .val (.int (5 : Int32)), .val (.ref b3)] [(.ref b3), (.int (101 : Int32))])) t
      refine XS.iloadN X53.here hx rfl (hb hby at_68) rfl ?_
      show Steps p.tables e below (T53.setTop (mkF m 69 #[.val (.int p1), .val (.int (5 : Int32)), .val (.ref b3)] [(.int (5 : Int32)), (.ref b3), (.int (101 : Int32))])) t
      refine XS.iconst X53.here hx rfl (hb hby at_69) ?_
      show Steps p.tables e below (T53.setTop (mkF m 70 #[.val (.int p1), .val (.int (5 : Int32)), .val (.ref b3)] [(.int (1 : Int32)), (.int (5 : Int32)), (.ref b3), (.int (101 : Int32))])) t
      refine XS.isub X53.here hx rfl (hb hby at_70) rfl ?_
      exact k
    refine WP.st bk54 ?_
    clear bk54
    rw [show ((5 : Int32) - (1 : Int32)) = (4 : Int32) from by decide]
    show WP p.tables e below _ T53 (mkF m 71 #[.val (.int p1), .val (.int (5 : Int32)), .val (.ref b3)] [(.int (4 : Int32)), (.ref b3), (.int (101 : Int32))])
    obtain ⟨cl55, Ar55, hin55, hat55, -⟩ := V_b3.rd (j := (4 : Int32)) ⟨by decide, by decide⟩
    replace hat55 : cl55.slots[((4 : Int32)).toNatClampNeg]? = some (.int (101 : Int32)) := hat55
    have bk56 : ∀ t, Steps p.tables e below (T53.setTop (mkF m 80 #[.val (.int p1), .val (.int (5 : Int32)), .val (.ref b3)] [(.int (1 : Int32))])) t → Steps p.tables e below (T53.setTop (mkF m 71 #[.val (.int p1), .val (.int (5 : Int32)), .val (.ref b3)] [(.int (4 : Int32)), (.ref b3), (.int (101 : Int32))])) t := fun t k => by
      refine X53.caload hx (j := (4 : Int32)) (v := (.int (101 : Int32))) (by rw [Kq53]; exact Ar55.1) (State.isArrayOf_alike hZ.alike Ar55.2.1) Ar55.2.2 hin55 hat55 (g := (mkF m 71 #[.val (.int p1), .val (.int (5 : Int32)), .val (.ref b3)] [(.int (4 : Int32)), (.ref b3), (.int (101 : Int32))])) rfl rfl (hb hby at_71) _ ?_
      show Steps p.tables e below (T53.setTop (mkF m 72 #[.val (.int p1), .val (.int (5 : Int32)), .val (.ref b3)] [(.int (101 : Int32)), (.int (101 : Int32))])) t
      refine XS.icmpNo X53.here hx rfl (hb hby at_72) rfl (teq (by decide : (101 : Int32) = (101 : Int32))).2 ?_
      show Steps p.tables e below (T53.setTop (mkF m 75 #[.val (.int p1), .val (.int (5 : Int32)), .val (.ref b3)] [])) t
      refine XS.iconst X53.here hx rfl (hb hby at_75) ?_
      show Steps p.tables e below (T53.setTop (mkF m 76 #[.val (.int p1), .val (.int (5 : Int32)), .val (.ref b3)] [(.int (1 : Int32))])) t
      refine XS.goto X53.here hx rfl (pc0 := 76) (pc' := 80) rfl (hb hby at_76) (by decide) (by decide) ?_
      exact k
    refine WP.st bk56 ?_
    clear bk56
    subst hG
    obtain ⟨fs, hr, hrun, hended, hW, hsame⟩ := X53.leave (v := some (.int (1 : Int32))) (fun h => by rw [Bd.returns] at h; cases h)
    refine WP.fin ⟨_, _, ?_, hrun, hended, _, _, rfl, ?_, ⟨_, rfl⟩, hW, hsame.mono (by decide) (by decide)⟩
    · exact retN X53 hx (t := .boolean) Bd.returns (by simp) (hb hby at_80) hr
    · show Q0 Z p1 h0 n0 _ T53.heap _
      rw [Kq53]
      exact ⟨rfl, NF⟩
  · skip
    show WP p.tables e below _ T30 (mkF m 63 #[.val (.int p1), .val (.int (6 : Int32)), .val (.ref b3)] [])
    have bk57 : ∀ t, Steps p.tables e below (T30.setTop (mkF m 64 #[.val (.int p1), .val (.int (6 : Int32)), .val (.ref b3)] [(.int (6 : Int32))])) t → Steps p.tables e below (T30.setTop (mkF m 63 #[.val (.int p1), .val (.int (6 : Int32)), .val (.ref b3)] [])) t := fun t k => by
      refine XS.iloadN X30.here hx rfl (hb hby at_63) rfl ?_
      exact k
    refine WP.st bk57 ?_
    clear bk57
    obtain ⟨_, _, ⟨T58, L58, k58, n58⟩, -, X58, ⟨Lc58, hQ58, l58, y58, z58⟩, st58⟩ := Jvm.LawKit.callS X30 hx (y := (⟨"com/example/banmen/banmen/position/Position", "rankLetter", "(I)C"⟩ : MethodName)) hown (mvT hZ (hw _ (List.mem_of_getElem? (i := 2) rfl))) (mvT hZ (hw _ (List.mem_of_getElem? (i := 3) rfl))) (mvT hZ (hw _ (List.mem_of_getElem? (i := 4) rfl))) (mvT hZ (hw _ (List.mem_of_getElem? (i := 5) rfl))) (by decide) (backOf (W := 0) (rm1 l Z a0 hw [] (6 : Int32) h30 n0 Z0 (by decide : ¬ ((6 : Int32) < (1 : Int32))) (by decide : ¬ ((9 : Int32) < (6 : Int32)))) hZ (hw _ (List.mem_of_getElem? (i := 5) rfl)) (hw _ (List.mem_of_getElem? (i := 4) rfl)) (by decide) (by decide)) (g := (mkF m 64 #[.val (.int p1), .val (.int (6 : Int32)), .val (.ref b3)] [(.int (6 : Int32))])) rfl (by rw [hml]; rfl) (argsL := [(.int (6 : Int32))]) (rest := []) (lenOf pd_0 rfl) rfl (by show 2 * 0 + _ ≤ _; exact Nat.le_of_eq rfl) (hb hby at_64) (fun _ _ => ⟨rfl, e30, (by decide : 1 + 0 ≤ _), (by decide : 9 + 0 ≤ _)⟩)
    dsimp only [Pt.U, Pt.locs, Pt.cells, Pt.slots] at X58 l58 y58 z58 st58 hQ58
    subst l58 y58 z58
    obtain ⟨rfl, Nq58, Kq58⟩ := hQ58
    replace NF := Fr.app NF Nq58
    clear Nq58
    refine WP.st st58 ?_
    clear st58
    replace Kq58 := Kq58.trans (rfl : h30 = h30)
    show WP p.tables e below _ T58 (mkF m 67 #[.val (.int p1), .val (.int (6 : Int32)), .val (.ref b3)] [(.int (nar .char (((((97 : Int32) + (6 : Int32)) - (1 : Int32)).toUInt32.toUInt16.toUInt32.toInt32))))])
    rw [show (nar .char (((((97 : Int32) + (6 : Int32)) - (1 : Int32)).toUInt32.toUInt16.toUInt32.toInt32))) = (102 : Int32) from by decide]
    show WP p.tables e below _ T58 (mkF m 67 #[.val (.int p1), .val (.int (6 : Int32)), .val (.ref b3)] [(.int (102 : Int32))])
    have bk59 : ∀ t, Steps p.tables e below (T58.setTop (mkF m 71 #[.val (.int p1), .val (.int (6 : Int32)), .val (.ref b3)] [(.int ((6 : Int32) - (1 : Int32))), (.ref b3), (.int (102 : Int32))])) t → Steps p.tables e below (T58.setTop (mkF m 67 #[.val (.int p1), .val (.int (6 : Int32)), .val (.ref b3)] [(.int (102 : Int32))])) t := fun t k => by
      refine XS.aloadN X58.here hx rfl (hb hby at_67) rfl rfl ?_
      show Steps p.tables e below (T58.setTop (mkF m 68 #[.val (.int p1), .val (.int (6 : Int32)), .val (.ref b3)] [(.ref b3), (.int (102 : Int32))])) t
      refine XS.iloadN X58.here hx rfl (hb hby at_68) rfl ?_
      show Steps p.tables e below (T58.setTop (mkF m 69 #[.val (.int p1), .val (.int (6 : Int32)), .val (.ref b3)] [(.int (6 : Int32)), (.ref b3), (.int (102 : Int32))])) t
      refine XS.iconst X58.here hx rfl (hb hby at_69) ?_
      show Steps p.tables e below (T58.setTop (mkF m 70 #[.val (.int p1), .val (.int (6 : Int32)), .val (.ref b3)] [(.int (1 : Int32)), (.int (6 : Int32)), (.ref b3), (.int (102 : Int32))])) t
      refine XS.isub X58.here hx rfl (hb hby at_70) rfl ?_
      exact k
    refine WP.st bk59 ?_
    clear bk59
    rw [show ((6 : Int32) - (1 : Int32)) = (5 : Int32) from by decide]
    show WP p.tables e below _ T58 (mkF m 71 #[.val (.int p1), .val (.int (6 : Int32)), .val (.ref b3)] [(.int (5 : Int32)), (.ref b3), (.int (102 : Int32))])
    obtain ⟨cl60, Ar60, hin60, hat60, -⟩ := V_b3.rd (j := (5 : Int32)) ⟨by decide, by decide⟩
    replace hat60 : cl60.slots[((5 : Int32)).toNatClampNeg]? = some (.int (102 : Int32)) := hat60
    have bk61 : ∀ t, Steps p.tables e below (T58.setTop (mkF m 80 #[.val (.int p1), .val (.int (6 : Int32)), .val (.ref b3)] [(.int (1 : Int32))])) t → Steps p.tables e below (T58.setTop (mkF m 71 #[.val (.int p1), .val (.int (6 : Int32)), .val (.ref b3)] [(.int (5 : Int32)), (.ref b3), (.int (102 : Int32))])) t := fun t k => by
      refine X58.caload hx (j := (5 : Int32)) (v := (.int (102 : Int32))) (by rw [Kq58]; exact Ar60.1) (State.isArrayOf_alike hZ.alike Ar60.2.1) Ar60.2.2 hin60 hat60 (g := (mkF m 71 #[.val (.int p1), .val (.int (6 : Int32)), .val (.ref b3)] [(.int (5 : Int32)), (.ref b3), (.int (102 : Int32))])) rfl rfl (hb hby at_71) _ ?_
      show Steps p.tables e below (T58.setTop (mkF m 72 #[.val (.int p1), .val (.int (6 : Int32)), .val (.ref b3)] [(.int (102 : Int32)), (.int (102 : Int32))])) t
      refine XS.icmpNo X58.here hx rfl (hb hby at_72) rfl (teq (by decide : (102 : Int32) = (102 : Int32))).2 ?_
      show Steps p.tables e below (T58.setTop (mkF m 75 #[.val (.int p1), .val (.int (6 : Int32)), .val (.ref b3)] [])) t
      refine XS.iconst X58.here hx rfl (hb hby at_75) ?_
      show Steps p.tables e below (T58.setTop (mkF m 76 #[.val (.int p1), .val (.int (6 : Int32)), .val (.ref b3)] [(.int (1 : Int32))])) t
      refine XS.goto X58.here hx rfl (pc0 := 76) (pc' := 80) rfl (hb hby at_76) (by decide) (by decide) ?_
      exact k
    refine WP.st bk61 ?_
    clear bk61
    subst hG
    obtain ⟨fs, hr, hrun, hended, hW, hsame⟩ := X58.leave (v := some (.int (1 : Int32))) (fun h => by rw [Bd.returns] at h; cases h)
    refine WP.fin ⟨_, _, ?_, hrun, hended, _, _, rfl, ?_, ⟨_, rfl⟩, hW, hsame.mono (by decide) (by decide)⟩
    · exact retN X58 hx (t := .boolean) Bd.returns (by simp) (hb hby at_80) hr
    · show Q0 Z p1 h0 n0 _ T58.heap _
      rw [Kq58]
      exact ⟨rfl, NF⟩
  · skip
    show WP p.tables e below _ T30 (mkF m 63 #[.val (.int p1), .val (.int (7 : Int32)), .val (.ref b3)] [])
    have bk62 : ∀ t, Steps p.tables e below (T30.setTop (mkF m 64 #[.val (.int p1), .val (.int (7 : Int32)), .val (.ref b3)] [(.int (7 : Int32))])) t → Steps p.tables e below (T30.setTop (mkF m 63 #[.val (.int p1), .val (.int (7 : Int32)), .val (.ref b3)] [])) t := fun t k => by
      refine XS.iloadN X30.here hx rfl (hb hby at_63) rfl ?_
      exact k
    refine WP.st bk62 ?_
    clear bk62
    obtain ⟨_, _, ⟨T63, L63, k63, n63⟩, -, X63, ⟨Lc63, hQ63, l63, y63, z63⟩, st63⟩ := Jvm.LawKit.callS X30 hx (y := (⟨"com/example/banmen/banmen/position/Position", "rankLetter", "(I)C"⟩ : MethodName)) hown (mvT hZ (hw _ (List.mem_of_getElem? (i := 2) rfl))) (mvT hZ (hw _ (List.mem_of_getElem? (i := 3) rfl))) (mvT hZ (hw _ (List.mem_of_getElem? (i := 4) rfl))) (mvT hZ (hw _ (List.mem_of_getElem? (i := 5) rfl))) (by decide) (backOf (W := 0) (rm1 l Z a0 hw [] (7 : Int32) h30 n0 Z0 (by decide : ¬ ((7 : Int32) < (1 : Int32))) (by decide : ¬ ((9 : Int32) < (7 : Int32)))) hZ (hw _ (List.mem_of_getElem? (i := 5) rfl)) (hw _ (List.mem_of_getElem? (i := 4) rfl)) (by decide) (by decide)) (g := (mkF m 64 #[.val (.int p1), .val (.int (7 : Int32)), .val (.ref b3)] [(.int (7 : Int32))])) rfl (by rw [hml]; rfl) (argsL := [(.int (7 : Int32))]) (rest := []) (lenOf pd_0 rfl) rfl (by show 2 * 0 + _ ≤ _; exact Nat.le_of_eq rfl) (hb hby at_64) (fun _ _ => ⟨rfl, e30, (by decide : 1 + 0 ≤ _), (by decide : 9 + 0 ≤ _)⟩)
    dsimp only [Pt.U, Pt.locs, Pt.cells, Pt.slots] at X63 l63 y63 z63 st63 hQ63
    subst l63 y63 z63
    obtain ⟨rfl, Nq63, Kq63⟩ := hQ63
    replace NF := Fr.app NF Nq63
    clear Nq63
    refine WP.st st63 ?_
    clear st63
    replace Kq63 := Kq63.trans (rfl : h30 = h30)
    show WP p.tables e below _ T63 (mkF m 67 #[.val (.int p1), .val (.int (7 : Int32)), .val (.ref b3)] [(.int (nar .char (((((97 : Int32) + (7 : Int32)) - (1 : Int32)).toUInt32.toUInt16.toUInt32.toInt32))))])
    rw [show (nar .char (((((97 : Int32) + (7 : Int32)) - (1 : Int32)).toUInt32.toUInt16.toUInt32.toInt32))) = (103 : Int32) from by decide]
    show WP p.tables e below _ T63 (mkF m 67 #[.val (.int p1), .val (.int (7 : Int32)), .val (.ref b3)] [(.int (103 : Int32))])
    have bk64 : ∀ t, Steps p.tables e below (T63.setTop (mkF m 71 #[.val (.int p1), .val (.int (7 : Int32)), .val (.ref b3)] [(.int ((7 : Int32) - (1 : Int32))), (.ref b3), (.int (103 : Int32))])) t → Steps p.tables e below (T63.setTop (mkF m 67 #[.val (.int p1), .val (.int (7 : Int32)), .val (.ref b3)] [(.int (103 : Int32))])) t := fun t k => by
      refine XS.aloadN X63.here hx rfl (hb hby at_67) rfl rfl ?_
      show Steps p.tables e below (T63.setTop (mkF m 68 #[.val (.int p1), .val (.int (7 : Int32)), .val (.ref b3)] [(.ref b3), (.int (103 : Int32))])) t
      refine XS.iloadN X63.here hx rfl (hb hby at_68) rfl ?_
      show Steps p.tables e below (T63.setTop (mkF m 69 #[.val (.int p1), .val (.int (7 : Int32)), .val (.ref b3)] [(.int (7 : Int32)), (.ref b3), (.int (103 : Int32))])) t
      refine XS.iconst X63.here hx rfl (hb hby at_69) ?_
      show Steps p.tables e below (T63.setTop (mkF m 70 #[.val (.int p1), .val (.int (7 : Int32)), .val (.ref b3)] [(.int (1 : Int32)), (.int (7 : Int32)), (.ref b3), (.int (103 : Int32))])) t
      refine XS.isub X63.here hx rfl (hb hby at_70) rfl ?_
      exact k
    refine WP.st bk64 ?_
    clear bk64
    rw [show ((7 : Int32) - (1 : Int32)) = (6 : Int32) from by decide]
    show WP p.tables e below _ T63 (mkF m 71 #[.val (.int p1), .val (.int (7 : Int32)), .val (.ref b3)] [(.int (6 : Int32)), (.ref b3), (.int (103 : Int32))])
    obtain ⟨cl65, Ar65, hin65, hat65, -⟩ := V_b3.rd (j := (6 : Int32)) ⟨by decide, by decide⟩
    replace hat65 : cl65.slots[((6 : Int32)).toNatClampNeg]? = some (.int (103 : Int32)) := hat65
    have bk66 : ∀ t, Steps p.tables e below (T63.setTop (mkF m 80 #[.val (.int p1), .val (.int (7 : Int32)), .val (.ref b3)] [(.int (1 : Int32))])) t → Steps p.tables e below (T63.setTop (mkF m 71 #[.val (.int p1), .val (.int (7 : Int32)), .val (.ref b3)] [(.int (6 : Int32)), (.ref b3), (.int (103 : Int32))])) t := fun t k => by
      refine X63.caload hx (j := (6 : Int32)) (v := (.int (103 : Int32))) (by rw [Kq63]; exact Ar65.1) (State.isArrayOf_alike hZ.alike Ar65.2.1) Ar65.2.2 hin65 hat65 (g := (mkF m 71 #[.val (.int p1), .val (.int (7 : Int32)), .val (.ref b3)] [(.int (6 : Int32)), (.ref b3), (.int (103 : Int32))])) rfl rfl (hb hby at_71) _ ?_
      show Steps p.tables e below (T63.setTop (mkF m 72 #[.val (.int p1), .val (.int (7 : Int32)), .val (.ref b3)] [(.int (103 : Int32)), (.int (103 : Int32))])) t
      refine XS.icmpNo X63.here hx rfl (hb hby at_72) rfl (teq (by decide : (103 : Int32) = (103 : Int32))).2 ?_
      show Steps p.tables e below (T63.setTop (mkF m 75 #[.val (.int p1), .val (.int (7 : Int32)), .val (.ref b3)] [])) t
      refine XS.iconst X63.here hx rfl (hb hby at_75) ?_
      show Steps p.tables e below (T63.setTop (mkF m 76 #[.val (.int p1), .val (.int (7 : Int32)), .val (.ref b3)] [(.int (1 : Int32))])) t
      refine XS.goto X63.here hx rfl (pc0 := 76) (pc' := 80) rfl (hb hby at_76) (by decide) (by decide) ?_
      exact k
    refine WP.st bk66 ?_
    clear bk66
    subst hG
    obtain ⟨fs, hr, hrun, hended, hW, hsame⟩ := X63.leave (v := some (.int (1 : Int32))) (fun h => by rw [Bd.returns] at h; cases h)
    refine WP.fin ⟨_, _, ?_, hrun, hended, _, _, rfl, ?_, ⟨_, rfl⟩, hW, hsame.mono (by decide) (by decide)⟩
    · exact retN X63 hx (t := .boolean) Bd.returns (by simp) (hb hby at_80) hr
    · show Q0 Z p1 h0 n0 _ T63.heap _
      rw [Kq63]
      exact ⟨rfl, NF⟩
  · skip
    show WP p.tables e below _ T30 (mkF m 63 #[.val (.int p1), .val (.int (8 : Int32)), .val (.ref b3)] [])
    have bk67 : ∀ t, Steps p.tables e below (T30.setTop (mkF m 64 #[.val (.int p1), .val (.int (8 : Int32)), .val (.ref b3)] [(.int (8 : Int32))])) t → Steps p.tables e below (T30.setTop (mkF m 63 #[.val (.int p1), .val (.int (8 : Int32)), .val (.ref b3)] [])) t := fun t k => by
      refine XS.iloadN X30.here hx rfl (hb hby at_63) rfl ?_
      exact k
    refine WP.st bk67 ?_
    clear bk67
    obtain ⟨_, _, ⟨T68, L68, k68, n68⟩, -, X68, ⟨Lc68, hQ68, l68, y68, z68⟩, st68⟩ := Jvm.LawKit.callS X30 hx (y := (⟨"com/example/banmen/banmen/position/Position", "rankLetter", "(I)C"⟩ : MethodName)) hown (mvT hZ (hw _ (List.mem_of_getElem? (i := 2) rfl))) (mvT hZ (hw _ (List.mem_of_getElem? (i := 3) rfl))) (mvT hZ (hw _ (List.mem_of_getElem? (i := 4) rfl))) (mvT hZ (hw _ (List.mem_of_getElem? (i := 5) rfl))) (by decide) (backOf (W := 0) (rm1 l Z a0 hw [] (8 : Int32) h30 n0 Z0 (by decide : ¬ ((8 : Int32) < (1 : Int32))) (by decide : ¬ ((9 : Int32) < (8 : Int32)))) hZ (hw _ (List.mem_of_getElem? (i := 5) rfl)) (hw _ (List.mem_of_getElem? (i := 4) rfl)) (by decide) (by decide)) (g := (mkF m 64 #[.val (.int p1), .val (.int (8 : Int32)), .val (.ref b3)] [(.int (8 : Int32))])) rfl (by rw [hml]; rfl) (argsL := [(.int (8 : Int32))]) (rest := []) (lenOf pd_0 rfl) rfl (by show 2 * 0 + _ ≤ _; exact Nat.le_of_eq rfl) (hb hby at_64) (fun _ _ => ⟨rfl, e30, (by decide : 1 + 0 ≤ _), (by decide : 9 + 0 ≤ _)⟩)
    dsimp only [Pt.U, Pt.locs, Pt.cells, Pt.slots] at X68 l68 y68 z68 st68 hQ68
    subst l68 y68 z68
    obtain ⟨rfl, Nq68, Kq68⟩ := hQ68
    replace NF := Fr.app NF Nq68
    clear Nq68
    refine WP.st st68 ?_
    clear st68
    replace Kq68 := Kq68.trans (rfl : h30 = h30)
    show WP p.tables e below _ T68 (mkF m 67 #[.val (.int p1), .val (.int (8 : Int32)), .val (.ref b3)] [(.int (nar .char (((((97 : Int32) + (8 : Int32)) - (1 : Int32)).toUInt32.toUInt16.toUInt32.toInt32))))])
    rw [show (nar .char (((((97 : Int32) + (8 : Int32)) - (1 : Int32)).toUInt32.toUInt16.toUInt32.toInt32))) = (104 : Int32) from by decide]
    show WP p.tables e below _ T68 (mkF m 67 #[.val (.int p1), .val (.int (8 : Int32)), .val (.ref b3)] [(.int (104 : Int32))])
    have bk69 : ∀ t, Steps p.tables e below (T68.setTop (mkF m 71 #[.val (.int p1), .val (.int (8 : Int32)), .val (.ref b3)] [(.int ((8 : Int32) - (1 : Int32))), (.ref b3), (.int (104 : Int32))])) t → Steps p.tables e below (T68.setTop (mkF m 67 #[.val (.int p1), .val (.int (8 : Int32)), .val (.ref b3)] [(.int (104 : Int32))])) t := fun t k => by
      refine XS.aloadN X68.here hx rfl (hb hby at_67) rfl rfl ?_
      show Steps p.tables e below (T68.setTop (mkF m 68 #[.val (.int p1), .val (.int (8 : Int32)), .val (.ref b3)] [(.ref b3), (.int (104 : Int32))])) t
      refine XS.iloadN X68.here hx rfl (hb hby at_68) rfl ?_
      show Steps p.tables e below (T68.setTop (mkF m 69 #[.val (.int p1), .val (.int (8 : Int32)), .val (.ref b3)] [(.int (8 : Int32)), (.ref b3), (.int (104 : Int32))])) t
      refine XS.iconst X68.here hx rfl (hb hby at_69) ?_
      show Steps p.tables e below (T68.setTop (mkF m 70 #[.val (.int p1), .val (.int (8 : Int32)), .val (.ref b3)] [(.int (1 : Int32)), (.int (8 : Int32)), (.ref b3), (.int (104 : Int32))])) t
      refine XS.isub X68.here hx rfl (hb hby at_70) rfl ?_
      exact k
    refine WP.st bk69 ?_
    clear bk69
    rw [show ((8 : Int32) - (1 : Int32)) = (7 : Int32) from by decide]
    show WP p.tables e below _ T68 (mkF m 71 #[.val (.int p1), .val (.int (8 : Int32)), .val (.ref b3)] [(.int (7 : Int32)), (.ref b3), (.int (104 : Int32))])
    obtain ⟨cl70, Ar70, hin70, hat70, -⟩ := V_b3.rd (j := (7 : Int32)) ⟨by decide, by decide⟩
    replace hat70 : cl70.slots[((7 : Int32)).toNatClampNeg]? = some (.int (104 : Int32)) := hat70
    have bk71 : ∀ t, Steps p.tables e below (T68.setTop (mkF m 80 #[.val (.int p1), .val (.int (8 : Int32)), .val (.ref b3)] [(.int (1 : Int32))])) t → Steps p.tables e below (T68.setTop (mkF m 71 #[.val (.int p1), .val (.int (8 : Int32)), .val (.ref b3)] [(.int (7 : Int32)), (.ref b3), (.int (104 : Int32))])) t := fun t k => by
      refine X68.caload hx (j := (7 : Int32)) (v := (.int (104 : Int32))) (by rw [Kq68]; exact Ar70.1) (State.isArrayOf_alike hZ.alike Ar70.2.1) Ar70.2.2 hin70 hat70 (g := (mkF m 71 #[.val (.int p1), .val (.int (8 : Int32)), .val (.ref b3)] [(.int (7 : Int32)), (.ref b3), (.int (104 : Int32))])) rfl rfl (hb hby at_71) _ ?_
      show Steps p.tables e below (T68.setTop (mkF m 72 #[.val (.int p1), .val (.int (8 : Int32)), .val (.ref b3)] [(.int (104 : Int32)), (.int (104 : Int32))])) t
      refine XS.icmpNo X68.here hx rfl (hb hby at_72) rfl (teq (by decide : (104 : Int32) = (104 : Int32))).2 ?_
      show Steps p.tables e below (T68.setTop (mkF m 75 #[.val (.int p1), .val (.int (8 : Int32)), .val (.ref b3)] [])) t
      refine XS.iconst X68.here hx rfl (hb hby at_75) ?_
      show Steps p.tables e below (T68.setTop (mkF m 76 #[.val (.int p1), .val (.int (8 : Int32)), .val (.ref b3)] [(.int (1 : Int32))])) t
      refine XS.goto X68.here hx rfl (pc0 := 76) (pc' := 80) rfl (hb hby at_76) (by decide) (by decide) ?_
      exact k
    refine WP.st bk71 ?_
    clear bk71
    subst hG
    obtain ⟨fs, hr, hrun, hended, hW, hsame⟩ := X68.leave (v := some (.int (1 : Int32))) (fun h => by rw [Bd.returns] at h; cases h)
    refine WP.fin ⟨_, _, ?_, hrun, hended, _, _, rfl, ?_, ⟨_, rfl⟩, hW, hsame.mono (by decide) (by decide)⟩
    · exact retN X68 hx (t := .boolean) Bd.returns (by simp) (hb hby at_80) hr
    · show Q0 Z p1 h0 n0 _ T68.heap _
      rw [Kq68]
      exact ⟨rfl, NF⟩
  · skip
    show WP p.tables e below _ T30 (mkF m 63 #[.val (.int p1), .val (.int (9 : Int32)), .val (.ref b3)] [])
    have bk72 : ∀ t, Steps p.tables e below (T30.setTop (mkF m 64 #[.val (.int p1), .val (.int (9 : Int32)), .val (.ref b3)] [(.int (9 : Int32))])) t → Steps p.tables e below (T30.setTop (mkF m 63 #[.val (.int p1), .val (.int (9 : Int32)), .val (.ref b3)] [])) t := fun t k => by
      refine XS.iloadN X30.here hx rfl (hb hby at_63) rfl ?_
      exact k
    refine WP.st bk72 ?_
    clear bk72
    obtain ⟨_, _, ⟨T73, L73, k73, n73⟩, -, X73, ⟨Lc73, hQ73, l73, y73, z73⟩, st73⟩ := Jvm.LawKit.callS X30 hx (y := (⟨"com/example/banmen/banmen/position/Position", "rankLetter", "(I)C"⟩ : MethodName)) hown (mvT hZ (hw _ (List.mem_of_getElem? (i := 2) rfl))) (mvT hZ (hw _ (List.mem_of_getElem? (i := 3) rfl))) (mvT hZ (hw _ (List.mem_of_getElem? (i := 4) rfl))) (mvT hZ (hw _ (List.mem_of_getElem? (i := 5) rfl))) (by decide) (backOf (W := 0) (rm1 l Z a0 hw [] (9 : Int32) h30 n0 Z0 (by decide : ¬ ((9 : Int32) < (1 : Int32))) (by decide : ¬ ((9 : Int32) < (9 : Int32)))) hZ (hw _ (List.mem_of_getElem? (i := 5) rfl)) (hw _ (List.mem_of_getElem? (i := 4) rfl)) (by decide) (by decide)) (g := (mkF m 64 #[.val (.int p1), .val (.int (9 : Int32)), .val (.ref b3)] [(.int (9 : Int32))])) rfl (by rw [hml]; rfl) (argsL := [(.int (9 : Int32))]) (rest := []) (lenOf pd_0 rfl) rfl (by show 2 * 0 + _ ≤ _; exact Nat.le_of_eq rfl) (hb hby at_64) (fun _ _ => ⟨rfl, e30, (by decide : 1 + 0 ≤ _), (by decide : 9 + 0 ≤ _)⟩)
    dsimp only [Pt.U, Pt.locs, Pt.cells, Pt.slots] at X73 l73 y73 z73 st73 hQ73
    subst l73 y73 z73
    obtain ⟨rfl, Nq73, Kq73⟩ := hQ73
    replace NF := Fr.app NF Nq73
    clear Nq73
    refine WP.st st73 ?_
    clear st73
    replace Kq73 := Kq73.trans (rfl : h30 = h30)
    show WP p.tables e below _ T73 (mkF m 67 #[.val (.int p1), .val (.int (9 : Int32)), .val (.ref b3)] [(.int (nar .char (((((97 : Int32) + (9 : Int32)) - (1 : Int32)).toUInt32.toUInt16.toUInt32.toInt32))))])
    rw [show (nar .char (((((97 : Int32) + (9 : Int32)) - (1 : Int32)).toUInt32.toUInt16.toUInt32.toInt32))) = (105 : Int32) from by decide]
    show WP p.tables e below _ T73 (mkF m 67 #[.val (.int p1), .val (.int (9 : Int32)), .val (.ref b3)] [(.int (105 : Int32))])
    have bk74 : ∀ t, Steps p.tables e below (T73.setTop (mkF m 71 #[.val (.int p1), .val (.int (9 : Int32)), .val (.ref b3)] [(.int ((9 : Int32) - (1 : Int32))), (.ref b3), (.int (105 : Int32))])) t → Steps p.tables e below (T73.setTop (mkF m 67 #[.val (.int p1), .val (.int (9 : Int32)), .val (.ref b3)] [(.int (105 : Int32))])) t := fun t k => by
      refine XS.aloadN X73.here hx rfl (hb hby at_67) rfl rfl ?_
      show Steps p.tables e below (T73.setTop (mkF m 68 #[.val (.int p1), .val (.int (9 : Int32)), .val (.ref b3)] [(.ref b3), (.int (105 : Int32))])) t
      refine XS.iloadN X73.here hx rfl (hb hby at_68) rfl ?_
      show Steps p.tables e below (T73.setTop (mkF m 69 #[.val (.int p1), .val (.int (9 : Int32)), .val (.ref b3)] [(.int (9 : Int32)), (.ref b3), (.int (105 : Int32))])) t
      refine XS.iconst X73.here hx rfl (hb hby at_69) ?_
      show Steps p.tables e below (T73.setTop (mkF m 70 #[.val (.int p1), .val (.int (9 : Int32)), .val (.ref b3)] [(.int (1 : Int32)), (.int (9 : Int32)), (.ref b3), (.int (105 : Int32))])) t
      refine XS.isub X73.here hx rfl (hb hby at_70) rfl ?_
      exact k
    refine WP.st bk74 ?_
    clear bk74
    rw [show ((9 : Int32) - (1 : Int32)) = (8 : Int32) from by decide]
    show WP p.tables e below _ T73 (mkF m 71 #[.val (.int p1), .val (.int (9 : Int32)), .val (.ref b3)] [(.int (8 : Int32)), (.ref b3), (.int (105 : Int32))])
    obtain ⟨cl75, Ar75, hin75, hat75, -⟩ := V_b3.rd (j := (8 : Int32)) ⟨by decide, by decide⟩
    replace hat75 : cl75.slots[((8 : Int32)).toNatClampNeg]? = some (.int (105 : Int32)) := hat75
    have bk76 : ∀ t, Steps p.tables e below (T73.setTop (mkF m 80 #[.val (.int p1), .val (.int (9 : Int32)), .val (.ref b3)] [(.int (1 : Int32))])) t → Steps p.tables e below (T73.setTop (mkF m 71 #[.val (.int p1), .val (.int (9 : Int32)), .val (.ref b3)] [(.int (8 : Int32)), (.ref b3), (.int (105 : Int32))])) t := fun t k => by
      refine X73.caload hx (j := (8 : Int32)) (v := (.int (105 : Int32))) (by rw [Kq73]; exact Ar75.1) (State.isArrayOf_alike hZ.alike Ar75.2.1) Ar75.2.2 hin75 hat75 (g := (mkF m 71 #[.val (.int p1), .val (.int (9 : Int32)), .val (.ref b3)] [(.int (8 : Int32)), (.ref b3), (.int (105 : Int32))])) rfl rfl (hb hby at_71) _ ?_
      show Steps p.tables e below (T73.setTop (mkF m 72 #[.val (.int p1), .val (.int (9 : Int32)), .val (.ref b3)] [(.int (105 : Int32)), (.int (105 : Int32))])) t
      refine XS.icmpNo X73.here hx rfl (hb hby at_72) rfl (teq (by decide : (105 : Int32) = (105 : Int32))).2 ?_
      show Steps p.tables e below (T73.setTop (mkF m 75 #[.val (.int p1), .val (.int (9 : Int32)), .val (.ref b3)] [])) t
      refine XS.iconst X73.here hx rfl (hb hby at_75) ?_
      show Steps p.tables e below (T73.setTop (mkF m 76 #[.val (.int p1), .val (.int (9 : Int32)), .val (.ref b3)] [(.int (1 : Int32))])) t
      refine XS.goto X73.here hx rfl (pc0 := 76) (pc' := 80) rfl (hb hby at_76) (by decide) (by decide) ?_
      exact k
    refine WP.st bk76 ?_
    clear bk76
    subst hG
    obtain ⟨fs, hr, hrun, hended, hW, hsame⟩ := X73.leave (v := some (.int (1 : Int32))) (fun h => by rw [Bd.returns] at h; cases h)
    refine WP.fin ⟨_, _, ?_, hrun, hended, _, _, rfl, ?_, ⟨_, rfl⟩, hW, hsame.mono (by decide) (by decide)⟩
    · exact retN X73 hx (t := .boolean) Bd.returns (by simp) (hb hby at_80) hr
    · show Q0 Z p1 h0 n0 _ T73.heap _
      rw [Kq73]
      exact ⟨rfl, NF⟩
set_option maxRecDepth 65536 in
set_option maxHeartbeats 40000000 in
theorem comes_1 {Post : Tables → Env → Array Value → State → Outcome → State → Prop} (hpost : ∀ tb e args s v u, (limb_1_1.after args s (.returned v) u = true ∧ limb_1_2.after args s (.returned v) u = true ∧ True) → FrameEnd s (.returned v) u (Jvm.fieldLocs frame_1_writes args s ++ Jvm.arrayLocs frame_1_arrays args s ++ Jvm.staticLocs frame_1_statics s) 16 128 → Post tb e args s (.returned v) u) :
    ArmFor flags0 classFile x code maxLocals ret World_1 tables_1 room_1 Calls_1 rest_1 Pre_1 Post := by
  intro l hfl _ _ p e ha hc hk s m args below hf hA hF happ hP
  obtain ⟨hcalls, hrest, hpre⟩ := hP
  obtain ⟨-, -, -, hnamed, -, -, -, hat⟩ := (Spec.applies_iff hf).mp happ
  obtain ⟨hg, hn⟩ := and_e (Cond.before_iff.mp (show (Jvm.Cond.and given_1 narrow_1).before args s = true from hpre))
  obtain ⟨gg1, gg2⟩ := and_e hg
  obtain ⟨w0, rfl⟩ : ∃ w0 : Value, args = #[w0] := by
    have hs : args.size = 1 := by simpa [Cond.value, given_1] using gg1
    obtain ⟨L⟩ := args
    match L, hs with
    | [w0], _ => exact ⟨w0, rfl⟩
  have hw := fun d (hd : d ∈ tables_1) => atoms_spec (ws := Jvm.Cond.code x code maxLocals ret :: tables_1) hat d (List.mem_cons_of_mem _ hd)
  have hfit : Fit s := fun {y c} hc i hi => by
    obtain ⟨ha, rfl⟩ := Array.getElem?_eq_some_iff.mp hc
    have q := List.all_eq_true.mp ((Array.all_eq_true_iff_forall_mem.mp hF) _ (Array.getElem_mem ha)) i (List.mem_range.mpr hi)
    simpa [Array.getElem?_eq_getElem hi] using q
  obtain ⟨i0, ei0⟩ := is_v gg2
  obtain rfl : w0 = (.int i0) := Option.some.inj ei0
  obtain ⟨n, o, h1, h2, h3, _, L, rfl, ⟨rfl, N⟩, hq⟩ := rm0 l s _ hw tables_1 i0 s.heap s.heap.size (Nat.le_refl _)  p e ha hc hk s m _ below hf ((Spec.applies_iff_loose hf).mp happ).1 ⟨rfl, State.Warmed39.refl s, rfl⟩ trivial
  refine ⟨n, _, h1, h2, h3, hpost _ _ _ _ _ _ ⟨Cond.after_iff.mpr rfl, Cond.after_iff.mpr (eq_i res_at (Term.int_eval (1)) rfl), trivial⟩ ⟨hq.1, hq.2.1, (hq.2.2.sift fun y hy => Or.inr (N y hy)).mono (by decide) (by decide)⟩⟩
theorem main_1_1 : Claimed_1_1 := comes_1 fun _ _ _ _ _ _ h hF => ⟨h.1, hF⟩
theorem main_1_2 : Claimed_1_2 := comes_1 fun _ _ _ _ _ _ h hF => ⟨h.2.1, hF⟩
end Jvm.Pilot.@@N@@
namespace Jvm.Pilot.@@N@@
open Jvm Jvm.ClassFile Sem Op Lib Jvm.Free Jvm.Stand Jvm.Pilot.@@N@@.Jvm.D
/-! MADE BY PROGRAM (witnessworld.py) out of the Statement's table words and the real class files: 11 classes; the members and pool entries that the words name. The judged class is class 1, her method 1. -/
namespace start1
open Jvm.ClassFile
def u (s : String) : CpInfo := .utf8 (stringToUtf16 s)
/-- a pool by its gaps: so many unusable entries, then the entry; so many at the end -/
def gap : Nat → List CpInfo → List CpInfo
  | 0, r => r
  | n + 1, r => .unusable :: gap n r
def poolList (es : List (Nat × CpInfo)) (last : Nat) : List CpInfo := es.foldr (fun e r => gap e.1 (e.2 :: r)) (gap last [])
def pool (es : List (Nat × CpInfo)) (last : Nat) : Array CpInfo := ⟨poolList es last⟩
def fileOf (pool : Array CpInfo) (this : Nat) (attrs : Array Attribute := #[]) (ms : Array MethodInfo := #[]) (fl : Nat := 33) (sup : Nat := 0) (ifs : Array Nat := #[]) (fds : Array FieldInfo := #[]) : ClassFile where
  minorVersion := 0
  majorVersion := 65
  constantPool := pool
  accessFlags := fl
  thisClass := this
  superClass := sup
  interfaces := ifs
  fields := fds
  methods := ms
  attributes := attrs
def plain (name : String) (sup : Option ClassId) : Class where
  name := name
  kind := .ordinary
  loader := none
  accessFlags := 33
  super := sup
  interfaces := #[]
  cf := none
  fields := #[]
  methods := #[]
  instanceTypes := #[]
  staticTypes := #[]
  resolved := #[]
  callSites := []
  init := .initialized
  statics := none
  mirror := none

def pool0 : Array CpInfo := pool [(5, u "<init>"), (0, u "()V"), (1, .class_ 10), (1, u "java/lang/Object")] 113

def k0m0 : Method := { name := "<init>", desc := "()V", sig := { parameters := [], returnType := none }, accessFlags := 1, code := none }
/-- java/lang/Object -/
def k0 : Class := { plain "java/lang/Object" none with
  accessFlags := 33
  interfaces := #[]
  cf := some (fileOf pool0 8 #[] #[{ accessFlags := 1, nameIndex := 5, descriptorIndex := 6, attributes := #[] }] 33 0 #[] #[])
  fields := #[]
  methods := #[k0m0]
  instanceTypes := #[]
  staticTypes := #[]
  resolved := Array.replicate 124 none
  statics := none }

def pool1 : Array CpInfo := pool [(2, .class_ 4), (1, u "java/lang/Object"), (0, u "<init>"), (0, u "()V"), (0, .integer 2147483647), (0, .methodref 9 10), (0, .class_ 11), (0, .nameAndType 12 13), (0, u "com/example/banmen/banmen/position/Position"), (0, u "rankLetter"), (0, u "(I)C"), (0, .class_ 15), (0, u "com/example/banmen/banmen/position/PositionRankLetterPinLaw"), (2, u "law"), (0, u "(I)Z")] 5

def k1m0 : Method := { name := "<init>", desc := "()V", sig := { parameters := [], returnType := none }, accessFlags := 1, code := none }
def k1c1 : Code := { maxStack := 4, maxLocals := 3, code := code, exceptionTable := #[], attributes := #[] }
def k1m1 : Method := { name := "law", desc := "(I)Z", sig := { parameters := [.int], returnType := some .boolean }, accessFlags := 9, code := some k1c1 }
/-- com/example/banmen/banmen/position/PositionRankLetterPinLaw -/
def k1 : Class := { plain "com/example/banmen/banmen/position/PositionRankLetterPinLaw" (some 0) with
  accessFlags := 49
  interfaces := #[]
  cf := some (fileOf pool1 14 #[] #[{ accessFlags := 1, nameIndex := 5, descriptorIndex := 6, attributes := #[] }, { accessFlags := 9, nameIndex := 18, descriptorIndex := 19, attributes := #[] }] 49 2 #[] #[])
  fields := #[]
  methods := #[k1m0, k1m1]
  instanceTypes := #[]
  staticTypes := #[]
  resolved := Array.replicate 25 none
  statics := none }

def pool2 : Array CpInfo := pool [(2, .class_ 4), (1, u "java/lang/Object"), (3, .class_ 10), (1, u "com/example/banmen/banmen/position/Position$Builder"), (0, u "squares"), (0, u "[B"), (6, .class_ 20), (0, u "com/example/banmen/banmen/position/Position"), (2, u "hands"), (0, u "[I"), (5, u "sideToMove"), (0, u "Lcom/example/banmen/banmen/position/Color;"), (3, u "moveNumber"), (0, u "Ljava/lang/String;"), (19, u "TYPES"), (0, u "I"), (24, u "rankLetter"), (0, u "(I)C"), (10, u "SIZE"), (2, u "MAX_IN_HAND")] 39

def k2c0 : Code := { maxStack := 3, maxLocals := 1, code := prog_27_method_7_code, exceptionTable := #[], attributes := #[] }
def k2m0 : Method := { name := "rankLetter", desc := "(I)C", sig := { parameters := [.int], returnType := some .char }, accessFlags := 9, code := some k2c0 }
/-- com/example/banmen/banmen/position/Position -/
def k2 : Class := { plain "com/example/banmen/banmen/position/Position" (some 0) with
  accessFlags := 49
  interfaces := #[]
  cf := some (fileOf pool2 19 #[.nestMembers #[8]] #[{ accessFlags := 9, nameIndex := 82, descriptorIndex := 83, attributes := #[] }] 49 2 #[] #[{ accessFlags := 25, nameIndex := 94, descriptorIndex := 57, attributes := #[] }, { accessFlags := 25, nameIndex := 97, descriptorIndex := 57, attributes := #[] }, { accessFlags := 26, nameIndex := 56, descriptorIndex := 57, attributes := #[] }, { accessFlags := 18, nameIndex := 11, descriptorIndex := 12, attributes := #[] }, { accessFlags := 18, nameIndex := 23, descriptorIndex := 24, attributes := #[] }, { accessFlags := 18, nameIndex := 30, descriptorIndex := 31, attributes := #[] }, { accessFlags := 18, nameIndex := 35, descriptorIndex := 36, attributes := #[] }])
  fields := #[{ name := "SIZE", type := .int, accessFlags := 25, slot := 0, constantValue := 0 }, { name := "MAX_IN_HAND", type := .int, accessFlags := 25, slot := 1, constantValue := 0 }, { name := "TYPES", type := .int, accessFlags := 26, slot := 2, constantValue := 0 }, { name := "squares", type := (.array .byte), accessFlags := 18, slot := 0, constantValue := 0 }, { name := "hands", type := (.array .int), accessFlags := 18, slot := 1, constantValue := 0 }, { name := "sideToMove", type := (.object "com/example/banmen/banmen/position/Color"), accessFlags := 18, slot := 2, constantValue := 0 }, { name := "moveNumber", type := (.object "java/lang/String"), accessFlags := 18, slot := 3, constantValue := 0 }]
  methods := #[k2m0]
  instanceTypes := #[(.array .byte), (.array .int), (.object "com/example/banmen/banmen/position/Color"), (.object "java/lang/String")]
  staticTypes := #[.int, .int, .int]
  resolved := Array.replicate 137 none
  statics := none }

def pool3 : Array CpInfo := pool [(1, u "java/lang/Cloneable"), (0, .class_ 1), (0, u "java/lang/Object"), (0, .class_ 3)] 3

/-- java/lang/Cloneable -/
def k3 : Class := { plain "java/lang/Cloneable" (some 0) with
  accessFlags := 1537
  interfaces := #[]
  cf := some (fileOf pool3 2 #[] #[] 1537 4 #[] #[])
  fields := #[]
  methods := #[]
  instanceTypes := #[]
  staticTypes := #[]
  resolved := Array.replicate 8 none
  statics := none }

def pool4 : Array CpInfo := pool [(1, u "java/io/Serializable"), (0, .class_ 1), (0, u "java/lang/Object"), (0, .class_ 3)] 3

/-- java/io/Serializable -/
def k4 : Class := { plain "java/io/Serializable" (some 0) with
  accessFlags := 1537
  interfaces := #[]
  cf := some (fileOf pool4 2 #[] #[] 1537 4 #[] #[])
  fields := #[]
  methods := #[]
  instanceTypes := #[]
  staticTypes := #[]
  resolved := Array.replicate 8 none
  statics := none }

/-- the primitive byte -/
def k5 : Class := { plain "byte" none with kind := .primitive 'B', accessFlags := 0x411 }
/-- [B -/
def k6 : Class := { plain "[B" (some 0) with kind := .array 5 .byte, interfaces := #[3, 4], accessFlags := 1041 }

/-- the primitive char -/
def k7 : Class := { plain "char" none with kind := .primitive 'C', accessFlags := 0x411 }
/-- [C -/
def k8 : Class := { plain "[C" (some 0) with kind := .array 7 .char, interfaces := #[3, 4], accessFlags := 1041 }

/-- the primitive int -/
def k9 : Class := { plain "int" none with kind := .primitive 'I', accessFlags := 0x411 }
/-- [I -/
def k10 : Class := { plain "[I" (some 0) with kind := .array 9 .int, interfaces := #[3, 4], accessFlags := 1041 }

def heap : Heap := #[]
def classes : Array Class := #[k0, k1, k2, k3, k4, k5, k6, k7, k8, k9, k10]
def interned : List (Array UInt16 × Addr) := []
def slotsUsed : Nat := 0
def theMethod : MethodId := ⟨1, 1⟩
def args0 : Array Value := #[.int 5]
def aboutOver (below : List Frame) : State where
  vm := { classes := classes, interned := interned.toArray }
  heap := heap
  slotsUsed := slotsUsed
  threads := #[{ frames := .invoking theMethod args0 :: below }]
def below0 : List Frame := [.native { method := ⟨0, 0⟩, args := #[] }]
def about1 : State := aboutOver below0
def p0 : Program := .bare "" "" ""
def e0 : Env := launch0.env 0 0 0
theorem w_frames : about1.frames = Frame.invoking theMethod args0 :: below0 := rfl
set_option maxRecDepth 65536 in
theorem w_args : argsFit about1.vm theMethod args0 = true := by decide +kernel
set_option maxRecDepth 65536 in
theorem w_heap : heapFits about1 = true := by decide +kernel
set_option maxRecDepth 65536 in
theorem w_runnable : about1.curStatus? = some .runnable := by decide +kernel
set_option maxRecDepth 65536 in
theorem w_alone : about1.alone = true := by decide +kernel
set_option maxRecDepth 65536 in
theorem w_named : about1.methodNamed? x = some theMethod := by decide +kernel
set_option maxRecDepth 65536 in
theorem w_hears : about1.hears theMethod below0 = true := by decide +kernel
set_option maxRecDepth 65536 in
theorem w_ripe : about1.ripe theMethod args0 below0 = true := by decide +kernel
theorem w_running : about1.status = .running := rfl
set_option maxRecDepth 65536 in
theorem w_room : about1.hasRoom e0.platform room_1 = true :=
  launch0.hasRoom_least _ room_1 (by decide +kernel) (by decide +kernel) (by decide +kernel) (by decide +kernel) (by decide +kernel) (by decide +kernel)
theorem allAtoms_all (ts : List Jvm.Cond) (a : Array Jvm.Value) (st : Jvm.State) : (allAtoms ts).before a st = ts.all (fun c => c.before a st) := by
  induction ts with
  | nil => rfl
  | cons c t ih =>
    show (Jvm.Cond.and c (allAtoms t)).before a st = _
    rw [Jvm.Cond.before_and, ih, List.all_cons]
def words1 : List Jvm.Cond := Jvm.Cond.code x code maxLocals ret :: tables_1
/-- a 'code' word, met by the world's own term for the bytes: nothing is compared byte by byte -/
theorem code_word {y : MethodName} {bytes : ByteArray} {mx : Nat} {rt : Option FieldType} {a : Array Value} {s : State} {m : MethodId} {meth : Method} {c : Code} (h1 : s.methodNamed? y = some m) (h2 : s.vm.method? m = some meth) (h3 : meth.code = some c) (h4 : c.code = bytes)
    (h5 : (c.maxLocals == mx && c.exceptionTable.isEmpty && decide (c.maxStack ≤ mostOperands) && decide (meth.sig.returnType = rt) && !meth.locks && decide (parseMethodDescriptor y.desc = some meth.sig)) = true) : (Jvm.Cond.code y bytes mx rt).before a s = true := by
  simp only [Bool.and_eq_true, beq_iff_eq, Bool.not_eq_true', decide_eq_true_eq] at h5
  obtain ⟨⟨⟨⟨⟨g1, g2⟩, g3⟩, g4⟩, g5⟩, g6⟩ := h5
  simp [Cond.before, Cond.holds, Cond.value, h1, h2, h3, h4, g1, g2, g3, g4, g5, g6]
def isCode : Jvm.Cond → Bool
  | .code _ _ _ _ => true
  | _ => false
theorem all_split {L : List Jvm.Cond} {P : Jvm.Cond → Bool} (h1 : L.all (fun c => isCode c || P c) = true) (h2 : ∀ c ∈ L.filter isCode, P c = true) : L.all P = true := by
  refine List.all_eq_true.mpr fun c hc => ?_
  have h := List.all_eq_true.mp h1 c hc
  rcases Bool.eq_false_or_eq_true (isCode c) with hi | hi
  · exact h2 c (List.mem_filter.mpr ⟨hc, hi⟩)
  · simpa [hi] using h
set_option maxRecDepth 65536 in
theorem w_c0 : (Jvm.Cond.code x code maxLocals ret).before args0 about1 = true := code_word (m := ⟨1, 1⟩) (meth := k1m1) (c := k1c1) (by decide +kernel) rfl rfl rfl (by decide +kernel)
set_option maxRecDepth 65536 in
theorem w_c1 : (Jvm.Cond.code ({ cls := "com/example/banmen/banmen/position/Position", name := "rankLetter", desc := "(I)C" } : Jvm.MethodName) prog_27_method_7_code (1 : Nat) (Option.some Jvm.ClassFile.FieldType.char)).before args0 about1 = true := code_word (m := ⟨2, 0⟩) (meth := k2m0) (c := k2c0) (by decide +kernel) rfl rfl rfl (by decide +kernel)
def codes1 : List Jvm.Cond := [Jvm.Cond.code x code maxLocals ret, Jvm.Cond.code ({ cls := "com/example/banmen/banmen/position/Position", name := "rankLetter", desc := "(I)C" } : Jvm.MethodName) prog_27_method_7_code (1 : Nat) (Option.some Jvm.ClassFile.FieldType.char)]
set_option maxRecDepth 65536 in
theorem codes_eq : words1.filter isCode = codes1 := rfl
theorem w_codes : ∀ c ∈ words1.filter isCode, c.before args0 about1 = true := by
  rw [codes_eq]
  intro c hc
  simp only [codes1, List.mem_cons, List.not_mem_nil, or_false] at hc
  rcases hc with rfl | rfl
  · exact w_c0
  · exact w_c1
set_option maxRecDepth 65536 in
theorem w_t1 : words1.all (fun c => isCode c || c.before args0 about1) = true := by decide +kernel
theorem w_tables : (allAtoms (Jvm.Cond.code x code maxLocals ret :: tables_1)).before args0 about1 = true := by
  rw [allAtoms_all]
  show words1.all (fun c => c.before args0 about1) = true
  refine all_split ?_ w_codes
  rw [w_t1]
set_option maxRecDepth 65536 in
theorem w_case : (Jvm.Cond.and given_1 narrow_1).before args0 about1 = true := by decide +kernel
theorem w_applies : (headSpec (Jvm.Cond.code x code maxLocals ret :: tables_1) room_1).applies x e0.platform about1 = true :=
  (Spec.applies_iff w_frames).mpr ⟨w_running, w_runnable, w_alone, w_named, w_hears, w_ripe, w_room, w_tables⟩
theorem atStart : AtStart classFile x code maxLocals ret World_1 tables_1 room_1 Calls_1 rest_1 Pre_1 launch0 p0 e0 about1 theMethod args0 below0 :=
  ⟨lists_1, trivial, launch0.admits_env _ _ _, launch0.least_env, fairChoices_fair.cas, fairChoices_fair.clock, w_frames, w_args, w_heap, w_applies, trivial, trivial, w_case⟩
end start1
theorem witness_1 : WitnessClaimed_1 := ⟨start1.p0, start1.e0, start1.about1, start1.theMethod, start1.args0, start1.below0, start1.atStart⟩
end Jvm.Pilot.@@N@@
